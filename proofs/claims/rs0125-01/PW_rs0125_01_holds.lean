import PyProof.Rows.All
import Wide.All
import OpenK.AllK
import Wide.FinOn
import PySem.Challenge.RW_rs0125_01
set_option Elab.async false
set_option rowWalk.seconds 0
set_option compiler.extract_closed false
section
open PySem PySem.W PyProof.Rows
set_option Elab.async false
set_option maxRecDepth 100000
set_option maxHeartbeats 8000000
namespace Mine
section
local macro_rules | `(tactic| o_head $H) => `(tactic| (skip; assumption))
/-- lays the written part: Mine.kk.heap_1 -/
theorem kk (h : OpenRow.Holds (OpenLaw.row PySem.Challenge.rw_rs0125_01)) : OpenRow.Holds (OpenLaw.row PySem.Challenge.rw_rs0125_01) := by k_head
end
/-- the program's view: its top without the four names that are bound anew -/
noncomputable def vv : Program := by
  refine' (?g : ∀ (a0 a1 a2 a3 a4 a5 a6 a7 a8 a9 a10 a11 a12 a13 a14 a15 a16 a17 a18 a19 a20 a21 a22 a23 a24 a25 a26 a27 a28 a29 a30 a31 a32 a33 a34 a35 a36 a37 a38 a39 a40 a41 a42 a43 a44 a45 a46 a47 a48 a49 a50 a51 a52 a53 a54 a55 a56 a57 a58 a59 a60 a61 a62 a63 a64 a65 a66 a67 a68 a69 a70 a71 a72 a73 a74 a75 : Stmt), (RowW.prog (OpenRow.toRowW (OpenLaw.row PySem.Challenge.rw_rs0125_01))).main.body = [a0, a1, a2, a3, a4, a5, a6, a7, a8, a9, a10, a11, a12, a13, a14, a15, a16, a17, a18, a19, a20, a21, a22, a23, a24, a25, a26, a27, a28, a29, a30, a31, a32, a33, a34, a35, a36, a37, a38, a39, a40, a41, a42, a43, a44, a45, a46, a47, a48, a49, a50, a51, a52, a53, a54, a55, a56, a57, a58, a59, a60, a61, a62, a63, a64, a65, a66, a67, a68, a69, a70, a71, a72, a73, a74, a75] → Program) _ _ _ _ _ _ _ _ _ _ _ _ _ _ _ _ _ _ _ _ _ _ _ _ _ _ _ _ _ _ _ _ _ _ _ _ _ _ _ _ _ _ _ _ _ _ _ _ _ _ _ _ _ _ _ _ _ _ _ _ _ _ _ _ _ _ _ _ _ _ _ _ _ _ _ _ rfl
  exact fun a0 a1 a2 a3 a4 a5 a6 a7 a8 a9 a10 a11 a12 a13 a14 a15 a16 a17 a18 a19 a20 a21 a22 a23 a24 a25 a26 a27 a28 a29 a30 a31 a32 a33 a34 a35 a36 a37 a38 a39 a40 a41 a42 a43 a44 a45 a46 a47 a48 a49 a50 a51 a52 a53 a54 a55 a56 a57 a58 a59 a60 a61 a62 a63 a64 a65 a66 a67 a68 a69 a70 a71 a72 a73 a74 a75 _ => ({ (RowW.prog (OpenRow.toRowW (OpenLaw.row PySem.Challenge.rw_rs0125_01))) with main := { ((RowW.prog (OpenRow.toRowW (OpenLaw.row PySem.Challenge.rw_rs0125_01)))).main with body := [a1, a2, a3, a4, a5, a7, a9, a10, a11, a12, a13, a14, a15, a16, a17, a18, a19, a20, a21, a22, a23, a24, a25, a26, a27, a28, a29, a30, a31, a32, a33, a34, a35, a36, a37, a38, a39, a40, a41, a42, a43, a44, a45, a46, a47, a48, a49, a50, a51, a52, a53, a54, a55, a56, a57, a58, a59, a60, a61, a62, a64, a65, a66, a67, a68, a69, a70, a71, a72, a73, a74, a75] } } : Program)
/-- the written part's addresses -/
@[reducible] def kas : List Addr := [2, 3, 6, 15, 17, 18, 20, 21, 22, 24, 25, 27, 28, 29, 31, 32, 34, 35, 36, 39, 41, 42, 44, 45, 46, 48, 49, 51, 52, 53, 55, 56, 58, 59, 60, 63, 64, 65, 68, 69, 70, 72, 73, 75, 76, 77, 79, 80, 82, 83, 84, 86, 87, 89, 90, 91, 94, 95, 96, 98, 99, 101, 102, 103, 105, 106, 108, 109, 110, 113, 114, 115, 118, 119, 120, 123, 124, 125, 128, 129]
theorem kas_kk : ∀ P, kas = (kk.heap_1 P).map (·.1) := fun _ => by kernel_rfl
end Mine
end

section
open PySem PySem.W PyProof.Rows
set_option Elab.async false
namespace Mine
/- the quick twins of pw_rs0125_01, kk.heap_1 and vv are of no use here and large: their names are taken, so that a first try to lay them fails and the library goes on without -/
theorem blk.tw2192430817263036245 : True := trivial
theorem blk.tw14090284624843534012 : True := trivial
theorem blk.tw6281460646610833453 : True := trivial
def blkB (_ : Program) (_ : Params → Frag) : Bool := true
set_option Elab.async true in
theorem blk : blkB vv kk.heap_1 = true := by first | k_qdec | rfl
#print axioms blk
end Mine
end

section
open PySem PySem.W PySem.Calls PyProof.Rows
set_option Elab.async false
set_option maxRecDepth 100000
set_option maxHeartbeats 8000000
namespace Mine

theorem fill : PySem.Challenge.rw_rs0125_01 = PySem.Challenge.rw_rs0125_01 ∧ kk.heap_1 = kk.heap_1 := by k_fill; exact ⟨rfl, rfl⟩

theorem sub_cons {α : Type} {a : α} {B A : List α} (h : a ∈ A) (t : ∀ z ∈ B, z ∈ A) : ∀ z ∈ a :: B, z ∈ A := fun z hz => by
  cases hz with
  | head => exact h
  | tail _ q => exact t z q
theorem sub_app {α : Type} {B C A : List α} (h : ∀ z ∈ B, z ∈ A) (t : ∀ z ∈ C, z ∈ A) : ∀ z ∈ B ++ C, z ∈ A := fun z hz => (List.mem_append.mp hz).elim (h z) (t z)
theorem sub_nil {α : Type} {A : List α} : ∀ z ∈ ([] : List α), z ∈ A := fun _ h => nomatch h

/-- what stands behind a statement of a block, held as a variable: the walk's terms stay small -/
def HeldC (M : Model) (A : Around) (rest : List Stmt) (env : Env) (Q : Flow → Shared → Prop) (E : Value → Shared → Prop) (Qn : Flow → Shared → Prop) : Prop :=
  ∀ f s', (match f with | .next => wpAny M A (execs rest env) Q E s' | f => Q f s') → Qn f s'
section
variable {M : Model} {A : Around} {st : Stmt} {rest : List Stmt} {env : Env} {Q Qn : Flow → Shared → Prop} {E : Value → Shared → Prop} {s : Shared}
def HeldG (M : Model) (A : Around) (rest : List Stmt) (env : Env) (Q : Flow → Shared → Prop) (E : Value → Shared → Prop) (f : Flow) (s : Shared) : Prop :=
  match f with | .next => wpAny M A (execs rest env) Q E s | f => Q f s
theorem HeldG.nx (g : wpAny M A (execs rest env) Q E s) : HeldG M A rest env Q E .next s := g
theorem HeldG.rt {v : Value} (g : Q (.ret v) s) : HeldG M A rest env Q E (.ret v) s := g
theorem HeldG.bk (g : Q .brk s) : HeldG M A rest env Q E .brk s := g
theorem HeldG.ct (g : Q .cont s) : HeldG M A rest env Q E .cont s := g
theorem HeldC.use (h : HeldC M A rest env Q E Qn) {f : Flow} (g : HeldG M A rest env Q E f s) : Qn f s := h f s g
theorem execs_held (h : ∀ Qn, HeldC M A rest env Q E Qn → wpAny M A (exec st env) Qn E s) : wpAny M A (execs (st :: rest) env) Q E s :=
  wpAny_execs_cons (h _ fun f s' g => by cases f <;> exact g)
theorem execs_one (h : wpAny M A (exec st env) Q E s) : wpAny M A (execs [st] env) Q E s :=
  wpAny_execs_cons (wpAny_mono h (fun f s' g => by cases f <;> first | exact wpAny_execs_nil g | exact g) fun _ _ e => e)
end

/-- what a call of the def at f makes of these arguments at the heap h: all that stood stays, and Post of the answer -/
def Con (prog : Program) (w : World) (mean : ExcName → Option Value) (mg mb : Str → Option Value) (f : Addr) (args : List Value) (need : Nat) (h : Heap) (Post : Value → Heap → Prop) : Prop :=
  ∀ (dp un : Nat) (gd : Option (List Code)) (cn : Str) (cs : Scope) (a : Addr) (ccd : Value) (cl : List (Str × Addr)) (outer : List Env) (A₀ : Around) (base h₀ : Heap) (L : Addr) (m : Str → Option Value) (s : Shared)
    (Q E : Value → Shared → Prop), s.heap = h →
    Below A₀ base outer h₀ → Fr h₀ L s.heap m → (kk.heap_1 w.params).In h₀ → Top vv (looseW vv [Str.ofString "EXACT_TOKEN_TYPES"]) mean mg mb h₀ → cs.kind = .function → dp + need < recursionLimit → un + 8 * need < cLine →
    (∀ r h' tk', s.heap.StaysIn h' → Post r h' → Q r { s with heap := h', toks := tk' }) →
    wpAny (model prog w) (ktrTop dp un gd cn cs L a ccd cl outer) (call (.ref f) args) Q E s

section
variable {prog : Program} {w : World} {A A₀ : Around} {s : Shared} {K : Frag} {L : Addr} {h₀ base : Heap} {m mg mb : Str → Option Value} {p : Program} {loose : List Str} {mean : ExcName → Option Value}
theorem enter_def {env : Env} {outer : List Env} {R : Result → Shared → Prop} {name qual : Str} {params : Arguments} {body : List Stmt} {scope : Scope} {dV kV doc pm cdv ct oc : Value} {an od : Option Addr} {osl : Array (Option Value)} {f : Addr} {args : Args} {binds : List (Str × Value)}
    (B : Below A₀ base outer h₀) (F : Fr h₀ L s.heap m) (X₀ : K.In h₀) (T : Top p loose mean mg mb h₀) (hA : A.frames = some (env :: outer)) (hf : env.frame = some L) (hke : env.scope.kind = .function)
    (ho : K.lookup f = some ⟨oc, od, .func (fnOf name qual params body scope dV kV doc pm an cdv ct), osl⟩) (hcd : codeIn K cdv qual = true) (hroom : A.depth < recursionLimit)
    (hbind : BindsTo s (fnOf name qual params body scope dV kV doc pm an cdv ct) args binds) (hloc : ∀ y ∈ binds, scope.names.lookup y.1 = some .local)
    (h : ∀ L' h₁, L' = s.heap.objs.size → Fr s.heap L' h₁ (fun y => binds.reverse.lookup y) → News s.heap L' h₁ [] → Below A base (env :: outer) s.heap → K.In s.heap → Top p loose mean mg mb s.heap →
      wpAny (model prog w) (A.deeper (envOf qual scope L' f cdv)) (execs body (envOf qual scope L' f cdv))
        (fun fl s' => R (.ok (.ret (match fl with | .ret v => v | _ => .none))) s')
        (fun e s' => wpAny (model prog w) (A.deeper (envOf qual scope L' f cdv)) (leaving (envOf qual scope L' f cdv) e) (fun _ s'' => R (.error e) s'') (fun e' s'' => R (.error e') s'') s')
        { s with heap := h₁, toks := s.toks + binds.length })
    (hco : scope.isCoroutine = false) (hgen : scope.isGenerator = false) (hk : scope.kind = .function)
    (hcell : ∀ x ∈ scope.names, x.2 ≠ .cell) : codeAny (model prog w) A (.call (.ref f) args) R s := by
  obtain ⟨FG, BG, st, lv⟩ := groundX (R := R) (news := []) B F News.nil hA hf hke
  refine codeAny_call_def (fd := fnOf name qual params body scope dV kV doc pm an cdv ct) (body := body) (binds := binds) hroom ((X₀.keeps F.keep) _ _ ho) rfl (T.nolimit.keeps F.keep) (codeRec_of (X₀.keeps F.keep) hcd) rfl hbind hcell hloc (fun h₁ hns hk₁ => ?_) hco hgen hk
  exact h s.heap.objs.size h₁ rfl ⟨hns, hk₁, Nat.le_refl _⟩ News.nil BG (X₀.keeps F.keep) (T.keeps F.keep)
end
end Mine
end

open PySem PySem.W PySem.Calls PyProof.Rows
local macro_rules | `(tactic| walk_at "s1") => `(tactic| ((fail_if_success (with_reducible show wpAny _ _ (exec (Stmt.While _ _ _ _) _) _ _ _))))
local macro_rules | `(tactic| walk_at "s2") => `(tactic| ((fail_if_success (with_reducible show wpAny _ _ (exec (Stmt.For _ _ _ _ _) _) _ _ _))))
local macro_rules | `(tactic| walk_at "s3") => `(tactic| ((fail_if_success (with_reducible show wpAny _ _ (eval (Expr.ListComp _ _ _ _) _) _ _ _)); (fail_if_success (with_reducible show wpAny _ _ (eval (Expr.DictComp _ _ _ _ _) _) _ _ _)); (fail_if_success (with_reducible show wpAny _ _ (exec (Stmt.Assign _ (Expr.ListComp _ _ _ _) _) _) _ _ _)); (fail_if_success (with_reducible show wpAny _ _ (exec (Stmt.Assign _ (Expr.DictComp _ _ _ _ _) _) _) _ _ _))))
local macro_rules | `(tactic| walk_at "s4") => `(tactic| ((fail_if_success (with_reducible show wpAny _ _ (pyIter _) (fun it s₂ => LoopAtV _ _ _ _ _ _ _ _ _ it s₂) _ _))))
set_option hygiene false in
local macro_rules | `(tactic| walk_at "hold") => `(tactic| first | refine Mine.execs_one ?_ | ((fail_if_success (have q_ := Qh1)); refine Mine.execs_held ?_; intro Qh1 hQh1) | ((fail_if_success (have q_ := Qh2)); refine Mine.execs_held ?_; intro Qh2 hQh2) | ((fail_if_success (have q_ := Qh3)); refine Mine.execs_held ?_; intro Qh3 hQh3) | ((fail_if_success (have q_ := Qh4)); refine Mine.execs_held ?_; intro Qh4 hQh4) | ((fail_if_success (have q_ := Qh5)); refine Mine.execs_held ?_; intro Qh5 hQh5) | ((fail_if_success (have q_ := Qh6)); refine Mine.execs_held ?_; intro Qh6 hQh6) | ((fail_if_success (have q_ := Qh7)); refine Mine.execs_held ?_; intro Qh7 hQh7) | ((fail_if_success (have q_ := Qh8)); refine Mine.execs_held ?_; intro Qh8 hQh8))
set_option hygiene false in
local macro_rules | `(tactic| walk_at "use") => `(tactic| (((fail_if_success (with_reducible show wpAny _ _ _ _ _ _)); first | (with_reducible refine Mine.HeldC.use hQh8 ?_; clear hQh8; (try clear Qh8)) | (with_reducible refine Mine.HeldC.use hQh7 ?_; clear hQh7; (try clear Qh7)) | (with_reducible refine Mine.HeldC.use hQh6 ?_; clear hQh6; (try clear Qh6)) | (with_reducible refine Mine.HeldC.use hQh5 ?_; clear hQh5; (try clear Qh5)) | (with_reducible refine Mine.HeldC.use hQh4 ?_; clear hQh4; (try clear Qh4)) | (with_reducible refine Mine.HeldC.use hQh3 ?_; clear hQh3; (try clear Qh3)) | (with_reducible refine Mine.HeldC.use hQh2 ?_; clear hQh2; (try clear Qh2)) | (with_reducible refine Mine.HeldC.use hQh1 ?_; clear hQh1; (try clear Qh1))); (with_reducible first | refine Mine.HeldG.nx ?_ | refine Mine.HeldG.rt ?_ | refine Mine.HeldG.bk ?_ | refine Mine.HeldG.ct ?_)))
local macro_rules | `(tactic| walk_at "st") => `(tactic| first | (k_unfold; (try dsimp only)) | walk1 | walk_at "use" | (dsimp only; walk1))
local macro_rules | `(tactic| walk_at "my steps") => `(tactic| repeat' (walk_at "s1"; walk_at "s2"; walk_at "s3"; walk_at "s4"; walk_at "st"))
local macro_rules | `(tactic| walk_at "en0") => `(tactic| ((case kA => exact rfl); (case kF => exact rfl); (case kK => assumption); (case k1 => k_asm); (case k2 => k_asm); (case k3 => k_asm); (case k5 => k_asm); (case k6 => k_is); (case k7 => k_is); (case k8 => ktr_room); (case k9 => exact BindsTo.of_eq rfl)))
local macro_rules | `(tactic| walk_at "en1") => `(tactic| ((case c2 => exact rfl); (case c3 => exact rfl); (case c4 => exact rfl); k_whole))
local macro_rules | `(tactic| walk_at "use9") => `(tactic| ((case k1 => k_asm); (case k2 => k_asm); (case k3 => k_asm); (case k4 => k_asm); (case k5 => first | exact rfl | assumption); (case kd => ktr_room); (case ku => ktr_units); (case k6 => k_asm); k_whole))
local macro_rules | `(tactic| walk_at "my enter") => `(tactic| (walk_at "en0"; (case c5 => decide); (case kB => exact locs rfl); walk_at "en1"))
local macro_rules | `(tactic| walk_at "my enterC") => `(tactic| (walk_at "en0"; (case kB => exact rfl); (case kD => decide +kernel); walk_at "en1"))
local macro_rules | `(tactic| walk_at "isTrue BoolOp") => `(tactic| (k_here; dsimp only))
local macro_rules | `(tactic| walk_at "isTrue Compare") => `(tactic| (k_here; dsimp only))
local macro_rules | `(tactic| walk_at "eval Subscript") => `(tactic| (k_here; dsimp only))
local macro_rules | `(tactic| walk_at "eval Call") => `(tactic| (k_here; dsimp only))
local macro_rules | `(tactic| walk_at "eval BinOp") => `(tactic| (k_here; dsimp only))
local macro_rules | `(tactic| walk_at "execs nil") => `(tactic| (k_here; dsimp only))
local macro_rules | `(tactic| walk_at "execs cons") => `(tactic| (k_here; first | dsimp only | k_made | k_gentoks | walk_at "hold"))
local macro_rules | `(tactic| walk_at "mem") => `(tactic| first | (with_reducible assumption) | (with_reducible exact List.mem_cons_self) | (with_reducible refine List.mem_cons_of_mem _ ?_; walk_at "mem") | (with_reducible refine List.mem_append_right _ ?_; walk_at "mem") | (with_reducible refine List.mem_append_left _ ?_; walk_at "mem"))
local macro_rules | `(tactic| walk_at "sub") => `(tactic| first | (with_reducible exact Mine.sub_nil) | (with_reducible refine Mine.sub_cons ?_ ?_; (walk_at "mem"); walk_at "sub") | (intro z hz; walk_at "mem") | (with_reducible refine Mine.sub_app ?_ ?_ <;> walk_at "sub"))
local macro_rules | `(tactic| walk_at "mm") => `(tactic| first | walk_at "mem" | simp)

section
open PySem PySem.W PySem.Calls PyProof.Rows
set_option Elab.async false
set_option maxRecDepth 100000
set_option maxHeartbeats 8000000
namespace Mine
abbrev Map := Str → Option Value
abbrev Led := List (Addr × Obj)
/-- a state that a piece of the body ends in, as one assertion over the frame's map and the ledger -/
inductive CutEnd (h₀ : Heap) (L : Addr) (D : Map → Led → Prop) (s s₂ : Shared) : Prop
  | mk (h : Heap) (tk : Nat) (m : Map) (news : Led) (f0 : s₂ = { s with heap := h, toks := tk }) (f1 : Fr h₀ L h m) (f2 : News h₀ L h news) (f3 : D m news) : CutEnd h₀ L D s s₂
theorem CutEnd.intro {h₀ h : Heap} {L : Addr} {D : Map → Led → Prop} {s : Shared} {tk : Nat} {m : Map} {news : Led} (F : Fr h₀ L h m) (N : News h₀ L h news) (d : D m news) :
    CutEnd h₀ L D s { s with heap := h, toks := tk } := ⟨h, tk, m, news, rfl, F, N, d⟩
def CutQ (h₀ : Heap) (L : Addr) (D : Map → Led → Prop) (s : Shared) (Q : Flow → Shared → Prop) (f : Flow) (s₂ : Shared) : Prop :=
  match f with
  | .next => CutEnd h₀ L D s s₂
  | f => Q f s₂
inductive TurnEnd (h₀ : Heap) (L : Addr) (e : Addr × Obj) (Jn : Map → Led → Prop) (s₁ s₂ : Shared) : Prop
  | mk (h' : Heap) (tk : Nat) (m' : Map) (nx : Led) (f0 : s₂ = { s₁ with heap := h', toks := tk }) (f1 : Fr h₀ L h' m') (f2 : News h₀ L h' (e :: nx)) (f3 : (∀ p ∈ nx, p.1 ≠ e.1)) (f4 : Jn m' nx) : TurnEnd h₀ L e Jn s₁ s₂
theorem TurnEnd.intro {h₀ h' : Heap} {L : Addr} {e : Addr × Obj} {Jn : Map → Led → Prop} {s₁ : Shared} {tk : Nat} {m' : Map} {nx : Led} (F : Fr h₀ L h' m') (N : News h₀ L h' (e :: nx)) (hn : ∀ p ∈ nx, p.1 ≠ e.1) (hj : Jn m' nx) :
    TurnEnd h₀ L e Jn s₁ { s₁ with heap := h', toks := tk } := ⟨h', tk, m', nx, rfl, F, N, hn, hj⟩
def TurnQ (h₀ : Heap) (L : Addr) (e : Addr × Obj) (Jn : Map → Led → Prop) (s₁ : Shared) (Q : Flow → Shared → Prop) (f : Flow) (s₂ : Shared) : Prop :=
  match f with
  | .ret v => Q (.ret v) s₂
  | .brk => Q .next s₂
  | _ => TurnEnd h₀ L e Jn s₁ s₂

section
variable {prog : Program} {w : World} {A : Around} {E : Value → Shared → Prop} {Q : Flow → Shared → Prop} {s : Shared} {env : Env} {h₀ : Heap} {L : Addr}


theorem while_cut {test : Expr} {body : List Stmt} {pos : Pos} {m : Map} {news : Led} (J : Nat → Map → Led → Prop) (D : Map → Led → Prop) {n₀ : Nat}
    (F : Fr h₀ L s.heap m) (N : News h₀ L s.heap news) (hJ : J n₀ m news)
    (turn : ∀ n m₁ news₁ h₁ tk₁, Fr h₀ L h₁ m₁ → News h₀ L h₁ news₁ → J n m₁ news₁ →
      wpAny (model prog w) A (isTrue test env (eval test env)) (fun b s₂ =>
        if b = true then wpAny (model prog w) A (execs body env) (WhileStep2 h₀ L s J (CutQ h₀ L D s Q) n) E s₂ else CutEnd h₀ L D s s₂) E { s with heap := h₁, toks := tk₁ })
    (after : ∀ h tk m news, Fr h₀ L h m → News h₀ L h news → D m news → Q .next { s with heap := h, toks := tk })
    (hE : PassesOwn (model prog w) A env E := by passes_own) :
    wpAny (model prog w) A (exec (.While test body [] pos) env) Q E s := by
  refine wpAny_mono (While_inv2 (Q := CutQ h₀ L D s Q) J F N hJ turn hE) (fun f s₂ q => ?_) fun _ _ e => e
  cases f with
  | next => obtain ⟨h', tk, m, news, rfl, F, N, d⟩ := q; exact after h' tk m news F N d
  | brk => exact q
  | cont => exact q
  | ret v => exact q

theorem iter_list {x : Str} {body : List Stmt} {l : Addr} {vs : List Value} {m : Map} {news : Led} (J : Nat → Map → Led → Prop) (hh : A.handled = none) (hl : s.heap.IsList l vs.toArray)
    (F : Fr h₀ env.locals s.heap m) (N : News h₀ env.locals s.heap news) (hlL : l ≠ env.locals) (h0 : J 0 m news) (hk : (∃ o, h₀.get? l = some o) ∨ ∃ lo, ∀ i m nx, J i m nx → (l, lo) ∈ nx)
    (turn : ∀ i v m₁ nx h tk I io, vs[i]? = some v → J i m₁ nx → (∀ p ∈ nx, p.1 ≠ I) → Fr h₀ env.locals h (fun y => if y = x then some v else m₁ y) → News h₀ env.locals h ((I, io) :: nx) →
      wpAny (model prog w) A (execs body env) (TurnQ h₀ env.locals (I, io) (J (i + 1)) { s with heap := h, toks := tk } Q) E { s with heap := h, toks := tk })
    (done : ∀ m₁ nx h tk, J vs.length m₁ nx → Fr h₀ env.locals h m₁ → News h₀ env.locals h nx → Q .next { s with heap := h, toks := tk }) :
    wpAny (model prog w) A (pyIter (.ref l)) (fun it s₂ => LoopAtV prog w A h₀ env x body Q E it s₂) E s := by
  obtain ⟨ol, hol, _⟩ := id hl
  have hlt : l < s.heap.objs.size := Heap.lt_size hol
  have hne : l ≠ s.heap.objs.size := Nat.ne_of_lt hlt
  refine wpAny_pyIter_list hl ?_
  have W := Walks.list (prog := prog) (w := w) hh s.heap.objs.size l hne vs.toArray
  have hlen : vs.toArray.size = vs.length := by simp
  rw [hlen] at W
  have hnew : h₀.get? s.heap.objs.size = none := by
    cases hq : h₀.get? s.heap.objs.size with
    | none => rfl
    | some o' => exact absurd (Heap.lt_size (F.keep _ _ hq)) (Nat.lt_irrefl _)
  refine ⟨_, _, _, vs.length, _, _, m, news, J, rfl, W, ?_, ?_, ?_, ⟨⟨_, Heap.get?_push_size _ rfl, rfl, rfl⟩, hl.at fun o e => Heap.get?_push_of_some _ e⟩, F.push _, (fun p hp => ⟨Heap.get?_push_of_some _ (N p hp).1, (N p hp).2⟩), h0, ?_, ?_⟩
  · intro hm
    rcases List.mem_cons.mp hm with e | hm
    · exact absurd F.ns.lt (e ▸ Nat.lt_irrefl _)
    · exact hlL (List.mem_singleton.mp hm).symm
  · intro b hb
    rw [List.mem_singleton.mp hb]
    exact hnew
  · intro p hp hI
    exact absurd (Heap.lt_size (N p hp).1) ((List.mem_singleton.mp hI) ▸ Nat.lt_irrefl _)
  · rintro i v m₁ nx s₁ own ⟨hh', tk', rfl⟩ hin hP hJ hoff hofp hoh hall hst F₁ N₁
    obtain ⟨⟨io, hio, _⟩, _⟩ := hst
    have hIown : (s.heap.objs.size, io) ∈ own := hall _ (.head _) hnew _ hio
    have hv : vs[i]? = some v := by simpa using hP
    have N₂ : News h₀ env.locals hh' ((s.heap.objs.size, io) :: nx) := fun p hp => by
      rcases List.mem_cons.mp hp with rfl | hp
      · exact N₁ _ (List.mem_append_left _ hIown)
      · exact N₁ _ (List.mem_append_right _ hp)
    have hsep : ∀ p ∈ nx, p.1 ≠ s.heap.objs.size := fun p hp e => hoff p hp (List.mem_singleton.mpr e)
    refine wpAny_mono (turn i v m₁ nx hh' tk' _ io hv hJ hsep F₁ N₂) (fun f s₂ q => ?_) fun _ _ e => e
    have fin : TurnEnd h₀ env.locals (s.heap.objs.size, io) (J (i + 1)) { s with heap := hh', toks := tk' } s₂ → LoopStepU h₀ env.locals [s.heap.objs.size] own (J (i + 1)) { s with heap := hh', toks := tk' } .next s₂ := by
      rintro ⟨h', tk, m', nx', e, F', N', hn, hj⟩
      refine ⟨rfl, h', tk, m', nx', e, F', fun p hp => ?_, fun p hp hq => hn p hp (List.mem_singleton.mp hq), hj⟩
      rcases List.mem_append.mp hp with hp | hp
      · have h1 := hofp p hp
        rcases List.mem_cons.mp h1 with h2 | h2
        · have h3 := hoh p hp
          rw [h2] at h3
          have h4 : p = (s.heap.objs.size, io) := by
            have : some p.2 = some io := h3.symm.trans hio
            cases p; simp_all
          rw [h4]; exact N' _ (.head _)
        · have h2 := List.mem_singleton.mp h2
          have h5 : h₀.get? l = none := h2 ▸ (N₁ p (List.mem_append_left _ hp)).2.2
          rcases hk with ⟨o, ho⟩ | ⟨lo, hlo⟩
          · rw [h5] at ho; cases ho
          · have h6 := (N₁ (l, lo) (List.mem_append_right _ (hlo i m₁ nx hJ))).1
            have h3 := hoh p hp
            rw [h2] at h3
            have h4 : p = (l, lo) := by
              have : some p.2 = some lo := h3.symm.trans h6
              cases p; simp_all
            rw [h4]; exact N' _ (.tail _ (hlo _ _ _ hj))
      · exact N' _ (.tail _ hp)
    cases f with
    | ret v => exact .ret q
    | brk => exact .brk q
    | next => exact .next (fin q)
    | cont => exact .cont (fin q)
  · rintro h' tk m' news' F' N' _ hJ
    exact done m' news' h' tk hJ F' N'

theorem iter_range {x : Str} {body : List Stmt} {r : Addr} {b₀ : Int} {t₀ u₀ v₀ : Tok} {m : Map} {news : Led} (J : Nat → Map → Led → Prop) (hh : A.handled = none) (hr : IsRange s.heap r 0 b₀ 1 t₀ u₀ v₀)
    (hb : b₀ < 2 ^ 62) (hb' : 0 ≤ b₀) (F : Fr h₀ env.locals s.heap m) (N : News h₀ env.locals s.heap news) (h0 : J 0 m news)
    (turn : ∀ (i : Nat) t m₁ nx h tk I io, (i : Int) < b₀ → J i m₁ nx → (∀ p ∈ nx, p.1 ≠ I) → Fr h₀ env.locals h (fun y => if y = x then some (.int i t) else m₁ y) → News h₀ env.locals h ((I, io) :: nx) →
      wpAny (model prog w) A (execs body env) (TurnQ h₀ env.locals (I, io) (J (i + 1)) { s with heap := h, toks := tk } Q) E { s with heap := h, toks := tk })
    (done : ∀ m₁ nx h tk, J b₀.toNat m₁ nx → Fr h₀ env.locals h m₁ → News h₀ env.locals h nx → Q .next { s with heap := h, toks := tk }) :
    wpAny (model prog w) A (pyIter (.ref r)) (fun it s₂ => LoopAtV prog w A h₀ env x body Q E it s₂) E s := by
  have hsz : Builtin.Range.rangeSize 0 b₀ 1 = (b₀.toNat : Int) := by rw [rangeSize_nat]; congr 1; omega
  refine wpAny_pyIter_range hr (small_one (by omega) (by omega) (by omega) hb) ?_
  have W := Walks.range (prog := prog) (w := w) hh s.heap.objs.size 0 1 b₀.toNat
  have hnew : h₀.get? s.heap.objs.size = none := by
    cases hq : h₀.get? s.heap.objs.size with
    | none => rfl
    | some o' => exact absurd (Heap.lt_size (F.keep _ _ hq)) (Nat.lt_irrefl _)
  refine ⟨_, _, _, b₀.toNat, _, _, m, news, J, rfl, W, ?_, ?_, ?_, ?_, F.push _, (fun p hp => ⟨Heap.get?_push_of_some _ (N p hp).1, (N p hp).2⟩), h0, ?_, ?_⟩
  · intro hm
    exact absurd F.ns.lt ((List.mem_singleton.mp hm) ▸ Nat.lt_irrefl _)
  · intro b hb
    rw [List.mem_singleton.mp hb]
    exact hnew
  · intro p hp hI
    exact absurd (Heap.lt_size (N p hp).1) ((List.mem_singleton.mp hI) ▸ Nat.lt_irrefl _)
  · show IsRangeIter _ _ _ _ _
    rw [hsz]
    have e := Heap.get?_push_size s.heap (o := { cls := .type "range_iterator", data := .fields #[rawInt 0, rawInt (b₀.toNat : Int), rawInt 1] }) rfl
    simpa [IsRangeIter] using e
  · rintro i v m₁ nx s₁ own ⟨hh', tk', rfl⟩ hin hP hJ hoff hofp hoh hall hst F₁ N₁
    obtain ⟨io, hio⟩ : ∃ io, hh'.get? s.heap.objs.size = some io := ⟨_, hst⟩
    have hIown : (s.heap.objs.size, io) ∈ own := hall _ (.head _) hnew _ hio
    obtain ⟨t, hv⟩ := hP
    have hv' : v = .int i t := by rw [hv]; congr 1; omega
    subst hv'
    have N₂ : News h₀ env.locals hh' ((s.heap.objs.size, io) :: nx) := fun p hp => by
      rcases List.mem_cons.mp hp with rfl | hp
      · exact N₁ _ (List.mem_append_left _ hIown)
      · exact N₁ _ (List.mem_append_right _ hp)
    have hsep : ∀ p ∈ nx, p.1 ≠ s.heap.objs.size := fun p hp e => hoff p hp (List.mem_singleton.mpr e)
    refine wpAny_mono (turn i t m₁ nx hh' tk' _ io (by omega) hJ hsep F₁ N₂) (fun f s₂ q => ?_) fun _ _ e => e
    have fin : TurnEnd h₀ env.locals (s.heap.objs.size, io) (J (i + 1)) { s with heap := hh', toks := tk' } s₂ → LoopStepU h₀ env.locals [s.heap.objs.size] own (J (i + 1)) { s with heap := hh', toks := tk' } .next s₂ := by
      rintro ⟨h', tk, m', nx', e, F', N', hn, hj⟩
      refine ⟨rfl, h', tk, m', nx', e, F', fun p hp => ?_, fun p hp hq => hn p hp (List.mem_singleton.mp hq), hj⟩
      rcases List.mem_append.mp hp with hp | hp
      · have h2 := List.mem_singleton.mp (hofp p hp)
        have h3 := hoh p hp
        rw [h2] at h3
        have h4 : p = (s.heap.objs.size, io) := by
          have : some p.2 = some io := h3.symm.trans hio
          cases p; simp_all
        rw [h4]; exact N' _ (.head _)
      · exact N' _ (.tail _ hp)
    cases f with
    | ret v => exact .ret q
    | brk => exact .brk q
    | next => exact .next (fin q)
    | cont => exact .cont (fin q)
  · rintro h' tk m' news' F' N' _ hJ
    exact done m' news' h' tk hJ F' N'
end
end Mine
end

section
set_option Elab.async false
namespace Mine
open PySem PyProof.Rows
def scS (x y : Str) : Int := if x = y then 0 else if Txt.lower x = Txt.lower y then 1 else 2
def sc (c d : Nat) : Nat := if c = d then 0 else if Txt.lower ⟨#[c]⟩ = Txt.lower ⟨#[d]⟩ then 1 else 2
theorem scS_one (c d : Nat) : scS ⟨#[c]⟩ ⟨#[d]⟩ = (sc c d : Int) := by
  unfold scS sc
  by_cases h : c = d
  · simp [h]
  · have : ¬ (Str.mk #[c] = Str.mk #[d]) := by intro e; injection e with e; simp at e; exact h e
    rw [if_neg this, if_neg h]
    split <;> rfl
theorem sc_self (c : Nat) : sc c c = 0 := by simp [sc]
theorem sc_le (c d : Nat) : sc c d ≤ 2 := by unfold sc; split; omega; split <;> omega
theorem sc_comm (c d : Nat) : sc c d = sc d c := by
  unfold sc
  by_cases h : c = d
  · simp [h]
  · rw [if_neg h, if_neg (Ne.symm h)]
    by_cases e : Txt.lower ⟨#[c]⟩ = Txt.lower ⟨#[d]⟩
    · rw [if_pos e, if_pos e.symm]
    · rw [if_neg e, if_neg (Ne.symm e)]

inductive Al : List Nat → List Nat → Nat → Prop
  | nil : Al [] [] 0
  | del {a b n} (x : Nat) : Al a b n → Al (x :: a) b (n + 2)
  | ins {a b n} (y : Nat) : Al a b n → Al a (y :: b) (n + 2)
  | sub {a b n} (x y : Nat) : Al a b n → Al (x :: a) (y :: b) (n + sc x y)

theorem Al.cast {a b : List Nat} {n m : Nat} (h : Al a b n) (e : n = m) : Al a b m := e ▸ h
theorem Al.symm {a b : List Nat} {n : Nat} (h : Al a b n) : Al b a n := by
  induction h with
  | nil => exact .nil
  | del x _ ih => exact .ins x ih
  | ins y _ ih => exact .del y ih
  | sub x y _ ih => exact (Al.sub y x ih).cast (by rw [sc_comm])
theorem Al.app {a b a' b' : List Nat} {n m : Nat} (h : Al a b n) (h' : Al a' b' m) : Al (a ++ a') (b ++ b') (n + m) := by
  induction h with
  | nil => simpa using h'
  | del x _ ih => exact (Al.del x ih).cast (by omega)
  | ins y _ ih => exact (Al.ins y ih).cast (by omega)
  | sub x y _ ih => exact (Al.sub x y ih).cast (by omega)
theorem Al.allDel : ∀ a : List Nat, Al a [] (2 * a.length)
  | [] => .nil
  | x :: a => (Al.del x (Al.allDel a)).cast (by simp; omega)
theorem Al.allIns (b : List Nat) : Al [] b (2 * b.length) := (Al.allDel b).symm
theorem Al.rev {a b : List Nat} {n : Nat} (h : Al a b n) : Al a.reverse b.reverse n := by
  induction h with
  | nil => exact .nil
  | del x _ ih => rw [List.reverse_cons]; simpa using ih.app (Al.del x .nil)
  | ins y _ ih => rw [List.reverse_cons]; simpa using ih.app (Al.ins y .nil)
  | sub x y _ ih => rw [List.reverse_cons, List.reverse_cons]; exact (ih.app (Al.sub x y .nil)).cast (by omega)
/-- a word in two parts: the other is cut so -/
theorem Al.split {w t : List Nat} {n : Nat} (h : Al w t n) : ∀ a a', w = a ++ a' → ∃ b b' n₁ n₂, t = b ++ b' ∧ Al a b n₁ ∧ Al a' b' n₂ ∧ n = n₁ + n₂ := by
  induction h with
  | nil =>
    intro a a' e
    have := List.append_eq_nil_iff.mp e.symm
    obtain ⟨rfl, rfl⟩ := this
    exact ⟨[], [], 0, 0, rfl, .nil, .nil, rfl⟩
  | @del a0 b0 n x h ih =>
    intro a a' e
    cases a with
    | nil =>
      obtain ⟨b, b', n₁, n₂, h1, h2, h3, h4⟩ := ih [] a0 rfl
      refine ⟨b, b', n₁, n₂ + 2, h1, h2, ?_, by omega⟩
      have : a' = x :: a0 := by simpa using e.symm
      rw [this]; exact .del x h3
    | cons z a =>
      obtain ⟨rfl, rfl⟩ : x = z ∧ a0 = a ++ a' := by simpa using e
      obtain ⟨b, b', n₁, n₂, h1, h2, h3, h4⟩ := ih a a' rfl
      exact ⟨b, b', n₁ + 2, n₂, h1, .del x h2, h3, by omega⟩
  | @ins a0 b0 n y h ih =>
    intro a a' e
    obtain ⟨b, b', n₁, n₂, h1, h2, h3, h4⟩ := ih a a' e
    exact ⟨y :: b, b', n₁ + 2, n₂, by rw [h1]; rfl, .ins y h2, h3, by omega⟩
  | @sub a0 b0 n x y h ih =>
    intro a a' e
    cases a with
    | nil =>
      have : a' = x :: a0 := by simpa using e.symm
      exact ⟨[], y :: b0, 0, n + sc x y, rfl, .nil, by rw [this]; exact .sub x y h, by omega⟩
    | cons z a =>
      obtain ⟨rfl, rfl⟩ : x = z ∧ a0 = a ++ a' := by simpa using e
      obtain ⟨b, b', n₁, n₂, h1, h2, h3, h4⟩ := ih a a' rfl
      exact ⟨y :: b, b', n₁ + sc x y, n₂, by rw [h1]; rfl, .sub x y h2, h3, by omega⟩
theorem Al.len {a b : List Nat} {n : Nat} (h : Al a b n) : 2 * b.length ≤ 2 * a.length + n := by
  induction h with
  | nil => simp
  | del x _ ih => simp only [List.length_cons]; omega
  | ins y _ ih => simp only [List.length_cons]; omega
  | sub x y _ ih => simp only [List.length_cons]; omega
theorem Al.dropR {a t : List Nat} {n : Nat} (h : Al a t n) : ∀ y b, t = y :: b → ∃ m, m ≤ n + 2 ∧ Al a b m := by
  induction h with
  | nil => intro y b e; cases e
  | del x _ ih => intro y b e; obtain ⟨m, hm, h⟩ := ih y b e; exact ⟨m + 2, by omega, .del x h⟩
  | ins y' h _ => intro y b e; cases e; exact ⟨_, by omega, h⟩
  | sub x y' h _ => intro y b e; cases e; exact ⟨_, by omega, .del x h⟩
theorem Al.dropL {a b : List Nat} {n : Nat} {x : Nat} (h : Al (x :: a) b n) : ∃ m, m ≤ n + 2 ∧ Al a b m := by
  obtain ⟨m, hm, h⟩ := h.symm.dropR x a rfl
  exact ⟨m, hm, h.symm⟩
theorem Al.strip {x : Nat} {a b : List Nat} {n : Nat} (h : Al (x :: a) (x :: b) n) : ∃ m, m ≤ n ∧ Al a b m := by
  cases h with
  | del _ h => obtain ⟨m, hm, h'⟩ := h.dropR x b rfl; exact ⟨m, by omega, h'⟩
  | ins _ h => obtain ⟨m, hm, h'⟩ := h.dropL; exact ⟨m, by omega, h'⟩
  | sub _ _ h => exact ⟨_, by omega, h⟩

/-- the least way -/
def Is (a b : List Nat) (n : Nat) : Prop := Al a b n ∧ ∀ m, Al a b m → n ≤ m
theorem Is.uniq {a b : List Nat} {n m : Nat} (h : Is a b n) (h' : Is a b m) : n = m := Nat.le_antisymm (h.2 _ h'.1) (h'.2 _ h.1)
theorem Is.symm {a b : List Nat} {n : Nat} (h : Is a b n) : Is b a n := ⟨h.1.symm, fun m hm => h.2 m hm.symm⟩
theorem Is.rev {a b : List Nat} {n : Nat} (h : Is a b n) : Is a.reverse b.reverse n := ⟨h.1.rev, fun m hm => h.2 m (by simpa using hm.rev)⟩
theorem Is.cons {x : Nat} {a b : List Nat} {n : Nat} (h : Is a b n) : Is (x :: a) (x :: b) n :=
  ⟨(Al.sub x x h.1).cast (by rw [sc_self]; rfl), fun m hm => by obtain ⟨k, hk, h'⟩ := hm.strip; exact Nat.le_trans (h.2 _ h') hk⟩
theorem Is.pre : ∀ (p : List Nat) {a b : List Nat} {n : Nat}, Is a b n → Is (p ++ a) (p ++ b) n
  | [], _, _, _, h => h
  | _ :: p, _, _, _, h => (Is.pre p h).cons
theorem Is.post (p : List Nat) {a b : List Nat} {n : Nat} (h : Is a b n) : Is (a ++ p) (b ++ p) n := by
  have := (Is.pre p.reverse h.rev).rev
  simpa using this
theorem Is.nilL (b : List Nat) : Is [] b (2 * b.length) := ⟨Al.allIns b, fun m hm => by have := hm.len; simp at this; omega⟩
theorem Is.nilR (a : List Nat) : Is a [] (2 * a.length) := (Is.nilL a).symm
theorem Is.step {x y : Nat} {a b : List Nat} {p q r : Nat} (h1 : Is a (y :: b) p) (h2 : Is (x :: a) b q) (h3 : Is a b r) : Is (x :: a) (y :: b) (min (min p q + 2) (r + sc x y)) := by
  refine ⟨?_, fun m hm => ?_⟩
  · by_cases h : min p q + 2 ≤ r + sc x y
    · rw [Nat.min_eq_left h]
      by_cases h' : p ≤ q
      · rw [Nat.min_eq_left h']; exact .del x h1.1
      · rw [Nat.min_eq_right (by omega)]; exact .ins y h2.1
    · rw [Nat.min_eq_right (by omega)]; exact .sub x y h3.1
  · cases hm with
    | del _ h => have := h1.2 _ h; omega
    | ins _ h => have := h2.2 _ h; omega
    | sub _ _ h => have := h3.2 _ h; omega
theorem Is.ex : ∀ (k : Nat) (a b : List Nat), a.length + b.length ≤ k → ∃ n, Is a b n
  | k, [], b, _ => ⟨_, Is.nilL b⟩
  | k, a, [], _ => ⟨_, Is.nilR a⟩
  | 0, _ :: _, _ :: _, h => by simp at h
  | k + 1, x :: a, y :: b, h => by
    simp only [List.length_cons] at h
    obtain ⟨p, hp⟩ := Is.ex k a (y :: b) (by simp only [List.length_cons]; omega)
    obtain ⟨q, hq⟩ := Is.ex k (x :: a) b (by simp only [List.length_cons]; omega)
    obtain ⟨r, hr⟩ := Is.ex k a b (by omega)
    exact ⟨_, Is.step hp hq hr⟩
noncomputable def lev (a b : List Nat) : Nat := Classical.choose (Is.ex _ a b (Nat.le_refl _))
theorem lev_is (a b : List Nat) : Is a b (lev a b) := Classical.choose_spec (Is.ex _ a b (Nat.le_refl _))
theorem lev_eq {a b : List Nat} {n : Nat} (h : Is a b n) : lev a b = n := (lev_is a b).uniq h
theorem lev_comm (a b : List Nat) : lev a b = lev b a := lev_eq (lev_is b a).symm
theorem lev_nilL (b : List Nat) : lev [] b = 2 * b.length := lev_eq (Is.nilL b)
theorem lev_nilR (a : List Nat) : lev a [] = 2 * a.length := lev_eq (Is.nilR a)
theorem lev_self (a : List Nat) : lev a a = 0 := lev_eq (by simpa using Is.pre a (Is.nilL []))
theorem lev_pre (p a b : List Nat) : lev (p ++ a) (p ++ b) = lev a b := lev_eq (Is.pre p (lev_is a b))
theorem lev_post (p a b : List Nat) : lev (a ++ p) (b ++ p) = lev a b := lev_eq (Is.post p (lev_is a b))
theorem lev_cons (x y : Nat) (a b : List Nat) : lev (x :: a) (y :: b) = min (min (lev a (y :: b)) (lev (x :: a) b) + 2) (lev a b + sc x y) := lev_eq (Is.step (lev_is _ _) (lev_is _ _) (lev_is _ _))
theorem lev_rev (a b : List Nat) : lev a.reverse b.reverse = lev a b := lev_eq (lev_is a b).rev
theorem lev_snoc (x y : Nat) (a b : List Nat) : lev (a ++ [x]) (b ++ [y]) = min (min (lev a (b ++ [y])) (lev (a ++ [x]) b) + 2) (lev a b + sc x y) := by
  rw [← lev_rev (a ++ [x]), ← lev_rev a (b ++ [y]), ← lev_rev (a ++ [x]) b, ← lev_rev a b]
  simp only [List.reverse_append, List.reverse_cons, List.reverse_nil, List.nil_append, List.singleton_append]
  exact lev_cons _ _ _ _
theorem lev_len (a b : List Nat) : 2 * b.length ≤ 2 * a.length + lev a b := (lev_is a b).1.len
theorem lev_le {a b : List Nat} {n : Nat} (h : Al a b n) : lev a b ≤ n := (lev_is a b).2 _ h
/-- two parts: at most any cut, and some cut is it -/
theorem lev_app_le (a a' b b' : List Nat) : lev (a ++ a') (b ++ b') ≤ lev a b + lev a' b' := lev_le ((lev_is a b).1.app (lev_is a' b').1)
theorem lev_app_cut (a a' t : List Nat) : ∃ b b', t = b ++ b' ∧ lev (a ++ a') t = lev a b + lev a' b' := by
  obtain ⟨b, b', n₁, n₂, rfl, h1, h2, h3⟩ := (lev_is (a ++ a') t).1.split a a' rfl
  refine ⟨b, b', rfl, Nat.le_antisymm (lev_app_le _ _ _ _) ?_⟩
  rw [h3]
  exact Nat.add_le_add (lev_le h1) (lev_le h2)
end Mine
end

section
open PySem PySem.W PySem.Calls PyProof.Rows
set_option Elab.async false
set_option maxRecDepth 100000
namespace Mine
def lst (x : Str) : List Nat := x.cps.toList
theorem lst_len (x : Str) : (lst x).length = x.length := by simp [lst, Str.length]
theorem lst_inj {x y : Str} (h : lst x = lst y) : x = y := by
  cases x with | mk a => cases y with | mk b => simp only [lst] at h; congr 1; exact Array.toList_inj.mp h
theorem slice_from (x : Str) (p : Nat) (h : p ≤ x.length) : lst (Txt.slice x (some (p : Int)) none) = (lst x).drop p := by
  rw [slice_from_eq (b := (x.length : Int)) (by omega) (by omega) rfl]
  simp only [lst]
  rw [List.take_of_length_le]
  · simp
  · simp [Str.length]
theorem slice_to (x : Str) (p : Nat) (h : p ≤ x.length) : lst (Txt.slice x none (some (p : Int))) = (lst x).take p := by
  have := slice_closes_toL (x := x) (j := (p : Int)) (by omega) (by omega)
  rw [beq_iff_eq.mp this]
  simp [lst]
theorem slice_back (x : Str) (q : Nat) (h0 : 0 < q) (h : q ≤ x.length) : lst (Txt.slice x none (some (-(q : Int)))) = (lst x).take (x.length - q) := by
  rw [slice_to_neg (by omega), show max (0 : Int) ((x.length : Int) + -(q : Int)) = ((x.length - q : Nat) : Int) by omega, slice_to _ _ (by omega)]
theorem slice_all (x : Str) : Txt.slice x none none = x := by
  unfold Txt.slice
  rw [if_pos]
  simp [Builtin.Str.strSliceIndices, sliceRange]
  split <;> omega
theorem item_at (x : Str) (i : Nat) (c : Nat) (h : (lst x)[i]? = some c) : Txt.item x (i : Int) = ⟨#[c]⟩ :=
  item_meets (by omega) (by simpa [lst] using h)
theorem item_back (x : Str) (i q : Nat) (c : Nat) (hq : x.length = i + q) (h0 : 0 < q) (h : (lst x)[i]? = some c) : Txt.item x (-(q : Int)) = ⟨#[c]⟩ := by
  have := item_closes_neg (x := x) (i := -(q : Int)) (j := (i : Int)) (by omega) (by omega) (by omega)
  rw [beq_iff_eq.mp this]
  congr 2
  have h' : x.cps[i]? = some c := by simpa [lst] using h
  simp [h']
theorem one_inj {c d : Nat} (h : ((⟨#[c]⟩ : Str) == ⟨#[d]⟩) = true) : c = d := by
  have := beq_iff_eq.mp h
  injection this with e
  simpa using e
/-- the names that a frame's map bears -/
def Has (m : Map) : List (Str × Value) → Prop
  | [] => True
  | p :: r => m p.1 = some p.2 ∧ Has m r
theorem Has.all {m : Map} : ∀ {ps : List (Str × Value)}, Has m ps → ∀ p ∈ ps, m p.1 = some p.2
  | _ :: _, ⟨h, _⟩, _, .head _ => h
  | _ :: _, ⟨_, r⟩, _, .tail _ hp => r.all _ hp
theorem Has.fr {h₀ h : Heap} {L : Addr} {m : Map} {ps : List (Str × Value)} (H : Has m ps) (F : Fr h₀ L h m) : Fr h₀ L h (kstB m ps) := by
  have : kstB m ps = m := funext fun y => kstB_eq H.all fun _ => rfl
  rw [this]; exact F
theorem Has.frX {h₀ h : Heap} {L : Addr} {m : Map} {x : Str} {v : Value} {ps : List (Str × Value)} (H : Has m ps) (F : Fr h₀ L h (fun y => if y = x then some v else m y)) : Fr h₀ L h (fun y => if y = x then some v else kstB m ps y) := by
  have : kstB m ps = m := funext fun y => kstB_eq H.all fun _ => rfl
  rw [this]; exact F

theorem take_snoc (l : List Nat) (i c : Nat) (h : l[i]? = some c) : l.take (i + 1) = l.take i ++ [c] := by
  rw [List.take_add_one, h]; rfl
/-- the table of the prefixes -/
noncomputable def P (a b : List Nat) (i j : Nat) : Nat := lev (a.take i) (b.take j)
theorem P_zeroL (a b : List Nat) (j : Nat) (h : j ≤ b.length) : P a b 0 j = 2 * j := by simp [P, lev_nilL]; omega
theorem P_zeroR (a b : List Nat) (i : Nat) (h : i ≤ a.length) : P a b i 0 = 2 * i := by simp [P, lev_nilR]; omega
theorem P_all (a b : List Nat) : P a b a.length b.length = lev a b := by simp [P]
theorem P_step (a b : List Nat) (i j c d : Nat) (ha : a[i]? = some c) (hb : b[j]? = some d) : P a b (i + 1) (j + 1) = min (min (P a b i (j + 1)) (P a b (i + 1) j) + 2) (P a b i j + sc d c) := by
  unfold P
  rw [take_snoc a i c ha, take_snoc b j d hb, lev_snoc, sc_comm d c]
/-- what stands to the left at a cell: the program's own start -/
noncomputable def Rf (a b : List Nat) (i j : Nat) : Nat := if i = 0 then 2 * j else P a b i (j + 1)
theorem Rf_step (a b : List Nat) (i j c d : Nat) (ha : a[i]? = some c) (hb : b[j]? = some d) : min (min (Rf a b i j) (P a b (i + 1) j) + 2) (P a b i j + sc d c) = P a b (i + 1) (j + 1) := by
  rw [P_step a b i j c d ha hb]
  have hj : j < b.length := by have := List.getElem?_eq_some_iff.mp hb; exact this.1
  unfold Rf
  split
  · rename_i h
    subst h
    rw [P_zeroL a b j (by omega), P_zeroL a b (j + 1) (by omega)]
    have := sc_le d c
    omega
  · rfl
theorem P_row_low (a b : List Nat) (j n : Nat) (ha : 0 < a.length) (hj : j < b.length) (h : ∀ i, 1 ≤ i → i ≤ a.length → n ≤ P a b i (j + 1)) : n ≤ lev a b := by
  obtain ⟨a1, a2, e, hl⟩ := lev_app_cut (b.take (j + 1)) (b.drop (j + 1)) a
  rw [List.take_append_drop] at hl
  rw [lev_comm a b, hl]
  have e1 : a.take a1.length = a1 := by rw [e]; simp
  have hle : a1.length ≤ a.length := by rw [e]; simp
  by_cases h0 : a1.length = 0
  · have h1 := h 1 (Nat.le_refl _) ha
    obtain ⟨c, hc⟩ : ∃ c, a[0]? = some c := ⟨_, List.getElem?_eq_getElem ha⟩
    obtain ⟨d, hd⟩ : ∃ d, b[j]? = some d := ⟨_, List.getElem?_eq_getElem hj⟩
    have h2 := P_step a b 0 j c d hc hd
    rw [P_zeroL a b j (by omega)] at h2
    have h3 := sc_le d c
    have h4 : lev (b.take (j + 1)) a1 = 2 * (j + 1) := by
      rw [List.length_eq_zero_iff.mp h0, lev_nilR]; simp; omega
    simp only [Nat.zero_add] at h2
    omega
  · have h1 := h a1.length (by omega) hle
    unfold P at h1
    rw [e1, lev_comm] at h1
    omega
end Mine
end

section
open PySem PySem.W PySem.Calls PyProof.Rows
set_option Elab.async false
set_option maxRecDepth 100000
namespace Mine
theorem vint {x y : Int} {t : Tok} (h : x = y) : some (Value.int x t) = some (Value.int y t) := h ▸ rfl
theorem execs_append (env : Env) : ∀ (pre rest : List Stmt), execs (pre ++ rest) env = (execs pre env >>= fun f => match f with | .next => execs rest env | f => pure f)
  | [], rest => rfl
  | st :: pre, rest => by
    have ih := execs_append env pre rest
    rw [List.cons_append, execs_cons, execs_cons, ih]
    show Sem.bind _ _ = Sem.bind (Sem.bind _ _) _
    rw [Sem.bind_assoc]
    congr 1
    funext f
    cases f <;> rfl
section
variable {prog : Program} {w : World} {A : Around} {E : Value → Shared → Prop} {Q : Flow → Shared → Prop} {s : Shared} {env : Env} {h₀ : Heap} {L : Addr}
theorem execs_cut (pre rest : List Stmt) (D : Map → Led → Prop) (h : wpAny (model prog w) A (execs pre env) (CutQ h₀ L D s Q) E s)
    (after : ∀ h tk m news, Fr h₀ L h m → News h₀ L h news → D m news → wpAny (model prog w) A (execs rest env) Q E { s with heap := h, toks := tk }) :
    wpAny (model prog w) A (execs (pre ++ rest) env) Q E s := by
  rw [execs_append]
  refine wpAny_bind (wpAny_mono h (fun f s' q => ?_) fun _ _ e => e)
  cases f with
  | next => obtain ⟨h', tk, m, news, rfl, F, N, d⟩ := q; exact after h' tk m news F N d
  | brk => exact wpAny_pure q
  | cont => exact wpAny_pure q
  | ret v => exact wpAny_pure q
end
end Mine
namespace Mine
theorem Con.use {prog : Program} {w : World} {mean : ExcName → Option Value} {mg mb : Str → Option Value} {f : Addr} {args : List Value} {need : Nat} {h : Heap} {Post : Value → Heap → Prop}
    {dp un : Nat} {gd : Option (List Code)} {cn : Str} {cs : Scope} {a : Addr} {ccd : Value} {cl : List (Str × Addr)} {outer : List Env} {A₀ : Around} {base h₀ : Heap} {L : Addr} {m : Str → Option Value} {s : Shared}
    {Q E : Value → Shared → Prop} {news : Led} (C : Con prog w mean mg mb f args need h Post) (hs : s.heap = h) (B : Below A₀ base outer h₀) (F : Fr h₀ L s.heap m) (X : (kk.heap_1 w.params).In h₀)
    (T : Top vv (looseW vv [Str.ofString "EXACT_TOKEN_TYPES"]) mean mg mb h₀) (hk : cs.kind = .function) (hdp : dp + need < recursionLimit) (hun : un + 8 * need < cLine) (N : News h₀ L s.heap news)
    (k : ∀ r h' tk', s.heap.StaysIn h' → Fr h₀ L h' m → News h₀ L h' news → Post r h' → Q r { s with heap := h', toks := tk' }) :
    wpAny (model prog w) (ktrTop dp un gd cn cs L a ccd cl outer) (call (.ref f) args) Q E s := by
  refine C dp un gd cn cs a ccd cl outer A₀ base h₀ L m s Q E hs B F X T hk hdp hun fun r h' tk' st hp => k r h' tk' st ?_ ?_ hp
  · exact ⟨F.ns.keeps st, fun b o e => st b o (F.keep b o e), F.above⟩
  · exact fun p hp => ⟨st _ _ (N p hp).1, (N p hp).2⟩
theorem list_range2 {prog : Program} {w : World} {A : Around} {E : Value → Shared → Prop} {s : Shared} {h₀ : Heap} {L r : Addr} {m : Map} {news : Led} {K : Nat} {t u v : Tok} {Q : Value → Shared → Prop} (hh : A.handled = none) (F : Fr h₀ L s.heap m) (N : News h₀ L s.heap news)
    (hr : IsRange s.heap r 2 (2 * ((K : Int) + 1)) 2 t u v) (hK : K ≤ 1000)
    (h : ∀ D vs c h' tk, Fr h₀ L h' m → News h₀ L h' ((D, listOf (List.toArray vs) c) :: news) → (∀ p ∈ news, p.1 < D) → IntsAre vs ((List.range K).map fun (i : Nat) => 2 * ((i : Int) + 1)) → Q (.ref D) { s with heap := h', toks := tk }) :
    wpAny (model prog w) A (call (.type "list") [.ref r]) Q E s := by
  have hsz : Builtin.Range.rangeSize 2 (2 * ((K : Int) + 1)) 2 = (K : Int) := by
    unfold Builtin.Range.rangeSize
    simp only [show (2 : Int) > 0 by decide, if_true]
    split <;> omega
  have hsm : Builtin.Range.small 2 (2 * ((K : Int) + 1)) 2 = true := by
    unfold Builtin.Range.small Builtin.Range.rangeFitsLong
    rw [hsz]
    simp
    omega
  refine call_list_range hh hr hsm hsz (by omega) fun h' tk acc c hk hD hacc => ?_
  have hnew : h₀.get? s.heap.objs.size = none := by
    cases hq : h₀.get? s.heap.objs.size with
    | none => rfl
    | some o' => exact absurd (Heap.lt_size (F.keep _ _ hq)) (Nat.lt_irrefl _)
  refine h s.heap.objs.size acc.toList c h' tk ⟨F.ns.keeps hk, fun b o e => hk b o (F.keep b o e), F.above⟩ (fun p hp => ?_) (fun p hp => Heap.lt_size (N p hp).1) ?_
  · rcases List.mem_cons.mp hp with rfl | hp
    · exact ⟨by simpa using hD, fun e => absurd F.ns.lt (e ▸ Nat.lt_irrefl _), hnew⟩
    · exact ⟨hk _ _ (N p hp).1, (N p hp).2⟩
  · obtain ⟨h1, h2⟩ := hacc
    have key : ∀ (l : List Value) (k : Nat), (∀ j v, l[j]? = some v → ∃ t, v = Value.int (2 + ((k + j : Nat) : Int) * 2) t) → IntsAre l ((List.range' k l.length).map fun (i : Nat) => 2 * ((i : Int) + 1)) := by
      intro l
      induction l with
      | nil => intro k _; exact .nil
      | cons v l ih =>
        intro k hl
        obtain ⟨t, rfl⟩ := hl 0 v rfl
        rw [List.length_cons, List.range'_succ, List.map_cons]
        have e : (2 + ((k + 0 : Nat) : Int) * 2) = 2 * ((k : Int) + 1) := by omega
        rw [e]
        refine .cons _ _ (ih (k + 1) fun j v hj => ?_)
        obtain ⟨t', e'⟩ := hl (j + 1) v hj
        exact ⟨t', by rw [e', show (2 + ((k + (j + 1) : Nat) : Int) * 2) = 2 + ((k + 1 + j : Nat) : Int) * 2 by omega]⟩
    have := key acc.toList 0 fun j v hj => by
      obtain ⟨t, e⟩ := h2 j v (by simpa using hj)
      exact ⟨t, by rw [e, Nat.zero_add]⟩
    rw [Array.length_toList, h1, ← List.range_eq_range'] at this
    exact this
end Mine
end

section
open PySem PySem.W PySem.Calls PyProof.Rows
set_option Elab.async false
set_option maxRecDepth 100000
set_option maxHeartbeats 2000000
namespace Mine
section
variable {prog : Program} {w : World} {A A₀ : Around} {s : Shared} {K : Frag} {L : Addr} {h₀ base : Heap} {m mg mb : Str → Option Value} {p : Program} {loose : List Str} {mean : ExcName → Option Value}
theorem enter_defC {env : Env} {outer : List Env} {R : Result → Shared → Prop} {name qual : Str} {params : Arguments} {body : List Stmt} {scope : Scope} {dV kV doc pm cdv ct oc : Value} {an od : Option Addr} {osl : Array (Option Value)} {f : Addr} {args : Args} {binds : List (Str × Value)}
    (B : Below A₀ base outer h₀) (F : Fr h₀ L s.heap m) (X₀ : K.In h₀) (T : Top p loose mean mg mb h₀) (hA : A.frames = some (env :: outer)) (hf : env.frame = some L) (hke : env.scope.kind = .function)
    (ho : K.lookup f = some ⟨oc, od, .func (fnOf name qual params body scope dV kV doc pm an cdv ct), osl⟩) (hcd : codeIn K cdv qual = true) (hroom : A.depth < recursionLimit)
    (hbind : BindsTo s (fnOf name qual params body scope dV kV doc pm an cdv ct) args binds) (hkind : (binds.all fun y => scope.names.lookup y.1 == some .local || scope.names.lookup y.1 == some .cell) = true)
    (hnd : ((cellsFrom 0 scope.names []).map (·.1)).Nodup)
    (h : ∀ L' h₁ tk cells, L' = s.heap.objs.size → Fr s.heap L' h₁ (bindL (envOfC qual scope L' f cdv).kindOf binds fun _ => none) → News s.heap L' h₁ cells →
      CellsAre (bindC (envOfC qual scope L' f cdv).kindOf binds fun _ => none) (cellsFrom (L' + 1) scope.names []) cells → Below A base (env :: outer) s.heap → K.In s.heap → Top p loose mean mg mb s.heap →
      wpAny (model prog w) (A.deeper (envOfC qual scope L' f cdv)) (execs body (envOfC qual scope L' f cdv))
        (fun fl s' => R (.ok (.ret (match fl with | .ret v => v | _ => .none))) s')
        (fun e s' => wpAny (model prog w) (A.deeper (envOfC qual scope L' f cdv)) (leaving (envOfC qual scope L' f cdv) e) (fun _ s'' => R (.error e) s'') (fun e' s'' => R (.error e') s'') s')
        { s with heap := h₁, toks := tk })
    (hco : scope.isCoroutine = false) (hgen : scope.isGenerator = false) (hk : scope.kind = .function) : codeAny (model prog w) A (.call (.ref f) args) R s := by
  obtain ⟨FG, BG, st, lv⟩ := groundX (R := R) (news := []) B F News.nil hA hf hke
  refine codeAny_call_function (fd := fnOf name qual params body scope dV kV doc pm an cdv ct) hroom ((X₀.keeps F.keep) _ _ ho) rfl hco hgen rfl (codeRec_of (X₀.keeps F.keep) hcd) (hbind _ _ _ _ ?_)
  refine wpAny_newFunctionEnv_cells hk (kindsX hkind _) fun env' he s' x => ?_
  subst he
  refine ⟨(T.nolimit.keeps F.keep).keeps x.toInCall.keep, codeAny_func ?_⟩
  obtain ⟨h₁, tk, rfl, _⟩ := x.done
  have hk₁ := x.toInCall.keep
  obtain ⟨cells, NC, Y⟩ := Cl.news (h₀ := s.heap) (Nat.le_refl _) fun n c hm => ⟨x.cell n c (lookup_of_mem_nodup (cellsFrom_names scope.names 0 (s.heap.objs.size + 1) [] [] rfl ▸ hnd) hm), x.above n c hm⟩
  exact h s.heap.objs.size h₁ tk cells rfl ⟨x.toInCall.ns, hk₁, Nat.le_refl _⟩ NC Y BG (X₀.keeps F.keep) (T.keeps F.keep)
end
end Mine
end

section
open PySem PySem.W PySem.Calls PyProof.Rows
set_option Elab.async false
set_option maxRecDepth 100000
set_option maxHeartbeats 2000000
namespace Mine
open PyProof.Rows.LCg (NsObj)
/-- the end of an element's evaluation: the block's own objects (fix) as they were -/
inductive CEnd (h₀ : Heap) (L : Addr) (m : Map) (s₁ : Shared) (fix : Led) (Jn : Value → Led → Prop) (y : Value) (s₂ : Shared) : Prop
  | mk (h' : Heap) (tk : Nat) (nx : Led) (f0 : s₂ = { s₁ with heap := h', toks := tk }) (f1 : Fr h₀ L h' m) (f2 : News h₀ L h' (fix ++ nx)) (f3 : (∀ p ∈ nx, ∀ q ∈ fix, p.1 ≠ q.1)) (f4 : Jn y nx) : CEnd h₀ L m s₁ fix Jn y s₂
theorem CEnd.intro {h₀ h' : Heap} {L : Addr} {m : Map} {s₁ : Shared} {fix : Led} {Jn : Value → Led → Prop} {y : Value} {tk : Nat} {all : Led} (F : Fr h₀ L h' m) (N : News h₀ L h' all) (nx : Led) (sub : ∀ p ∈ fix ++ nx, p ∈ all) (off : ∀ p ∈ nx, ∀ q ∈ fix, p.1 ≠ q.1) (hj : Jn y nx) :
    CEnd h₀ L m s₁ fix Jn y { s₁ with heap := h', toks := tk } := ⟨h', tk, nx, rfl, F, fun p hp => N p (sub p hp), off, hj⟩
/-- the source of a block: a range, a list, a text -/
inductive SrcRg (h₀ : Heap) (L : Addr) (m : Map) (a : Int) (n : Nat) (J0 : Led → Prop) (s : Shared) (xv : Value) (s₁ : Shared) : Prop
  | mk (r : Addr) (b : Int) (t u v : Tok) (news : Led) (f0 : xv = .ref r) (f1 : Fr h₀ L s₁.heap m) (f2 : News h₀ L s₁.heap news) (f3 : IsRange s₁.heap r a b 1 t u v) (f4 : b - a = (n : Int)) (f5 : J0 news) (f6 : s₁ = { s with heap := s₁.heap, toks := s₁.toks }) : SrcRg h₀ L m a n J0 s xv s₁
theorem SrcRg.intro {h₀ h : Heap} {L r : Addr} {m : Map} {a b : Int} {n : Nat} {J0 : Led → Prop} {s : Shared} {t u v : Tok} {news : Led} {tk : Nat} (F : Fr h₀ L h m) (N : News h₀ L h news) (hr : IsRange h r a b 1 t u v) (hb : b - a = (n : Int)) (hj : J0 news) :
    SrcRg h₀ L m a n J0 s (.ref r) { s with heap := h, toks := tk } := ⟨r, b, t, u, v, news, rfl, F, N, hr, hb, hj, rfl⟩
inductive SrcLs (h₀ : Heap) (L : Addr) (m : Map) (ax : Addr) (J0 : Led → Prop) (s : Shared) (xv : Value) (s₁ : Shared) : Prop
  | mk (news : Led) (f0 : xv = .ref ax) (f1 : Fr h₀ L s₁.heap m) (f2 : News h₀ L s₁.heap news) (f3 : J0 news) (f4 : s₁ = { s with heap := s₁.heap, toks := s₁.toks }) : SrcLs h₀ L m ax J0 s xv s₁
theorem SrcLs.intro {h₀ h : Heap} {L ax : Addr} {m : Map} {J0 : Led → Prop} {s : Shared} {news : Led} {tk : Nat} (F : Fr h₀ L h m) (N : News h₀ L h news) (hj : J0 news) :
    SrcLs h₀ L m ax J0 s (.ref ax) { s with heap := h, toks := tk } := ⟨news, rfl, F, N, hj, rfl⟩
inductive SrcSt (h₀ : Heap) (L : Addr) (m : Map) (z : Str) (J0 : Led → Prop) (s : Shared) (xv : Value) (s₁ : Shared) : Prop
  | mk (t : Tok) (news : Led) (f0 : xv = .str z t) (f1 : Fr h₀ L s₁.heap m) (f2 : News h₀ L s₁.heap news) (f3 : J0 news) (f4 : s₁ = { s with heap := s₁.heap, toks := s₁.toks }) : SrcSt h₀ L m z J0 s xv s₁
theorem SrcSt.intro {h₀ h : Heap} {L : Addr} {m : Map} {z : Str} {t : Tok} {J0 : Led → Prop} {s : Shared} {news : Led} {tk : Nat} (F : Fr h₀ L h m) (N : News h₀ L h news) (hj : J0 news) :
    SrcSt h₀ L m z J0 s (.str z t) { s with heap := h, toks := tk } := ⟨t, news, rfl, F, N, hj, rfl⟩
inductive CJ (h₀ : Heap) (L : Addr) (m : Map) (n : Nat) (I D : Addr) (J : Nat → List Value → Led → Prop) (s₁ : Shared) (k : Nat) (s' : Shared) : Prop
  | mk (h' : Heap) (tk i : Nat) (ys : List Value) (oC oc : Obj) (mC : Map) (vc : Option Value) (nx : Led) (f0 : s' = { s₁ with heap := h', toks := tk }) (f1 : i ≤ n) (f2 : k = n + 1 - i) (f3 : ys.length = i) (f4 : IsRangeIter h' I (0 + ((i : Nat) : Int) * 1) ((n : Int) - ((i : Nat) : Int)) 1) (f5 : Fr h₀ L h' m)
      (f6 : News h₀ L h' ([(D + 1, oC), (D + 1 + 1, oc), (D, LCg.lst ys)] ++ nx)) (f7 : NsObj oC mC) (f8 : oc.data = .cell vc) (f9 : ∀ p ∈ nx, p.1 ≠ I ∧ p.1 ≠ D + 1 ∧ p.1 ≠ D + 1 + 1 ∧ p.1 ≠ D) (f10 : J i ys nx) : CJ h₀ L m n I D J s₁ k s'
abbrev cellO : Obj := { cls := .type "cell", data := .cell none }
section
variable {prog : Program} {w : World} {A : Around} {E : Value → Shared → Prop} {s : Shared} {h₀ : Heap} {L : Addr} {m : Map} {env : Env}
theorem newEnv_cell {M : Model} {scope : Scope} {cl : List (Str × Addr)} {x : Str} {Q : Env → Shared → Prop} (hcf : ∀ n, cellsFrom n scope.names cl = (x, n) :: cl) (hpc : ∀ h, pushCells h scope.names = h.push cellO)
    (hQ : ∀ cenv, cenv.locals = s.heap.objs.size → { cenv with scope := relabel scope env } = compEnvC scope ((x, s.heap.objs.size + 1) :: cl) s.heap.objs.size env → Q cenv { s with heap := (s.heap.push { cls := .type "dict", data := .dict #[] }).push cellO }) :
    wpAny M A (newFunctionEnv scope env.globals cl [] env.qual none .none (some env)) Q E s := by
  simp only [newFunctionEnv, Option.isSome_some, if_true]
  refine wpAny_bind (wpAny_alloc ?_)
  refine wpAny_bind (wpAny_layCells _ (fun name kind cells => by cases hkc : kind == NameKind.cell <;> simp [hkc]) _ _ _ _ ?_)
  dsimp only
  rw [hcf, hpc, Heap.size_push]
  simp only [List.forIn_nil]
  exact wpAny_bind (wpAny_pure (wpAny_pure (hQ _ rfl rfl)))

theorem compC_range {elt iter : Expr} {x : Str} {px : Pos} {scope : Scope} {cl : List (Str × Addr)} {pos : Pos} {Q : Value → Shared → Prop} {n : Nat}
    (hclos : closureFor scope env = pure cl) (hcf : ∀ n, cellsFrom n scope.names cl = (x, n) :: cl) (hpc : ∀ h, pushCells h scope.names = h.push cellO) (hkind : scope.kind = .function)
    (hnames : ∀ y ∈ scope.names, y.2 = .local → scope.names.lookup y.1 = some .local) (hx : (relabel scope env).names.lookup x = some .cell) (J : Nat → List Value → Led → Prop) (hn : n ≤ 1000) (hh : A.handled = none)
    (turn : ∀ i t I oI C oC c oc D ys nx (s₁ : Shared) (E' : Value → Shared → Prop), i < n → J i ys nx → oc.data = .cell (some (.int (i : Nat) t)) → Fr h₀ L s₁.heap m → News h₀ L s₁.heap ([(I, oI), (C, oC), (c, oc), (D, LCg.lst ys)] ++ nx) →
      (∀ p ∈ nx, ∀ q ∈ [(I, oI), (C, oC), (c, oc), (D, LCg.lst ys)], p.1 ≠ q.1) → (@Ne Nat I C ∧ @Ne Nat I c ∧ @Ne Nat I D ∧ @Ne Nat C c ∧ @Ne Nat C D ∧ @Ne Nat c D) → ys.length = i → s₁ = { s with heap := s₁.heap, toks := s₁.toks } →
      wpAny (model prog w) A (eval elt (compEnvC scope ((x, c) :: cl) C env)) (CEnd h₀ L m s₁ [(I, oI), (C, oC), (c, oc), (D, LCg.lst ys)] (fun y nx' => J (i + 1) (ys ++ [y]) nx')) E' s₁)
    (done : ∀ D ys nx h tk, J n ys nx → Fr h₀ L h m → News h₀ L h ((D, LCg.lst ys) :: nx) → (∀ p ∈ nx, p.1 ≠ D) → Q (.ref D) { s with heap := h, toks := tk })
    (h : wpAny (model prog w) A (eval iter env) (SrcRg h₀ L m 0 n (J 0 []) s) E s)
    (hs : ∀ x, foldedSetIterable iter env x = pure x) :
    wpAny (model prog w) A (eval (.ListComp elt [⟨.Name x px, iter, [], 0⟩] scope pos) env) Q E s := by
  rw [eval_ListComp]
  refine wpAny_comprehension_free (use := none) rfl hs hclos hkind hnames (wpAny_mono h (fun xv s₁ h₁ => ?_) fun _ _ e => e)
  obtain ⟨r, b, t, u, v, news, rfl, F, N, hr, hb, h0, hs1⟩ := h₁
  obtain rfl : b = (n : Int) := by omega
  have hsz : Builtin.Range.rangeSize 0 (n : Int) 1 = (n : Int) := by rw [rangeSize_nat]; omega
  refine wpAny_pyIter_range hr (small_one (by omega) (by omega) (by omega) (by omega)) ?_
  rw [hsz]
  -- the state with the iterator
  have hI₀ : h₀.get? s₁.heap.objs.size = none := next_is_new F
  generalize hIo : ({ cls := .type "range_iterator", data := .fields #[rawInt 0, rawInt (n : Int), rawInt 1] } : Obj) = io
  have F₂ : Fr h₀ L (s₁.heap.push io) m := F.push io
  have N₂ : News h₀ L (s₁.heap.push io) news := N.pushKeep io
  have hIget : (s₁.heap.push io).get? s₁.heap.objs.size = some io := Heap.get?_push_size _ (by rw [← hIo]; rfl)
  have hIit : IsRangeIter (s₁.heap.push io) s₁.heap.objs.size 0 (n : Int) 1 := by rw [← hIo] at hIget ⊢; exact hIget
  have offI : ∀ p ∈ news, p.1 ≠ s₁.heap.objs.size := fun p hp => Nat.ne_of_lt (Heap.lt_size (N p hp).1)
  have hIlt : s₁.heap.objs.size < (s₁.heap.push io).objs.size := by rw [Heap.size_push]; exact Nat.lt_succ_self _
  have hIL : L ≠ s₁.heap.objs.size := Nat.ne_of_lt F.ns.lt
  generalize s₁.heap.push io = H at F₂ N₂ hIget hIit hIlt ⊢
  generalize s₁.heap.objs.size = I at *
  refine wpAny_newObj_type (newEnv_cell hcf hpc fun cenv hloc hce => ?_)
  rw [hce, hloc]
  dsimp only
  have hDo : ({ cls := .type "list", dict := none, data := .seq ([] : List Value).toArray } : Obj) = LCg.lst [] := rfl
  rw [hDo]
  have sz1 : (H.push (LCg.lst [])).objs.size = H.objs.size + 1 := Heap.size_push ..
  rw [sz1]
  have hDn : h₀.get? H.objs.size = none := next_is_new F₂
  have hCn : h₀.get? (H.objs.size + 1) = none := by have := next_is_new (F₂.push (LCg.lst [])); rwa [sz1] at this
  have hcn : h₀.get? (H.objs.size + 1 + 1) = none := by have := next_is_new ((F₂.push (LCg.lst [])).push { cls := .type "dict", data := .dict #[] }); rwa [Heap.size_push, sz1] at this
  have hLH := ltN F₂.ns.lt
  -- the walk over the iterator
  have W := LCg.range_walks (prog := prog) (w := w) (A := A) (I := I) hh 0 n
  have start : ∃ oC oc mC, News h₀ L (((H.push (LCg.lst [])).push { cls := .type "dict", data := .dict #[] }).push cellO) ([(H.objs.size + 1, oC), (H.objs.size + 1 + 1, oc), (H.objs.size, LCg.lst [])] ++ news) ∧ NsObj oC mC ∧ (∃ v, oc.data = .cell v) ∧ Fr h₀ L (((H.push (LCg.lst [])).push { cls := .type "dict", data := .dict #[] }).push cellO) m ∧ IsRangeIter (((H.push (LCg.lst [])).push { cls := .type "dict", data := .dict #[] }).push cellO) I (0 + ((0 : Nat) : Int) * 1) ((n : Int) - ((0 : Nat) : Int)) 1 := by
    have a1 := N₂.push F₂ (LCg.lst []) rfl
    have a2 := a1.push (F₂.push _) ({ cls := .type "dict", data := .dict #[] } : Obj) rfl
    have a3 := a2.push ((F₂.push _).push _) cellO rfl
    rw [Heap.size_push, sz1] at a3
    refine ⟨({ cls := .type "dict", data := .dict #[] } : Obj), cellO, fun _ => none, fun p hp => a3 p ?_, ?_, ⟨_, rfl⟩, ((F₂.push _).push _).push _, ?_⟩
    · simp only [List.cons_append, List.nil_append, List.mem_cons] at hp ⊢
      rcases hp with h | h | h | h
      · exact .inr (.inl h)
      · exact .inl h
      · exact .inr (.inr (.inl h))
      · exact .inr (.inr (.inr h))
    · have := Heap.Ns.new (H.push (LCg.lst [])) (.type "dict")
      obtain ⟨o, es, ep, e1, e2, e3⟩ := this
      rw [Heap.get?_push_size _ rfl] at e1
      cases e1
      exact ⟨es, ep, e2, e3⟩
    · have := Heap.get?_push_of_some cellO (Heap.get?_push_of_some ({ cls := .type "dict", data := .dict #[] } : Obj) (Heap.get?_push_of_some (LCg.lst []) hIit))
      simpa [IsRangeIter] using this
  have ne1 : (@Ne Nat I (H.objs.size + 1) ∧ @Ne Nat I (H.objs.size + 1 + 1) ∧ @Ne Nat I H.objs.size) := by refine ⟨?_, ?_, ?_⟩ <;> omega
  have off0 : ∀ p ∈ news, p.1 ≠ I ∧ p.1 ≠ H.objs.size + 1 ∧ p.1 ≠ H.objs.size + 1 + 1 ∧ p.1 ≠ H.objs.size := fun p hp => by
    have h1 := Heap.lt_size (N₂ p hp).1
    have h2 := offI p hp
    exact ⟨h2, Nat.ne_of_lt (Nat.lt_succ_of_lt h1), Nat.ne_of_lt (Nat.lt_succ_of_lt (Nat.lt_succ_of_lt h1)), Nat.ne_of_lt h1⟩
  generalize ((H.push (LCg.lst [])).push { cls := .type "dict", data := .dict #[] }).push cellO = H1 at start ⊢
  generalize hD : H.objs.size = D at *
  obtain ⟨oC₀, oc₀, mC₀, NS, hoC₀, ⟨vc₀, hoc₀⟩, FS, IS⟩ := start
  have loop : codeAny (model prog w) A (.compLoop (.ListComp elt [⟨.Name x px, iter, [], 0⟩] scope pos) 0 (.ref I) (.ref D) (compEnvC scope ((x, D + 1 + 1) :: cl) (D + 1) env))
      (compPost (model prog w) A E none Q (.ref D) (D + 1)) { s₁ with heap := H1 } := by
    refine codeAny_compLoop_tests
      (CJ h₀ L m n I D J s₁) ?_ (n + 1)
      ⟨H1, s₁.toks, 0, [], oC₀, oc₀, mC₀, vc₀, news, rfl, Nat.zero_le _, rfl, rfl, IS, FS, NS, hoC₀, hoc₀, off0, h0⟩
    rintro k s' ⟨h', tk, i, ys, oC, oc, mC, vc, nx, rfl, hi, rfl, hyl, hst, F', N', hoC, hoc, off, hJ⟩
    by_cases hlt : i < n
    · refine W.item i _ _ _ hlt hst fun v h₂ tk₂ hPv hst₂ hk₂ => ?_
      obtain ⟨tt, rfl⟩ := hPv
      have zc := (N' (D + 1 + 1, oc) (by simp)).1
      have zc2 : h₂.get? (D + 1 + 1) = some oc := hk₂ _ _ (by simpa using Ne.symm ne1.2.1) zc
      refine wpAny_assign_Name (wpAny_storeName_cell (c := D + 1 + 1) (v₀ := vc) (by show scope.kind = _; exact hkind) hx (by simp [compEnvC]) ⟨oc, zc2, hoc⟩ fun h₃ hv₃ hs₃ => ?_)
      refine wpAny_tests_nil ?_
      simp only [if_true]
      obtain ⟨oc', hc', hdc'⟩ := hv₃
      have kp : ∀ b o, b ≠ I → b ≠ D + 1 + 1 → h'.get? b = some o → h₃.get? b = some o := fun b o e1 e2 e => hs₃.extBut b o e2 (hk₂ b o (by simpa using e1) e)
      have hIne : I ≠ D + 1 + 1 := ne1.2.1
      have hst₃ : IsRangeIter h₃ I (0 + ((i + 1 : Nat) : Int) * 1) ((n : Int) - ((i + 1 : Nat) : Int)) 1 := hs₃.extBut I _ hIne hst₂
      obtain ⟨oI, heI⟩ : ∃ oI, h₃.get? I = some oI := ⟨_, hst₃⟩
      have hcL : D + 1 + 1 ≠ L := Nat.ne_of_gt (Nat.lt_succ_of_lt (Nat.lt_succ_of_lt hLH))
      have F₃ : Fr h₀ L h₃ m := by
        refine ⟨F'.ns.at' fun o e => kp L o hIL (Ne.symm hcL) e, fun b o e => kp b o (fun q => by rw [q, hI₀] at e; cases e) (fun q => by rw [q, hcn] at e; cases e) (F'.keep b o e), F'.above⟩
      have N₃ : News h₀ L h₃ ([(I, oI), (D + 1, oC), (D + 1 + 1, oc'), (D, LCg.lst ys)] ++ nx) := fun p hp => by
        simp only [List.cons_append, List.nil_append, List.mem_cons] at hp
        rcases hp with rfl | rfl | rfl | rfl | hp
        · exact ⟨heI, Ne.symm hIL, hI₀⟩
        · have z := N' (D + 1, oC) (by simp)
          exact ⟨kp _ _ (Ne.symm ne1.1) (by omega) z.1, z.2⟩
        · exact ⟨hc', hcL, hcn⟩
        · have z := N' (D, LCg.lst ys) (by simp)
          exact ⟨kp _ _ (Ne.symm ne1.2.2) (by omega) z.1, z.2⟩
        · have z := N' p (by simp [hp])
          exact ⟨kp _ _ (off p hp).1 (off p hp).2.2.1 z.1, z.2⟩
      have off₃ : ∀ p ∈ nx, ∀ q ∈ [(I, oI), (D + 1, oC), (D + 1 + 1, oc'), (D, LCg.lst ys)], p.1 ≠ q.1 := fun p hp q hq => by
        simp only [List.mem_cons, List.not_mem_nil, or_false] at hq
        have o := off p hp
        rcases hq with rfl | rfl | rfl | rfl
        · exact o.1
        · exact o.2.1
        · exact o.2.2.1
        · exact o.2.2.2
      have hdc'' : oc'.data = .cell (some (.int (i : Nat) tt)) := by rw [hdc']; congr 3; omega
      refine wpAny_mono (turn i tt I oI (D + 1) oC (D + 1 + 1) oc' D ys nx { s₁ with heap := h₃, toks := tk₂ } _ hlt hJ hdc'' F₃ N₃ off₃ ⟨ne1.1, ne1.2.1, ne1.2.2, by omega, by omega, by omega⟩ hyl (by rw [hs1])) (fun y s₄ h₄ => ?_) fun _ _ e => e
      obtain ⟨h₄, tk₄, nx₄, rfl, F₄, N₄, off₄, hJ₄⟩ := h₄
      have zI := (N₄ (I, oI) (by simp)).1
      have zC := (N₄ (D + 1, oC) (by simp))
      have zc4 := (N₄ (D + 1 + 1, oc') (by simp))
      have zD := (N₄ (D, LCg.lst ys) (by simp))
      refine append_at (hsz := by show ys.toArray.size ≤ sizeLine; rw [List.size_toArray, hyl]; rw [sizeLine_eq]; omega) zD.1 fun h₅ hs₅ hD₅ => ?_
      refine ⟨n + 1 - (i + 1), by omega, h₅, tk₄, i + 1, ys ++ [y], oC, oc', mC, _, nx₄, rfl, hlt, rfl, by rw [List.length_append, List.length_singleton, hyl], ?_, F₄.change hs₅ zD.2.1 zD.2.2, fun p hp => ?_, hoC, hdc', fun p hp => ?_, hJ₄⟩
      · have e1 : h₃.get? I = some _ := hst₃
        rw [heI] at e1
        cases e1
        exact hs₅.extBut I _ ne1.2.2 zI
      · simp only [List.cons_append, List.nil_append, List.mem_cons] at hp
        rcases hp with rfl | rfl | rfl | hp
        · exact ⟨hs₅.extBut _ _ (show D + 1 ≠ D by omega) zC.1, zC.2⟩
        · exact ⟨hs₅.extBut _ _ (show D + 1 + 1 ≠ D by omega) zc4.1, zc4.2⟩
        · exact ⟨hD₅.trans (congrArg some (LCg.lst_snoc ys y)), zD.2⟩
        · have z := N₄ p (by simp [hp])
          exact ⟨hs₅.extBut _ _ (off₄ p hp (D, LCg.lst ys) (by simp)) z.1, z.2⟩
      · exact ⟨off₄ p hp (I, oI) (by simp), off₄ p hp (D + 1, oC) (by simp), off₄ p hp (D + 1 + 1, oc') (by simp), off₄ p hp (D, LCg.lst ys) (by simp)⟩
    · obtain rfl : i = n := Nat.le_antisymm hi (Nat.not_lt.mp hlt)
      refine W.done _ _ _ hst fun h₂ tk₂ hk₂ => ?_
      have zC := (N' (D + 1, oC) (by simp))
      have zD := (N' (D, LCg.lst ys) (by simp))
      have zC2 : h₂.get? (D + 1) = some oC := hk₂ _ _ (by simpa using Ne.symm ne1.1) zC.1
      have F₃ : Fr h₀ L h₂ m := ⟨F'.ns.at' fun o e => hk₂ L o (by simpa using hIL) e, fun b o e => hk₂ b o (fun q => by rw [List.mem_singleton.mp q, hI₀] at e; cases e) (F'.keep b o e), F'.above⟩
      refine ⟨mC, hoC.ns zC2, fun h'' hs'' => ?_⟩
      have := done D ys nx h'' tk₂ hJ (F₃.change hs'' zC.2.1 zC.2.2) (fun p hp => ?_) (fun p hp => (off p hp).2.2.2)
      · rw [hs1]; exact this
      · rcases List.mem_cons.mp hp with rfl | hp
        · exact ⟨hs''.extBut _ _ (show D ≠ D + 1 by omega) (hk₂ _ _ (by simpa using Ne.symm ne1.2.2) zD.1), zD.2⟩
        · have z := N' p (by simp [hp])
          exact ⟨hs''.extBut _ _ (off p hp).2.1 (hk₂ _ _ (by simpa using (off p hp).1) z.1), z.2⟩
  exact codeAny_compStart_list loop (W.self 0 _ _ _ IS loop)
end
end Mine
end

section
open PySem PySem.W PySem.Calls PyProof.Rows
set_option Elab.async false
set_option maxRecDepth 100000
set_option maxHeartbeats 2000000
namespace Mine
open PyProof.Rows.LCg (NsObj)
theorem off1_of {D : Addr} (l : Led) (x : LCg.Off1 D l) : ∀ p ∈ l, p.1 ≠ D := by
  induction l with
  | nil => intro p h; cases h
  | cons q r ih =>
    intro p h
    rcases List.mem_cons.mp h with h | h
    · subst h; exact x.1
    · exact ih x.2 p h
section
variable {prog : Program} {w : World} {A : Around} {E : Value → Shared → Prop} {s : Shared} {h₀ : Heap} {L : Addr} {m : Map} {env : Env} {elt iter : Expr} {x : Str} {px : Pos} {scope : Scope} {cl : List (Str × Addr)} {pos : Pos}
/-- what a turn of a block with a plain target shows -/
def LTurn (prog : Program) (w : World) (A : Around) (h₀ : Heap) (L : Addr) (m : Map) (env : Env) (elt : Expr) (x : Str) (scope : Scope) (cl : List (Str × Addr)) (s : Shared) (n : Nat) (P : Nat → Value → Prop) (J : Nat → List Value → Led → Prop) : Prop :=
  ∀ i v I oI C oC D m₂ ys nx (s₁ : Shared) (E' : Value → Shared → Prop), i < n → P i v → J i ys nx → NsObj oC m₂ → m₂ x = some v → Fr h₀ L s₁.heap m → News h₀ L s₁.heap ([(I, oI), (C, oC), (D, LCg.lst ys)] ++ nx) →
      (∀ p ∈ nx, ∀ q ∈ [(I, oI), (C, oC), (D, LCg.lst ys)], p.1 ≠ q.1) → (@Ne Nat I C ∧ @Ne Nat I D ∧ @Ne Nat C D) → s₁ = { s with heap := s₁.heap, toks := s₁.toks } →
      wpAny (model prog w) A (eval elt (compEnvC scope cl C env)) (CEnd h₀ L m s₁ [(I, oI), (C, oC), (D, LCg.lst ys)] (fun y nx' => J (i + 1) (ys ++ [y]) nx')) E' s₁
theorem rest_of {S : Led → Prop} {P : Nat → Value → Prop} {Fin : List Value → Led → Prop} {n : Nat} {news : Led} (J : Nat → List Value → Led → Prop) (hS : ∀ i ys nx, J i ys nx → S nx)
    (turn : LTurn prog w A h₀ L m env elt x scope cl s n P J) (fin : ∀ ys nx, J n ys nx → Fin ys nx) (h0 : J 0 [] news) : LCg.CompRest prog w A h₀ L m env elt x scope cl s S P Fin n 0 [] news := by
  have key : ∀ (j i : Nat) (ys : List Value) (nx : Led), i + j = n → J i ys nx → LCg.CompRest prog w A h₀ L m env elt x scope cl s S P Fin j i ys nx := by
    intro j
    induction j with
    | zero =>
      intro i ys nx hi hJ
      obtain rfl : i = n := by omega
      exact LCg.CompRest.zero (fin ys nx hJ)
    | succ j ih =>
      intro i ys nx hi hJ
      refine LCg.CompRest.succ ?_
      intro v I oI C oC D m₂ h tk E' hv hC hx F N off ne
      have off' := off.mem
      refine wpAny_mono (turn i v I oI C oC D m₂ ys nx { s with heap := h, toks := tk } E' (by omega) hv hJ hC hx F N (fun p hp q hq => ?_) ne rfl) (fun y s₂ hq => ?_) fun _ _ e => e
      · have o := off' p hp
        simp only [List.mem_cons, List.not_mem_nil, or_false] at hq
        rcases hq with rfl | rfl | rfl
        · exact o.1
        · exact o.2.1
        · exact o.2.2
      · obtain ⟨h', tk', nx', e, F', N', of', hJ'⟩ := hq
        exact ⟨h', tk', nx', e, F', N', LCg.Off3.of fun p hp => ⟨of' p hp (I, oI) (by simp), of' p hp (C, oC) (by simp), of' p hp (D, LCg.lst ys) (by simp)⟩, hS _ _ _ hJ', ih (i + 1) _ nx' (by omega) hJ'⟩
  exact key n 0 [] news (by omega) h0
theorem compL_range {Q : Value → Shared → Prop} {n : Nat} {a : Int} (F₀ : Fr h₀ L s.heap m)
    (hclos : closureFor scope env = pure cl) (hcell : ∀ y ∈ scope.names, y.2 ≠ .cell) (hkind : scope.kind = .function)
    (hnames : ∀ y ∈ scope.names, y.2 = .local → scope.names.lookup y.1 = some .local) (hx : scope.names.lookup x = some .local) (J : Nat → List Value → Led → Prop) (hn : n ≤ 1000) (ha : -1000 ≤ a) (ha' : a ≤ 1000) (hh : A.handled = none)
    (turn : LTurn prog w A h₀ L m env elt x scope cl s n (fun i v => ∃ t, v = .int (a + (i : Int)) t) J)
    (done : ∀ D ys nx h tk, J n ys nx → Fr h₀ L h m → News h₀ L h ((D, LCg.lst ys) :: nx) → (∀ p ∈ nx, p.1 ≠ D) → Q (.ref D) { s with heap := h, toks := tk })
    (h : wpAny (model prog w) A (eval iter env) (SrcRg h₀ L m a n (J 0 []) s) E s)
    (hs : ∀ x, foldedSetIterable iter env x = pure x) :
    wpAny (model prog w) A (eval (.ListComp elt [⟨.Name x px, iter, [], 0⟩] scope pos) env) Q E s := by
  refine LCg.ListComp_U F₀ hclos hcell hkind hnames hx (wpAny_mono h (fun xv s₁ h₁ => ?_) fun _ _ e => e) hs
  obtain ⟨r, b, t, u, v, news, rfl, F, N, hr, hb, h0, hs1⟩ := h₁
  refine LCg.CompSrc.range (n := n) hh F N hr (small_one (by omega) (by omega) (by omega) (by omega)) (by rw [rangeSize_nat]; omega) (by rw [sizeLine_eq]; omega) fun g => ?_
  refine rest_of J (fun _ _ _ _ => trivial) (fun i v I oI C oC D m₂ ys nx s₂ E' a1 a2 a3 a4 a5 a6 a7 a8 a9 a10 => turn i v I oI C oC D m₂ ys nx s₂ E' a1 a2 a3 a4 a5 a6 a7 a8 a9 (by rw [a10, hs1])) (fun ys nx hJ D h' tk F' N' o1 => ?_) h0
  have := done D ys nx h' tk hJ F' N' (off1_of _ o1)
  rw [hs1]; exact this

def LSrcL (prog : Program) (w : World) (A : Around) (h₀ : Heap) (L : Addr) (m : Map) (env : Env) (elt : Expr) (x : Str) (scope : Scope) (cl : List (Str × Addr)) (s : Shared) (Q : Value → Shared → Prop) (xv : Value) (s₁ : Shared) : Prop :=
  ∃ (ax : Addr) (vs : List Value) (news : Led) (J : Nat → List Value → Led → Prop), xv = .ref ax ∧ Fr h₀ L s₁.heap m ∧ News h₀ L s₁.heap news ∧ J 0 [] news ∧ vs.length ≤ 1000 ∧ (∀ i ys nx, J i ys nx → LCg.SrcAt h₀ ax vs.toArray nx) ∧
    LTurn prog w A h₀ L m env elt x scope cl s vs.length (fun i v => vs[i]? = some v) J ∧
    (∀ D ys nx h tk, J vs.length ys nx → Fr h₀ L h m → News h₀ L h ((D, LCg.lst ys) :: nx) → (∀ p ∈ nx, p.1 ≠ D) → Q (.ref D) { s with heap := h, toks := tk }) ∧ s₁ = { s with heap := s₁.heap, toks := s₁.toks }
theorem compL_list {Q : Value → Shared → Prop} (F₀ : Fr h₀ L s.heap m)
    (hclos : closureFor scope env = pure cl) (hcell : ∀ y ∈ scope.names, y.2 ≠ .cell) (hkind : scope.kind = .function)
    (hnames : ∀ y ∈ scope.names, y.2 = .local → scope.names.lookup y.1 = some .local) (hx : scope.names.lookup x = some .local) (hh : A.handled = none)
    (h : wpAny (model prog w) A (eval iter env) (LSrcL prog w A h₀ L m env elt x scope cl s Q) E s)
    (hs : ∀ x, foldedSetIterable iter env x = pure x) :
    wpAny (model prog w) A (eval (.ListComp elt [⟨.Name x px, iter, [], 0⟩] scope pos) env) Q E s := by
  refine LCg.ListComp_U F₀ hclos hcell hkind hnames hx (wpAny_mono h (fun xv s₁ h₁ => ?_) fun _ _ e => e) hs
  obtain ⟨ax, vs, news, J, rfl, F, N, h0, hn, hS, turn, done, hs1⟩ := h₁
  refine .inl ⟨ax, vs.toArray, news, rfl, hh, F, N, hS _ _ _ h0, by rw [List.size_toArray, sizeLine_eq]; omega, ?_⟩
  rintro s₂ ⟨g, rfl⟩
  have e : vs.toArray.size = vs.length := List.size_toArray ..
  rw [e]
  refine rest_of J hS (fun i v I oI C oC D m₂ ys nx s₂ E' a1 a2 a3 a4 a5 a6 a7 a8 a9 a10 => turn i v I oI C oC D m₂ ys nx s₂ E' a1 (by simpa using a2) a3 a4 a5 a6 a7 a8 a9 (by rw [a10, hs1])) (fun ys nx hJ D h' tk F' N' o1 => ?_) h0
  have := done D ys nx h' tk hJ F' N' (off1_of _ o1)
  rw [hs1]; exact this

theorem compL_str {Q : Value → Shared → Prop} {z : Str}
    (hclos : closureFor scope env = pure cl) (hcell : ∀ y ∈ scope.names, y.2 ≠ .cell) (hkind : scope.kind = .function)
    (hnames : ∀ y ∈ scope.names, y.2 = .local → scope.names.lookup y.1 = some .local) (hx : scope.names.lookup x = some .local) (J : Nat → List Value → Led → Prop) (hn : z.cps.size ≤ 1000) (hh : A.handled = none)
    (turn : LTurn prog w A h₀ L m env elt x scope cl s z.cps.size (SignAt z) J)
    (done : ∀ D ys nx h tk, J z.cps.size ys nx → Fr h₀ L h m → News h₀ L h ((D, LCg.lst ys) :: nx) → (∀ p ∈ nx, p.1 ≠ D) → Q (.ref D) { s with heap := h, toks := tk })
    (h : wpAny (model prog w) A (eval iter env) (SrcSt h₀ L m z (J 0 []) s) E s)
    (hs : ∀ x, foldedSetIterable iter env x = pure x) :
    wpAny (model prog w) A (eval (.ListComp elt [⟨.Name x px, iter, [], 0⟩] scope pos) env) Q E s := by
  rw [eval_ListComp]
  refine wpAny_comprehension_free (use := none) rfl hs hclos hkind hnames (wpAny_mono h (fun xv s₁ h₁ => ?_) fun _ _ e => e)
  obtain ⟨t, news, rfl, F, N, h0, hs1⟩ := h₁
  have fin : ∀ (o : Obj) (St : Nat → Heap → Prop), Walks prog w A s₁.heap.objs.size [s₁.heap.objs.size] [s₁.heap.objs.size] z.cps.size (SignAt z) St → (∀ i h, St i h → ∃ o, h.get? s₁.heap.objs.size = some o) → St 0 (s₁.heap.push o) →
      wpAny (model prog w) A (newList []) (fun acc s₃ => wpAny (model prog w) A (newFunctionEnv scope env.globals cl [] env.qual none .none (some env)) (fun cenv s₄ =>
        codeAny (model prog w) A (.compStart (.ListComp elt [⟨.Name x px, iter, [], 0⟩] scope pos) 0 (.ref s₁.heap.objs.size) acc { cenv with scope := relabel scope env }) (compPost (model prog w) A E none Q acc cenv.locals) s₄) E s₃) E { s₁ with heap := s₁.heap.push o } := by
    intro o St W hIo hst
    have up : ∀ b o', s₁.heap.get? b = some o' → (s₁.heap.push o).get? b = some o' := fun b o' e => Heap.get?_push_of_some _ e
    have R := rest_of (prog := prog) (w := w) (A := A) (h₀ := h₀) (L := L) (m := m) (env := env) (elt := elt) (x := x) (scope := scope) (cl := cl) (s := { s₁ with heap := s₁.heap.push o }) (S := fun _ => True) (P := SignAt z) (n := z.cps.size) (Fin := LCg.FinE h₀ L m { s₁ with heap := s₁.heap.push o } Q) J (fun _ _ _ _ => trivial)
      (fun i v I oI C oC D m₂ ys nx s₂ E' a1 a2 a3 a4 a5 a6 a7 a8 a9 a10 => turn i v I oI C oC D m₂ ys nx s₂ E' a1 a2 a3 a4 a5 a6 a7 a8 a9 (by rw [a10, hs1]))
      (fun ys nx hJ D h' tk F' N' o1 => by have := done D ys nx h' tk hJ F' N' (off1_of _ o1); rw [hs1]; exact this) h0
    refine LCg.block_U (S := fun _ => True) (Fin := LCg.FinE h₀ L m { s₁ with heap := s₁.heap.push o } Q) W (by rw [sizeLine_eq]; omega) hIo (fun i h h' o' nw st e e' _ _ _ => W.frame i h h' st fun b hb ob he => ?_) hcell hkind hx hst (fun b hb => ?_)
      (F.keeps up) (N.grown up) (Nat.ne_of_lt F.ns.lt) (next_is_new F) (fun p hp => Nat.ne_of_lt (Heap.lt_size (N p hp).1)) trivial R ?_
    · rw [List.mem_singleton.mp hb] at he ⊢
      rw [e] at he; cases he; exact e'
    · rw [List.mem_singleton.mp hb]
      show s₁.heap.objs.size < (s₁.heap.push _).objs.size
      rw [Heap.size_push]; exact Nat.lt_succ_self _
    · intro D C h tk m' ys news' F' N' o1 hn hC₀ hD₀ hCL hDL hCD offC fin
      refine ⟨m', hn, fun h'' hs'' => fin D h'' tk (F'.change hs'' hCL hC₀) (fun p hp => ?_) o1⟩
      refine ⟨hs''.extBut _ _ ?_ (N' p hp).1, (N' p hp).2⟩
      rcases List.mem_cons.mp hp with rfl | hp
      · exact Ne.symm hCD
      · exact offC p hp
  cases ha : z.cps.all (· < 128)
  · exact wpAny_pyIter_wide ha (fin _ _ (Walks.strWide hh _ z t) (fun i h st => by obtain ⟨o, e, _⟩ := st; exact ⟨o, e⟩) ⟨_, Heap.get?_push_size _ rfl, rfl, rfl⟩)
  · exact wpAny_pyIter_ascii ha (fin _ _ (Walks.strAscii hh _ z t) (fun i h st => by obtain ⟨o, e, _⟩ := st; exact ⟨o, e⟩) ⟨_, Heap.get?_push_size _ rfl, rfl, rfl⟩)
end
end Mine
end

section
open PySem PySem.W PySem.Calls PyProof.Rows
set_option Elab.async false
set_option maxRecDepth 100000
set_option maxHeartbeats 2000000
namespace Mine
abbrev Tb := Nat → Nat → Int
def rowOf (T : Tb) (i : Nat) : List Int := (List.range 4).map (T i)
def TabH (h : Heap) (v : Value) (T : Tb) : Prop := ∃ a rs, v = .ref a ∧ h.IsList a (List.toArray rs) ∧ rs.length = 4 ∧ ∀ i, i < 4 → ∃ r xs, rs[i]? = some (.ref r) ∧ h.IsList r (List.toArray xs) ∧ IntsAre xs (rowOf T i)
/-- objects that are new against h -/
def Made (h h' : Heap) (tl : Led) : Prop := ∀ p ∈ tl, h'.get? p.1 = some p.2 ∧ h.get? p.1 = none
def RowsL (tl : Led) (rs : List Value) (T : Tb) (n : Nat) : Prop := rs.length = n ∧ ∀ i, i < n → ∃ r xs c, rs[i]? = some (.ref r) ∧ (r, listOf (List.toArray xs) c) ∈ tl ∧ IntsAre xs (rowOf T i)
def TabL (tl : Led) (v : Value) (T : Tb) : Prop := ∃ a rs c, v = .ref a ∧ (a, listOf (List.toArray rs) c) ∈ tl ∧ RowsL tl rs T 4
theorem TabL.mono {tl tl' : Led} {v : Value} {T : Tb} (x : TabL tl v T) (hs : ∀ p ∈ tl, p ∈ tl') : TabL tl' v T := by
  obtain ⟨a, rs, c, e, hm, hl, hr⟩ := x
  refine ⟨a, rs, c, e, hs _ hm, hl, fun i hi => ?_⟩
  obtain ⟨r, xs, c', e1, e2, e3⟩ := hr i hi
  exact ⟨r, xs, c', e1, hs _ e2, e3⟩
theorem isl {h : Heap} {a : Addr} {vs : List Value} {c : Nat} (e : h.get? a = some (listOf vs.toArray c)) : h.IsList a vs.toArray := ⟨_, e, rfl, c, rfl⟩
theorem TabL.heap {tl : Led} {v : Value} {T : Tb} {h : Heap} (x : TabL tl v T) (hs : ∀ p ∈ tl, h.get? p.1 = some p.2) : TabH h v T := by
  obtain ⟨a, rs, c, e, hm, hl, hr⟩ := x
  refine ⟨a, rs, e, isl (hs _ hm), hl, fun i hi => ?_⟩
  obtain ⟨r, xs, c', e1, e2, e3⟩ := hr i hi
  exact ⟨r, xs, e1, isl (hs _ e2), e3⟩
/-- the least of a list -/
def minL : List Int → Int
  | [] => 0
  | x :: r => r.foldl min x
theorem foldl_min_le : ∀ (r : List Int) (x : Int), r.foldl min x ≤ x ∧ ∀ y ∈ r, r.foldl min x ≤ y
  | [], x => ⟨Int.le_refl _, fun y h => by cases h⟩
  | z :: r, x => by
    obtain ⟨h1, h2⟩ := foldl_min_le r (min x z)
    simp only [List.foldl_cons]
    refine ⟨by omega, fun y hy => ?_⟩
    rcases List.mem_cons.mp hy with rfl | hy
    · omega
    · exact h2 y hy
theorem foldl_min_mem : ∀ (r : List Int) (x : Int), r.foldl min x = x ∨ r.foldl min x ∈ r
  | [], x => .inl rfl
  | z :: r, x => by
    simp only [List.foldl_cons]
    rcases foldl_min_mem r (min x z) with h | h
    · rw [h]
      by_cases hz : x ≤ z
      · rw [Int.min_eq_left hz]; exact .inl rfl
      · rw [Int.min_eq_right (by omega)]; exact .inr (.head _)
    · exact .inr (.tail _ h)
theorem minL_is {l : List Int} {M : Int} (hm : M ∈ l) (hl : ∀ y ∈ l, M ≤ y) : M = minL l := by
  cases l with
  | nil => cases hm
  | cons x r =>
    have h1 := foldl_min_le r x
    have h2 : minL (x :: r) ∈ x :: r := by
      rcases foldl_min_mem r x with h | h
      · rw [minL, h]; exact .head _
      · exact .tail _ h
    have h3 := hl _ h2
    have h4 : minL (x :: r) ≤ M := by
      rcases List.mem_cons.mp hm with rfl | hm
      · exact h1.1
      · exact h1.2 _ hm
    omega
theorem minL_le {l : List Int} {y : Int} (hy : y ∈ l) : minL l ≤ y := by
  cases l with
  | nil => cases hy
  | cons x r =>
    have h1 := foldl_min_le r x
    rcases List.mem_cons.mp hy with rfl | hy
    · exact h1.1
    · exact h1.2 _ hy
theorem minL_mem {l : List Int} (h : l ≠ []) : minL l ∈ l := by
  cases l with
  | nil => exact absurd rfl h
  | cons x r =>
    rcases foldl_min_mem r x with h | h
    · rw [minL, h]; exact .head _
    · exact .tail _ h
section
variable {prog : Program} {w : World} {A : Around} {E : Value → Shared → Prop} {s : Shared} {value slice : Expr}
theorem item_any {l : Addr} {vs : List Value} {k : Int} {u : Tok} {v : Value} {Q : Value → Shared → Prop}
    (hl : s.heap.IsList l vs.toArray) (h0 : 0 ≤ k) (hhi : k < 2 ^ 63) (hx : vs[k.toNat]? = some v) (h : Q v s)
    (hs : subscripted slice false (.ref l) (.int k u) = operate [.ref l, .int k u] (getItem (.ref l) (.int k u)) := by with_unfolding_all rfl) :
    wpAny (model prog w) A (subscriptTail value slice (.ref l) (.int k u)) Q E s :=
  tail_any hl.typeIs slot_list_getitem.lookup (wpAny_getItem_list hl h0 hhi (by simpa using hx) h) hs
end
theorem rowOf_len (T : Tb) (i : Nat) : (rowOf T i).length = 4 := by simp [rowOf]
theorem rowOf_get (T : Tb) (i k : Nat) (h : k < 4) : (rowOf T i).getD k 0 = T i k := by simp [rowOf, List.getD, h]
end Mine
namespace Mine
theorem take_row {T : Tb} {i j : Nat} (h : j < 4) : (rowOf T i).take (j + 1) = (rowOf T i).take j ++ [T i j] := by
  rw [List.take_add_one]
  congr 1
  simp [rowOf, h]
theorem tab_made {h₀ h : Heap} {L D : Addr} {m : Map} {ys : List Value} {T : Tb} {p1 p2 : Addr × Obj} {tl : Led} (_F : Fr h₀ L h m) (N2 : News h₀ L h ((D, LCg.lst ys) :: p1 :: p2 :: tl)) (hr : RowsL tl ys T 4) : ∃ tl, Made h₀ h tl ∧ TabL tl (.ref D) T := by
  refine ⟨(D, LCg.lst ys) :: tl, fun p hp => ?_, D, ys, _, rfl, .head _, hr.1, fun i hi => ?_⟩
  · have hm : p ∈ (D, LCg.lst ys) :: p1 :: p2 :: tl := by
      rcases List.mem_cons.mp hp with rfl | hp
      · exact .head _
      · exact .tail _ (.tail _ (.tail _ hp))
    exact ⟨(N2 p hm).1, (N2 p hm).2.2⟩
  · obtain ⟨r, xs, c, e1, e2, e3⟩ := hr.2 i hi
    exact ⟨r, xs, c, e1, .tail _ e2, e3⟩
theorem row_end {h₀ h : Heap} {L D2 : Addr} {m : Map} {s₁ : Shared} {tk : Nat} {ys zs : List Value} {T : Tb} {q1 q2 q3 q4 p1 p2 : Addr × Obj} {tl : Led} {i : Nat} (F3 : Fr h₀ L h m) (N3 : News h₀ L h ((D2, LCg.lst zs) :: q1 :: q2 :: q3 :: q4 :: p1 :: p2 :: tl))
    (hz : IntsAre zs ((rowOf T i).take 4)) (hoff : ∀ p ∈ p1 :: p2 :: tl, ∀ q ∈ [q1, q2, q3, q4], p.1 ≠ q.1) (hne2 : ∀ p ∈ q1 :: q2 :: q3 :: q4 :: p1 :: p2 :: tl, p.1 ≠ D2) (hyl : ys.length = i) (hr : RowsL tl ys T i) :
    CEnd h₀ L m s₁ [q1, q2, q3, q4] (fun y nx' => ∃ tl, nx' = p1 :: p2 :: tl ∧ RowsL tl (ys ++ [y]) T (i + 1)) (.ref D2) { s₁ with heap := h, toks := tk } := by
  rw [List.take_of_length_le (by rw [rowOf_len]; omega)] at hz
  refine CEnd.intro F3 N3 (p1 :: p2 :: (D2, LCg.lst zs) :: tl) ?_ ?_ ⟨(D2, LCg.lst zs) :: tl, rfl, ?_, ?_⟩
  · intro p hp
    simp only [List.cons_append, List.nil_append, List.mem_cons] at hp ⊢
    rcases hp with h | h | h | h | h | h | h | h <;> simp [h]
  · intro p hp q hq
    rcases List.mem_cons.mp hp with rfl | hp
    · exact hoff _ (.head _) q hq
    · rcases List.mem_cons.mp hp with rfl | hp
      · exact hoff _ (.tail _ (.head _)) q hq
      · rcases List.mem_cons.mp hp with rfl | hp
        · refine Ne.symm (hne2 q ?_)
          simp only [List.mem_cons, List.not_mem_nil, or_false] at hq ⊢
          rcases hq with h | h | h | h <;> simp [h]
        · exact hoff _ (.tail _ (.tail _ hp)) q hq
  · rw [List.length_append, hyl]; rfl
  · intro i' hi'
    by_cases e : i' = i
    · subst e
      exact ⟨D2, zs, _, by rw [List.getElem?_append_right (by omega), hyl]; simp, .head _, hz⟩
    · obtain ⟨r, xs, c', e1, e2, e3⟩ := hr.2 i' (by omega)
      exact ⟨r, xs, c', by rw [List.getElem?_append_left (by omega)]; exact e1, .tail _ e2, e3⟩
end Mine
end

section
open PySem PySem.W PySem.Calls PyProof.Rows
set_option Elab.async false
set_option maxRecDepth 100000
set_option maxHeartbeats 2000000
namespace Mine
open PyProof.Rows.LCg (NsObj)
section
variable {prog : Program} {w : World} {A : Around} {E : Value → Shared → Prop} {s : Shared} {h₀ : Heap} {L : Addr} {m : Map} {env : Env} {kx vx iter : Expr} {x : Str} {px : Pos} {scope : Scope} {cl : List (Str × Addr)} {pos : Pos} {K : Type} [DecidableEq K] {knd : KeyKind prog w K}
inductive DJ (knd : KeyKind prog w K) (h₀ : Heap) (L : Addr) (m : Map) (n : Nat) (I C D : Addr) (St : Nat → Heap → Prop) (J : Nat → List (K × Value) → Led → Prop) (s₂ : Shared) (k : Nat) (s' : Shared) : Prop
  | mk (h' : Heap) (tk i : Nat) (kvs : List (K × Value)) (oD : Obj) (m' : Map) (nx : Led) (f0 : s' = { s₂ with heap := h', toks := tk }) (f1 : i ≤ n) (f2 : k = n + 1 - i) (f3 : St i h') (f4 : Fr h₀ L h' m) (f5 : h'.Ns C m') (f6 : News h₀ L h' ((D, oD) :: nx)) (f7 : oD.IsDictOf knd kvs)
      (f8 : ∀ p ∈ nx, p.1 ≠ I ∧ p.1 ≠ C ∧ p.1 ≠ D) (f9 : J i kvs nx) : DJ knd h₀ L m n I C D St J s₂ k s'
def DTurn (knd : KeyKind prog w K) (A : Around) (h₀ : Heap) (L : Addr) (m : Map) (env : Env) (kx vx : Expr) (x : Str) (scope : Scope) (cl : List (Str × Addr)) (s : Shared) (n : Nat) (P : Nat → Value → Prop) (J : Nat → List (K × Value) → Led → Prop) : Prop :=
  ∀ i v I oI C oC D oD m₂ kvs nx (s₁ : Shared) (E' : Value → Shared → Prop), i < n → P i v → J i kvs nx → oD.IsDictOf knd kvs → NsObj oC m₂ → m₂ x = some v → Fr h₀ L s₁.heap m → News h₀ L s₁.heap ([(I, oI), (C, oC), (D, oD)] ++ nx) →
      (∀ p ∈ nx, ∀ q ∈ [(I, oI), (C, oC), (D, oD)], p.1 ≠ q.1) → (@Ne Nat I C ∧ @Ne Nat I D ∧ @Ne Nat C D) → s₁ = { s with heap := s₁.heap, toks := s₁.toks } →
      wpAny (model prog w) A (eval kx (compEnvC scope cl C env)) (fun kv s₄ => wpAny (model prog w) A (eval vx (compEnvC scope cl C env))
        (CEnd h₀ L m s₁ [(I, oI), (C, oC), (D, oD)] (fun vv nx' => ∃ k, knd.is k kv = true ∧ J (i + 1) (stored kvs k vv) nx')) E' s₄) E' s₁
theorem blockD {s₂ : Shared} {I : Addr} {fp : List Addr} {n : Nat} {P : Nat → Value → Prop} {St : Nat → Heap → Prop} {news : Led} {RR : Value → Addr → Result → Shared → Prop}
    (W : Walks prog w A I fp [I] n P St) (hsz : n ≤ 1000) (hIo : ∀ i h, St i h → ∃ o, h.get? I = some o) (J : Nat → List (K × Value) → Led → Prop) (hJl : ∀ i kvs nx, J i kvs nx → kvs.length ≤ 1000)
    (hSt : ∀ i h h' o nw kvs, St i h → h.get? I = some o → h'.get? I = some o → (∀ b o, h₀.get? b = some o → h'.get? b = some o) → News h₀ L h' nw → J i kvs nw → St i h')
    (hcell : ∀ y ∈ scope.names, y.2 ≠ .cell) (hkind : scope.kind = .function) (hx : scope.names.lookup x = some .local) (hst : St 0 s₂.heap) (hfp : ∀ b ∈ fp, b < s₂.heap.objs.size)
    (F : Fr h₀ L s₂.heap m) (N : News h₀ L s₂.heap news) (hIL : L ≠ I) (hI₀ : h₀.get? I = none) (off : ∀ p ∈ news, p.1 ≠ I) (h0 : J 0 [] news)
    (turn : DTurn knd A h₀ L m env kx vx x scope cl s₂ n P J)
    (hRR : ∀ D oD C h tk m' kvs nx, Fr h₀ L h m → News h₀ L h ((D, oD) :: nx) → oD.IsDictOf knd kvs → (∀ p ∈ nx, p.1 ≠ D) → h.Ns C m' → h₀.get? C = none → h₀.get? D = none → C ≠ L → D ≠ L → C ≠ D → (∀ p ∈ nx, p.1 ≠ C) → J n kvs nx → L < D → RR (.ref D) C (.ok .next) { s₂ with heap := h, toks := tk }) :
    wpAny (model prog w) A newDict (fun acc s₃ => wpAny (model prog w) A (newFunctionEnv scope env.globals cl [] env.qual none .none (some env)) (fun cenv s₄ =>
      codeAny (model prog w) A (.compStart (.DictComp kx vx [⟨.Name x px, iter, [], 0⟩] scope pos) 0 (.ref I) acc { cenv with scope := relabel scope env }) (RR acc cenv.locals) s₄) E s₃) E s₂ := by
  refine wpAny_newObj_type (wpAny_newFunctionEnv hcell (by intro y hy; simp at hy) (fun h₁ hns₁ hsb₁ => ?_) hkind)
  dsimp only at hns₁ hsb₁ ⊢
  generalize hdo : ({ cls := .type "dict", dict := none, data := .dict #[] } : Obj) = dob at *
  have hdo0 : dob.IsDictOf knd [] := by rw [← hdo]; exact ⟨#[], 0, ⟨rfl, rfl, rfl⟩, rfl, (by intro e he; simp at he), .nil, by simp⟩
  have hdf : dob.isFreed = false := by rw [← hdo]; rfl
  generalize hH2 : s₂.heap.push dob = H2 at hns₁ hsb₁ ⊢
  have hC : H2.objs.size = s₂.heap.objs.size + 1 := by rw [← hH2, Heap.size_push]
  have hDC : s₂.heap.objs.size ≠ H2.objs.size := by rw [hC]; exact Nat.ne_of_lt (Nat.lt_succ_self _)
  have below : ∀ b, b < s₂.heap.objs.size → b ≠ H2.objs.size ∧ b ≠ s₂.heap.objs.size := fun b hb => ⟨by rw [hC]; exact Nat.ne_of_lt (Nat.lt_succ_of_lt hb), Nat.ne_of_lt hb⟩
  have hDf : s₂.heap.objs.size ∉ fp := fun hm => Nat.lt_irrefl _ (hfp _ hm)
  have hCf : H2.objs.size ∉ fp := fun hm => by have := hfp _ hm; rw [hC] at this; exact Nat.lt_irrefl _ (Nat.lt_of_succ_lt this)
  have hIf : I ∈ fp := W.sub I (List.mem_singleton.mpr rfl)
  have hIlt : I < s₂.heap.objs.size := hfp I hIf
  have old : ∀ b o, s₂.heap.get? b = some o → h₁.get? b = some o := fun b o e => hsb₁.extBut b o (below b (Heap.lt_size e)).1 (Heap.get?_push_of_some _ (hH2 ▸ Heap.get?_push_of_some _ e))
  have hacc : h₁.get? s₂.heap.objs.size = some dob := hsb₁.extBut _ _ hDC (Heap.get?_push_of_some _ (hH2 ▸ Heap.get?_push_size _ hdf))
  have hst₁ : St 0 h₁ := W.frame _ _ _ hst fun b _ o e => old b o e
  have fresh : ∀ a, s₂.heap.objs.size ≤ a → s₂.heap.get? a = none := fun a ha => by
    cases e : s₂.heap.get? a with
    | none => rfl
    | some o' => exact absurd (Heap.lt_size e) (Nat.not_lt.mpr ha)
  have fresh₀ : ∀ a, s₂.heap.objs.size ≤ a → h₀.get? a = none := fun a ha => by
    cases e : h₀.get? a with
    | none => rfl
    | some o' => have := F.keep a o' e; rw [fresh a ha] at this; cases this
  have hD₀ : h₀.get? s₂.heap.objs.size = none := fresh₀ _ (Nat.le_refl _)
  have hC₀ : h₀.get? H2.objs.size = none := fresh₀ _ (by rw [hC]; exact Nat.le_succ _)
  have hLlt : L < s₂.heap.objs.size := F.ns.lt
  have hDL : s₂.heap.objs.size ≠ L := Ne.symm (below L hLlt).2
  have hCL : H2.objs.size ≠ L := Ne.symm (below L hLlt).1
  have hCI : I ≠ H2.objs.size := (below I hIlt).1
  have hDI : I ≠ s₂.heap.objs.size := (below I hIlt).2
  have off₀ : ∀ p ∈ news, p.1 ≠ I ∧ p.1 ≠ H2.objs.size ∧ p.1 ≠ s₂.heap.objs.size := fun p hp => ⟨off p hp, (below _ (Heap.lt_size (N p hp).1)).1, (below _ (Heap.lt_size (N p hp).1)).2⟩
  have loop : ∀ s₃ : Shared, s₃ = { s₂ with heap := h₁, toks := s₂.toks + ([] : List (Str × Value)).length } →
      codeAny (model prog w) A (.compLoop (.DictComp kx vx [⟨.Name x px, iter, [], 0⟩] scope pos) 0 (.ref I) (.ref s₂.heap.objs.size) (compEnvC scope cl H2.objs.size env))
        (RR (.ref s₂.heap.objs.size) H2.objs.size) s₃ := by
    rintro s₃ rfl
    refine codeAny_compLoop_testsD
      (DJ knd h₀ L m n I H2.objs.size s₂.heap.objs.size St J s₂) ?_ (n + 1)
      ⟨h₁, _, 0, [], dob, _, news, rfl, Nat.zero_le _, rfl, hst₁, F.keeps old, hns₁, fun p hp => ?_, hdo0, off₀, h0⟩
    · rintro k s' ⟨h', tk, i, kvs, oD, m', nx, rfl, hi, rfl, hst', F', hn', N', hoD, off', hJ⟩
      by_cases hlt : i < n
      · refine W.item i _ _ _ hlt hst' fun v h₂ tk₂ hPv hst₂ hk₂ => ?_
        refine wpAny_assign_Name (wpAny_storeName_local (lookup_relabel_local hx) (hn'.at' fun o e => hk₂ _ o (by simpa using Ne.symm hCI) e) (fun h₃ hn₃ hs₃ => ?_) (by simp [compEnvC, relabel, hkind]))
        refine wpAny_tests_nil ?_
        simp only [if_true]
        have hst₃ : St (i + 1) h₃ := W.frame _ _ _ hst₂ fun b hb o e => hs₃.extBut b o (fun q => hCf (by have q' : b = H2.objs.size := q; rw [← q']; exact hb)) e
        obtain ⟨oI, heI⟩ := hIo _ _ hst₃
        obtain ⟨oC, heC, hoC⟩ := LCg.ns_obj hn₃
        have F₃ : Fr h₀ L h₃ m := (LCg.fr_but F' hk₂ hIL hI₀).change hs₃ hCL hC₀
        have N₂ : News h₀ L h₂ ((s₂.heap.objs.size, oD) :: nx) := LCg.news_but N' hk₂ fun p hp => by
          rcases List.mem_cons.mp hp with rfl | hp
          · exact Ne.symm hDI
          · exact (off' p hp).1
        have N₃ : News h₀ L h₃ ([(I, oI), (H2.objs.size, oC), (s₂.heap.objs.size, oD)] ++ nx) := fun p hp => by
          rcases List.mem_cons.mp hp with rfl | hp
          · exact ⟨heI, Ne.symm hIL, hI₀⟩
          · rcases List.mem_cons.mp hp with rfl | hp
            · exact ⟨heC, hCL, hC₀⟩
            · have z := N₂ p hp
              refine ⟨hs₃.extBut _ _ ?_ z.1, z.2⟩
              rcases List.mem_cons.mp hp with rfl | hp
              · exact hDC
              · exact (off' p hp).2.1
        have off₃ : ∀ p ∈ nx, ∀ q ∈ [(I, oI), (H2.objs.size, oC), (s₂.heap.objs.size, oD)], p.1 ≠ q.1 := fun p hp q hq => by
          simp only [List.mem_cons, List.not_mem_nil, or_false] at hq
          rcases hq with rfl | rfl | rfl
          · exact (off' p hp).1
          · exact (off' p hp).2.1
          · exact (off' p hp).2.2
        refine wpAny_mono (turn i v I oI H2.objs.size oC s₂.heap.objs.size oD _ kvs nx { s₂ with heap := h₃, toks := _ } _ hlt hPv hJ hoD hoC (by simp) F₃ N₃ off₃ ⟨hCI, hDI, Ne.symm hDC⟩ rfl) (fun kv s₄ h₄ => wpAny_mono h₄ (fun vv s₅ h₅ => ?_) fun _ _ e => e) fun _ _ e => e
        obtain ⟨h₅, tk₅, nx₅, rfl, F₅, N₅, off₅, k, hkey, hJ₅⟩ := h₅
        have zI := (N₅ (I, oI) (by simp)).1
        have zC := N₅ (H2.objs.size, oC) (by simp)
        have zD := N₅ (s₂.heap.objs.size, oD) (by simp)
        have hlen := hJl _ _ _ hJ
        refine wpAny_dictSet_pairs (hsz := by rw [sizeLine_eq]; omega) hkey (Heap.dictOf_iff.mpr ⟨oD, zD.1, hoD⟩) fun h₆ hD₆ hs₆ => ?_
        obtain ⟨oD₆, hg₆, hi₆⟩ := Heap.dictOf_iff.mp hD₆
        have hst₅ : St (i + 1) h₅ := hSt _ _ _ _ _ _ hst₃ heI zI F₅.keep (fun p hp => N₅ p (List.mem_append_right _ hp)) hJ₅
        refine ⟨n + 1 - (i + 1), by omega, h₆, _, i + 1, _, oD₆, _, nx₅, rfl, hlt, rfl, W.frame _ _ _ hst₅ fun b hb o e => hs₆.extBut b o (fun q => hDf (q ▸ hb)) e, F₅.change hs₆ hDL hD₀,
          (hoC.ns zC.1).sameBut hs₆ (Ne.symm hDC), fun p hp => ?_, hi₆, fun p hp => ?_, hJ₅⟩
        · rcases List.mem_cons.mp hp with rfl | hp
          · exact ⟨hg₆, hDL, hD₀⟩
          · have z := N₅ p (List.mem_append_right _ hp)
            exact ⟨hs₆.extBut _ _ (off₅ p hp (s₂.heap.objs.size, oD) (by simp)) z.1, z.2⟩
        · exact ⟨off₅ p hp (I, oI) (by simp), off₅ p hp (H2.objs.size, oC) (by simp), off₅ p hp (s₂.heap.objs.size, oD) (by simp)⟩
      · obtain rfl : i = n := Nat.le_antisymm hi (Nat.not_lt.mp hlt)
        refine W.done _ _ _ hst' fun h₂ tk₂ hk₂ => ?_
        exact hRR _ oD _ h₂ tk₂ _ kvs nx (LCg.fr_but F' hk₂ hIL hI₀) (LCg.news_but N' hk₂ fun p hp => by
          rcases List.mem_cons.mp hp with rfl | hp
          · exact Ne.symm hDI
          · exact (off' p hp).1) hoD (fun p hp => (off' p hp).2.2) (hn'.at' fun o e => hk₂ _ o (by simpa using Ne.symm hCI) e) hC₀ hD₀ hCL hDL (Ne.symm hDC) (fun p hp => (off' p hp).2.1) hJ hLlt
    · rcases List.mem_cons.mp hp with rfl | hp
      · exact ⟨hacc, hDL, hD₀⟩
      · exact ⟨old _ _ (N p hp).1, (N p hp).2⟩
  exact codeAny_compStart_dict (loop _ rfl) (W.self 0 _ _ _ hst₁ (loop _ rfl))
end
end Mine
end

section
open PySem PySem.W PySem.Calls PyProof.Rows
set_option Elab.async false
set_option maxRecDepth 100000
set_option maxHeartbeats 2000000
namespace Mine
open PyProof.Rows.LCg (NsObj)
section
variable {prog : Program} {w : World} {A : Around} {E : Value → Shared → Prop} {s : Shared} {h₀ : Heap} {L : Addr} {m : Map} {env : Env} {kx vx iter : Expr} {x : Str} {px : Pos} {scope : Scope} {cl : List (Str × Addr)} {pos : Pos} {K : Type} [DecidableEq K] {knd : KeyKind prog w K}
theorem compD_str {Q : Value → Shared → Prop} {z : Str}
    (hclos : closureFor scope env = pure cl) (hcell : ∀ y ∈ scope.names, y.2 ≠ .cell) (hkind : scope.kind = .function)
    (hnames : ∀ y ∈ scope.names, y.2 = .local → scope.names.lookup y.1 = some .local) (hx : scope.names.lookup x = some .local) (J : Nat → List (K × Value) → Led → Prop) (hJl : ∀ i kvs nx, J i kvs nx → kvs.length ≤ 1000) (hn : z.cps.size ≤ 1000) (hh : A.handled = none)
    (turn : DTurn knd A h₀ L m env kx vx x scope cl s z.cps.size (SignAt z) J)
    (done : ∀ D oD kvs nx h tk, J z.cps.size kvs nx → Fr h₀ L h m → News h₀ L h ((D, oD) :: nx) → oD.IsDictOf knd kvs → (∀ p ∈ nx, p.1 ≠ D) → L < D → Q (.ref D) { s with heap := h, toks := tk })
    (h : wpAny (model prog w) A (eval iter env) (SrcSt h₀ L m z (J 0 []) s) E s)
    (hs : ∀ x, foldedSetIterable iter env x = pure x) :
    wpAny (model prog w) A (eval (.DictComp kx vx [⟨.Name x px, iter, [], 0⟩] scope pos) env) Q E s := by
  show wpAny (model prog w) A (comprehension (.DictComp kx vx [⟨.Name x px, iter, [], 0⟩] scope pos) scope env _ newDict false (eval iter env)) Q E s
  refine wpAny_comprehension_free (use := none) rfl hs hclos hkind hnames (wpAny_mono h (fun xv s₁ h₁ => ?_) fun _ _ e => e)
  obtain ⟨t, news, rfl, F, N, h0, hs1⟩ := h₁
  have fin : ∀ (o : Obj) (St : Nat → Heap → Prop), Walks prog w A s₁.heap.objs.size [s₁.heap.objs.size] [s₁.heap.objs.size] z.cps.size (SignAt z) St → (∀ i h, St i h → ∃ o, h.get? s₁.heap.objs.size = some o) → St 0 (s₁.heap.push o) →
      wpAny (model prog w) A newDict (fun acc s₃ => wpAny (model prog w) A (newFunctionEnv scope env.globals cl [] env.qual none .none (some env)) (fun cenv s₄ =>
        codeAny (model prog w) A (.compStart (.DictComp kx vx [⟨.Name x px, iter, [], 0⟩] scope pos) 0 (.ref s₁.heap.objs.size) acc { cenv with scope := relabel scope env }) (compPost (model prog w) A E none Q acc cenv.locals) s₄) E s₃) E { s₁ with heap := s₁.heap.push o } := by
    intro o St W hIo hst
    have up : ∀ b o', s₁.heap.get? b = some o' → (s₁.heap.push o).get? b = some o' := fun b o' e => Heap.get?_push_of_some _ e
    refine blockD W hn hIo J hJl (fun i h h' o' nw kvs st e e' _ _ _ => W.frame i h h' st fun b hb ob he => ?_) hcell hkind hx hst (fun b hb => ?_)
      (F.keeps up) (N.grown up) (Nat.ne_of_lt F.ns.lt) (next_is_new F) (fun p hp => Nat.ne_of_lt (Heap.lt_size (N p hp).1)) h0
      (fun i v I oI C oC D oD m₂ kvs nx s₂ E' a1 a2 a3 a4 a5 a6 a7 a8 a9 a10 a11 => turn i v I oI C oC D oD m₂ kvs nx s₂ E' a1 a2 a3 a4 a5 a6 a7 a8 a9 a10 (by rw [a11, hs1])) ?_
    · rw [List.mem_singleton.mp hb] at he ⊢
      rw [e] at he; cases he; exact e'
    · rw [List.mem_singleton.mp hb]
      show s₁.heap.objs.size < (s₁.heap.push _).objs.size
      rw [Heap.size_push]; exact Nat.lt_succ_self _
    · intro D oD C h tk m' kvs nx F' N' hoD offD hnC hC₀ hD₀ hCL hDL hCD offC hJ hLD
      refine ⟨m', hnC, fun h'' hs'' => ?_⟩
      have := done D oD kvs nx h'' tk hJ (F'.change hs'' hCL hC₀) (fun p hp => ?_) hoD offD hLD
      · rw [hs1]; exact this
      · refine ⟨hs''.extBut _ _ ?_ (N' p hp).1, (N' p hp).2⟩
        rcases List.mem_cons.mp hp with rfl | hp
        · exact Ne.symm hCD
        · exact offC p hp
  cases ha : z.cps.all (· < 128)
  · exact wpAny_pyIter_wide ha (fin _ _ (Walks.strWide hh _ z t) (fun i h st => by obtain ⟨o, e, _⟩ := st; exact ⟨o, e⟩) ⟨_, Heap.get?_push_size _ rfl, rfl, rfl⟩)
  · exact wpAny_pyIter_ascii ha (fin _ _ (Walks.strAscii hh _ z t) (fun i h st => by obtain ⟨o, e, _⟩ := st; exact ⟨o, e⟩) ⟨_, Heap.get?_push_size _ rfl, rfl, rfl⟩)

def DSrcL (knd : KeyKind prog w K) (A : Around) (h₀ : Heap) (L : Addr) (m : Map) (env : Env) (kx vx : Expr) (x : Str) (scope : Scope) (cl : List (Str × Addr)) (s : Shared) (y : Str) (Q : Flow → Shared → Prop) (xv : Value) (s₁ : Shared) : Prop :=
  ∃ (ax : Addr) (vs : List Value) (news : Led) (J : Nat → List (K × Value) → Led → Prop), xv = .ref ax ∧ Fr h₀ L s₁.heap m ∧ News h₀ L s₁.heap news ∧ J 0 [] news ∧ (∀ i kvs nx, J i kvs nx → kvs.length ≤ 1000) ∧ vs.length ≤ 1000 ∧ (∀ i kvs nx, J i kvs nx → LCg.SrcAt h₀ ax vs.toArray nx) ∧
    DTurn knd A h₀ L m env kx vx x scope cl s vs.length (fun i v => vs[i]? = some v) J ∧
    (∀ D oD kvs nx h tk, J vs.length kvs nx → Fr h₀ L h (fun z => if z = y then some (.ref D) else m z) → News h₀ L h ((D, oD) :: nx) → oD.IsDictOf knd kvs → (∀ p ∈ nx, p.1 ≠ D) → L < D → Q .next { s with heap := h, toks := tk }) ∧ s₁ = { s with heap := s₁.heap, toks := s₁.toks }
theorem assignD_list {y : Str} {py spos : Pos} {Q : Flow → Shared → Prop} (hLe : env.locals = L)
    (hsw : swapsWith (.DictComp kx vx [⟨.Name x px, iter, [], 0⟩] scope pos) (some (.Name y py)) spos.line env = pure true)
    (hclos : closureFor scope env = pure cl) (hcell : ∀ y ∈ scope.names, y.2 ≠ .cell) (hkind : scope.kind = .function)
    (hnames : ∀ y ∈ scope.names, y.2 = .local → scope.names.lookup y.1 = some .local) (hx : scope.names.lookup x = some .local)
    (hy : env.kindOf y = some .local) (hp : (env.scope.kind == .class || (env.scope.kind == .module && env.locals != env.globals)) = false)
    (hh : A.handled = none)
    (h : wpAny (model prog w) A (eval iter env) (DSrcL knd A h₀ L m env kx vx x scope cl s y Q) E s)
    (hs : ∀ x, foldedSetIterable iter env x = pure x) :
    wpAny (model prog w) A (exec (.Assign [.Name y py] (.DictComp kx vx [⟨.Name x px, iter, [], 0⟩] scope pos) spos) env) Q E s := by
  subst hLe
  rw [exec_Assign_Name_used _ _ _ _ hsw]
  refine wpAny_bind (wpAny_standAt (wpAny_bind ?_))
  show wpAny _ A (do let _ ← comprehension (.DictComp kx vx [⟨.Name x px, iter, [], 0⟩] scope pos) scope env _ newDict false (eval iter env) (some (assign (.Name y py) env))) _ _ s
  refine wpAny_bind (wpAny_mono (wpAny_comprehension_free (use := some (assign (.Name y py) env)) (Q := fun _ s' => Q .next s') rfl hs hclos hkind hnames
    (wpAny_mono h (fun xv s₁ h₁ => ?_) fun _ _ e => e)) (fun _ s' hq => wpAny_pure (wpAny_pure hq)) fun _ _ e => e)
  obtain ⟨ax, vs, news, J, rfl, F, N, h0, hJl, hn, hS, turn, done, hs1⟩ := h₁
  have hl := (hS _ _ _ h0).list F.keep N
  have hlt : ax < s₁.heap.objs.size := by obtain ⟨_, e, _⟩ := hl; exact Heap.lt_size e
  refine wpAny_pyIter_list hl ?_
  have up : ∀ b o, s₁.heap.get? b = some o → (s₁.heap.push { cls := .type "list_iterator", data := .fields #[.ref ax, .int 0 0] }).get? b = some o := fun b o e => Heap.get?_push_of_some _ e
  have e : vs.toArray.size = vs.length := List.size_toArray ..
  have W := Walks.list (prog := prog) (w := w) (A := A) hh s₁.heap.objs.size ax (Nat.ne_of_lt hlt) vs.toArray
  rw [e] at W
  refine blockD W hn (fun i h st => by obtain ⟨o, e, _⟩ := st.1; exact ⟨o, e⟩) J hJl (fun i h h' o nw kvs st e1 e2 k Nw hJ => LCg.list_st i h h' o nw st e1 e2 k Nw (hS _ _ _ hJ)) hcell hkind hx ⟨⟨_, Heap.get?_push_size _ rfl, rfl, rfl⟩, hl.push _⟩ (fun b hb => ?_)
    (F.keeps up) (N.grown up) (Nat.ne_of_lt F.ns.lt) (next_is_new F) (fun p hp => Nat.ne_of_lt (Heap.lt_size (N p hp).1)) h0
    (fun i v I oI C oC D oD m₂ kvs nx s₂ E' a1 a2 a3 a4 a5 a6 a7 a8 a9 a10 a11 => turn i v I oI C oC D oD m₂ kvs nx s₂ E' a1 (by simpa using a2) a3 a4 a5 a6 a7 a8 a9 a10 (by rw [a11, hs1])) ?_
  · show b < (s₁.heap.push _).objs.size
    rw [Heap.size_push]
    rcases List.mem_cons.mp hb with rfl | hb
    · exact Nat.lt_succ_self _
    · rw [List.mem_singleton.mp hb]; exact Nat.lt_succ_of_lt hlt
  · intro D oD C h' tk m' kvs nx F' N' hoD offD hnC hC₀ hD₀ hCL hDL hCD offC hJ hLD
    show wpAny _ A (assign (.Name y py) env (.ref D)) _ _ _
    refine wpAny_assign_Name (wpAny_storeName_local hy F'.ns (fun h₂ hn₂ hs₂ => ?_) hp)
    have hL₀ : h₀.get? env.locals = none := Heap.get?_none_of_le F'.above
    have F₂ : Fr h₀ env.locals h₂ (fun z => if z = y then some (.ref D) else m z) := ⟨hn₂, fun b o e => hs₂.extBut b o (fun q => by rw [q, hL₀] at e; cases e) (F'.keep b o e), F'.above⟩
    refine ⟨m', hnC.sameBut hs₂ hCL, fun h'' hs'' => ?_⟩
    have := done D oD kvs nx h'' (tk + 1) hJ (F₂.change hs'' hCL hC₀) (fun p hp => ?_) hoD offD hLD
    · rw [hs1]; exact this
    · have z : h₂.get? p.1 = some p.2 := hs₂.extBut _ _ (N' p hp).2.1 (N' p hp).1
      refine ⟨hs''.extBut _ _ ?_ z, (N' p hp).2⟩
      rcases List.mem_cons.mp hp with rfl | hp
      · exact Ne.symm hCD
      · exact offC p hp
end
end Mine
end

section
open PySem PySem.W PySem.Calls PyProof.Rows
set_option Elab.async false
set_option maxRecDepth 100000
set_option maxHeartbeats 2000000
namespace Mine
abbrev Gm := Int → List (List Int)
abbrev It := Nat × List Int × Str
def sgn (x : Int) : Str := if x = 14 then Str.ofString "+" else if x = 22 then Str.ofString "=" else if x = 36 then Str.ofString "+=" else if x + 1 < 256 then Str.ofString "n" else Str.ofString "N"
def expand (G : Gm) : Nat → List Int → Str → List Str
  | 0, _, _ => []
  | _ + 1, [], _ => []
  | f + 1, x :: rest, t => if x = 0 then [t] else if 256 ≤ x then (G x).reverse.flatMap fun b => expand G f (b ++ rest) t else expand G f rest (t ++ sgn x)
def Ok (G : Gm) : Nat → List Int → Prop
  | 0, _ => False
  | _ + 1, [] => False
  | f + 1, x :: rest => x = 0 ∨ ((x = 256 ∨ x = 257 ∨ x = 258) ∧ ∀ b ∈ G x, Ok G f (b ++ rest)) ∨ (0 < x ∧ x < 256 ∧ Ok G f rest)
def exps (G : Gm) (W : List It) : List Str := W.reverse.flatMap fun it => expand G it.1 it.2.1 it.2.2
def meas (W : List It) : Nat := (W.map fun it => 3 ^ it.1).sum
def Fine (G : Gm) (it : It) : Prop := Ok G it.1 it.2.1 ∧ it.2.2.length + 2 * it.1 ≤ 40 ∧ it.2.1.length + it.1 ≤ 20
theorem exps_snoc (G : Gm) (W : List It) (it : It) : exps G (W ++ [it]) = expand G it.1 it.2.1 it.2.2 ++ exps G W := by simp [exps]
theorem meas_snoc (W : List It) (it : It) : meas (W ++ [it]) = meas W + 3 ^ it.1 := by simp [meas]
theorem meas_len (W : List It) : W.length ≤ meas W := by
  induction W with
  | nil => simp [meas]
  | cons it W ih =>
    simp only [meas, List.map_cons, List.sum_cons, List.length_cons] at ih ⊢
    have : 0 < 3 ^ it.1 := Nat.pow_pos (by omega)
    omega
inductive WaitL (tl : Led) : List Value → List It → Prop
  | nil : WaitL tl [] []
  | snoc {ws : List Value} {W : List It} {p q : Addr} {xs : List Value} {tok : Tok} {c1 c2 f : Nat} {sy : List Int} {tx : Str} : WaitL tl ws W → (p, listOf #[.ref q, .str tx tok] c1) ∈ tl → (q, listOf xs.toArray c2) ∈ tl → IntsAre xs sy → WaitL tl (ws ++ [.ref p]) (W ++ [(f, sy, tx)])
theorem WaitL.mono {tl tl' : Led} {ws : List Value} {W : List It} (x : WaitL tl ws W) (hs : ∀ p ∈ tl, p ∈ tl') : WaitL tl' ws W := by
  induction x with
  | nil => exact .nil
  | snoc _ h1 h2 h3 ih => exact .snoc ih (hs _ h1) (hs _ h2) h3
theorem WaitL.len {tl : Led} {ws : List Value} {W : List It} (x : WaitL tl ws W) : ws.length = W.length := by
  induction x with
  | nil => rfl
  | snoc _ _ _ _ ih => simp [ih]
theorem snoc_inj {α : Type} {a b : List α} {x y : α} (h : a ++ [x] = b ++ [y]) : a = b ∧ x = y := by
  have := List.append_inj' h rfl
  exact ⟨this.1, by simpa using this.2⟩
theorem WaitL.inv {tl : Led} {ws : List Value} {W : List It} {f : Nat} {sy : List Int} {tx : Str} (x : WaitL tl ws (W ++ [(f, sy, tx)])) :
    ∃ ws' p q xs tok c1 c2, ws = ws' ++ [.ref p] ∧ WaitL tl ws' W ∧ (p, listOf #[.ref q, .str tx tok] c1) ∈ tl ∧ (q, listOf (List.toArray xs) c2) ∈ tl ∧ IntsAre xs sy := by
  generalize hW : W ++ [(f, sy, tx)] = W' at x
  cases x with
  | nil => simp at hW
  | snoc h0 h1 h2 h3 =>
    obtain ⟨rfl, e⟩ := snoc_inj hW
    cases e
    exact ⟨_, _, _, _, _, _, _, rfl, h0, h1, h2, h3⟩
def FoundH (prog : Program) (w : World) (h : Heap) (v : Value) (G : Gm) : Prop :=
  ∃ d o kvs, v = .ref d ∧ h.get? d = some o ∧ o.IsDictOf (intKind prog w) kvs ∧ ∀ k, (k = 256 ∨ k = 257 ∨ k = 258) → ∃ l bs, valueAt kvs k = some (.ref l) ∧ h.IsList l (List.toArray bs) ∧ bs.length = (G k).length ∧
    ∀ (i : Nat) (b : List Int), (G k)[i]? = some b → ∃ r xs, bs[i]? = some (.ref r) ∧ h.IsList r (List.toArray xs) ∧ IntsAre xs b
end Mine
namespace Mine
theorem ne_nil {prog : Program} {w : World} {A : Around} {E : Value → Shared → Prop} {s : Shared} {a b : Addr} {xs : List Value} {Q : Value → Shared → Prop} (ha : s.heap.IsList a xs.toArray) (hb : s.heap.IsList b #[]) (hu : A.units < cLine) (h : Q (.bool (!xs.isEmpty)) s) :
    wpAny (model prog w) A (compareOp .NotEq (.ref a) (.ref b)) Q E s := by
  refine cmp_ofNotEq ?_
  cases xs with
  | nil => exact SeqAt.RcNeAt.lists (e := fun _ => true) ha hb rfl hu (fun j h1 _ => by simp at h1) prog w E Q (by simpa using h)
  | cons x r => exact SeqAt.RcNeAt.lists_lengths ha hb (by simp) hu prog w E Q (by simpa using h)
theorem perm6 {h₀ h : Heap} {L : Addr} {a b c d e f : Addr × Obj} (N : News h₀ L h [a, b, c, d, e, f]) : News h₀ L h [b, a, e, c, d] := fun p hp => N p (by
  simp only [List.mem_cons, List.not_mem_nil, or_false] at hp ⊢
  rcases hp with h | h | h | h | h <;> simp [h])
end Mine
end

section
open PySem PySem.W PySem.Calls PyProof.Rows
namespace Mine
theorem fresh1 : True := by
  w_top off
  trivial
end Mine
open PySem PySem.W PySem.Calls PyProof.Rows
set_option Elab.async false
set_option maxRecDepth 100000
set_option maxHeartbeats 2000000
namespace Mine

theorem scS_a {x y : Str} (t : Tok) (e : (x == y) = true) : Value.int 0 t = Value.int (scS x y) t := by rw [scS, if_pos (beq_iff_eq.mp e)]
theorem scS_b {x y : Str} (t : Tok) (e1 : (x == y) = false) (e2 : (Txt.lower x == Txt.lower y) = true) : Value.int 1 t = Value.int (scS x y) t := by rw [scS, if_neg (by simpa using e1), if_pos (beq_iff_eq.mp e2)]
theorem scS_c {x y : Str} (t : Tok) (e1 : (x == y) = false) (e2 : (Txt.lower x == Txt.lower y) = false) : Value.int 2 t = Value.int (scS x y) t := by rw [scS, if_neg (by simpa using e1), if_neg (by simpa using e2)]
theorem con_sub {prog : Program} {w : World} {mean : ExcName → Option Value} {mg mb : Str → Option Value} (x y : Str) (tx ty : Tok) (h : Heap) (hx : x.length ≤ 1000) (hy : y.length ≤ 1000) : Con prog w mean mg mb 21 [.str x tx, .str y ty] 1 h (fun r _ => ∃ t, r = .int (scS x y) t) := by
  intro dp un gd cn cs a ccd cl outer A₀ base h₀ L m s Q E hs B F X T hk hd hu hret
  refine wpAny_call ?_
  k_dflt (refine' enter_def (binds := [(Str.ofString "ch_a", .str x tx), (Str.ofString "ch_b", .str y ty)]) ?k1 ?k2 ?k3 ?k5 ?kA ?kF ?kK ?k6 ?k7 ?k8 ?k9 ?kB ?_ ?c2 ?c3 ?c4 ?c5; walk_at "my enter")
  clear B F X T
  intro L' h' hL' F' N' B' X' T'
  k_fold
  walk_at "my steps"
  · exact hret _ _ _ (Fr.keep (by assumption)) ⟨_, scS_a _ (by assumption)⟩
  · exact hret _ _ _ (Fr.keep (by assumption)) ⟨_, scS_b _ (by assumption) (by assumption)⟩
  · exact hret _ _ _ (Fr.keep (by assumption)) ⟨_, scS_c _ (by assumption) (by assumption)⟩
end Mine
end

section
open PySem PySem.W PySem.Calls PyProof.Rows
namespace Mine
theorem fresh2 : True := by
  w_top off
  trivial
end Mine
open PySem PySem.W PySem.Calls PyProof.Rows
set_option Elab.async false
set_option maxRecDepth 100000
set_option maxHeartbeats 2000000
namespace Mine

def LevPost (x y : Str) (k : Int) (r : Value) : Prop := ∃ t z, r = .int z t ∧ ((lev (lst x) (lst y) : Int) ≤ k → z = lev (lst x) (lst y)) ∧ (k < lev (lst x) (lst y) → k < z)
inductive Lv1 (x y : Str) (k : Int) (tx ty tz : Tok) (m : Map) (news : Led) (p : Nat) : Prop
  | mk (t : Tok) (f0 : Has m [(Str.ofString "pre", .int p t), (Str.ofString "max_cost", .int k tz), (Str.ofString "b", .str y ty), (Str.ofString "a", .str x tx)]) (f1 : news = []) (f2 : p ≤ x.length) (f3 : p ≤ y.length) (f4 : (lst x).take p = (lst y).take p) : Lv1 x y k tx ty tz m news p
inductive Lv2 (k : Int) (tz : Tok) (x1 y1 : Str) (tx ty : Tok) (m : Map) (news : Led) (q : Nat) : Prop
  | mk (t : Tok) (f0 : Has m [(Str.ofString "post", .int (-(q : Int)) t), (Str.ofString "max_cost", .int k tz), (Str.ofString "b", .str y1 ty), (Str.ofString "a", .str x1 tx)]) (f1 : news = []) (f2 : q ≤ x1.length) (f3 : q ≤ y1.length) (f4 : (lst x1).drop (x1.length - q) = (lst y1).drop (y1.length - q)) : Lv2 k tz x1 y1 tx ty m news q
inductive Lv3 (x y : Str) (k : Int) (tz : Tok) (x1 y1 : Str) (tx ty : Tok) (m : Map) (news : Led) : Prop
  | mk  (f0 : Has m [(Str.ofString "max_cost", .int k tz), (Str.ofString "b", .str y1 ty), (Str.ofString "a", .str x1 tx)]) (f1 : news = []) (f2 : x1.length ≤ 40) (f3 : y1.length ≤ 40) (f4 : lev (lst x1) (lst y1) = lev (lst x) (lst y)) : Lv3 x y k tz x1 y1 tx ty m news
theorem lv1_step {x y : Str} {p : Nat} (hp1 : p < x.length) (hp2 : p < y.length) (h : (lst x).take p = (lst y).take p) (e : (Txt.item x (p : Int) == Txt.item y (p : Int)) = true) : (lst x).take (p + 1) = (lst y).take (p + 1) := by
  obtain ⟨c, hc⟩ : ∃ c, (lst x)[p]? = some c := ⟨_, List.getElem?_eq_getElem (by rw [lst_len]; exact hp1)⟩
  obtain ⟨d, hd⟩ : ∃ d, (lst y)[p]? = some d := ⟨_, List.getElem?_eq_getElem (by rw [lst_len]; exact hp2)⟩
  rw [item_at x p c hc, item_at y p d hd] at e
  rw [take_snoc _ _ _ hc, take_snoc _ _ _ hd, h, one_inj e]
theorem lv2_step {x y : Str} {q : Nat} (hp1 : q < x.length) (hp2 : q < y.length) (h : (lst x).drop (x.length - q) = (lst y).drop (y.length - q)) (e : (Txt.item x (-(q : Int) - 1) == Txt.item y (-(q : Int) - 1)) = true) : (lst x).drop (x.length - (q + 1)) = (lst y).drop (y.length - (q + 1)) := by
  obtain ⟨c, hc⟩ : ∃ c, (lst x)[x.length - (q + 1)]? = some c := ⟨_, List.getElem?_eq_getElem (by rw [lst_len]; omega)⟩
  obtain ⟨d, hd⟩ : ∃ d, (lst y)[y.length - (q + 1)]? = some d := ⟨_, List.getElem?_eq_getElem (by rw [lst_len]; omega)⟩
  rw [show (-(q : Int) - 1) = -((q + 1 : Nat) : Int) by omega, item_back x (x.length - (q + 1)) (q + 1) c (by omega) (by omega) hc, item_back y (y.length - (q + 1)) (q + 1) d (by omega) (by omega) hd] at e
  have hcd := one_inj e
  have e1 : ∀ (l : List Nat) (i c : Nat), l[i]? = some c → l.drop i = c :: l.drop (i + 1) := by
    intro l i c hl
    obtain ⟨hi, rfl⟩ := List.getElem?_eq_some_iff.mp hl
    exact List.drop_eq_getElem_cons hi
  rw [e1 _ _ _ hc, e1 _ _ _ hd, hcd, show x.length - (q + 1) + 1 = x.length - q by omega, show y.length - (q + 1) + 1 = y.length - q by omega, h]
theorem slice_nn_mine {prog : Program} {w : World} {A : Around} {E : Value → Shared → Prop} {s : Shared} {value slice : Expr} {x : Str} {t : Tok} {h₀ : Heap} {L : Addr} {m : Str → Option Value} {news : List (Addr × Obj)} {Q : Value → Shared → Prop} (hF : Fr h₀ L s.heap m) (hN : News h₀ L s.heap news) (h : ∀ h' t' k, Fr h₀ L h' m → News h₀ L h' news → Q (.str x t') { s with heap := h', toks := k })
    (hs : subscripted slice false (.str x t) (.ref s.heap.objs.size) = operate [.ref s.heap.objs.size, .str x t] (getItem (.str x t) (.ref s.heap.objs.size)) := by with_unfolding_all rfl)
    (ht : ∀ r, letTemporaryGo value (.str x t) r = pure () := by intro _; with_unfolding_all rfl) (hsz : x.length ≤ sizeLine := by size_fits) :
    wpAny (model prog w) A (subscriptTail value slice (.str x t) (.ref s.heap.objs.size)) Q E { s with heap := s.heap.push { cls := .type "slice", data := .fields #[.none, .none, .none] } } :=
  slice_strN_nn hF hN (by rw [slice_all]; exact h) hs ht hsz
local macro_rules | `(tactic| walk_at "subscriptTail Name Slice str ref") => `(tactic| ((with_reducible show wpAny _ _ (subscriptTail _ (Expr.Slice none (some _) none _) _ _) _ _ (Shared.mk (Heap.push _ (Obj.mk _ _ (Data.fields #[Value.none, Value.none, Value.none]) _)) _ _ _ _)); (with_reducible rename Fr _ _ _ _ => F'); (with_reducible rename News _ _ _ _ => N'); refine slice_nn_mine (s := ⟨_, _, _, _, _⟩) F' N' ?_; intro _ _ _ _ _))
theorem lv_empty {x y : Str} {k : Int} (h : x.length = 0 ∨ y.length = 0) : ((lev (lst x) (lst y) : Int) ≤ k → (2 * ((x.length : Int) + y.length)) = lev (lst x) (lst y)) ∧ (k < lev (lst x) (lst y) → k < 2 * ((x.length : Int) + y.length)) := by
  have e : (lev (lst x) (lst y) : Int) = 2 * ((x.length : Int) + y.length) := by
    rcases h with h | h
    · rw [List.length_eq_zero_iff.mp ((lst_len x).trans h), lev_nilL, lst_len, h]; omega
    · rw [List.length_eq_zero_iff.mp ((lst_len y).trans h), lev_nilR, lst_len, h]; omega
  omega
theorem lv_far {x y : Str} {k : Int} (h : k < lev (lst x) (lst y)) : ((lev (lst x) (lst y) : Int) ≤ k → k + 1 = lev (lst x) (lst y)) ∧ (k < lev (lst x) (lst y) → k < k + 1) := by omega
noncomputable def rw0 (a b : List Nat) (j : Nat) : List Int := (List.range a.length).map fun (i : Nat) => (P a b (i + 1) j : Int)
noncomputable def rw1 (a b : List Nat) (j i : Nat) : List Int := (List.range a.length).map fun (i' : Nat) => if i' < i then (P a b (i' + 1) (j + 1) : Int) else (P a b (i' + 1) j : Int)
theorem lv_row0 {a b : List Nat} : rw0 a b 0 = (List.range a.length).map fun (i : Nat) => 2 * ((i : Int) + 1) := by
  unfold rw0
  refine List.map_congr_left fun i hi => ?_
  rw [P_zeroR a b (i + 1) (by have := List.mem_range.mp hi; omega)]
  omega
noncomputable def res (a b : List Nat) (j : Nat) : Nat := if j = 0 then 0 else P a b a.length j
def LvO (k : Int) (tz : Tok) (x y : Str) (tx ty : Tok) (D : Addr) (vs : List Value) (c : Nat) (j : Nat) (m : Map) (news : Led) : Prop :=
  (∃ t, Has m [(Str.ofString "result", .int (res (lst x) (lst y) j) t), (Str.ofString "row", .ref D), (Str.ofString "max_cost", .int k tz), (Str.ofString "b", .str y ty), (Str.ofString "a", .str x tx)]) ∧ news = [(D, listOf vs.toArray c)] ∧ IntsAre vs (rw0 (lst x) (lst y) j)
theorem lv_min (x y : Int) : (if x < y then x else y) = min y x := by
  split <;> omega
theorem lv_get {a b : List Nat} {j i : Nat} (h : i < a.length) : (rw1 a b j i).getD (i : Int).toNat 0 = (P a b (i + 1) j : Int) := by
  simp [rw1, List.getD, h]
theorem lv_cell {a b : List Nat} {i j c d : Nat} (ha : a[i]? = some c) (hb : b[j]? = some d) : min (min (Rf a b i j : Int) (P a b (i + 1) j : Int) + 2) ((P a b i j : Int) + (sc d c : Int)) = (P a b (i + 1) (j + 1) : Int) := by
  rw [← Rf_step a b i j c d ha hb]
  omega
theorem lv_set {a b : List Nat} {j i : Nat} (h : i < a.length) : (rw1 a b j i).set i (P a b (i + 1) (j + 1) : Int) = rw1 a b j (i + 1) := by
  apply List.ext_getElem?
  intro n
  simp only [rw1, List.getElem?_set, List.getElem?_map, List.length_map, List.length_range]
  by_cases hn : i = n
  · subst hn
    simp [h]
  · rw [if_neg hn]
    by_cases h2 : n < a.length
    · simp [h2]
      have e : (n < i + 1) ↔ (n < i) := by omega
      simp [e]
    · simp [h2]
theorem lv_rf {a b : List Nat} {i j : Nat} : (P a b (i + 1) (j + 1) : Int) = (Rf a b (i + 1) j : Int) := by simp [Rf]
theorem lv_rw1 {a b : List Nat} {j : Nat} : rw1 a b j 0 = rw0 a b j := by simp [rw1, rw0]
theorem lv_rw1n {a b : List Nat} {j : Nat} : rw1 a b j a.length = rw0 a b (j + 1) := by
  unfold rw1 rw0
  refine List.map_congr_left fun i hi => ?_
  rw [if_pos (List.mem_range.mp hi)]
theorem lv_mnA {a b : List Nat} {i j : Nat} {mn : Int} (h : ∀ i', 1 ≤ i' → i' ≤ i → mn ≤ (P a b i' (j + 1) : Int)) (hl : (P a b (i + 1) (j + 1) : Int) < mn) : ∀ i', 1 ≤ i' → i' ≤ i + 1 → (P a b (i + 1) (j + 1) : Int) ≤ (P a b i' (j + 1) : Int) := by
  intro i' h1 h2
  by_cases e : i' = i + 1
  · subst e; omega
  · have := h i' h1 (by omega); omega
theorem lv_mnB {a b : List Nat} {i j : Nat} {mn : Int} (h : ∀ i', 1 ≤ i' → i' ≤ i → mn ≤ (P a b i' (j + 1) : Int)) (hl : ¬ (P a b (i + 1) (j + 1) : Int) < mn) : ∀ i', 1 ≤ i' → i' ≤ i + 1 → mn ≤ (P a b i' (j + 1) : Int) := by
  intro i' h1 h2
  by_cases e : i' = i + 1
  · subst e; omega
  · exact h i' h1 (by omega)
theorem ne2 {I a b : Addr} {o o' : Obj} (h1 : a ≠ I) (h2 : b ≠ I) : ∀ p ∈ [(a, o), (b, o')], p.1 ≠ I := by
  intro p hp
  simp only [List.mem_cons, List.not_mem_nil, or_false] at hp
  rcases hp with rfl | rfl
  · exact h1
  · exact h2
theorem lv_low {a b : List Nat} {j : Nat} {k mn : Int} (h : k < mn) (ha : 0 < a.length) (hj : j < b.length) (hm : ∀ i', 1 ≤ i' → i' ≤ a.length → mn ≤ (P a b i' (j + 1) : Int)) : k < (lev a b : Int) := by
  have := P_row_low a b j mn.toNat ha hj fun i h1 h2 => by have := hm i h1 h2; omega
  omega
theorem lv_res {a b : List Nat} {i j : Nat} (h : 0 < i) (hi : i = a.length) : (Rf a b i j : Int) = (res a b (j + 1) : Int) := by
  subst hi
  rw [Rf, if_neg (by omega), res, if_neg (by omega)]
theorem ne1 {I a : Addr} {o : Obj} (h1 : a ≠ I) : ∀ p ∈ [(a, o)], p.1 ≠ I := by
  intro p hp
  rw [List.mem_singleton.mp hp]
  exact h1
theorem News.drop2 {h₀ h : Heap} {L : Addr} {a b : Addr × Obj} (N : News h₀ L h [a, b]) : News h₀ L h [a, b] := N
theorem lv_end {a b : List Nat} (h : 0 < b.length) : res a b b.length = lev a b := by
  rw [res, if_neg (by omega), P_all]
def LvI (k : Int) (tz : Tok) (x y : Str) (tx ty : Tok) (D : Addr) (e : Addr × Obj) (d : Nat) (vs : List Value) (c : Nat) (j i : Nat) (m : Map) (news : Led) : Prop :=
  (∃ (ta tb tc td te tf : Tok) (mn : Int), Has m [(Str.ofString "distance", .int (P (lst x) (lst y) i j) ta), (Str.ofString "result", .int (Rf (lst x) (lst y) i j) tb), (Str.ofString "minimum", .int mn tc), (Str.ofString "bchar", .str ⟨#[d]⟩ td), (Str.ofString "row", .ref D), (Str.ofString "bindex", .int j te), (Str.ofString "max_cost", .int k tz), (Str.ofString "b", .str y ty), (Str.ofString "a", .str x tx)] ∧ ∀ i', 1 ≤ i' → i' ≤ i → mn ≤ P (lst x) (lst y) i' (j + 1)) ∧ news = [e, (D, listOf vs.toArray c)] ∧ IntsAre vs (rw1 (lst x) (lst y) j i)
local macro_rules | `(tactic| walk_at "call ref") => `(tactic| (k_here; (with_reducible show wpAny _ _ (call (Value.ref 21) _ _) _ _ _); k_dflt (refine' Con.use (con_sub _ _ _ _ _ ?a1 ?a2) rfl ?k1 ?k2 ?k3 ?k4 ?k5 ?kd ?ku ?k6 ?_; (case a1 => ((try dsimp only); omega)); (case a2 => ((try dsimp only); omega)); walk_at "use9"; intro r9 h9 tk9 st9 F9 N9 hp9; obtain ⟨t9, e9⟩ := hp9; subst e9; clear st9; (try dsimp only); (try k_fold))))
theorem con_lev {prog : Program} {w : World} {mean : ExcName → Option Value} {mg mb : Str → Option Value} (x y : Str) (k : Int) (tx ty tz : Tok) (h : Heap) (hx : x.length ≤ 40) (hy : y.length ≤ 40) (hk0 : -1 ≤ k) (hk1 : k ≤ 1000) : Con prog w mean mg mb 28 [.str x tx, .str y ty, .int k tz] 2 h (fun r _ => LevPost x y k r) := by
  intro dp un gd cn cs a ccd cl outer A₀ base h₀ L m s Q E hs B F X T hk hd hu hret
  refine wpAny_call ?_
  k_dflt (refine' enter_def (binds := [(Str.ofString "a", .str x tx), (Str.ofString "b", .str y ty), (Str.ofString "max_cost", .int k tz)]) ?k1 ?k2 ?k3 ?k5 ?kA ?kF ?kK ?k6 ?k7 ?k8 ?k9 ?kB ?_ ?c2 ?c3 ?c4 ?c5; walk_at "my enter")
  clear B F X T
  intro L' h' hL' F' N' B' X' T'
  (try dsimp only); (try k_fold)
  walk_at "my steps"
  · rename_i e
    have e := beq_iff_eq.mp e
    subst e
    exact hret _ _ _ (Fr.keep (by assumption)) ⟨_, _, rfl, fun _ => by simp [lev_self], fun h => by simpa [lev_self] using h⟩
  rename Fr _ _ _ _ => F1
  rename News _ _ _ _ => N1
  k_dflt refine' while_cut (n₀ := x.length) (fun n m news => ∃ p, n = x.length - p ∧ Lv1 x y k tx ty tz m news p) (fun m news => ∃ p, Lv1 x y k tx ty tz m news p) F1 N1 ?k3 ?k4 ?k6 ?k5
  case k5 => passes_own
  case k3 => exact ⟨0, rfl, _, ⟨rfl, rfl, rfl, rfl, trivial⟩, rfl, Nat.zero_le _, Nat.zero_le _, by simp⟩
  case k4 =>
    clear F1 N1
    rintro n m₁ news₁ h₁ tk₁ F₁ N₁ ⟨p, rfl, t, H, rfl, hp1, hp2, hp3⟩
    replace F₁ := H.fr F₁
    dsimp only [kstB] at F₁
    (try dsimp only); (try k_fold)
    walk_at "my steps"
    · exact ⟨_, _, _, _, x.length - (p + 1), rfl, by assumption, by assumption, by omega, p + 1, rfl, _, ⟨rfl, rfl, rfl, rfl, trivial⟩, rfl, by omega, by omega, lv1_step (by omega) (by omega) hp3 (by assumption)⟩
    all_goals exact ⟨_, _, _, _, rfl, by assumption, by assumption, p, t, ⟨rfl, rfl, rfl, rfl, trivial⟩, rfl, hp1, hp2, hp3⟩
  case k6 =>
    clear F1 N1
    rintro h₁ tk₁ m₁ news₁ F₁ N₁ ⟨p, t, H, rfl, hp1, hp2, hp3⟩
    replace F₁ := H.fr F₁
    dsimp only [kstB] at F₁
    (try dsimp only); (try k_fold)
    walk_at "my steps"
    have ex1 := slice_from x p hp1
    have ey1 := slice_from y p hp2
    have hxl : (Txt.slice x (some (p : Int)) none).length ≤ 40 := by omega
    have hyl : (Txt.slice y (some (p : Int)) none).length ≤ 40 := by omega
    have hlev : lev (lst (Txt.slice x (some (p : Int)) none)) (lst (Txt.slice y (some (p : Int)) none)) = lev (lst x) (lst y) := by
      rw [ex1, ey1, ← lev_pre ((lst x).take p), List.take_append_drop, hp3, List.take_append_drop]
    rename Fr _ _ _ _ => F1
    rename News _ _ _ _ => N1
    generalize Txt.slice x (some (p : Int)) none = x1 at *
    generalize Txt.slice y (some (p : Int)) none = y1 at *
    k_dflt refine' while_cut (n₀ := x1.length) (fun n m news => ∃ q t1 t2, n = x1.length - q ∧ Lv2 k tz x1 y1 t1 t2 m news q) (fun m news => ∃ q t1 t2, Lv2 k tz x1 y1 t1 t2 m news q) F1 N1 ?k3 ?k4 ?k6 ?k5
    case k5 => passes_own
    case k3 => exact ⟨0, _, _, rfl, _, ⟨rfl, rfl, rfl, rfl, trivial⟩, rfl, Nat.zero_le _, Nat.zero_le _, by simp [← lst_len]⟩
    case k4 =>
      clear F1 N1
      rintro n m₁ news₁ h₁ tk₁ F₁ N₁ ⟨q, t1, t2, rfl, t, H, rfl, hq1, hq2, hq3⟩
      replace F₁ := H.fr F₁
      dsimp only [kstB] at F₁
      have f1 : 0 < q → ((Txt.slice x1 none (some (-(q : Int)))).length : Int) = x1.length - q := fun h0 => by rw [← lst_len, slice_back x1 q h0 hq1, List.length_take, lst_len]; omega
      have f2 : 0 < q → ((Txt.slice y1 none (some (-(q : Int)))).length : Int) = y1.length - q := fun h0 => by rw [← lst_len, slice_back y1 q h0 hq2, List.length_take, lst_len]; omega
      (try dsimp only); (try k_fold)
      walk_at "my steps"
      all_goals first | (exfalso; omega) | exact ⟨_, _, _, _, rfl, by assumption, by assumption, q, t1, t2, t, ⟨rfl, rfl, rfl, rfl, trivial⟩, rfl, hq1, hq2, hq3⟩ | exact ⟨_, _, _, _, x1.length - (q + 1), rfl, by assumption, by assumption, by omega, q + 1, _, _, rfl, _, ⟨vint (x := -(q : Int) - 1) (y := -((q + 1 : Nat) : Int)) (by omega), rfl, rfl, rfl, trivial⟩, rfl, by omega, by omega, lv2_step (by omega) (by omega) hq3 (by assumption)⟩
    case k6 =>
      clear F1 N1
      rintro h₁ tk₁ m₁ news₁ F₁ N₁ ⟨q, t1, t2, t, H, rfl, hq1, hq2, hq3⟩
      replace F₁ := H.fr F₁
      clear H
      dsimp only [kstB] at F₁
      (try walk_at "use"); (try dsimp only); (try k_fold)
      k_dflt refine' execs_cut (h₀ := s.heap) (L := L') [_, _] _ (fun m news => ∃ x2 y2 t1 t2, Lv3 x y k tz x2 y2 t1 t2 m news) ?k1 ?k2
      case k1 =>
        (try dsimp only); (try k_fold)
        rcases Nat.eq_zero_or_pos q with rfl | hq0
        · walk_at "my steps"
          all_goals first | omega | exact ⟨_, _, _, _, rfl, by assumption, by assumption, x1, y1, _, _, ⟨rfl, rfl, rfl, trivial⟩, rfl, hxl, hyl, hlev⟩
        · have ex2 := slice_back x1 q hq0 hq1
          have ey2 := slice_back y1 q hq0 hq2
          have hlev2 : lev (lst (Txt.slice x1 none (some (-(q : Int))))) (lst (Txt.slice y1 none (some (-(q : Int))))) = lev (lst x) (lst y) := by
            rw [ex2, ey2, ← hlev, ← lev_post ((lst x1).drop (x1.length - q)), List.take_append_drop, hq3, List.take_append_drop]
          walk_at "my steps"
          all_goals first | omega | exact ⟨_, _, _, _, rfl, by assumption, by assumption, _, _, _, _, ⟨rfl, rfl, rfl, trivial⟩, rfl, by omega, by omega, hlev2⟩
      case k2 =>
        clear F₁ N₁
        rintro h₁ tk₁ m₁ news₁ F₁ N₁ ⟨x2, y2, t1, t2, H, rfl, hx2, hy2, hlev2⟩
        replace F₁ := H.fr F₁
        clear H
        dsimp only [kstB] at F₁
        clear hlev hyl hxl ey1 ex1 hq1 hq2 hq3 hp1 hp2 hp3
        (try (rename x1.length ≤ x.length => ha; clear ha)); (try (rename y1.length ≤ y.length => ha; clear ha))
        (try walk_at "use"); (try dsimp only); (try k_fold)
        k_dflt refine' execs_cut (h₀ := s.heap) (L := L') [_, _, _] _ (fun m news => ∃ x2 y2 t1 t2, Lv3 x y k tz x2 y2 t1 t2 m news ∧ 1 ≤ x2.length ∧ x2.length ≤ y2.length) ?k1 ?k2
        case k1 =>
          (try dsimp only); (try k_fold)
          walk_at "my steps"
          · exact ⟨_, _, _, _, rfl, by assumption, News.nil, y2, x2, _, _, ⟨⟨rfl, rfl, rfl, trivial⟩, rfl, by omega, by omega, by rw [lev_comm]; exact hlev2⟩, by omega, by omega⟩
          · exact ⟨_, _, _, _, rfl, by assumption, News.nil, x2, y2, _, _, ⟨⟨rfl, rfl, rfl, trivial⟩, rfl, by omega, by omega, hlev2⟩, by omega, by omega⟩
          · refine hret _ _ _ (Fr.keep (by assumption)) ⟨_, _, rfl, ?_⟩
            rw [← hlev2]
            exact lv_empty (.inr (by omega))
          · refine hret _ _ _ (Fr.keep (by assumption)) ⟨_, _, rfl, ?_⟩
            rw [← hlev2]
            exact lv_empty (.inl (by omega))
        case k2 =>
          clear F₁ N₁ hlev2 hx2 hy2
          clear x2 y2
          rintro h₁ tk₁ m₁ news₁ F₁ N₁ ⟨x2, y2, t1, t2, ⟨H, rfl, hx2, hy2, hlev2⟩, hxy1, hxy2⟩
          replace F₁ := H.fr F₁
          clear H
          dsimp only [kstB] at F₁
          (try dsimp only); (try k_fold)
          walk_at "my steps"
          · exact hret _ _ _ (Fr.keep (by assumption)) ⟨_, _, rfl, lv_far (x := x) (y := y) (by rw [← hlev2]; have := lev_len (lst x2) (lst y2); rw [lst_len, lst_len] at this; omega)⟩
          rename Fr _ _ _ _ => F1
          rename News _ _ _ _ => N1
          rename IsRange _ _ _ _ _ _ _ _ => R1
          k_dflt refine' list_range2 rfl F1 N1 R1 (by omega) ?_
          intro D vs c h2 tk2 F2 N2 hlt hi
          clear F1 N1 R1 hlt
          walk_at "my steps"
          rename Fr _ _ _ _ => F1
          rename News _ _ _ _ => N1
          have hlx := lst_len x2
          have hly := lst_len y2
          k_dflt refine' For_invV s.heap ?k1 ?k2 ?k3 ?k4 ?k5
          case k1 => exact rfl
          case k2 => exact rfl
          case k4 => exact fun _ => rfl
          case k5 => passes_own
          case k3 =>
            k_fold
            walk_at "my steps"
            rename IsRange _ _ _ _ _ _ _ _ => R1
            rename Fr _ _ _ _ => F3
            rename News _ _ _ _ => N3
            k_dflt refine' iter_range (fun j m nx => ∃ vs c, LvO k tz x2 y2 t1 t2 D vs c j m nx) rfl R1 (by omega) (by omega) F3 N3 ?k1 ?k2 ?k3
            case k1 => exact ⟨vs, c, ⟨_, vint (by simp [res]), rfl, rfl, rfl, rfl, trivial⟩, rfl, by rw [lv_row0, lst_len]; exact hi⟩
            case k2 =>
              clear F3 N3 R1
              clear hi
              rintro j t m₁ nx h tk I io hj ⟨vs, c, ⟨tr, H⟩, rfl, hi⟩ hsep F₁ N₁
              replace F₁ := H.frX F₁
              clear H
              dsimp only [kstB] at F₁
              have hDI := neN (hsep _ (.head _))
              dsimp only at hDI
              clear hsep
              obtain ⟨d, hd1⟩ : ∃ d, (lst y2)[j]? = some d := ⟨_, List.getElem?_eq_getElem (by rw [lst_len]; omega)⟩
              have hit := item_at y2 j d hd1
              (try dsimp only); (try k_fold)
              walk_at "my steps"
              rw [hit] at *
              rename Fr _ _ _ _ => F1
              rename News _ _ _ _ => N1
              k_dflt refine' For_invV s.heap ?j1 ?j2 ?j3 ?j4 ?j5
              case j1 => exact rfl
              case j2 => exact rfl
              case j4 => exact fun _ => rfl
              case j5 => passes_own
              case j3 =>
                k_fold
                walk_at "my steps"
                rename IsRange _ _ _ _ _ _ _ _ => R1
                rename Fr _ _ _ _ => F3
                rename News _ _ _ _ => N3
                k_dflt refine' iter_range (fun i m nx => ∃ vs, LvI k tz x2 y2 t1 t2 D (I, io) d vs c j i m nx) rfl R1 (by omega) (by omega) F3 N3 ?i1 ?i2 ?i3
                case i1 => exact ⟨vs, ⟨_, _, _, _, _, 0, _, ⟨vint (by rw [P_zeroL _ _ _ (by rw [lst_len]; omega)]; omega), vint (by rw [Rf, if_pos rfl]; omega), rfl, rfl, rfl, rfl, rfl, rfl, rfl, trivial⟩, by intro i' h1 h2; omega⟩, rfl, by rw [lv_rw1]; exact hi⟩
                case i2 =>
                  clear F3 N3 R1
                  clear hi
                  rintro i t m₁ nx h tk I2 io2 hii ⟨vs, ⟨ta, tb, tc, td, te, tf, mn, H, hmn⟩, rfl, hi⟩ hsep F₁ N₁
                  replace F₁ := H.frX F₁
                  clear H
                  dsimp only [kstB] at F₁
                  have hs1 := neN (hsep _ (.head _))
                  have hs2 := neN (hsep _ (.tail _ (.head _)))
                  dsimp only at hs1 hs2
                  clear hsep
                  have hrl : (rw1 (lst x2) (lst y2) j i).length = x2.length := by simp [rw1, lst_len]
                  obtain ⟨e, he1⟩ : ∃ e, (lst x2)[i]? = some e := ⟨_, List.getElem?_eq_getElem (by rw [lst_len]; omega)⟩
                  have hit2 := item_at x2 i e he1
                  (try dsimp only); (try k_fold)
                  walk_at "my steps"
                  all_goals (rw [lv_min, lv_min, lv_get (by rw [lst_len]; omega), hit2, scS_one, lv_cell he1 hd1, show (i : Int).toNat = i from rfl, lv_set (by rw [lst_len]; omega)] at *)
                  · exact ⟨_, _, _, _, rfl, by assumption, by assumption, ne2 hs1 hs2, _, ⟨_, _, _, _, _, 0, _, ⟨rfl, vint lv_rf, rfl, rfl, rfl, rfl, rfl, rfl, rfl, trivial⟩, lv_mnA hmn (by assumption)⟩, rfl, by assumption⟩
                  · exact ⟨_, _, _, _, rfl, by assumption, by assumption, ne2 hs1 hs2, _, ⟨_, _, _, _, _, 0, _, ⟨rfl, vint lv_rf, rfl, rfl, rfl, rfl, rfl, rfl, rfl, trivial⟩, lv_mnB hmn (by assumption)⟩, rfl, by assumption⟩
                case i3 =>
                  clear F3 N3 R1
                  clear hi
                  rintro m₁ nx h tk ⟨vs, ⟨ta, tb, tc, td, te, tf, mn, H, hmn⟩, rfl, hi⟩ F₁ N₁
                  replace F₁ := H.fr F₁
                  clear H
                  dsimp only [kstB] at F₁
                  (try dsimp only); (try k_fold)
                  walk_at "my steps"
                  · exact HeldC.use hQh1 (HeldG.rt (hret _ _ _ (Fr.keep (by assumption)) ⟨_, _, rfl, lv_far (x := x) (y := y) (by rw [← hlev2]; exact lv_low (by omega) (by rw [lst_len]; omega) (by rw [lst_len]; omega) hmn)⟩))
                  · exact ⟨_, _, _, _, rfl, by assumption, News.drop2 (by assumption), ne1 hDI, vs, c, ⟨_, vint (lv_res (i := x2.length) (a := lst x2) (b := lst y2) (by omega) (lst_len x2).symm), rfl, rfl, rfl, rfl, trivial⟩, rfl, by rw [← lv_rw1n, lst_len]; exact hi⟩
            case k3 =>
              clear F3 N3 R1
              clear hi
              rintro m₁ nx h tk ⟨vs, c, ⟨tr, H⟩, rfl, hi⟩ F₁ N₁
              replace F₁ := H.fr F₁
              clear H
              dsimp only [kstB] at F₁
              (try dsimp only); (try k_fold)
              walk_at "my steps"
              refine hret _ _ _ (Fr.keep (by assumption)) ⟨_, _, rfl, ?_⟩
              rw [show (y2.length : Int).toNat = (lst y2).length by rw [lst_len]; rfl, lv_end (by rw [lst_len]; omega), hlev2]
              exact ⟨fun _ => rfl, fun h => h⟩
end Mine
end

section
open PySem PySem.W PySem.Calls PyProof.Rows
namespace Mine
theorem fresh3 : True := by
  w_top off
  trivial
end Mine
open PySem PySem.W PySem.Calls PyProof.Rows
set_option Elab.async false
set_option maxRecDepth 100000
set_option maxHeartbeats 2000000
namespace Mine

def joinT (X Y : Tb) : Tb := fun i j => minL ((List.range (max i j + 1 - i)).map fun d => X i (i + d) + Y (i + d) j)
theorem con_joined {prog : Program} {w : World} {mean : ExcName → Option Value} {mg mb : Str → Option Value} (h : Heap) (va vb : Value) (X Y : Tb) (hX : TabH h va X) (hY : TabH h vb Y) :
    Con prog w mean mg mb 119 [va, vb] 1 h (fun r h' => ∃ tl, Made h h' tl ∧ TabL tl r (joinT X Y)) := by
  intro dp un gd cn cs a ccd cl outer A₀ base h₀ L m s Q E hs B F Xk T hk hd hu hret
  subst hs
  obtain ⟨la, ra, rfl, hla, hra, hA⟩ := hX
  obtain ⟨lb, rb, rfl, hlb, hrb, hB⟩ := hY
  refine wpAny_call ?_
  k_dflt (refine' enter_defC (binds := [(Str.ofString "left", .ref la), (Str.ofString "right", .ref lb)]) ?k1 ?k2 ?k3 ?k5 ?kA ?kF ?kK ?k6 ?k7 ?k8 ?k9 ?kB ?kD ?_ ?c2 ?c3 ?c4; walk_at "my enterC")
  clear B F Xk T
  intro L' h' tk cells hL' F' N' Y' B' X' T'
  k_cells Y'
  (try dsimp only)
  (try k_fold)
  walk_at "my steps"
  rename Fr _ _ _ _ => F1
  rename News _ _ _ _ => N1
  rename_i o1 o2 hd1 hd2
  replace F1 : Fr s.heap L' h' (fun _ => none) := F1
  replace hd1 : o1.data = .cell (some (.ref lb)) := hd1
  replace hd2 : o2.data = .cell (some (.ref la)) := hd2
  k_dflt refine' compC_range (h₀ := s.heap) (L := L') (m := fun _ => none) (n := 4) ?k1 ?k2 ?k3 ?k4 ?k5 ?k6 (fun i ys nx => ∃ tl, nx = (L' + 1 + 1, o1) :: (L' + 1, o2) :: tl ∧ RowsL tl ys (joinT X Y) i) (by omega) rfl ?kt ?kd ?kh ?ks
  case k1 => exact rfl
  case k2 => exact fun _ => rfl
  case k3 => exact fun _ => rfl
  case k4 => exact rfl
  case k5 => decide
  case k6 => exact rfl
  case ks => exact fun _ => rfl
  case kh =>
    (try k_fold)
    walk_at "my steps"
    exact SrcRg.intro (by assumption) (by assumption) (by assumption) (by omega) ⟨[], rfl, rfl, fun i hi => by omega⟩
  case kd =>
    rintro D ys nx h2 tk2 ⟨tl, rfl, hr⟩ F2 N2 hne
    exact hret _ _ _ F2.keep (tab_made F2 N2 hr)
  case kt =>
    rintro i t I oI C oC c oc D ys nx s₁ E' hi ⟨tl, rfl, hr⟩ hoc F2 N2 hoff hne hyl hs1
    clear F1 N1
    simp only [List.cons_append, List.nil_append] at N2
    (try k_fold)
    k_dflt refine' compC_range (h₀ := s.heap) (L := L') (m := fun _ => none) (n := 4) ?j1 ?j2 ?j3 ?j4 ?j5 ?j6 (fun j zs nx => nx = (I, oI) :: (C, oC) :: (c, oc) :: (D, LCg.lst ys) :: (L' + 1 + 1, o1) :: (L' + 1, o2) :: tl ∧ IntsAre zs ((rowOf (joinT X Y) i).take j)) (by omega) rfl ?jt ?jd ?jh ?js
    case j1 => exact rfl
    case j2 => exact fun _ => rfl
    case j3 => exact fun _ => rfl
    case j4 => exact rfl
    case j5 => decide
    case j6 => exact rfl
    case js => exact fun _ => rfl
    case jh =>
      (try k_fold)
      walk_at "my steps"
      exact SrcRg.intro (by assumption) (by assumption) (by assumption) (by omega) ⟨rfl, .nil⟩
    case jd =>
      rintro D2 zs nx h2 tk2 ⟨rfl, hz⟩ F3 N3 hne2
      exact row_end F3 N3 hz hoff hne2 hyl hr
    case jt =>
      rintro j t2 I2 oI2 C2 oC2 c2 oc2 D2 zs nx s₂ E2 hj ⟨rfl, hz⟩ hoc2 F3 N3 hoff2 hne2 hzl hs2
      simp only [List.cons_append, List.nil_append] at N3
      clear F2 N2
      (try k_fold)
      walk_at "my steps"
      rename Fr _ _ _ _ => F4
      rename News _ _ _ _ => N4
      k_dflt refine' compL_range (n := max i j + 1 - i) (a := (i : Int)) F4 ?l1 ?l2 ?l3 ?l4 ?l5 (fun d us nx => nx = (I2, oI2) :: (C2, oC2) :: (c2, oc2) :: (D2, LCg.lst zs) :: (I, oI) :: (C, oC) :: (c, oc) :: (D, LCg.lst ys) :: (L' + 1 + 1, o1) :: (L' + 1, o2) :: tl ∧ IntsAre us ((List.range d).map fun d => X i (i + d) + Y (i + d) j)) (by omega) (by omega) (by omega) rfl ?lt ?ld ?lh ?ls
      case l1 => exact rfl
      case l2 => decide
      case l3 => exact rfl
      case l4 => decide
      case l5 => exact rfl
      case ls => exact fun _ => rfl
      case lh =>
        (try k_fold)
        walk_at "my steps"
        exact SrcRg.intro (by assumption) (by assumption) (by assumption) (by (repeat' split) <;> omega) ⟨rfl, .nil⟩
      case ld =>
        rintro D3 us nx h3 tk3 ⟨rfl, hu⟩ F5 N5 hne3
        (try dsimp only)
        walk_at "my steps"
        k_dflt refine' min_list_N rfl F5 N5 (isl (N5 _ (.head _)).1) hu ?m1 ?_
        case m1 => simp; omega
        intro h4 M t4 tk4 F6 N6 hM hle
        have hval : M = joinT X Y i j := minL_is hM hle
        subst hval
        walk_at "my steps"
        refine CEnd.intro F6 N6 _ (fun p hp => .tail _ hp) hoff2 ⟨rfl, ?_⟩
        rw [take_row hj]
        exact IntsAre.append hz (.cons _ _ .nil)
      case lt =>
        rintro d v I3 oI3 C3 oC3 D3 m₂ us nx s₃ E3 hd3 ⟨t3, rfl⟩ ⟨rfl, hu⟩ hoC3 hm₂ F5 N5 hoff3 hne3 hs3
        simp only [List.cons_append, List.nil_append] at N5
        clear F4 N4
        obtain ⟨r1, xs1, e11, e12, e13⟩ := hA i hi
        obtain ⟨r2, xs2, e21, e22, e23⟩ := hB (i + d) (by omega)
        have g1 := rowOf_len X i
        have g2 := rowOf_len Y (i + d)
        have g3 := rowOf_get X i (i + d) (by omega)
        have g4 := rowOf_get Y (i + d) j hj
        (try k_fold)
        walk_at "my steps"
        k_dflt refine' item_any (vs := ra) (hla.at fun o e => F5.keep _ _ e) (by omega) (by omega) e11 ?_
        walk_at "my steps"
        k_dflt refine' item_any (vs := rb) (hlb.at fun o e => Fr.keep (by assumption) _ _ e) (by omega) (by omega) (by rw [show ((i : Int) + (d : Int)).toNat = i + d by omega]; exact e21) ?_
        walk_at "my steps"
        refine CEnd.intro (by assumption) (by assumption) _ (fun p hp => hp) hoff3 ⟨rfl, ?_⟩
        rw [show ((i : Int) + (d : Int)).toNat = i + d by omega, g3, show (j : Int).toNat = j from rfl, g4, List.range_succ, List.map_append]
        exact IntsAre.append hu (.cons _ _ .nil)
end Mine
end

section
open PySem PySem.W PySem.Calls PyProof.Rows
namespace Mine
theorem fresh4 : True := by
  w_top off
  trivial
end Mine
open PySem PySem.W PySem.Calls PyProof.Rows
set_option Elab.async false
set_option maxRecDepth 100000
set_option maxHeartbeats 2000000
namespace Mine

def Al4 (c : Nat) : Prop := c = 43 ∨ c = 61 ∨ c = 110 ∨ c = 78
theorem sc_tab : ∀ c ∈ [43, 61, 110, 78], ∀ d ∈ [43, 61, 110, 78], sc c d = if c = d then 0 else if (c = 110 ∨ c = 78) ∧ (d = 110 ∨ d = 78) then 1 else 2 := by decide +kernel
theorem occ_tab : ∀ c ∈ [43, 61, 110, 78], (Builtin.Str.occurrences (Str.ofString "nN") ⟨#[c]⟩ 0 (Str.ofString "nN").length 1).isEmpty = !(c == 110 || c == 78) := by decide +kernel
theorem Al4.mem {c : Nat} (h : Al4 c) : c ∈ [43, 61, 110, 78] := by simpa [Al4] using h
theorem pr_a {c d : Nat} (t : Tok) (e : ((⟨#[c]⟩ : Str) == ⟨#[d]⟩) = true) : Value.int 0 t = Value.int (sc c d : Nat) t := by rw [one_inj e, sc_self]; rfl
theorem pr_ne {c d : Nat} (e : ((⟨#[c]⟩ : Str) == ⟨#[d]⟩) = false) : c ≠ d := by rintro rfl; simp at e
theorem pr_b {c d : Nat} (t : Tok) (hc : Al4 c) (hd : Al4 d) (e : ((⟨#[c]⟩ : Str) == ⟨#[d]⟩) = false) (e1 : (Builtin.Str.occurrences (Str.ofString "nN") ⟨#[c]⟩ 0 (Str.ofString "nN").length 1).isEmpty = true) : Value.int 2 t = Value.int (sc c d : Nat) t := by
  rw [occ_tab c hc.mem] at e1
  rw [sc_tab c hc.mem d hd.mem, if_neg (pr_ne e), if_neg]
  · rfl
  · simp at e1; omega
theorem pr_c {c d : Nat} (t : Tok) (hc : Al4 c) (hd : Al4 d) (e : ((⟨#[c]⟩ : Str) == ⟨#[d]⟩) = false) (e1 : (Builtin.Str.occurrences (Str.ofString "nN") ⟨#[d]⟩ 0 (Str.ofString "nN").length 1).isEmpty = true) : Value.int 2 t = Value.int (sc c d : Nat) t := by
  rw [occ_tab d hd.mem] at e1
  rw [sc_tab c hc.mem d hd.mem, if_neg (pr_ne e), if_neg]
  · rfl
  · simp at e1; omega
theorem pr_d {c d : Nat} (t : Tok) (hc : Al4 c) (hd : Al4 d) (e : ((⟨#[c]⟩ : Str) == ⟨#[d]⟩) = false) (e1 : (Builtin.Str.occurrences (Str.ofString "nN") ⟨#[c]⟩ 0 (Str.ofString "nN").length 1).isEmpty = false) (e2 : (Builtin.Str.occurrences (Str.ofString "nN") ⟨#[d]⟩ 0 (Str.ofString "nN").length 1).isEmpty = false) : Value.int 1 t = Value.int (sc c d : Nat) t := by
  rw [occ_tab c hc.mem] at e1
  rw [occ_tab d hd.mem] at e2
  rw [sc_tab c hc.mem d hd.mem, if_neg (pr_ne e), if_pos]
  · rfl
  · simp at e1 e2; omega
theorem con_price {prog : Program} {w : World} {mean : ExcName → Option Value} {mg mb : Str → Option Value} (h : Heap) (c d : Nat) (tx ty : Tok) (hc : Al4 c) (hd : Al4 d) :
    Con prog w mean mg mb 109 [.str ⟨#[c]⟩ tx, .str ⟨#[d]⟩ ty] 1 h (fun r h' => ∃ t, r = .int (sc c d) t) := by
  intro dp un gd cn cs a ccd cl outer A₀ base h₀ L m s Q E hs B F X T hk hdp hu hret
  refine wpAny_call ?_
  k_dflt (refine' enter_def (binds := [(Str.ofString "one", .str ⟨#[c]⟩ tx), (Str.ofString "other", .str ⟨#[d]⟩ ty)]) ?k1 ?k2 ?k3 ?k5 ?kA ?kF ?kK ?k6 ?k7 ?k8 ?k9 ?kB ?_ ?c2 ?c3 ?c4 ?c5; walk_at "my enter")
  clear B F X T
  intro L' h' hL' F' N' B' X' T'
  k_fold
  walk_at "my steps"
  · exact hret _ _ _ (Fr.keep (by assumption)) ⟨_, pr_a _ (by assumption)⟩
  · exact hret _ _ _ (Fr.keep (by assumption)) ⟨_, pr_b _ hc hd (by assumption) (by assumption)⟩
  · exact hret _ _ _ (Fr.keep (by assumption)) ⟨_, pr_c _ hc hd (by assumption) (by assumption)⟩
  · exact hret _ _ _ (Fr.keep (by assumption)) ⟨_, pr_d _ hc hd (by assumption) (by assumption) (by assumption)⟩
end Mine
end

section
open PySem PySem.W PySem.Calls PyProof.Rows
namespace Mine
theorem fresh5 : True := by
  w_top off
  trivial
end Mine
open PySem PySem.W PySem.Calls PyProof.Rows
set_option Elab.async false
set_option maxRecDepth 100000
set_option maxHeartbeats 2000000
namespace Mine

def singL (g : Nat) (t : List Nat) (i j : Nat) : List Int := (2 * ((j : Int) - i) + 2) :: ((t.drop i).take (j - i)).map fun x => 2 * ((j : Int) - i) - 2 + (sc g x : Int)
def singT (g : Nat) (t : List Nat) : Tb := fun i j => minL (singL g t i j)
theorem slice3 (a b c : Nat) : ∀ i : Nat, i < 4 → ∀ j : Nat, j < 4 → lst (Txt.slice ⟨#[a, b, c]⟩ (some (i : Int)) (some (j : Int))) = ([a, b, c].drop i).take (j - i) := by
  intro i hi j hj
  have hi' : i = 0 ∨ i = 1 ∨ i = 2 ∨ i = 3 := by omega
  have hj' : j = 0 ∨ j = 1 ∨ j = 2 ∨ j = 3 := by omega
  rcases hi' with rfl | rfl | rfl | rfl <;> rcases hj' with rfl | rfl | rfl | rfl <;> rfl
local macro_rules | `(tactic| walk_at "call ref") => `(tactic| (k_here; (with_reducible show wpAny _ _ (call (Value.ref 109) _ _) _ _ _); k_dflt (refine' Con.use (con_price _ _ _ _ _ ?a1 ?a2) rfl ?k1 ?k2 ?k3 ?k4 ?k5 ?kd ?ku ?k6 ?_; (case a1 => assumption); (case a2 => assumption); walk_at "use9"; intro r9 h9 tk9 st9 F9 N9 hp9; obtain ⟨t9, e9⟩ := hp9; subst e9; clear st9; (try dsimp only); (try k_fold))))
theorem news_name {h₀ h : Heap} {L : Addr} {news : Led} (_N : News h₀ L h news) : ∃ led, led = news := ⟨news, rfl⟩
theorem al_mem {a b c x : Nat} (h0 : Al4 a) (h1 : Al4 b) (h2 : Al4 c) (h : x ∈ [a, b, c]) : Al4 x := by
  simp only [List.mem_cons, List.not_mem_nil, or_false] at h
  rcases h with rfl | rfl | rfl <;> assumption
set_option maxHeartbeats 1000000 in
theorem con_single {prog : Program} {w : World} {mean : ExcName → Option Value} {mg mb : Str → Option Value} (h : Heap) (g a0 a1 a2 : Nat) (tg tz : Tok) (hg : Al4 g) (h0 : Al4 a0) (h1 : Al4 a1) (h2 : Al4 a2) :
    Con prog w mean mg mb 114 [.str ⟨#[g]⟩ tg, .str ⟨#[a0, a1, a2]⟩ tz] 2 h (fun r h' => ∃ tl, Made h h' tl ∧ TabL tl r (singT g [a0, a1, a2])) := by
  intro dp un gd cn cs a ccd cl outer A₀ base h₀ L m s Q E hs B F Xk T hk hdp hu hret
  subst hs
  refine wpAny_call ?_
  k_dflt (refine' enter_defC (binds := [(Str.ofString "sign", .str ⟨#[g]⟩ tg), (Str.ofString "text", .str ⟨#[a0, a1, a2]⟩ tz)]) ?k1 ?k2 ?k3 ?k5 ?kA ?kF ?kK ?k6 ?k7 ?k8 ?k9 ?kB ?kD ?_ ?c2 ?c3 ?c4; walk_at "my enterC")
  clear B F Xk T
  intro L' h' tk cells hL' F' N' Y' B' X' T'
  k_cells Y'
  (try dsimp only)
  (try k_fold)
  walk_at "my steps"
  rename Fr _ _ _ _ => F1
  rename News _ _ _ _ => N1
  rename_i o1 o2 hd1 hd2
  replace F1 : Fr s.heap L' h' (fun _ => none) := F1
  replace hd1 : o1.data = .cell (some (.str ⟨#[a0, a1, a2]⟩ tz)) := hd1
  replace hd2 : o2.data = .cell (some (.str ⟨#[g]⟩ tg)) := hd2
  k_dflt refine' compC_range (h₀ := s.heap) (L := L') (m := fun _ => none) (n := 4) ?k1 ?k2 ?k3 ?k4 ?k5 ?k6 (fun i ys nx => ∃ tl, nx = (L' + 1 + 1, o1) :: (L' + 1, o2) :: tl ∧ RowsL tl ys (singT g [a0, a1, a2]) i) (by omega) rfl ?kt ?kd ?kh ?ks
  case k1 => exact rfl
  case k2 => exact fun _ => rfl
  case k3 => exact fun _ => rfl
  case k4 => exact rfl
  case k5 => decide
  case k6 => exact rfl
  case ks => exact fun _ => rfl
  case kh =>
    (try k_fold)
    walk_at "my steps"
    exact SrcRg.intro (by assumption) (by assumption) (by assumption) (by omega) ⟨[], rfl, rfl, fun i hi => by omega⟩
  case kd =>
    rintro D ys nx h2 tk2 ⟨tl, rfl, hr⟩ F2 N2 hne
    exact hret _ _ _ F2.keep (tab_made F2 N2 hr)
  case kt =>
    rintro i t I oI C oC c oc D ys nx s₁ E' hi ⟨tl, rfl, hr⟩ hoc F2 N2 hoff hne hyl hs1
    clear F1 N1
    simp only [List.cons_append, List.nil_append] at N2
    (try k_fold)
    k_dflt refine' compC_range (h₀ := s.heap) (L := L') (m := fun _ => none) (n := 4) ?j1 ?j2 ?j3 ?j4 ?j5 ?j6 (fun j zs nx => nx = (I, oI) :: (C, oC) :: (c, oc) :: (D, LCg.lst ys) :: (L' + 1 + 1, o1) :: (L' + 1, o2) :: tl ∧ IntsAre zs ((rowOf (singT g [a0, a1, a2]) i).take j)) (by omega) rfl ?jt ?jd ?jh ?js
    case j1 => exact rfl
    case j2 => exact fun _ => rfl
    case j3 => exact fun _ => rfl
    case j4 => exact rfl
    case j5 => decide
    case j6 => exact rfl
    case js => exact fun _ => rfl
    case jh =>
      (try k_fold)
      walk_at "my steps"
      exact SrcRg.intro (by assumption) (by assumption) (by assumption) (by omega) ⟨rfl, .nil⟩
    case jd =>
      rintro D2 zs nx h2 tk2 ⟨rfl, hz⟩ F3 N3 hne2
      exact row_end F3 N3 hz hoff hne2 hyl hr
    case jt =>
      rintro j t2 I2 oI2 C2 oC2 c2 oc2 D2 zs nx s₂ E2 hj ⟨rfl, hz⟩ hoc2 F3 N3 hoff2 hne2 hzl hs2
      simp only [List.cons_append, List.nil_append] at N3
      clear F2 N2
      (try k_fold)
      walk_at "my steps"
      rename Fr _ _ _ _ => F4
      rename News _ _ _ _ => N4
      have hsl := slice3 a0 a1 a2 i hi j hj
      obtain ⟨led, hled⟩ := news_name N4
      k_dflt refine' compL_str (h₀ := s.heap) (L := L') (m := fun _ => none) (z := Txt.slice ⟨#[a0, a1, a2]⟩ (some (i : Int)) (some (j : Int))) ?l1 ?l2 ?l3 ?l4 ?l5 (fun d us nx => nx = led ∧ IntsAre us (((([a0, a1, a2].drop i).take (j - i)).take d).map fun x => 2 * ((j : Int) - i) - 2 + (sc g x : Int))) ?l6 rfl ?lt ?ld ?lh ?ls
      case l1 => exact rfl
      case l2 => decide
      case l3 => exact rfl
      case l4 => decide
      case l5 => exact rfl
      case l6 => have := Txt.slice_le ⟨#[a0, a1, a2]⟩ (some (i : Int)) (some (j : Int)); simp only [Str.length] at this; simp at this; omega
      case ls => exact fun _ => rfl
      case lh =>
        (try k_fold)
        walk_at "my steps"
        exact SrcSt.intro (by assumption) (by rw [hled]; assumption) ⟨rfl, .nil⟩
      case ld =>
        rintro D3 us nx h3 tk3 ⟨rfl, hu⟩ F5 N5 hne3
        rw [hled] at N5
        (try dsimp only)
        walk_at "my steps"
        rename_i a9 b9
        rw [List.take_of_length_le (by have := congrArg List.length hsl; simp only [lst, Array.length_toList] at this; omega)] at a9 b9
        have hval := minL_is (l := singL g [a0, a1, a2] i j) a9 b9
        subst hval
        refine CEnd.intro (by assumption) (by assumption) _ (fun p hp => .tail _ (.tail _ (.tail _ hp))) hoff2 ⟨rfl, ?_⟩
        rw [take_row hj]
        exact IntsAre.append hz (.cons _ _ .nil)
      case lt =>
        rintro d v I3 oI3 C3 oC3 D3 m₂ us nx s₃ E3 hd3 ⟨x, t3, hx3, rfl⟩ ⟨rfl, hu⟩ hoC3 hm₂ F5 N5 hoff3 hne3 hs3
        rw [hled] at N5
        simp only [List.cons_append, List.nil_append] at N5
        clear F4 N4
        have hx4 : (([a0, a1, a2].drop i).take (j - i))[d]? = some x := by rw [← hsl]; simpa [lst] using hx3
        have hxA : Al4 x := al_mem h0 h1 h2 (List.mem_of_mem_drop (List.mem_of_mem_take (List.mem_of_getElem? hx4)))
        (try k_fold)
        walk_at "my steps"
        refine CEnd.intro (by assumption) (by assumption) nx (by rw [hled]; exact fun p hp => hp) hoff3 ⟨rfl, ?_⟩
        rw [List.take_add_one, hx4, List.map_append]
        exact IntsAre.append hu (.cons _ _ .nil)
end Mine
end

section
open PySem PySem.W PySem.Calls PyProof.Rows
namespace Mine
theorem fresh6 : True := by
  w_top off
  trivial
end Mine
local macro_rules | `(tactic| walk_at "no such key") => `(tactic| skip)
open PySem PySem.W PySem.Calls PyProof.Rows
set_option Elab.async false
set_option maxRecDepth 100000
set_option maxHeartbeats 2000000
namespace Mine

inductive StrsAre : List Value → List Str → Prop
  | nil : StrsAre [] []
  | cons (x : Str) (t : Tok) {vs ss} : StrsAre vs ss → StrsAre (.str x t :: vs) (x :: ss)
theorem StrsAre.len {vs : List Value} {ss : List Str} (h : StrsAre vs ss) : vs.length = ss.length := by
  induction h with
  | nil => rfl
  | cons x t _ ih => simp [ih]
theorem StrsAre.at {vs : List Value} {ss : List Str} (h : StrsAre vs ss) : ∀ (i : Nat) (v : Value), vs[i]? = some v → ∃ x t, ss[i]? = some x ∧ v = Value.str x t := by
  induction h with
  | nil => intro i v e; simp at e
  | cons x t _ ih =>
    intro i v e
    cases i with
    | zero => simp at e; exact ⟨x, t, rfl, e.symm⟩
    | succ i => exact ih i v (by simpa using e)
theorem StrsAre.snoc {vs : List Value} {ss : List Str} (h : StrsAre vs ss) (x : Str) (t : Tok) : StrsAre (vs ++ [.str x t]) (ss ++ [x]) := by
  induction h with
  | nil => exact .cons x t .nil
  | cons y u _ ih => exact .cons y u ih
noncomputable def near (ss : List Str) (y : Str) : Nat := ss.foldl (fun b w => min b (lev (lst w) (lst y))) 99
theorem near_le (ss : List Str) (y : Str) : near ss y ≤ 99 := by
  have : ∀ (ss : List Str) (b : Nat), ss.foldl (fun b w => min b (lev (lst w) (lst y))) b ≤ b := by
    intro ss
    induction ss with
    | nil => intro b; exact Nat.le_refl _
    | cons w r ih => intro b; rw [List.foldl_cons]; exact Nat.le_trans (ih _) (Nat.min_le_left _ _)
  exact this ss 99
theorem near_snoc (ss : List Str) (w y : Str) (i : Nat) (h : ss[i]? = some w) : near (ss.take (i + 1)) y = min (near (ss.take i) y) (lev (lst w) (lst y)) := by
  rw [near, List.take_add_one, h]; simp [near]
theorem nr_a {z : Int} {b n l : Nat} (hn : n = min b l) (h1 : (l : Int) ≤ (b : Int) - 1 → z = l) (h2 : (b : Int) - 1 < l → (b : Int) - 1 < z) (h3 : z < (b : Int)) : z = (n : Int) := by omega
theorem nr_b {z : Int} {b n l : Nat} (hn : n = min b l) (h1 : (l : Int) ≤ (b : Int) - 1 → z = l) (h2 : (b : Int) - 1 < l → (b : Int) - 1 < z) (h3 : ¬ z < (b : Int)) : (b : Int) = (n : Int) := by omega
def Nr (ss : List Str) (y : Str) (ty : Tok) (i : Nat) (m : Map) (nx : Led) : Prop :=
  ∃ t, Has m [(Str.ofString "best", .int (near (ss.take i) y) t), (Str.ofString "text", .str y ty)] ∧ nx = []
local macro_rules | `(tactic| walk_at "call ref") => `(tactic| (k_here; (with_reducible show wpAny _ _ (call (Value.ref 28) _ _) _ _ _); k_dflt (refine' Con.use (con_lev _ _ _ _ _ _ _ ?a1 ?a2 ?a3 ?a4) rfl ?k1 ?k2 ?k3 ?k4 ?k5 ?kd ?ku ?k6 ?_; (case a1 => assumption); (case a2 => assumption); (case a3 => omega); (case a4 => omega); walk_at "use9"; intro r9 h9 tk9 st9 F9 N9 hp9; obtain ⟨t9, z9, e9, hp1, hp2⟩ := hp9; subst e9; clear st9; (try dsimp only); (try k_fold))))
theorem con_nearest {prog : Program} {w : World} {mean : ExcName → Option Value} {mg mb : Str → Option Value} (h : Heap) (ls : Addr) (vs : List Value) (ss : List Str) (y : Str) (ty : Tok) (hl : h.IsList ls vs.toArray) (hv : StrsAre vs ss) (hss : ∀ x ∈ ss, x.length ≤ 40) (hy : y.length ≤ 40) :
    Con prog w mean mg mb 102 [.ref ls, .str y ty] 3 h (fun r _ => ∃ t, r = .int (near ss y) t) := by
  intro dp un gd cn cs a ccd cl outer A₀ base h₀ L m s Q E hs B F X T hk hdp hu hret
  subst hs
  refine wpAny_call ?_
  k_dflt (refine' enter_def (binds := [(Str.ofString "sentences", .ref ls), (Str.ofString "text", .str y ty)]) ?k1 ?k2 ?k3 ?k5 ?kA ?kF ?kK ?k6 ?k7 ?k8 ?k9 ?kB ?_ ?c2 ?c3 ?c4 ?c5; walk_at "my enter")
  clear B F X T
  intro L' h' hL' F' N' B' X' T'
  k_fold
  walk_at "my steps"
  k_dflt refine' For_invV s.heap ?k1 ?k2 ?k3 ?k4 ?k5
  case k1 => exact rfl
  case k2 => exact rfl
  case k4 => exact fun _ => rfl
  case k5 => passes_own
  case k3 =>
    k_fold
    walk_at "my steps"
    rename Fr _ _ _ _ => F3
    rename News _ _ _ _ => N3
    have hl3 := hl.at fun o e => F3.keep _ _ e
    obtain ⟨lo, hlo, _⟩ := id hl
    k_dflt refine' iter_list (Nr ss y ty) rfl hl3 F3 N3 ?i0 ?i1 (.inl ⟨lo, hlo⟩) ?i2 ?i3
    case i0 => exact Nat.ne_of_lt (by rw [hL']; exact Heap.lt_size hlo)
    case i1 => exact ⟨_, ⟨rfl, rfl, trivial⟩, rfl⟩
    case i2 =>
      clear F3 N3 hl3
      rintro i v m₁ nx h tk I io hvi ⟨tb, H, rfl⟩ hsep F₁ N₁
      obtain ⟨x, tx, hxi, rfl⟩ := hv.at i v hvi
      have hx40 := hss x (List.mem_of_getElem? hxi)
      replace F₁ := H.frX F₁
      clear H
      dsimp only [kstB] at F₁
      have hb := near_le (ss.take i) y
      have hn := near_snoc ss x y i hxi
      (try dsimp only); (try k_fold)
      walk_at "my steps"
      · exact ⟨_, _, _, _, rfl, by assumption, by assumption, List.forall_mem_nil _, _, ⟨vint (nr_a hn (by assumption) (by assumption) (by assumption)), rfl, trivial⟩, rfl⟩
      · exact ⟨_, _, _, _, rfl, by assumption, by assumption, List.forall_mem_nil _, _, ⟨vint (nr_b hn (by assumption) (by assumption) (by assumption)), rfl, trivial⟩, rfl⟩
    case i3 =>
      clear F3 N3 hl3
      rintro m₁ nx h tk ⟨tb, H, rfl⟩ F₁ N₁
      replace F₁ := H.fr F₁
      clear H
      dsimp only [kstB] at F₁
      rw [List.take_of_length_le (Nat.le_of_eq hv.len.symm)] at F₁
      (try dsimp only); (try k_fold)
      walk_at "my steps"
      exact hret _ _ _ (Fr.keep (by assumption)) ⟨_, rfl⟩
end Mine
end

section
open PySem PySem.W PySem.Calls PyProof.Rows
namespace Mine
theorem fresh7 : True := by
  w_top off
  trivial
end Mine
open PySem PySem.W PySem.Calls PyProof.Rows
set_option Elab.async false
set_option maxRecDepth 100000
set_option maxHeartbeats 2000000
namespace Mine

theorem con_eof {prog : Program} {w : World} {mean : ExcName → Option Value} {mg mb : Str → Option Value} (h : Heap) (x : Int) (t : Tok) : Con prog w mean mg mb 59 [.int x t] 1 h (fun r _ => r = .bool (x == 0)) := by
  intro dp un gd cn cs a ccd cl outer A₀ base h₀ L m s Q E hs B F X T hk hdp hu hret
  refine wpAny_call ?_
  k_dflt (refine' enter_def (binds := [(Str.ofString "x", .int x t)]) ?k1 ?k2 ?k3 ?k5 ?kA ?kF ?kK ?k6 ?k7 ?k8 ?k9 ?kB ?_ ?c2 ?c3 ?c4 ?c5; walk_at "my enter")
  clear B F X T
  intro L' h' hL' F' N' B' X' T'
  k_fold
  walk_at "my steps"
  exact hret _ _ _ (Fr.keep (by assumption)) rfl
theorem con_nt {prog : Program} {w : World} {mean : ExcName → Option Value} {mg mb : Str → Option Value} (h : Heap) (x : Int) (t : Tok) : Con prog w mean mg mb 52 [.int x t] 1 h (fun r _ => r = .bool (decide (x ≥ 256))) := by
  intro dp un gd cn cs a ccd cl outer A₀ base h₀ L m s Q E hs B F X T hk hdp hu hret
  refine wpAny_call ?_
  k_dflt (refine' enter_def (binds := [(Str.ofString "x", .int x t)]) ?k1 ?k2 ?k3 ?k5 ?kA ?kF ?kK ?k6 ?k7 ?k8 ?k9 ?kB ?_ ?c2 ?c3 ?c4 ?c5; walk_at "my enter")
  clear B F X T
  intro L' h' hL' F' N' B' X' T'
  k_fold
  walk_at "my steps"
  exact hret _ _ _ (Fr.keep (by assumption)) rfl
theorem con_t {prog : Program} {w : World} {mean : ExcName → Option Value} {mg mb : Str → Option Value} (h : Heap) (x : Int) (t : Tok) : Con prog w mean mg mb 45 [.int x t] 1 h (fun r _ => r = .bool (decide (x < 256))) := by
  intro dp un gd cn cs a ccd cl outer A₀ base h₀ L m s Q E hs B F X T hk hdp hu hret
  refine wpAny_call ?_
  k_dflt (refine' enter_def (binds := [(Str.ofString "x", .int x t)]) ?k1 ?k2 ?k3 ?k5 ?kA ?kF ?kK ?k6 ?k7 ?k8 ?k9 ?kB ?_ ?c2 ?c3 ?c4 ?c5; walk_at "my enter")
  clear B F X T
  intro L' h' hL' F' N' B' X' T'
  k_fold
  walk_at "my steps"
  exact hret _ _ _ (Fr.keep (by assumption)) rfl
end Mine
end

section
open PySem PySem.W PySem.Calls PyProof.Rows
set_option Elab.async false
set_option maxRecDepth 100000
set_option maxHeartbeats 2000000
namespace Mine
section
variable {prog : Program} {w : World} {A : Around} {E : Value → Shared → Prop} {s : Shared}
theorem nx_slot_item {it l : Addr} {i : Nat} {items : Array Value} {x : Value} {Q : Option Value → Shared → Prop} (hit : s.heap.IsListIter it l i)
    (hl : s.heap.IsList l items) (hx : items[i]? = some x)
    (hQ : ∀ h', h'.IsListIter it l (i + 1) → Heap.SameBut it s.heap h' → Q (some x) { s with heap := h' }) :
    wpAny (model prog w) A (callSpecial? (.ref it) (Str.ofString "__next__")) Q E s := by
  obtain ⟨o, ho, hc, hd⟩ := id hit
  obtain ⟨ol, hol, _, nl, hdl⟩ := hl
  refine wpAny_callSpecial?_slot (name := Str.ofString "__next__") hit.typeIs slot_listiter_next
    (wpAny_call_entry slot_listiter_next hit.typeIs entry_listiter_next ?_ (args_listiter_next _))
  show wpAny _ _ (field (.ref it) 0 >>= _) _ _ s
  refine wpAny_bind (wpAny_field ho hd (x := .ref l) rfl ?_)
  show wpAny _ _ (if (Value.ref l == Value.none) = true then _ else _) _ _ s
  rw [if_neg (show ¬ ((Value.ref l == Value.none) = true) from Bool.false_ne_true)]
  show wpAny _ _ (field (.ref it) 1 >>= _) _ _ s
  refine wpAny_bind (wpAny_field ho hd (x := .int i 0) rfl ?_)
  show wpAny _ _ (seqItems? (.ref l) >>= _) _ _ s
  refine wpAny_bind (wpAny_seqItems hol hdl ?_)
  simp only [Int.toNat_natCast, hx]
  refine wpAny_bind (wpAny_setField ho hd (by simp) (wpAny_pure ⟨x, rfl, hQ _ ?_ (Heap.SameBut.update ..)⟩))
  exact ⟨_, Heap.get?_update_self _ ho (Obj.isFreed_of_fields (Obj.data_mapFields hd _)), (Obj.cls_mapFields ..).trans hc, by
    rw [Obj.data_mapFields hd]; simp [rawInt]⟩
theorem nx_slot_end {it l : Addr} {i : Nat} {items : Array Value} {Q : Option Value → Shared → Prop} (hh : A.handled = none) (hit : s.heap.IsListIter it l i)
    (hl : s.heap.IsList l items) (hx : items[i]? = none)
    (hQ : ∀ h₁ h' e, Heap.SameBut it s.heap h₁ → Heap.MadeExcOf h₁ h' e (.type "StopIteration") [] → E (.ref e) { s with heap := h' }) :
    wpAny (model prog w) A (callSpecial? (.ref it) (Str.ofString "__next__")) Q E s := by
  obtain ⟨o, ho, hc, hd⟩ := id hit
  obtain ⟨ol, hol, _, nl, hdl⟩ := hl
  refine wpAny_callSpecial?_slot (name := Str.ofString "__next__") hit.typeIs slot_listiter_next
    (wpAny_call_entry slot_listiter_next hit.typeIs entry_listiter_next ?_ (args_listiter_next _))
  show wpAny _ _ (field (.ref it) 0 >>= _) _ _ s
  refine wpAny_bind (wpAny_field ho hd (x := .ref l) rfl ?_)
  show wpAny _ _ (if (Value.ref l == Value.none) = true then _ else _) _ _ s
  rw [if_neg (show ¬ ((Value.ref l == Value.none) = true) from Bool.false_ne_true)]
  show wpAny _ _ (field (.ref it) 1 >>= _) _ _ s
  refine wpAny_bind (wpAny_field ho hd (x := .int i 0) rfl ?_)
  show wpAny _ _ (seqItems? (.ref l) >>= _) _ _ s
  refine wpAny_bind (wpAny_seqItems hol hdl ?_)
  simp only [Int.toNat_natCast, hx]
  refine wpAny_bind (wpAny_rule (wpAny_bind (wpAny_setField ho hd (by simp) ?_)))
  show wpAny _ _ (newExc (.type "StopIteration") [] >>= _) _ _ _
  refine wpAny_bind ?_
  simp only [newExc, newTuple]
  refine wpAny_bind (wpAny_newObj_type ?_ (by size_fits))
  refine wpAny_bind (m := firstArgMember _ _) (wpAny_of_eq (a := Value.none) (by first | rfl | (simp only [firstArgMember]; rfl)) ?_)
  refine wpAny_newObj_type ?_ (by size_fits)
  simp only [raiseNew]
  refine wpAny_bind (wpAny_handled ?_)
  rw [show A.in1.handled = none from hh]
  refine wpAny_bind (wpAny_pure (wpAny_throw ?_))
  have hsb : Heap.SameBut it s.heap (s.heap.update it (Obj.mapFields fun x => x.setIfInBounds 0 Value.none)) := Heap.SameBut.update ..
  generalize s.heap.update it (Obj.mapFields fun x => x.setIfInBounds 0 Value.none) = h₁ at hsb ⊢
  have hom : ownMembersOf (Value.type "StopIteration") [] = #[] := by first | rfl | kernel_rfl
  rw [hom]
  refine hQ h₁ _ _ hsb ?_
  refine ⟨fun b o q => Heap.get?_push_of_some _ (Heap.get?_push_of_some _ q), Heap.get?_none_of_le ?_, h₁.objs.size, ?_, Heap.get?_none_of_le (Nat.le_refl _), ?_⟩
  · show h₁.objs.size ≤ (h₁.push _).objs.size
    rw [Heap.size_push]; exact Nat.le_succ _
  · have := Heap.get?_push_size (h₁.push { cls := .type "tuple", data := .seq #[] }) (o := { cls := .type "StopIteration", data := .fields #[.ref h₁.objs.size, .none, .none, .none, .bool false, .none] }) rfl
    exact this
  · exact Heap.get?_push_of_some _ (Heap.get?_push_size _ rfl)
section
variable {h₀ : Heap} {L it l : Addr} {m : Map} {news : Led} {i : Nat} {items : Array Value} {x : Value}
theorem nx_item {Q : Value → Shared → Prop} (hit : s.heap.IsListIter it l i) (hl : s.heap.IsList l items) (hx : items[i]? = some x)
    (hQ : ∀ h', h'.IsListIter it l (i + 1) → Heap.SameBut it s.heap h' → Q x { s with heap := h' }) :
    wpAny (model prog w) A (call (.builtin "next") [.ref it]) Q E s := by
  refine call_function_entry (by decide +kernel) (by decide +kernel) kdk_entry_next (kdk_args_next _) ?_
  unfold Builtin.«next»
  refine wpAny_bind (m := someArgs "next" 1 2 _) (wpAny_of_eq (a := [Value.ref it]) (by first | rfl | kernel_rfl!) ?_)
  dsimp only
  refine wpAny_bind (wpAny_specialOf (name := Str.ofString "__next__") hit.typeIs slot_listiter_next.lookup ?_)
  refine wpAny_ite_split (fun hab => absurd hab (by decide)) (fun _ => ?_)
  refine wpAny_bind (nx_slot_item hit hl hx fun h' hit' hs => ?_)
  exact wpAny_pure ⟨_, rfl, hQ h' hit' hs⟩
theorem nx_end {Q : Value → Shared → Prop} (hh : A.handled = none) (hit : s.heap.IsListIter it l i) (hl : s.heap.IsList l items) (hx : items[i]? = none)
    (hQ : ∀ h₁ h' e, Heap.SameBut it s.heap h₁ → Heap.MadeExcOf h₁ h' e (.type "StopIteration") [] → E (.ref e) { s with heap := h' }) :
    wpAny (model prog w) A (call (.builtin "next") [.ref it]) Q E s := by
  refine call_function_entry (by decide +kernel) (by decide +kernel) kdk_entry_next (kdk_args_next _) ?_
  unfold Builtin.«next»
  refine wpAny_bind (m := someArgs "next" 1 2 _) (wpAny_of_eq (a := [Value.ref it]) (by first | rfl | kernel_rfl!) ?_)
  dsimp only
  refine wpAny_bind (wpAny_specialOf (name := Str.ofString "__next__") hit.typeIs slot_listiter_next.lookup ?_)
  refine wpAny_ite_split (fun hab => absurd hab (by decide)) (fun _ => ?_)
  exact wpAny_bind (nx_slot_end (by exact hh) hit hl hx hQ)
theorem it_make {Q : Value → Shared → Prop} (hl : s.heap.IsList l items)
    (h : Q (.ref s.heap.objs.size) { s with heap := s.heap.push { cls := .type "list_iterator", data := .fields #[.ref l, .int 0 0] } }) :
    wpAny (model prog w) A (call (.builtin "iter") [.ref l]) Q E s := by
  refine call_function_entry (by decide +kernel) (by decide +kernel) kdk_entry_iter (kdk_args_iter _) ?_
  unfold Builtin.«iter»
  refine wpAny_bind (m := someArgs "iter" 1 2 _) (wpAny_of_eq (a := [Value.ref l]) (by first | rfl | kernel_rfl!) ?_)
  show wpAny _ _ (pyIter (.ref l) >>= _) _ _ _
  refine wpAny_bind (wpAny_pyIter_list hl ?_)
  exact wpAny_pure ⟨_, rfl, h⟩
end
end
theorem news_sub {h₀ h : Heap} {L : Addr} {A B : Led} (N : News h₀ L h A) (hs : ∀ p ∈ B, p ∈ A) : News h₀ L h B := fun p hp => N p (hs p hp)
end Mine
end

section
open PySem PySem.W PySem.Calls PyProof.Rows
namespace Mine
theorem fresh8 : True := by
  w_top off
  trivial
end Mine
open PySem PySem.W PySem.Calls PyProof.Rows
set_option Elab.async false
set_option maxRecDepth 100000
set_option maxHeartbeats 2000000
namespace Mine

theorem ne_nil0 {prog : Program} {w : World} {A : Around} {E : Value → Shared → Prop} {s : Shared} {a b : Addr} {Q : Value → Shared → Prop} (ha : s.heap.IsList a #[]) (hb : s.heap.IsList b #[]) (hu : A.units < cLine) (h : Q (.bool false) s) :
    wpAny (model prog w) A (compareOp .NotEq (.ref a) (.ref b)) Q E s := ne_nil (xs := []) ha hb hu h
theorem ne_nil1 {prog : Program} {w : World} {A : Around} {E : Value → Shared → Prop} {s : Shared} {a b : Addr} {xs : List Value} {x : Value} {Q : Value → Shared → Prop} (ha : s.heap.IsList a (xs ++ [x]).toArray) (hb : s.heap.IsList b #[]) (hu : A.units < cLine) (h : Q (.bool true) s) :
    wpAny (model prog w) A (compareOp .NotEq (.ref a) (.ref b)) Q E s := ne_nil (xs := xs ++ [x]) ha hb hu (by rw [show (!(xs ++ [x]).isEmpty) = true by cases xs <;> rfl]; exact h)
def sgnL (t0 t1 t2 : Tok) : List (Int × Value) := [(14, .str (Str.ofString "+") t0), (22, .str (Str.ofString "=") t1), (36, .str (Str.ofString "+=") t2)]
theorem sgn_get {prog : Program} {w : World} {A : Around} {E : Value → Shared → Prop} {s : Shared} {h₀ : Heap} {L ds : Addr} {os : Obj} {news : Led} {t0 t1 t2 : Tok} {Q : Value → Shared → Prop} (x : Int) {t : Tok} {d : Str} {td : Tok} (N : News h₀ L s.heap news) (hp : (ds, os) ∈ news) (hos : os.IsDictOf (intKind prog w) (sgnL t0 t1 t2)) (lo : (ds == sysModules) = false)
    (hd : d = if x + 1 < 256 then Str.ofString "n" else Str.ofString "N") (h : ∀ t', Q (.str (sgn x) t') { s with toks := s.toks + 1 }) : wpAny (model prog w) A (call (.builtin "dict.get") [.ref ds, .int x t, .str d td]) Q E s := by
  refine kdg_get2 N hp hos lo (intKind_is _ _ _ _) _ rfl ?_
  have e : ∃ t', (valueAt (sgnL t0 t1 t2) x).getD (.str d td) = .str (sgn x) t' := by
    by_cases h1 : x = 14
    · subst h1; exact ⟨t0, rfl⟩
    by_cases h2 : x = 22
    · subst h2; exact ⟨t1, rfl⟩
    by_cases h3 : x = 36
    · subst h3; exact ⟨t2, rfl⟩
    refine ⟨td, ?_⟩
    rw [hd]
    simp only [valueAt, sgnL, sgn, if_neg h1, if_neg h2, if_neg h3, List.find?, decide_eq_false (Ne.symm h1), decide_eq_false (Ne.symm h2), decide_eq_false (Ne.symm h3), Option.map, Option.getD]
  obtain ⟨t', e⟩ := e
  rw [e]
  exact h t'
theorem sgn_len (x : Int) : (sgn x).length ≤ 2 := by
  unfold sgn
  repeat' split
  all_goals decide
inductive SJ (prog : Program) (w : World) (G : Gm) (fd : Addr) (fin : List Str) (n : Nat) (m : Map) (news : Led) : Prop
  | mk (lw lt ds : Addr) (os : Obj) (ws us : List Value) (W : List It) (told : List Str) (cw ct : Nat) (tl : Led) (t0 t1 t2 : Tok) (f0 : Has m [(Str.ofString "signs", .ref ds), (Str.ofString "waiting", .ref lw), (Str.ofString "told", .ref lt), (Str.ofString "found", .ref fd)]) (f1 : news = (lw, listOf ws.toArray cw) :: (lt, listOf us.toArray ct) :: (ds, os) :: tl) (f2 : os.IsDictOf (intKind prog w) (sgnL t0 t1 t2)) (f3 : WaitL tl ws W) (f4 : StrsAre us told) (f5 : n = meas W) (f6 : told ++ exps G W = fin) (f7 : (∀ it ∈ W, Fine G it)) (f8 : told.length + meas W ≤ 100000) (f9 : (@Ne Nat lw lt ∧ @Ne Nat lw ds ∧ @Ne Nat lt ds)) (f10 : (∀ p ∈ tl, p.1 ≠ lw)) (f11 : (∀ p ∈ tl, p.1 ≠ lt)) (f12 : (ds == sysModules) = false) : SJ prog w G fd fin n m news
local macro_rules | `(tactic| walk_at "my steps") => `(tactic| repeat' ((fail_if_success (with_reducible show wpAny _ _ (subscriptTail _ (PySem.Expr.Slice _ _ none _) (Value.ref _) (Value.ref _)) _ _ _)); (fail_if_success (with_reducible show wpAny _ _ (compareOp CmpOp.NotEq (Value.ref _) (Value.ref _)) _ _ _)); walk_at "s1"; walk_at "s2"; walk_at "s3"; walk_at "s4"; walk_at "st"))
local macro_rules | `(tactic| walk_at "my steps2") => `(tactic| repeat' ((fail_if_success (with_reducible show wpAny _ _ (subscriptTail _ (PySem.Expr.Name _ _) (Value.ref _) _) _ _ _)); (fail_if_success (with_reducible show wpAny _ _ (subscriptTail _ (PySem.Expr.Slice _ _ none _) (Value.ref _) (Value.ref _)) _ _ _)); (fail_if_success (with_reducible show wpAny _ _ (compareOp CmpOp.NotEq (Value.ref _) (Value.ref _)) _ _ _)); walk_at "s1"; walk_at "s2"; walk_at "s3"; walk_at "s4"; walk_at "st"))
local macro_rules | `(tactic| walk_at "call builtin:list.pop") => `(tactic| (k_here; k_dflt (refine' kl_pop ?F ?N (kpa_last _ _) ?U ?z ?_; (case F => k_asm); (case N => k_asm); (case U => k_upd); (case z => (rw [sizeLine_eq]; simp only [List.length_append, List.length_cons, List.length_nil]; omega)); k_whole); intro h' F' N'; (try dsimp only [List.nil_append, List.cons_append] at N')))
local macro_rules | `(tactic| walk_at "call builtin:list.append") => `(tactic| (k_here; (with_reducible show wpAny _ _ (call (Value.builtin _) [Value.ref _, _]) _ _ _); k_dflt (refine' append_K ?k1 ?k2 ?k3 ?_ ?z; (case k1 => k_asm); (case k2 => k_asm); (case k3 => k_upd); (case z => (rw [sizeLine_eq]; simp only [List.size_toArray]; omega)); k_whole); intro h' F' N'; (try simp only [List.push_toArray] at N')))
theorem base_item {prog : Program} {w : World} {K : Type} [DecidableEq K] {knd : KeyKind prog w K} {A : Around} {E : Value → Shared → Prop} {s : Shared} {d : Addr} {kvs : List (K × Value)} {k : K} {key v : Value} {value slice : PySem.Expr} {Q : Value → Shared → Prop} (hD : s.heap.DictOf knd d kvs) (hkey : knd.is k key = true) (hl : valueAt kvs k = some v) (h : Q v { s with toks := s.toks + 1 })
    (hs : subscripted slice false (.ref d) key = operate [.ref d, key] (getItem (.ref d) key) := by with_unfolding_all rfl) (hg : ∀ r, letTemporaryGo value (.ref d) r = pure () := by intro _; with_unfolding_all rfl) :
    wpAny (model prog w) A (subscriptTail value slice (.ref d) key) Q E s :=
  subscriptTail_builtin hD.typeIs slot_dict_getitem.lookup (wpAny_getItem_of hkey hD.mapOf hl h) hs hg
local macro_rules | `(tactic| k_all) => `(tactic| assumption)
local macro_rules | `(tactic| walk_at "call ref") => `(tactic| (k_here; (with_reducible show wpAny _ _ (call (Value.ref _) [Value.int _ _] _) _ _ _); k_dflt (first | refine' Con.use (con_eof _ _ _) rfl ?k1 ?k2 ?k3 ?k4 ?k5 ?kd ?ku ?k6 ?_ | refine' Con.use (con_nt _ _ _) rfl ?k1 ?k2 ?k3 ?k4 ?k5 ?kd ?ku ?k6 ?_ | refine' Con.use (con_t _ _ _) rfl ?k1 ?k2 ?k3 ?k4 ?k5 ?kd ?ku ?k6 ?_); k_dflt (walk_at "use9"; intro r9 h9 tk9 st9 F9 N9 hp9; subst hp9; clear st9; (try dsimp only); (try k_fold))))
inductive NJ (G : Gm) (lw lt ds q fd : Addr) (os : Obj) (us : List Value) (ct : Nat) (xs : List Value) (c2 : Nat) (tx : Str) (tok : Tok) (W0 : List It) (f : Nat) (x : Int) (rest : List Int) (i : Nat) (m : Map) (nx : Led) : Prop
  | mk (ws : List Value) (cw : Nat) (tl : Led) (f0 : Has m [(Str.ofString "text", .str tx tok), (Str.ofString "symbols", .ref q), (Str.ofString "signs", .ref ds), (Str.ofString "waiting", .ref lw), (Str.ofString "told", .ref lt), (Str.ofString "found", .ref fd)]) (f1 : nx = (lw, listOf ws.toArray cw) :: (lt, listOf us.toArray ct) :: (ds, os) :: (q, listOf xs.toArray c2) :: tl) (f2 : WaitL tl ws (W0 ++ ((G x).take i).map fun b => (f, b ++ rest, tx))) (f3 : (∀ p ∈ tl, p.1 ≠ lw)) (f4 : (∀ p ∈ tl, p.1 ≠ lt)) : NJ G lw lt ds q fd os us ct xs c2 tx tok W0 f x rest i m nx
theorem not_mod {h : Heap} {d L : Addr} (h1 : sysModules < h.objs.size) (h2 : L = h.objs.size) (h3 : L < d) : (d == sysModules) = false := by
  rw [beq_eq_false_iff_ne]
  intro e
  subst e
  rw [h2] at h3
  exact Nat.lt_irrefl _ (Nat.lt_trans h1 h3)
theorem room1 {u t m p n : Nat} (h1 : u = t) (h2 : n = m + p) (h3 : 0 < p) (h4 : t + n ≤ 100000) : u < 100000 := by omega
theorem room2 {u a m p n t : Nat} (h1 : u = a) (h0 : a ≤ m) (h2 : n = m + p) (h3 : 0 < p) (h4 : t + n ≤ 100000) : u < 100000 := by omega
theorem con_sentences {prog : Program} {w : World} {mean : ExcName → Option Value} {mg mb : Str → Option Value} (h : Heap) (fd : Addr) (st : Int) (tst : Tok) (G : Gm) (hF : FoundH prog w h (.ref fd) G) (hok : Ok G 8 [st, 0]) (hG2 : ∀ k, (G k).length ≤ 2 ∧ ∀ b ∈ G k, b.length ≤ 2) :
    Con prog w mean mg mb 95 [.ref fd, .int st tst] 3 h (fun r h' => ∃ lt us, r = .ref lt ∧ h'.IsList lt (List.toArray us) ∧ StrsAre us (expand G 8 [st, 0] (Str.ofString ""))) := by
  intro dp un gd cn cs a ccd cl outer A₀ base h₀ L m s Q E hs B F X T hk hdp hu hret
  subst hs
  refine wpAny_call ?_
  k_dflt (refine' enter_def (binds := [(Str.ofString "found", .ref fd), (Str.ofString "start", .int st tst)]) ?k1 ?k2 ?k3 ?k5 ?kA ?kF ?kK ?k6 ?k7 ?k8 ?k9 ?kB ?_ ?c2 ?c3 ?c4 ?c5; walk_at "my enter")
  clear B F X T
  intro L' h' hL' F' N' B' X' T'
  k_fold
  walk_at "my steps"
  k_dflt refine' assignD_list (h₀ := s.heap) (L := L') (m := fun y => List.lookup y [(Str.ofString "start", .int st tst), (Str.ofString "found", .ref fd)]) (knd := intKind prog w) rfl ?a1 ?a2 ?a3 ?a4 ?a5 ?a6 ?a7 ?a8 rfl ?ah ?aq
  case a1 => exact rfl
  case a2 => exact rfl
  case a3 => decide
  case a4 => exact rfl
  case a5 => decide
  case a6 => exact rfl
  case a7 => exact rfl
  case a8 => exact rfl
  case aq => exact fun _ => rfl
  case ah =>
    walk_at "my steps"
    rename Fr _ _ _ _ => F1
    rename News _ _ _ _ => N1
    rename_i lx hx1 _
    refine ⟨lx, [.str (Str.ofString "+") tk, .str (Str.ofString "=") (tk + 1), .str (Str.ofString "+=") (tk + 1 + 1)], _, (fun i kvs nx => (∃ t0 t1 t2, kvs = (sgnL t0 t1 t2).take i) ∧ nx = [(lx, listOf #[.str (Str.ofString "+") tk, .str (Str.ofString "=") (tk + 1), .str (Str.ofString "+=") (tk + 1 + 1)] 0)]), rfl, F1, N1, ⟨⟨0, 0, 0, rfl⟩, rfl⟩, ?_, ?_, ?_, ?_, ?_, rfl⟩
    · rintro i kvs nx ⟨⟨t0, t1, t2, rfl⟩, _⟩
      simp [sgnL]; omega
    · exact (by simp : ([.str (Str.ofString "+") tk, .str (Str.ofString "=") (tk + 1), .str (Str.ofString "+=") (tk + 1 + 1)] : List Value).length ≤ 1000)
    · rintro i kvs nx ⟨_, rfl⟩
      exact .inr ⟨_, .head _, rfl, _, rfl⟩
    · rintro i v I oI C oC D oD m₂ kvs nx s₁ E' hi hv ⟨⟨t0, t1, t2, rfl⟩, rfl⟩ hoD hoC hm₂ F2 N2 hoff hne hs1
      clear F1 N1
      simp only [List.cons_append, List.nil_append] at N2
      have hi' : i = 0 ∨ i = 1 ∨ i = 2 := by simp at hi; omega
      rcases hi' with rfl | rfl | rfl
      all_goals (
        simp at hv
        subst hv
        (try k_fold)
        walk_at "my steps")
      · exact CEnd.intro F2 N2 _ (fun p hp => hp) hoff ⟨14, intKind_is _ _ _ _, ⟨tk, t1, t2, rfl⟩, rfl⟩
      · exact CEnd.intro F2 N2 _ (fun p hp => hp) hoff ⟨22, intKind_is _ _ _ _, ⟨t0, tk + 1, t2, rfl⟩, rfl⟩
      · exact CEnd.intro F2 N2 _ (fun p hp => hp) hoff ⟨36, intKind_is _ _ _ _, ⟨t0, t1, tk + 1 + 1, rfl⟩, rfl⟩
    · rintro D oD kvs nx h2 tk2 ⟨⟨t0, t1, t2, rfl⟩, rfl⟩ F2 N2 hoD hoff hLD
      clear F1 N1
      (try dsimp only)
      (try k_fold)
      walk_at "my steps"
      rename Fr _ _ _ _ => F3
      rename News _ _ _ _ => N3
      k_dflt refine' while_cut (n₀ := 3 ^ 8) (L := L') (h₀ := s.heap) (fun n m news => SJ prog w G fd (expand G 8 [st, 0] (Str.ofString "")) n m news) (fun m news => SJ prog w G fd (expand G 8 [st, 0] (Str.ofString "")) 0 m news) F3 (perm6 N3) ?w2 ?w3 ?w4 ?w5
      case w5 => passes_own
      case w2 =>
        have hds : (D == sysModules) = false := not_mod (modules_low T'.nolimit) hL' hLD
        rename _ ∧ _ ∧ _ ∧ _ ∧ _ => l9
        obtain ⟨a1, a2, a3, a4, a5⟩ := l9
        rename _ ∧ _ ∧ _ ∧ _ => l8
        obtain ⟨b1, b2, b3, b4⟩ := l8
        refine ⟨_, _, D, oD, [_], [], [(8, [st, 0], Str.ofString "")], [], 0, 0, [_, _], t0, t1, t2, ⟨rfl, rfl, rfl, rfl, trivial⟩, rfl, hoD, .snoc (ws := []) (W := []) .nil (.head _) (.tail _ (.head _)) (.cons _ _ (.cons _ _ .nil)), .nil, rfl, ?_, ?_, Nat.le_of_ble_eq_true rfl, ⟨Nat.ne_of_lt a1, Nat.ne_of_gt b3, Nat.ne_of_gt a4⟩, ?_, ?_, hds⟩
        · simp [exps]
        · intro it hi
          simp only [List.mem_singleton] at hi
          subst hi
          exact ⟨hok, Nat.le_of_ble_eq_true rfl, Nat.le_of_ble_eq_true rfl⟩
        · intro p hp
          simp only [List.mem_cons, List.not_mem_nil, or_false] at hp
          rcases hp with rfl | rfl
          · exact Nat.ne_of_lt b1
          · exact Nat.ne_of_lt b2
        · intro p hp
          simp only [List.mem_cons, List.not_mem_nil, or_false] at hp
          rcases hp with rfl | rfl
          · exact Nat.ne_of_lt a2
          · exact Nat.ne_of_lt a3
      case w3 =>
        clear F3 N3
        rintro n m₁ news₁ h₁ tk₁ F₁ N₁ ⟨lw, lt, ds, os, ws, us, W, told, cw, ct, tl, t0, t1, t2, H, rfl, hos, hW, hT, rfl, hfin, hfine, hlen, hne, htl1, htl2, hds⟩
        replace F₁ := H.fr F₁
        clear H
        dsimp only [kstB] at F₁
        rcases List.eq_nil_or_concat W with rfl | ⟨W0, ⟨f, sy, tx⟩, rfl⟩
        · have hws : ws = [] := List.length_eq_zero_iff.mp hW.len
          subst hws
          (try dsimp only); (try k_fold)
          walk_at "my steps"
          rename News _ _ _ _ => N2
          k_dflt (refine' ne_nil0 ?n1 ?n2 ?n3 ?_; (case n1 => exact isl (vs := []) (News.get (by k_asm) (by k_mem))); (case n2 => exact isl (vs := []) (News.get (by k_asm) (by k_mem))); (case n3 => ktr_units); k_whole)
          walk_at "my steps"
          exact CutEnd.intro (by assumption) (news_sub (B := (lw, listOf (List.toArray []) cw) :: (lt, listOf us.toArray ct) :: (ds, os) :: tl) N2 (fun z hz => by revert z; walk_at "sub")) ⟨lw, lt, ds, os, [], us, [], told, cw, ct, tl, t0, t1, t2, ⟨rfl, rfl, rfl, rfl, trivial⟩, rfl, hos, .nil, hT, rfl, hfin, hfine, hlen, hne, htl1, htl2, hds⟩
        · rw [List.concat_eq_append] at *
          obtain ⟨ws', p, q, xs, tok, c1, c2, rfl, hW', hp, hq, hxs⟩ := hW.inv
          obtain ⟨hok1, hl1, hl2⟩ := hfine (f, sy, tx) (by walk_at "mm")
          have hp1 := neN (htl1 _ hp)
          have hp2 := neN (htl2 _ hp)
          have hq1 := neN (htl1 _ hq)
          have hq2 := neN (htl2 _ hq)
          have hwl : ws'.length < 100000 := room2 hW'.len (meas_len W0) (meas_snoc W0 (f, sy, tx)) (Nat.pow_pos (by decide)) hlen
          cases f with
          | zero => exact hok1.elim
          | succ f =>
          cases sy with
          | nil => exact hok1.elim
          | cons x rest =>
          have hul : us.length < 100000 := room1 hT.len (meas_snoc W0 (f + 1, x :: rest, tx)) (Nat.pow_pos (by decide)) hlen
          have hxl := hxs.length
          have N1 : News s.heap L' h₁ ((lw, listOf (List.toArray (ws' ++ [Value.ref p])) cw) :: (lt, listOf us.toArray ct) :: (ds, os) :: (p, listOf #[Value.ref q, Value.str tx tok] c1) :: (q, listOf (List.toArray xs) c2) :: tl) := by
            intro z hz
            simp only [List.mem_cons] at hz
            rcases hz with h | h | h | h | h | h
            · exact N₁ z (by first | walk_at "mem" | (subst h; walk_at "mem") | simp [h])
            · exact N₁ z (by first | walk_at "mem" | (subst h; walk_at "mem") | simp [h])
            · exact N₁ z (by first | walk_at "mem" | (subst h; walk_at "mem") | simp [h])
            · exact N₁ z (by simp [h, hp])
            · exact N₁ z (by simp [h, hq])
            · exact N₁ z (by first | walk_at "mem" | (subst h; walk_at "mem") | simp [h])
          clear N₁
          dsimp only at hp1 hp2 hq1 hq2 hl1 hl2
          change @Ne Nat p lw at hp1; change @Ne Nat p lt at hp2; change @Ne Nat q lw at hq1; change @Ne Nat q lt at hq2
          change Ok G (f + 1) (x :: rest) at hok1
          (try dsimp only); (try k_fold)
          walk_at "my steps"
          k_dflt (refine' ne_nil1 (xs := ws') (x := .ref p) ?n1 ?n2 ?n3 ?_; (case n1 => exact isl (News.get (by k_asm) (by k_mem))); (case n2 => exact isl (vs := []) (News.get (by k_asm) (by k_mem))); (case n3 => ktr_units); k_whole)
          walk_at "my steps"
          · rename Fr _ _ _ _ => F3
            rename News _ _ _ _ => N3
            have hx0 : x = 0 := by first | assumption | simpa using ‹_ = true›
            subst hx0
            refine ⟨_, _, _, _, meas W0, rfl, F3, news_sub (B := (lw, listOf (List.toArray ws') (cw + 1)) :: (lt, listOf (List.toArray (us ++ [Value.str tx tok])) (ct + 1)) :: (ds, os) :: tl) N3 (fun z hz => by revert z; walk_at "sub"), ?_, ?_⟩
            · rw [meas_snoc]; exact Nat.lt_add_of_pos_right (Nat.pow_pos (by omega))
            · refine ⟨lw, lt, ds, os, ws', us ++ [.str tx tok], W0, told ++ [tx], _, _, tl, t0, t1, t2, ⟨rfl, rfl, rfl, rfl, trivial⟩, rfl, hos, hW', hT.snoc _ _, rfl, ?_, fun it hi => hfine it (by first | walk_at "mem" | simp [hi]), ?_, hne, htl1, htl2, hds⟩
              · rw [← hfin, exps_snoc]; simp [expand]
              · rw [meas_snoc] at hlen; simp only [List.length_append, List.length_cons, List.length_nil]; have : 0 < 3 ^ (f + 1) := Nat.pow_pos (by omega); simp only at *; omega
          · rename Fr _ _ _ _ => F3
            rename News _ _ _ _ => N3
            have hx0 : x ≠ 0 := ‹(x :: rest).getD (Int.toNat 0) 0 ≠ 0›
            have hx2 : 256 ≤ x := ‹(x :: rest).getD (Int.toNat 0) 0 ≥ 256›
            have hokn : (x = 256 ∨ x = 257 ∨ x = 258) ∧ ∀ b ∈ G x, Ok G f (b ++ rest) := by
              rcases hok1 with h | h | h
              · exact absurd h hx0
              · exact h
              · exfalso; omega
            obtain ⟨d, o, kvs, hd1, hd2, hd3, hd4⟩ := hF
            cases hd1
            obtain ⟨bl, bs, hv1, hbl, hbn, hbs⟩ := hd4 x hokn.1
            k_dflt refine' For_invV s.heap ?f1 ?f2 ?f3 ?f4 ?f5
            case f1 => exact rfl
            case f2 => exact rfl
            case f4 => exact fun _ => rfl
            case f5 => passes_own
            case f3 =>
              walk_at "my steps2"
              k_dflt (refine' base_item (knd := intKind prog w) (k := x) (kvs := kvs) ?g1 (intKind_is _ _ _ _) hv1 ?_; (case g1 => exact Heap.dictOf_iff.mpr ⟨o, F3.keep _ _ hd2, hd3⟩); k_whole)
              (try k_unfold)
              (try dsimp only)
              have hbl3 := hbl.at fun o e => F3.keep _ _ e
              obtain ⟨blo, hblo, _⟩ := id hbl
              k_dflt refine' iter_list (NJ G lw lt ds q fd os us ct xs c2 tx tok W0 f x rest) rfl hbl3 F3 (news_sub (B := (lw, listOf ws'.toArray (cw + 1)) :: (lt, listOf us.toArray ct) :: (ds, os) :: (q, listOf xs.toArray c2) :: tl) N3 (fun z hz => by revert z; walk_at "sub")) ?i0 ?i1 (.inl ⟨blo, hblo⟩) ?i2 ?i3
              case i0 => exact Nat.ne_of_lt (by rw [hL']; exact Heap.lt_size hblo)
              case i1 => exact ⟨ws', cw + 1, tl, ⟨rfl, rfl, rfl, rfl, rfl, rfl, trivial⟩, rfl, by simpa using hW', htl1, htl2⟩
              case i2 =>
                rintro i v m₂ nx h4 tk4 I io hvi ⟨ws, cw2, tl2, H, rfl, hW2, ht1, ht2⟩ hsep F₄ N₄
                obtain ⟨b, hgb⟩ : ∃ b, (G x)[i]? = some b := by
                  have := (List.getElem?_eq_some_iff.mp hvi).1
                  exact ⟨_, List.getElem?_eq_getElem (by omega)⟩
                obtain ⟨r, ys, hr1, hr2, hr3⟩ := hbs i b hgb
                obtain rfl : v = .ref r := Option.some.inj (hvi.symm.trans hr1)
                replace F₄ := H.frX F₄
                clear H F3 N3 hbl3
                dsimp only [kstB] at F₄
                have hbl2 := (hG2 x).2 b (List.mem_of_getElem? hgb)
                have hGl := (hG2 x).1
                have hrl := hr3.length
                have hI1 := neN (hsep _ (.head _))
                dsimp only at hI1
                change @Ne Nat lw I at hI1
                have hwl2 : ws.length < 100000 := by
                  have h1 := hW2.len
                  have h2 := meas_len W0
                  rw [meas_snoc] at hlen
                  simp only [List.length_append, List.length_map, List.length_take] at h1
                  have h3 : 0 < 3 ^ f := Nat.pow_pos (by omega)
                  simp only [Nat.pow_succ] at hlen
                  omega
                (try dsimp only); (try k_fold)
                walk_at "my steps2"
                k_dflt (refine' kmk_slice_ints (vs := xs) (ns := x :: rest) (ms := rest) (lo := some 1) (hi := none) ?u1 ?u2 ?u3 ?u4 ?u5 ?u6 ?u7 rfl ?_ ?u8 ?u9 ?u0; (case u1 => k_asm); (case u2 => k_asm); (case u3 => exact isl (News.get (by k_asm) (by k_mem))); (case u4 => kmk_part); (case u5 => kmk_part); (case u6 => exact hxs); (case u7 => exact kmk_from hxs (by decide)); (case u8 => with_unfolding_all rfl); (case u9 => kmk_pure); (case u0 => (rw [sizeLine_eq, List.size_toArray]; simp only [List.length_cons] at hxl hl2; omega)); k_whole)
                intro D2 ys2 h5 F5 N5 l5 hI5 hC5 hL5
                k_lt l5
                (try dsimp only); (try k_fold)
                k_dflt (refine' kmk_add_ints (vs := ys) (ws := ys2) (ns := b) (ms := rest) ?q1 ?q2 ?q3 ?q4 hr3 hI5 ?_ ?q5; (case q1 => k_asm); (case q2 => k_asm); (case q3 => exact hr2.at fun o e => F5.keep _ _ e); (case q4 => exact isl (News.get (by k_asm) (by k_mem))); (case q5 => (rw [sizeLine_eq]; simp only [List.length_cons] at hl2; omega)); k_whole)
                intro D3 ys3 h6 F6 N6 l6 hI6
                k_lt l6
                (try dsimp only); (try k_fold)
                walk_at "my steps"
                rename Fr _ _ _ _ => F7
                rename News _ _ _ _ => N7
                rename_i r7 h7q Fq7 Nq7 l7 h7
                refine ⟨_, _, _, (lw, listOf (List.toArray (ws ++ [Value.ref r7])) (cw2 + 1)) :: (lt, listOf us.toArray ct) :: (ds, os) :: (q, listOf xs.toArray c2) :: (r7, listOf #[Value.ref D3, Value.str tx tok] 0) :: (D3, listOf ys3.toArray 0) :: tl2, rfl, F7, news_sub N7 (fun z hz => by revert z; walk_at "sub"), ?_, ?_⟩
                · intro p' hp'
                  simp only [List.mem_cons] at hp'
                  rcases hp' with h | h | h | h | h | h | h
                  · rw [h]; exact hI1
                  · exact hsep p' (by first | walk_at "mem" | (subst h; walk_at "mem") | simp [h])
                  · exact hsep p' (by first | walk_at "mem" | (subst h; walk_at "mem") | simp [h])
                  · exact hsep p' (by first | walk_at "mem" | (subst h; walk_at "mem") | simp [h])
                  · rw [h]; exact Nat.ne_of_gt l7.2.2.1
                  · rw [h]; exact Nat.ne_of_gt l6.2.1
                  · exact hsep p' (by first | walk_at "mem" | (subst h; walk_at "mem") | simp [h])
                · refine ⟨ws ++ [.ref r7], cw2 + 1, (r7, listOf #[Value.ref D3, Value.str tx tok] 0) :: (D3, listOf ys3.toArray 0) :: tl2, ⟨rfl, rfl, rfl, rfl, rfl, rfl, trivial⟩, rfl, ?_, ?_, ?_⟩
                  · rw [List.take_add_one, hgb, List.map_append, ← List.append_assoc]
                    exact .snoc (hW2.mono fun p hp => .tail _ (.tail _ hp)) (.head _) (.tail _ (.head _)) hI6
                  · intro p hp
                    rcases List.mem_cons.mp hp with rfl | hp
                    · exact Nat.ne_of_gt l7.2.2.2.1
                    rcases List.mem_cons.mp hp with rfl | hp
                    · exact Nat.ne_of_gt l6.2.2.1
                    exact ht1 p hp
                  · intro p hp
                    rcases List.mem_cons.mp hp with rfl | hp
                    · exact Nat.ne_of_gt l7.2.2.2.2.1
                    rcases List.mem_cons.mp hp with rfl | hp
                    · exact Nat.ne_of_gt l6.2.2.2.1
                    exact ht2 p hp
              case i3 =>
                rintro m₂ nx h4 tk4 ⟨ws, cw2, tl2, H, rfl, hW2, ht1, ht2⟩ F₄ N₄
                replace F₄ := H.fr F₄
                clear H F3 N3 hbl3
                dsimp only [kstB] at F₄
                rw [List.take_of_length_le (by omega)] at hW2
                (try dsimp only); (try k_fold)
                walk_at "my steps"
                have hGl := (hG2 x).1
                have hpw : 0 < 3 ^ f := Nat.pow_pos (by omega)
                have hmm : meas (W0 ++ (G x).map fun b => (f, b ++ rest, tx)) < meas (W0 ++ [(f + 1, x :: rest, tx)]) := by
                  rw [meas_snoc]
                  simp only [meas, List.map_append, List.map_map, List.sum_append]
                  have : ∀ l : List (List Int), (l.map ((fun it : It => 3 ^ it.1) ∘ fun b => (f, b ++ rest, tx))).sum = l.length * 3 ^ f := by
                    intro l
                    induction l with
                    | nil => simp
                    | cons y l ih => rw [List.map_cons, List.sum_cons, ih, List.length_cons, Nat.succ_mul]; simp only [Function.comp]; omega
                  rw [this, Nat.pow_succ]
                  have : (G x).length * 3 ^ f ≤ 2 * 3 ^ f := Nat.mul_le_mul_right _ hGl
                  omega
                refine ⟨_, _, _, _, meas (W0 ++ (G x).map fun b => (f, b ++ rest, tx)), rfl, F₄, news_sub (B := (lw, listOf (List.toArray ws) cw2) :: (lt, listOf us.toArray ct) :: (ds, os) :: tl2) N₄ (fun z hz => by revert z; walk_at "sub"), ?_, ?_⟩
                · exact hmm
                · refine ⟨lw, lt, ds, os, ws, us, W0 ++ (G x).map fun b => (f, b ++ rest, tx), told, _, _, tl2, t0, t1, t2, ⟨rfl, rfl, rfl, rfl, trivial⟩, rfl, hos, hW2, hT, rfl, ?_, ?_, ?_, hne, ht1, ht2, hds⟩
                  · rw [← hfin, exps_snoc]
                    have hx0' : ¬ x = 0 := hx0
                    simp [expand, hx0', hx2, exps, ← List.map_reverse, List.flatMap_map]
                  · intro it hi
                    rcases List.mem_append.mp hi with h | h
                    · exact hfine it (by first | walk_at "mem" | (subst h; walk_at "mem") | simp [h])
                    · obtain ⟨b, hb, rfl⟩ := List.mem_map.mp h
                      have hbl2 := (hG2 x).2 b hb
                      exact ⟨hokn.2 b hb, (by show tx.length + 2 * f ≤ 40; omega), (by simp only [List.length_cons] at hl2; show (b ++ rest).length + f ≤ 20; rw [List.length_append]; omega)⟩
                  · omega
          · k_dflt (refine' kmk_slice_ints (vs := xs) (ns := x :: rest) (ms := rest) (lo := some 1) (hi := none) ?u1 ?u2 ?u3 ?u4 ?u5 ?u6 ?u7 rfl ?_ ?u8 ?u9 ?u0; (case u1 => k_asm); (case u2 => k_asm); (case u3 => exact isl (News.get (by k_asm) (by k_mem))); (case u4 => kmk_part); (case u5 => kmk_part); (case u6 => exact hxs); (case u7 => exact kmk_from hxs (by decide)); (case u8 => with_unfolding_all rfl); (case u9 => kmk_pure); (case u0 => (rw [sizeLine_eq, List.size_toArray]; simp only [List.length_cons] at hxl hl2; omega)); k_whole)
            intro D2 ys2 h3 F3 N3 l3 hI3 hC3 hL3
            k_lt l3
            (try dsimp only); (try k_fold)
            walk_at "my steps"
            k_dflt (refine' sgn_get x ?v1 ?v2 hos hds ?v3 ?_; (case v1 => k_asm); (case v2 => k_mem); (case v3 => exact (if_pos (by assumption)).symm); k_whole)
            intro tq
            (try dsimp only); (try k_fold)
            k_dflt (refine' KOpn.add ?y1 ?_; (case y1 => (have := sgn_len x; omega)); k_whole)
            intro tz kz hz
            (try dsimp only); (try k_fold)
            walk_at "my steps"
            rename Fr _ _ _ _ => F5
            rename News _ _ _ _ => N5
            rename_i r5 hq5 Fq5 Nq5 l5 h6
            have hx0 : x ≠ 0 := ‹(x :: rest).getD (Int.toNat 0) 0 ≠ 0›
            have hx2 : ¬ 256 ≤ x := ‹¬(x :: rest).getD (Int.toNat 0) 0 ≥ 256›
            have hokr : Ok G f rest := by
              rcases hok1 with h | h | h
              · exact absurd h hx0
              · exfalso; rcases h.1 with h | h | h <;> omega
              · exact h.2.2
            have hpw : 3 ^ f < 3 ^ (f + 1) := Nat.pow_lt_pow_right (by omega) (by omega)
            refine ⟨_, _, _, _, meas (W0 ++ [(f, rest, tx ++ sgn x)]), rfl, F5, news_sub (B := (lw, listOf (List.toArray (ws' ++ [Value.ref r5])) (cw + 1 + 1)) :: (lt, listOf us.toArray ct) :: (ds, os) :: (r5, listOf #[Value.ref D2, Value.str (tx ++ sgn x) tz] 0) :: (D2, listOf ys2.toArray 0) :: tl) N5 (fun z hz => by revert z; walk_at "sub"), ?_, ?_⟩
            · rw [meas_snoc, meas_snoc]; exact Nat.add_lt_add_left hpw _
            · refine ⟨lw, lt, ds, os, ws' ++ [.ref r5], us, W0 ++ [(f, rest, tx ++ sgn x)], told, _, _, (r5, listOf #[Value.ref D2, Value.str (tx ++ sgn x) tz] 0) :: (D2, listOf ys2.toArray 0) :: tl, t0, t1, t2, ⟨rfl, rfl, rfl, rfl, trivial⟩, rfl, hos, .snoc (hW'.mono fun p hp => .tail _ (.tail _ hp)) (.head _) (.tail _ (.head _)) hI3, hT, rfl, ?_, ?_, ?_, hne, ?_, ?_, hds⟩
              · rw [← hfin, exps_snoc, exps_snoc]; simp [expand, hx0, hx2]
              · intro it hi
                rcases List.mem_append.mp hi with h | h
                · exact hfine it (by first | walk_at "mem" | (subst h; walk_at "mem") | simp [h])
                · simp only [List.mem_singleton] at h
                  subst h
                  exact ⟨hokr, (by have := sgn_len x; show (tx ++ sgn x).length + 2 * f ≤ 40; omega), (by simp only [List.length_cons] at hl2; show rest.length + f ≤ 20; omega)⟩
              · rw [meas_snoc] at hlen ⊢; simp only at hlen ⊢; omega
              · intro p hp
                rcases List.mem_cons.mp hp with rfl | hp
                · exact Nat.ne_of_gt l5.2.2.1
                rcases List.mem_cons.mp hp with rfl | hp
                · exact Nat.ne_of_gt l3.2.1
                exact htl1 p hp
              · intro p hp
                rcases List.mem_cons.mp hp with rfl | hp
                · exact Nat.ne_of_gt l5.2.2.2.1
                rcases List.mem_cons.mp hp with rfl | hp
                · exact Nat.ne_of_gt l3.2.2.1
                exact htl2 p hp
          · k_dflt (refine' kmk_slice_ints (vs := xs) (ns := x :: rest) (ms := rest) (lo := some 1) (hi := none) ?u1 ?u2 ?u3 ?u4 ?u5 ?u6 ?u7 rfl ?_ ?u8 ?u9 ?u0; (case u1 => k_asm); (case u2 => k_asm); (case u3 => exact isl (News.get (by k_asm) (by k_mem))); (case u4 => kmk_part); (case u5 => kmk_part); (case u6 => exact hxs); (case u7 => exact kmk_from hxs (by decide)); (case u8 => with_unfolding_all rfl); (case u9 => kmk_pure); (case u0 => (rw [sizeLine_eq, List.size_toArray]; simp only [List.length_cons] at hxl hl2; omega)); k_whole)
            intro D2 ys2 h3 F3 N3 l3 hI3 hC3 hL3
            k_lt l3
            (try dsimp only); (try k_fold)
            walk_at "my steps"
            k_dflt (refine' sgn_get x ?v1 ?v2 hos hds ?v3 ?_; (case v1 => k_asm); (case v2 => k_mem); (case v3 => exact (if_neg (by assumption)).symm); k_whole)
            intro tq
            (try dsimp only); (try k_fold)
            k_dflt (refine' KOpn.add ?y1 ?_; (case y1 => (have := sgn_len x; omega)); k_whole)
            intro tz kz hz
            (try dsimp only); (try k_fold)
            walk_at "my steps"
            rename Fr _ _ _ _ => F5
            rename News _ _ _ _ => N5
            rename_i r5 hq5 Fq5 Nq5 l5 h6
            have hx0 : x ≠ 0 := ‹(x :: rest).getD (Int.toNat 0) 0 ≠ 0›
            have hx2 : ¬ 256 ≤ x := ‹¬(x :: rest).getD (Int.toNat 0) 0 ≥ 256›
            have hokr : Ok G f rest := by
              rcases hok1 with h | h | h
              · exact absurd h hx0
              · exfalso; rcases h.1 with h | h | h <;> omega
              · exact h.2.2
            have hpw : 3 ^ f < 3 ^ (f + 1) := Nat.pow_lt_pow_right (by omega) (by omega)
            refine ⟨_, _, _, _, meas (W0 ++ [(f, rest, tx ++ sgn x)]), rfl, F5, news_sub (B := (lw, listOf (List.toArray (ws' ++ [Value.ref r5])) (cw + 1 + 1)) :: (lt, listOf us.toArray ct) :: (ds, os) :: (r5, listOf #[Value.ref D2, Value.str (tx ++ sgn x) tz] 0) :: (D2, listOf ys2.toArray 0) :: tl) N5 (fun z hz => by revert z; walk_at "sub"), ?_, ?_⟩
            · rw [meas_snoc, meas_snoc]; exact Nat.add_lt_add_left hpw _
            · refine ⟨lw, lt, ds, os, ws' ++ [.ref r5], us, W0 ++ [(f, rest, tx ++ sgn x)], told, _, _, (r5, listOf #[Value.ref D2, Value.str (tx ++ sgn x) tz] 0) :: (D2, listOf ys2.toArray 0) :: tl, t0, t1, t2, ⟨rfl, rfl, rfl, rfl, trivial⟩, rfl, hos, .snoc (hW'.mono fun p hp => .tail _ (.tail _ hp)) (.head _) (.tail _ (.head _)) hI3, hT, rfl, ?_, ?_, ?_, hne, ?_, ?_, hds⟩
              · rw [← hfin, exps_snoc, exps_snoc]; simp [expand, hx0, hx2]
              · intro it hi
                rcases List.mem_append.mp hi with h | h
                · exact hfine it (by first | walk_at "mem" | (subst h; walk_at "mem") | simp [h])
                · simp only [List.mem_singleton] at h
                  subst h
                  exact ⟨hokr, (by have := sgn_len x; show (tx ++ sgn x).length + 2 * f ≤ 40; omega), (by simp only [List.length_cons] at hl2; show rest.length + f ≤ 20; omega)⟩
              · rw [meas_snoc] at hlen ⊢; simp only at hlen ⊢; omega
              · intro p hp
                rcases List.mem_cons.mp hp with rfl | hp
                · exact Nat.ne_of_gt l5.2.2.1
                rcases List.mem_cons.mp hp with rfl | hp
                · exact Nat.ne_of_gt l3.2.1
                exact htl1 p hp
              · intro p hp
                rcases List.mem_cons.mp hp with rfl | hp
                · exact Nat.ne_of_gt l5.2.2.2.1
                rcases List.mem_cons.mp hp with rfl | hp
                · exact Nat.ne_of_gt l3.2.2.1
                exact htl2 p hp
      case w4 =>
        clear F3 N3
        rintro h₁ tk₁ m₁ news₁ F₁ N₁ ⟨lw, lt, ds, os, ws, us, W, told, cw, ct, tl, t0, t1, t2, H, rfl, hos, hW, hT, h0W, hfin, hfine, hlen, hne, htl1, htl2, hds⟩
        replace F₁ := H.fr F₁
        clear H
        dsimp only [kstB] at F₁
        have hW0 : W = [] := List.length_eq_zero_iff.mp (by have := meas_len W; omega)
        subst hW0
        rw [show exps G [] = [] from rfl, List.append_nil] at hfin
        subst hfin
        (try dsimp only); (try k_fold)
        walk_at "my steps"
        exact hret _ _ _ (Fr.keep (by assumption)) ⟨lt, us, rfl, isl (News.get N₁ (.tail _ (.head _))), hT⟩
end Mine
end

section
open PySem PySem.W PySem.Calls PyProof.Rows
namespace Mine
theorem fresh9 : True := by
  w_top off
  trivial
end Mine
open PySem PySem.W PySem.Calls PyProof.Rows
set_option Elab.async false
set_option maxRecDepth 100000
set_option maxHeartbeats 2000000
namespace Mine

section
variable {prog : Program} {w : World} {A A₀ : Around} {s : Shared} {K : Frag} {L : Addr} {h₀ base : Heap} {m mg mb : Str → Option Value} {p : Program} {loose : List Str} {mean : ExcName → Option Value} {news : Led}
theorem enter_defN {env : Env} {outer : List Env} {R : Result → Shared → Prop} {name qual : Str} {params : Arguments} {body : List Stmt} {scope : Scope} {dV kV doc pm cdv ct oc : Value} {an od : Option Addr} {osl : Array (Option Value)} {f : Addr} {args : Args} {binds : List (Str × Value)}
    (B : Below A₀ base outer h₀) (F : Fr h₀ L s.heap m) (X₀ : K.In h₀) (T : Top p loose mean mg mb h₀) (N : News h₀ L s.heap news) (hA : A.frames = some (env :: outer)) (hf : env.frame = some L) (hke : env.scope.kind = .function)
    (ho : K.lookup f = some ⟨oc, od, .func (fnOf name qual params body scope dV kV doc pm an cdv ct), osl⟩) (hcd : codeIn K cdv qual = true) (hroom : A.depth < recursionLimit)
    (hbind : BindsTo s (fnOf name qual params body scope dV kV doc pm an cdv ct) args binds) (hloc : ∀ y ∈ binds, scope.names.lookup y.1 = some .local)
    (h : ∀ g L' h₁, Fr h₀ L g m → Fr g L' h₁ (fun y => binds.reverse.lookup y) → News g L' h₁ news → Below A base (env :: outer) g → K.In g → Top p loose mean mg mb g → (∀ p ∈ news, p.1 < L') →
      wpAny (model prog w) (A.deeper (envOf qual scope L' f cdv)) (execs body (envOf qual scope L' f cdv))
        (fun fl s' => LeaveK h₀ L m g R (match fl with | .ret v => v | _ => .none) s')
        (fun e s' => wpAny (model prog w) (A.deeper (envOf qual scope L' f cdv)) (leaving (envOf qual scope L' f cdv) e) (fun _ s'' => R (.error e) s'') (fun e' s'' => R (.error e') s'') s')
        { s with heap := h₁, toks := s.toks + binds.length })
    (hco : scope.isCoroutine = false) (hgen : scope.isGenerator = false) (hk : scope.kind = .function)
    (hcell : ∀ x ∈ scope.names, x.2 ≠ .cell) : codeAny (model prog w) A (.call (.ref f) args) R s := by
  refine callX_plain (cl := []) B F N T.nolimit hA hf hke ((X₀.keeps F.keep) _ _ ho) rfl (codeRec_of (X₀.keeps F.keep) hcd) hroom hbind hloc (fun g L' h₁ F1 F2 N2 B2 st lt => ?_) hcell hco hgen hk
  exact h g L' h₁ F1 F2 N2 B2 (X₀.keeps st) (T.keeps st) lt
def LsIter (o : Obj) (l : Addr) (i : Nat) : Prop := o.cls = .type "list_iterator" ∧ o.data = .fields #[.ref l, .int i 0]
variable {E : Value → Shared → Prop} {I l : Addr} {io : Obj} {vs : List Value} {c i : Nat} {tl : Led} {x : Value} {Q : Value → Shared → Prop}
theorem nxK (F : Fr h₀ L s.heap m) (N : News h₀ L s.heap ((I, io) :: (l, listOf vs.toArray c) :: tl)) (hne : l ≠ I) (htl : ∀ p ∈ tl, p.1 ≠ I) (hio : LsIter io l i) (hx : vs[i]? = some x)
    (h : ∀ h' io', LsIter io' l (i + 1) → Fr h₀ L h' m → News h₀ L h' ((I, io') :: (l, listOf vs.toArray c) :: tl) → Q x { s with heap := h' }) :
    wpAny (model prog w) A (call (.builtin "next") [.ref I]) Q E s := by
  have hI := N _ (.head _)
  refine nx_item (it := I) (l := l) (i := i) ⟨io, hI.1, hio⟩ (isl (N _ (.tail _ (.head _))).1) (by simpa using hx) fun h' hit hs => ?_
  obtain ⟨o', ho', hc', hd'⟩ := hit
  refine h h' o' ⟨hc', hd'⟩ (F.change hs hI.2.1 hI.2.2) ?_
  refine News.setIn (own := []) N (fun _ q => absurd q List.not_mem_nil) (fun p hp => ?_) hs ho'
  rcases List.mem_cons.mp hp with rfl | hp
  · exact hne
  · exact htl p hp
end
theorem ints_at {vs : List Value} {ns : List Int} (h : IntsAre vs ns) : ∀ (i : Nat) (n : Int), ns[i]? = some n → ∃ t, vs[i]? = some (.int n t) := by
  induction h with
  | nil => intro i n e; simp at e
  | cons x t _ ih =>
    intro i n e
    cases i with
    | zero => simp at e; subst e; exact ⟨t, rfl⟩
    | succ i => exact ih i n (by simpa using e)
def Var (ns : List Int) (i k : Nat) (v : Int) : Prop :=
  (k = 1 ∧ ns[i]? = some v ∧ (v = 0 ∨ v = 1 ∨ v = 14 ∨ v = 22 ∨ v = 36)) ∨
  (k = 2 ∧ ∃ b c, ns[i]? = some b ∧ ns[i + 1]? = some c ∧ ((b = 196 ∧ c = 0 ∧ v = 256) ∨ (b = 196 ∧ c = 1 ∧ v = 257) ∨ (b = 196 ∧ c = 2 ∧ v = 258) ∨ (b = 68 ∧ c = 0 ∧ v = 256) ∨ (b = 68 ∧ c = 1 ∧ v = 257) ∨ (b = 68 ∧ c = 2 ∧ v = 258) ∨ (b = 67 ∧ c = 63 ∧ v = 255)))
local macro_rules | `(tactic| walk_at "my steps") => `(tactic| repeat' ((fail_if_success (with_reducible show wpAny _ _ (call (Value.builtin "next") _) _ _ _)); walk_at "s1"; walk_at "st"))
theorem var_cases {ns : List Int} {i k : Nat} {v : Int} (hv : Var ns i k v) : (k = 1 ∧ ∃ b, ns[i]? = some b ∧ (Builtin.bitAnd b 64 != 0) = false ∧ Builtin.bitAnd b 63 = v) ∨
    (k = 2 ∧ ∃ b c, ns[i]? = some b ∧ ns[i + 1]? = some c ∧ (b = 196 ∨ b = 68 ∨ b = 67) ∧ (Builtin.bitAnd c 64 != 0) = false ∧ Builtin.bitOr (Builtin.bitAnd b 63 * 64) (Builtin.bitAnd c 63) = v) := by
  rcases hv with ⟨rfl, h1, hv⟩ | ⟨rfl, b, c, h1, h2, hv⟩
  · refine .inl ⟨rfl, v, h1, ?_⟩
    rcases hv with rfl | rfl | rfl | rfl | rfl <;> exact ⟨by decide, by decide⟩
  · refine .inr ⟨rfl, b, c, h1, h2, ?_⟩
    rcases hv with ⟨rfl, rfl, rfl⟩ | ⟨rfl, rfl, rfl⟩ | ⟨rfl, rfl, rfl⟩ | ⟨rfl, rfl, rfl⟩ | ⟨rfl, rfl, rfl⟩ | ⟨rfl, rfl, rfl⟩ | ⟨rfl, rfl, rfl⟩ <;> exact ⟨by decide, by decide, by decide⟩
theorem con_varint {prog : Program} {w : World} {mean : ExcName → Option Value} {mg mb : Str → Option Value} {dp un : Nat} {gd : Option (List Code)} {cn : Str} {cs : Scope} {a : Addr} {ccd : Value} {cl : List (Str × Addr)} {outer : List Env} {A₀ : Around} {base h₀ : Heap} {L : Addr} {m : Map} {s : Shared}
    {Q E : Value → Shared → Prop} {I l : Addr} {io : Obj} {vs : List Value} {ns : List Int} {c i k : Nat} {tl : Led} {v : Int} (hio : LsIter io l i) (hne : l ≠ I) (htl : ∀ p ∈ tl, p.1 ≠ I) (hvs : IntsAre vs ns) (hv : Var ns i k v)
    (B : Below A₀ base outer h₀) (F : Fr h₀ L s.heap m) (X : (kk.heap_1 w.params).In h₀) (T : Top vv (looseW vv [Str.ofString "EXACT_TOKEN_TYPES"]) mean mg mb h₀) (N : News h₀ L s.heap ((I, io) :: (l, listOf vs.toArray c) :: tl)) (hk : cs.kind = .function) (hdp : dp + 1 < recursionLimit) (hu : un + 8 * 1 < cLine)
    (hret : ∀ h' tk' io' t, LsIter io' l (i + k) → Fr h₀ L h' m → News h₀ L h' ((I, io') :: (l, listOf vs.toArray c) :: tl) → Q (.int v t) { s with heap := h', toks := tk' }) :
    wpAny (model prog w) (ktrTop dp un gd cn cs L a ccd cl outer) (call (.ref 35) [.ref I]) Q E s := by
  refine wpAny_call ?_
  k_dflt (refine' enter_defN (binds := [(Str.ofString "iterator", .ref I)]) ?k1 ?k2 ?k3 ?k5 ?kN ?kA ?kF ?kK ?k6 ?k7 ?k8 ?k9 ?kB ?_ ?c2 ?c3 ?c4 ?c5; (case kN => exact N); walk_at "my enter")
  clear X T
  intro g L' h' FG F' N' B' X' T' lt
  k_fold
  walk_at "my steps"
  have hret' : ∀ h' tk' io' t z, z = v → LsIter io' l (i + k) → Fr h₀ L h' m → News h₀ L h' ((I, io') :: (l, listOf vs.toArray c) :: tl) → Q (.int z t) { s with heap := h', toks := tk' } := fun h' tk' io' t z e => e ▸ hret h' tk' io' t
  clear hret
  rcases var_cases hv with ⟨rfl, b, h1, hb, hbv⟩ | ⟨rfl, b, c', h1, hc1, hb, hc, hbv⟩
  · obtain ⟨t, ht⟩ := ints_at hvs _ _ h1
    k_dflt (refine' nxK F' N' hne htl hio ht ?_; k_whole)
    clear N'
    intro h2 io2 hio2 F2 N2
    (try dsimp only)
    (try k_fold)
    walk_at "my steps"
    k_dflt (refine whl_start 3 ?_)
    walk_at "my steps"
    refine WhlIf.no hb ?_
    walk_at "my steps"
    exact leaveK_ (by assumption) (by assumption) fun F N => hret' _ _ _ _ _ hbv hio2 F N
  · obtain ⟨t, ht⟩ := ints_at hvs _ _ h1
    k_dflt (refine' nxK F' N' hne htl hio ht ?_; k_whole)
    clear N'
    intro h2 io2 hio2 F2 N2
    obtain ⟨t', ht'⟩ := ints_at hvs _ _ hc1
    rcases hb with rfl | rfl | rfl
    all_goals (
    (try dsimp only)
    (try k_fold)
    walk_at "my steps"
    k_dflt (refine whl_start 3 ?_)
    walk_at "my steps"
    walk_at "my steps"
    rename Fr _ _ _ _ => F3
    rename News _ _ _ _ => N3
    k_dflt (refine' nxK F3 N3 hne htl hio2 ht' ?_; k_whole)
    clear N3
    intro h4 io4 hio4 F4 N4
    (try dsimp only)
    (try k_fold)
    walk_at "my steps"
    refine WhlIf.no hc ?_
    walk_at "my steps"
    exact leaveK_ (by assumption) (by assumption) fun F N => hret' _ _ _ _ _ hbv hio4 F N)
theorem con_varint_end {prog : Program} {w : World} {mean : ExcName → Option Value} {mg mb : Str → Option Value} {dp un : Nat} {gd : Option (List Code)} {cn : Str} {cs : Scope} {a : Addr} {ccd : Value} {cl : List (Str × Addr)} {outer : List Env} {A₀ : Around} {base h₀ : Heap} {L : Addr} {m : Map} {s : Shared}
    {Q E : Value → Shared → Prop} {I l : Addr} {io : Obj} {vs : List Value} {c i : Nat} {tl : Led} (hio : LsIter io l i) (hne : l ≠ I) (htl : ∀ p ∈ tl, p.1 ≠ I) (hi : vs.length ≤ i)
    (B : Below A₀ base outer h₀) (F : Fr h₀ L s.heap m) (X : (kk.heap_1 w.params).In h₀) (T : Top vv (looseW vv [Str.ofString "EXACT_TOKEN_TYPES"]) mean mg mb h₀) (N : News h₀ L s.heap ((I, io) :: (l, listOf vs.toArray c) :: tl)) (hk : cs.kind = .function) (hdp : dp + 1 < recursionLimit) (hu : un + 8 * 1 < cLine)
    (hret : ∀ G e t h' tk', Fr h₀ L G m → RaisedS base G (envX cn cs L a ccd cl :: outer) e (.type "StopIteration") t [] ((l, listOf vs.toArray c) :: tl) h' → G.UpToSlots h' → E (.ref e) { s with heap := h', toks := tk' }) :
    wpAny (model prog w) (ktrTop dp un gd cn cs L a ccd cl outer) (call (.ref 35) [.ref I]) Q E s := by
  refine wpAny_call ?_
  k_dflt (refine' enter_defN (binds := [(Str.ofString "iterator", .ref I)]) ?k1 ?k2 ?k3 ?k5 ?kN ?kA ?kF ?kK ?k6 ?k7 ?k8 ?k9 ?kB ?_ ?c2 ?c3 ?c4 ?c5; (case kN => exact N); walk_at "my enter")
  clear X T
  intro g L' h' FG F' N' B' X' T' lt
  k_fold
  walk_at "my steps"
  have hI := N' _ (.head _)
  k_dflt (refine' nx_end (it := I) (l := l) (i := i) rfl ⟨io, hI.1, hio⟩ (isl (N' _ (.tail _ (.head _))).1) (by first | walk_at "mem" | simp [hi]) ?_; k_whole)
  intro h1 h2 e hs hm
  (try dsimp only)
  have F1 := F'.change hs hI.2.1 hI.2.2
  have N1 : News g L' h1 ((l, listOf vs.toArray c) :: tl) := fun p hp => by
    have h1 : p.1 ≠ I := by
      rcases List.mem_cons.mp hp with rfl | hp
      · exact hne
      · exact htl p hp
    have h2 := N' p (.tail _ hp)
    exact ⟨(hs.2 p.1 h1).trans h2.1, h2.2⟩
  refine leave_raiseS B' hm F1 N1 fun h3 t R _ hsm => ?_
  exact hret g e t h3 _ FG R hsm
end Mine
end

section
open PySem PySem.W PySem.Calls PyProof.Rows
namespace Mine
theorem fresh10 : True := by
  w_top off
  trivial
end Mine
open PySem PySem.W PySem.Calls PyProof.Rows
set_option Elab.async false
set_option maxRecDepth 100000
set_option maxHeartbeats 2000000
namespace Mine

section
variable {prog : Program} {w : World} {A A₀ : Around} {s : Shared} {K : Frag} {L : Addr} {h₀ base : Heap} {m mg mb : Str → Option Value} {p : Program} {loose : List Str} {mean : ExcName → Option Value} {news : Led}
theorem enter_defR {env : Env} {R : Result → Shared → Prop} {name qual : Str} {params : Arguments} {body : List Stmt} {scope : Scope} {dV kV doc pm cdv ct oc : Value} {an od : Option Addr} {osl : Array (Option Value)} {f : Addr} {args : Args} {binds : List (Str × Value)}
    (B : Below A₀ base [] h₀) (F : Fr h₀ L s.heap m) (X₀ : K.In h₀) (T : Top p loose mean mg mb h₀) (N : News h₀ L s.heap news) (hA : A.frames = some [env]) (hf : env.frame = some L) (hke : env.scope.kind = .function)
    (ho : K.lookup f = some ⟨oc, od, .func (fnOf name qual params body scope dV kV doc pm an cdv ct), osl⟩) (hcd : codeIn K cdv qual = true) (hroom : A.depth < recursionLimit)
    (hbind : BindsTo s (fnOf name qual params body scope dV kV doc pm an cdv ct) args binds) (hloc : ∀ y ∈ binds, scope.names.lookup y.1 = some .local)
    (h : ∀ g L' h₁, Fr h₀ L g m → Fr g L' h₁ (fun y => binds.reverse.lookup y) → News g L' h₁ news → Below A base [env] g → K.In g → Top p loose mean mg mb g → KtsDicts ([env].filterMap (·.frame)) g → (∀ p ∈ news, p.1 < L') →
      wpAny (model prog w) (A.deeper (envOf qual scope L' f cdv)) (execs body (envOf qual scope L' f cdv))
        (fun fl s' => LeaveS0 ([env].filterMap (·.frame)) h₀ L m g R (match fl with | .ret v => v | _ => .none) s')
        (fun e s' => wpAny (model prog w) (A.deeper (envOf qual scope L' f cdv)) (leaving (envOf qual scope L' f cdv) e) (fun _ s'' => R (.error e) s'') (fun e' s'' => R (.error e') s'') s')
        { s with heap := h₁, toks := s.toks + binds.length })
    (hco : scope.isCoroutine = false) (hgen : scope.isGenerator = false) (hk : scope.kind = .function)
    (hcell : ∀ x ∈ scope.names, x.2 ≠ .cell) : codeAny (model prog w) A (.call (.ref f) args) R s := by
  obtain ⟨FG, BG, st, lv⟩ := groundX (R := R) B F N hA hf hke
  have X := X₀.keeps F.keep
  refine codeAny_call_def (fd := fnOf name qual params body scope dV kV doc pm an cdv ct) (body := body) (binds := binds) hroom (X _ _ ho) rfl (T.nolimit.keeps F.keep) (codeRec_of X hcd) rfl hbind hcell hloc (fun h₁ hns hk₁ => ?_) hco hgen hk
  obtain ⟨oL, es, ep, hLg, hLd, hLk, hLf⟩ := FG.ns
  have hfs : ∀ b, b ∈ [env].filterMap (·.frame) → b = L := fun b hb => by
    simp only [List.filterMap_cons, hf, List.filterMap_nil, List.mem_singleton] at hb
    exact hb
  refine wpAny_mono (h _ s.heap.objs.size h₁ FG ⟨hns, fun b o e => hk₁ b o (of_hideAll _ e), Nat.le_of_eq (hideAll_size _ _)⟩
    (fun p hp => ⟨hk₁ _ _ (N p hp).1, Nat.ne_of_lt (Heap.lt_size (N p hp).1), hideAll_none _ (List.mem_map_of_mem hp)⟩) BG (X₀.keeps st) (T.keeps st) (fun b hb => by
      rw [hfs b hb]
      exact ⟨oL, es, ep, hLg, hLd⟩) (fun p hp => Heap.lt_size (N p hp).1)) (fun fl s' hl => ?_) fun _ _ y => y
  obtain ⟨g', L', m', news', T', F', N', k⟩ := hl
  have nL₀ : h₀.get? L = none := kts_self F
  obtain ⟨sl, hs⟩ := T'.up hLg
  refine k ⟨⟨_, es, ep, F'.keep _ _ hs, hLd, hLk, hLf⟩, fun b o e => F'.keep b o (T'.other b o (st b o e) (fun q => by
    rw [hfs b q, nL₀] at e
    cases e)), F.above⟩ fun p hp => ⟨(N' p hp).1, fun q => ?_, ?_⟩
  · have := (N' p hp).2.2; rw [q, hs] at this; cases this
  · cases q : h₀.get? p.1 with
    | none => rfl
    | some o =>
      obtain ⟨sl', hs'⟩ := T'.up (st _ _ q)
      have := (N' p hp).2.2
      rw [hs'] at this
      cases this
end
def enc (v : Int) : List Int := if v = 256 then [68, 0] else if v = 257 then [68, 1] else if v = 258 then [68, 2] else if v = 255 then [67, 63] else [v]
abbrev Rules := List (Int × List Int)
def encR (r : Int × List Int) : List Int := [196, r.1 - 256] ++ r.2.flatMap enc ++ [0]
def tapeOf (R : Rules) : List Int := R.flatMap encR
def Sym (v : Int) : Prop := v = 1 ∨ v = 14 ∨ v = 22 ∨ v = 36 ∨ v = 255 ∨ v = 257 ∨ v = 258
def RulesOk (R : Rules) : Prop := ∀ r ∈ R, (r.1 = 256 ∨ r.1 = 257 ∨ r.1 = 258) ∧ r.2.length ≤ 2 ∧ ∀ v ∈ r.2, Sym v
def Gof (R : Rules) : Gm := fun k => (R.filter fun r => r.1 == k).map (·.2)
theorem drop_at {ns : List Int} {i : Nat} {x : Int} {r : List Int} (h : ns.drop i = x :: r) : ns[i]? = some x ∧ ns.drop (i + 1) = r := by
  have h0 : (ns.drop i)[0]? = some x := by rw [h]; rfl
  have h1 : (ns.drop i).drop 1 = r := by rw [h]; rfl
  rw [List.getElem?_drop] at h0
  rw [List.drop_drop] at h1
  exact ⟨h0, h1⟩
theorem var_left {ns : List Int} {i : Nat} {v : Int} {r : List Int} (hv : v = 256 ∨ v = 257 ∨ v = 258) (h : ns.drop i = [196, v - 256] ++ r) : Var ns i 2 v ∧ ns.drop (i + 2) = r := by
  obtain ⟨h1, h2⟩ := drop_at (x := 196) (r := (v - 256) :: r) h
  obtain ⟨h3, h4⟩ := drop_at h2
  refine ⟨.inr ⟨rfl, 196, v - 256, h1, h3, ?_⟩, h4⟩
  rcases hv with rfl | rfl | rfl
  · exact .inl ⟨rfl, rfl, rfl⟩
  · exact .inr (.inl ⟨rfl, rfl, rfl⟩)
  · exact .inr (.inr (.inl ⟨rfl, rfl, rfl⟩))
theorem var_sym {ns : List Int} {i : Nat} {v : Int} {r : List Int} (hv : Sym v ∨ v = 0) (h : ns.drop i = enc v ++ r) : ∃ k, Var ns i k v ∧ ns.drop (i + k) = r := by
  rcases hv with (rfl | rfl | rfl | rfl | rfl | rfl | rfl) | rfl
  case inl.inr.inr.inr.inr.inl =>
    obtain ⟨h1, h2⟩ := drop_at (x := 67) (r := 63 :: r) h
    obtain ⟨h3, h4⟩ := drop_at h2
    exact ⟨2, .inr ⟨rfl, _, _, h1, h3, by simp⟩, h4⟩
  case inl.inr.inr.inr.inr.inr.inl =>
    obtain ⟨h1, h2⟩ := drop_at (x := 68) (r := 1 :: r) h
    obtain ⟨h3, h4⟩ := drop_at h2
    exact ⟨2, .inr ⟨rfl, _, _, h1, h3, by simp⟩, h4⟩
  case inl.inr.inr.inr.inr.inr.inr =>
    obtain ⟨h1, h2⟩ := drop_at (x := 68) (r := 2 :: r) h
    obtain ⟨h3, h4⟩ := drop_at h2
    exact ⟨2, .inr ⟨rfl, _, _, h1, h3, by simp⟩, h4⟩
  all_goals (obtain ⟨h1, h2⟩ := drop_at h; exact ⟨1, .inl ⟨rfl, h1, by simp⟩, h2⟩)
def BodiesL (tl : Led) (bs : List Value) (B : List (List Int)) : Prop := bs.length = B.length ∧ ∀ (i : Nat) (b : List Int), B[i]? = some b → ∃ r xs c, bs[i]? = some (.ref r) ∧ (r, listOf (List.toArray xs) c) ∈ tl ∧ IntsAre xs b
def FoundL (tl : Led) (kvs : List (Int × Value)) (G : Gm) : Prop := ∀ k, (valueAt kvs k = none ∧ G k = []) ∨ ∃ a bs c, valueAt kvs k = some (.ref a) ∧ (a, listOf (List.toArray bs) c) ∈ tl ∧ BodiesL tl bs (G k)
theorem all_cons {P : Addr × Obj → Prop} {q : Addr × Obj} {l : Led} (h1 : P q) (h2 : ∀ p ∈ l, P p) : ∀ p ∈ q :: l, P p := fun p hp => by
  rcases List.mem_cons.mp hp with rfl | hp
  · exact h1
  · exact h2 p hp
def NextS (ns : List Int) (i : Nat) (x : Int) (post rest : List Int) : Prop := (x = 0 ∧ post = [] ∧ ns.drop i = rest) ∨ ∃ post', post = x :: post' ∧ Sym x ∧ ns.drop i = post'.flatMap enc ++ ([0] ++ rest)
theorem next_sym {ns : List Int} {i : Nat} {post rest : List Int} (hp : ∀ v ∈ post, Sym v) (h : ns.drop i = post.flatMap enc ++ ([0] ++ rest)) : ∃ x k, Var ns i k x ∧ NextS ns (i + k) x post rest := by
  cases post with
  | nil =>
    obtain ⟨k, h1, h2⟩ := var_sym (v := 0) (.inr rfl) (r := rest) h
    exact ⟨0, k, h1, .inl ⟨rfl, rfl, h2⟩⟩
  | cons x post =>
    rw [List.flatMap_cons, List.append_assoc] at h
    obtain ⟨k, h1, h2⟩ := var_sym (.inl (hp x (.head _))) h
    exact ⟨x, k, h1, .inr ⟨post, rfl, hp x (.head _), h2⟩⟩
inductive RJ2 (R : Rules) (l : Addr) (vs : List Value) (c : Nat) (I fd bd : Addr) (od : Obj) (lf : Int) (tlf : Tok) (r2 rest : List Int) (tl : Led) (n : Nat) (m : Map) (news : Led) : Prop
  | mk (io : Obj) (i : Nat) (xs : List Value) (pre post : List Int) (x : Int) (t : Tok) (cb : Nat) (f0 : Has m [(Str.ofString "symbol", .int x t), (Str.ofString "body", .ref bd), (Str.ofString "left", .int lf tlf), (Str.ofString "found", .ref fd), (Str.ofString "iterator", .ref I)]) (f1 : news = (I, io) :: (l, listOf vs.toArray c) :: (fd, od) :: (bd, listOf xs.toArray cb) :: tl) (f2 : LsIter io l i) (f3 : IntsAre xs pre) (f4 : pre ++ post = r2) (f5 : n = post.length) (f6 : NextS (tapeOf R) i x post rest) : RJ2 R l vs c I fd bd od lf tlf r2 rest tl n m news
theorem valueAt_stored (kvs : List (Int × Value)) (k k' : Int) (v : Value) : valueAt (stored kvs k v) k' = if k' = k then some v else valueAt kvs k' := by
  induction kvs with
  | nil =>
    by_cases h : k' = k
    · subst h; simp [stored, valueAt]
    · simp [stored, valueAt, h, Ne.symm h]
  | cons p kvs ih =>
    obtain ⟨k0, v0⟩ := p
    by_cases h0 : k0 = k
    · subst h0
      have e : stored ((k0, v0) :: kvs) k0 v = (k0, v) :: kvs.map (fun kv => if kv.1 = k0 then (kv.1, v) else kv) := by simp [stored]
      rw [e]
      by_cases h : k' = k0
      · subst h; simp [valueAt]
      · have h' : ¬ k0 = k' := fun q => h q.symm
        have key : ∀ l : List (Int × Value), valueAt (l.map (fun kv => if kv.1 = k0 then (kv.1, v) else kv)) k' = valueAt l k' := by
          intro l
          induction l with
          | nil => rfl
          | cons q l ihl =>
            obtain ⟨a, b⟩ := q
            simp only [valueAt, List.map_cons, List.find?_cons] at ihl ⊢
            by_cases ha : a = k'
            · subst ha
              simp [h]
            · have : ¬ (if a = k0 then ((a : Int), v) else (a, b)).1 = k' := by split <;> exact ha
              simp only [ha, this, decide_false]
              exact ihl
        rw [if_neg h]
        have := key kvs
        simp only [valueAt, List.find?_cons, h', decide_false] at this ⊢
        exact this
    · have e : stored ((k0, v0) :: kvs) k v = (k0, v0) :: stored kvs k v := by
        simp only [stored, List.any_cons, h0, decide_false, Bool.false_or, List.map_cons, if_false]
        split <;> rfl
      rw [e]
      by_cases h1 : k0 = k'
      · subst h1; simp [valueAt, h0]
      · simp only [valueAt, List.find?_cons, h1, decide_false] at ih ⊢
        exact ih
theorem bodies_snoc {tl tl' : Led} {bs : List Value} {B : List (List Int)} {r : Addr} {xs : List Value} {c : Nat} {b : List Int} (h : BodiesL tl bs B) (hs : ∀ p ∈ tl, p ∈ tl') (hr : (r, listOf (List.toArray xs) c) ∈ tl') (hx : IntsAre xs b) : BodiesL tl' (bs ++ [.ref r]) (B ++ [b]) := by
  refine ⟨by simp [h.1], fun i b' hi => ?_⟩
  rcases Nat.lt_or_ge i B.length with hl | hl
  · rw [List.getElem?_append_left hl] at hi
    obtain ⟨r', xs', c', e1, e2, e3⟩ := h.2 i b' hi
    exact ⟨r', xs', c', by rw [List.getElem?_append_left (by rw [h.1]; exact hl)]; exact e1, hs _ e2, e3⟩
  · rw [List.getElem?_append_right hl] at hi
    have h0 : i - B.length = 0 := by
      rcases Nat.eq_zero_or_pos (i - B.length) with q | q
      · exact q
      · rw [List.getElem?_eq_none (by simp; omega)] at hi; cases hi
    rw [h0] at hi
    obtain rfl : b = b' := by simpa using hi
    exact ⟨r, xs, c, by rw [List.getElem?_append_right (by rw [h.1]; exact hl), h.1, h0]; rfl, hr, hx⟩
theorem found_step {tl tl' : Led} {kvs : List (Int × Value)} {Rd : Rules} {r : Int × List Int} {D : Addr} {bs : List Value} {c : Nat} (hf : FoundL tl kvs (Gof Rd)) (hs : ∀ p ∈ tl, p ∈ tl') (hD : (D, listOf (List.toArray bs) c) ∈ tl') (hB : BodiesL tl' bs (Gof Rd r.1 ++ [r.2])) :
    FoundL tl' (stored kvs r.1 (.ref D)) (Gof (Rd ++ [r])) := by
  intro k
  rw [valueAt_stored]
  have e : Gof (Rd ++ [r]) k = if k = r.1 then Gof Rd r.1 ++ [r.2] else Gof Rd k := by
    simp only [Gof, List.filter_append, List.map_append]
    by_cases h : k = r.1
    · subst h; simp
    · have h' : ¬ r.1 = k := fun q => h q.symm
      simp [h, h']
  rw [e]
  by_cases h : k = r.1
  · rw [if_pos h, if_pos h]
    exact .inr ⟨D, bs, c, rfl, hD, hB⟩
  · rw [if_neg h, if_neg h]
    rcases hf k with h0 | ⟨a, bs', c', e1, e2, e3, e4⟩
    · exact .inl h0
    · refine .inr ⟨a, bs', c', e1, hs _ e2, e3, fun i b hi => ?_⟩
      obtain ⟨r', xs', c'', f1, f2, f3⟩ := e4 i b hi
      exact ⟨r', xs', c'', f1, hs _ f2, f3⟩
theorem stop_isExc : isSubtype (.type "StopIteration") (.type "BaseException") = pure true := by rw [isSubtype_type]; kernel_rfl
theorem stop_notTuple : isSubtype (.type ((Manifest.find? "StopIteration").elim "type" fun y => y.metatype)) (.type "tuple") = pure false := by rw [isSubtype_type]; kernel_rfl
theorem stop_sub : isSubtype (.type "StopIteration") (.type "StopIteration") = pure true := by rw [isSubtype_type]; kernel_rfl
inductive RJ (prog : Program) (w : World) (R : Rules) (l : Addr) (vs : List Value) (c : Nat) (tl0 : Led) (n : Nat) (m : Map) (news : Led) : Prop
  | mk (I fd : Addr) (io od : Obj) (i : Nat) (kvs : List (Int × Value)) (tlf : Led) (Rd Rr : Rules) (f0 : Has m [(Str.ofString "found", .ref fd), (Str.ofString "iterator", .ref I)]) (f1 : news = (I, io) :: (l, listOf vs.toArray c) :: (fd, od) :: (tlf ++ tl0)) (f2 : LsIter io l i) (f3 : (tapeOf R).drop i = tapeOf Rr) (f4 : R = Rd ++ Rr) (f5 : n = Rr.length) (f6 : od.IsDictOf (intKind prog w) kvs) (f7 : FoundL tlf kvs (Gof Rd)) (f8 : kvs.length ≤ Rd.length) (f9 : (@Ne Nat l I ∧ @Ne Nat fd I ∧ @Ne Nat fd l)) (f10 : (∀ p ∈ tlf ++ tl0, p.1 ≠ I)) (f11 : (∀ p ∈ tlf ++ tl0, p.1 ≠ fd)) (f12 : (fd == sysModules) = false) (f13 : (∀ p ∈ tlf, ∀ q ∈ tl0, p.1 ≠ q.1)) (f14 : (∀ p ∈ tlf, p.1 ≠ l)) : RJ prog w R l vs c tl0 n m news
local macro_rules | `(tactic| walk_at "my steps") => `(tactic| repeat' ((fail_if_success (with_reducible show wpAny _ _ (call (Value.ref 35) _) _ _ _)); walk_at "s1"; walk_at "st"))
local macro_rules | `(tactic| walk_at "call ref") => `(tactic| (k_here; (with_reducible show wpAny _ _ (call (Value.ref _) [Value.int _ _] _) _ _ _); k_dflt (refine' Con.use (con_eof _ _ _) rfl ?k1 ?k2 ?k3 ?k4 ?k5 ?kd ?ku ?k6 ?_); k_dflt (walk_at "use9"; intro r9 h9 tk9 st9 F9 N9 hp9; subst hp9; clear st9; (try dsimp only); (try k_fold))))
theorem itK {prog : Program} {w : World} {A : Around} {E : Value → Shared → Prop} {s : Shared} {h₀ : Heap} {L l : Addr} {m : Map} {vs : List Value} {c : Nat} {tl : Led} {Q : Value → Shared → Prop} (F : Fr h₀ L s.heap m) (N : News h₀ L s.heap ((l, listOf vs.toArray c) :: tl)) (htl : ∀ p ∈ tl, p.1 ≠ l)
    (h : ∀ I h' io, LsIter io l 0 → Fr h₀ L h' m → News h₀ L h' ((I, io) :: (l, listOf vs.toArray c) :: tl) → l ≠ I → (∀ p ∈ tl, p.1 ≠ I) → Q (.ref I) { s with heap := h' }) :
    wpAny (model prog w) A (call (.builtin "iter") [.ref l]) Q E s := by
  have hlt : ∀ p ∈ (l, listOf vs.toArray c) :: tl, p.1 ≠ s.heap.objs.size := fun p hp => Nat.ne_of_lt (Heap.lt_size (N p hp).1)
  refine it_make (isl (N _ (.head _)).1) (h _ _ _ ⟨rfl, rfl⟩ (F.push _) (News.push F N _ rfl) (hlt _ (.head _)) fun p hp => hlt p (.tail _ hp))
local macro_rules | `(tactic| walk_at "call builtin:list.append") => `(tactic| (k_here; (with_reducible show wpAny _ _ (call (Value.builtin _) [Value.ref _, _]) _ _ _); k_dflt (refine' append_K ?k1 ?k2 ?k3 ?_ ?z; (case k1 => k_asm); (case k2 => k_asm); (case k3 => k_upd); (case z => (rw [sizeLine_eq]; simp only [List.size_toArray]; omega)); k_whole); intro h' F' N'; (try simp only [List.push_toArray] at N')))
theorem con_read {prog : Program} {w : World} {mean : ExcName → Option Value} {mg mb : Str → Option Value} {dp un : Nat} {gd : Option (List Code)} {cn : Str} {cs : Scope} {a : Addr} {ccd : Value} {cl : List (Str × Addr)} {A₀ : Around} {h₀ : Heap} {L : Addr} {m : Map} {s : Shared}
    {Q E : Value → Shared → Prop} {l : Addr} {vs : List Value} {c : Nat} {tl : Led} (R : Rules) (hR : RulesOk R) (hRl : R.length ≤ 100) (hvs : IntsAre vs (tapeOf R)) (htl : ∀ p ∈ tl, p.1 ≠ l)
    (B : Below A₀ h₀ [] h₀) (F : Fr h₀ L s.heap m) (X : (kk.heap_1 w.params).In h₀) (T : Top vv (looseW vv [Str.ofString "EXACT_TOKEN_TYPES"]) mean mg mb h₀) (N : News h₀ L s.heap ((l, listOf vs.toArray c) :: tl)) (hk : cs.kind = .function) (hdp : dp + 2 < recursionLimit) (hu : un + 8 * 2 < cLine)
    (hret : ∀ h' tk' fd od kvs tlf, Fr h₀ L h' m → News h₀ L h' ((l, listOf vs.toArray c) :: (fd, od) :: (tlf ++ tl)) → od.IsDictOf (intKind prog w) kvs → FoundL tlf kvs (Gof R) → (@Ne Nat fd l ∧ ∀ p ∈ tl, p.1 ≠ fd) → (∀ p ∈ tlf, p.1 ≠ l ∧ ∀ q ∈ tl, p.1 ≠ q.1) → Q (.ref fd) { s with heap := h', toks := tk' }) :
    wpAny (model prog w) (ktrTop dp un gd cn cs L a ccd cl []) (call (.ref 90) [.ref l]) Q E s := by
  refine wpAny_call ?_
  k_dflt (refine' enter_defR (binds := [(Str.ofString "tape", .ref l)]) ?k1 ?k2 ?k3 ?k5 ?kN ?kA ?kF ?kK ?k6 ?k7 ?k8 ?k9 ?kB ?_ ?c2 ?c3 ?c4 ?c5; (case kN => exact N); walk_at "my enter")
  intro g L' h' FG F' N' B' X' T' D' lt
  k_fold
  walk_at "my steps"
  k_dflt (refine' itK F' N' htl ?_; k_whole)
  clear F' N'
  intro I h1 io hio F1 N1 hne hI
  (try dsimp only)
  (try k_fold)
  walk_at "my steps"
  rename Fr _ _ _ _ => F2
  rename News _ _ _ _ => N2
  rename_i fd h2 od hfdm hsd hsf hid hif l2 h3
  k_dflt refine' while_cut (n₀ := R.length) (L := L') (h₀ := g) (fun n m news => RJ prog w R l vs c tl n m news) (fun m news => False) F2 (news_sub (B := (I, io) :: (l, listOf vs.toArray c) :: (fd, od) :: tl) N2 (fun z hz => by revert z; walk_at "sub")) ?w2 ?w3 ?w4 ?w5
  case w5 => passes_own
  case w4 => rintro _ _ _ _ _ _ h; exact h.elim
  case w2 =>
    refine ⟨I, fd, io, od, 0, [], [], [], R, ⟨rfl, rfl, trivial⟩, rfl, hio, rfl, rfl, rfl, hid, fun k => .inl ⟨rfl, rfl⟩, Nat.le_refl _, ⟨hne, Nat.ne_of_gt l2.1, Nat.ne_of_gt l2.2.1⟩, hI, ?_, hfdm, fun _ h => absurd h List.not_mem_nil, fun _ h => absurd h List.not_mem_nil⟩
    intro p hp
    exact Nat.ne_of_lt (ktn_ltOf l2.2.2 p hp)
  case w3 =>
    clear F2 N2
    rintro n m₁ news₁ h₁ tk₁ F₁ N₁ ⟨I, fd, io, od, i, kvs, tlf, Rd, Rr, H, rfl, hio, hdrop, hRR, rfl, hod, hfound, hkl, hnes, htI, htf, hfdm, hsl, hsll⟩
    replace F₁ := H.fr F₁
    clear H
    dsimp only [kstB] at F₁
    have hlI := hnes.1
    cases Rr with
    | nil =>
      (try dsimp only); (try k_fold)
      walk_at "my steps"
      have hvl : vs.length ≤ i := by
        have h1 := congrArg List.length hdrop
        have h2 := hvs.length
        simp only [List.length_drop, tapeOf, List.flatMap_nil, List.length_nil] at h1
        rw [h2]
        exact Nat.sub_eq_zero_iff_le.mp h1
      k_dflt (refine' con_varint_end hio hlI ?z1 hvl ?kB ?kF ?kX ?kT ?kN ?kk ?kd ?ku ?_; (case kN => exact N₁); (case kB => assumption); (case kF => assumption); (case kX => assumption); (case kT => assumption); (case kk => exact rfl); (case kd => ktr_room); (case ku => ktr_units); (case z1 => exact all_cons hnes.2.1 htI); k_whole)
      intro G e t h4 tk4 FG4 R4 hsm4
      (try dsimp only)
      k_dflt (refine' caught_S0 (T' := "StopIteration") (g₀ := g) R4 FG4 ?zK hsm4 ?zX ?zT D' KtsTurn.refl ?ze PyProof.Rows.Boot.«StopIteration» ?zn stop_isExc stop_notTuple stop_sub ?_; (case zK => assumption); (case zX => assumption); (case zT => assumption); (case ze => k_is); (case zn => decide); k_whole)
      clear F₁ N₁
      intro h5 g5 nw5 T5 F5 Nw5 got5 N5 B5 X5 P5 D5
      (try dsimp only)
      (try k_fold)
      walk_at "my steps"
      rename Fr h₀ _ _ _ => F6
      rename News h₀ _ _ _ => N6
      have hRR' : R = Rd := by rw [hRR, List.append_nil]
      subst hRR'
      exact hret _ _ fd od kvs tlf F6 N6 hod hfound ⟨hnes.2.2, fun p hp => htf p (List.mem_append_right _ hp)⟩ (fun p hp => ⟨hsll p hp, hsl p hp⟩)
    | cons r Rr =>
      obtain ⟨hr1, hr2, hr3⟩ := hR r (by rw [hRR]; simp)
      have hd1 : (tapeOf R).drop i = [196, r.1 - 256] ++ (r.2.flatMap enc ++ ([0] ++ tapeOf Rr)) := by rw [hdrop]; simp [tapeOf, encR]
      obtain ⟨hv1, hd2⟩ := var_left hr1 hd1
      (try dsimp only); (try k_fold)
      walk_at "my steps"
      k_dflt (refine' con_varint hio hlI ?z1 hvs hv1 ?kB ?kF ?kX ?kT ?kN ?kk ?kd ?ku ?_; (case kN => exact N₁); (case kB => assumption); (case kF => assumption); (case kX => assumption); (case kT => assumption); (case kk => exact rfl); (case kd => ktr_room); (case ku => ktr_units); (case z1 => exact all_cons hnes.2.1 htI); k_whole)
      clear F₁ N₁
      intro h4 tk4 io4 t4 hio4 F4 N4
      (try dsimp only)
      (try k_fold)
      walk_at "my steps"
      rename Fr g _ _ _ => F5
      rename News g _ _ _ => N5
      rename_i bd h5 l5 h6
      obtain ⟨x, k, hv2, hns⟩ := next_sym hr3 hd2
      have hbI : @Ne Nat bd I := Nat.ne_of_gt l5.1
      k_dflt (refine' con_varint (c := c) (tl := (fd, od) :: (bd, listOf #[] 0) :: (tlf ++ tl)) hio4 hlI ?z1 hvs hv2 ?kB ?kF ?kX ?kT ?kN ?kk ?kd ?ku ?_; (case kN => exact news_sub N5 (fun z hz => by revert z; walk_at "sub")); (case kB => assumption); (case kF => assumption); (case kX => assumption); (case kT => assumption); (case kk => exact rfl); (case kd => ktr_room); (case ku => ktr_units); (case z1 => exact all_cons hnes.2.1 (all_cons hbI htI)); k_whole)
      clear F5 N5
      intro h7 tk7 io7 t7 hio7 F7 N7
      (try dsimp only)
      (try k_fold)
      walk_at "my steps"
      rename Fr g _ _ _ => F8
      rename News g _ _ _ => N8
      k_dflt refine' while_cut (n₀ := r.2.length) (L := L') (h₀ := g) (fun n m news => RJ2 R l vs c I fd bd od r.1 t4 r.2 (tapeOf Rr) (tlf ++ tl) n m news) (fun m news => RJ2 R l vs c I fd bd od r.1 t4 r.2 (tapeOf Rr) (tlf ++ tl) 0 m news) F8 (news_sub (B := (I, io7) :: (l, listOf vs.toArray c) :: (fd, od) :: (bd, listOf (List.toArray []) 0) :: (tlf ++ tl)) N8 (fun z hz => by revert z; walk_at "sub")) ?y2 ?y3 ?y4 ?y5
      case y5 => passes_own
      case y2 => exact ⟨io7, _, [], [], r.2, x, t7, 0, ⟨rfl, rfl, rfl, rfl, rfl, trivial⟩, rfl, hio7, .nil, rfl, rfl, hns⟩
      case y3 =>
        clear F8 N8
        rintro n m₂ news₂ h8 tk8 F₈ N₈ ⟨io, i2, xs, pre, post, x, t, cb, H, rfl, hio, hxs, hpp, rfl, hns⟩
        replace F₈ := H.fr F₈
        clear H
        dsimp only [kstB] at F₈
        have hxl : xs.length ≤ 2 := by
          have h1 := hxs.length
          have h2 := congrArg List.length hpp
          rw [List.length_append] at h2
          omega
        rcases hns with ⟨rfl, rfl, hd⟩ | ⟨post', rfl, hx, hd⟩
        · (try dsimp only); (try k_fold)
          walk_at "my steps"
          exact CutEnd.intro (by assumption) (by assumption) ⟨io, i2, xs, pre, [], 0, t, cb, ⟨rfl, rfl, rfl, rfl, rfl, trivial⟩, rfl, hio, hxs, hpp, rfl, .inl ⟨rfl, rfl, hd⟩⟩
        · (try dsimp only); (try k_fold)
          walk_at "my steps"
          · exfalso
            have hx0 : x = 0 := by first | assumption | simpa using ‹_ = true›
            subst hx0
            simp [Sym] at hx
          rename Fr g _ _ _ => F10
          rename News g _ _ _ => N10
          obtain ⟨x2, k2, hv3, hns3⟩ := next_sym (post := post') (fun v hv => hr3 v (by rw [← hpp]; simp [hv])) hd
          k_dflt (refine' con_varint (c := c) (tl := (fd, od) :: (bd, listOf (List.toArray (xs ++ [.int x t])) (cb + 1)) :: (tlf ++ tl)) hio hlI ?z1 hvs hv3 ?kB ?kF ?kX ?kT ?kN ?kk ?kd ?ku ?_; (case kN => exact N10); (case kB => assumption); (case kF => assumption); (case kX => assumption); (case kT => assumption); (case kk => exact rfl); (case kd => ktr_room); (case ku => ktr_units); (case z1 => exact all_cons hnes.2.1 (all_cons hbI htI)); k_whole)
          clear F10 N10
          intro h11 tk11 io11 t11 hio11 F11 N11
          (try dsimp only)
          (try k_fold)
          walk_at "my steps"
          refine ⟨_, _, _, _, post'.length, rfl, (by assumption), (by assumption), Nat.lt_succ_self _, ?_⟩
          exact ⟨io11, _, xs ++ [.int x t], pre ++ [x], post', x2, t11, _, ⟨rfl, rfl, rfl, rfl, rfl, trivial⟩, rfl, hio11, hxs.append (.cons _ _ .nil), by rw [← hpp, List.append_assoc]; rfl, rfl, hns3⟩
      case y4 =>
        clear F8 N8
        rintro h8 tk8 m₂ news₂ F₈ N₈ ⟨io, i2, xs, pre, post, x, t, cb, H, rfl, hio, hxs, hpp, hp0, hns⟩
        replace F₈ := H.fr F₈
        clear H
        dsimp only [kstB] at F₈
        (try dsimp only); (try k_fold)
        walk_at "my steps"
        rename Fr g _ _ _ => F12
        rename News g _ _ _ => N12
        rename_i e0 h12 l12
        have hpost : post = [] := List.length_eq_zero_iff.mp hp0.symm
        subst hpost
        rw [List.append_nil] at hpp
        subst hpp
        have hd12 : (tapeOf R).drop i2 = tapeOf Rr := by
          rcases hns with ⟨_, _, h⟩ | ⟨_, h, _⟩
          · exact h
          · cases h
        have hbI := hbI
        have hkz : kvs.length ≤ sizeLine := by
          have := congrArg List.length hRR
          rw [List.length_append] at this
          rw [sizeLine_eq]; omega
        rcases hfound r.1 with ⟨e1, e2⟩ | ⟨a1, bs, c1, e1, e2, e3, e4⟩
        · k_dflt (refine' kdg_get2 (knd := intKind prog w) (k := r.1) N12 (by k_mem) hod hfdm (intKind_is _ _ _ _) none e1 ?_; k_whole)
          (try dsimp only [Option.getD])
          (try k_fold)
          walk_at "my steps"
          rename Fr g _ _ _ => F13
          rename News g _ _ _ => N13
          rename_i D h13 l13
          k_dflt (refine' kda_set (knd := intKind prog w) (k := r.1) F13 (news_sub (B := (fd, od) :: (D, listOf #[.ref bd] 0) :: (I, io) :: (l, listOf vs.toArray c) :: (bd, listOf xs.toArray cb) :: (tlf ++ tl)) N13 (fun z hz => by revert z; walk_at "sub")) (.head (all_cons (Nat.ne_of_gt l13.2.2.2.2.1) (all_cons (Ne.symm hnes.2.1) (all_cons (Ne.symm hnes.2.2) (all_cons (Nat.ne_of_gt l5.2.2.1) htf))))) hod (intKind_is _ _ _ _) hkz ?_; k_whole)
          clear F13 N13
          intro h14 o14 F14 N14 hod14
          (try dsimp only)
          (try k_fold)
          walk_at "my steps"
          refine ⟨_, _, _, _, Rr.length, rfl, (by assumption), news_sub (B := (I, io) :: (l, listOf vs.toArray c) :: (fd, o14) :: (D, listOf (List.toArray ([.ref bd])) 0) :: (bd, listOf xs.toArray cb) :: (tlf ++ tl)) N14 (fun z hz => by revert z; walk_at "sub"), Nat.lt_succ_self _, ?_⟩
          refine ⟨I, fd, io, o14, i2, stored kvs r.1 (.ref D), (D, listOf (List.toArray ([.ref bd])) 0) :: (bd, listOf xs.toArray cb) :: tlf, Rd ++ [r], Rr, ⟨rfl, rfl, trivial⟩, rfl, hio, hd12, by rw [hRR, List.append_assoc]; rfl, rfl, hod14, ?_, ?_, hnes, all_cons (Nat.ne_of_gt l13.2.2.1) (all_cons hbI htI), all_cons (Nat.ne_of_gt l13.2.2.2.2.1) (all_cons (Nat.ne_of_gt l5.2.2.1) htf), hfdm, all_cons (fun q hq => Nat.ne_of_gt (ktn_ltOf l13.2.2.2.2.2.2 q (List.mem_append_right _ hq))) (all_cons (fun q hq => Nat.ne_of_gt (ktn_ltOf l5.2.2.2 q (List.mem_append_right _ hq))) hsl), all_cons (Nat.ne_of_gt l13.2.2.2.1) (all_cons (Nat.ne_of_gt l5.2.1) hsll)⟩
          · refine found_step hfound (fun p hp => .tail _ (.tail _ hp)) (.head _) ?_
            rw [e2]
            exact bodies_snoc (tl := []) (bs := []) (B := []) ⟨rfl, fun i b hi => by simp at hi⟩ (fun _ h => absurd h List.not_mem_nil) (.tail _ (.head _)) hxs
          · have := stored_length_le kvs r.1 (.ref D)
            rw [List.length_append]
            exact Nat.le_trans this (Nat.add_le_add_right hkl 1)
        · k_dflt (refine' kdg_get2 (knd := intKind prog w) (k := r.1) N12 (by k_mem) hod hfdm (intKind_is _ _ _ _) (some (.ref a1)) e1 ?_; k_whole)
          (try dsimp only [Option.getD])
          (try k_fold)
          walk_at "my steps"
          dsimp only [qk]
          rename Fr g _ _ _ => F13
          rename News g _ _ _ => N13
          rename_i nb h13 l13
          have hbz : bs.length ≤ 100 := by
            have h1 := congrArg List.length hRR
            have h2 : (Gof Rd r.1).length ≤ Rd.length := by simp only [Gof, List.length_map]; exact List.length_filter_le _ _
            rw [List.length_append] at h1
            omega
          k_dflt (refine' kmk_add_lit (its := bs.toArray) (its2 := #[.ref bd]) (zs := bs ++ [.ref bd]) F13 N13 ?q1 ?q2 ?q3 ?_ ?q4; (case q1 => exact isl (N13 _ (.tail _ (.tail _ (.tail _ (.tail _ (.tail _ (.tail _ (List.mem_append_left _ e2)))))))).1); (case q2 => exact isl (vs := [.ref bd]) (N13 _ (.head _)).1); (case q3 => simp); (case q4 => (rw [sizeLine_eq]; simp; omega)); k_whole)
          clear F13 N13
          intro D h14 F14 N14 l14
          k_lt l14
          (try dsimp only)
          (try k_fold)
          walk_at "my steps"
          rename Fr g _ _ _ => F15
          rename News g _ _ _ => N15
          k_dflt (refine' kda_set (knd := intKind prog w) (k := r.1) F15 (news_sub (B := (fd, od) :: (D, listOf (List.toArray (bs ++ [.ref bd])) 0) :: (I, io) :: (l, listOf vs.toArray c) :: (bd, listOf xs.toArray cb) :: (tlf ++ tl)) N15 (fun z hz => by revert z; walk_at "sub")) (.head (all_cons (Nat.ne_of_gt l14.2.2.2.2.1) (all_cons (Ne.symm hnes.2.1) (all_cons (Ne.symm hnes.2.2) (all_cons (Nat.ne_of_gt l5.2.2.1) htf))))) hod (intKind_is _ _ _ _) hkz ?_; k_whole)
          clear F15 N15
          intro h14 o14 F14 N14 hod14
          (try dsimp only)
          (try k_fold)
          walk_at "my steps"
          refine ⟨_, _, _, _, Rr.length, rfl, (by assumption), news_sub (B := (I, io) :: (l, listOf vs.toArray c) :: (fd, o14) :: (D, listOf (List.toArray (bs ++ [.ref bd])) 0) :: (bd, listOf xs.toArray cb) :: (tlf ++ tl)) N14 (fun z hz => by revert z; walk_at "sub"), Nat.lt_succ_self _, ?_⟩
          refine ⟨I, fd, io, o14, i2, stored kvs r.1 (.ref D), (D, listOf (List.toArray (bs ++ [.ref bd])) 0) :: (bd, listOf xs.toArray cb) :: tlf, Rd ++ [r], Rr, ⟨rfl, rfl, trivial⟩, rfl, hio, hd12, by rw [hRR, List.append_assoc]; rfl, rfl, hod14, ?_, ?_, hnes, all_cons (Nat.ne_of_gt l14.2.2.1) (all_cons hbI htI), all_cons (Nat.ne_of_gt l14.2.2.2.2.1) (all_cons (Nat.ne_of_gt l5.2.2.1) htf), hfdm, all_cons (fun q hq => Nat.ne_of_gt (ktn_ltOf l14.2.2.2.2.2.2 q (List.mem_append_right _ hq))) (all_cons (fun q hq => Nat.ne_of_gt (ktn_ltOf l5.2.2.2 q (List.mem_append_right _ hq))) hsl), all_cons (Nat.ne_of_gt l14.2.2.2.1) (all_cons (Nat.ne_of_gt l5.2.1) hsll)⟩
          · refine found_step hfound (fun p hp => .tail _ (.tail _ hp)) (.head _) ?_
            exact bodies_snoc ⟨e3, e4⟩ (fun p hp => .tail _ (.tail _ hp)) (.tail _ (.head _)) hxs
          · have := stored_length_le kvs r.1 (.ref D)
            rw [List.length_append]
            exact Nat.le_trans this (Nat.add_le_add_right hkl 1)
end Mine
end

section
open PySem PySem.W PySem.Calls PyProof.Rows
namespace Mine
theorem fresh11 : True := by
  w_top off
  trivial
end Mine
open PySem PySem.W PySem.Calls PyProof.Rows
set_option Elab.async false
set_option maxRecDepth 100000
set_option maxHeartbeats 2000000
namespace Mine

local macro_rules | `(tactic| walk_at "my steps") => `(tactic| repeat' (walk_at "st"))
theorem oct_one {v : Int} (h : v = 0 ∨ v = 1 ∨ v = 14 ∨ v = 22 ∨ v = 36) : v < 64 ∧ enc v = [Int.fmod v 64] := by
  rcases h with rfl | rfl | rfl | rfl | rfl <;> exact ⟨by decide, by decide⟩
theorem oct_two {v : Int} (h : v = 255 ∨ v = 256 ∨ v = 257 ∨ v = 258) : 63 < v ∧ Int.fdiv v 64 < 64 ∧ enc v = [64 + Int.fmod (Int.fdiv v 64) 64, Int.fmod v 64] := by
  rcases h with rfl | rfl | rfl | rfl <;> exact ⟨by decide, by decide, by decide⟩
theorem oct_cases {v : Int} (hv : v = 256 ∨ Sym v ∨ v = 0) : (v < 64 ∧ enc v = [Int.fmod v 64]) ∨ (63 < v ∧ Int.fdiv v 64 < 64 ∧ enc v = [64 + Int.fmod (Int.fdiv v 64) 64, Int.fmod v 64]) := by
  rcases hv with rfl | (rfl | rfl | rfl | rfl | rfl | rfl | rfl) | rfl
  · exact .inr (oct_two (.inr (.inl rfl)))
  · exact .inl (oct_one (.inr (.inl rfl)))
  · exact .inl (oct_one (.inr (.inr (.inl rfl))))
  · exact .inl (oct_one (.inr (.inr (.inr (.inl rfl)))))
  · exact .inl (oct_one (.inr (.inr (.inr (.inr rfl)))))
  · exact .inr (oct_two (.inl rfl))
  · exact .inr (oct_two (.inr (.inr (.inl rfl))))
  · exact .inr (oct_two (.inr (.inr (.inr rfl))))
  · exact .inl (oct_one (.inl rfl))
theorem con_octets {prog : Program} {w : World} {mean : ExcName → Option Value} {mg mb : Str → Option Value} (h : Heap) (v : Int) (tv : Tok) (hv : v = 256 ∨ Sym v ∨ v = 0) :
    Con prog w mean mg mb 76 [.int v tv] 1 h (fun r h' => ∃ a xs c, r = .ref a ∧ h'.get? a = some (listOf (List.toArray xs) c) ∧ h.get? a = none ∧ IntsAre xs (enc v)) := by
  intro dp un gd cn cs a ccd cl outer A₀ base h₀ L m s Q E hs B F X T hk hdp hu hret
  subst hs
  refine wpAny_call ?_
  k_dflt (refine' enter_def (binds := [(Str.ofString "number", .int v tv)]) ?k1 ?k2 ?k3 ?k5 ?kA ?kF ?kK ?k6 ?k7 ?k8 ?k9 ?kB ?_ ?c2 ?c3 ?c4 ?c5; walk_at "my enter")
  clear B F X T
  intro L' h' hL' F' N' B' X' T'
  k_fold
  rcases oct_cases hv with ⟨h1, he⟩ | ⟨h1, h2, he⟩
  · rw [he] at hret
    clear hv
    walk_at "my steps"
    rw [decide_eq_false (show ¬ 63 < v by omega)]
    walk_at "my steps"
    rename News _ _ _ _ => N9
    exact hret _ _ _ (Fr.keep (by assumption)) ⟨_, [_], _, rfl, (N9 _ (.head _)).1, (N9 _ (.head _)).2.2, .cons _ _ .nil⟩
  · rw [he] at hret
    clear hv
    walk_at "my steps"
    rw [decide_eq_true h1]
    walk_at "my steps"
    rw [decide_eq_false (show ¬ 63 < Int.fdiv v 64 by omega)]
    walk_at "my steps"
    rename News _ _ _ _ => N9
    exact hret _ _ _ (Fr.keep (by assumption)) ⟨_, [_, _], _, rfl, (N9 _ (.head _)).1, (N9 _ (.head _)).2.2, .cons _ _ (.cons _ _ .nil)⟩
end Mine
end

section
open PySem PySem.W PySem.Calls PyProof.Rows
set_option Elab.async false
set_option maxRecDepth 100000
set_option maxHeartbeats 2000000
namespace Mine
inductive SrcT (h₀ : Heap) (L l : Addr) (vs : List Value) (J0 : Map → Led → Prop) (s : Shared) (xv : Value) (s₁ : Shared) : Prop
  | mk (m : Map) (news : Led) (f0 : xv = .ref l) (f1 : s₁.heap.IsList l vs.toArray) (f2 : Fr h₀ L s₁.heap m) (f3 : News h₀ L s₁.heap news) (f4 : J0 m news) (f5 : s₁ = { s with heap := s₁.heap, toks := s₁.toks }) : SrcT h₀ L l vs J0 s xv s₁
theorem SrcT.intro {h₀ h : Heap} {L l : Addr} {vs : List Value} {J0 : Map → Led → Prop} {s : Shared} {m : Map} {news : Led} {tk : Nat} (hl : h.IsList l vs.toArray) (F : Fr h₀ L h m) (N : News h₀ L h news) (hj : J0 m news) :
    SrcT h₀ L l vs J0 s (.ref l) { s with heap := h, toks := tk } := ⟨m, news, rfl, hl, F, N, hj, rfl⟩
inductive FTJ (h₀ : Heap) (L l I : Addr) (vs : List Value) (J : Nat → Map → Led → Prop) (s : Shared) (n : Nat) (s' : Shared) : Prop
  | mk (i : Nat) (h' : Heap) (tk : Nat) (m : Map) (nx : Led) (io : Obj) (f0 : s' = { s with heap := h', toks := tk }) (f1 : i ≤ vs.length) (f2 : n = vs.length + 1 - i) (f3 : io.cls = .type "list_iterator" ∧ io.data = .fields #[.ref l, .int (i : Int) 0]) (f4 : h'.IsList l vs.toArray)
      (f5 : Fr h₀ L h' m) (f6 : News h₀ L h' ((I, io) :: nx)) (f7 : ∀ p ∈ nx, p.1 ≠ I) (f8 : J i m nx) : FTJ h₀ L l I vs J s n s'
section
variable {prog : Program} {w : World} {A : Around} {E : Value → Shared → Prop} {Q : Flow → Shared → Prop} {s : Shared} {env : Env} {h₀ : Heap}
theorem For_listT {elts : List Expr} {x1 : Nat} {pt pos : Pos} {iter : Expr} {body : List Stmt} {l : Addr} {vs : List Value} (J : Nat → Map → Led → Prop) (hh : A.handled = none) (hv : ∀ (i : Nat) (v : Value), vs[i]? = some v → ∃ T, v = Value.ref T)
    (h : wpAny (model prog w) A (eval iter env) (SrcT h₀ env.locals l vs (J 0) s) E s) (hk : (∃ o, h₀.get? l = some o) ∨ ∃ lo, ∀ i m nx, J i m nx → (l, lo) ∈ nx)
    (turn : ∀ (i : Nat) (v : Value) m₁ nx h tk I io, vs[i]? = some v → J i m₁ nx → (∀ p ∈ nx, p.1 ≠ I) → Fr h₀ env.locals h m₁ → News h₀ env.locals h ((I, io) :: nx) →
      wpAny (model prog w) A (assign (.Tuple elts x1 pt) env v) (fun _ s₂ => wpAny (model prog w) A (execs body env) (TurnQ h₀ env.locals (I, io) (J (i + 1)) { s with heap := h, toks := tk } Q) E s₂) E { s with heap := h, toks := tk })
    (done : ∀ m₁ nx h tk, J vs.length m₁ nx → Fr h₀ env.locals h m₁ → News h₀ env.locals h nx → Q .next { s with heap := h, toks := tk })
    (hs : ∀ x, foldedSetIterable iter env x = pure x := by intro _; rfl) (hE : PassesOwn (model prog w) A env E := by passes_own) :
    wpAny (model prog w) A (exec (.For (.Tuple elts x1 pt) iter body [] pos) env) Q E s := by
  refine wpAny_For (wpAny_mono h (fun xv s₁ h₁ => ?_) fun _ _ e => e) hs
  obtain ⟨m, news, rfl, hl, F, N, h0, hs1⟩ := h₁
  obtain ⟨ol, hol, _⟩ := id hl
  have hlt : l < s₁.heap.objs.size := Heap.lt_size hol
  have hne : l ≠ s₁.heap.objs.size := Nat.ne_of_lt hlt
  refine wpAny_pyIter_list hl ?_
  have hnew : h₀.get? s₁.heap.objs.size = none := next_is_new F
  have hsep : ∀ p ∈ news, p.1 ≠ s₁.heap.objs.size := fun p hp => Nat.ne_of_lt (Heap.lt_size (N p hp).1)
  have N2 := News.push F N ({ cls := .type "list_iterator", data := .fields #[.ref l, .int 0 0] } : Obj) rfl
  have F2 := F.push ({ cls := .type "list_iterator", data := .fields #[.ref l, .int 0 0] } : Obj)
  have hl2 := hl.push ({ cls := .type "list_iterator", data := .fields #[.ref l, .int 0 0] } : Obj)
  generalize hio : ({ cls := .type "list_iterator", data := .fields #[.ref l, .int 0 0] } : Obj) = io at N2 F2 hl2 ⊢
  have hio1 : io.cls = .type "list_iterator" ∧ io.data = .fields #[.ref l, .int ((0 : Nat) : Int) 0] := by rw [← hio]; exact ⟨rfl, rfl⟩
  generalize s₁.heap.push io = H at N2 F2 hl2 ⊢
  generalize s₁.heap.objs.size = I at *
  refine codeAny_forLoop_any (R := fun r s' => match r with | .ok f => Q f s' | .error e => cameBackBy (model prog w) A env E e s')
    (FTJ h₀ env.locals l I vs J s) ?_ (vs.length + 1)
    ⟨0, H, s₁.toks, m, news, io, by rw [hs1], Nat.zero_le _, rfl, hio1, hl2, F2, N2, hsep, h0⟩
  rintro n s' ⟨i, h', tk, m, nx, io, rfl, hi, rfl, hio, hl', F', N', sep, hJ⟩
  have hI := N' _ (.head _)
  cases hx : vs[i]? with
  | none =>
    refine wpAny_pyNext_list_end hh (i := i) ⟨io, hI.1, hio⟩ hl' (by simpa using hx) fun h2 he => ?_
    have hii : i = vs.length := by have := List.getElem?_eq_none_iff.mp hx; omega
    subst hii
    refine wpAny_execs_nil (done m nx h2 tk hJ ?_ ?_)
    · refine ⟨F'.ns.extBut he (Ne.symm hI.2.1), fun b o e => he b o (fun q => ?_) (F'.keep b o e), F'.above⟩
      have := hI.2.2
      rw [q] at e; rw [e] at this; cases this
    · exact fun p hp => ⟨he _ _ (sep p hp) (N' p (.tail _ hp)).1, (N' p (.tail _ hp)).2⟩
  | some v =>
    obtain ⟨T, rfl⟩ := hv i v hx
    refine wpAny_pyNext_list_item (i := i) ⟨io, hI.1, hio⟩ hl' (by simpa using hx) fun h2 hit2 hs2 => ?_
    refine wpAny_letOwnedTupleGo_listiter hit2 ?_
    obtain ⟨io2, ho2, hc2, hd2⟩ := id hit2
    have F2' := F'.change hs2 hI.2.1 hI.2.2
    have N2' : News h₀ env.locals h2 ((I, io2) :: nx) := News.setIn (own := []) N' (fun _ q => absurd q List.not_mem_nil) sep hs2 ho2
    refine wpAny_passesOwn hE (wpAny_mono (turn i _ m nx h2 tk I io2 hx hJ sep F2' N2') (fun _ s₂ h₂ => wpAny_passesOwn hE (wpAny_mono h₂ (fun f s₃ q => ?_) fun _ _ e => e)) fun _ _ e => e)
    have fin : TurnEnd h₀ env.locals (I, io2) (J (i + 1)) { s with heap := h2, toks := tk } s₃ → ∃ m, m < vs.length + 1 - i ∧ FTJ h₀ env.locals l I vs J s m s₃ := by
      rintro ⟨h3, tk3, m3, nx3, rfl, F3, N3, sep3, hJ3⟩
      have hil : i < vs.length := by
        rcases Nat.lt_or_ge i vs.length with h | h
        · exact h
        · rw [List.getElem?_eq_none h] at hx; cases hx
      refine ⟨vs.length + 1 - (i + 1), by omega, i + 1, h3, tk3, m3, nx3, io2, rfl, hil, rfl, ⟨hc2, hd2⟩, ?_, F3, N3, sep3, hJ3⟩
      rcases hk with ⟨o, ho⟩ | ⟨lo, hlo⟩
      · obtain ⟨o', ho', r⟩ := hl'
        have : o = o' := Option.some.inj ((F'.keep _ _ ho).symm.trans ho')
        subst this
        exact ⟨o, F3.keep _ _ ho, r⟩
      · obtain ⟨o', ho', r⟩ := hl'
        have : lo = o' := Option.some.inj ((N' _ (.tail _ (hlo _ _ _ hJ))).1.symm.trans ho')
        subst this
        exact ⟨lo, (N3 _ (.tail _ (hlo _ _ _ hJ3))).1, r⟩
    cases f with
    | ret v => exact q
    | brk => exact q
    | next => exact fin q
    | cont => exact fin q
end
end Mine
end

section
open PySem PySem.W PySem.Calls PyProof.Rows
namespace Mine
theorem fresh12 : True := by
  w_top off
  trivial
end Mine
local macro_rules | `(tactic| walk_at "no such key") => `(tactic| skip)
open PySem PySem.W PySem.Calls PyProof.Rows
set_option Elab.async false
set_option maxRecDepth 100000
set_option maxHeartbeats 2000000
namespace Mine

def RulesH (h : Heap) (v : Value) (R : Rules) : Prop := ∃ a rs, v = .ref a ∧ h.IsList a (List.toArray rs) ∧ rs.length = R.length ∧ ∀ (i : Nat) (r : Int × List Int), R[i]? = some r → ∃ p q xs t, rs[i]? = some (.ref p) ∧ h.IsList p #[.int r.1 t, .ref q] ∧ h.IsList q (List.toArray xs) ∧ IntsAre xs r.2
theorem kl_extend2 {prog : Program} {w : World} {A : Around} {E : Value → Shared → Prop} {s : Shared} {h₀ : Heap} {L D b : Addr} {m : Map} {tl : Led} {xs ys : List Value} {n c : Nat} {Q : Value → Shared → Prop} (F : Fr h₀ L s.heap m) (N : News h₀ L s.heap ((D, listOf xs.toArray n) :: tl)) (htl : ∀ p ∈ tl, p.1 ≠ D)
    (hb : (b, listOf ys.toArray c) ∈ tl) (hy : 0 < ys.length) (hz : xs.length + ys.length ≤ 1000) (h : ∀ h', Fr h₀ L h' m → News h₀ L h' ((D, listOf (List.toArray (xs ++ ys)) (n + 1)) :: tl) → Q .none { s with heap := h' }) :
    wpAny (model prog w) A (call (.builtin "list.extend") [.ref D, .ref b]) Q E s := by
  have hsl : (1000 : Nat) ≤ sizeLine := by rw [sizeLine_eq]; omega
  refine kl_extend (its := xs.toArray) (its2 := ys.toArray) (l := xs ++ ys) (n := n) F N (.tail _ hb) (by walk_at "mm") (by rw [List.toList_toArray]; omega) (.head htl) ?_ (by simp; omega) (by simp; omega) h
  intro q
  simp [Builtin.List.listTooLong] at q
  omega

inductive TJ (l : Addr) (R : Rules) (i : Nat) (m : Map) (nx : Led) : Prop
  | mk (ta : Addr) (xs : List Value) (c : Nat) (f0 : Has m [(Str.ofString "tape", .ref ta)]) (f1 : nx = [(ta, listOf (List.toArray xs) c)]) (f2 : IntsAre xs (tapeOf (R.take i))) : TJ l R i m nx
theorem enc_len (v : Int) : (enc v).length ≤ 2 := by unfold enc; (repeat' split) <;> simp
theorem enc_pos (v : Int) : 0 < (enc v).length := by unfold enc; (repeat' split) <;> simp
theorem encs_len (l : List Int) : (l.flatMap enc).length ≤ 2 * l.length := by
  induction l with
  | nil => simp
  | cons x l ih => have := enc_len x; rw [List.flatMap_cons, List.length_append, List.length_cons]; omega
theorem tape_len (R : Rules) (hR : RulesOk R) : (tapeOf R).length ≤ 7 * R.length := by
  induction R with
  | nil => simp [tapeOf]
  | cons r R ih =>
    have h1 := ih fun z hz => hR z (.tail _ hz)
    have h2 := (hR r (.head _)).2.1
    have h3 := encs_len r.2
    simp only [tapeOf, List.flatMap_cons, encR, List.length_append, List.length_cons, List.length_nil] at h1 ⊢
    omega
theorem ints_get {vs : List Value} {ns : List Int} (h : IntsAre vs ns) : ∀ (i : Nat) (v : Value), vs[i]? = some v → ∃ n t, ns[i]? = some n ∧ v = .int n t := by
  induction h with
  | nil => intro i v e; simp at e
  | cons x t _ ih =>
    intro i v e
    cases i with
    | zero => simp at e; exact ⟨x, t, rfl, e.symm⟩
    | succ i => exact ih i v (by simpa using e)
local macro_rules | `(tactic| walk_at "my steps") => `(tactic| repeat' ((fail_if_success (with_reducible show wpAny _ _ (call (Value.ref 76) _) _ _ _)); walk_at "s1"; walk_at "s2"; walk_at "s4"; walk_at "st"))
theorem news_31 {h₀ h : Heap} {L : Addr} {a b c : Addr × Obj} (N : News h₀ L h [a, b, c]) : News h₀ L h [c, a] := fun p hp => N p (by
  revert p; walk_at "sub")
inductive TJ2 (ta D I : Addr) (lo io : Obj) (fi : Nat) (pre syms : List Int) (j : Nat) (m : Map) (nx : Led) : Prop
  | mk (xs : List Value) (c : Nat) (tf : Tok) (f0 : Has m [(Str.ofString "tape", .ref ta), (Str.ofString "first", .int (fi : Int) tf)]) (f1 : nx = [(ta, listOf (List.toArray xs) c), (D, lo), (I, io)]) (f2 : IntsAre xs (pre ++ (syms.take j).flatMap enc)) : TJ2 ta D I lo io fi pre syms j m nx
theorem con_tape {prog : Program} {w : World} {mean : ExcName → Option Value} {mg mb : Str → Option Value} (h : Heap) (va : Value) (R : Rules) (hR : RulesOk R) (hRl : R.length ≤ 6) (hH : RulesH h va R) :
    Con prog w mean mg mb 83 [va] 2 h (fun r h' => ∃ a xs c, r = .ref a ∧ h'.get? a = some (listOf (List.toArray xs) c) ∧ h.get? a = none ∧ IntsAre xs (tapeOf R)) := by
  intro dp un gd cn cs a ccd cl outer A₀ base h₀ L m s Q E hs B F X T hk hdp hu hret
  subst hs
  obtain ⟨l, rs, rfl, hl, hrl, hrs⟩ := hH
  refine wpAny_call ?_
  k_dflt (refine' enter_def (binds := [(Str.ofString "rules", .ref l)]) ?k1 ?k2 ?k3 ?k5 ?kA ?kF ?kK ?k6 ?k7 ?k8 ?k9 ?kB ?_ ?c2 ?c3 ?c4 ?c5; walk_at "my enter")
  clear B F X T
  intro L' h' hL' F' N' B' X' T'
  k_fold
  walk_at "my steps"
  k_dflt refine' For_listT (h₀ := s.heap) (l := l) (vs := rs) (TJ l R) rfl ?k1 ?k2 ?k3 ?k4 ?k5
  case k1 =>
    intro i v hi
    have hil := (List.getElem?_eq_some_iff.mp hi).1
    obtain ⟨p, q, xs, t, e, _⟩ := hrs i _ (List.getElem?_eq_getElem (by omega))
    exact ⟨p, Option.some.inj (hi.symm.trans e)⟩
  case k3 =>
    obtain ⟨o, ho, _⟩ := hl
    exact .inl ⟨o, ho⟩
  case k2 =>
    (try k_fold)
    walk_at "my steps"
    rename Fr _ _ _ _ => F1
    rename News _ _ _ _ => N1
    exact SrcT.intro (hl.at fun o e => F1.keep _ _ e) F1 N1 ⟨_, [], _, ⟨rfl, trivial⟩, rfl, .nil⟩
  case k4 =>
    rename Fr _ _ _ _ => F1
    rename News _ _ _ _ => N1
    clear F1 N1
    rintro i v m₁ nx h4 tk4 I io hvi ⟨ta, xs, c, H, rfl, hxs⟩ hsep F₄ N₄
    have hil := (List.getElem?_eq_some_iff.mp hvi).1
    obtain ⟨r, hri⟩ : ∃ r, R[i]? = some r := ⟨_, List.getElem?_eq_getElem (by omega)⟩
    obtain ⟨p, q, ys, t, e, hp, hq, hys⟩ := hrs i r hri
    obtain rfl : v = .ref p := Option.some.inj (hvi.symm.trans e)
    replace F₄ := H.fr F₄
    clear H
    dsimp only [kstB] at F₄
    k_dflt (refine' kun_list (items := #[.int r.1 t, .ref q]) F₄ N₄ ?k1 rfl rfl rfl ?_; (case k1 => exact hp.at fun o e => F₄.keep _ _ e); k_whole)
    clear F₄ N₄
    intro h5 F5 N5
    (try dsimp only); (try k_fold)
    walk_at "my steps"
    have hxl : xs.length ≤ 42 := by
      have h1 := hxs.length
      have h2 := tape_len (R.take i) (fun z hz => hR z (List.mem_of_mem_take hz))
      rw [List.length_take] at h2
      omega
    rename Fr _ _ _ _ => F6
    rename News _ _ _ _ => N6
    k_dflt (refine' len_list (items := xs.toArray) (isl (N6 _ (.tail _ (.head _))).1) ?k1 ?_; (case k1 => (rw [List.size_toArray]; omega)); k_whole)
    (try dsimp only); (try k_fold)
    walk_at "my steps"
    k_dflt refine' For_invV s.heap ?f1 ?f2 ?f3 ?f4 ?f5
    case f1 => exact rfl
    case f2 => exact rfl
    case f4 => exact fun _ => rfl
    case f5 => passes_own
    case f3 =>
      k_fold
      walk_at "my steps"
      rename Fr _ _ _ _ => F7
      rename News _ _ _ _ => N7
      rename_i nb h7 l7
      obtain ⟨hr1, hr2, hr3⟩ := hR r (List.mem_of_getElem? hri)
      k_dflt (refine' kmk_add_ints (vs := [.int r.1 t]) (ws := ys) (ns := [r.1]) (ms := r.2) F7 N7 ?q1 ?q2 (.cons _ _ .nil) hys ?_ ?q5; (case q1 => exact isl (N7 _ (.head _)).1); (case q2 => exact hq.at fun o e => F7.keep _ _ e); (case q5 => (rw [sizeLine_eq]; simp only [List.length_cons, List.length_nil]; omega)); k_whole)
      clear F7 N7
      intro D3 ys3 h8 F8 N8 l8 hI8
      k_lt l8
      (try dsimp only); (try k_fold)
      walk_at "my steps"
      rename Fr _ _ _ _ => F9
      rename News _ _ _ _ => N9
      rename_i D xs4 hp4 hI4 l4
      dsimp only [qk]
      k_dflt refine' iter_list (TJ2 ta D I (listOf xs4.toArray 0) io xs.toArray.size (tapeOf (R.take i)) ([r.1] ++ r.2 ++ [0])) rfl (isl (N9 _ (.head _)).1) F9 (news_sub (B := [(ta, listOf xs.toArray c), (D, listOf xs4.toArray 0), (I, io)]) N9 (fun z hz => by revert z; walk_at "sub")) ?i0 ?i1 (.inr ⟨listOf xs4.toArray 0, ?ih⟩) ?i2 ?i3
      case i0 => exact (N9 _ (.head _)).2.1
      case i1 => exact ⟨xs, c, _, ⟨rfl, rfl, trivial⟩, rfl, by simpa using hxs⟩
      case ih =>
        rintro j m nx ⟨_, _, _, _, rfl, _⟩
        exact .tail _ (.head _)
      case i2 =>
        clear F9 N9
        rintro j v m₂ nx h5 tk5 I2 io2 hvj ⟨xs2, c2, tf, H, rfl, hxs2⟩ hsep2 F₅ N₅
        obtain ⟨x, tx, hxj, rfl⟩ := ints_get hI4 j v hvj
        have hcx : x = 256 ∨ Sym x ∨ x = 0 := by
          have hm := List.mem_of_getElem? hxj
          simp only [List.mem_append, List.mem_cons, List.not_mem_nil, or_false] at hm
          rcases hm with (rfl | h) | rfl
          · rcases hr1 with h | h | h <;> simp [h, Sym]
          · exact .inr (.inl (hr3 x h))
          · exact .inr (.inr rfl)
        have hx2l : xs2.length ≤ 100 := by
          have h1 := hxs2.length
          have h2 := encs_len ((([r.1] ++ r.2 ++ [0]) : List Int).take j)
          have h3 := hxs.length
          rw [List.length_append] at h1
          simp only [List.length_take, List.length_append, List.length_cons, List.length_nil] at h2
          omega
        replace F₅ := H.frX F₅
        clear H
        dsimp only [kstB] at F₅
        (try dsimp only); (try k_fold)
        walk_at "my steps"
        rename Fr _ _ _ _ => F6
        rename News _ _ _ _ => N6
        k_dflt (refine' Con.use (con_octets _ x _ hcx) rfl ?o1 ?o2 ?o3 ?o4 ?o5 ?kd ?ku ?o6 ?_); k_dflt ((case o1 => k_asm); (case o2 => exact F6); (case o3 => k_asm); (case o4 => k_asm); (case o5 => first | exact rfl | assumption); (case kd => ktr_room); (case ku => ktr_units); (case o6 => exact N6); k_whole)
        intro r9 h9 tk9 st9 F9 N9 hp9
        obtain ⟨a9, ys9, c9, rfl, hg9, hf9, hI9⟩ := hp9
        have hfr : s.heap.get? a9 = none := by
          cases q : s.heap.get? a9 with
          | none => rfl
          | some o => have := F6.keep _ _ q; rw [hf9] at this; cases this
        have hne9 : a9 ≠ ta := fun q => by
          have := (N6 (ta, listOf xs2.toArray c2) (by walk_at "mm")).1
          rw [q] at hf9
          rw [hf9] at this; cases this
        clear F6 N6
        (try dsimp only); (try k_fold)
        walk_at "my steps"
        have N10 := News.more F9 N9 hg9 (fun es n q => by cases q) hfr
        have hyl : ys9.length ≤ 2 ∧ 0 < ys9.length := by rw [hI9.length]; exact ⟨enc_len x, enc_pos x⟩
        k_dflt (refine' kl_extend2 (xs := xs2) (ys := ys9) (n := c2) (c := c9) (tl := [(a9, listOf ys9.toArray c9), (D, listOf xs4.toArray 0), (I, io), (I2, io2)]) ?pF ?pN ?p1 (.head _) hyl.2 (by omega) ?_; (case pF => exact F9); (case pN => exact news_sub N10 (fun z hz => by revert z; walk_at "sub")); (case p1 => exact all_cons hne9 (all_cons (Nat.ne_of_gt l4.2.2.2.2) (all_cons (Ne.symm (hsep _ (.head _))) (all_cons (Ne.symm (hsep2 _ (.head _))) (fun _ q => absurd q List.not_mem_nil))))); k_whole)
        clear F9 N9 N10
        intro h11 F11 N11
        (try dsimp only); (try k_fold)
        walk_at "my steps"
        refine ⟨_, _, _, [(ta, listOf (List.toArray (xs2 ++ ys9)) (c2 + 1)), (D, listOf xs4.toArray 0), (I, io)], rfl, (by assumption), news_sub N11 (fun z hz => by revert z; walk_at "sub"), ?_, xs2 ++ ys9, _, _, ⟨rfl, rfl, trivial⟩, rfl, ?_⟩
        · exact all_cons (show ta ≠ I2 from hsep2 _ (.head _)) fun p hp => hsep2 p (.tail _ hp)
        · have hxj' : (r.1 :: (r.2 ++ [0]))[j]? = some x := hxj
          rw [List.take_add_one, hxj', List.flatMap_append, ← List.append_assoc]
          simpa using hxs2.append hI9
      case i3 =>
        clear F9 N9
        rintro m₂ nx h5 tk5 ⟨xs2, c2, tf, H, rfl, hxs2⟩ F₅ N₅
        replace F₅ := H.fr F₅
        clear H
        dsimp only [kstB] at F₅
        have hx3 : IntsAre xs2 (tapeOf (R.take i) ++ (68 :: (r.1 - 256) :: (r.2.flatMap enc ++ [0]))) := by
          have h1 := hI4.length
          rw [show List.take xs4.length ([r.1] ++ r.2 ++ [0]) = [r.1] ++ r.2 ++ [0] from List.take_of_length_le (by omega)] at hxs2
          have h2 : ([r.1] ++ r.2 ++ [0]).flatMap enc = 68 :: (r.1 - 256) :: (r.2.flatMap enc ++ [0]) := by
            rw [List.flatMap_append, List.flatMap_append]
            rcases hr1 with h | h | h <;> simp [h, enc]
          rw [h2] at hxs2
          exact hxs2
        have hpl : xs.toArray.size = (tapeOf (R.take i)).length := by rw [List.size_toArray]; exact hxs.length
        (try dsimp only); (try k_fold)
        walk_at "my steps"
        k_dflt (refine' ksa_get (k := (xs.toArray.size : Int)) N₅ (.head _) hx3 ?r1 ?r2 ?r3 ?_; (case r1 => omega); (case r2 => (rw [List.length_append, List.length_cons]; omega)); (case r3 => (rw [List.size_toArray]; omega)); k_whole)
        intro t8
        have hgd : (tapeOf (R.take i) ++ (68 :: (r.1 - 256) :: (r.2.flatMap enc ++ [0]))).getD (Int.toNat (xs.toArray.size : Int)) 0 = 68 := by
          rw [Int.toNat_natCast, hpl]; simp [List.getD]
        rw [hgd]
        (try dsimp only); (try k_fold)
        walk_at "my steps"
        rename Fr _ _ _ _ => F8
        rename News _ _ _ _ => N8
        k_dflt (refine' ksa_set (k := (xs.toArray.size : Int)) F8 N8 (.head ?s0) hx3 ?s1 ?s2 ?s3 ?_; (case s0 => exact all_cons (Nat.ne_of_gt l4.2.2.2.2) (all_cons (Ne.symm (hsep _ (.head _))) (fun _ q => absurd q List.not_mem_nil))); (case s1 => omega); (case s2 => (rw [List.length_append, List.length_cons]; omega)); (case s3 => (rw [List.size_toArray]; omega)); k_whole)
        clear F8 N8
        intro h11 F11 N11 hx11 _ _
        (try dsimp only); (try k_fold)
        walk_at "my steps"
        refine ⟨_, _, _, _, rfl, (by assumption), news_31 N11, all_cons (show ta ≠ I from hsep _ (.head _)) (fun _ q => absurd q List.not_mem_nil), ta, _, _, ⟨rfl, trivial⟩, rfl, ?_⟩
        rw [Int.toNat_natCast, hpl] at hx11
        rw [Int.toNat_natCast, hpl]
        have e1 : tapeOf (R.take (i + 1)) = (tapeOf (R.take i) ++ (68 :: (r.1 - 256) :: (r.2.flatMap enc ++ [0]))).set (tapeOf (R.take i)).length (68 + 128) := by
          rw [List.take_add_one, hri]
          simp [tapeOf, encR]
        rw [e1]
        exact hx11
  case k5 =>
    rintro m₁ nx h4 tk4 ⟨ta, xs, c, H, rfl, hxs⟩ F₄ N₄
    replace F₄ := H.fr F₄
    clear H
    dsimp only [kstB] at F₄
    rw [List.take_of_length_le (by omega)] at hxs
    (try dsimp only); (try k_fold)
    walk_at "my steps"
    exact hret _ _ _ (Fr.keep (by assumption)) ⟨ta, xs, c, rfl, (N₄ _ (.head _)).1, (N₄ _ (.head _)).2.2, hxs⟩
end Mine
end

section
open PySem PySem.W PySem.Calls PyProof.Rows
set_option Elab.async false
set_option maxRecDepth 100000
set_option maxHeartbeats 2000000
namespace Mine
open PyProof.Rows.LCg (NsObj)
section
variable {prog : Program} {w : World} {A : Around} {E : Value → Shared → Prop} {s : Shared} {h₀ : Heap} {L : Addr} {m : Map} {env : Env} {elt iter : Expr} {x : Str} {px : Pos} {scope : Scope} {cl : List (Str × Addr)} {pos : Pos}
theorem exec_Assign_used (x : Str) (pos' : Pos) (value : Expr) (pos : Pos) (env : Env) (hs : swapsWith value (some (.Name x pos')) pos.line env = pure true) : exec (.Assign [.Name x pos'] value pos) env = (do
    standAt pos
    evalThenUse value env (assign (.Name x pos') env)
    return .next) := exec_Assign_Name_used _ _ _ _ hs
theorem assignL_core {y : Str} {py : Pos} {Q : Flow → Shared → Prop} {n : Nat} {P : Nat → Value → Prop} {St : Nat → Heap → Prop} {I : Addr} {fp : List Addr} {news : Led} (S : Led → Prop) (hLe : env.locals = L)
    (hcell : ∀ y ∈ scope.names, y.2 ≠ .cell) (hkind : scope.kind = .function) (hx : scope.names.lookup x = some .local) (J : Nat → List Value → Led → Prop) (hn : n ≤ 1000)
    (hy : env.kindOf y = some .local) (hp : (env.scope.kind == .class || (env.scope.kind == .module && env.locals != env.globals)) = false)
    (W : Walks prog w A I fp [I] n P St) (hIo : ∀ i h, St i h → ∃ o, h.get? I = some o)
    (hSt : ∀ i h h' o nw, St i h → h.get? I = some o → h'.get? I = some o → (∀ b o, h₀.get? b = some o → h'.get? b = some o) → News h₀ L h' nw → S nw → St i h')
    (hst : St 0 s.heap) (hfp : ∀ b ∈ fp, b < s.heap.objs.size) (F : Fr h₀ L s.heap m) (N : News h₀ L s.heap news) (hIL : L ≠ I) (hI₀ : h₀.get? I = none) (off : ∀ p ∈ news, p.1 ≠ I) (hS : S news) (hJS : ∀ i ys nx, J i ys nx → S nx) (h0 : J 0 [] news)
    (turn : LTurn prog w A h₀ L m env elt x scope cl s n P J)
    (done : ∀ D ys nx h tk, J n ys nx → Fr h₀ L h (fun z => if z = y then some (.ref D) else m z) → News h₀ L h ((D, LCg.lst ys) :: nx) → (∀ p ∈ nx, p.1 ≠ D) → Q .next { s with heap := h, toks := tk }) :
    wpAny (model prog w) A (newList []) (fun acc s₃ => wpAny (model prog w) A (newFunctionEnv scope env.globals cl [] env.qual none .none (some env)) (fun cenv s₄ =>
      codeAny (model prog w) A (.compStart (.ListComp elt [⟨.Name x px, iter, [], 0⟩] scope pos) 0 (.ref I) acc { cenv with scope := relabel scope env }) (compPost (model prog w) A E (some (assign (.Name y py) env)) (fun _ s' => Q .next s') acc cenv.locals) s₄) E s₃) E s := by
  subst hLe
  have R := rest_of (prog := prog) (w := w) (A := A) (h₀ := h₀) (L := env.locals) (m := m) (env := env) (elt := elt) (x := x) (scope := scope) (cl := cl) (s := s) (S := S) (P := P) (n := n) (Fin := fun ys nx => J n ys nx) J hJS turn (fun ys nx hJ => hJ) h0
  refine LCg.block_U (S := S) (Fin := fun ys nx => J n ys nx) W (by rw [sizeLine_eq]; omega) hIo hSt hcell hkind hx hst hfp F N hIL hI₀ off hS R ?_
  intro D C h tk m' ys news' F' N' o1 hnC hC₀ hD₀ hCL hDL hCD offC hJ
  have offD := off1_of _ o1
  show wpAny _ A (assign (.Name y py) env (.ref D)) _ _ _
  refine wpAny_assign_Name (wpAny_storeName_local hy F'.ns (fun h₂ hn₂ hs₂ => ?_) hp)
  have hL₀ : h₀.get? env.locals = none := Heap.get?_none_of_le F'.above
  have F₂ : Fr h₀ env.locals h₂ (fun z => if z = y then some (.ref D) else m z) := ⟨hn₂, fun b o e => hs₂.extBut b o (fun q => by rw [q, hL₀] at e; cases e) (F'.keep b o e), F'.above⟩
  refine ⟨m', hnC.sameBut hs₂ hCL, fun h'' hs'' => ?_⟩
  refine done D ys news' h'' (tk + 1) hJ (F₂.change hs'' hCL hC₀) (fun p hp => ?_) offD
  have z : h₂.get? p.1 = some p.2 := hs₂.extBut _ _ (N' p hp).2.1 (N' p hp).1
  refine ⟨hs''.extBut _ _ ?_ z, (N' p hp).2⟩
  rcases List.mem_cons.mp hp with rfl | hp
  · exact Ne.symm hCD
  · exact offC p hp
theorem assignL_range {y : Str} {py spos : Pos} {Q : Flow → Shared → Prop} {n : Nat} (hLe : env.locals = L)
    (hsw : swapsWith (.ListComp elt [⟨.Name x px, iter, [], 0⟩] scope pos) (some (.Name y py)) spos.line env = pure true)
    (hclos : closureFor scope env = pure cl) (hcell : ∀ y ∈ scope.names, y.2 ≠ .cell) (hkind : scope.kind = .function)
    (hnames : ∀ y ∈ scope.names, y.2 = .local → scope.names.lookup y.1 = some .local) (hx : scope.names.lookup x = some .local)
    (hy : env.kindOf y = some .local) (hp : (env.scope.kind == .class || (env.scope.kind == .module && env.locals != env.globals)) = false)
    (J : Nat → List Value → Led → Prop) (hn : n ≤ 1000) (hh : A.handled = none)
    (turn : LTurn prog w A h₀ L m env elt x scope cl s n (fun i v => ∃ t, v = .int (i : Int) t) J)
    (done : ∀ D ys nx h tk, J n ys nx → Fr h₀ L h (fun z => if z = y then some (.ref D) else m z) → News h₀ L h ((D, LCg.lst ys) :: nx) → (∀ p ∈ nx, p.1 ≠ D) → Q .next { s with heap := h, toks := tk })
    (h : wpAny (model prog w) A (eval iter env) (SrcRg h₀ L m 0 n (J 0 []) s) E s)
    (hs : ∀ x, foldedSetIterable iter env x = pure x) :
    wpAny (model prog w) A (exec (.Assign [.Name y py] (.ListComp elt [⟨.Name x px, iter, [], 0⟩] scope pos) spos) env) Q E s := by
  rw [exec_Assign_used _ _ _ _ _ hsw]
  refine wpAny_bind (wpAny_standAt (wpAny_bind ?_))
  show wpAny _ A (do let _ ← comprehension (.ListComp elt [⟨.Name x px, iter, [], 0⟩] scope pos) scope env _ (newList []) false (eval iter env) (some (assign (.Name y py) env))) _ _ s
  refine wpAny_bind (wpAny_mono (wpAny_comprehension_free (use := some (assign (.Name y py) env)) (Q := fun _ s' => Q .next s') rfl hs hclos hkind hnames
    (wpAny_mono h (fun xv s₁ h₁ => ?_) fun _ _ e => e)) (fun _ s' hq => wpAny_pure (wpAny_pure hq)) fun _ _ e => e)
  obtain ⟨r, b, t, u, v, news, rfl, F, N, hr, hb, h0, hs1⟩ := h₁
  obtain rfl : b = (n : Int) := by omega
  have hsz : Builtin.Range.rangeSize 0 (n : Int) 1 = (n : Int) := by rw [rangeSize_nat]; omega
  refine wpAny_pyIter_range hr (small_one (by omega) (by omega) (by omega) (by omega)) ?_
  rw [hsz]
  have W := Walks.range (prog := prog) (w := w) (A := A) hh s₁.heap.objs.size 0 1 n
  refine assignL_core (s := { s₁ with heap := s₁.heap.push _ }) (fun _ => True) hLe hcell hkind hx J hn hy hp W (fun i h st => ⟨_, st⟩) (fun i h h' o nw st e e' _ _ _ => W.frame i h h' st fun b hb ob he => ?_) ?_ (fun b hb => ?_)
    (F.push _) (fun p hp => ⟨Heap.get?_push_of_some _ (N p hp).1, (N p hp).2⟩) (Nat.ne_of_lt F.ns.lt) (next_is_new F) (fun p hp => Nat.ne_of_lt (Heap.lt_size (N p hp).1)) trivial (fun _ _ _ _ => trivial) h0
    (fun i v I oI C oC D m₂ ys nx s₂ E' a1 a2 a3 a4 a5 a6 a7 a8 a9 a10 => ?_) (fun D ys nx h' tk hJ F' N' o1 => ?_)
  · rw [List.mem_singleton.mp hb] at he ⊢
    rw [e] at he; cases he; exact e'
  · show IsRangeIter _ _ _ _ _
    have e := Heap.get?_push_size s₁.heap (o := { cls := .type "range_iterator", data := .fields #[rawInt 0, rawInt (n : Int), rawInt 1] }) rfl
    simpa [IsRangeIter] using e
  · rw [List.mem_singleton.mp hb]
    show s₁.heap.objs.size < (s₁.heap.push _).objs.size
    rw [Heap.size_push]; exact Nat.lt_succ_self _
  · obtain ⟨t, rfl⟩ := a2
    exact turn i _ I oI C oC D m₂ ys nx s₂ E' a1 ⟨t, by congr 1; omega⟩ a3 a4 a5 a6 a7 a8 a9 (by rw [a10, hs1])
  · have := done D ys nx h' tk hJ F' N' o1
    rw [hs1]; exact this
theorem assignL_list {y : Str} {py spos : Pos} {Q : Flow → Shared → Prop} (hLe : env.locals = L)
    (hsw : swapsWith (.ListComp elt [⟨.Name x px, iter, [], 0⟩] scope pos) (some (.Name y py)) spos.line env = pure true)
    (hclos : closureFor scope env = pure cl) (hcell : ∀ y ∈ scope.names, y.2 ≠ .cell) (hkind : scope.kind = .function)
    (hnames : ∀ y ∈ scope.names, y.2 = .local → scope.names.lookup y.1 = some .local) (hx : scope.names.lookup x = some .local)
    (hy : env.kindOf y = some .local) (hp : (env.scope.kind == .class || (env.scope.kind == .module && env.locals != env.globals)) = false)
    (hh : A.handled = none)
    (h : wpAny (model prog w) A (eval iter env) (fun xv s₁ => ∃ (ax : Addr) (vs : List Value) (news : Led) (J : Nat → List Value → Led → Prop), xv = .ref ax ∧ Fr h₀ L s₁.heap m ∧ News h₀ L s₁.heap news ∧ J 0 [] news ∧ vs.length ≤ 1000 ∧ (∀ i ys nx, J i ys nx → LCg.SrcAt h₀ ax vs.toArray nx) ∧
      LTurn prog w A h₀ L m env elt x scope cl s vs.length (fun i v => vs[i]? = some v) J ∧
      (∀ D ys nx h tk, J vs.length ys nx → Fr h₀ L h (fun z => if z = y then some (.ref D) else m z) → News h₀ L h ((D, LCg.lst ys) :: nx) → (∀ p ∈ nx, p.1 ≠ D) → Q .next { s with heap := h, toks := tk }) ∧ s₁ = { s with heap := s₁.heap, toks := s₁.toks }) E s)
    (hs : ∀ x, foldedSetIterable iter env x = pure x) :
    wpAny (model prog w) A (exec (.Assign [.Name y py] (.ListComp elt [⟨.Name x px, iter, [], 0⟩] scope pos) spos) env) Q E s := by
  rw [exec_Assign_used _ _ _ _ _ hsw]
  refine wpAny_bind (wpAny_standAt (wpAny_bind ?_))
  show wpAny _ A (do let _ ← comprehension (.ListComp elt [⟨.Name x px, iter, [], 0⟩] scope pos) scope env _ (newList []) false (eval iter env) (some (assign (.Name y py) env))) _ _ s
  refine wpAny_bind (wpAny_mono (wpAny_comprehension_free (use := some (assign (.Name y py) env)) (Q := fun _ s' => Q .next s') rfl hs hclos hkind hnames
    (wpAny_mono h (fun xv s₁ h₁ => ?_) fun _ _ e => e)) (fun _ s' hq => wpAny_pure (wpAny_pure hq)) fun _ _ e => e)
  obtain ⟨ax, vs, news, J, rfl, F, N, h0, hn, hS, turn, done, hs1⟩ := h₁
  have hl := (hS _ _ _ h0).list F.keep N
  have hlt : ax < s₁.heap.objs.size := by obtain ⟨_, e, _⟩ := hl; exact Heap.lt_size e
  refine wpAny_pyIter_list hl ?_
  have e : vs.toArray.size = vs.length := List.size_toArray ..
  have W := Walks.list (prog := prog) (w := w) (A := A) hh s₁.heap.objs.size ax (Nat.ne_of_lt hlt) vs.toArray
  rw [e] at W
  refine assignL_core (s := { s₁ with heap := s₁.heap.push _ }) (fun nw => LCg.SrcAt h₀ ax vs.toArray nw) hLe hcell hkind hx J hn hy hp W (fun i h st => by obtain ⟨o, e, _⟩ := st.1; exact ⟨o, e⟩) (fun i h h' o nw st e1 e2 k Nw hS => LCg.list_st i h h' o nw st e1 e2 k Nw hS) ⟨⟨_, Heap.get?_push_size _ rfl, rfl, rfl⟩, hl.push _⟩ (fun b hb => ?_)
    (F.push _) (fun p hp => ⟨Heap.get?_push_of_some _ (N p hp).1, (N p hp).2⟩) (Nat.ne_of_lt F.ns.lt) (next_is_new F) (fun p hp => Nat.ne_of_lt (Heap.lt_size (N p hp).1)) (hS _ _ _ h0) hS h0
    (fun i v I oI C oC D m₂ ys nx s₂ E' a1 a2 a3 a4 a5 a6 a7 a8 a9 a10 => turn i v I oI C oC D m₂ ys nx s₂ E' a1 (by simpa using a2) a3 a4 a5 a6 a7 a8 a9 (by rw [a10, hs1])) (fun D ys nx h' tk hJ F' N' o1 => ?_)
  · show b < (s₁.heap.push _).objs.size
    rw [Heap.size_push]
    rcases List.mem_cons.mp hb with rfl | hb
    · exact Nat.lt_succ_self _
    · rw [List.mem_singleton.mp hb]; exact Nat.lt_succ_of_lt hlt
  · have := done D ys nx h' tk hJ F' N' o1
    rw [hs1]; exact this
end
end Mine
end

section
open PySem PySem.W PySem.Calls PyProof.Rows
set_option Elab.async false
set_option maxRecDepth 100000
set_option maxHeartbeats 2000000
namespace Mine
section
variable {prog : Program} {w : World} {A : Around} {E : Value → Shared → Prop} {Q : Flow → Shared → Prop} {s : Shared} {env : Env} {h₀ : Heap}
inductive SrcF (h₀ : Heap) (L : Addr) (n : Nat) (J0 : Map → Led → Prop) (s : Shared) (xv : Value) (s₁ : Shared) : Prop
  | mk (r : Addr) (t u v : Tok) (m : Map) (news : Led) (f0 : xv = .ref r) (f1 : Fr h₀ L s₁.heap m) (f2 : News h₀ L s₁.heap news) (f3 : IsRange s₁.heap r 0 (n : Int) 1 t u v) (f4 : J0 m news) (f5 : s₁ = { s with heap := s₁.heap, toks := s₁.toks }) : SrcF h₀ L n J0 s xv s₁
theorem SrcF.intro {h₀ h : Heap} {L r : Addr} {n : Nat} {J0 : Map → Led → Prop} {s : Shared} {t u v : Tok} {m : Map} {news : Led} {tk : Nat} (F : Fr h₀ L h m) (N : News h₀ L h news) (hr : IsRange h r 0 (n : Int) 1 t u v) (hj : J0 m news) :
    SrcF h₀ L n J0 s (.ref r) { s with heap := h, toks := tk } := ⟨r, t, u, v, m, news, rfl, F, N, hr, hj, rfl⟩
inductive FRJ (h₀ : Heap) (L : Addr) (n : Nat) (I : Addr) (J : Nat → Map → Led → Prop) (s : Shared) (k : Nat) (s' : Shared) : Prop
  | mk (i : Nat) (h' : Heap) (tk : Nat) (m : Map) (nx : Led) (f0 : s' = { s with heap := h', toks := tk }) (f1 : i ≤ n) (f2 : k = n + 1 - i) (f3 : IsRangeIter h' I (0 + ((i : Nat) : Int) * 1) ((n : Int) - ((i : Nat) : Int)) 1) (f4 : Fr h₀ L h' m) (f5 : News h₀ L h' nx) (f6 : ∀ p ∈ nx, p.1 ≠ I) (f7 : J i m nx) : FRJ h₀ L n I J s k s'
theorem For_rangeT {x : Str} {px pos : Pos} {iter : Expr} {body : List Stmt} {n : Nat} (J : Nat → Map → Led → Prop) (hh : A.handled = none) (hn : n ≤ 1000)
    (h : wpAny (model prog w) A (eval iter env) (SrcF h₀ env.locals n (J 0) s) E s)
    (turn : ∀ (i : Nat) (t : Tok) m₁ nx h tk I io, i < n → J i m₁ nx → (∀ p ∈ nx, p.1 ≠ I) → Fr h₀ env.locals h m₁ → News h₀ env.locals h ((I, io) :: nx) →
      wpAny (model prog w) A (storeName env x (.int i t)) (fun _ s₂ => wpAny (model prog w) A (execs body env) (TurnQ h₀ env.locals (I, io) (J (i + 1)) { s with heap := h, toks := tk } Q) E s₂) E { s with heap := h, toks := tk })
    (done : ∀ m₁ nx h tk, J n m₁ nx → Fr h₀ env.locals h m₁ → News h₀ env.locals h nx → Q .next { s with heap := h, toks := tk })
    (hs : ∀ x, foldedSetIterable iter env x = pure x := by intro _; rfl) (hE : PassesOwn (model prog w) A env E := by passes_own) :
    wpAny (model prog w) A (exec (.For (.Name x px) iter body [] pos) env) Q E s := by
  refine wpAny_For (wpAny_mono h (fun xv s₁ h₁ => ?_) fun _ _ e => e) hs
  obtain ⟨r, t, u, v, m, news, rfl, F, N, hr, h0, hs1⟩ := h₁
  have hsz : Builtin.Range.rangeSize 0 (n : Int) 1 = (n : Int) := by rw [rangeSize_nat]; omega
  refine wpAny_pyIter_range hr (small_one (by omega) (by omega) (by omega) (by omega)) ?_
  rw [hsz]
  have W := Walks.range (prog := prog) (w := w) (A := A) hh s₁.heap.objs.size 0 1 n
  have hnew : h₀.get? s₁.heap.objs.size = none := next_is_new F
  have hsep : ∀ p ∈ news, p.1 ≠ s₁.heap.objs.size := fun p hp => Nat.ne_of_lt (Heap.lt_size (N p hp).1)
  have hst0 : IsRangeIter (s₁.heap.push { cls := .type "range_iterator", data := .fields #[rawInt 0, rawInt (n : Int), rawInt 1] }) s₁.heap.objs.size (0 + ((0 : Nat) : Int) * 1) ((n : Int) - ((0 : Nat) : Int)) 1 := by
    have e := Heap.get?_push_size s₁.heap (o := { cls := .type "range_iterator", data := .fields #[rawInt 0, rawInt (n : Int), rawInt 1] }) rfl
    simpa [IsRangeIter] using e
  have N2 := News.push F N ({ cls := .type "range_iterator", data := .fields #[rawInt 0, rawInt (n : Int), rawInt 1] } : Obj) rfl
  have F2 := F.push ({ cls := .type "range_iterator", data := .fields #[rawInt 0, rawInt (n : Int), rawInt 1] } : Obj)
  have hLI := F.ns.lt
  generalize s₁.heap.push ({ cls := .type "range_iterator", data := .fields #[rawInt 0, rawInt (n : Int), rawInt 1] } : Obj) = H at hst0 N2 F2 ⊢
  generalize s₁.heap.objs.size = I at *
  refine codeAny_forLoop (R := fun r s' => match r with | .ok f => Q f s' | .error e => cameBackBy (model prog w) A env E e s')
    (FRJ h₀ env.locals n I J s) ?_ (n + 1)
    ⟨0, H, s₁.toks, m, news, by rw [hs1], Nat.zero_le _, rfl, hst0, F2, fun p hp => N2 p (.tail _ hp), hsep, h0⟩
  rintro k s' ⟨i, h', tk, m, nx, rfl, hi, rfl, hst, F', N', sep, hJ⟩
  by_cases hlt : i < n
  · refine W.item i _ _ _ hlt hst fun v h₂ tk₂ hP hst₂ hk₂ => ?_
    obtain ⟨tt, hv⟩ := hP
    have hv' : v = .int (i : Int) tt := by rw [hv]; congr 1; omega
    subst hv'
    have hne : ∀ b, b ≠ I → b ∉ [I] := fun b hb q => hb (List.mem_singleton.mp q)
    have hI₀ : ∀ b o, h₀.get? b = some o → b ≠ I := fun b o e q => by rw [q, hnew] at e; cases e
    have hLn : env.locals ≠ I := Nat.ne_of_lt hLI
    obtain ⟨oL, es, ep, hoL, r1, r2, r3⟩ := F'.ns
    have F₂ : Fr h₀ env.locals h₂ m := ⟨⟨oL, es, ep, hk₂ _ _ (hne _ hLn) hoL, r1, r2, r3⟩, fun b o e => hk₂ b o (hne _ (hI₀ b o e)) (F'.keep b o e), F'.above⟩
    obtain ⟨io, hIget, hio⟩ : ∃ io, h₂.get? I = some io ∧ ∀ h3 : Heap, h3.get? I = some io → IsRangeIter h3 I (0 + ((i + 1 : Nat) : Int) * 1) ((n : Int) - ((i + 1 : Nat) : Int)) 1 := ⟨_, hst₂, fun h3 e => e⟩
    have N₂ : News h₀ env.locals h₂ ((I, io) :: nx) := fun p hp => by
      rcases List.mem_cons.mp hp with rfl | hp
      · exact ⟨hIget, Ne.symm hLn, hnew⟩
      · exact ⟨hk₂ _ _ (hne _ (sep p hp)) (N' p hp).1, (N' p hp).2⟩
    refine wpAny_passesOwn hE ?_
    refine wpAny_assign_Name (wpAny_mono (turn i tt m nx h₂ tk₂ I io hlt hJ sep F₂ N₂) (fun _ s₂ h₂' => wpAny_passesOwn hE (wpAny_mono h₂' (fun f s₃ q => ?_) fun _ _ e => e)) fun _ _ e => e)
    have fin : TurnEnd h₀ env.locals (I, io) (J (i + 1)) { s with heap := h₂, toks := tk₂ } s₃ → ∃ m, m < n + 1 - i ∧ FRJ h₀ env.locals n I J s m s₃ := by
      rintro ⟨h3, tk3, m3, nx3, rfl, F3, N3, sep3, hJ3⟩
      exact ⟨n + 1 - (i + 1), by omega, i + 1, h3, tk3, m3, nx3, rfl, hlt, rfl, hio h3 (N3 _ (.head _)).1, F3, fun p hp => N3 p (.tail _ hp), sep3, hJ3⟩
    cases f with
    | ret v => exact q
    | brk => exact q
    | next => exact fin q
    | cont => exact fin q
  · have hin : i = n := by omega
    subst hin
    have hne : ∀ b, b ≠ I → b ∉ [I] := fun b hb q => hb (List.mem_singleton.mp q)
    have hI₀ : ∀ b o, h₀.get? b = some o → b ≠ I := fun b o e q => by rw [q, hnew] at e; cases e
    have hLn : env.locals ≠ I := Nat.ne_of_lt hLI
    obtain ⟨oL, es, ep, hoL, r1, r2, r3⟩ := F'.ns
    refine W.done _ _ _ hst fun h₁ tk₁ hk₁ => wpAny_execs_nil (done m nx h₁ tk₁ hJ ⟨⟨oL, es, ep, hk₁ _ _ (hne _ hLn) hoL, r1, r2, r3⟩, fun b o e => hk₁ b o (hne _ (hI₀ b o e)) (F'.keep b o e), F'.above⟩ fun p hp => ⟨hk₁ _ _ (hne _ (sep p hp)) (N' p hp).1, (N' p hp).2⟩)
end
end Mine
end

section
open PySem PySem.W PySem.Calls PyProof.Rows
namespace Mine
theorem fresh13 : True := by
  w_top off
  trivial
end Mine
open PySem PySem.W PySem.Calls PyProof.Rows
set_option Elab.async false
set_option maxRecDepth 100000
set_option maxHeartbeats 2000000
namespace Mine

theorem sum_nn {l : List Int} (h : ∀ d ∈ l, 0 ≤ d) : 0 ≤ l.sum := by
  induction l with
  | nil => simp
  | cons x l ih =>
    have h1 := h x (.head _)
    have h2 := ih fun d hd => h d (.tail _ hd)
    rw [List.sum_cons]; omega
theorem con_drawn {prog : Program} {w : World} {mean : ExcName → Option Value} {mg mb : Str → Option Value} (h : Heap) (sl : Addr) (vs : List Value) (ns : List Int) (hl : h.IsList sl vs.toArray) (hvs : IntsAre vs ns) (hn : ns.length ≤ 63) :
    Con prog w mean mg mb 64 [.ref sl] 1 h (fun r h' => ∃ a xs c ds, r = .ref a ∧ h'.get? a = some (listOf (List.toArray xs) c) ∧ h.get? a = none ∧ IntsAre xs ds ∧ ds.length = 7 ∧ ∀ d ∈ ds, 0 ≤ d) := by
  intro dp un gd cn cs a ccd cl outer A₀ base h₀ L m s Q E hs B F Xk T hk hdp hu hret
  subst hs
  refine wpAny_call ?_
  k_dflt (refine' enter_defC (binds := [(Str.ofString "script", .ref sl)]) ?k1 ?k2 ?k3 ?k5 ?kA ?kF ?kK ?k6 ?k7 ?k8 ?k9 ?kB ?kD ?_ ?c2 ?c3 ?c4; walk_at "my enterC")
  clear B F Xk T
  intro L' h' tk cells hL' F' N' Y' B' X' T'
  k_cells Y'
  (try dsimp only)
  (try k_fold)
  walk_at "my steps"
  rename Fr _ _ _ _ => F1
  rename News _ _ _ _ => N1
  rename_i o1 hd1
  replace F1 : Fr s.heap L' h' (fun y => if y = Str.ofString "script" then some (.ref sl) else none) := F1
  replace hd1 : o1.data = .cell none := hd1
  k_dflt refine' wpAny_Assign_Name ?aa ?ab
  case ab => with_unfolding_all rfl
  case aa =>
    k_dflt refine' compL_list F1 ?l1 ?l2 ?l3 ?l4 ?l5 rfl ?lh ?ls
    case l1 => exact rfl
    case l2 => decide
    case l3 => exact rfl
    case l4 => decide
    case l5 => exact rfl
    case ls => exact fun _ => rfl
    case lh =>
      (try k_fold)
      walk_at "my steps"
      rename Fr _ _ _ _ => F2
      rename News _ _ _ _ => N2
      rename_i D ws h2 hI2 hC2 hL2 l2
      have hwl := hI2.length
      refine ⟨D, ws, _, (fun i ys nx => nx = [(D, listOf ws.toArray 0), (L' + 1, o1)] ∧ IntsAre ys (((ns.take 63).take i).map fun x => Int.fmod x 1000000)), rfl, F2, N2, ⟨rfl, .nil⟩, by omega, ?_, ?_, ?_, rfl⟩
      · rintro i ys nx ⟨rfl, _⟩
        exact .inr ⟨_, .head _, rfl, _, rfl⟩
      · rintro i v I oI C oC D2 m₂ ys nx s₁ E' hi hv ⟨rfl, hy⟩ hoC hm₂ F3 N3 hoff hne hs1
        obtain ⟨x, t, hx, rfl⟩ := ints_get hI2 i v hv
        clear F2 N2
        simp only [List.cons_append, List.nil_append] at N3
        (try k_fold)
        walk_at "my steps"
        refine CEnd.intro (by assumption) (by assumption) _ (fun p hp => hp) hoff ⟨rfl, ?_⟩
        rw [List.take_add_one, hx, List.map_append]
        exact hy.append (.cons _ _ .nil)
      · rintro D2 ys nx h3 tk3 ⟨rfl, hy⟩ F3 N3 hoff
        clear F2 N2
        rw [List.take_of_length_le (by omega)] at hy
        (try dsimp only)
        (try k_fold)
        walk_at "my steps"
        rename Fr _ _ _ _ => F4
        rename News _ _ _ _ => N4
        rename_i o2 ho2
        simp only [List.cons_append, List.nil_append] at N4
        k_dflt refine' compL_range (n := 7) (a := 0) F4 ?m1 ?m2 ?m3 ?m4 ?m5 (fun i us nx => nx = [(D2, LCg.lst ys), (D, listOf ws.toArray 0), (L' + 1, o2)] ∧ ∃ ds, IntsAre us ds ∧ ds.length = i ∧ ∀ d ∈ ds, 0 ≤ d) (by omega) (by omega) (by omega) rfl ?mt ?md ?mh ?ms
        case m1 => exact rfl
        case m2 => decide
        case m3 => exact rfl
        case m4 => decide
        case m5 => exact rfl
        case ms => exact fun _ => rfl
        case mh =>
          (try k_fold)
          walk_at "my steps"
          exact SrcRg.intro (by assumption) (by assumption) (by assumption) (by omega) ⟨rfl, [], .nil, rfl, fun d h => absurd h List.not_mem_nil⟩
        case md =>
          rintro D3 us nx h4 tk4 ⟨rfl, ds, hu, hdl, hd0⟩ F5 N5 hoff5
          exact hret _ _ _ F5.keep ⟨D3, us, _, ds, rfl, (N5 _ (.head _)).1, (N5 _ (.head _)).2.2, hu, hdl, hd0⟩
        case mt =>
          rintro i v I oI C oC D3 m₂ us nx s₁ E' hi ⟨t, rfl⟩ ⟨rfl, ds, hu, hdl, hd0⟩ hoC hm₂ F5 N5 hoff5 hne5 hs1
          clear F4 N4
          simp only [List.cons_append, List.nil_append] at N5
          (try k_fold)
          walk_at "my steps"
          rename Fr _ _ _ _ => F6
          rename News _ _ _ _ => N6
          have hp := hy.pick (some (0 + (i : Int))) none (some 7)
          have hs0 : 0 ≤ (pickNums ((ns.take 63).map fun x => Int.fmod x 1000000) (some (0 + (i : Int))) none (some 7)).sum := by
            refine sum_nn fun d hd => ?_
            obtain ⟨j, _, hj⟩ := List.mem_filterMap.mp hd
            obtain ⟨x, _, rfl⟩ := List.mem_map.mp (List.mem_of_getElem? hj)
            exact Int.fmod_nonneg_of_pos _ (by omega)
          k_dflt (refine' sumK (vs := (slicePick ys.toArray (some (0 + (i : Int))) none (some 7)).toList) rfl F6 N6 ?z1 hp ?_; (case z1 => exact ⟨_, (N6 _ (.head _)).1, rfl, _, by rw [Array.toArray_toList]⟩); k_whole)
          clear F6 N6
          intro h7 tk7 t7 F7 N7
          (try dsimp only)
          (try k_fold)
          walk_at "my steps"
          refine CEnd.intro F7 N7 [(D2, LCg.lst ys), (D, listOf ws.toArray 0), (L' + 1, o2)] ?_ hoff5 ⟨rfl, ds ++ [_], hu.append (.cons _ _ .nil), by simp [hdl], ?_⟩
          · intro z hz
            revert z; walk_at "sub"
          · intro d hd
            rcases List.mem_append.mp hd with h | h
            · exact hd0 d h
            · rw [List.mem_singleton.mp h]
              have hm : 0 ≤ ([7, 15, 2, 23, 11, 24, 51] : List Int).getD (0 + (i : Int)).toNat 0 := by
                have hi' : i = 0 ∨ i = 1 ∨ i = 2 ∨ i = 3 ∨ i = 4 ∨ i = 5 ∨ i = 6 := by omega
                rcases hi' with rfl | rfl | rfl | rfl | rfl | rfl | rfl <;> decide
              omega
end Mine
end

section
open PySem PySem.W PySem.Calls PyProof.Rows
namespace Mine
theorem fresh14 : True := by
  w_top off
  trivial
end Mine
open PySem PySem.W PySem.Calls PyProof.Rows
set_option Elab.async false
set_option maxRecDepth 100000
set_option maxHeartbeats 2000000
namespace Mine

def Ter (v : Int) : Prop := v = 1 ∨ v = 14 ∨ v = 22 ∨ v = 255
def ShR (k : Nat) (r : Int × List Int) : Prop := r.1 = 256 + ((k / 2 : Nat) : Int) ∧ r.2.length ≤ 2 ∧ (k < 2 → ∀ v ∈ r.2, Sym v) ∧ (2 ≤ k → ∀ v ∈ r.2, Ter v)
def RulesL (tl : Led) (rs : List Value) (R : Rules) : Prop := rs.length = R.length ∧ ∀ (i : Nat) (r : Int × List Int), R[i]? = some r → ∃ p q xs t c1 c2, rs[i]? = some (.ref p) ∧ (p, listOf #[.int r.1 t, .ref q] c1) ∈ tl ∧ (q, listOf (List.toArray xs) c2) ∈ tl ∧ IntsAre xs r.2
inductive UJ (L' dl : Addr) (i : Nat) (m : Map) (nx : Led) : Prop
  | mk (ra : Addr) (rs : List Value) (c : Nat) (ok od : Obj) (v : Option Value) (tl : Led) (R : Rules) (f0 : Has m [(Str.ofString "rules", .ref ra)]) (f1 : nx = (ra, listOf (List.toArray rs) c) :: (L' + 1 + 1, ok) :: (L' + 1, od) :: tl) (f2 : ok.data = .cell v) (f3 : od.data = .cell (some (.ref dl))) (f4 : RulesL tl rs R) (f5 : R.length = i) (f6 : (∀ k r, R[k]? = some r → ShR k r)) (f7 : (@Ne Nat ra (L' + 1) ∧ @Ne Nat ra (L' + 1 + 1))) (f8 : (∀ p ∈ tl, p.1 ≠ ra)) (f9 : (∀ p ∈ tl, p.1 ≠ L' + 1 + 1)) : UJ L' dl i m nx
theorem menuA (z : Int) : Sym (([257, 258, 36, 14, 22, 1, 255] : List Int).getD (Int.fmod z 7).toNat 0) := by
  have h1 := Int.fmod_nonneg_of_pos z (b := 7) (by omega)
  have h2 := Int.fmod_lt_of_pos z (b := 7) (by omega)
  generalize Int.fmod z 7 = f at h1 h2
  have h3 : f = 0 ∨ f = 1 ∨ f = 2 ∨ f = 3 ∨ f = 4 ∨ f = 5 ∨ f = 6 := by omega
  rcases h3 with rfl | rfl | rfl | rfl | rfl | rfl | rfl <;> simp [Sym]
theorem menuB (z : Int) : Ter (([14, 22, 1, 255, 0] : List Int).getD (Int.fmod z 5).toNat 0) ∨ ([14, 22, 1, 255, 0] : List Int).getD (Int.fmod z 5).toNat 0 = 0 := by
  have h1 := Int.fmod_nonneg_of_pos z (b := 5) (by omega)
  have h2 := Int.fmod_lt_of_pos z (b := 5) (by omega)
  generalize Int.fmod z 5 = f at h1 h2
  have h3 : f = 0 ∨ f = 1 ∨ f = 2 ∨ f = 3 ∨ f = 4 := by omega
  rcases h3 with rfl | rfl | rfl | rfl | rfl <;> simp [Ter]
local macro_rules | `(tactic| walk_at "call builtin:list.append") => `(tactic| (k_here; (with_reducible show wpAny _ _ (call (Value.builtin _) [Value.ref _, _]) _ _ _); k_dflt (refine' append_K ?k1 ?k2 ?k3 ?_ ?z; (case k1 => k_asm); (case k2 => k_asm); (case k3 => k_upd); (case z => (rw [sizeLine_eq]; simp only [List.size_toArray]; omega)); k_whole); intro h' F' N'; (try simp only [List.push_toArray] at N')))
theorem foldG (xs : List Int) : ∀ acc : List Int, (xs.foldl (fun l k => if k > 0 then l ++ [k] else l) acc).length ≤ acc.length + xs.length ∧ ∀ v ∈ xs.foldl (fun l k => if k > 0 then l ++ [k] else l) acc, v ∈ acc ∨ (v ∈ xs ∧ v > 0) := by
  induction xs with
  | nil => intro acc; exact ⟨by simp, fun v h => .inl h⟩
  | cons x xs ih =>
    intro acc
    rw [List.foldl_cons]
    obtain ⟨h1, h2⟩ := ih (if x > 0 then acc ++ [x] else acc)
    refine ⟨?_, fun v hv => ?_⟩
    · have : (if x > 0 then acc ++ [x] else acc).length ≤ acc.length + 1 := by split <;> simp
      rw [List.length_cons]; omega
    · rcases h2 v hv with h | ⟨h, h'⟩
      · split at h
        · rcases List.mem_append.mp h with h | h
          · exact .inl h
          · rw [List.mem_singleton.mp h]; exact .inr ⟨.head _, by assumption⟩
        · exact .inl h
      · exact .inr ⟨.tail _ h, h'⟩
theorem rules_snoc {tl tl' : Led} {rs : List Value} {R : Rules} {p q : Addr} {xs : List Value} {t : Tok} {c1 c2 : Nat} {r : Int × List Int} (h : RulesL tl rs R) (hs : ∀ p ∈ tl, p ∈ tl') (hp : (p, listOf #[.int r.1 t, .ref q] c1) ∈ tl') (hq : (q, listOf (List.toArray xs) c2) ∈ tl') (hx : IntsAre xs r.2) : RulesL tl' (rs ++ [.ref p]) (R ++ [r]) := by
  refine ⟨by simp [h.1], fun i r' hi => ?_⟩
  rcases Nat.lt_or_ge i R.length with hl | hl
  · rw [List.getElem?_append_left hl] at hi
    obtain ⟨p', q', xs', t', c1', c2', e1, e2, e3, e4⟩ := h.2 i r' hi
    exact ⟨p', q', xs', t', c1', c2', by rw [List.getElem?_append_left (by rw [h.1]; exact hl)]; exact e1, hs _ e2, hs _ e3, e4⟩
  · rw [List.getElem?_append_right hl] at hi
    have h0 : i - R.length = 0 := by
      rcases Nat.eq_zero_or_pos (i - R.length) with q | q
      · exact q
      · rw [List.getElem?_eq_none (by simp; omega)] at hi; cases hi
    rw [h0] at hi
    obtain rfl : r = r' := by simpa using hi
    exact ⟨p, q, xs, t, c1, c2, by rw [List.getElem?_append_right (by rw [h.1]; exact hl), h.1, h0]; rfl, hp, hq, hx⟩
local macro_rules | `(tactic| walk_at "my steps4") => `(tactic| repeat' ((fail_if_success (with_reducible show wpAny _ _ (execs (Stmt.If _ _ _ _ :: _) _) _ _ _)); walk_at "st"))
local macro_rules | `(tactic| walk_at "my steps3") => `(tactic| repeat' ((fail_if_success (with_reducible show wpAny _ _ (call (Value.builtin "list.append") _) _ _ _)); walk_at "st"))
local macro_rules | `(tactic| k_all) => `(tactic| assumption)
theorem con_rules {prog : Program} {w : World} {mean : ExcName → Option Value} {mg mb : Str → Option Value} (h : Heap) (dl : Addr) (vs : List Value) (ds : List Int) (hl : h.IsList dl vs.toArray) (hvs : IntsAre vs ds) (hn : ds.length = 7) (hd0 : ∀ d ∈ ds, 0 ≤ d) :
    Con prog w mean mg mb 69 [.ref dl] 1 h (fun r h' => ∃ a rs c tl R, r = .ref a ∧ Made h h' ((a, listOf (List.toArray rs) c) :: tl) ∧ RulesL tl rs R ∧ R.length = 6 ∧ ∀ k r, R[k]? = some r → ShR k r) := by
  intro dp un gd cn cs a ccd cl outer A₀ base h₀ L m s Q E hs B F Xk T hk hdp hu hret
  subst hs
  refine wpAny_call ?_
  k_dflt (refine' enter_defC (binds := [(Str.ofString "drawn", .ref dl)]) ?k1 ?k2 ?k3 ?k5 ?kA ?kF ?kK ?k6 ?k7 ?k8 ?k9 ?kB ?kD ?_ ?c2 ?c3 ?c4; walk_at "my enterC")
  clear B F Xk T
  intro L' h' tk cells hL' F' N' Y' B' X' T'
  k_cells Y'
  (try dsimp only)
  (try k_fold)
  walk_at "my steps"
  rename Fr _ _ _ _ => F1
  rename News _ _ _ _ => N1
  rename_i ok od hd1 hd2 ra hx1 l1 hx2
  replace F1 : Fr s.heap L' hx2 (fun y => if y = Str.ofString "rules" then some (.ref ra) else none) := F1
  replace hd1 : ok.data = .cell none := hd1
  replace hd2 : od.data = .cell (some (.ref dl)) := hd2
  obtain ⟨dlo, hdlo, _⟩ := id hl
  k_dflt refine' For_rangeT (h₀ := s.heap) (n := 6) (UJ L' dl) rfl (by omega) ?f1 ?f2 ?f3 ?f4 ?f5
  case f4 => exact fun _ => rfl
  case f5 => passes_own
  case f1 =>
    (try k_fold)
    walk_at "my steps"
    exact SrcF.intro (by assumption) (by assumption) (by assumption) ⟨ra, [], _, ok, od, _, [], [], ⟨rfl, trivial⟩, rfl, hd1, hd2, ⟨rfl, fun i r h => by simp at h⟩, rfl, fun k r h => by simp at h, ⟨Nat.ne_of_gt l1.2, Nat.ne_of_gt l1.1⟩, fun _ q => absurd q List.not_mem_nil, fun _ q => absurd q List.not_mem_nil⟩
  case f2 =>
    clear F1 N1
    rintro i t m₁ nx h4 tk4 I io hi ⟨ra, rs, c, ok, od, v, tl, R, H, rfl, hok, hod, hR, hRl, hsh, hra, htl, htk⟩ hsep F₄ N₄
    replace F₄ := H.fr F₄
    clear H
    dsimp only [kstB] at F₄
    change Fr s.heap L' h4 _ at F₄
    change News s.heap L' h4 _ at N₄
    have hra1 := hra.1
    have hra2 := hra.2
    have hIk : @Ne Nat I (L' + 1 + 1) := Ne.symm (hsep _ (.tail _ (.head _)))
    (try dsimp only); (try k_fold)
    obtain ⟨di, hdi⟩ : ∃ d, ds[i]? = some d := ⟨_, List.getElem?_eq_getElem (by omega)⟩
    have hdi0 := hd0 di (List.mem_of_getElem? hdi)
    obtain ⟨tdi, hvi⟩ := ints_at hvs i di hdi
    walk_at "my steps4"
    rename Fr _ _ _ _ => F5
    rename News _ _ _ _ => N5
    rename_i h5 ok5 hok5
    k_dflt refine' execs_cut (h₀ := s.heap) (L := L') [_] _ (fun m nx => ∃ D ys xs, Has m [(Str.ofString "rules", .ref ra), (Str.ofString "body", .ref D)] ∧ nx = (D, LCg.lst ys) :: (I, io) :: (ra, listOf (List.toArray rs) c) :: (L' + 1 + 1, ok5) :: (L' + 1, od) :: tl ∧
      IntsAre ys xs ∧ xs.length = 2 ∧ (i < 2 → ∀ x ∈ xs, Sym x) ∧ (2 ≤ i → ∀ x ∈ xs, Ter x ∨ x = 0) ∧ (∀ p ∈ (I, io) :: (ra, listOf (List.toArray rs) c) :: (L' + 1 + 1, ok5) :: (L' + 1, od) :: tl, p.1 ≠ D)) ?e1 ?e2
    case e1 =>
      (try k_fold)
      walk_at "my steps"
      · rename Fr _ _ _ _ => F5
        rename News _ _ _ _ => N5
        rename_i hi2
        k_dflt refine' assignL_range (h₀ := s.heap) (L := L') (m := fun z => if z = Str.ofString "rules" then some (.ref ra) else m₁ z) (n := 2) rfl ?g1 ?g2 ?g3 ?g4 ?g5 ?g6 ?g7 ?g8 (fun j ys nx => nx = (I, io) :: (ra, listOf (List.toArray rs) c) :: (L' + 1 + 1, ok5) :: (L' + 1, od) :: tl ∧ ∃ xs, IntsAre ys xs ∧ xs.length = j ∧ ∀ x ∈ xs, Sym x) (by omega) rfl ?gt ?gd ?gh ?gs
        case g1 => exact rfl
        case g2 => exact rfl
        case g3 => decide
        case g4 => exact rfl
        case g5 => decide
        case g6 => exact rfl
        case g7 => exact rfl
        case g8 => exact rfl
        case gs => exact fun _ => rfl
        case gh =>
          (try k_fold)
          walk_at "my steps"
          exact SrcRg.intro (by assumption) (by assumption) (by assumption) (by omega) ⟨rfl, [], .nil, rfl, fun d h => absurd h List.not_mem_nil⟩
        case gt =>
          clear F5 N5
          rintro j v I2 oI2 C2 oC2 D2 m₂ ys nx s₁ E' hj ⟨tj, rfl⟩ ⟨rfl, xs, hx, hxl, hxs⟩ hoC2 hm₂ F6 N6 hoff6 hne6 hs1
          simp only [List.cons_append, List.nil_append] at N6
          have hj' : j = 0 ∨ j = 1 := by omega
          rcases hj' with rfl | rfl
          all_goals (
            (try k_fold)
            walk_at "my steps"
            refine CEnd.intro (by assumption) (by assumption) _ (fun p hp => .tail _ hp) hoff6 ⟨rfl, xs ++ [_], hx.append (.cons _ _ .nil), by simp [hxl], fun x hm => ?_⟩
            rcases List.mem_append.mp hm with h | h
            · exact hxs x h
            · rw [List.mem_singleton.mp h]
              exact menuA _)
        case gd =>
          clear F5 N5
          rintro D ys nx h5 tk5 ⟨rfl, xs, hx, hxl, hxs⟩ F6 N6 hoff6
          (try dsimp only)
          (try k_fold)
          walk_at "my steps"
          exact CutEnd.intro (by assumption) (by assumption) ⟨D, ys, xs, ⟨rfl, rfl, trivial⟩, rfl, hx, hxl, fun _ => hxs, fun h => by omega, hoff6⟩
      · rename Fr _ _ _ _ => F5
        rename News _ _ _ _ => N5
        rename_i hi2
        k_dflt refine' assignL_range (h₀ := s.heap) (L := L') (m := fun z => if z = Str.ofString "rules" then some (.ref ra) else m₁ z) (n := 2) rfl ?g1 ?g2 ?g3 ?g4 ?g5 ?g6 ?g7 ?g8 (fun j ys nx => nx = (I, io) :: (ra, listOf (List.toArray rs) c) :: (L' + 1 + 1, ok5) :: (L' + 1, od) :: tl ∧ ∃ xs, IntsAre ys xs ∧ xs.length = j ∧ ∀ x ∈ xs, (Ter x ∨ x = 0)) (by omega) rfl ?gt ?gd ?gh ?gs
        case g1 => exact rfl
        case g2 => exact rfl
        case g3 => decide
        case g4 => exact rfl
        case g5 => decide
        case g6 => exact rfl
        case g7 => exact rfl
        case g8 => exact rfl
        case gs => exact fun _ => rfl
        case gh =>
          (try k_fold)
          walk_at "my steps"
          exact SrcRg.intro (by assumption) (by assumption) (by assumption) (by omega) ⟨rfl, [], .nil, rfl, fun d h => absurd h List.not_mem_nil⟩
        case gt =>
          clear F5 N5
          rintro j v I2 oI2 C2 oC2 D2 m₂ ys nx s₁ E' hj ⟨tj, rfl⟩ ⟨rfl, xs, hx, hxl, hxs⟩ hoC2 hm₂ F6 N6 hoff6 hne6 hs1
          simp only [List.cons_append, List.nil_append] at N6
          have hj' : j = 0 ∨ j = 1 := by omega
          rcases hj' with rfl | rfl
          all_goals (
            (try k_fold)
            walk_at "my steps"
            refine CEnd.intro (by assumption) (by assumption) _ (fun p hp => .tail _ hp) hoff6 ⟨rfl, xs ++ [_], hx.append (.cons _ _ .nil), by simp [hxl], fun x hm => ?_⟩
            rcases List.mem_append.mp hm with h | h
            · exact hxs x h
            · rw [List.mem_singleton.mp h]
              exact menuB _)
        case gd =>
          clear F5 N5
          rintro D ys nx h5 tk5 ⟨rfl, xs, hx, hxl, hxs⟩ F6 N6 hoff6
          (try dsimp only)
          (try k_fold)
          walk_at "my steps"
          exact CutEnd.intro (by assumption) (by assumption) ⟨D, ys, xs, ⟨rfl, rfl, trivial⟩, rfl, hx, hxl, fun h => by omega, fun _ => hxs, hoff6⟩
    case e2 =>
      clear F5 N5
      rintro h5 tk5 m₂ news₂ F6 N6 ⟨D, ys, xs, H, rfl, hx, hxl, hxA, hxB, hoff6⟩
      replace F6 := H.fr F6
      clear H
      dsimp only [kstB] at F6
      (try dsimp only)
      (try k_fold)
      walk_at "my steps"
      k_dflt refine' LCt.ListComp_T F6 ?b1 ?b2 ?b3 ?b4 ?b5 ?bh ?bs
      case b1 => exact rfl
      case b2 => decide
      case b3 => exact rfl
      case b4 => decide
      case b5 => exact rfl
      case bs => exact fun _ => rfl
      case bh =>
        (try k_fold)
        walk_at "my steps"
        have hyl := hx.length
        k_dflt refine' LCt.CompSrcT.ledger rfl (by assumption) (by assumption) (.head _) ?b6 ?b7
        case b6 => rw [List.size_toArray, sizeLine_eq]; omega
        case b7 =>
          intro g2
          k_dflt refine' kci_list (vs := ys) (ns := xs) (fun l k => if k > 0 then l ++ [k] else l) hx ?bt ?bf ?bg
          case bg => exact fun l k => by (show (if k > 0 then l ++ [k] else l).length ≤ l.length + 1); split <;> simp
          case bt =>
            intro k t9 I2 oI2 C2 oC2 D2 m₃ ys2 l h9 tk9 E9 hk hI9 hC9 hm9 F9 N9 off9 ne9 mk9
            clear F6 N6
            (try dsimp only)
            (try k_fold)
            walk_at "my steps"
            · exact LCg.CompEnd.intro (by assumption) (by assumption) _ (fun p hp => hp) off9 (.inr ⟨_, .head _, rfl, _, rfl⟩) (kci_el (if_pos (by assumption)) rfl rfl)
            · exact LCg.CompEnd.intro (by assumption) (by assumption) _ (fun p hp => hp) off9 (.inr ⟨_, .head _, rfl, _, rfl⟩) (kci_no (if_neg (by assumption)) rfl)
          case bf =>
            intro ys2 hy2 hyl2
            intro D2 h9 tk9 F9 N9 off9
            clear F6 N6
            have hoff9 := off1_of _ off9
            have hDr : @Ne Nat D ra := Ne.symm (hoff6 _ (.tail _ (.head _)))
            have hD2r : @Ne Nat D2 ra := Ne.symm (hoff9 _ (.tail _ (.tail _ (.head _))))
            have hIr : @Ne Nat I ra := Ne.symm (hsep _ (.head _))
            have hrsl : rs.length ≤ 6 := by have := hR.1; omega
            (try dsimp only)
            (try k_fold)
            walk_at "my steps"
            rename Fr _ _ _ _ => F10
            rename News _ _ _ _ => N10
            rename_i p h10 Fp Np lp h11
            clear Np Fp
            have hpi := hoff9 
            refine ⟨_, _, _, (ra, listOf (List.toArray (rs ++ [.ref p])) (c + 1)) :: (L' + 1 + 1, ok5) :: (L' + 1, od) :: (p, listOf #[.int (256 + (i : Int).fdiv 2) (tk5 + 1 + 1 + 1), .ref D2] 0) :: (D2, LCg.lst ys2) :: tl, rfl, F10, news_sub N10 (fun z hz => by revert z; walk_at "sub"), ?_, ?_⟩
            · exact all_cons (show ra ≠ I from hsep _ (.head _)) (all_cons (show L' + 1 + 1 ≠ I from hsep _ (.tail _ (.head _))) (all_cons (show L' + 1 ≠ I from hsep _ (.tail _ (.tail _ (.head _)))) (all_cons (Nat.ne_of_gt lp.2.2.1) (all_cons (show D2 ≠ I from Ne.symm (hoff9 _ (.tail _ (.head _)))) fun q hq => hsep q (.tail _ (.tail _ (.tail _ hq)))))))
            · have hf := foldG xs []
              refine ⟨ra, rs ++ [.ref p], _, ok5, od, _, (p, listOf #[.int (256 + (i : Int).fdiv 2) (tk5 + 1 + 1 + 1), .ref D2] 0) :: (D2, LCg.lst ys2) :: tl, R ++ [(256 + (i : Int).fdiv 2, xs.foldl (fun l k => if k > 0 then l ++ [k] else l) [])], ⟨rfl, trivial⟩, rfl, hok5, hod, ?_, by simp [hRl], ?_, hra, ?_, ?_⟩
              · exact rules_snoc hR (fun q hq => .tail _ (.tail _ hq)) (.head _) (.tail _ (.head _)) hy2
              · intro k r hkr
                rcases Nat.lt_or_ge k R.length with hl | hl
                · rw [List.getElem?_append_left hl] at hkr
                  exact hsh k r hkr
                · have hki : k = i := by
                    have := (List.getElem?_eq_some_iff.mp hkr).1
                    simp at this; omega
                  subst hki
                  rw [List.getElem?_append_right (by omega), hRl, Nat.sub_self] at hkr
                  obtain rfl := Option.some.inj hkr
                  refine ⟨?_, by have h9 := hf.1; rw [List.length_nil, hxl] at h9; exact h9, fun h2 v hv => ?_, fun h2 v hv => ?_⟩
                  · show (256 : Int) + (k : Int).fdiv 2 = 256 + ((k / 2 : Nat) : Int)
                    rw [Int.fdiv_eq_ediv_of_nonneg _ (by omega)]; omega
                  · rcases hf.2 v hv with h | ⟨h, _⟩
                    · exact absurd h List.not_mem_nil
                    · exact hxA h2 v h
                  · rcases hf.2 v hv with h | ⟨h, h'⟩
                    · exact absurd h List.not_mem_nil
                    · rcases hxB h2 v h with h3 | h3
                      · exact h3
                      · omega
              · exact all_cons (Nat.ne_of_gt lp.2.2.2.1) (all_cons hD2r htl)
              · exact all_cons (Nat.ne_of_gt lp.2.2.2.2.1) (all_cons (show D2 ≠ L' + 1 + 1 from Ne.symm (hoff9 _ (.tail _ (.tail _ (.tail _ (.head _)))))) htk)
  case f3 =>
    rintro m₁ nx h4 tk4 ⟨ra, rs, c, ok, od, v, tl, R, H, rfl, hok, hod, hR, hRl, hsh, hra, htl, htk⟩ F₄ N₄
    replace F₄ := H.fr F₄
    clear H
    dsimp only [kstB] at F₄
    change Fr s.heap L' h4 _ at F₄
    change News s.heap L' h4 _ at N₄
    (try dsimp only); (try k_fold)
    walk_at "my steps"
    refine hret _ _ _ (Fr.keep (by assumption)) ⟨ra, rs, c, tl, R, rfl, fun p hp => ?_, hR, hRl, hsh⟩
    have hm : p ∈ (ra, listOf (List.toArray rs) c) :: (L' + 1 + 1, ok) :: (L' + 1, od) :: tl := by
      rcases List.mem_cons.mp hp with h | h
      · exact h ▸ .head _
      · exact .tail _ (.tail _ (.tail _ h))
    exact ⟨(N₄ p hm).1, (N₄ p hm).2.2⟩
end Mine
end

section
open PySem PySem.W PySem.Calls PyProof.Rows
namespace Mine
theorem fresh15 : True := by
  w_top off
  trivial
end Mine
open PySem PySem.W PySem.Calls PyProof.Rows
set_option Elab.async false
set_option maxRecDepth 100000
set_option maxHeartbeats 2000000
namespace Mine

abbrev Wh := Int → Option Tb
def nameOf (x : Int) : List Nat := if x = 36 then [43, 61] else if x = 14 then [43] else if x = 22 then [61] else if x = 1 then [110] else [78]
def partsOf (t : List Nat) (W : Wh) (b : List Int) : List Tb := b.flatMap fun x => match W x with | some T => [T] | none => (nameOf x).map fun c => singT c t
def zeroT : Tb := fun i j => 2 * ((j : Int) - i)
def bodyT (ps : List Tb) : Tb := match ps with | [] => zeroT | P :: rest => rest.foldl joinT P
def stepT (t : List Nat) (W : Wh) (r : Int × List Int) : Wh := fun k => if k = r.1 then some (match W r.1 with | none => bodyT (partsOf t W r.2) | some T => fun i j => min (bodyT (partsOf t W r.2) i j) (T i j)) else W k
def wholeT (t : List Nat) (R : Rules) : Wh := R.foldl (stepT t) (fun _ => none)
def Nm (x : Int) : Prop := x = 36 ∨ x = 14 ∨ x = 22 ∨ x = 1 ∨ x = 255
def code4 (i : Nat) : Nat := [43, 61, 110, 78].getD i 0
def SingL (tl : Led) (t : List Nat) (i : Nat) (kvs : List (Str × Value)) : Prop := ∃ vs : Nat → Value, kvs = (List.range i).map (fun j => (Str.mk #[code4 j], vs j)) ∧ ∀ j, j < i → TabL tl (vs j) (singT (code4 j) t)
def WhL (tl : Led) (kvs : List (Int × Value)) (W : Wh) : Prop := ∀ k, (valueAt kvs k = none ∧ W k = none) ∨ ∃ v T, valueAt kvs k = some v ∧ W k = some T ∧ TabL tl v T
theorem made_news {h₀ h h' : Heap} {L : Addr} {m : Map} {led tl : Led} (F : Fr h₀ L h m) (N : News h₀ L h' led) (M : Made h h' tl) : News h₀ L h' (tl ++ led) := fun p hp => by
  rcases List.mem_append.mp hp with hp | hp
  · obtain ⟨e1, e2⟩ := M p hp
    refine ⟨e1, fun q => ?_, ?_⟩
    · obtain ⟨oL, es, ep, hL, _⟩ := F.ns
      rw [q, hL] at e2; cases e2
    · cases q : h₀.get? p.1 with
      | none => rfl
      | some o => have := F.keep _ _ q; rw [e2] at this; cases this
  · exact N p hp
theorem made_sep {h₀ h h' : Heap} {L : Addr} {led tl : Led} (N : News h₀ L h led) (M : Made h h' tl) {q : Addr × Obj} (hq : q ∈ led) : ∀ p ∈ tl, p.1 ≠ q.1 := fun p hp e => by
  have h1 := (M p hp).2
  rw [e, (N q hq).1] at h1; cases h1
theorem code4_al (i : Nat) (h : i < 4) : Al4 (code4 i) := by
  have h' : i = 0 ∨ i = 1 ∨ i = 2 ∨ i = 3 := by omega
  rcases h' with rfl | rfl | rfl | rfl <;> simp [code4, Al4]
theorem code4_ne {i j : Nat} (hi : i < 4) (hj : j < i) : code4 j ≠ code4 i := by
  have h' : i = 0 ∨ i = 1 ∨ i = 2 ∨ i = 3 := by omega
  have h'' : j = 0 ∨ j = 1 ∨ j = 2 := by omega
  rcases h' with rfl | rfl | rfl | rfl <;> rcases h'' with rfl | rfl | rfl <;> first | omega | decide
theorem sing_absent {i : Nat} {kvs : List (Str × Value)} {tl : Led} {t : List Nat} (h : SingL tl t i kvs) (hi : i < 4) : valueAt kvs (Str.mk #[code4 i]) = none := by
  obtain ⟨vs, rfl, _⟩ := h
  simp only [valueAt, Option.map_eq_none_iff, List.find?_eq_none, List.mem_map, List.mem_range]
  rintro p ⟨j, hj, rfl⟩
  simp only [decide_eq_true_eq]
  intro e
  injection e with e
  simp at e
  exact code4_ne hi hj e
theorem sing_step {i : Nat} {kvs : List (Str × Value)} {tl tl' : Led} {t : List Nat} {v : Value} (h : SingL tl t i kvs) (hi : i < 4) (hs : ∀ p ∈ tl, p ∈ tl') (hv : TabL tl' v (singT (code4 i) t)) : SingL tl' t (i + 1) (stored kvs (Str.mk #[code4 i]) v) := by
  rw [stored_absent (sing_absent h hi)]
  obtain ⟨vs, rfl, h2⟩ := h
  refine ⟨fun j => if j = i then v else vs j, ?_, fun j hj => ?_⟩
  · rw [List.range_succ, List.map_append]
    congr 1
    · refine List.map_congr_left fun j hj => ?_
      have : j ≠ i := Nat.ne_of_lt (List.mem_range.mp hj)
      simp [this]
    · simp
  · by_cases e : j = i
    · subst e; show TabL tl' (if j = j then v else vs j) _; rw [if_pos rfl]; exact hv
    · show TabL tl' (if j = i then v else vs j) _; rw [if_neg e]; exact (h2 j (by omega)).mono hs
local macro_rules | `(tactic| walk_at "my steps") => `(tactic| repeat' ((fail_if_success (with_reducible show wpAny _ _ (compareOp CmpOp.NotEq (Value.ref _) (Value.ref _)) _ _ _)); (fail_if_success (with_reducible show wpAny _ _ (compareOp CmpOp.In (Value.int _ _) (Value.ref _)) _ _ _)); (fail_if_success (with_reducible show wpAny _ _ (subscriptTail _ _ (Value.ref _) _) _ _ _)); (fail_if_success (with_reducible show wpAny _ _ (call (Value.builtin "list.extend") _) _ _ _)); (fail_if_success (with_reducible show wpAny _ _ (call (Value.builtin "list.append") _) _ _ _)); (fail_if_success (with_reducible show wpAny _ _ (call (Value.ref 114) _) _ _ _)); (fail_if_success (with_reducible show wpAny _ _ (call (Value.ref 119) _) _ _ _)); walk_at "s2"; walk_at "s3"; walk_at "s4"; walk_at "st"))
local macro_rules | `(tactic| walk_at "my steps0") => `(tactic| repeat' (walk_at "s2"; walk_at "st"))
local macro_rules | `(tactic| k_all) => `(tactic| assumption)
def OffC (L' : Addr) (tl : Led) : Prop := ∀ p ∈ tl, p.1 ≠ L' + 1 ∧ p.1 ≠ L' + 1 + 1 ∧ p.1 ≠ L' + 1 + 1 + 1 ∧ p.1 ≠ L' + 1 + 1 + 1 + 1 ∧ p.1 ≠ L' + 1 + 1 + 1 + 1 + 1
theorem OffC.nil {L' : Addr} : OffC L' [] := fun _ q => absurd q List.not_mem_nil
theorem OffC.app {L' : Addr} {a b : Led} (h1 : OffC L' a) (h2 : OffC L' b) : OffC L' (a ++ b) := fun p hp => (List.mem_append.mp hp).elim (h1 p) (h2 p)
theorem OffC.cons {L' : Addr} {a : Addr × Obj} {b : Led} (h1 : a.1 ≠ L' + 1 ∧ a.1 ≠ L' + 1 + 1 ∧ a.1 ≠ L' + 1 + 1 + 1 ∧ a.1 ≠ L' + 1 + 1 + 1 + 1 ∧ a.1 ≠ L' + 1 + 1 + 1 + 1 + 1) (h2 : OffC L' b) : OffC L' (a :: b) := fun p hp => (List.mem_cons.mp hp).elim (fun e => e ▸ h1) (h2 p)
theorem OffC.made {h₀ h h' : Heap} {L L' : Addr} {led tl : Led} {o1 o2 o3 o4 o5 : Obj} (N : News h₀ L h led) (M : Made h h' tl) (s5 : (L' + 1 + 1 + 1 + 1 + 1, o5) ∈ led) (s4 : (L' + 1 + 1 + 1 + 1, o4) ∈ led) (s3 : (L' + 1 + 1 + 1, o3) ∈ led) (s2 : (L' + 1 + 1, o2) ∈ led) (s1 : (L' + 1, o1) ∈ led) : OffC L' tl := fun p hp =>
  ⟨made_sep N M s1 p hp, made_sep N M s2 p hp, made_sep N M s3 p hp, made_sep N M s4 p hp, made_sep N M s5 p hp⟩
inductive WJ (prog : Program) (w : World) (L' nd D wd lr : Addr) (on oD o1 o2 o3 lro : Obj) (t : List Nat) (RR : Rules) (tl0 : Led) (i : Nat) (m : Map) (nx : Led) : Prop
  | mk (ow o5 o4 : Obj) (v5 v4 : Option Value) (kvs : List (Int × Value)) (tl : Led) (f0 : Has m [(Str.ofString "names", .ref nd)]) (f1 : nx = (wd, ow) :: (L' + 1 + 1 + 1 + 1 + 1, o5) :: (L' + 1 + 1 + 1 + 1, o4) :: (L' + 1 + 1 + 1, o3) :: (L' + 1 + 1, o2) :: (L' + 1, o1) :: (nd, on) :: (D, oD) :: (lr, lro) :: tl) (f2 : o5.data = .cell v5) (f3 : o4.data = .cell v4) (f4 : ow.IsDictOf (intKind prog w) kvs) (f5 : WhL tl kvs (wholeT t (RR.take i))) (f6 : kvs.length ≤ i) (f7 : OffC L' tl) (f8 : (∀ p ∈ tl, p.1 ≠ wd)) (f9 : (∀ p ∈ tl0, p ∈ tl)) : WJ prog w L' nd D wd lr on oD o1 o2 o3 lro t RR tl0 i m nx
def nameS (x : Int) : Str := ⟨(nameOf x).toArray⟩
theorem nameS_at {x : Int} {q0 q1 q2 q3 q4 : Tok} (h : Nm x) : ∃ tq, valueAt ([(36, .str (Str.ofString "+=") q0), (14, .str (Str.ofString "+") q1), (22, .str (Str.ofString "=") q2), (1, .str (Str.ofString "n") q3), (255, .str (Str.ofString "N") q4)] : List (Int × Value)) x = some (.str (nameS x) tq) := by
  rcases h with rfl | rfl | rfl | rfl | rfl
  · exact ⟨q0, rfl⟩
  · exact ⟨q1, rfl⟩
  · exact ⟨q2, rfl⟩
  · exact ⟨q3, rfl⟩
  · exact ⟨q4, rfl⟩
theorem nameOf_len (x : Int) : 0 < (nameOf x).length ∧ (nameOf x).length ≤ 2 := by
  unfold nameOf
  (repeat' split) <;> simp
theorem nameOf_mem {x : Int} {c : Nat} (h : c ∈ nameOf x) : ∃ j, j < 4 ∧ c = code4 j := by
  unfold nameOf at h
  repeat' split at h
  all_goals simp only [List.mem_cons, List.not_mem_nil, or_false] at h
  · rcases h with rfl | rfl
    · exact ⟨0, by omega, rfl⟩
    · exact ⟨1, by omega, rfl⟩
  · exact ⟨0, by omega, h⟩
  · exact ⟨1, by omega, h⟩
  · exact ⟨2, by omega, h⟩
  · exact ⟨3, by omega, h⟩
theorem find_key {vs : Nat → Value} : ∀ (n : Nat) (j : Nat), j < n → n ≤ 4 → valueAt ((List.range n).map fun j => (Str.mk #[code4 j], vs j)) (Str.mk #[code4 j]) = some (vs j) := by
  intro n j hj hn
  have hn' : n = 1 ∨ n = 2 ∨ n = 3 ∨ n = 4 := by omega
  have hj' : j = 0 ∨ j = 1 ∨ j = 2 ∨ j = 3 := by omega
  rcases hn' with rfl | rfl | rfl | rfl <;> rcases hj' with rfl | rfl | rfl | rfl <;> first | omega | rfl
theorem sing_get {tl : Led} {t : List Nat} {kvs : List (Str × Value)} {c : Nat} (h : SingL tl t 4 kvs) (hc : ∃ j, j < 4 ∧ c = code4 j) : ∃ v, valueAt kvs (Str.mk #[c]) = some v ∧ TabL tl v (singT c t) := by
  obtain ⟨vs, rfl, h2⟩ := h
  obtain ⟨j, hj, rfl⟩ := hc
  exact ⟨vs j, find_key 4 j hj (Nat.le_refl _), h2 j hj⟩
def PL (tl : Led) (ps : List Value) (Ps : List Tb) : Prop := ps.length = Ps.length ∧ ∀ (k : Nat) (T : Tb), Ps[k]? = some T → ∃ v, ps[k]? = some v ∧ TabL tl v T
theorem PL.nil {tl : Led} : PL tl [] [] := ⟨rfl, fun k T h => by simp at h⟩
theorem PL.app {tl : Led} {ps qs : List Value} {Ps Qs : List Tb} (h : PL tl ps Ps) (g : PL tl qs Qs) : PL tl (ps ++ qs) (Ps ++ Qs) := by
  refine ⟨by simp [h.1, g.1], fun k T hk => ?_⟩
  rcases Nat.lt_or_ge k Ps.length with hl | hl
  · rw [List.getElem?_append_left hl] at hk
    obtain ⟨v, e1, e2⟩ := h.2 k T hk
    exact ⟨v, by rw [List.getElem?_append_left (by rw [h.1]; exact hl)]; exact e1, e2⟩
  · rw [List.getElem?_append_right hl] at hk
    obtain ⟨v, e1, e2⟩ := g.2 _ T hk
    exact ⟨v, by rw [List.getElem?_append_right (by rw [h.1]; exact hl), h.1]; exact e1, e2⟩
theorem PL.one {tl : Led} {v : Value} {T : Tb} (h : TabL tl v T) : PL tl [v] [T] := ⟨rfl, fun k U hk => by
  cases k with
  | zero => obtain rfl : T = U := by simpa using hk
            exact ⟨v, rfl, h⟩
  | succ k => simp at hk⟩
inductive PJ (L' nd D wd lr I : Addr) (on oD o1 o2 o3 o4 o5 ow lro io : Obj) (pl : Addr) (t : List Nat) (W : Wh) (b : List Int) (tl : Led) (j : Nat) (m : Map) (nx : Led) : Prop
  | mk (ps : List Value) (c : Nat) (f0 : Has m [(Str.ofString "parts", .ref pl), (Str.ofString "names", .ref nd)]) (f1 : nx = (pl, listOf (List.toArray ps) c) :: (I, io) :: (wd, ow) :: (L' + 1 + 1 + 1 + 1 + 1, o5) :: (L' + 1 + 1 + 1 + 1, o4) :: (L' + 1 + 1 + 1, o3) :: (L' + 1 + 1, o2) :: (L' + 1, o1) :: (nd, on) :: (D, oD) :: (lr, lro) :: tl) (f2 : PL tl ps (partsOf t W (b.take j))) (f3 : ps.length ≤ 2 * j) : PJ L' nd D wd lr I on oD o1 o2 o3 o4 o5 ow lro io pl t W b tl j m nx
def SepT (L' wd I pl : Addr) (tl : Led) : Prop := OffC L' tl ∧ (∀ p ∈ tl, p.1 ≠ wd) ∧ (∀ p ∈ tl, p.1 ≠ I) ∧ (∀ p ∈ tl, p.1 ≠ pl)
theorem ne_cons {prog : Program} {w : World} {A : Around} {E : Value → Shared → Prop} {s : Shared} {a b : Addr} {xs : List Value} {x : Value} {Q : Value → Shared → Prop} (ha : s.heap.IsList a (x :: xs).toArray) (hb : s.heap.IsList b #[]) (hu : A.units < cLine) (h : Q (.bool true) s) :
    wpAny (model prog w) A (compareOp .NotEq (.ref a) (.ref b)) Q E s := ne_nil (xs := x :: xs) ha hb hu h
theorem ne_nilE {prog : Program} {w : World} {A : Around} {E : Value → Shared → Prop} {s : Shared} {a b : Addr} {Q : Value → Shared → Prop} (ha : s.heap.IsList a #[]) (hb : s.heap.IsList b #[]) (hu : A.units < cLine) (h : Q (.bool false) s) :
    wpAny (model prog w) A (compareOp .NotEq (.ref a) (.ref b)) Q E s := ne_nil (xs := []) ha hb hu h
local macro_rules | `(tactic| walk_at "my steps5") => `(tactic| repeat' ((fail_if_success (with_reducible show wpAny _ _ (execs (Stmt.Assign _ (Expr.IfExp _ _ _ _) _ :: _) _) _ _ _)); walk_at "st"))
def headT (Ps : List Tb) : Tb := match Ps with | [] => zeroT | P :: _ => P
def SepL (tlr led : Led) : Prop := ∀ p ∈ tlr, ∀ q ∈ led, p.1 ≠ q.1
theorem rowsL_snoc {tl : Led} {ys zs : List Value} {T : Tb} {n : Nat} {D : Addr} (h : RowsL tl ys T n) (hz : IntsAre zs (rowOf T n)) : RowsL ((D, LCg.lst zs) :: tl) (ys ++ [.ref D]) T (n + 1) := by
  refine ⟨by simp [h.1], fun i hi => ?_⟩
  by_cases e : i = n
  · subst e
    exact ⟨D, zs, _, by rw [List.getElem?_append_right (by rw [h.1]; exact Nat.le_refl _), h.1]; simp, .head _, hz⟩
  · obtain ⟨r, xs, c', e1, e2, e3⟩ := h.2 i (by omega)
    exact ⟨r, xs, c', by rw [List.getElem?_append_left (by rw [h.1]; omega)]; exact e1, .tail _ e2, e3⟩
theorem row_end2 {h₀ h : Heap} {L D3 : Addr} {m : Map} {s₁ : Shared} {tk : Nat} {ys zs : List Value} {T : Tb} {q1 q2 q3 q4 : Addr × Obj} {tlr led : Led} {i : Nat} (F3 : Fr h₀ L h m) (N3 : News h₀ L h ((D3, LCg.lst zs) :: q1 :: q2 :: q3 :: q4 :: (tlr ++ led))) (hz : IntsAre zs (rowOf T i))
    (hoff : ∀ p ∈ tlr ++ led, ∀ q ∈ [q1, q2, q3, q4], p.1 ≠ q.1) (hne : ∀ p ∈ q1 :: q2 :: q3 :: q4 :: (tlr ++ led), p.1 ≠ D3) (hr : RowsL tlr ys T i) (hs : SepL tlr led) :
    CEnd h₀ L m s₁ [q1, q2, q3, q4] (fun y nx' => ∃ tlr, nx' = tlr ++ led ∧ RowsL tlr (ys ++ [y]) T (i + 1) ∧ SepL tlr led) (.ref D3) { s₁ with heap := h, toks := tk } := by
  refine CEnd.intro F3 N3 (((D3, LCg.lst zs) :: tlr) ++ led) ?_ ?_ ⟨(D3, LCg.lst zs) :: tlr, rfl, rowsL_snoc hr hz, ?_⟩
  · intro p hp
    revert p; walk_at "sub"
  · intro p hp q hq
    rcases List.mem_cons.mp hp with rfl | hp
    · refine Ne.symm (hne q ?_)
      revert q; walk_at "sub"
    · exact hoff p hp q hq
  · intro p hp q hq
    rcases List.mem_cons.mp hp with rfl | hp
    · exact Ne.symm (hne q (by first | walk_at "mem" | simp [hq]))
    · exact hs p hp q hq
theorem pick1 (ps : List Value) : slicePick ps.toArray (some 1) none none = (ps.drop 1).toArray := by
  cases ps with
  | nil => rfl
  | cons p ps => exact slicePick_from (p :: ps).toArray 1 (by walk_at "mm")
theorem bodyT_eq (Ps : List Tb) : bodyT Ps = (Ps.drop 1).foldl joinT (headT Ps) := by cases Ps <;> rfl
local macro_rules | `(tactic| walk_at "my steps7") => `(tactic| repeat' ((fail_if_success (with_reducible show wpAny _ _ (call (Value.ref 119) _) _ _ _)); walk_at "s2"; walk_at "s4"; walk_at "st"))
inductive QJ (L' nd D wd lr I lq : Addr) (on oD o1 o2 o3 o4 ow lro io lqo : Obj) (Ps : List Tb) (tl1 : Led) (j : Nat) (m : Map) (nx : Led) : Prop
  | mk (o5 : Obj) (v : Value) (tl : Led) (f0 : Has m [(Str.ofString "names", .ref nd)]) (f1 : nx = (lq, lqo) :: (I, io) :: (wd, ow) :: (L' + 1 + 1 + 1 + 1 + 1, o5) :: (L' + 1 + 1 + 1 + 1, o4) :: (L' + 1 + 1 + 1, o3) :: (L' + 1 + 1, o2) :: (L' + 1, o1) :: (nd, on) :: (D, oD) :: (lr, lro) :: tl) (f2 : o5.data = .cell (some v)) (f3 : TabL tl v (((Ps.drop 1).take j).foldl joinT (headT Ps))) (f4 : SepT L' wd I lq tl) (f5 : ∀ p ∈ tl1, p ∈ tl) : QJ L' nd D wd lr I lq on oD o1 o2 o3 o4 ow lro io lqo Ps tl1 j m nx
theorem wh_step {tl tl' : Led} {kvs : List (Int × Value)} {W : Wh} {t : List Nat} {r : Int × List Int} {v : Value} {T : Tb} (h : WhL tl kvs W) (hs : ∀ p ∈ tl, p ∈ tl') (hT : stepT t W r r.1 = some T) (hv : TabL tl' v T) : WhL tl' (stored kvs r.1 v) (stepT t W r) := by
  intro k
  rw [valueAt_stored]
  by_cases e : k = r.1
  · subst e
    rw [if_pos rfl]
    exact .inr ⟨v, T, rfl, hT, hv⟩
  · rw [if_neg e]
    have : stepT t W r k = W k := by simp [stepT, e]
    rw [this]
    rcases h k with h0 | ⟨v', T', e1, e2, e3⟩
    · exact .inl h0
    · exact .inr ⟨v', T', e1, e2, e3.mono hs⟩
theorem row_at (T : Tb) (i j : Nat) (h : j < 4) : (rowOf T i)[j]? = some (T i j) := by simp [rowOf, h]
theorem con_stretches {prog : Program} {w : World} {mean : ExcName → Option Value} {mg mb : Str → Option Value} (h : Heap) (va : Value) (R : Rules) (a0 a1 a2 : Nat) (tz : Tok) (h0 : Al4 a0) (h1 : Al4 a1) (h2 : Al4 a2) (hH : RulesH h va R) (hRl : R.length = 6)
    (hwf : ∀ (i : Nat) r, R.reverse[i]? = some r → r.2.length ≤ 2 ∧ ∀ x ∈ r.2, wholeT [a0, a1, a2] (R.reverse.take i) x ≠ none ∨ Nm x) (hfin : ∀ k, (k = 256 ∨ k = 257 ∨ k = 258) → wholeT [a0, a1, a2] R.reverse k ≠ none) :
    Con prog w mean mg mb 124 [va, .str ⟨#[a0, a1, a2]⟩ tz] 3 h (fun r h' => ∃ a xs c, r = .ref a ∧ h'.get? a = some (listOf (List.toArray xs) c) ∧ h.get? a = none ∧ IntsAre xs (([256, 257, 258] : List Int).map fun k => ((wholeT [a0, a1, a2] R.reverse k).getD zeroT) 0 3)) := by
  intro dp un gd cn cs a ccd cl outer A₀ base h₀ L m s Q E hs B F Xk T hk hdp hu hret
  subst hs
  obtain ⟨la, rs, rfl, hla, hrl, hrs⟩ := hH
  refine wpAny_call ?_
  k_dflt (refine' enter_defC (binds := [(Str.ofString "rules", .ref la), (Str.ofString "text", .str ⟨#[a0, a1, a2]⟩ tz)]) ?k1 ?k2 ?k3 ?k5 ?kA ?kF ?kK ?k6 ?k7 ?k8 ?k9 ?kB ?kD ?_ ?c2 ?c3 ?c4; walk_at "my enterC")
  clear B F Xk T
  intro L' h' tk cells hL' F' N' Y' B' X' T'
  k_cells Y'
  (try dsimp only)
  (try k_fold)
  walk_at "my steps"
  rename Fr _ _ _ _ => F1
  rename News _ _ _ _ => N1
  rename_i o5 o4 o3 o2 o1 hd5 hd4 hd3 hd2 hd1
  replace F1 : Fr s.heap L' h' (fun y => if y = Str.ofString "rules" then some (.ref la) else none) := F1
  replace hd5 : o5.data = .cell none := hd5
  replace hd4 : o4.data = .cell none := hd4
  replace hd3 : o3.data = .cell none := hd3
  replace hd2 : o2.data = .cell none := hd2
  replace hd1 : o1.data = .cell (some (.str ⟨#[a0, a1, a2]⟩ tz)) := hd1
  k_dflt refine' wpAny_Assign_Name ?aa ?ab
  case ab => with_unfolding_all rfl
  case aa =>
    k_dflt refine' compD_str (h₀ := s.heap) (L := L') (m := fun y => if y = Str.ofString "rules" then some (.ref la) else none) (z := Str.ofString "+=nN") (knd := strKind prog w) ?a1 ?a2 ?a3 ?a4 ?a5 (fun i kvs nx => ∃ tl, nx = (L' + 1 + 1 + 1 + 1 + 1, o5) :: (L' + 1 + 1 + 1 + 1, o4) :: (L' + 1 + 1 + 1, o3) :: (L' + 1 + 1, o2) :: (L' + 1, o1) :: tl ∧ OffC L' tl ∧ i ≤ 4 ∧ SingL tl [a0, a1, a2] i kvs) ?a6 ?a7 rfl ?bt ?bd ?bh ?bs
    case a1 => exact rfl
    case a2 => decide
    case a3 => exact rfl
    case a4 => decide
    case a5 => exact rfl
    case a6 =>
      rintro i kvs nx ⟨tl, _, _, hi, vs, rfl, _⟩
      simp; omega
    case a7 => decide
    case bs => exact fun _ => rfl
    case bh =>
      (try k_fold)
      walk_at "my steps"
      exact SrcSt.intro (by assumption) (by assumption) ⟨[], rfl, .nil, by omega, fun _ => .none, rfl, fun j hj => by omega⟩
    case bt =>
      rintro i v I oI C oC D oD m₂ kvs nx s₁ E' hi ⟨x, t3, hx3, rfl⟩ ⟨tl, rfl, hC, hi4, hS⟩ hoD hoC hm₂ F2 N2 hoff hne hs1
      clear F1 N1
      simp only [List.cons_append, List.nil_append] at N2
      have hi4' : i < 4 := hi
      have hx : x = code4 i := by
        have h' : i = 0 ∨ i = 1 ∨ i = 2 ∨ i = 3 := by omega
        rcases h' with rfl | rfl | rfl | rfl <;> exact (Option.some.inj hx3).symm
      subst hx
      (try k_fold)
      walk_at "my steps"
      k_dflt (refine' Con.use (con_single _ (code4 i) a0 a1 a2 t3 tz (code4_al i hi4') h0 h1 h2) rfl ?o1 ?o2 ?o3 ?o4 ?o5 ?od ?ou ?o6 ?_); k_dflt ((case o1 => k_asm); (case o2 => exact F2); (case o3 => k_asm); (case o4 => k_asm); (case o5 => first | exact rfl | assumption); (case od => ktr_room); (case ou => ktr_units); (case o6 => exact N2); k_whole)
      intro r9 h9 tk9 st9 F9 N9 hp9
      obtain ⟨tl2, hM, hT⟩ := hp9
      have N10 := made_news F2 N9 hM
      refine CEnd.intro F9 N10 ((L' + 1 + 1 + 1 + 1 + 1, o5) :: (L' + 1 + 1 + 1 + 1, o4) :: (L' + 1 + 1 + 1, o3) :: (L' + 1 + 1, o2) :: (L' + 1, o1) :: (tl2 ++ tl)) ?_ ?_ ⟨Str.mk #[code4 i], strKind_is _ _ _ _, tl2 ++ tl, rfl, (OffC.made (o1 := o1) (o2 := o2) (o3 := o3) (o4 := o4) (o5 := o5) N2 hM (by walk_at "mm") (by walk_at "mm") (by walk_at "mm") (by walk_at "mm") (by walk_at "mm")).app hC, hi4', sing_step hS hi4' (fun p hp => List.mem_append_right _ hp) (hT.mono fun p hp => List.mem_append_left _ hp)⟩
      · intro z hz
        revert z; walk_at "sub"
      · intro p hp q hq
        have hq' : q ∈ (I, oI) :: (C, oC) :: (D, oD) :: (L' + 1 + 1 + 1 + 1 + 1, o5) :: (L' + 1 + 1 + 1 + 1, o4) :: (L' + 1 + 1 + 1, o3) :: (L' + 1 + 1, o2) :: (L' + 1, o1) :: tl := by
          revert q; walk_at "sub"
        simp only [List.mem_cons, List.mem_append] at hp
        rcases hp with h | h | h | h | h | h | h
        · exact hoff p (by first | walk_at "mem" | (subst h; walk_at "mem") | simp [h]) q hq
        · exact hoff p (by first | walk_at "mem" | (subst h; walk_at "mem") | simp [h]) q hq
        · exact hoff p (by first | walk_at "mem" | (subst h; walk_at "mem") | simp [h]) q hq
        · exact hoff p (by first | walk_at "mem" | (subst h; walk_at "mem") | simp [h]) q hq
        · exact hoff p (by first | walk_at "mem" | (subst h; walk_at "mem") | simp [h]) q hq
        · exact made_sep N2 hM hq' p h
        · exact hoff p (by first | walk_at "mem" | (subst h; walk_at "mem") | simp [h]) q hq
    case bd =>
      rintro D oD kvs nx h3 tk3 ⟨tl, rfl, hC, _, hS⟩ F2 N2 hoD hoff hLD
      clear F1 N1
      have hc1 : ∀ p ∈ tl, p.1 ≠ L' + 1 := fun p hp => (hC p hp).1
      have hc2 : ∀ p ∈ tl, p.1 ≠ L' + 1 + 1 := fun p hp => (hC p hp).2.1
      have hc3 : ∀ p ∈ tl, p.1 ≠ L' + 1 + 1 + 1 := fun p hp => (hC p hp).2.2.1
      have hc4 : ∀ p ∈ tl, p.1 ≠ L' + 1 + 1 + 1 + 1 := fun p hp => (hC p hp).2.2.2.1
      have hc5 : ∀ p ∈ tl, p.1 ≠ L' + 1 + 1 + 1 + 1 + 1 := fun p hp => (hC p hp).2.2.2.2
      have hD5 : @Ne Nat D (L' + 1 + 1 + 1 + 1 + 1) := Ne.symm (hoff _ (.head _))
      have hD4 : @Ne Nat D (L' + 1 + 1 + 1 + 1) := Ne.symm (hoff _ (.tail _ (.head _)))
      have hD3 : @Ne Nat D (L' + 1 + 1 + 1) := Ne.symm (hoff _ (.tail _ (.tail _ (.head _))))
      have hD2 : @Ne Nat D (L' + 1 + 1) := Ne.symm (hoff _ (.tail _ (.tail _ (.tail _ (.head _)))))
      have hD1 : @Ne Nat D (L' + 1) := Ne.symm (hoff _ (.tail _ (.tail _ (.tail _ (.tail _ (.head _))))))
      (try dsimp only)
      (try k_fold)
      walk_at "my steps"
      rename Fr _ _ _ _ => F3
      rename News _ _ _ _ => N3
      rename Obj.IsDictOf (intKind prog w) _ [] => hwd
      rename Obj.IsDictOf (intKind prog w) _ (intKeyPairs _) => hnd
      rename _ ∧ _ ∧ _ ∧ _ ∧ _ ∧ _ ∧ _ ∧ _ => lw
      rename (_ == sysModules) = false => lowd
      rename Obj.data _ = Data.cell (some (Value.ref _)) => hw3
      rename_i hA o2n hd2n hB on lond hn0 apn ln hCC wd hDD ow hs0 fs0 fi0 hE o3n
      obtain ⟨q0, q1, q2, q3, q4, hnd'⟩ : ∃ t0 t1 t2 t3 t4, on.IsDictOf (intKind prog w) [(36, .str (Str.ofString "+=") t0), (14, .str (Str.ofString "+") t1), (22, .str (Str.ofString "=") t2), (1, .str (Str.ofString "n") t3), (255, .str (Str.ofString "N") t4)] := ⟨_, _, _, _, _, hnd⟩
      clear hnd hn0 hs0 fs0 fi0 apn
      dsimp only at F3
      generalize hnde : hA.objs.size = nd at F3 N3 ln lw lond
      have hSl : rs.reverse.length = 6 := by rw [List.length_reverse]; omega
      have hrv : ∀ (i : Nat) (r : Int × List Int), R.reverse[i]? = some r → ∃ p q xs t, rs.reverse[i]? = some (.ref p) ∧ s.heap.IsList p #[.int r.1 t, .ref q] ∧ s.heap.IsList q (List.toArray xs) ∧ IntsAre xs r.2 := by
        intro i r hi
        have hil := (List.getElem?_eq_some_iff.mp hi).1
        rw [List.length_reverse] at hil
        rw [List.getElem?_reverse hil] at hi
        obtain ⟨p, q, xs, t, e⟩ := hrs _ r hi
        refine ⟨p, q, xs, t, ?_, e.2⟩
        rw [List.getElem?_reverse (by omega), hrl]
        exact e.1
      obtain ⟨lr, hlr⟩ : ∃ lr, lr = hE.objs.size + 1 := ⟨_, rfl⟩
      have hpick : slicePick rs.toArray none none (some (-1)) = rs.reverse.toArray := by rw [krv_pick]
      have hl0 : ∀ p ∈ (wd, ow) :: (nd, on) :: (D, oD) :: (L' + 1 + 1 + 1 + 1 + 1, o5) :: (L' + 1 + 1 + 1 + 1, o4) :: (L' + 1 + 1 + 1, o3n) :: (L' + 1 + 1, o2n) :: (L' + 1, o1) :: tl, p.1 ≠ lr := fun p hp => by
        rw [hlr]; exact Nat.ne_of_lt (Nat.lt_succ_of_lt (Heap.lt_size (N3 p hp).1))
      have hlr4 : @Ne Nat lr (L' + 1 + 1 + 1 + 1) := Ne.symm (hl0 (_, o4) (by walk_at "mm"))
      have hlr5 : @Ne Nat lr (L' + 1 + 1 + 1 + 1 + 1) := Ne.symm (hl0 (_, o5) (by walk_at "mm"))
      have hlrw : @Ne Nat lr wd := Ne.symm (hl0 (_, ow) (by walk_at "mm"))
      have hLlr : lr ≠ L' := by rw [hlr]; exact Nat.ne_of_gt (Nat.lt_succ_of_lt F3.ns.lt)
      k_dflt refine' For_listT (h₀ := s.heap) (l := lr) (vs := rs.reverse) (WJ prog w L' nd D wd lr on oD o1 o2n o3n (listOf (List.toArray rs.reverse) 0) [a0, a1, a2] R.reverse tl) rfl ?f1 ?f2 ?f3 ?f4 ?f5 ?f6 ?f7
      case f6 => exact fun _ => rfl
      case f7 => passes_own
      case f1 =>
        intro i v hi
        have hil := (List.getElem?_eq_some_iff.mp hi).1
        obtain ⟨p, q, xs, t, e, _⟩ := hrv i _ (List.getElem?_eq_getElem (by rw [List.length_reverse]; omega))
        exact ⟨p, Option.some.inj (hi.symm.trans e)⟩
      case f3 =>
        refine .inr ⟨listOf (List.toArray rs.reverse) 0, ?_⟩
        rintro i m nx ⟨_, _, _, _, _, _, _, _, rfl, _⟩
        simp
      case f2 =>
        (try k_fold)
        walk_at "my steps0"
        rename Fr _ _ _ _ => F4
        rename News _ _ _ _ => N4
        rw [hpick] at N4
        rw [← hlr]
        simp only [← hlr] at N4
        exact SrcT.intro (isl (N4 _ (.head _)).1) F4 (news_sub N4 (fun z hz => by revert z; walk_at "sub")) ⟨ow, o5, o4, _, _, [], tl, ⟨rfl, trivial⟩, rfl, hd5, hd4, hwd, fun k => .inl ⟨rfl, rfl⟩, Nat.le_refl _, hC, fun p hp => Nat.ne_of_lt (ktn_ltOf lw.2.2.2.2.2.2.2 p hp), fun _ h => h⟩
      case f4 =>
        rintro i v m₁ nx h4 tk4 I io hvi ⟨ow, o5, o4, v5, v4, kvs, tl₁, H, rfl, h5d, h4d, how, hWh, hkl, hCt, hwt, hsub⟩ hsep F₄ N₄
        have hil := (List.getElem?_eq_some_iff.mp hvi).1
        obtain ⟨r, hri⟩ : ∃ r, R.reverse[i]? = some r := ⟨_, List.getElem?_eq_getElem (by rw [List.length_reverse]; omega)⟩
        obtain ⟨hr2, hrx⟩ := hwf i r hri
        obtain ⟨p, q, xs, t, e, hp, hq, hxs⟩ := hrv i r hri
        obtain rfl : v = .ref p := Option.some.inj (hvi.symm.trans e)
        replace F₄ := H.fr F₄
        clear H
        dsimp only [kstB] at F₄
        change Fr s.heap L' h4 _ at F₄
        change News s.heap L' h4 _ at N₄
        have hc4 : ∀ p ∈ tl₁, p.1 ≠ L' + 1 + 1 + 1 + 1 := fun p hp => (hCt p hp).2.2.2.1
        have hc5 : ∀ p ∈ tl₁, p.1 ≠ L' + 1 + 1 + 1 + 1 + 1 := fun p hp => (hCt p hp).2.2.2.2
        have hI4 : @Ne Nat I (L' + 1 + 1 + 1 + 1) := Ne.symm (hsep _ (.tail _ (.tail _ (.head _))))
        have hI5 : @Ne Nat I (L' + 1 + 1 + 1 + 1 + 1) := Ne.symm (hsep _ (.tail _ (.head _)))
        have hIw : @Ne Nat I wd := Ne.symm (hsep _ (.head _))
        k_dflt (refine' kun_list (items := #[.int r.1 t, .ref q]) F₄ N₄ ?z1 rfl rfl rfl ?_; (case z1 => exact hp.at fun o e => F₄.keep _ _ e); k_whole)
        clear F₄ N₄
        intro h5 F5 N5
        (try dsimp only); (try k_fold)
        walk_at "my steps"
        rename Fr _ _ _ _ => F6
        rename News _ _ _ _ => N6
        rename_i o4n hd4n h6 pl h7 lp h8
        have hpn : ∀ p ∈ (I, io) :: (wd, ow) :: (L' + 1 + 1 + 1 + 1 + 1, o5) :: (L' + 1 + 1 + 1 + 1, o4n) :: (L' + 1 + 1 + 1, o3n) :: (L' + 1 + 1, o2n) :: (L' + 1, o1) :: (nd, on) :: (D, oD) :: (lr, listOf (List.toArray rs.reverse) 0) :: tl₁, p.1 ≠ pl := fun p hp => Nat.ne_of_lt (ktn_ltOf (l := (I, io) :: (wd, ow) :: (L' + 1 + 1 + 1 + 1 + 1, o5) :: (L' + 1 + 1 + 1 + 1, o4n) :: (L' + 1 + 1 + 1, o3n) :: (L' + 1 + 1, o2n) :: (L' + 1, o1) :: (nd, on) :: (D, oD) :: (lr, listOf (List.toArray rs.reverse) 0) :: tl₁) lp p hp)
        k_dflt refine' For_invV s.heap ?g1 ?g2 ?g3 ?g4 ?g5
        case g1 => exact rfl
        case g2 => exact rfl
        case g4 => exact fun _ => rfl
        case g5 => passes_own
        case g3 =>
          k_fold
          walk_at "my steps"
          have hq6 := hq.at fun o e => F6.keep _ _ e
          obtain ⟨qo, hqo, _⟩ := id hq
          have hxl := hxs.length
          k_dflt refine' iter_list (PJ L' nd D wd lr I on oD o1 o2n o3n o4n o5 ow (listOf (List.toArray rs.reverse) 0) io pl [a0, a1, a2] (wholeT [a0, a1, a2] (R.reverse.take i)) r.2 tl₁) rfl hq6 F6 N6 ?i0 ?i1 (.inl ⟨qo, hqo⟩) ?i2 ?i3
          case i0 => exact Nat.ne_of_lt (by rw [hL']; exact Heap.lt_size hqo)
          case i1 => exact ⟨[], 0, ⟨rfl, rfl, trivial⟩, rfl, .nil, Nat.le_refl _⟩
          case i2 =>
            clear F6 N6 hq6
            rintro j v m₂ nx h9 tk9 I2 io2 hvj ⟨ps, c, H, rfl, hP, hpl⟩ hsep2 F₉ N₉
            obtain ⟨x, tx, hxj, rfl⟩ := ints_get hxs j v hvj
            have hjl : j < 2 := by have := (List.getElem?_eq_some_iff.mp hxj).1; omega
            replace F₉ := H.frX F₉
            clear H
            dsimp only [kstB] at F₉
            (try dsimp only); (try k_fold)
            walk_at "my steps"
            rcases hWh x with ⟨hx0, hw0⟩ | ⟨vx, Tx, hx0, hw0, hTx⟩
            · k_dflt (refine' kda_in (knd := intKind prog w) (k := x) N₉ (by walk_at "mm") how lowd (intKind_is _ _ _ _) false (by rw [hx0]; rfl) ?_; k_whole)
              change Fr s.heap L' h9 _ at F₉
              change News s.heap L' h9 _ at N₉
              have hNm : Nm x := by
                rcases hrx x (List.mem_of_getElem? hxj) with h | h
                · exact absurd hw0 h
                · exact h
              obtain ⟨tq, hnq⟩ := nameS_at (q0 := q0) (q1 := q1) (q2 := q2) (q3 := q3) (q4 := q4) hNm
              have hnl := nameOf_len x
              (try dsimp only); (try k_fold)
              walk_at "my steps"
              k_dflt refine' compL_str (h₀ := s.heap) (L := L') (z := nameS x) ?l1 ?l2 ?l3 ?l4 ?l5 (fun d us nx => nx = (I2, io2) :: (pl, listOf (List.toArray ps) c) :: (I, io) :: (wd, ow) :: (L' + 1 + 1 + 1 + 1 + 1, o5) :: (L' + 1 + 1 + 1 + 1, o4n) :: (L' + 1 + 1 + 1, o3n) :: (L' + 1 + 1, o2n) :: (L' + 1, o1) :: (nd, on) :: (D, oD) :: (lr, listOf (List.toArray rs.reverse) 0) :: tl₁ ∧ PL tl₁ us (((nameOf x).take d).map fun c => singT c [a0, a1, a2])) ?l6 rfl ?lt ?ld ?lh ?ls
              case l1 => exact rfl
              case l2 => decide
              case l3 => exact rfl
              case l4 => decide
              case l5 => exact rfl
              case l6 => show (nameOf x).toArray.size ≤ 1000; rw [List.size_toArray]; omega
              case ls => exact fun _ => rfl
              case lh =>
                (try k_fold)
                walk_at "my steps"
                k_dflt (refine' kda_item (knd := intKind prog w) (k := x) N₉ (by walk_at "mm") hnd' (intKind_is _ _ _ _) hnq ?_; k_whole)
                exact SrcSt.intro F₉ N₉ ⟨rfl, .nil⟩
              case ld =>
                rintro D3 us nx h3 tk3 ⟨rfl, hu⟩ F5 N5 hne3
                clear F₉ N₉
                (try dsimp only)
                (try k_fold)
                walk_at "my steps"
                dsimp only [qk]
                have hul : us.length = (nameOf x).length := by
                  have := hu.1
                  rw [show (nameS x).cps.size = (nameOf x).length from List.size_toArray .., List.take_of_length_le (Nat.le_refl _), List.length_map] at this
                  exact this
                k_dflt (refine' kl_extend2 (xs := ps) (ys := us) (n := c) (c := us.length) (tl := (D3, LCg.lst us) :: (I2, io2) :: (I, io) :: (wd, ow) :: (L' + 1 + 1 + 1 + 1 + 1, o5) :: (L' + 1 + 1 + 1 + 1, o4n) :: (L' + 1 + 1 + 1, o3n) :: (L' + 1 + 1, o2n) :: (L' + 1, o1) :: (nd, on) :: (D, oD) :: (lr, listOf (List.toArray rs.reverse) 0) :: tl₁) ?pF ?pN ?p1 (.head _) (by omega) (by omega) ?_; (case pF => exact F5); (case pN => exact news_sub N5 (fun z hz => by revert z; walk_at "sub")); (case p1 => exact all_cons (Ne.symm (hne3 _ (.tail _ (.head _)))) (all_cons (Ne.symm (hsep2 _ (.head _))) hpn)); k_whole)
                clear F5 N5
                intro h11 F11 N11
                (try dsimp only); (try k_fold)
                walk_at "my steps"
                refine ⟨_, _, _, (pl, listOf (List.toArray (ps ++ us)) (c + 1)) :: (I, io) :: (wd, ow) :: (L' + 1 + 1 + 1 + 1 + 1, o5) :: (L' + 1 + 1 + 1 + 1, o4n) :: (L' + 1 + 1 + 1, o3n) :: (L' + 1 + 1, o2n) :: (L' + 1, o1) :: (nd, on) :: (D, oD) :: (lr, listOf (List.toArray rs.reverse) 0) :: tl₁, rfl, F11, news_sub N11 (fun z hz => by revert z; walk_at "sub"), all_cons (show pl ≠ I2 from hsep2 _ (.head _)) (fun p hp => hsep2 p (.tail _ hp)), ps ++ us, _, ⟨rfl, rfl, trivial⟩, rfl, ?_, ?_⟩
                · have hu' := hu
                  rw [show (nameS x).cps.size = (nameOf x).length from List.size_toArray .., List.take_of_length_le (Nat.le_refl _)] at hu'
                  rw [List.take_add_one, hxj]
                  have e : partsOf [a0, a1, a2] (wholeT [a0, a1, a2] (R.reverse.take i)) (r.2.take j ++ (some x).toList) = partsOf [a0, a1, a2] (wholeT [a0, a1, a2] (R.reverse.take i)) (r.2.take j) ++ (nameOf x).map fun c => singT c [a0, a1, a2] := by
                    simp [partsOf, hw0]
                  rw [e]
                  exact hP.app hu'
                · rw [List.length_append]; omega
              case lt =>
                rintro d v I3 oI3 C3 oC3 D3 m₃ us nx s₁ E3 hd3 ⟨cc, t3, hx3, rfl⟩ ⟨rfl, hu⟩ hoC3 hm₃ F5 N5 hoff3 hne3 hs3
                clear F₉ N₉
                simp only [List.cons_append, List.nil_append] at N5
                have hcc : (nameOf x)[d]? = some cc := by simpa [nameS] using hx3
                obtain ⟨vc, hvc, hTc⟩ := sing_get hS (nameOf_mem (List.mem_of_getElem? hcc))
                (try k_fold)
                walk_at "my steps"
                k_dflt (refine' kda_item (knd := strKind prog w) (k := Str.mk #[cc]) N5 (by walk_at "mm") hoD (strKind_is _ _ _ _) hvc ?_; k_whole)
                refine CEnd.intro F5 N5 _ (fun p hp => hp) hoff3 ⟨rfl, ?_⟩
                rw [List.take_add_one, hcc, List.map_append]
                exact hu.app (.one (hTc.mono hsub))
            · k_dflt (refine' kda_in (knd := intKind prog w) (k := x) N₉ (by walk_at "mm") how lowd (intKind_is _ _ _ _) true (by rw [hx0]; rfl) ?_; k_whole)
              change Fr s.heap L' h9 _ at F₉
              change News s.heap L' h9 _ at N₉
              (try dsimp only); (try k_fold)
              walk_at "my steps"
              k_dflt (refine' kda_item (knd := intKind prog w) (k := x) N₉ (by walk_at "mm") how (intKind_is _ _ _ _) hx0 ?_; k_whole)
              (try dsimp only); (try k_fold)
              walk_at "my steps"
              k_dflt (refine' append_K ?pF ?pN ?p1 ?_ ?p2; (case pF => exact F₉); (case pN => exact (news_sub (B := (pl, listOf (List.toArray ps) c) :: (I2, io2) :: (I, io) :: (wd, ow) :: (L' + 1 + 1 + 1 + 1 + 1, o5) :: (L' + 1 + 1 + 1 + 1, o4n) :: (L' + 1 + 1 + 1, o3n) :: (L' + 1 + 1, o2n) :: (L' + 1, o1) :: (nd, on) :: (D, oD) :: (lr, listOf (List.toArray rs.reverse) 0) :: tl₁) N₉ (fun z hz => by revert z; walk_at "sub"))); (case p1 => exact .head (all_cons (Ne.symm (hsep2 _ (.head _))) hpn)); (case p2 => (rw [sizeLine_eq]; simp only [List.size_toArray]; omega)); k_whole)
              clear F₉ N₉
              intro h11 F11 N11
              (try simp only [List.push_toArray] at N11)
              (try dsimp only); (try k_fold)
              walk_at "my steps"
              refine ⟨_, _, _, (pl, listOf (List.toArray (ps ++ [vx])) (c + 1)) :: (I, io) :: (wd, ow) :: (L' + 1 + 1 + 1 + 1 + 1, o5) :: (L' + 1 + 1 + 1 + 1, o4n) :: (L' + 1 + 1 + 1, o3n) :: (L' + 1 + 1, o2n) :: (L' + 1, o1) :: (nd, on) :: (D, oD) :: (lr, listOf (List.toArray rs.reverse) 0) :: tl₁, rfl, F11, news_sub N11 (fun z hz => by revert z; walk_at "sub"), all_cons (show pl ≠ I2 from hsep2 _ (.head _)) (fun p hp => hsep2 p (.tail _ hp)), ps ++ [vx], _, ⟨rfl, rfl, trivial⟩, rfl, ?_, ?_⟩
              · rw [List.take_add_one, hxj]
                have e : partsOf [a0, a1, a2] (wholeT [a0, a1, a2] (R.reverse.take i)) (r.2.take j ++ (some x).toList) = partsOf [a0, a1, a2] (wholeT [a0, a1, a2] (R.reverse.take i)) (r.2.take j) ++ [Tx] := by
                  simp [partsOf, hw0]
                rw [e]
                exact hP.app (.one hTx)
              · rw [List.length_append, List.length_singleton]; omega
          case i3 =>
            clear F6 N6 hq6
            rintro m₂ nx h9 tk9 ⟨ps, c, H, rfl, hP, hpl⟩ F₉ N₉
            replace F₉ := H.fr F₉
            clear H
            dsimp only [kstB] at F₉
            (try dsimp only); (try k_fold)
            walk_at "my steps5"
            rw [show r.2.take xs.length = r.2 from List.take_of_length_le (by omega)] at hP
            change Fr s.heap L' h9 _ at F₉
            change News s.heap L' h9 _ at N₉
            have hIpl : @Ne Nat I pl := hpn _ (.head _)
            have hsp : SepT L' wd I pl tl₁ := ⟨hCt, hwt, fun p hp => hsep p (by first | walk_at "mem" | simp [hp]), fun p hp => hpn p (by first | walk_at "mem" | simp [hp])⟩
            have hi1 := hsp.2.2.1
            have hi2 := hsp.2.2.2
            have hpl5 : @Ne Nat pl (L' + 1 + 1 + 1 + 1 + 1) := Ne.symm (hpn (_, o5) (by walk_at "mm"))
            k_dflt refine' execs_cut (h₀ := s.heap) (L := L') [_] _ (fun m nx => ∃ o5' v tl₂, Has m [(Str.ofString "parts", .ref pl), (Str.ofString "names", .ref nd)] ∧ nx = (pl, listOf (List.toArray ps) c) :: (I, io) :: (wd, ow) :: (L' + 1 + 1 + 1 + 1 + 1, o5') :: (L' + 1 + 1 + 1 + 1, o4n) :: (L' + 1 + 1 + 1, o3n) :: (L' + 1 + 1, o2n) :: (L' + 1, o1) :: (nd, on) :: (D, oD) :: (lr, listOf (List.toArray rs.reverse) 0) :: tl₂ ∧
              o5'.data = .cell (some v) ∧ TabL tl₂ v (headT (partsOf [a0, a1, a2] (wholeT [a0, a1, a2] (R.reverse.take i)) r.2)) ∧ SepT L' wd I pl tl₂ ∧ ∀ p ∈ tl₁, p ∈ tl₂) ?e1 ?e2
            case e1 =>
              (try k_fold)
              walk_at "my steps"
              rename Fr _ _ _ _ => F7
              rename News _ _ _ _ => N7
              generalize hPs : partsOf [a0, a1, a2] (wholeT [a0, a1, a2] (R.reverse.take i)) r.2 = Ps at hP ⊢
              cases ps with
              | nil =>
                k_dflt (refine' ne_nilE ?n1 ?n2 ?n3 ?_; (case n1 => exact isl (vs := []) (N7 (pl, listOf (List.toArray []) c) (by walk_at "mm")).1); (case n2 => exact isl (vs := []) (N7 _ (.head _)).1); (case n3 => ktr_units); k_whole)
                (try dsimp only); (try k_fold)
                walk_at "my steps"
                obtain ⟨led, hled⟩ : ∃ led, led = (pl, listOf (List.toArray ([] : List Value)) c) :: (I, io) :: (wd, ow) :: (L' + 1 + 1 + 1 + 1 + 1, o5) :: (L' + 1 + 1 + 1 + 1, o4n) :: (L' + 1 + 1 + 1, o3n) :: (L' + 1 + 1, o2n) :: (L' + 1, o1) :: (nd, on) :: (D, oD) :: (lr, listOf (List.toArray rs.reverse) 0) :: tl₁ := ⟨_, rfl⟩
                replace N7 := news_sub (B := led) N7 (fun z hz => .tail _ (hled ▸ hz))
                k_dflt refine' compC_range (h₀ := s.heap) (L := L') (m := fun z => if z = Str.ofString "parts" then some (.ref pl) else if z = Str.ofString "names" then some (.ref nd) else m₂ z) (n := 4) ?v1 ?v2 ?v3 ?v4 ?v5 ?v6 (fun i ys nx => ∃ tlr, nx = tlr ++ led ∧ RowsL tlr ys zeroT i ∧ SepL tlr led) (by omega) rfl ?vt ?vd ?vh ?vs
                case v1 => exact rfl
                case v2 => exact fun _ => rfl
                case v3 => exact fun _ => rfl
                case v4 => exact rfl
                case v5 => decide
                case v6 => exact rfl
                case vs => exact fun _ => rfl
                case vh =>
                  (try k_fold)
                  walk_at "my steps"
                  exact SrcRg.intro (by assumption) (by assumption) (by assumption) (by omega) ⟨[], rfl, ⟨rfl, fun i hi => by omega⟩, fun _ q => absurd q List.not_mem_nil⟩
                case vd =>
                  rintro D8 ys nx h10 tk10 ⟨tlr, rfl, hrows, hsl⟩ F8 N8 hne8
                  clear F7 N7
                  subst hled
                  have hmk : ∀ (q : Addr × Obj), q ∈ (pl, listOf (List.toArray ([] : List Value)) c) :: (I, io) :: (wd, ow) :: (L' + 1 + 1 + 1 + 1 + 1, o5) :: (L' + 1 + 1 + 1 + 1, o4n) :: (L' + 1 + 1 + 1, o3n) :: (L' + 1 + 1, o2n) :: (L' + 1, o1) :: (nd, on) :: (D, oD) :: (lr, listOf (List.toArray rs.reverse) 0) :: tl₁ → (D8 ≠ q.1 ∧ ∀ p ∈ tlr, p.1 ≠ q.1) := fun q hq => ⟨Ne.symm (hne8 q (List.mem_append_right _ hq)), fun p hp => hsl p hp q hq⟩
                  have hofD : OffC L' ((D8, LCg.lst ys) :: (tlr ++ tl₁)) := by
                    refine OffC.cons ⟨(hmk (_, o1) (by walk_at "mm")).1, (hmk (_, o2n) (by walk_at "mm")).1, (hmk (_, o3n) (by walk_at "mm")).1, (hmk (_, o4n) (by walk_at "mm")).1, (hmk (_, o5) (by walk_at "mm")).1⟩ (OffC.app (fun p hp => ?_) hCt)
                    exact ⟨(hmk (_, o1) (by walk_at "mm")).2 p hp, (hmk (_, o2n) (by walk_at "mm")).2 p hp, (hmk (_, o3n) (by walk_at "mm")).2 p hp, (hmk (_, o4n) (by walk_at "mm")).2 p hp, (hmk (_, o5) (by walk_at "mm")).2 p hp⟩
                  have hap : ∀ (x : Nat), (∀ p ∈ tlr, p.1 ≠ x) → (∀ p ∈ tl₁, p.1 ≠ x) → ∀ p ∈ tlr ++ tl₁, p.1 ≠ x := fun x h1 h2 p hp => (List.mem_append.mp hp).elim (h1 p) (h2 p)
                  have hspD : SepT L' wd I pl ((D8, LCg.lst ys) :: (tlr ++ tl₁)) := ⟨hofD, all_cons (hmk (wd, ow) (by walk_at "mm")).1 (hap _ (hmk (wd, ow) (by walk_at "mm")).2 hwt), all_cons (hmk (I, io) (by walk_at "mm")).1 (hap _ (hmk (I, io) (by walk_at "mm")).2 hi1), all_cons (hmk (pl, listOf (List.toArray ([] : List Value)) c) (by walk_at "mm")).1 (hap _ (hmk (pl, listOf (List.toArray ([] : List Value)) c) (by walk_at "mm")).2 hi2)⟩
                  have hT8 : TabL ((D8, LCg.lst ys) :: (tlr ++ tl₁)) (.ref D8) zeroT := ⟨D8, ys, _, rfl, .head _, hrows.1, fun i hi => by
                    obtain ⟨r, xs, c', e1, e2, e3⟩ := hrows.2 i hi
                    exact ⟨r, xs, c', e1, .tail _ (List.mem_append_left _ e2), e3⟩⟩
                  have hD8 : @Ne Nat D8 (L' + 1 + 1 + 1 + 1 + 1) := (hmk (_, o5) (by walk_at "mm")).1
                  have htt : ∀ p ∈ tlr ++ tl₁, p.1 ≠ L' + 1 + 1 + 1 + 1 + 1 := hap _ (hmk (_, o5) (by walk_at "mm")).2 hc5
                  have N9 : News s.heap L' h10 ((L' + 1 + 1 + 1 + 1 + 1, o5) :: (D8, LCg.lst ys) :: (pl, listOf (List.toArray ([] : List Value)) c) :: (I, io) :: (wd, ow) :: (L' + 1 + 1 + 1 + 1, o4n) :: (L' + 1 + 1 + 1, o3n) :: (L' + 1 + 1, o2n) :: (L' + 1, o1) :: (nd, on) :: (D, oD) :: (lr, listOf (List.toArray rs.reverse) 0) :: (tlr ++ tl₁)) := by
                    refine news_sub N8 (fun z hz => ?_)
                    revert z; walk_at "sub"
                  clear N8
                  (try dsimp only); (try k_fold)
                  walk_at "my steps"
                  rename Fr _ _ _ _ => F10
                  rename News _ _ _ _ => N10
                  rename Obj.data _ = Data.cell (some (.ref D8)) => hd5n
                  refine CutEnd.intro F10 ?_ ⟨_, .ref D8, (D8, LCg.lst ys) :: (tlr ++ tl₁), ⟨rfl, rfl, trivial⟩, rfl, hd5n, ?_, hspD, fun p hp => .tail _ (List.mem_append_right _ hp)⟩
                  · exact news_sub N10 (fun z hz => by revert z; walk_at "sub")
                  · rw [hPs]
                    have : Ps = [] := List.length_eq_zero_iff.mp hP.1.symm
                    subst this
                    exact hT8
                case vt =>
                  rintro i' t8 I8 oI8 C8 oC8 c8 oc8 D8 ys nx s₁ E' hi' ⟨tlr, rfl, hrows, hsl⟩ hoc8 F8 N8 hoff8 hne8 hyl8 hs8
                  clear F7 N7
                  simp only [List.cons_append, List.nil_append] at N8
                  (try k_fold)
                  k_dflt refine' compL_range (n := 4) (a := 0) F8 ?u1 ?u2 ?u3 ?u4 ?u5 (fun j zs nx => nx = (I8, oI8) :: (C8, oC8) :: (c8, oc8) :: (D8, LCg.lst ys) :: (tlr ++ led) ∧ IntsAre zs ((rowOf zeroT i').take j)) (by omega) (by omega) (by omega) rfl ?ut ?ud ?uh ?us
                  case u1 => exact rfl
                  case u2 => decide
                  case u3 => exact rfl
                  case u4 => decide
                  case u5 => exact rfl
                  case us => exact fun _ => rfl
                  case uh =>
                    (try k_fold)
                    walk_at "my steps"
                    exact SrcRg.intro (by assumption) (by assumption) (by assumption) (by omega) ⟨rfl, .nil⟩
                  case ud =>
                    rintro D9 zs nx h11 tk11 ⟨rfl, hz⟩ F9 N9 hne9
                    rw [List.take_of_length_le (by rw [rowOf_len]; omega)] at hz
                    exact row_end2 F9 N9 hz hoff8 hne9 hrows hsl
                  case ut =>
                    rintro j v I9 oI9 C9 oC9 D9 m₃ zs nx s₂ E2 hj ⟨tj, rfl⟩ ⟨rfl, hz⟩ hoC9 hm₃ F9 N9 hoff9 hne9 hs9
                    simp only [List.cons_append, List.nil_append] at N9
                    clear F8 N8
                    (try k_fold)
                    walk_at "my steps"
                    refine CEnd.intro (by assumption) (by assumption) _ (fun p hp => hp) hoff9 ⟨rfl, ?_⟩
                    rw [take_row hj]
                    refine IntsAre.append hz ?_
                    have e : (2 : Int) * (0 + (j : Int) - (i' : Int)) = zeroT i' j := by simp [zeroT]
                    rw [← e]
                    exact .cons _ _ .nil
              | cons p0 ps =>
                k_dflt (refine' ne_cons (xs := ps) (x := p0) ?n1 ?n2 ?n3 ?_; (case n1 => exact isl (N7 (pl, listOf (List.toArray (p0 :: ps)) c) (by walk_at "mm")).1); (case n2 => exact isl (vs := []) (N7 _ (.head _)).1); (case n3 => ktr_units); k_whole)
                (try dsimp only); (try k_fold)
                walk_at "my steps"
                have hP0 : ∃ P0 Pr, Ps = P0 :: Pr := by
                  cases Ps with
                  | nil => have := hP.1; simp at this
                  | cons P0 Pr => exact ⟨P0, Pr, rfl⟩
                obtain ⟨P0, Pr, rfl⟩ := hP0
                obtain ⟨vv, hv0, hvT⟩ := hP.2 0 P0 rfl
                obtain rfl : p0 = vv := by simpa using hv0
                k_dflt (refine' item_any (vs := p0 :: ps) (isl (N7 (pl, listOf (List.toArray (p0 :: ps)) c) (by walk_at "mm")).1) (by decide) (by decide) rfl ?_; k_whole)
                (try dsimp only); (try k_fold)
                walk_at "my steps"
                rename Fr _ _ _ _ => F8
                rename News _ _ _ _ => N8
                rename Obj.data _ = Data.cell (some p0) => hd5n
                refine CutEnd.intro F8 ?_ ⟨_, p0, tl₁, ⟨rfl, rfl, trivial⟩, rfl, hd5n, ?_, hsp, fun _ h => h⟩
                · exact news_sub N8 (fun z hz => by revert z; walk_at "sub")
                · rw [hPs]; exact hvT
            case e2 =>
              clear F₉ N₉
              rintro h10 tk10 m₃ news₃ F₁₀ N₁₀ ⟨o5', v5', tl₂, H, rfl, h5d', hT5, hsp2, hsub2⟩
              replace F₁₀ := H.fr F₁₀
              clear H
              dsimp only [kstB] at F₁₀
              generalize hPs : partsOf [a0, a1, a2] (wholeT [a0, a1, a2] (R.reverse.take i)) r.2 = Ps at hP hT5
              (try dsimp only); (try k_fold)
              k_dflt refine' execs_cut (h₀ := s.heap) (L := L') [_] _ (fun m nx => ∃ o5' v tl₃, Has m [(Str.ofString "names", .ref nd)] ∧ nx = (I, io) :: (wd, ow) :: (L' + 1 + 1 + 1 + 1 + 1, o5') :: (L' + 1 + 1 + 1 + 1, o4n) :: (L' + 1 + 1 + 1, o3n) :: (L' + 1 + 1, o2n) :: (L' + 1, o1) :: (nd, on) :: (D, oD) :: (lr, listOf (List.toArray rs.reverse) 0) :: tl₃ ∧
                o5'.data = .cell (some v) ∧ TabL tl₃ v (bodyT Ps) ∧ SepT L' wd I I tl₃ ∧ ∀ p ∈ tl₁, p ∈ tl₃) ?e3 ?e4
              case e3 =>
                (try k_fold)
                walk_at "my steps"
                k_dflt refine' For_invV s.heap ?j1 ?j2 ?j3 ?j4 ?j5
                case j1 => exact rfl
                case j2 => exact rfl
                case j4 => exact fun _ => rfl
                case j5 => passes_own
                case j3 =>
                  k_fold
                  walk_at "my steps7"
                  rename Fr _ _ _ _ => F11
                  rename News _ _ _ _ => N11
                  rw [pick1] at N11
                  dsimp only at N11
                  have hq0 : ∀ p ∈ (pl, listOf (List.toArray ps) c) :: (I, io) :: (wd, ow) :: (L' + 1 + 1 + 1 + 1 + 1, o5') :: (L' + 1 + 1 + 1 + 1, o4n) :: (L' + 1 + 1 + 1, o3n) :: (L' + 1 + 1, o2n) :: (L' + 1, o1) :: (nd, on) :: (D, oD) :: (lr, listOf (List.toArray rs.reverse) 0) :: tl₂, p.1 ≠ h10.objs.size + 1 := fun p hp => Nat.ne_of_lt (Nat.lt_succ_of_lt (Heap.lt_size (N₁₀ p hp).1))
                  have hLq : h10.objs.size + 1 ≠ L' := Nat.ne_of_gt (Nat.lt_succ_of_lt F₁₀.ns.lt)
                  dsimp only [qk]
                  generalize h10.objs.size + 1 = lq at N11 hq0 hLq ⊢
                  have hlq5 : @Ne Nat lq (L' + 1 + 1 + 1 + 1 + 1) := Ne.symm (hq0 (_, o5') (by walk_at "mm"))
                  k_dflt refine' iter_list (QJ L' nd D wd lr I lq on oD o1 o2n o3n o4n ow (listOf (List.toArray rs.reverse) 0) io (listOf (List.toArray (ps.drop 1)) 0) Ps tl₁) rfl (isl (N11 _ (.head _)).1) F11 (news_sub (B := (lq, listOf (List.toArray (ps.drop 1)) 0) :: (I, io) :: (wd, ow) :: (L' + 1 + 1 + 1 + 1 + 1, o5') :: (L' + 1 + 1 + 1 + 1, o4n) :: (L' + 1 + 1 + 1, o3n) :: (L' + 1 + 1, o2n) :: (L' + 1, o1) :: (nd, on) :: (D, oD) :: (lr, listOf (List.toArray rs.reverse) 0) :: tl₂) N11 (fun z hz => by revert z; walk_at "sub")) ?i4 ?i5 (.inr ⟨listOf (List.toArray (ps.drop 1)) 0, ?i6⟩) ?i7 ?i8
                  case i4 => exact hLq
                  case i5 => exact ⟨o5', v5', tl₂, ⟨rfl, trivial⟩, rfl, h5d', hT5, ⟨hsp2.1, hsp2.2.1, hsp2.2.2.1, fun p hp => hq0 p (by first | walk_at "mem" | simp [hp])⟩, hsub2⟩
                  case i6 =>
                    rintro j m nx ⟨_, _, _, _, rfl, _⟩
                    exact .head _
                  case i7 =>
                    clear F11 N11
                    rintro j v m₅ nx h13 tk13 I3 io3 hvj ⟨o5'', v5'', tl₄, H, rfl, h5d'', hT'', hsp4, hsub4⟩ hsep3 F₁₃ N₁₃
                    replace F₁₃ := H.frX F₁₃
                    clear H
                    dsimp only [kstB] at F₁₃
                    change Fr s.heap L' h13 _ at F₁₃
                    change News s.heap L' h13 _ at N₁₃
                    have hvj' : ps[j + 1]? = some v := by rw [List.getElem?_drop] at hvj; rw [Nat.add_comm]; exact hvj
                    obtain ⟨Tj, hTj⟩ : ∃ T, Ps[j + 1]? = some T := ⟨_, List.getElem?_eq_getElem (by rw [← hP.1]; exact (List.getElem?_eq_some_iff.mp hvj').1)⟩
                    obtain ⟨vv, hvv, hTv⟩ := hP.2 _ _ hTj
                    obtain rfl : v = vv := Option.some.inj (hvj'.symm.trans hvv)
                    (try dsimp only); (try k_fold)
                    walk_at "my steps"
                    k_dflt (refine' Con.use (con_joined _ v5'' v _ Tj (hT''.heap fun p hp => (N₁₃ p (by first | walk_at "mem" | simp [hp])).1) ((hTv.mono hsub4).heap fun p hp => (N₁₃ p (by first | walk_at "mem" | simp [hp])).1)) rfl ?x1 ?x2 ?x3 ?x4 ?x5 ?xd ?xu ?x6 ?_); k_dflt ((case x1 => k_asm); (case x2 => exact F₁₃); (case x3 => k_asm); (case x4 => k_asm); (case x5 => first | exact rfl | assumption); (case xd => ktr_room); (case xu => ktr_units); (case x6 => exact N₁₃); k_whole)
                    intro r9 h9 tk9 st9 F9 N9 hp9
                    obtain ⟨tl5, hM, hTn⟩ := hp9
                    have N10 := made_news F₁₃ N9 hM
                    have hofc : OffC L' tl5 := OffC.made (o1 := o1) (o2 := o2n) (o3 := o3n) (o4 := o4n) (o5 := o5'') N₁₃ hM (by walk_at "mm") (by walk_at "mm") (by walk_at "mm") (by walk_at "mm") (by walk_at "mm")
                    have hap : ∀ (x : Nat), (∀ p ∈ tl5, p.1 ≠ x) → (∀ p ∈ tl₄, p.1 ≠ x) → ∀ p ∈ tl5 ++ tl₄, p.1 ≠ x := fun x h1 h2 p hp => (List.mem_append.mp hp).elim (h1 p) (h2 p)
                    have htt : ∀ p ∈ tl5 ++ tl₄, p.1 ≠ L' + 1 + 1 + 1 + 1 + 1 := hap _ (fun p hp => (hofc p hp).2.2.2.2) (fun p hp => (hsp4.1 p hp).2.2.2.2)
                    have hmI3 : ∀ p ∈ tl5, p.1 ≠ I3 := made_sep (q := (I3, io3)) N₁₃ hM (by walk_at "mm")
                    have hmw : ∀ p ∈ tl5, p.1 ≠ wd := made_sep (q := (wd, ow)) N₁₃ hM (by walk_at "mm")
                    have hmI : ∀ p ∈ tl5, p.1 ≠ I := made_sep (q := (I, io)) N₁₃ hM (by walk_at "mm")
                    have hmq : ∀ p ∈ tl5, p.1 ≠ lq := made_sep (q := (lq, listOf (List.toArray (ps.drop 1)) 0)) N₁₃ hM (by walk_at "mm")
                    have hI3 : @Ne Nat I3 (L' + 1 + 1 + 1 + 1 + 1) := Ne.symm (hsep3 (_, o5'') (by walk_at "mm"))
                    have N12 : News s.heap L' h9 ((L' + 1 + 1 + 1 + 1 + 1, o5'') :: (I3, io3) :: (lq, listOf (List.toArray (ps.drop 1)) 0) :: (I, io) :: (wd, ow) :: (L' + 1 + 1 + 1 + 1, o4n) :: (L' + 1 + 1 + 1, o3n) :: (L' + 1 + 1, o2n) :: (L' + 1, o1) :: (nd, on) :: (D, oD) :: (lr, listOf (List.toArray rs.reverse) 0) :: (tl5 ++ tl₄)) := by
                      refine news_sub N10 (fun z hz => ?_)
                      revert z; walk_at "sub"
                    clear F₁₃ N₁₃ N10 N9
                    (try dsimp only); (try k_fold)
                    walk_at "my steps"
                    rename Fr _ _ _ _ => F14
                    rename News _ _ _ _ => N14
                    rename Obj.data _ = Data.cell (some r9) => hd5n
                    refine ⟨_, _, _, _, rfl, F14, ?_, ?_, _, r9, tl5 ++ tl₄, ⟨rfl, trivial⟩, rfl, hd5n, ?_, ?_, fun p hp => List.mem_append_right _ (hsub4 p hp)⟩
                    · exact news_sub N14 (fun z hz => by revert z; walk_at "sub")
                    · refine all_cons (show lq ≠ I3 from hsep3 _ (.head _)) (all_cons (show I ≠ I3 from hsep3 (_, io) (by walk_at "mm")) (all_cons (show wd ≠ I3 from hsep3 (_, ow) (by walk_at "mm")) (all_cons (show L' + 1 + 1 + 1 + 1 + 1 ≠ I3 from hsep3 (_, o5'') (by walk_at "mm")) fun p hp => ?_)))
                      simp only [List.mem_cons, List.mem_append] at hp
                      rcases hp with h | h | h | h | h | h | h | h | h
                      · exact hsep3 p (by first | walk_at "mem" | (subst h; walk_at "mem") | simp [h])
                      · exact hsep3 p (by first | walk_at "mem" | (subst h; walk_at "mem") | simp [h])
                      · exact hsep3 p (by first | walk_at "mem" | (subst h; walk_at "mem") | simp [h])
                      · exact hsep3 p (by first | walk_at "mem" | (subst h; walk_at "mem") | simp [h])
                      · exact hsep3 p (by first | walk_at "mem" | (subst h; walk_at "mem") | simp [h])
                      · exact hsep3 p (by first | walk_at "mem" | (subst h; walk_at "mem") | simp [h])
                      · exact hsep3 p (by first | walk_at "mem" | (subst h; walk_at "mem") | simp [h])
                      · exact hmI3 p h
                      · exact hsep3 p (by first | walk_at "mem" | (subst h; walk_at "mem") | simp [h])
                    · have hTj' : (Ps.drop 1)[j]? = some Tj := by rw [List.getElem?_drop, Nat.add_comm]; exact hTj
                      rw [List.take_add_one, hTj', Option.toList, List.foldl_append]
                      exact hTn.mono fun p hp => List.mem_append_left _ hp
                    · exact ⟨hofc.app hsp4.1, hap _ hmw hsp4.2.1, hap _ hmI hsp4.2.2.1, hap _ hmq hsp4.2.2.2⟩
                  case i8 =>
                    clear F11 N11
                    rintro m₅ nx h13 tk13 ⟨o5'', v5'', tl₄, H, rfl, h5d'', hT'', hsp4, hsub4⟩ F₁₃ N₁₃
                    replace F₁₃ := H.fr F₁₃
                    clear H
                    dsimp only [kstB] at F₁₃
                    change Fr s.heap L' h13 _ at F₁₃
                    change News s.heap L' h13 _ at N₁₃
                    have hdl : (Ps.drop 1).length ≤ (ps.drop 1).length := by rw [List.length_drop, List.length_drop, hP.1]; exact Nat.le_refl _
                    rw [show (Ps.drop 1).take (ps.drop 1).length = Ps.drop 1 from List.take_of_length_le hdl, ← bodyT_eq] at hT''
                    (try dsimp only); (try k_fold)
                    walk_at "my steps"
                    exact CutEnd.intro F₁₃ (news_sub N₁₃ (fun z hz => .tail _ hz)) ⟨o5'', v5'', tl₄, ⟨rfl, trivial⟩, rfl, h5d'', hT'', ⟨hsp4.1, hsp4.2.1, hsp4.2.2.1, hsp4.2.2.1⟩, hsub4⟩
              case e4 =>
                clear F₁₀ N₁₀
                rintro h12 tk12 m₄ news₄ F₁₂ N₁₂ ⟨o5', v5', tl₃, H, rfl, h5d', hT5, hsp3, hsub3⟩
                replace F₁₂ := H.fr F₁₂
                clear H
                dsimp only [kstB] at F₁₂
                (try dsimp only); (try k_fold)
                k_dflt refine' execs_cut (h₀ := s.heap) (L := L') [_] _ (fun m nx => ∃ o5' v tl₃, Has m [(Str.ofString "names", .ref nd)] ∧ nx = (I, io) :: (wd, ow) :: (L' + 1 + 1 + 1 + 1 + 1, o5') :: (L' + 1 + 1 + 1 + 1, o4n) :: (L' + 1 + 1 + 1, o3n) :: (L' + 1 + 1, o2n) :: (L' + 1, o1) :: (nd, on) :: (D, oD) :: (lr, listOf (List.toArray rs.reverse) 0) :: tl₃ ∧
                  o5'.data = .cell (some v) ∧ (∃ T', stepT [a0, a1, a2] (wholeT [a0, a1, a2] (R.reverse.take i)) r r.1 = some T' ∧ TabL tl₃ v T') ∧ SepT L' wd I I tl₃ ∧ ∀ p ∈ tl₁, p ∈ tl₃) ?e5 ?e6
                case e5 =>
                  (try k_fold)
                  walk_at "my steps"
                  rcases hWh r.1 with ⟨hx0, hw0⟩ | ⟨vx, Tx, hx0, hw0, hTx⟩
                  · k_dflt (refine' kda_in (knd := intKind prog w) (k := r.1) N₁₂ (by walk_at "mm") how lowd (intKind_is _ _ _ _) false (by rw [hx0]; rfl) ?_; k_whole)
                    (try dsimp only); (try k_fold)
                    walk_at "my steps"
                    exact CutEnd.intro F₁₂ N₁₂ ⟨o5', v5', tl₃, ⟨rfl, trivial⟩, rfl, h5d', ⟨_, by simp [stepT, hw0, hPs], hT5⟩, hsp3, hsub3⟩
                  · k_dflt (refine' kda_in (knd := intKind prog w) (k := r.1) N₁₂ (by walk_at "mm") how lowd (intKind_is _ _ _ _) true (by rw [hx0]; rfl) ?_; k_whole)
                    (try dsimp only); (try k_fold)
                    walk_at "my steps"
                    obtain ⟨a5, rs5, c5', rfl, hm5, hl5, hr5⟩ := hT5
                    obtain ⟨ax, rsx, cx, rfl, hmx, hlx, hrx'⟩ := hTx
                    obtain ⟨led, hled⟩ : ∃ led, led = (I, io) :: (wd, ow) :: (L' + 1 + 1 + 1 + 1 + 1, o5') :: (L' + 1 + 1 + 1 + 1, o4n) :: (L' + 1 + 1 + 1, o3n) :: (L' + 1 + 1, o2n) :: (L' + 1, o1) :: (nd, on) :: (D, oD) :: (lr, listOf (List.toArray rs.reverse) 0) :: tl₃ := ⟨_, rfl⟩
                    have N13 : News s.heap L' h12 led := hled ▸ N₁₂
                    k_dflt refine' wpAny_Assign_Name ?ba ?bb
                    case bb => with_unfolding_all rfl
                    case ba =>
                      k_dflt refine' compC_range (h₀ := s.heap) (L := L') (m := fun z => if z = Str.ofString "names" then some (.ref nd) else m₄ z) (n := 4) ?v1 ?v2 ?v3 ?v4 ?v5 ?v6 (fun i ys nx => ∃ tlr, nx = tlr ++ led ∧ RowsL tlr ys (fun i j => min (bodyT Ps i j) (Tx i j)) i ∧ SepL tlr led) (by omega) rfl ?vt ?vd ?vh ?vs
                      case v1 => exact rfl
                      case v2 => exact fun _ => rfl
                      case v3 => exact fun _ => rfl
                      case v4 => exact rfl
                      case v5 => decide
                      case v6 => exact rfl
                      case vs => exact fun _ => rfl
                      case vh =>
                        clear N₁₂
                        (try k_fold)
                        walk_at "my steps"
                        exact SrcRg.intro (by assumption) (by assumption) (by assumption) (by omega) ⟨[], rfl, ⟨rfl, fun i hi => by omega⟩, fun _ q => absurd q List.not_mem_nil⟩
                      case vd =>
                        rintro D8 ys nx h10 tk10 ⟨tlr, rfl, hrows, hsl⟩ F8 N8 hne8
                        clear F₁₂ N₁₂ N13
                        subst hled
                        have hmk : ∀ (q : Addr × Obj), q ∈ (I, io) :: (wd, ow) :: (L' + 1 + 1 + 1 + 1 + 1, o5') :: (L' + 1 + 1 + 1 + 1, o4n) :: (L' + 1 + 1 + 1, o3n) :: (L' + 1 + 1, o2n) :: (L' + 1, o1) :: (nd, on) :: (D, oD) :: (lr, listOf (List.toArray rs.reverse) 0) :: tl₃ → (D8 ≠ q.1 ∧ ∀ p ∈ tlr, p.1 ≠ q.1) := fun q hq => ⟨Ne.symm (hne8 q (List.mem_append_right _ hq)), fun p hp => hsl p hp q hq⟩
                        have hofD : OffC L' ((D8, LCg.lst ys) :: (tlr ++ tl₃)) := by
                          refine OffC.cons ⟨(hmk (_, o1) (by walk_at "mm")).1, (hmk (_, o2n) (by walk_at "mm")).1, (hmk (_, o3n) (by walk_at "mm")).1, (hmk (_, o4n) (by walk_at "mm")).1, (hmk (_, o5') (by walk_at "mm")).1⟩ (OffC.app (fun p hp => ?_) hsp3.1)
                          exact ⟨(hmk (_, o1) (by walk_at "mm")).2 p hp, (hmk (_, o2n) (by walk_at "mm")).2 p hp, (hmk (_, o3n) (by walk_at "mm")).2 p hp, (hmk (_, o4n) (by walk_at "mm")).2 p hp, (hmk (_, o5') (by walk_at "mm")).2 p hp⟩
                        have hap : ∀ (x : Nat), (∀ p ∈ tlr, p.1 ≠ x) → (∀ p ∈ tl₃, p.1 ≠ x) → ∀ p ∈ tlr ++ tl₃, p.1 ≠ x := fun x h1 h2 p hp => (List.mem_append.mp hp).elim (h1 p) (h2 p)
                        have hIn := all_cons (P := fun p => p.1 ≠ I) (q := (D8, LCg.lst ys)) (hmk (I, io) (by walk_at "mm")).1 (hap _ (hmk (I, io) (by walk_at "mm")).2 hsp3.2.2.1)
                        have hspD : SepT L' wd I I ((D8, LCg.lst ys) :: (tlr ++ tl₃)) := ⟨hofD, all_cons (hmk (wd, ow) (by walk_at "mm")).1 (hap _ (hmk (wd, ow) (by walk_at "mm")).2 hsp3.2.1), hIn, hIn⟩
                        have hT8 : TabL ((D8, LCg.lst ys) :: (tlr ++ tl₃)) (.ref D8) (fun i j => min (bodyT Ps i j) (Tx i j)) := ⟨D8, ys, _, rfl, .head _, hrows.1, fun i hi => by
                          obtain ⟨r, xs, c', e1, e2, e3⟩ := hrows.2 i hi
                          exact ⟨r, xs, c', e1, .tail _ (List.mem_append_left _ e2), e3⟩⟩
                        have hD8 : @Ne Nat D8 (L' + 1 + 1 + 1 + 1 + 1) := (hmk (_, o5') (by walk_at "mm")).1
                        have htt : ∀ p ∈ tlr ++ tl₃, p.1 ≠ L' + 1 + 1 + 1 + 1 + 1 := hap _ (hmk (_, o5') (by walk_at "mm")).2 (fun p hp => (hsp3.1 p hp).2.2.2.2)
                        have N9 : News s.heap L' h10 ((L' + 1 + 1 + 1 + 1 + 1, o5') :: (D8, LCg.lst ys) :: (I, io) :: (wd, ow) :: (L' + 1 + 1 + 1 + 1, o4n) :: (L' + 1 + 1 + 1, o3n) :: (L' + 1 + 1, o2n) :: (L' + 1, o1) :: (nd, on) :: (D, oD) :: (lr, listOf (List.toArray rs.reverse) 0) :: (tlr ++ tl₃)) := by
                          refine news_sub N8 (fun z hz => ?_)
                          revert z; walk_at "sub"
                        clear N8
                        (try dsimp only); (try k_fold)
                        walk_at "my steps"
                        rename Fr _ _ _ _ => F10
                        rename News _ _ _ _ => N10
                        rename Obj.data _ = Data.cell (some (.ref D8)) => hd5n
                        refine CutEnd.intro F10 ?_ ⟨_, .ref D8, (D8, LCg.lst ys) :: (tlr ++ tl₃), ⟨rfl, trivial⟩, rfl, hd5n, ⟨_, by simp only [stepT, if_pos, hw0, hPs], hT8⟩, hspD, fun p hp => .tail _ (List.mem_append_right _ (hsub3 p hp))⟩
                        exact news_sub N10 (fun z hz => by revert z; walk_at "sub")
                      case vt =>
                        rintro i' t8 I8 oI8 C8 oC8 c8 oc8 D8 ys nx s₁ E' hi' ⟨tlr, rfl, hrows, hsl⟩ hoc8 F8 N8 hoff8 hne8 hyl8 hs8
                        clear F₁₂ N₁₂ N13
                        simp only [List.cons_append, List.nil_append] at N8
                        (try k_fold)
                        k_dflt refine' compL_range (n := 4) (a := 0) F8 ?u1 ?u2 ?u3 ?u4 ?u5 (fun j zs nx => nx = (I8, oI8) :: (C8, oC8) :: (c8, oc8) :: (D8, LCg.lst ys) :: (tlr ++ led) ∧ IntsAre zs ((rowOf (fun i j => min (bodyT Ps i j) (Tx i j)) i').take j)) (by omega) (by omega) (by omega) rfl ?ut ?ud ?uh ?us
                        case u1 => exact rfl
                        case u2 => decide
                        case u3 => exact rfl
                        case u4 => decide
                        case u5 => exact rfl
                        case us => exact fun _ => rfl
                        case uh =>
                          (try k_fold)
                          walk_at "my steps"
                          exact SrcRg.intro (by assumption) (by assumption) (by assumption) (by omega) ⟨rfl, .nil⟩
                        case ud =>
                          rintro D9 zs nx h11 tk11 ⟨rfl, hz⟩ F9 N9 hne9
                          rw [List.take_of_length_le (by rw [rowOf_len]; omega)] at hz
                          exact row_end2 F9 N9 hz hoff8 hne9 hrows hsl
                        case ut =>
                          rintro j v I9 oI9 C9 oC9 D9 m₃ zs nx s₂ E2 hj ⟨tj, rfl⟩ ⟨rfl, hz⟩ hoC9 hm₃ F9 N9 hoff9 hne9 hs9
                          simp only [List.cons_append, List.nil_append] at N9
                          clear F8 N8
                          have N10 : News s.heap L' s₂.heap ((I9, oI9) :: (C9, oC9) :: (D9, LCg.lst zs) :: (I8, oI8) :: (C8, oC8) :: (c8, oc8) :: (D8, LCg.lst ys) :: (I, io) :: (wd, ow) :: (L' + 1 + 1 + 1 + 1 + 1, o5') :: (L' + 1 + 1 + 1 + 1, o4n) :: (L' + 1 + 1 + 1, o3n) :: (L' + 1 + 1, o2n) :: (L' + 1, o1) :: (nd, on) :: (D, oD) :: (lr, listOf (List.toArray rs.reverse) 0) :: (tlr ++ tl₃)) := by
                            refine news_sub N9 (fun z hz => ?_)
                            subst hled
                            revert z; walk_at "sub"
                          clear N9
                          obtain ⟨r1, xs1, c1', e11, e12, e13⟩ := hr5 i' hi'
                          obtain ⟨r2, xs2, c2', e21, e22, e23⟩ := hrx' i' hi'
                          obtain ⟨u1', e14⟩ := ints_at e13 j _ (row_at (bodyT Ps) i' j hj)
                          obtain ⟨u2', e24⟩ := ints_at e23 j _ (row_at Tx i' j hj)
                          have hjn : ((0 : Int) + (j : Int)).toNat = j := by omega
                          (try k_fold)
                          walk_at "my steps"
                          k_dflt (refine' item_any (vs := rs5) (isl (N10 (a5, listOf (List.toArray rs5) c5') (by first | walk_at "mem" | simp [hm5])).1) (by omega) (by omega) e11 ?_; k_whole)
                          (try dsimp only); (try k_fold)
                          walk_at "my steps"
                          k_dflt (refine' item_any (vs := xs1) (isl (N10 (r1, listOf (List.toArray xs1) c1') (by first | walk_at "mem" | simp [e12])).1) (by omega) (by omega) (by rw [hjn]; exact e14) ?_; k_whole)
                          (try dsimp only); (try k_fold)
                          walk_at "my steps"
                          k_dflt (refine' kda_item (knd := intKind prog w) (k := r.1) N10 (by walk_at "mm") how (intKind_is _ _ _ _) hx0 ?_; k_whole)
                          (try dsimp only); (try k_fold)
                          walk_at "my steps"
                          k_dflt (refine' item_any (vs := rsx) (isl (N10 (ax, listOf (List.toArray rsx) cx) (by simp [hsub3 _ hmx])).1) (by omega) (by omega) e21 ?_; k_whole)
                          (try dsimp only); (try k_fold)
                          walk_at "my steps"
                          k_dflt (refine' item_any (vs := xs2) (isl (N10 (r2, listOf (List.toArray xs2) c2') (by simp [hsub3 _ e22])).1) (by omega) (by omega) (by rw [hjn]; exact e24) ?_; k_whole)
                          (try dsimp only); (try k_fold)
                          walk_at "my steps"
                          refine CEnd.intro (by assumption) (by assumption) ((I8, oI8) :: (C8, oC8) :: (c8, oc8) :: (D8, LCg.lst ys) :: (tlr ++ led)) (fun z hz => ?_) hoff9 ⟨rfl, ?_⟩
                          · subst hled
                            revert z; walk_at "sub"
                          · rw [take_row hj]
                            refine IntsAre.append hz ?_
                            have e : (if Tx i' j < bodyT Ps i' j then Tx i' j else bodyT Ps i' j) = min (bodyT Ps i' j) (Tx i' j) := by split <;> omega
                            rw [e]
                            exact .cons _ _ .nil
                case e6 =>
                  clear F₁₂ N₁₂
                  rintro h14 tk14 m₅ news₅ F₁₄ N₁₄ ⟨o5', v5', tl₅, H, rfl, h5d', ⟨T', hT', hTL⟩, hsp5, hsub5⟩
                  replace F₁₄ := H.fr F₁₄
                  clear H
                  dsimp only [kstB] at F₁₄
                  (try dsimp only); (try k_fold)
                  walk_at "my steps"
                  k_dflt (refine' kda_set (knd := intKind prog w) (k := r.1) F₁₄ (news_sub (B := (wd, ow) :: (I, io) :: (L' + 1 + 1 + 1 + 1 + 1, o5') :: (L' + 1 + 1 + 1 + 1, o4n) :: (L' + 1 + 1 + 1, o3n) :: (L' + 1 + 1, o2n) :: (L' + 1, o1) :: (nd, on) :: (D, oD) :: (lr, listOf (List.toArray rs.reverse) 0) :: tl₅) N₁₄ (fun z hz => by revert z; walk_at "sub")) (.head (all_cons hIw (all_cons (Nat.ne_of_lt lw.2.2.1) (all_cons (Nat.ne_of_lt lw.2.2.2.1) (all_cons (Nat.ne_of_lt lw.2.2.2.2.1) (all_cons (Nat.ne_of_lt lw.2.2.2.2.2.1) (all_cons (Nat.ne_of_lt lw.2.2.2.2.2.2.1) (all_cons (Nat.ne_of_lt lw.1) (all_cons (Nat.ne_of_lt lw.2.1) (all_cons hlrw hsp5.2.1)))))))))) how (intKind_is _ _ _ _) ?ys ?_; (case ys => (rw [sizeLine_eq]; omega)); k_whole)
                  clear F₁₄ N₁₄
                  intro h15 o15 F15 N15 hod15
                  (try dsimp only); (try k_fold)
                  walk_at "my steps"
                  refine ⟨_, _, _, _, rfl, F15, ?_, ?_, o15, o5', o4n, _, _, stored kvs r.1 v5', tl₅, ⟨rfl, trivial⟩, rfl, h5d', hd4n, hod15, ?_, ?_, hsp5.1, hsp5.2.1, fun p hp => hsub5 p (hsub p hp)⟩
                  · exact news_sub N15 (fun z hz => by revert z; walk_at "sub")
                  · refine all_cons (show wd ≠ I from Ne.symm hIw) (all_cons (show L' + 1 + 1 + 1 + 1 + 1 ≠ I from Ne.symm hI5) (all_cons (show L' + 1 + 1 + 1 + 1 ≠ I from Ne.symm hI4) fun p hp => ?_))
                    simp only [List.mem_cons] at hp
                    rcases hp with h | h | h | h | h | h | h
                    · exact hsep p (by first | walk_at "mem" | (subst h; walk_at "mem") | simp [h])
                    · exact hsep p (by first | walk_at "mem" | (subst h; walk_at "mem") | simp [h])
                    · exact hsep p (by first | walk_at "mem" | (subst h; walk_at "mem") | simp [h])
                    · exact hsep p (by first | walk_at "mem" | (subst h; walk_at "mem") | simp [h])
                    · exact hsep p (by first | walk_at "mem" | (subst h; walk_at "mem") | simp [h])
                    · exact hsep p (by first | walk_at "mem" | (subst h; walk_at "mem") | simp [h])
                    · exact hsp5.2.2.1 p h
                  · have e1 : wholeT [a0, a1, a2] (R.reverse.take (i + 1)) = stepT [a0, a1, a2] (wholeT [a0, a1, a2] (R.reverse.take i)) r := by
                      rw [List.take_add_one, hri, Option.toList, wholeT, List.foldl_append]; rfl
                    rw [e1]
                    exact wh_step hWh hsub5 hT' hTL
                  · have := stored_length_le kvs r.1 v5'
                    omega
      case f5 =>
        rintro m₁ nx h4 tk4 ⟨ow, o5, o4, v5, v4, kvs, tl₁, H, rfl, h5d, h4d, how, hWh, hkl, hCt, hwt, hsub⟩ F₄ N₄
        replace F₄ := H.fr F₄
        clear H
        dsimp only [kstB] at F₄
        change Fr s.heap L' h4 _ at F₄
        change News s.heap L' h4 _ at N₄
        (try dsimp only); (try k_fold)
        walk_at "my steps"
        k_dflt refine' compL_list F₄ ?l1 ?l2 ?l3 ?l4 ?l5 rfl ?lh ?ls
        case l1 => exact rfl
        case l2 => decide
        case l3 => exact rfl
        case l4 => decide
        case l5 => exact rfl
        case ls => exact fun _ => rfl
        case lh =>
          (try k_fold)
          walk_at "my steps"
          rename Fr _ _ _ _ => F5
          rename News _ _ _ _ => N5
          rename_i l5 h5 ll5
          dsimp only [qk]
          have hWR : R.reverse.take rs.reverse.length = R.reverse := List.take_of_length_le (by rw [List.length_reverse]; omega)
          rw [hWR] at hWh
          refine ⟨l5, [.int 256 tk4, .int 257 (tk4 + 1), .int 258 (tk4 + 1 + 1)], _, (fun j ys nx => nx = (l5, listOf #[.int 256 tk4, .int 257 (tk4 + 1), .int 258 (tk4 + 1 + 1)] 0) :: (wd, ow) :: (L' + 1 + 1 + 1 + 1 + 1, o5) :: (L' + 1 + 1 + 1 + 1, o4) :: (L' + 1 + 1 + 1, o3n) :: (L' + 1 + 1, o2n) :: (L' + 1, o1) :: (nd, on) :: (D, oD) :: (lr, listOf (List.toArray rs.reverse) 0) :: tl₁ ∧ IntsAre ys ((([256, 257, 258] : List Int).take j).map fun k => ((wholeT [a0, a1, a2] R.reverse k).getD zeroT) 0 3)), rfl, F5, N5, ⟨rfl, .nil⟩, (by walk_at "mm"), ?_, ?_, ?_, rfl⟩
          · rintro j ys nx ⟨rfl, _⟩
            exact .inr ⟨_, .head _, rfl, _, rfl⟩
          · rintro j v I9 oI9 C9 oC9 D9 m₃ ys nx s₂ E2 hj hv ⟨rfl, hy⟩ hoC9 hm₃ F9 N9 hoff9 hne9 hs9
            clear F5 N5
            simp only [List.cons_append, List.nil_append] at N9
            obtain ⟨k, tk9, hk9, rfl, hkk⟩ : ∃ k t, ([256, 257, 258] : List Int)[j]? = some k ∧ v = .int k t ∧ (k = 256 ∨ k = 257 ∨ k = 258) := by
              have hj' : j = 0 ∨ j = 1 ∨ j = 2 := by simp at hj; omega
              rcases hj' with rfl | rfl | rfl
              · exact ⟨256, _, rfl, (Option.some.inj hv).symm, .inl rfl⟩
              · exact ⟨257, _, rfl, (Option.some.inj hv).symm, .inr (.inl rfl)⟩
              · exact ⟨258, _, rfl, (Option.some.inj hv).symm, .inr (.inr rfl)⟩
            obtain ⟨vx, Tx, hx0, hw0, ax, rsx, cx, rfl, hmx, hlx, hrx'⟩ : ∃ v T, valueAt kvs k = some v ∧ wholeT [a0, a1, a2] R.reverse k = some T ∧ TabL tl₁ v T := by
              rcases hWh k with ⟨_, h⟩ | h
              · exact absurd h (hfin k hkk)
              · exact h
            obtain ⟨r2, xs2, c2', e21, e22, e23⟩ := hrx' 0 (by omega)
            obtain ⟨u2', e24⟩ := ints_at e23 3 _ (row_at Tx 0 3 (by omega))
            (try k_fold)
            walk_at "my steps"
            k_dflt (refine' kda_item (knd := intKind prog w) (k := k) N9 (by walk_at "mm") how (intKind_is _ _ _ _) hx0 ?_; k_whole)
            (try dsimp only); (try k_fold)
            walk_at "my steps"
            k_dflt (refine' item_any (vs := rsx) (isl (N9 (ax, listOf (List.toArray rsx) cx) (by first | walk_at "mem" | simp [hmx])).1) (by decide) (by decide) e21 ?_; k_whole)
            (try dsimp only); (try k_fold)
            walk_at "my steps"
            k_dflt (refine' item_any (vs := xs2) (isl (N9 (r2, listOf (List.toArray xs2) c2') (by first | walk_at "mem" | simp [e22])).1) (by decide) (by decide) e24 ?_; k_whole)
            (try dsimp only); (try k_fold)
            walk_at "my steps"
            refine CEnd.intro (by assumption) (by assumption) _ (fun p hp => hp) hoff9 ⟨rfl, ?_⟩
            rw [List.take_add_one, hk9, List.map_append]
            refine hy.append ?_
            have e : ((wholeT [a0, a1, a2] R.reverse k).getD zeroT) 0 3 = Tx 0 3 := by rw [hw0]; rfl
            show IntsAre _ [((wholeT [a0, a1, a2] R.reverse k).getD zeroT) 0 3]
            rw [e]
            exact .cons _ _ .nil
          · rintro D9 ys nx h6 tk6 ⟨rfl, hy⟩ F9 N9 hoff9
            exact hret _ _ _ F9.keep ⟨D9, ys, _, rfl, (N9 _ (.head _)).1, (N9 _ (.head _)).2.2, hy⟩
end Mine
end

section
open PySem PySem.W PySem.Calls PyProof.Rows
set_option Elab.async false
set_option maxRecDepth 100000
set_option maxHeartbeats 2000000
namespace Mine
abbrev Lang := List Nat → Prop
def seg (t : List Nat) (i j : Nat) : List Nat := (t.drop i).take (j - i)
def IsT (t : List Nat) (T : Tb) (S : Lang) : Prop := ∀ i j, i ≤ j → j ≤ 3 → (∃ w, S w ∧ T i j = (lev w (seg t i j) : Int)) ∧ ∀ w, S w → T i j ≤ (lev w (seg t i j) : Int)
theorem seg_len {t : List Nat} (ht : t.length = 3) {i j : Nat} (h : i ≤ j) (hj : j ≤ 3) : (seg t i j).length = j - i := by simp [seg]; omega
theorem seg_cut {t : List Nat} {i k j : Nat} (h1 : i ≤ k) (h2 : k ≤ j) : seg t i j = seg t i k ++ seg t k j := by
  have e1 : j - i = (k - i) + (j - k) := by omega
  have e2 : t.drop k = (t.drop i).drop (k - i) := by rw [List.drop_drop]; congr 1; omega
  unfold seg
  rw [e1, List.take_add, e2]
theorem seg_split {t : List Nat} (ht : t.length = 3) {i j : Nat} (h : i ≤ j) (hj : j ≤ 3) {b b' : List Nat} (e : seg t i j = b ++ b') : i + b.length ≤ j ∧ b = seg t i (i + b.length) ∧ b' = seg t (i + b.length) j := by
  have hl := seg_len ht h hj
  rw [e, List.length_append] at hl
  have hk : i + b.length ≤ j := by omega
  have hc := seg_cut (t := t) (i := i) (k := i + b.length) (j := j) (by omega) hk
  rw [e] at hc
  have hbl : b.length = (seg t i (i + b.length)).length := by rw [seg_len ht (by omega) (by omega)]; omega
  have := List.append_inj hc hbl
  exact ⟨hk, this.1, this.2⟩
theorem lev_one (c : Nat) : ∀ s : List Nat, ((lev [c] s : Nat) : Int) ∈ ((2 * (s.length : Int) + 2) :: s.map fun x => 2 * (s.length : Int) - 2 + (sc c x : Int)) ∧ ∀ y ∈ ((2 * (s.length : Int) + 2) :: s.map fun x => 2 * (s.length : Int) - 2 + (sc c x : Int)), ((lev [c] s : Nat) : Int) ≤ y := by
  intro s
  induction s with
  | nil =>
    rw [lev_nilR]
    refine ⟨by simp, fun y hy => ?_⟩
    simp at hy
    subst hy
    simp
  | cons a s ih =>
    obtain ⟨h1, h2⟩ := ih
    have e := lev_cons c a [] s
    rw [lev_nilL, lev_nilL] at e
    rw [e]
    simp only [List.length_cons] at *
    constructor
    · by_cases hA : 2 * s.length + sc c a ≤ min (2 * (s.length + 1)) (lev [c] s) + 2
      · rw [Nat.min_eq_right hA]
        refine List.mem_cons_of_mem _ ?_
        rw [List.map_cons]
        refine List.mem_cons.mpr (.inl ?_)
        simp; omega
      · rw [Nat.min_eq_left (by omega)]
        by_cases hB : 2 * (s.length + 1) ≤ lev [c] s
        · rw [Nat.min_eq_left hB]
          refine List.mem_cons.mpr (.inl ?_)
          simp
        · rw [Nat.min_eq_right (by omega)]
          rcases List.mem_cons.mp h1 with h | h
          · refine List.mem_cons.mpr (.inl ?_)
            simp only [Int.natCast_add, Int.natCast_one] at *
            omega
          · obtain ⟨x, hx, hxe⟩ := List.mem_map.mp h
            refine List.mem_cons_of_mem _ (List.mem_map.mpr ⟨x, List.mem_cons_of_mem _ hx, ?_⟩)
            simp only [Int.natCast_add, Int.natCast_one] at *
            omega
    · intro y hy
      have hm1 : min (min (2 * (s.length + 1)) (lev [c] s) + 2) (2 * s.length + sc c a) ≤ lev [c] s + 2 := by omega
      have hm2 : min (min (2 * (s.length + 1)) (lev [c] s) + 2) (2 * s.length + sc c a) ≤ 2 * s.length + sc c a := by omega
      have hm3 : min (min (2 * (s.length + 1)) (lev [c] s) + 2) (2 * s.length + sc c a) ≤ 2 * (s.length + 1) + 2 := by omega
      generalize min (min (2 * (s.length + 1)) (lev [c] s) + 2) (2 * s.length + sc c a) = M at *
      simp only [List.map_cons, List.mem_cons, List.mem_map] at hy
      rcases hy with rfl | rfl | ⟨x, hx, rfl⟩
      · simp only [Int.natCast_add, Int.natCast_one]; omega
      · simp only [Int.natCast_add, Int.natCast_one]; omega
      · have := h2 _ (List.mem_cons_of_mem _ (List.mem_map.mpr ⟨x, hx, rfl⟩))
        simp only [Int.natCast_add, Int.natCast_one]; omega
theorem isT_sing {t : List Nat} (ht : t.length = 3) (c : Nat) : IsT t (singT c t) (fun w => w = [c]) := by
  intro i j h hj
  have key : singT c t i j = (lev [c] (seg t i j) : Int) := by
    have h1 := lev_one c (seg t i j)
    rw [seg_len ht h hj] at h1
    have hc : ((j - i : Nat) : Int) = (j : Int) - i := by omega
    rw [hc] at h1
    exact (minL_is h1.1 h1.2).symm
  exact ⟨⟨_, rfl, key⟩, fun w hw => by subst hw; exact Int.le_of_eq key⟩
theorem isT_zero {t : List Nat} (ht : t.length = 3) (Z : Tb) (hZ : ∀ i j, Z i j = 2 * ((j : Int) - i)) : IsT t Z (fun w => w = []) := by
  intro i j h hj
  have key : Z i j = (lev [] (seg t i j) : Int) := by
    rw [lev_nilL, seg_len ht h hj, hZ]; simp only [Int.natCast_mul]; omega
  exact ⟨⟨_, rfl, key⟩, fun w hw => by subst hw; exact Int.le_of_eq key⟩
def catL (S1 S2 : Lang) : Lang := fun w => ∃ a b, S1 a ∧ S2 b ∧ w = a ++ b
theorem isT_join {t : List Nat} (ht : t.length = 3) {X Y : Tb} {S1 S2 : Lang} (hX : IsT t X S1) (hY : IsT t Y S2) : IsT t (joinT X Y) (catL S1 S2) := by
  intro i j h hj
  have hmx : max i j + 1 - i = j + 1 - i := by omega
  have low : ∀ w, catL S1 S2 w → joinT X Y i j ≤ (lev w (seg t i j) : Int) := by
    rintro w ⟨a, b, ha, hb, rfl⟩
    obtain ⟨p, p', e, hl⟩ := lev_app_cut a b (seg t i j)
    obtain ⟨hk, hp, hp'⟩ := seg_split ht h hj e
    have h1 := (hX i (i + p.length) (by omega) (by omega)).2 a ha
    have h2 := (hY (i + p.length) j hk hj).2 b hb
    rw [← hp] at h1
    rw [← hp'] at h2
    rw [hl]
    have h3 : joinT X Y i j ≤ X i (i + p.length) + Y (i + p.length) j := by
      refine minL_le (List.mem_map.mpr ⟨p.length, List.mem_range.mpr (by omega), rfl⟩)
    rw [Int.natCast_add]; omega
  refine ⟨?_, low⟩
  have hm : joinT X Y i j ∈ (List.range (max i j + 1 - i)).map fun d => X i (i + d) + Y (i + d) j := minL_mem (by
    intro e
    have := congrArg List.length e
    simp at this; omega)
  obtain ⟨d, hd, he⟩ := List.mem_map.mp hm
  have hd' := List.mem_range.mp hd
  obtain ⟨a, ha, hae⟩ := (hX i (i + d) (by omega) (by omega)).1
  obtain ⟨b, hb, hbe⟩ := (hY (i + d) j (by omega) hj).1
  refine ⟨a ++ b, ⟨a, b, ha, hb, rfl⟩, Int.le_antisymm (low _ ⟨a, b, ha, hb, rfl⟩) ?_⟩
  rw [← he, hae, hbe, seg_cut (t := t) (i := i) (k := i + d) (j := j) (by omega) (by omega)]
  have := lev_app_le a b (seg t i (i + d)) (seg t (i + d) j)
  omega
theorem isT_min {t : List Nat} {X Y : Tb} {S1 S2 : Lang} (hX : IsT t X S1) (hY : IsT t Y S2) : IsT t (fun i j => min (X i j) (Y i j)) (fun w => S1 w ∨ S2 w) := by
  intro i j h hj
  obtain ⟨⟨a, ha, hae⟩, hlo⟩ := hX i j h hj
  obtain ⟨⟨b, hb, hbe⟩, hlo'⟩ := hY i j h hj
  refine ⟨?_, fun w hw => ?_⟩
  · by_cases hle : X i j ≤ Y i j
    · exact ⟨a, .inl ha, by show min (X i j) (Y i j) = _; rw [← hae]; omega⟩
    · exact ⟨b, .inr hb, by show min (X i j) (Y i j) = _; rw [← hbe]; omega⟩
  · show min (X i j) (Y i j) ≤ _
    rcases hw with h | h
    · have := hlo w h; omega
    · have := hlo' w h; omega
theorem isT_ext {t : List Nat} {X : Tb} {S1 S2 : Lang} (hX : IsT t X S1) (h : ∀ w, S1 w ↔ S2 w) : IsT t X S2 := by
  have : S1 = S2 := funext fun w => propext (h w)
  rw [← this]; exact hX
end Mine
end

section
open PySem PySem.W PySem.Calls PyProof.Rows
set_option Elab.async false
set_option maxRecDepth 100000
set_option maxHeartbeats 2000000
namespace Mine
def SBg (S : Int → Lang) : List Int → Lang
  | [] => fun u => u = []
  | x :: r => catL (S x) (SBg S r)
theorem sbg_congr {S S' : Int → Lang} : ∀ {b : List Int}, (∀ x ∈ b, S x = S' x) → SBg S b = SBg S' b
  | [], _ => rfl
  | x :: b, h => by
    show catL (S x) (SBg S b) = catL (S' x) (SBg S' b)
    rw [h x (.head _), sbg_congr fun y hy => h y (.tail _ hy)]
theorem catL_assoc (A B C : Lang) : catL (catL A B) C = catL A (catL B C) := by
  funext w; apply propext
  constructor
  · rintro ⟨_, c, ⟨a, b, ha, hb, rfl⟩, hc, rfl⟩
    exact ⟨a, b ++ c, ha, ⟨b, c, hb, hc, rfl⟩, by rw [List.append_assoc]⟩
  · rintro ⟨a, _, ha, ⟨b, c, hb, hc, rfl⟩, rfl⟩
    exact ⟨a ++ b, c, ⟨a, b, ha, hb, rfl⟩, hc, by rw [List.append_assoc]⟩
theorem catL_nil (A : Lang) : catL A (fun w => w = []) = A := by
  funext w; apply propext
  constructor
  · rintro ⟨a, _, ha, rfl, rfl⟩; rw [List.append_nil]; exact ha
  · intro h; exact ⟨w, [], h, rfl, by simp⟩
theorem nil_catL (A : Lang) : catL (fun w => w = []) A = A := by
  funext w; apply propext
  constructor
  · rintro ⟨_, a, rfl, ha, rfl⟩; exact ha
  · intro h; exact ⟨[], w, rfl, h, by simp⟩
/-- languages of a list of parts, side by side -/
inductive PartsT (t : List Nat) : List Tb → Lang → Prop
  | nil : PartsT t [] (fun w => w = [])
  | cons {P : Tb} {A : Lang} {Ps : List Tb} {B : Lang} : IsT t P A → PartsT t Ps B → PartsT t (P :: Ps) (catL A B)
theorem PartsT.app {t : List Nat} {Ps Qs : List Tb} {A B : Lang} (h : PartsT t Ps A) (g : PartsT t Qs B) : PartsT t (Ps ++ Qs) (catL A B) := by
  induction h with
  | nil => rw [nil_catL]; exact g
  | cons hP _ ih => rw [catL_assoc]; exact .cons hP ih
theorem fold_join {t : List Nat} (ht : t.length = 3) {Ps : List Tb} {B : Lang} (h : PartsT t Ps B) : ∀ {P : Tb} {A : Lang}, IsT t P A → IsT t (Ps.foldl joinT P) (catL A B) := by
  induction h with
  | nil => intro P A hP; rw [catL_nil]; exact hP
  | cons hQ _ ih =>
    intro P A hP
    rw [List.foldl_cons, ← catL_assoc]
    exact ih (isT_join ht hP hQ)
theorem body_parts {t : List Nat} (ht : t.length = 3) {Ps : List Tb} {B : Lang} (h : PartsT t Ps B) : IsT t (bodyT Ps) B := by
  cases h with
  | nil => exact isT_zero ht _ fun i j => rfl
  | cons hP h => exact fold_join ht h hP
theorem name_parts {t : List Nat} (ht : t.length = 3) : ∀ l : List Nat, PartsT t (l.map fun c => singT c t) (fun w => w = l)
  | [] => .nil
  | c :: l => by
    have := PartsT.cons (isT_sing ht c) (name_parts ht l)
    have e : catL (fun w => w = [c]) (fun w => w = l) = fun w => w = c :: l := by
      funext w; apply propext
      constructor
      · rintro ⟨_, _, rfl, rfl, rfl⟩; rfl
      · rintro rfl; exact ⟨[c], l, rfl, rfl, rfl⟩
    rw [e] at this
    exact this
def Good (t : List Nat) (W : Wh) (S : Int → Lang) (x : Int) : Prop := (∃ T, W x = some T ∧ IsT t T (S x)) ∨ (W x = none ∧ S x = fun w => w = nameOf x)
theorem parts_of {t : List Nat} (ht : t.length = 3) {W : Wh} {S : Int → Lang} : ∀ b : List Int, (∀ x ∈ b, Good t W S x) → PartsT t (partsOf t W b) (SBg S b)
  | [], _ => .nil
  | x :: b, h => by
    have e : partsOf t W (x :: b) = (match W x with | some T => [T] | none => (nameOf x).map fun c => singT c t) ++ partsOf t W b := rfl
    rw [e]
    have ih := parts_of ht b fun y hy => h y (.tail _ hy)
    rcases h x (.head _) with ⟨T, h1, h2⟩ | ⟨h1, h2⟩
    · rw [h1]
      have := (PartsT.cons h2 .nil).app ih
      rw [catL_nil] at this
      exact this
    · rw [h1]
      show PartsT t _ (catL (S x) (SBg S b))
      rw [h2]
      exact (name_parts ht (nameOf x)).app ih
theorem body_of {t : List Nat} (ht : t.length = 3) {W : Wh} {S : Int → Lang} {b : List Int} (h : ∀ x ∈ b, Good t W S x) : IsT t (bodyT (partsOf t W b)) (SBg S b) := body_parts ht (parts_of ht b h)
theorem step_self (t : List Nat) (W : Wh) (r : Int × List Int) : stepT t W r r.1 = some (match W r.1 with | none => bodyT (partsOf t W r.2) | some T => fun i j => min (bodyT (partsOf t W r.2) i j) (T i j)) := by
  unfold stepT
  rw [if_pos rfl]
  all_goals (cases W r.1 <;> rfl)
theorem step_ne (t : List Nat) (W : Wh) (r : Int × List Int) {k : Int} (h : k ≠ r.1) : stepT t W r k = W k := by simp [stepT, h]
/-- two rules for one left side -/
theorem two_rules {t : List Nat} (ht : t.length = 3) {W : Wh} {S : Int → Lang} {k : Int} {b b' : List Int} (h0 : W k = none) (h1 : ∀ x ∈ b, Good t W S x ∧ x ≠ k) (h2 : ∀ x ∈ b', Good t W S x ∧ x ≠ k) :
    ∃ T, stepT t (stepT t W (k, b)) (k, b') k = some T ∧ IsT t T (fun w => SBg S b' w ∨ SBg S b w) := by
  have e1 := step_self t W (k, b)
  rw [h0] at e1
  have e2 := step_self t (stepT t W (k, b)) (k, b')
  rw [e1] at e2
  refine ⟨_, e2, isT_min (body_of ht fun x hx => ?_) (body_of ht fun x hx => (h1 x hx).1)⟩
  obtain ⟨hg, hne⟩ := h2 x hx
  unfold Good at hg ⊢
  rw [step_ne t W (k, b) (k := x) hne]
  exact hg
def S0 : Int → Lang := fun x w => w = nameOf x
def S1 (b2 b3 b4 b5 : List Int) : Int → Lang := fun x w => if x = 258 then (SBg S0 b4 w ∨ SBg S0 b5 w) else if x = 257 then (SBg S0 b2 w ∨ SBg S0 b3 w) else w = nameOf x
def S2 (b0 b1 b2 b3 b4 b5 : List Int) : Int → Lang := fun x w => if x = 256 then (SBg (S1 b2 b3 b4 b5) b0 w ∨ SBg (S1 b2 b3 b4 b5) b1 w) else S1 b2 b3 b4 b5 x w
theorem ter_lt {x : Int} (h : Ter x) : x ≠ 256 ∧ x ≠ 257 ∧ x ≠ 258 ∧ Nm x := by rcases h with rfl | rfl | rfl | rfl <;> simp [Nm]
theorem whole_six {t : List Nat} (ht : t.length = 3) {b0 b1 b2 b3 b4 b5 : List Int} (h0 : ∀ x ∈ b0, Sym x) (h1 : ∀ x ∈ b1, Sym x) (h2 : ∀ x ∈ b2, Ter x) (h3 : ∀ x ∈ b3, Ter x) (h4 : ∀ x ∈ b4, Ter x) (h5 : ∀ x ∈ b5, Ter x) :
    ∀ k, (k = 256 ∨ k = 257 ∨ k = 258) → ∃ T, wholeT t [(258, b5), (258, b4), (257, b3), (257, b2), (256, b1), (256, b0)] k = some T ∧ IsT t T (S2 b0 b1 b2 b3 b4 b5 k) := by
  have hN0 : ∀ (W : Wh) (x : Int), W x = none → Good t W S0 x := fun W x h => .inr ⟨h, rfl⟩
  obtain ⟨T8, e8, i8⟩ := two_rules ht (W := fun _ => none) (S := S0) (k := 258) (b := b5) (b' := b4) rfl (fun x hx => ⟨hN0 _ x rfl, (ter_lt (h5 x hx)).2.2.1⟩) (fun x hx => ⟨hN0 _ x rfl, (ter_lt (h4 x hx)).2.2.1⟩)
  have n2 : ∀ x, x ≠ 258 → stepT t (stepT t (fun _ => none) (258, b5)) (258, b4) x = none := fun x hx => by rw [step_ne _ _ _ hx, step_ne _ _ _ hx]
  generalize hW2 : stepT t (stepT t (fun _ => none) (258, b5)) (258, b4) = W2 at e8 n2
  obtain ⟨T7, e7, i7⟩ := two_rules ht (W := W2) (S := S0) (k := 257) (b := b3) (b' := b2) (n2 257 (by decide)) (fun x hx => ⟨hN0 _ x (n2 x (ter_lt (h3 x hx)).2.2.1), (ter_lt (h3 x hx)).2.1⟩) (fun x hx => ⟨hN0 _ x (n2 x (ter_lt (h2 x hx)).2.2.1), (ter_lt (h2 x hx)).2.1⟩)
  have n4 : ∀ x, x ≠ 258 → x ≠ 257 → stepT t (stepT t W2 (257, b3)) (257, b2) x = none := fun x hx hx' => by rw [step_ne _ _ _ hx', step_ne _ _ _ hx', n2 x hx]
  have m4 : stepT t (stepT t W2 (257, b3)) (257, b2) 258 = some T8 := by rw [step_ne _ _ _ (show (258 : Int) ≠ 257 by decide), step_ne _ _ _ (show (258 : Int) ≠ 257 by decide)]; exact e8
  generalize hW4 : stepT t (stepT t W2 (257, b3)) (257, b2) = W4 at e7 n4 m4
  have g4 : ∀ x, Sym x → Good t W4 (S1 b2 b3 b4 b5) x ∧ x ≠ 256 := by
    intro x hx
    refine ⟨?_, by rcases hx with rfl | rfl | rfl | rfl | rfl | rfl | rfl <;> decide⟩
    by_cases e : x = 258
    · subst e; exact .inl ⟨T8, m4, isT_ext i8 fun w => by simp [S1]⟩
    · by_cases e' : x = 257
      · subst e'; exact .inl ⟨T7, e7, isT_ext i7 fun w => by simp [S1]⟩
      · exact .inr ⟨n4 x e e', by funext w; simp [S1, e, e']⟩
  obtain ⟨T6, e6, i6⟩ := two_rules ht (W := W4) (S := S1 b2 b3 b4 b5) (k := 256) (b := b1) (b' := b0) (n4 256 (by decide) (by decide)) (fun x hx => g4 x (h1 x hx)) (fun x hx => g4 x (h0 x hx))
  have hwh : wholeT t [(258, b5), (258, b4), (257, b3), (257, b2), (256, b1), (256, b0)] = stepT t (stepT t W4 (256, b1)) (256, b0) := by
    rw [← hW4, ← hW2]; rfl
  rw [hwh]
  rintro k (rfl | rfl | rfl)
  · exact ⟨T6, e6, isT_ext i6 fun w => by simp [S2]⟩
  · exact ⟨T7, by rw [step_ne _ _ _ (show (257 : Int) ≠ 256 by decide), step_ne _ _ _ (show (257 : Int) ≠ 256 by decide)]; exact e7, isT_ext i7 fun w => by simp [S2, S1]⟩
  · exact ⟨T8, by rw [step_ne _ _ _ (show (258 : Int) ≠ 256 by decide), step_ne _ _ _ (show (258 : Int) ≠ 256 by decide)]; exact m4, isT_ext i8 fun w => by simp [S2, S1]⟩
end Mine
end

section
open PySem PySem.W PySem.Calls PyProof.Rows
set_option Elab.async false
set_option maxRecDepth 100000
set_option maxHeartbeats 2000000
namespace Mine
def Sy (x : Int) : Prop := (x = 256 ∨ x = 257 ∨ x = 258) ∨ Nm x
theorem lst_app (s t : Str) : lst (s ++ t) = lst s ++ lst t := by
  show (s.cps ++ t.cps).toList = _
  simp [lst]
theorem len_app (s t : Str) : (s ++ t).length = s.length + t.length := by rw [← lst_len, lst_app, List.length_append, lst_len, lst_len]
theorem sgn_name {x : Int} (h : Nm x) : lst (sgn x) = nameOf x := by rcases h with rfl | rfl | rfl | rfl | rfl <;> rfl
theorem sgn_len2 (x : Int) : (sgn x).length ≤ 2 := by
  unfold sgn
  repeat' split
  all_goals decide
theorem nm_lt {x : Int} (h : Nm x) : x ≠ 0 ∧ ¬ 256 ≤ x := by rcases h with rfl | rfl | rfl | rfl | rfl <;> decide
theorem sbg_app (S : Int → Lang) : ∀ a b : List Int, SBg S (a ++ b) = catL (SBg S a) (SBg S b)
  | [], b => (nil_catL _).symm
  | x :: a, b => by
    show catL (S x) (SBg S (a ++ b)) = catL (catL (S x) (SBg S a)) (SBg S b)
    rw [sbg_app S a b, catL_assoc]
theorem exp_mem {G : Gm} {S : Int → Lang} (hcl : ∀ x, (x = 256 ∨ x = 257 ∨ x = 258) → ∀ u, S x u ↔ ∃ b ∈ G x, SBg S b u) (hS : ∀ x, Nm x → S x = fun w => w = nameOf x) (hGs : ∀ k, ∀ b ∈ G k, ∀ x ∈ b, Sy x) :
    ∀ (f : Nat) (sy : List Int) (t : Str), Ok G f (sy ++ [0]) → (∀ x ∈ sy, Sy x) → ∀ w, w ∈ expand G f (sy ++ [0]) t ↔ ∃ u, SBg S sy u ∧ lst w = lst t ++ u
  | 0, _, _, h, _, _ => h.elim
  | f + 1, [], t, _, _, w => by
    have e : expand G (f + 1) ([] ++ [0]) t = [t] := by simp [expand]
    rw [e, List.mem_singleton]
    constructor
    · rintro rfl; exact ⟨[], rfl, by simp⟩
    · rintro ⟨u, hu, h⟩
      have hu' : u = [] := hu
      subst hu'
      rw [List.append_nil] at h
      exact lst_inj h
  | f + 1, x :: sy, t, hok, hsy, w => by
    rcases hsy x (.head _) with hx | hx
    · have hx0 : x ≠ 0 := by rcases hx with rfl | rfl | rfl <;> decide
      have hx2 : 256 ≤ x := by rcases hx with rfl | rfl | rfl <;> decide
      have e : expand G (f + 1) (x :: sy ++ [0]) t = (G x).reverse.flatMap fun b => expand G f (b ++ (sy ++ [0])) t := by simp [expand, hx0, hx2]
      have hok' : ∀ b ∈ G x, Ok G f (b ++ (sy ++ [0])) := by
        rcases hok with h | h | h
        · exact absurd h hx0
        · exact h.2
        · omega
      rw [e]
      simp only [List.mem_flatMap, List.mem_reverse]
      have key : ∀ b ∈ G x, (w ∈ expand G f (b ++ (sy ++ [0])) t ↔ ∃ u, catL (SBg S b) (SBg S sy) u ∧ lst w = lst t ++ u) := by
        intro b hb
        rw [← List.append_assoc, ← sbg_app]
        refine exp_mem hcl hS hGs f (b ++ sy) t (by rw [List.append_assoc]; exact hok' b hb) (fun y hy => ?_) w
        rcases List.mem_append.mp hy with h | h
        · exact hGs x b hb y h
        · exact hsy y (.tail _ h)
      constructor
      · rintro ⟨b, hb, hw⟩
        obtain ⟨u, ⟨p, q, hp, hq, rfl⟩, hu⟩ := (key b hb).mp hw
        exact ⟨p ++ q, ⟨p, q, (hcl x hx p).mpr ⟨b, hb, hp⟩, hq, rfl⟩, hu⟩
      · rintro ⟨u, ⟨p, q, hp, hq, rfl⟩, hu⟩
        obtain ⟨b, hb, hpb⟩ := (hcl x hx p).mp hp
        exact ⟨b, hb, (key b hb).mpr ⟨p ++ q, ⟨p, q, hpb, hq, rfl⟩, hu⟩⟩
    · obtain ⟨hx0, hx2⟩ := nm_lt hx
      have e : expand G (f + 1) (x :: sy ++ [0]) t = expand G f (sy ++ [0]) (t ++ sgn x) := by simp [expand, hx0, hx2]
      have hok' : Ok G f (sy ++ [0]) := by
        rcases hok with h | h | h
        · exact absurd h hx0
        · rcases h.1 with h | h | h <;> omega
        · exact h.2.2
      rw [e, exp_mem hcl hS hGs f sy (t ++ sgn x) hok' (fun y hy => hsy y (.tail _ hy)) w, lst_app, sgn_name hx]
      constructor
      · rintro ⟨u, hu, h⟩
        exact ⟨nameOf x ++ u, ⟨nameOf x, u, by rw [hS x hx], hu, rfl⟩, by rw [h, List.append_assoc]⟩
      · rintro ⟨u, ⟨p, q, hp, hq, rfl⟩, h⟩
        rw [hS x hx] at hp
        have hp' : p = nameOf x := hp
        subst hp'
        exact ⟨q, hq, by rw [h, List.append_assoc]⟩
theorem exp_len (G : Gm) : ∀ (f : Nat) (sy : List Int) (t w : Str), w ∈ expand G f sy t → w.length ≤ t.length + 2 * f
  | 0, _, _, _, h => by simp [expand] at h
  | f + 1, [], t, w, h => by simp [expand] at h
  | f + 1, x :: sy, t, w, h => by
    rw [expand] at h
    split at h
    · rw [List.mem_singleton.mp h]; omega
    · split at h
      · obtain ⟨b, _, hb⟩ := List.mem_flatMap.mp h
        have := exp_len G f _ t w hb
        omega
      · have := exp_len G f _ _ w h
        rw [len_app] at this
        have h2 := sgn_len2 x
        omega
theorem near_all (y : Str) : ∀ (ss : List Str) (b : Nat), ss.foldl (fun b w => min b (lev (lst w) (lst y))) b ≤ b ∧ (∀ w ∈ ss, ss.foldl (fun b w => min b (lev (lst w) (lst y))) b ≤ lev (lst w) (lst y)) ∧ (ss.foldl (fun b w => min b (lev (lst w) (lst y))) b = b ∨ ∃ w ∈ ss, ss.foldl (fun b w => min b (lev (lst w) (lst y))) b = lev (lst w) (lst y))
  | [], b => ⟨Nat.le_refl _, fun _ h => absurd h List.not_mem_nil, .inl rfl⟩
  | v :: ss, b => by
    obtain ⟨h1, h2, h3⟩ := near_all y ss (min b (lev (lst v) (lst y)))
    rw [List.foldl_cons]
    refine ⟨by omega, fun w hw => ?_, ?_⟩
    · rcases List.mem_cons.mp hw with rfl | hw
      · omega
      · exact h2 w hw
    · rcases h3 with h | ⟨w, hw, h⟩
      · by_cases hb : b ≤ lev (lst v) (lst y)
        · left; rw [h]; omega
        · right; exact ⟨v, .head _, by rw [h]; omega⟩
      · exact .inr ⟨w, .tail _ hw, h⟩
theorem lev_bound (a b : List Nat) : lev a b ≤ 2 * a.length + 2 * b.length := by
  have := lev_le ((Al.allDel a).app (Al.allIns b))
  simpa using this
theorem near_is {t : List Nat} (ht : t.length = 3) {T : Tb} {S : Lang} (hT : IsT t T S) {ss : List Str} {y : Str} (hy : lst y = t) (hss : ∀ w, w ∈ ss ↔ S (lst w)) (hl : ∀ w ∈ ss, w.length ≤ 40) : ((near ss y : Nat) : Int) = T 0 3 := by
  subst hy
  obtain ⟨⟨w0, hw0, e0⟩, hlo⟩ := hT 0 3 (by omega) (by omega)
  have hseg : seg (lst y) 0 3 = lst y := by unfold seg; rw [List.drop_zero]; exact List.take_of_length_le (by omega)
  rw [hseg] at e0 hlo
  obtain ⟨h1, h2, h3⟩ := near_all y ss 99
  have hin : (⟨w0.toArray⟩ : Str) ∈ ss := (hss _).mpr (by simpa [lst] using hw0)
  have hle := h2 _ hin
  have hlw : lst (⟨w0.toArray⟩ : Str) = w0 := by simp [lst]
  rw [hlw] at hle
  have hwl := hl _ hin
  rw [← lst_len, hlw] at hwl
  have hb := lev_bound w0 (lst y)
  change ((ss.foldl (fun b w => min b (lev (lst w) (lst y))) 99 : Nat) : Int) = T 0 3
  generalize ss.foldl (fun b w => min b (lev (lst w) (lst y))) 99 = Nn at *
  rw [e0]
  rcases h3 with h | ⟨w, hw, h⟩
  · omega
  · have h4 := hlo _ ((hss w).mp hw)
    rw [e0] at h4
    omega
end Mine
end

section
open PySem PySem.W PySem.Calls PyProof.Rows
set_option Elab.async false
set_option maxRecDepth 100000
set_option maxHeartbeats 2000000
namespace Mine
structure Six (b0 b1 b2 b3 b4 b5 : List Int) : Prop where
  s0 : b0.length ≤ 2 ∧ ∀ x ∈ b0, Sym x
  s1 : b1.length ≤ 2 ∧ ∀ x ∈ b1, Sym x
  s2 : b2.length ≤ 2 ∧ ∀ x ∈ b2, Ter x
  s3 : b3.length ≤ 2 ∧ ∀ x ∈ b3, Ter x
  s4 : b4.length ≤ 2 ∧ ∀ x ∈ b4, Ter x
  s5 : b5.length ≤ 2 ∧ ∀ x ∈ b5, Ter x
abbrev six (b0 b1 b2 b3 b4 b5 : List Int) : Rules := [(256, b0), (256, b1), (257, b2), (257, b3), (258, b4), (258, b5)]
theorem six_of (R : Rules) (hl : R.length = 6) (hsh : ∀ k r, R[k]? = some r → ShR k r) : ∃ b0 b1 b2 b3 b4 b5, R = six b0 b1 b2 b3 b4 b5 ∧ Six b0 b1 b2 b3 b4 b5 := by
  match R, hl with
  | [(l0, b0), (l1, b1), (l2, b2), (l3, b3), (l4, b4), (l5, b5)], _ =>
    have h0 := hsh 0 _ rfl
    have h1 := hsh 1 _ rfl
    have h2 := hsh 2 _ rfl
    have h3 := hsh 3 _ rfl
    have h4 := hsh 4 _ rfl
    have h5 := hsh 5 _ rfl
    obtain rfl : l0 = 256 := h0.1
    obtain rfl : l1 = 256 := h1.1
    obtain rfl : l2 = 257 := h2.1
    obtain rfl : l3 = 257 := h3.1
    obtain rfl : l4 = 258 := h4.1
    obtain rfl : l5 = 258 := h5.1
    exact ⟨b0, b1, b2, b3, b4, b5, rfl, ⟨h0.2.1, h0.2.2.1 (by omega)⟩, ⟨h1.2.1, h1.2.2.1 (by omega)⟩, ⟨h2.2.1, h2.2.2.2 (by omega)⟩, ⟨h3.2.1, h3.2.2.2 (by omega)⟩, ⟨h4.2.1, h4.2.2.2 (by omega)⟩, ⟨h5.2.1, h5.2.2.2 (by omega)⟩⟩
section
variable {b0 b1 b2 b3 b4 b5 : List Int}
theorem ter_sym {x : Int} (h : Ter x) : Sym x := by rcases h with rfl | rfl | rfl | rfl <;> simp [Sym]
theorem sym_sy {x : Int} (h : Sym x) : Sy x := by rcases h with rfl | rfl | rfl | rfl | rfl | rfl | rfl <;> simp [Sy, Nm]
theorem six_ok (H : Six b0 b1 b2 b3 b4 b5) : RulesOk (six b0 b1 b2 b3 b4 b5) := by
  intro r hr
  simp only [List.mem_cons, List.not_mem_nil, or_false] at hr
  rcases hr with rfl | rfl | rfl | rfl | rfl | rfl
  · exact ⟨.inl rfl, H.s0⟩
  · exact ⟨.inl rfl, H.s1⟩
  · exact ⟨.inr (.inl rfl), H.s2.1, fun x hx => ter_sym (H.s2.2 x hx)⟩
  · exact ⟨.inr (.inl rfl), H.s3.1, fun x hx => ter_sym (H.s3.2 x hx)⟩
  · exact ⟨.inr (.inr rfl), H.s4.1, fun x hx => ter_sym (H.s4.2 x hx)⟩
  · exact ⟨.inr (.inr rfl), H.s5.1, fun x hx => ter_sym (H.s5.2 x hx)⟩
theorem G6 : Gof (six b0 b1 b2 b3 b4 b5) 256 = [b0, b1] := rfl
theorem G7 : Gof (six b0 b1 b2 b3 b4 b5) 257 = [b2, b3] := rfl
theorem G8 : Gof (six b0 b1 b2 b3 b4 b5) 258 = [b4, b5] := rfl
theorem Gx {k : Int} (h6 : k ≠ 256) (h7 : k ≠ 257) (h8 : k ≠ 258) : Gof (six b0 b1 b2 b3 b4 b5) k = [] := by
  have e6 : ((256 : Int) == k) = false := by simp; exact Ne.symm h6
  have e7 : ((257 : Int) == k) = false := by simp; exact Ne.symm h7
  have e8 : ((258 : Int) == k) = false := by simp; exact Ne.symm h8
  simp only [Gof, six, List.filter_cons, e6, e7, e8, Bool.false_eq_true, if_false, List.filter_nil, List.map_nil]
theorem G_all {P : List (List Int) → Prop} (h6 : P [b0, b1]) (h7 : P [b2, b3]) (h8 : P [b4, b5]) (hx : P []) (k : Int) : P (Gof (six b0 b1 b2 b3 b4 b5) k) := by
  by_cases e6 : k = 256
  · subst e6; exact h6
  by_cases e7 : k = 257
  · subst e7; exact h7
  by_cases e8 : k = 258
  · subst e8; exact h8
  rw [Gx e6 e7 e8]; exact hx
theorem pair_mem {a b : List Int} {P : List Int → Prop} (ha : P a) (hb : P b) : ∀ c ∈ [a, b], P c := by
  intro c hc
  simp only [List.mem_cons, List.not_mem_nil, or_false] at hc
  rcases hc with rfl | rfl
  · exact ha
  · exact hb
theorem G_small (H : Six b0 b1 b2 b3 b4 b5) (k : Int) : (Gof (six b0 b1 b2 b3 b4 b5) k).length ≤ 2 ∧ ∀ b ∈ Gof (six b0 b1 b2 b3 b4 b5) k, b.length ≤ 2 :=
  G_all (P := fun g => g.length ≤ 2 ∧ ∀ b ∈ g, b.length ≤ 2) ⟨by simp, pair_mem H.s0.1 H.s1.1⟩ ⟨by simp, pair_mem H.s2.1 H.s3.1⟩ ⟨by simp, pair_mem H.s4.1 H.s5.1⟩ ⟨by simp, fun _ h => absurd h List.not_mem_nil⟩ k
theorem G_sy (H : Six b0 b1 b2 b3 b4 b5) (k : Int) : ∀ b ∈ Gof (six b0 b1 b2 b3 b4 b5) k, ∀ x ∈ b, Sy x :=
  G_all (P := fun g => ∀ b ∈ g, ∀ x ∈ b, Sy x) (pair_mem (fun x hx => sym_sy (H.s0.2 x hx)) (fun x hx => sym_sy (H.s1.2 x hx))) (pair_mem (fun x hx => sym_sy (ter_sym (H.s2.2 x hx))) (fun x hx => sym_sy (ter_sym (H.s3.2 x hx))))
    (pair_mem (fun x hx => sym_sy (ter_sym (H.s4.2 x hx))) (fun x hx => sym_sy (ter_sym (H.s5.2 x hx)))) (fun _ h => absurd h List.not_mem_nil) k
theorem G_ne (k : Int) (hk : k = 256 ∨ k = 257 ∨ k = 258) : Gof (six b0 b1 b2 b3 b4 b5) k ≠ [] := by
  rcases hk with rfl | rfl | rfl
  · rw [G6]; simp
  · rw [G7]; simp
  · rw [G8]; simp
theorem ok_mono (G : Gm) : ∀ (f : Nat) (sy : List Int), Ok G f sy → Ok G (f + 1) sy
  | 0, _, h => h.elim
  | _ + 1, [], h => h.elim
  | f + 1, x :: sy, h => by
    rcases h with h | ⟨h, h'⟩ | ⟨h, h', h''⟩
    · exact .inl h
    · exact .inr (.inl ⟨h, fun b hb => ok_mono G f _ (h' b hb)⟩)
    · exact .inr (.inr ⟨h, h', ok_mono G f _ h''⟩)
theorem ok_up (G : Gm) (f : Nat) (sy : List Int) (h : Ok G f sy) : ∀ k, Ok G (f + k) sy
  | 0 => h
  | k + 1 => ok_mono G (f + k) sy (ok_up G f sy h k)
theorem ok_ter (G : Gm) {x : Int} (hx : Nm x) {f : Nat} {sy : List Int} (h : Ok G f sy) : Ok G (f + 1) (x :: sy) := by
  refine .inr (.inr ⟨?_, ?_, h⟩) <;> (rcases hx with rfl | rfl | rfl | rfl | rfl <;> decide)
theorem ok_ters (G : Gm) : ∀ (b : List Int), (∀ x ∈ b, Nm x) → ∀ {f : Nat} {sy : List Int}, Ok G f sy → Ok G (f + b.length) (b ++ sy)
  | [], _, _, _, h => h
  | x :: b, hb, f, sy, h => ok_ter G (hb x (.head _)) (ok_ters G b (fun y hy => hb y (.tail _ hy)) h)
theorem ok_sym (H : Six b0 b1 b2 b3 b4 b5) {x : Int} (hx : Sym x) {f : Nat} {sy : List Int} (h : Ok (Gof (six b0 b1 b2 b3 b4 b5)) f sy) : Ok (Gof (six b0 b1 b2 b3 b4 b5)) (f + 3) (x :: sy) := by
  have nt : ∀ b : List Int, b.length ≤ 2 → (∀ y ∈ b, Ter y) → Ok (Gof (six b0 b1 b2 b3 b4 b5)) (f + 2) (b ++ sy) := fun b hb hT => by
    have := ok_up _ _ _ (ok_ters (Gof (six b0 b1 b2 b3 b4 b5)) b (fun y hy => (ter_lt (hT y hy)).2.2.2) h) (2 - b.length)
    rw [show f + 2 = f + b.length + (2 - b.length) by omega]
    exact this
  by_cases e7 : x = 257
  · subst e7
    exact .inr (.inl ⟨.inr (.inl rfl), pair_mem (nt b2 H.s2.1 H.s2.2) (nt b3 H.s3.1 H.s3.2)⟩)
  by_cases e8 : x = 258
  · subst e8
    exact .inr (.inl ⟨.inr (.inr rfl), pair_mem (nt b4 H.s4.1 H.s4.2) (nt b5 H.s5.1 H.s5.2)⟩)
  have hn : Nm x := by rcases hx with h | h | h | h | h | h | h <;> first | exact absurd h e7 | exact absurd h e8 | (rw [h]; simp [Nm])
  exact ok_mono _ _ _ (ok_mono _ _ _ (ok_ter _ hn h))
theorem ok_syms (H : Six b0 b1 b2 b3 b4 b5) : ∀ (b : List Int), (∀ x ∈ b, Sym x) → ∀ {f : Nat} {sy : List Int}, Ok (Gof (six b0 b1 b2 b3 b4 b5)) f sy → Ok (Gof (six b0 b1 b2 b3 b4 b5)) (f + 3 * b.length) (b ++ sy)
  | [], _, _, _, h => h
  | x :: b, hb, f, sy, h => by
    have := ok_sym H (hb x (.head _)) (ok_syms H b (fun y hy => hb y (.tail _ hy)) h)
    rw [List.length_cons, show f + 3 * (b.length + 1) = f + 3 * b.length + 3 by omega]
    exact this
theorem six_fuel (H : Six b0 b1 b2 b3 b4 b5) (k : Int) (hk : k = 256 ∨ k = 257 ∨ k = 258) : Ok (Gof (six b0 b1 b2 b3 b4 b5)) 8 [k, 0] := by
  have h0 : Ok (Gof (six b0 b1 b2 b3 b4 b5)) 1 [0] := .inl rfl
  have body : ∀ b : List Int, b.length ≤ 2 → (∀ y ∈ b, Sym y) → Ok (Gof (six b0 b1 b2 b3 b4 b5)) 7 (b ++ [0]) := fun b hb hS => by
    have := ok_up _ _ _ (ok_syms H b hS h0) (6 - 3 * b.length)
    rw [show 7 = 1 + 3 * b.length + (6 - 3 * b.length) by omega]
    exact this
  refine .inr (.inl ⟨hk, ?_⟩)
  rcases hk with rfl | rfl | rfl
  · exact pair_mem (body b0 H.s0.1 H.s0.2) (body b1 H.s1.1 H.s1.2)
  · exact pair_mem (body b2 H.s2.1 fun y hy => ter_sym (H.s2.2 y hy)) (body b3 H.s3.1 fun y hy => ter_sym (H.s3.2 y hy))
  · exact pair_mem (body b4 H.s4.1 fun y hy => ter_sym (H.s4.2 y hy)) (body b5 H.s5.1 fun y hy => ter_sym (H.s5.2 y hy))
theorem ter_congr (b : List Int) (hb : ∀ x ∈ b, Ter x) : SBg (S2 b0 b1 b2 b3 b4 b5) b = SBg S0 b := sbg_congr fun x hx => by
  obtain ⟨h6, h7, h8, _⟩ := ter_lt (hb x hx)
  funext w
  simp [S2, S1, S0, h6, h7, h8]
theorem sym_congr (b : List Int) (hb : ∀ x ∈ b, Sym x) : SBg (S2 b0 b1 b2 b3 b4 b5) b = SBg (S1 b2 b3 b4 b5) b := sbg_congr fun x hx => by
  have h6 : x ≠ 256 := by rcases hb x hx with h | h | h | h | h | h | h <;> (rw [h]; decide)
  funext w
  simp [S2, h6]
theorem six_closed (H : Six b0 b1 b2 b3 b4 b5) : ∀ x, (x = 256 ∨ x = 257 ∨ x = 258) → ∀ u, S2 b0 b1 b2 b3 b4 b5 x u ↔ ∃ b ∈ Gof (six b0 b1 b2 b3 b4 b5) x, SBg (S2 b0 b1 b2 b3 b4 b5) b u := by
  have two : ∀ (a b : List Int) (S : Lang) (u : List Nat), (∃ c ∈ [a, b], SBg (S2 b0 b1 b2 b3 b4 b5) c u) ↔ (SBg (S2 b0 b1 b2 b3 b4 b5) a u ∨ SBg (S2 b0 b1 b2 b3 b4 b5) b u) := by
    intro a b S u
    simp
  rintro x (rfl | rfl | rfl) u
  · rw [G6, two b0 b1 (fun _ => True), sym_congr b0 H.s0.2, sym_congr b1 H.s1.2]; simp [S2]
  · rw [G7, two b2 b3 (fun _ => True), ter_congr b2 H.s2.2, ter_congr b3 H.s3.2]; simp [S2, S1]
  · rw [G8, two b4 b5 (fun _ => True), ter_congr b4 H.s4.2, ter_congr b5 H.s5.2]; simp [S2, S1]
theorem six_name : ∀ x, Nm x → S2 b0 b1 b2 b3 b4 b5 x = fun w => w = nameOf x := by
  intro x hx
  have h6 : x ≠ 256 := by rcases hx with rfl | rfl | rfl | rfl | rfl <;> decide
  have h7 : x ≠ 257 := by rcases hx with rfl | rfl | rfl | rfl | rfl <;> decide
  have h8 : x ≠ 258 := by rcases hx with rfl | rfl | rfl | rfl | rfl <;> decide
  funext w
  simp [S2, S1, h6, h7, h8]
theorem six_near (H : Six b0 b1 b2 b3 b4 b5) {t : List Nat} (ht : t.length = 3) {y : Str} (hy : lst y = t) (k : Int) (hk : k = 256 ∨ k = 257 ∨ k = 258) :
    ((near (expand (Gof (six b0 b1 b2 b3 b4 b5)) 8 [k, 0] (Str.ofString "")) y : Nat) : Int) = ((wholeT t (six b0 b1 b2 b3 b4 b5).reverse k).getD zeroT) 0 3 := by
  obtain ⟨T, hT, hI⟩ := whole_six ht H.s0.2 H.s1.2 H.s2.2 H.s3.2 H.s4.2 H.s5.2 k hk
  have e : (six b0 b1 b2 b3 b4 b5).reverse = [(258, b5), (258, b4), (257, b3), (257, b2), (256, b1), (256, b0)] := rfl
  rw [e, hT]
  show _ = T 0 3
  refine near_is ht hI hy (fun w => ?_) (fun w hw => ?_)
  · have := exp_mem (six_closed H) six_name (G_sy H) 8 [k] (Str.ofString "") (six_fuel H k hk) (fun x hx => by rw [List.mem_singleton.mp hx]; exact .inl hk) w
    rw [show [k] ++ [0] = [k, 0] from rfl] at this
    rw [this]
    have e2 : SBg (S2 b0 b1 b2 b3 b4 b5) [k] = S2 b0 b1 b2 b3 b4 b5 k := catL_nil _
    rw [e2]
    constructor
    · rintro ⟨u, hu, h⟩
      have : lst w = u := h
      rw [this]; exact hu
    · intro h; exact ⟨lst w, h, rfl⟩
  · have := exp_len _ _ _ _ _ hw
    have h0 : (Str.ofString "").length = 0 := rfl
    omega
theorem six_short (G : Gm) (k : Int) : ∀ w ∈ expand G 8 [k, 0] (Str.ofString ""), w.length ≤ 40 := fun w hw => by
  have := exp_len _ _ _ _ _ hw
  have h0 : (Str.ofString "").length = 0 := rfl
  omega
theorem whole_mem (t : List Nat) : ∀ (l : Rules) (W : Wh) (k : Int), (W k ≠ none ∨ ∃ r ∈ l, r.1 = k) → l.foldl (stepT t) W k ≠ none
  | [], W, k, h => by
    rcases h with h | ⟨r, h, _⟩
    · exact h
    · exact absurd h List.not_mem_nil
  | r :: l, W, k, h => by
    rw [List.foldl_cons]
    refine whole_mem t l _ k ?_
    by_cases e : k = r.1
    · left; rw [e, step_self]; simp
    · rcases h with h | ⟨r', h, h'⟩
      · left; rw [step_ne _ _ _ e]; exact h
      · rcases List.mem_cons.mp h with rfl | h
        · exact absurd h'.symm e
        · exact .inr ⟨r', h, h'⟩
theorem six_wf (H : Six b0 b1 b2 b3 b4 b5) (t : List Nat) : ∀ (i : Nat) r, (six b0 b1 b2 b3 b4 b5).reverse[i]? = some r → r.2.length ≤ 2 ∧ ∀ x ∈ r.2, wholeT t ((six b0 b1 b2 b3 b4 b5).reverse.take i) x ≠ none ∨ Nm x := by
  intro i r hi
  have hil := (List.getElem?_eq_some_iff.mp hi).1
  have hil' : i < 6 := hil
  have big : ∀ b : List Int, (∀ x ∈ b, Sym x) → ∀ l : Rules, (∃ r ∈ l, r.1 = 257) → (∃ r ∈ l, r.1 = 258) → ∀ x ∈ b, wholeT t l x ≠ none ∨ Nm x := by
    intro b hb l h7 h8 x hx
    rcases hb x hx with rfl | rfl | rfl | rfl | rfl | rfl | rfl
    · exact .inr (by simp [Nm])
    · exact .inr (by simp [Nm])
    · exact .inr (by simp [Nm])
    · exact .inr (by simp [Nm])
    · exact .inr (by simp [Nm])
    · exact .inl (whole_mem t l _ 257 (.inr h7))
    · exact .inl (whole_mem t l _ 258 (.inr h8))
  have h' : i = 0 ∨ i = 1 ∨ i = 2 ∨ i = 3 ∨ i = 4 ∨ i = 5 := by omega
  rcases h' with rfl | rfl | rfl | rfl | rfl | rfl
  · obtain rfl : (258, b5) = r := Option.some.inj hi
    exact ⟨H.s5.1, fun x hx => .inr (ter_lt (H.s5.2 x hx)).2.2.2⟩
  · obtain rfl : (258, b4) = r := Option.some.inj hi
    exact ⟨H.s4.1, fun x hx => .inr (ter_lt (H.s4.2 x hx)).2.2.2⟩
  · obtain rfl : (257, b3) = r := Option.some.inj hi
    exact ⟨H.s3.1, fun x hx => .inr (ter_lt (H.s3.2 x hx)).2.2.2⟩
  · obtain rfl : (257, b2) = r := Option.some.inj hi
    exact ⟨H.s2.1, fun x hx => .inr (ter_lt (H.s2.2 x hx)).2.2.2⟩
  · obtain rfl : (256, b1) = r := Option.some.inj hi
    refine ⟨H.s1.1, big b1 H.s1.2 _ ⟨(257, b3), ?_, rfl⟩ ⟨(258, b5), ?_, rfl⟩⟩ <;> simp
  · obtain rfl : (256, b0) = r := Option.some.inj hi
    refine ⟨H.s0.1, big b0 H.s0.2 _ ⟨(257, b3), ?_, rfl⟩ ⟨(258, b5), ?_, rfl⟩⟩ <;> simp
theorem six_fin (t : List Nat) (k : Int) (hk : k = 256 ∨ k = 257 ∨ k = 258) : wholeT t (six b0 b1 b2 b3 b4 b5).reverse k ≠ none := by
  refine whole_mem t _ _ k (.inr ?_)
  rcases hk with rfl | rfl | rfl
  · exact ⟨(256, b0), by simp, rfl⟩
  · exact ⟨(257, b2), by simp, rfl⟩
  · exact ⟨(258, b4), by simp, rfl⟩
end
end Mine
end

section
open PySem PySem.W PySem.Calls PyProof.Rows
namespace Mine
theorem fresh16 : True := by
  w_top off
  trivial
end Mine
open PySem PySem.W PySem.Calls PyProof.Rows
set_option Elab.async false
set_option maxRecDepth 100000
set_option maxHeartbeats 2000000
namespace Mine

local macro_rules | `(tactic| walk_at "my steps") => `(tactic| repeat' ((fail_if_success (with_reducible show wpAny _ _ (call (Value.ref _) _ _) _ _ _)); (fail_if_success (with_reducible show wpAny _ _ (compareOp CmpOp.Eq (Value.ref _) (Value.ref _)) _ _ _)); (fail_if_success (with_reducible show wpAny _ _ (eval (Expr.ListComp _ _ _ _) _) _ _ _)); (fail_if_success (with_reducible show wpAny _ _ (exec (Stmt.Assign _ (Expr.ListComp _ _ _ _) _) _) _ _ _)); walk_at "st"))
local macro_rules | `(tactic| k_all) => `(tactic| assumption)
def item4 (z : Int) : Nat := ([43, 61, 110, 78] : List Nat).getD (Int.fmod z 4).toNat 0
theorem txt_item4 (z : Int) : Txt.item (Str.ofString "+=nN") (Int.fmod z 4) = ⟨#[item4 z]⟩ := by
  have h1 := Int.fmod_nonneg_of_pos z (b := 4) (by omega)
  have h2 := Int.fmod_lt_of_pos z (b := 4) (by omega)
  unfold item4
  generalize Int.fmod z 4 = f at h1 h2
  have h3 : f = 0 ∨ f = 1 ∨ f = 2 ∨ f = 3 := by omega
  rcases h3 with rfl | rfl | rfl | rfl <;> rfl
theorem item4_al (z : Int) : Al4 (item4 z) := by
  have h1 := Int.fmod_nonneg_of_pos z (b := 4) (by omega)
  have h2 := Int.fmod_lt_of_pos z (b := 4) (by omega)
  unfold item4
  generalize Int.fmod z 4 = f at h1 h2
  have h3 : f = 0 ∨ f = 1 ∨ f = 2 ∨ f = 3 := by omega
  rcases h3 with rfl | rfl | rfl | rfl <;> simp [Al4]
theorem txt_snoc {us : List Value} {cs : List Nat} {j : Nat} {z : Int} {t : Tok} (hl : cs.length = j) (h : StrsAre us (cs.map fun c => (⟨#[c]⟩ : Str))) (ha : ∀ c ∈ cs, Al4 c) : ∃ cs' : List Nat, cs'.length = j + 1 ∧ StrsAre (us ++ [.str ⟨#[item4 z]⟩ t]) (cs'.map fun c => (⟨#[c]⟩ : Str)) ∧ ∀ c ∈ cs', Al4 c := by
  refine ⟨cs ++ [item4 z], by simp [hl], ?_, fun c hc => ?_⟩
  · rw [List.map_append]
    exact h.snoc _ _
  · rcases List.mem_append.mp hc with h | h
    · exact ha c h
    · rw [List.mem_singleton.mp h]; exact item4_al _
theorem three_strs {us : List Value} {cs : List Nat} (hl : cs.length = 3) (h : StrsAre us (cs.map fun c => (⟨#[c]⟩ : Str))) : ∃ x y z t0 t1 t2, cs = [x, y, z] ∧ us = [.str ⟨#[x]⟩ t0, .str ⟨#[y]⟩ t1, .str ⟨#[z]⟩ t2] := by
  match cs, hl with
  | [x, y, z], _ =>
    cases h with
    | cons _ t0 h =>
      cases h with
      | cons _ t1 h =>
        cases h with
        | cons _ t2 h =>
          cases h with
          | nil => exact ⟨x, y, z, t0, t1, t2, rfl, rfl⟩
theorem rulesH_of {h₀ h : Heap} {L ra : Addr} {led tl : Led} {rs : List Value} {rc : Nat} {R : Rules} (hRL : RulesL tl rs R) (N : News h₀ L h led) (h1 : (ra, listOf (List.toArray rs) rc) ∈ led) (h2 : ∀ p ∈ tl, p ∈ led) : RulesH h (.ref ra) R :=
  ⟨ra, rs, rfl, isl (N _ h1).1, hRL.1, fun i r hi => by
    obtain ⟨p, q, xs, t, c1, c2, e1, e2, e3, e4⟩ := hRL.2 i r hi
    exact ⟨p, q, xs, t, e1, isl (N _ (h2 _ e2)).1, isl (N _ (h2 _ e3)).1, e4⟩⟩
theorem foundH_of {prog : Program} {w : World} {h₀ h : Heap} {L fd : Addr} {od : Obj} {led tlf : Led} {kvs : List (Int × Value)} {G : Gm} (hF : FoundL tlf kvs G) (hod : od.IsDictOf (intKind prog w) kvs) (hne : ∀ k, (k = 256 ∨ k = 257 ∨ k = 258) → G k ≠ []) (N : News h₀ L h led) (h1 : (fd, od) ∈ led) (h2 : ∀ p ∈ tlf, p ∈ led) : FoundH prog w h (.ref fd) G :=
  ⟨fd, od, kvs, rfl, (N _ h1).1, hod, fun k hk => by
    rcases hF k with ⟨_, h⟩ | ⟨a, bs, c, e1, e2, e3, e4⟩
    · exact absurd h (hne k hk)
    · refine ⟨a, bs, e1, isl (N _ (h2 _ e2)).1, e3, fun i b hb => ?_⟩
      obtain ⟨r, xs, c', f1, f2, f3⟩ := e4 i b hb
      exact ⟨r, xs, f1, isl (N _ (h2 _ f2)).1, f3⟩⟩
theorem led_ne {h₀ h : Heap} {L a : Addr} {led : Led} (N : News h₀ L h led) (hf : h.get? a = none) : ∀ p ∈ led, p.1 ≠ a := fun p hp e => by
  have := (N p hp).1
  rw [e, hf] at this
  cases this
section
variable {prog : Program} {w : World} {A : Around} {E : Value → Shared → Prop} {s : Shared} {h₀ : Heap} {L : Addr} {m : Map} {env : Env} {elt iter : Expr} {x : Str} {px : Pos} {scope : Scope} {cl : List (Str × Addr)} {pos : Pos}
def ASrc (prog : Program) (w : World) (A : Around) (h₀ : Heap) (L : Addr) (m : Map) (env : Env) (elt : Expr) (x : Str) (scope : Scope) (cl : List (Str × Addr)) (s : Shared) (y : Str) (Q : Flow → Shared → Prop) (xv : Value) (s₁ : Shared) : Prop :=
  ∃ (ax : Addr) (vs : List Value) (news : Led) (J : Nat → List Value → Led → Prop), xv = .ref ax ∧ Fr h₀ L s₁.heap m ∧ News h₀ L s₁.heap news ∧ J 0 [] news ∧ vs.length ≤ 1000 ∧ (∀ i ys nx, J i ys nx → LCg.SrcAt h₀ ax vs.toArray nx) ∧
      LTurn prog w A h₀ L m env elt x scope cl s vs.length (fun i v => vs[i]? = some v) J ∧
      (∀ D ys nx h tk, J vs.length ys nx → Fr h₀ L h (fun z => if z = y then some (.ref D) else m z) → News h₀ L h ((D, LCg.lst ys) :: nx) → (∀ p ∈ nx, p.1 ≠ D) → Q .next { s with heap := h, toks := tk }) ∧ s₁ = { s with heap := s₁.heap, toks := s₁.toks }
theorem assignL_listX {y : Str} {py spos : Pos} {Q : Flow → Shared → Prop} (F₀ : Fr h₀ L s.heap m) (hLe : env.locals = L)
    (hsw : swapsWith (.ListComp elt [⟨.Name x px, iter, [], 0⟩] scope pos) (some (.Name y py)) spos.line env = pure true)
    (hclos : closureFor scope env = pure cl) (hcell : ∀ y ∈ scope.names, y.2 ≠ .cell) (hkind : scope.kind = .function)
    (hnames : ∀ y ∈ scope.names, y.2 = .local → scope.names.lookup y.1 = some .local) (hx : scope.names.lookup x = some .local)
    (hy : env.kindOf y = some .local) (hp : (env.scope.kind == .class || (env.scope.kind == .module && env.locals != env.globals)) = false)
    (hh : A.handled = none)
    (h : wpAny (model prog w) A (eval iter env) (ASrc prog w A h₀ L m env elt x scope cl s y Q) E s)
    (hs : ∀ x, foldedSetIterable iter env x = pure x) :
    wpAny (model prog w) A (exec (.Assign [.Name y py] (.ListComp elt [⟨.Name x px, iter, [], 0⟩] scope pos) spos) env) Q E s :=
  assignL_list hLe hsw hclos hcell hkind hnames hx hy hp hh h hs
end
theorem walk_of {d₀ : DefRec} {k₀ : List (Str × Expr)} (e₀ : defOf vv (OpenLaw.row PySem.Challenge.rw_rs0125_01).name = some (d₀, k₀)) (h : WalkO vv [Str.ofString "EXACT_TOKEN_TYPES"] (XL vv []) (kHook kk.heap_1 kas kas_kk).says (OpenLaw.row PySem.Challenge.rw_rs0125_01).toRowW d₀ k₀ (fun f vs => PySem.call f vs)) : ∀ d kwd, defOf vv (OpenLaw.row PySem.Challenge.rw_rs0125_01).name = some (d, kwd) → WalkO vv [Str.ofString "EXACT_TOKEN_TYPES"] (XL vv []) (kHook kk.heap_1 kas kas_kk).says (OpenLaw.row PySem.Challenge.rw_rs0125_01).toRowW d kwd (fun f vs => PySem.call f vs) := by
  intro d kwd e
  rw [e₀] at e
  cases e
  exact h
theorem walk : ∀ d kwd, defOf vv (OpenLaw.row PySem.Challenge.rw_rs0125_01).name = some (d, kwd) → WalkO vv [Str.ofString "EXACT_TOKEN_TYPES"] (XL vv []) (kHook kk.heap_1 kas kas_kk).says (OpenLaw.row PySem.Challenge.rw_rs0125_01).toRowW d kwd (fun f vs => PySem.call f vs) := walk_of rfl (by
  k_go0
  (all_goals try k_fold)
  (try dsimp only)
  rename Shared => s1
  rename Below _ _ _ _ => K0
  rename IntsAre _ _ => hI
  rename Fr _ _ _ _ => F0
  rename News _ _ _ _ => N0
  rename Top _ _ _ _ _ _ => T0
  rename Frag.In _ _ => X0
  rename ¬ _ < _ => hlen
  rename Heap.IsList _ _ _ => hL
  rename_i ns hs_ hlay hLay hr1 hl2 w7 w6 sl vs w3 hra hw1 hr0 hr2 hcd2 hD h1 tk1 c3 c2 c1 hd3 hd2 hd1 hCells
  clear hs_ hlay hLay hr1 hl2 hra hw1 hr0 hr2 hcd2 hCells
  have hns : ns.length ≤ 63 := by omega
  change Fr _ _ h1 (fun y => if y = Str.ofString "script" then some (.ref sl) else none) at F0
  change c3.data = .cell none at hd3
  change c2.data = .cell none at hd2
  change c1.data = .cell none at hd1
  walk_at "my steps"
  k_dflt (refine' Con.use (con_drawn _ sl vs ns (hL.at fun o e => F0.keep _ _ e) hI hns) rfl ?x1 ?x2 ?x3 ?x4 ?x5 ?xd ?xu ?x6 ?_; (case x1 => exact K0); (case x2 => exact F0); (case x3 => exact X0); (case x4 => exact T0); (case x5 => exact rfl); (case xd => decide); (case xu => decide); (case x6 => exact N0); k_whole)
  intro r9 h9 tk9 st9 F9 N9 hp9
  obtain ⟨da, dxs, dc, ds, rfl, hdg, hdf, hdx, hdl, hd0⟩ := hp9
  have N10 := News.more F9 N9 hdg (fun es n q => by cases q) (fresh_of_stays F0.keep hdf)
  have hda := led_ne N0 hdf
  have hda3 : s1.heap.objs.size + 1 + 1 + 1 ≠ da := hda _ (.head _)
  have hda2 : s1.heap.objs.size + 1 + 1 ≠ da := hda _ (.tail _ (.head _))
  have hda1 : s1.heap.objs.size + 1 ≠ da := hda _ (.tail _ (.tail _ (.head _)))
  clear F0 N0 N9 hda
  (try dsimp only); (try k_fold)
  walk_at "my steps"
  rename Fr _ _ _ _ => F1
  rename News _ _ _ _ => N1
  rename_i c1n hc1n
  (try simp only [List.cons_append, List.nil_append] at N1)
  k_dflt (refine' Con.use (con_rules _ da dxs ds (isl (N1 _ (.head _)).1) hdx hdl hd0) rfl ?x1 ?x2 ?x3 ?x4 ?x5 ?xd ?xu ?x6 ?_; (case x1 => exact K0); (case x2 => exact F1); (case x3 => exact X0); (case x4 => exact T0); (case x5 => exact rfl); (case xd => decide); (case xu => decide); (case x6 => exact N1); k_whole)
  intro r9 h9 tk9 st9 F9 N9 hp9
  obtain ⟨ra, rs, rc, tl, R, rfl, hM, hRL, hRl, hRs⟩ := hp9
  have N10 := made_news F1 N9 hM
  have hm3 := made_sep (q := (_, c3)) N1 hM (.tail _ (.head _))
  have hm2 := made_sep (q := (_, c2)) N1 hM (.tail _ (.tail _ (.head _)))
  have hm1 := made_sep (q := (_, c1n)) N1 hM (.tail _ (.tail _ (.tail _ (.head _))))
  obtain ⟨b0, b1, b2, b3, b4, b5, rfl, H6⟩ := six_of R hRl hRs
  have hr3 := hm3 _ (.head _)
  have hr2 := hm2 _ (.head _)
  have hr1 := hm1 _ (.head _)
  have ht3 : ∀ p ∈ tl, p.1 ≠ _ := fun p hp => hm3 p (.tail _ hp)
  have ht2 : ∀ p ∈ tl, p.1 ≠ _ := fun p hp => hm2 p (.tail _ hp)
  have ht1 : ∀ p ∈ tl, p.1 ≠ _ := fun p hp => hm1 p (.tail _ hp)
  dsimp only at hr1 hr2 hr3 ht1 ht2 ht3
  have N2 := news_sub (B := (da, listOf dxs.toArray dc) :: (s1.heap.objs.size + 1 + 1 + 1, c3) :: (s1.heap.objs.size + 1 + 1, c2) :: (s1.heap.objs.size + 1, c1n) :: (ra, listOf (List.toArray rs) rc) :: tl) N10 (fun z hz => by revert z; walk_at "sub")
  clear F1 N1 N9 N10 hm1 hm2 hm3
  (try dsimp only); (try k_fold)
  walk_at "my steps"
  rename Fr _ _ _ _ => F3
  rename News _ _ _ _ => N3
  k_dflt refine' compL_range (n := 3) (a := 0) F3 ?l1 ?l2 ?l3 ?l4 ?l5 (fun j us nx => nx = (da, listOf dxs.toArray dc) :: (s1.heap.objs.size + 1 + 1 + 1, c3) :: (s1.heap.objs.size + 1 + 1, c2) :: (s1.heap.objs.size + 1, c1n) :: (ra, listOf (List.toArray rs) rc) :: tl ∧ ∃ cs : List Nat, cs.length = j ∧ StrsAre us (cs.map fun c => (⟨#[c]⟩ : Str)) ∧ ∀ c ∈ cs, Al4 c) (by omega) (by omega) (by omega) rfl ?lt ?ld ?lh ?ls
  case l1 => exact rfl
  case l2 => decide
  case l3 => exact rfl
  case l4 => decide
  case l5 => exact rfl
  case ls => exact fun _ => rfl
  case lh =>
    (try k_fold)
    walk_at "my steps"
    exact SrcRg.intro (by assumption) (by assumption) (by assumption) (by omega) ⟨rfl, [], rfl, .nil, fun _ h => absurd h List.not_mem_nil⟩
  case ld =>
    rintro D8 us nx h10 tk10 ⟨rfl, cs, hcl, hcs, hca⟩ F8 N8 hne8
    clear F3 N3
    obtain ⟨a0, a1, a2, u0, u1, u2, rfl, rfl⟩ := three_strs hcl hcs
    have hA0 := hca a0 (.head _)
    have hA1 := hca a1 (.tail _ (.head _))
    have hA2 := hca a2 (.tail _ (.tail _ (.head _)))
    change News _ _ h10 ((D8, listOf #[.str ⟨#[a0]⟩ u0, .str ⟨#[a1]⟩ u1, .str ⟨#[a2]⟩ u2] 3) :: _) at N8
    have hD0 : da ≠ D8 := hne8 _ (.head _)
    have hD3 : s1.heap.objs.size + 1 + 1 + 1 ≠ D8 := hne8 _ (.tail _ (.head _))
    have hD2 : s1.heap.objs.size + 1 + 1 ≠ D8 := hne8 _ (.tail _ (.tail _ (.head _)))
    have hD1 : s1.heap.objs.size + 1 ≠ D8 := hne8 _ (.tail _ (.tail _ (.tail _ (.head _))))
    (try dsimp only); (try k_fold)
    walk_at "my steps"
    refine join_list (ys := [⟨#[a0]⟩, ⟨#[a1]⟩, ⟨#[a2]⟩]) (isl (N8 _ (.head _)).1) (.cons _ _ (.cons _ _ (.cons _ _ .nil))) (by show 1 + (1 + (1 + 0)) + 3 * 0 ≤ 16777216; omega) ?_
    intro tj kj
    rw [show Txt.join (Str.ofString "") [(⟨#[a0]⟩ : Str), ⟨#[a1]⟩, ⟨#[a2]⟩] = ⟨#[a0, a1, a2]⟩ from rfl]
    (try dsimp only); (try k_fold)
    walk_at "my steps"
    rename Fr _ _ _ _ => F4
    rename News _ _ _ _ => N4
    rename_i h4 c2n hc2n
    try clear F8
    try clear N8
    have hRH4 : RulesH h4 (.ref ra) (six b0 b1 b2 b3 b4 b5) := rulesH_of hRL N4 (.tail _ (.tail _ (.tail _ (.tail _ (.tail _ (.head _)))))) (fun p hp => .tail _ (.tail _ (.tail _ (.tail _ (.tail _ (.tail _ hp))))))
    k_dflt (refine' Con.use (con_tape _ (.ref ra) (six b0 b1 b2 b3 b4 b5) (six_ok H6) (Nat.le_refl 6) hRH4) rfl ?y1 ?y2 ?y3 ?y4 ?y5 ?yd ?yu ?y6 ?_; (case y1 => exact K0); (case y2 => exact F4); (case y3 => exact X0); (case y4 => exact T0); (case y5 => exact rfl); (case yd => decide); (case yu => decide); (case y6 => exact N4); k_whole)
    intro r5 h5 tk5 st5 F5 N5 hp5
    obtain ⟨ta, txs, tc, rfl, htg, htf, htx⟩ := hp5
    have N6 := News.more F5 N5 htg (fun es n q => by cases q) (fresh_of_stays F4.keep htf)
    have hta := led_ne N4 htf
    clear F4 N4 N5 hRH4
    (try dsimp only); (try k_fold)
    walk_at "my steps"
    k_dflt (refine' con_read (six b0 b1 b2 b3 b4 b5) (six_ok H6) (by show 6 ≤ 100; omega) htx hta K0 F5 X0 T0 N6 rfl (by decide) (by decide) ?_; k_whole)
    intro h6 tk6 fd od kvs tlf F6 N7 hod hFL hfd hft
    clear F5 N6
    have hE3 : fd ≠ s1.heap.objs.size + 1 + 1 + 1 := fun e => hfd.2 _ (.tail _ (.tail _ (.head _))) e.symm
    have hE3' : s1.heap.objs.size + 1 + 1 + 1 ≠ fd := fun e => hE3 e.symm
    have htt3 : ∀ p ∈ tlf ++ tl, p.1 ≠ s1.heap.objs.size + 1 + 1 + 1 := fun p hp => by
      rcases List.mem_append.mp hp with h | h
      · exact (hft p h).2 _ (.tail _ (.tail _ (.head _)))
      · exact ht3 p h
    have N8 := news_sub (B := (fd, od) :: (s1.heap.objs.size + 1 + 1 + 1, c3) :: (s1.heap.objs.size + 1 + 1, c2n) :: (s1.heap.objs.size + 1, c1n) :: (ra, listOf (List.toArray rs) rc) :: (tlf ++ tl)) N7 (fun z hz => by revert z; walk_at "sub")
    clear N7
    (try dsimp only); (try k_fold)
    walk_at "my steps"
    rename Fr _ _ _ _ => F7
    rename News _ _ _ _ => N7
    rename_i h7 c3n hc3n
    k_dflt refine' assignL_listX F7 rfl ?g1 ?g2 ?g3 ?g4 ?g5 ?g6 ?g7 ?g8 rfl ?gh ?gs
    case g1 => exact rfl
    case g2 => exact rfl
    case g3 => decide
    case g4 => exact rfl
    case g5 => decide
    case g6 => exact rfl
    case g7 => exact rfl
    case g8 => exact rfl
    case gs => exact fun _ => rfl
    case gh =>
      (try k_fold)
      walk_at "my steps"
      rename Fr _ _ _ _ => F8
      rename News _ _ _ _ => N8
      rename_i l5 h8 ll5
      dsimp only [qk]
      refine ⟨l5, [.int 256 tk6, .int 257 (tk6 + 1), .int 258 (tk6 + 1 + 1)], _, (fun j ys nx => nx = (l5, listOf #[.int 256 tk6, .int 257 (tk6 + 1), .int 258 (tk6 + 1 + 1)] 0) :: (fd, od) :: (s1.heap.objs.size + 1 + 1 + 1, c3n) :: (s1.heap.objs.size + 1 + 1, c2n) :: (s1.heap.objs.size + 1, c1n) :: (ra, listOf (List.toArray rs) rc) :: (tlf ++ tl) ∧ IntsAre ys ((([256, 257, 258] : List Int).map fun k => ((wholeT [a0, a1, a2] (six b0 b1 b2 b3 b4 b5).reverse k).getD zeroT) 0 3).take j)), rfl, F8, N8, ⟨rfl, .nil⟩, by show 3 ≤ 1000; omega, ?_, ?_, ?_, rfl⟩
      · rintro j ys nx ⟨rfl, _⟩
        exact .inr ⟨_, .head _, rfl, _, rfl⟩
      · rintro j v I9 oI9 C9 oC9 D9 m₃ ys nx s₂ E2 hj hv ⟨rfl, hy⟩ hoC9 hm₃ F9 N9 hoff9 hne9 hs9
        clear F8 N8
        simp only [List.cons_append, List.nil_append] at N9
        obtain ⟨k, tk9, hk9, rfl, hkk⟩ : ∃ k t, ([256, 257, 258] : List Int)[j]? = some k ∧ v = .int k t ∧ (k = 256 ∨ k = 257 ∨ k = 258) := by
          have hj' : j = 0 ∨ j = 1 ∨ j = 2 := by simp at hj; omega
          rcases hj' with rfl | rfl | rfl
          · exact ⟨256, _, rfl, (Option.some.inj hv).symm, .inl rfl⟩
          · exact ⟨257, _, rfl, (Option.some.inj hv).symm, .inr (.inl rfl)⟩
          · exact ⟨258, _, rfl, (Option.some.inj hv).symm, .inr (.inr rfl)⟩
        (try k_fold)
        walk_at "my steps"
        have hFH : FoundH PySem.Challenge.rw_rs0125_01.row.prog _ _ (.ref fd) (Gof (six b0 b1 b2 b3 b4 b5)) := foundH_of hFL hod (fun k hk => G_ne k hk) N9 (by walk_at "mm") (fun p hp => by simp [hp])
        k_dflt (refine' Con.use (con_sentences _ fd k tk9 (Gof (six b0 b1 b2 b3 b4 b5)) hFH (six_fuel H6 k hkk) (G_small H6)) rfl ?z1 ?z2 ?z3 ?z4 ?z5 ?zd ?zu ?z6 ?_; (case z1 => exact K0); (case z2 => exact F9); (case z3 => exact X0); (case z4 => exact T0); (case z5 => exact rfl); (case zd => decide); (case zu => decide); (case z6 => exact N9); k_whole)
        intro r10 h10 tk10 st10 F10 N10 hp10
        obtain ⟨la, us, rfl, hla, hus⟩ := hp10
        clear hFH F9 N9
        (try dsimp only); (try k_fold)
        walk_at "my steps"
        k_dflt (refine' Con.use (con_nearest _ la us _ ⟨#[a0, a1, a2]⟩ tj hla hus (six_short _ k) (by show 3 ≤ 40; omega)) rfl ?u1 ?u2 ?u3 ?u4 ?u5 ?ud ?uu ?u6 ?_; (case u1 => exact K0); (case u2 => exact F10); (case u3 => exact X0); (case u4 => exact T0); (case u5 => exact rfl); (case ud => decide); (case uu => decide); (case u6 => exact N10); k_whole)
        intro r11 h11 tk11 st11 F11 N11 hp11
        obtain ⟨tn, rfl⟩ := hp11
        clear F10 N10
        (try dsimp only); (try k_fold)
        walk_at "my steps"
        refine CEnd.intro F11 N11 _ (fun p hp => hp) hoff9 ⟨rfl, ?_⟩
        rw [List.take_add_one, List.getElem?_map, hk9, six_near H6 (t := [a0, a1, a2]) rfl rfl k hkk]
        exact hy.append (.cons _ _ .nil)
      · rintro D9 ys nx h9 tk9 ⟨rfl, hy⟩ F9 N9 hoff9
        clear F8 N8
        (try dsimp only); (try k_fold)
        walk_at "my steps"
        have hRH9 : RulesH h9 (.ref ra) (six b0 b1 b2 b3 b4 b5) := rulesH_of (rc := rc) hRL N9 (by walk_at "mm") (fun p hp => by simp [hp])
        k_dflt (refine' Con.use (con_stretches _ (.ref ra) (six b0 b1 b2 b3 b4 b5) a0 a1 a2 tj hA0 hA1 hA2 hRH9 rfl (six_wf H6 _) (six_fin _)) rfl ?z1 ?z2 ?z3 ?z4 ?z5 ?zd ?zu ?z6 ?_; (case z1 => exact K0); (case z2 => exact F9); (case z3 => exact X0); (case z4 => exact T0); (case z5 => exact rfl); (case zd => decide); (case zu => decide); (case z6 => exact N9); k_whole)
        intro r10 h10 tk10 st10 F10 N10 hp10
        obtain ⟨la, us, lc, rfl, hla, hlf, hus⟩ := hp10
        rw [List.take_of_length_le (by walk_at "mm")] at hy
        (try dsimp only); (try k_fold)
        walk_at "my steps"
        k_dflt (refine' ke_eq_ints (xs := ys) (ys := us) (isl (N10 _ (.head _)).1) (isl hla) hy hus (by ke_room) ?_; k_whole)
        rw [decide_eq_true rfl]
        (try dsimp only); (try k_fold)
        walk_at "my steps"
        wrow_close
  case lt =>
    rintro j v I8 oI8 C8 oC8 D8 m₃ us nx s₂ E2 hj ⟨tj, rfl⟩ ⟨rfl, cs, hcl, hcs, hca⟩ hoC8 hm₃ F8 N8 hoff8 hne8 hs8
    clear F3 N3
    simp only [List.cons_append, List.nil_append] at N8
    have hj' : j = 0 ∨ j = 1 ∨ j = 2 := by omega
    rcases hj' with rfl | rfl | rfl
    all_goals (
      (try k_fold)
      walk_at "my steps"
      rw [txt_item4]
      exact CEnd.intro (by assumption) (by assumption) _ (fun p hp => hp) hoff8 ⟨rfl, txt_snoc hcl hcs hca⟩))
end Mine
end

section
open PySem PySem.W PyProof.Rows
set_option Elab.async false
set_option maxRecDepth 100000
set_option maxHeartbeats 8000000
namespace Mine
/- names that the head would give to its own quick twins of the defs that it lays: taken, so that it goes without them (they are of no use here and would make the compiled file 16 MB larger) -/
theorem lawT.tw14813322233397399043 : True := trivial
theorem lawT.tw17912130172406275858 : True := trivial
theorem lawT.tw3499746542377841854 : True := trivial
theorem lawT.tw16306742552841901821 : True := trivial
theorem lawT.tw5193995869548900021 : True := trivial
theorem lawT.tw3531076201778258167 : True := trivial
theorem lawT.tw2706758362191664347 : True := trivial
theorem lawT.tw2059439900941533773 : True := trivial
theorem lawT.tw4085292312361975346 : True := trivial
theorem lawT.tw5540435226612475987 : True := trivial
theorem lawT.tw11801720471845031063 : True := trivial
theorem lawT.tw16191367524700279964 : True := trivial
theorem lawT.tw2337608521092029074 : True := trivial
theorem lawT.tw18184010330841290984 : True := trivial
theorem lawT.tw5637789023679369 : True := trivial
theorem lawT.tw17103209499194658948 : True := trivial
theorem lawT.tw13753992867449215604 : True := trivial
theorem lawT.tw1575322794432820369 : True := trivial
theorem lawT.tw15524009723807831575 : True := trivial
theorem lawT.tw2192430817263036245 : True := trivial
theorem lawT.tw17068940109249155700 : True := trivial
theorem lawT.tw8803027681812298363 : True := trivial
theorem lawT.tw5115072813613212902 : True := trivial
theorem lawT.tw8770399086679700279 : True := trivial
theorem lawT.tw18292367192976940542 : True := trivial
theorem lawT.tw1940726864513484884 : True := trivial
theorem lawT.tw3063754571980898619 : True := trivial
theorem lawT.tw5112610731112245267 : True := trivial
theorem lawT.tw3956217345532885462 : True := trivial
theorem lawT.tw7529985242682883274 : True := trivial
theorem lawT.tw17547926917826507404 : True := trivial
theorem lawT.tw6150572265032274324 : True := trivial
theorem lawT.tw10251199996062746799 : True := trivial
theorem lawT.tw12485971303258090074 : True := trivial
theorem lawT.tw17687772868262115211 : True := trivial
theorem lawT.tw3061268461672246630 : True := trivial
theorem lawT.tw16414920292232599483 : True := trivial
theorem lawT.tw7543043752514519370 : True := trivial
theorem lawT.tw12631748491714779444 : True := trivial
theorem lawT.tw9163976727522603320 : True := trivial
theorem lawT.tw1101667219631665364 : True := trivial
theorem lawT.tw6200819308991098794 : True := trivial
theorem lawT.tw2298782074097359716 : True := trivial
theorem lawT.tw16758828649722048419 : True := trivial
theorem lawT.tw16241256156001525921 : True := trivial
theorem lawT.tw11695868954811196762 : True := trivial
theorem lawT.tw7805270066356673609 : True := trivial
theorem lawT.tw7781485550899621842 : True := trivial
theorem lawT.tw9820752921979625601 : True := trivial
theorem lawT.tw11858955717896915996 : True := trivial
theorem lawT.tw18082896986096657357 : True := trivial
theorem lawT.tw15626567919816005885 : True := trivial
theorem lawT.tw9519953200757049573 : True := trivial
theorem lawT.tw10811335992638853385 : True := trivial
theorem lawT.tw13512623714493146785 : True := trivial
theorem lawT.tw12663660485266932870 : True := trivial
theorem lawT.tw16153991904484936447 : True := trivial
theorem lawT.tw17034741657396157475 : True := trivial
theorem lawT.tw15091403282526227135 : True := trivial
theorem lawT.tw16945139769450650382 : True := trivial
theorem lawT.tw12330104743804715020 : True := trivial
theorem lawT.tw16725033478781971584 : True := trivial
theorem lawT.tw5657392562864081608 : True := trivial
theorem lawT.tw8320285658908009362 : True := trivial
theorem lawT.tw5862867536084694604 : True := trivial
theorem lawT.tw10433576947672777602 : True := trivial
theorem lawT.tw5276473142192229966 : True := trivial
theorem lawT.tw9158525012453688093 : True := trivial
theorem lawT.tw1757822339931356419 : True := trivial
theorem lawT.tw5672398138771548517 : True := trivial
theorem lawT.tw12603300115819391598 : True := trivial
theorem lawT.tw2842617487397823366 : True := trivial
theorem lawT.tw11344295216304715190 : True := trivial
theorem lawT.tw18030087037689892010 : True := trivial
theorem lawT.tw16497179986206410780 : True := trivial
theorem lawT.tw10136614934363614362 : True := trivial
theorem lawT.tw6711351219207336675 : True := trivial
theorem lawT.tw17964953070971125951 : True := trivial
theorem lawT.tw6762583436824678750 : True := trivial
theorem lawT.tw15170974509361797054 : True := trivial
theorem lawT.tw16253247185643107686 : True := trivial
theorem lawT.tw2528273637766395757 : True := trivial
theorem lawT.tw1286148536004849942 : True := trivial
theorem lawT.tw7597866931890042018 : True := trivial
theorem lawT.tw1558034353231879244 : True := trivial
theorem lawT.tw8395178377750397819 : True := trivial
theorem lawT.tw15094137676452916655 : True := trivial
theorem lawT.tw14935867393346671497 : True := trivial
theorem lawT.tw9398851174904883610 : True := trivial
theorem lawT.tw5938903580142964605 : True := trivial
theorem lawT.tw161236207124493297 : True := trivial
theorem lawT.tw17210016377997813347 : True := trivial
theorem lawT.tw17089154766579864898 : True := trivial
theorem lawT.tw6738108866513998953 : True := trivial
theorem lawT.tw7528176536728550346 : True := trivial
theorem lawT.tw8445957942363573884 : True := trivial
theorem lawT.tw16490950055996847365 : True := trivial
theorem lawT.tw2540461266776722236 : True := trivial
theorem lawT.tw5337910717478668231 : True := trivial
theorem lawT.tw6314445845500888954 : True := trivial
theorem lawT.tw11322272262455122332 : True := trivial
theorem lawT.tw11550143704304662060 : True := trivial
theorem lawT.tw16829802788435467021 : True := trivial
theorem lawT.tw184270684030672397 : True := trivial
theorem lawT.tw7196705921500699120 : True := trivial
theorem lawT.tw9728888759220732948 : True := trivial
theorem lawT.tw4512382646177399360 : True := trivial
theorem lawT.tw17288560384106460444 : True := trivial
theorem lawT.tw17458832985058227628 : True := trivial
theorem lawT.tw3655218132494780880 : True := trivial
theorem lawT.tw1308956276503923829 : True := trivial
theorem lawT.tw14319742205934214395 : True := trivial
theorem lawT.tw340575432980958467 : True := trivial
theorem lawT.tw16860173950001930000 : True := trivial
theorem lawT.tw9093347588758853463 : True := trivial
theorem lawT.tw3622124141659625656 : True := trivial
theorem lawT.tw2802827502222440997 : True := trivial
theorem lawT.tw12768497168819598045 : True := trivial
theorem lawT.tw6708419345233149503 : True := trivial
theorem lawT.tw10994564639479759493 : True := trivial
theorem lawT.tw6021158008034930837 : True := trivial
theorem lawT.tw12054122035665294737 : True := trivial
set_option Elab.async true in
theorem lawT : PySem.Challenge.rw_rs0125_01.Holds := by
  w_on
  o_law
  o_head (kHook kk.heap_1 kas kas_kk)
  case hw => w_witness2
  exact walk _ _ rfl
#print axioms lawT
end Mine
end

theorem PySem.Challenge.cw_rs0125_01_holds : PySem.Challenge.rw_rs0125_01.Holds := by
  exact Mine.lawT
