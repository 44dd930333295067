import PyProof.Rows.All
import Wide.All
import OpenK.AllK
import Wide.FinOn
import PySem.Challenge.RW_dw5009_01
set_option Elab.async false
section
open PySem PySem.W PyProof.Rows
namespace Mine
local macro_rules | `(tactic| k_head) => `(tactic| x_head)
set_option maxRecDepth 100000 in
set_option maxHeartbeats 8000000 in
open_top hd for PySem.Challenge.rw_dw5009_01
end Mine
end
section
open PySem PySem.W PyProof.Rows
namespace Mine
set_option maxRecDepth 100000
noncomputable def objAt (a : Nat) (P : Params) : Obj := ((hd.heap_39 P).lookup a).getD default
noncomputable def myK (P : Params) : Frag := [(nat_lit 0, objAt 0 P), (nat_lit 1, objAt 1 P), (nat_lit 2, objAt 2 P), (nat_lit 3, objAt 3 P), (nat_lit 4, objAt 4 P), (nat_lit 5, objAt 5 P), (nat_lit 6, objAt 6 P), (nat_lit 7, objAt 7 P), (nat_lit 9, objAt 9 P), (nat_lit 10, objAt 10 P), (nat_lit 11, objAt 11 P), (nat_lit 13, objAt 13 P), (nat_lit 14, objAt 14 P), (nat_lit 15, objAt 15 P), (nat_lit 17, objAt 17 P), (nat_lit 18, objAt 18 P), (nat_lit 19, objAt 19 P), (nat_lit 20, objAt 20 P), (nat_lit 21, objAt 21 P), (nat_lit 22, objAt 22 P), (nat_lit 24, objAt 24 P), (nat_lit 25, objAt 25 P), (nat_lit 26, objAt 26 P), (nat_lit 27, objAt 27 P), (nat_lit 28, objAt 28 P), (nat_lit 29, objAt 29 P), (nat_lit 30, objAt 30 P), (nat_lit 31, objAt 31 P), (nat_lit 33, objAt 33 P), (nat_lit 34, objAt 34 P), (nat_lit 35, objAt 35 P), (nat_lit 36, objAt 36 P), (nat_lit 37, objAt 37 P), (nat_lit 38, objAt 38 P), (nat_lit 40, objAt 40 P), (nat_lit 41, objAt 41 P), (nat_lit 42, objAt 42 P), (nat_lit 43, objAt 43 P), (nat_lit 44, objAt 44 P), (nat_lit 45, objAt 45 P), (nat_lit 47, objAt 47 P), (nat_lit 48, objAt 48 P), (nat_lit 49, objAt 49 P), (nat_lit 50, objAt 50 P), (nat_lit 52, objAt 52 P), (nat_lit 53, objAt 53 P), (nat_lit 54, objAt 54 P), (nat_lit 55, objAt 55 P), (nat_lit 57, objAt 57 P), (nat_lit 58, objAt 58 P), (nat_lit 59, objAt 59 P), (nat_lit 60, objAt 60 P), (nat_lit 62, objAt 62 P), (nat_lit 63, objAt 63 P), (nat_lit 64, objAt 64 P)]
theorem sub_in {K : Frag} {h : Heap} {as : List Nat} (X : K.In h) (he : ∀ a ∈ as, (K.lookup a).isSome = true) : Frag.In (as.map fun a => (a, (K.lookup a).getD default)) h := by
  induction as with
  | nil => intro a o e; cases e
  | cons b r ih =>
    intro a o e
    rw [List.map_cons, List.lookup_cons] at e
    cases hb : a == b with
    | true =>
      rw [hb] at e
      have hab := eq_of_beq hb
      subst hab
      have h1 := he a (.head _)
      obtain ⟨x, hx⟩ := Option.isSome_iff_exists.mp h1
      simp only [hx, Option.getD_some, Option.some.injEq] at e
      subst e
      exact X _ _ hx
    | false =>
      rw [hb] at e
      exact ih (fun c hc => he c (.tail _ hc)) a o e
theorem all_some (P : Params) : ([0, 1, 2, 3, 4, 5, 6, 7, 9, 10, 11, 13, 14, 15, 17, 18, 19, 20, 21, 22, 24, 25, 26, 27, 28, 29, 30, 31, 33, 34, 35, 36, 37, 38, 40, 41, 42, 43, 44, 45, 47, 48, 49, 50, 52, 53, 54, 55, 57, 58, 59, 60, 62, 63, 64] : List Nat).all (fun a => ((hd.heap_39 P).lookup a).isSome) = true := by kernel_rfl
theorem myK_eq (P : Params) : myK P = ([0, 1, 2, 3, 4, 5, 6, 7, 9, 10, 11, 13, 14, 15, 17, 18, 19, 20, 21, 22, 24, 25, 26, 27, 28, 29, 30, 31, 33, 34, 35, 36, 37, 38, 40, 41, 42, 43, 44, 45, 47, 48, 49, 50, 52, 53, 54, 55, 57, 58, 59, 60, 62, 63, 64] : List Nat).map fun a => (a, ((hd.heap_39 P).lookup a).getD default) := by kernel_rfl
theorem myK_in {P : Params} {h : Heap} (X : (hd.heap_39 P).In h) : (myK P).In h := by
  rw [myK_eq]
  exact sub_in X fun a ha => List.all_eq_true.mp (all_some P) a ha
theorem myK_noTabs (P : Params) : noTabs (myK P) = true := by kernel_rfl
theorem my23 {P : Params} {h : Heap} (X : (hd.heap_39 P).In h) : ∀ Q ∈ ([23] : List Nat), h.get? Q = some (tabObj #[]) := by
  intro Q hQ
  rw [List.mem_singleton.mp hQ]
  exact X 23 (tabObj #[]) (by kernel_rfl)
theorem myHd (P : Params) : codeHdIn (myK P) 27 23 = true := by kernel_rfl
end Mine
end
section
open PySem PySem.W PyProof.Rows PySem.W.X
namespace Mine
set_option maxRecDepth 100000
def bigA : Around := { handled := none, depth := 400, frames := none, guards := none, units := 1000 }
theorem wpAny_big {α : Type} {M : Model} {A : Around} {t : Sem α} {Q : α → Shared → Prop} {E : Value → Shared → Prop} {s : Shared}
    (hh : A.handled = none) (hd : A.depth ≤ 400) (hu : A.units ≤ 1000) (h : wpAny M bigA t Q E s) : wpAny M A t Q E s :=
  fun Γ p hΓ => h Γ p ⟨hΓ.1.trans hh, Nat.le_trans hΓ.2.1 hd, fun _ e => (by cases e), fun _ e => (by cases e), Nat.le_trans hΓ.2.2.2.2 hu⟩
/-- the body of the class that cmp_to_key makes -/
def kDef (i : Nat) : Stmt := match (PySem.Challenge.pw_dw5009_01.main.body[2]? : Option Stmt) with
  | some (.FunctionDef _ _ body _ _ _ _ _ _ _) => (match (body[0]? : Option Stmt) with
    | some (.ClassDef _ _ _ b _ _ _ _ _ _ _) => b.getD i default
    | _ => default)
  | _ => default
def sParams : Stmt → Arguments
  | .FunctionDef _ a _ _ _ _ _ _ _ _ => a
  | _ => default
def sBody : Stmt → List Stmt
  | .FunctionDef _ _ b _ _ _ _ _ _ _ => b
  | _ => []
def sScope : Stmt → Scope
  | .FunctionDef _ _ _ _ _ _ s _ _ _ => s
  | _ => default
/-- a method of the class, as the heap holds it -/
def kFn (name qual : Str) (i : Nat) (clos : List (Str × Addr)) (doc pm : Value) (c : Addr) (ct : Value) : Obj :=
  { cls := .type "function", data := .func { name := name, qualname := qual, params := sParams (kDef i), body := .stmts (sBody (kDef i)), scope := sScope (kDef i), globals := 3, closure := clos, defaults := .none, kwdefaults := .none, doc := doc, pyModule := pm, code := .ref c, closureTuple := ct, builtins := 0 } }
def kCls (C ns : Addr) (q : Str) (s0 s2 s3 s5 : Option Value) : Obj :=
  { cls := .type "type", data := .cls { name := ⟨#[75]⟩, bases := [.type "object"], mro := [.ref C, .type "object"], ns := ns, qualname := q, hasDict := false, slotNames := [⟨#[111, 98, 106]⟩] }, slots := #[s0, none, s2, s3, some (.builtin "object.__new__"), s5] }
def kNs (h : List Int) (t : List Tok) (v : List Value) (fi fl md : Addr) (n : Nat) : Obj :=
  { cls := .type "dict", data := .dict #[⟨h.getD 0 0, .str ⟨#[95, 95, 109, 111, 100, 117, 108, 101, 95, 95]⟩ (t.getD 0 0), (v.getD 0 .none)⟩,
      ⟨h.getD 1 0, .str ⟨#[95, 95, 102, 105, 114, 115, 116, 108, 105, 110, 101, 110, 111, 95, 95]⟩ (t.getD 1 0), (v.getD 1 .none)⟩,
      ⟨h.getD 2 0, .str ⟨#[95, 95, 115, 108, 111, 116, 115, 95, 95]⟩ (t.getD 2 0), (v.getD 2 .none)⟩,
      ⟨h.getD 3 0, .str ⟨#[95, 95, 105, 110, 105, 116, 95, 95]⟩ (t.getD 3 0), .ref fi⟩,
      ⟨h.getD 4 0, .str ⟨#[95, 95, 108, 116, 95, 95]⟩ (t.getD 4 0), .ref fl⟩,
      ⟨h.getD 5 0, .str ⟨#[95, 95, 103, 116, 95, 95]⟩ (t.getD 5 0), (v.getD 5 .none)⟩,
      ⟨h.getD 6 0, .str ⟨#[95, 95, 101, 113, 95, 95]⟩ (t.getD 6 0), (v.getD 6 .none)⟩,
      ⟨h.getD 7 0, .str ⟨#[95, 95, 108, 101, 95, 95]⟩ (t.getD 7 0), (v.getD 7 .none)⟩,
      ⟨h.getD 8 0, .str ⟨#[95, 95, 103, 101, 95, 95]⟩ (t.getD 8 0), (v.getD 8 .none)⟩,
      ⟨h.getD 9 0, .str ⟨#[95, 95, 104, 97, 115, 104, 95, 95]⟩ (t.getD 9 0), .none⟩,
      ⟨h.getD 10 0, .str ⟨#[95, 95, 115, 116, 97, 116, 105, 99, 95, 97, 116, 116, 114, 105, 98, 117, 116, 101, 115, 95, 95]⟩ (t.getD 10 0), (v.getD 10 .none)⟩,
      ⟨h.getD 11 0, .str ⟨#[111, 98, 106]⟩ (t.getD 11 0), .ref md⟩,
      ⟨h.getD 12 0, .str ⟨#[95, 95, 100, 111, 99, 95, 95]⟩ (t.getD 12 0), (v.getD 12 .none)⟩] n }
def kMd (C : Addr) (t : Tok) : Obj := { cls := .type "member_descriptor", data := .fields #[.str ⟨#[111, 98, 106]⟩ t, .ref C, .builtin "proto.slot", .builtin "proto.slot#set", .int 0 0] }
/-- what of a code object does not matter -/
structure CodeW where
  a0 : Value
  rest : List Value
  cd : Option Addr
  cs : Array (Option Value)
/-- a code object: its name's place told -/
def kCode (w : CodeW) (q : Str) (t : Tok) : Obj := { cls := .type "code", dict := w.cd, data := .fields (Array.mk (w.a0 :: .str q t :: w.rest)), slots := w.cs }
def kCell (x : Obj) : Obj := { x with data := .cell (some (.ref 44)) }
def nInit : Str := ⟨#[95, 95, 105, 110, 105, 116, 95, 95]⟩
def nLt : Str := ⟨#[95, 95, 108, 116, 95, 95]⟩
def qInit : Str := ⟨#[99, 109, 112, 95, 116, 111, 95, 107, 101, 121, 46, 60, 108, 111, 99, 97, 108, 115, 62, 46, 75, 46, 95, 95, 105, 110, 105, 116, 95, 95]⟩
def qLt : Str := ⟨#[99, 109, 112, 95, 116, 111, 95, 107, 101, 121, 46, 60, 108, 111, 99, 97, 108, 115, 62, 46, 75, 46, 95, 95, 108, 116, 95, 95]⟩
def nMy : Str := ⟨#[109, 121, 99, 109, 112]⟩
/-- two methods' codes, which the first run of the class statement leaves behind for good -/
structure TI where
  c0 : Addr
  c1 : Addr
  w0 : CodeW
  w1 : CodeW
  t0 : Tok
  t1 : Tok
def TI.objs (t : TI) : List (Addr × Obj) := [(t.c0, kCode t.w0 qInit t.t0), (t.c1, kCode t.w1 qLt t.t1)]
/-- a class that a run of the statement makes -/
structure KI where
  C : Addr
  ns : Addr
  md : Addr
  fi : Addr
  fl : Addr
  cl : Addr
  oc : Obj
  q : Str
  s0 : Option Value
  s2 : Option Value
  s3 : Option Value
  s5 : Option Value
  hs : List Int
  ts : List Tok
  v : List Value
  n : Nat
  t : Tok
  doc0 : Value
  pm0 : Value
  ct0 : Value
  doc1 : Value
  pm1 : Value
  ct1 : Value
def KI.objs (k : KI) (t : TI) : List (Addr × Obj) := [(k.C, kCls k.C k.ns k.q k.s0 k.s2 k.s3 k.s5), (k.ns, kNs k.hs k.ts k.v k.fi k.fl k.md k.n), (k.md, kMd k.C k.t),
  (k.fi, kFn nInit qInit 2 [] k.doc0 k.pm0 t.c0 k.ct0), (k.fl, kFn nLt qLt 3 [(nMy, k.cl)] k.doc1 k.pm1 t.c1 k.ct1), (k.cl, kCell k.oc)]
end Mine
end
section
open PySem PySem.W PyProof.Rows PySem.W.X
namespace Mine
set_option maxRecDepth 100000
/-- what a called thing leaves: all that stood stands, and what it made -/
def Keeps (h h' : Heap) : Prop := ∀ b o, h.get? b = some o → h'.get? b = some o
theorem keeps_of {h h' : Heap} {news : List (Addr × Obj)} (D : Mem h h' [] news) : Keeps h h' := fun b o e => D.keep b o e (by simp [away])
def HasAll (h : Heap) (l : List (Addr × Obj)) : Prop := ∀ p ∈ l, h.get? p.1 = some p.2
section
variable (t : TI) (k : KI)
theorem m_C : (k.C, kCls k.C k.ns k.q k.s0 k.s2 k.s3 k.s5) ∈ t.objs ++ k.objs t := by simp [KI.objs]
theorem m_ns : (k.ns, kNs k.hs k.ts k.v k.fi k.fl k.md k.n) ∈ t.objs ++ k.objs t := by simp [KI.objs]
theorem m_md : (k.md, kMd k.C k.t) ∈ t.objs ++ k.objs t := by simp [KI.objs]
theorem m_fi : (k.fi, kFn nInit qInit 2 [] k.doc0 k.pm0 t.c0 k.ct0) ∈ t.objs ++ k.objs t := by simp [KI.objs]
theorem m_fl : (k.fl, kFn nLt qLt 3 [(nMy, k.cl)] k.doc1 k.pm1 t.c1 k.ct1) ∈ t.objs ++ k.objs t := by simp [KI.objs]
theorem m_cl : (k.cl, kCell k.oc) ∈ t.objs ++ k.objs t := by simp [KI.objs]
theorem m_c0 : (t.c0, kCode t.w0 qInit t.t0) ∈ t.objs ++ k.objs t := by simp [TI.objs]
theorem m_c1 : (t.c1, kCode t.w1 qLt t.t1) ∈ t.objs ++ k.objs t := by simp [TI.objs]
end
local macro_rules | `(tactic| x_close) => `(tactic| (
  (rename Mem _ _ _ _ => D')
  (rename (∀ _ _ _ _, Keeps _ _ → _) => hQ')
  exact hQ' _ _ _ _ (keeps_of D') (D'.at 1 _ _ rfl) (D'.nw _ (List.mem_of_getElem? (i := 1) rfl)).2))
set_option maxHeartbeats 0 in
theorem inst_new0 {w : World} {h : Heap} {g : Array GenState} {d : Drawn} {tk0 : Nat} {os : OsState} (X : (myK w.params).In h)
    {C ns fi fl md ci : Addr} {q qi : Str} {s0 s2 s3 s5 : Option Value} {hs : List Int} {ts : List Tok} {v ws : List Value} {doc pm ct a0 : Value} {n : Nat} {t tq : Tok} {cd : Option Addr} {cs : Array (Option Value)}
    (hC : h.get? C = some (kCls C ns q s0 s2 s3 s5)) (hN : h.get? ns = some (kNs hs ts v fi fl md n))
    (hI : h.get? fi = some (kFn nInit qi 2 [] doc pm ci ct)) (hM : h.get? md = some (kMd C t)) (hc : h.get? ci = some ⟨.type "code", cd, .fields (Array.mk (a0 :: .str qi tq :: ws)), cs⟩)
    {x : Value} {Q : Value → Shared → Prop} {E : Value → Shared → Prop}
    (hQ : ∀ (k dk : Addr) (h' : Heap) (tk : Nat), Keeps h h' → h'.get? k = some ⟨.ref C, some dk, .plain, #[some x]⟩ → h.get? k = none → Q (.ref k) ⟨h', g, d, tk, os⟩) :
    wpAny (model PySem.Challenge.pw_dw5009_01 w) bigA (PySem.call (.ref C) [x]) Q E ⟨h, g, d, tk0, os⟩ := by
  unfold kCls at hC
  unfold kNs at hN
  unfold kFn at hI
  unfold kMd at hM
  x_run
theorem inst_new {w : World} {h : Heap} {g : Array GenState} {d : Drawn} {tk0 : Nat} {os : OsState} (X : (myK w.params).In h) {t : TI} {k : KI} (H : HasAll h (t.objs ++ k.objs t))
    {x : Value} {Q : Value → Shared → Prop} {E : Value → Shared → Prop}
    (hQ : ∀ (a da : Addr) (h' : Heap) (tk : Nat), Keeps h h' → h'.get? a = some ⟨.ref k.C, some da, .plain, #[some x]⟩ → h.get? a = none → Q (.ref a) ⟨h', g, d, tk, os⟩) :
    wpAny (model PySem.Challenge.pw_dw5009_01 w) bigA (PySem.call (.ref k.C) [x]) Q E ⟨h, g, d, tk0, os⟩ :=
  inst_new0 X (H _ (m_C t k)) (H _ (m_ns t k)) (H _ (m_fi t k)) (H _ (m_md t k)) (H _ (m_c0 t k))
    hQ
local macro_rules | `(tactic| x_close) => `(tactic| (
  (rename Mem _ _ _ _ => D')
  (rename (∀ _ _ _, Keeps _ _ → _) => hQ')
  refine hQ' _ _ _ (keeps_of D') ?_
  first | (symm; exact decide_eq_true (by omega)) | (symm; exact decide_eq_false (by omega))))
set_option maxHeartbeats 0 in
theorem le_gt0 {w : World} {h : Heap} {g : Array GenState} {d : Drawn} {tk0 : Nat} {os : OsState} (X : (myK w.params).In h)
    {a b : Int} {t u : Tok} {Q : Value → Shared → Prop} {E : Value → Shared → Prop}
    (hQ : ∀ (r : Bool) (h' : Heap) (tk : Nat), Keeps h h' → r = decide (a ≤ b) → Q (.bool r) ⟨h', g, d, tk, os⟩) :
    wpAny (model PySem.Challenge.pw_dw5009_01 w) bigA (PySem.call (.ref 21) [.int a t, .int b u]) Q E ⟨h, g, d, tk0, os⟩ := by
  x_run
theorem le_gt {w : World} {h : Heap} {g : Array GenState} {d : Drawn} {tk0 : Nat} {os : OsState} (X : (myK w.params).In h)
    {a b : Int} {t u : Tok} {Q : Value → Shared → Prop} {E : Value → Shared → Prop}
    (hQ : ∀ (h' : Heap) (tk : Nat), Keeps h h' → Q (.bool (decide (a ≤ b))) ⟨h', g, d, tk, os⟩) :
    wpAny (model PySem.Challenge.pw_dw5009_01 w) bigA (PySem.call (.ref 21) [.int a t, .int b u]) Q E ⟨h, g, d, tk0, os⟩ :=
  le_gt0 X fun r h' tk hk hr => hr ▸ hQ h' tk hk
end Mine
end
section
open PySem PySem.W PyProof.Rows PySem.W.X
namespace Mine
set_option maxRecDepth 100000
structure Env0 (w : World) (g : Heap) : Prop where
  X : (myK w.params).In g
  T : ∃ p loose mean mg mb, Top p loose mean mg mb g
theorem Env0.keeps {w : World} {g h : Heap} (e : Env0 w g) (k : Keeps g h) : Env0 w h :=
  ⟨e.X.keeps k, let ⟨p, l, m, a, b, T⟩ := e.T; ⟨p, l, m, a, b, T.keeps k⟩⟩
theorem Env0.nolimit {w : World} {g : Heap} (e : Env0 w g) : g.NoLimit := let ⟨_, _, _, _, _, T⟩ := e.T; T.nolimit
abbrev PW := PySem.Challenge.pw_dw5009_01
/-- a def of the text's top, as the program has it -/
def tDef (i : Nat) : Stmt := (PW.main.body[i]? : Option Stmt).getD default
/-- the round where all walks are done -/
def midA (env : Env) : Around := (bigA).deeper env
theorem fuller_ho (P : Params) : (myK P).lookup 44 = some (objAt 44 P) := by kernel_rfl
theorem fuller_data (P : Params) : ∃ pm doc, (objAt 44 P).data = .func (Calls.docDef (Str.ofString "_law_fuller") (sParams (tDef 6)) (sBody (tDef 6)) (sScope (tDef 6)) pm (.ref 43) doc) :=
  ⟨.str (Str.ofString "law_dw5009_01") 220, .none, by kernel_rfl⟩
end Mine
end
section
open PySem PySem.W PyProof.Rows PySem.W.X
namespace Mine
set_option maxRecDepth 100000
set_option maxHeartbeats 4000000
theorem fuller_call {w : World} {h : Heap} {g : Array GenState} {d : Drawn} {tk0 : Nat} {os : OsState} (V : Env0 w h) {a₁ a₂ : Addr} {n₁ n₂ p₁ p₂ : Int} {t₁ t₂ u₁ u₂ : Tok} {e₁ e₂ : Nat}
    (h3 : h.get? a₁ = some ⟨.type "tuple", none, .seq #[.int n₁ t₁, .int p₁ u₁] e₁, #[]⟩) (h4 : h.get? a₂ = some ⟨.type "tuple", none, .seq #[.int n₂ t₂, .int p₂ u₂] e₂, #[]⟩)
    {Q : Value → Shared → Prop} {E : Value → Shared → Prop}
    (hQ : ∀ (h' : Heap) (tk : Nat) (t : Tok), Keeps h h' → Q (.int (2 * (n₂ - n₁)) t) ⟨h', g, d, tk, os⟩) :
    wpAny (model PW w) bigA (PySem.call (.ref 44) [.ref a₁, .ref a₂]) Q E ⟨h, g, d, tk0, os⟩ := by
  w_top off
  suffices hh : (PySem.Challenge.rw_dw5009_01 = PySem.Challenge.rw_dw5009_01 ∧ myK = myK) → wpAny (model PW w) bigA (PySem.call (.ref 44) [.ref a₁, .ref a₂]) Q E ⟨h, g, d, tk0, os⟩ from hh ⟨rfl, rfl⟩
  k_fill
  intro _
  obtain ⟨pm, doc, hd⟩ := fuller_data w.params
  refine wpAny_call (call_pos_ret (by decide) (V.X _ _ (fuller_ho _)) hd V.nolimit (codeRec_of V.X (by kernel_rfl)) (by kernel_rfl) (locs (by kernel_rfl)) (fun h₁ F => ?_) (by kernel_rfl) (by kernel_rfl) (by kernel_rfl) (by decide))
  have KX := V.X
  obtain ⟨p, loose, mean, mg, mb, T⟩ := V.T
  have N : News h h.objs.size h₁ [] := News.nil
  dsimp only at F ⊢
  have hk : Keeps h h₁ := F.keep
  k_steps
  refine item_tupleT (l := [.int n₂ t₂, .int p₂ u₂]) (j := 0) ⟨_, hk _ _ h4, rfl, _, rfl⟩ (by decide) (by decide) rfl rfl ?_
  k_steps
  refine item_tupleT (l := [.int n₁ t₁, .int p₁ u₁]) (j := 0) ⟨_, hk _ _ h3, rfl, _, rfl⟩ (by decide) (by decide) rfl rfl ?_
  k_steps
  exact hQ _ _ _ hk
end Mine
end
section
open PySem PySem.W PyProof.Rows PySem.W.X
namespace Mine
set_option maxRecDepth 100000
set_option maxHeartbeats 4000000
section
variable {M : Model} {A : Around} {E : Value → Shared → Prop} {s : Shared} {C ns fi fl md : Addr} {q : Str} {s0 s2 s3 s5 : Option Value} {hs : List Int} {ts : List Tok} {v : List Value} {n : Nat}
theorem mro_K {Q : List Value → Shared → Prop} (hC : s.heap.get? C = some (kCls C ns q s0 s2 s3 s5)) (h : Q [.ref C, .type "object"] s) : wpAny M A (mroOf (.ref C)) Q E s := by
  show wpAny M A (do return (← (do match (← load C).data with | .cls c => pure c | _ => unsupported "internal:not-a-class" : Sem ClassData)).mro) Q E s
  exact wpAny_bind (wpAny_bind (wpAny_load hC (wpAny_pure (wpAny_pure h))))
theorem own_K {name : Str} {r : Option Value} {Q : Option Value → Shared → Prop} (hC : s.heap.get? C = some (kCls C ns q s0 s2 s3 s5)) (hN : s.heap.get? ns = some (kNs hs ts v fi fl md n))
    (e : nsLook name (kNs hs ts v fi fl md n) = pure r) (h : Q r s) : wpAny M A (classOwn (.ref C) name) Q E s := by
  show wpAny M A (do nsGet (← (do match (← load C).data with | .cls c => pure c | _ => unsupported "internal:not-a-class" : Sem ClassData)).ns name) Q E s
  refine wpAny_bind (wpAny_bind (wpAny_load hC (wpAny_pure ?_)))
  show wpAny M A (do nsLook name (← loadPart ns (some (.str name 0)))) Q E s
  refine wpAny_bind (wpAny_loadPart hN ?_)
  rw [e]
  exact wpAny_pure h
theorem tl_own {name : Str} {r : Value} {Q : Option Value → Shared → Prop} (hC : s.heap.get? C = some (kCls C ns q s0 s2 s3 s5)) (hN : s.heap.get? ns = some (kNs hs ts v fi fl md n))
    (e : nsLook name (kNs hs ts v fi fl md n) = pure (some r)) (h : Q (some r) s) : wpAny M A (typeLookup (.ref C) name) Q E s := by
  unfold typeLookup
  refine wpAny_bind (mro_K hC ?_)
  simp only [List.forIn_cons]
  refine wpAny_bind (wpAny_bind (wpAny_bind (own_K hC hN e ?_)))
  exact wpAny_pure (wpAny_pure (wpAny_pure h))
theorem tl_obj {name : Str} {r : Value} {Q : Option Value → Shared → Prop} (hC : s.heap.get? C = some (kCls C ns q s0 s2 s3 s5)) (hN : s.heap.get? ns = some (kNs hs ts v fi fl md n))
    (e : nsLook name (kNs hs ts v fi fl md n) = pure none) (e2 : builtinOwn "object" name = some r) (h : Q (some r) s) : wpAny M A (typeLookup (.ref C) name) Q E s := by
  unfold typeLookup
  refine wpAny_bind (mro_K hC ?_)
  simp only [List.forIn_cons]
  refine wpAny_bind (wpAny_bind (wpAny_bind (own_K hC hN e ?_)))
  refine wpAny_pure (wpAny_bind (wpAny_bind ?_))
  show wpAny M A (pure (builtinOwn "object" name)) _ _ _
  rw [e2]
  exact wpAny_pure (wpAny_pure (wpAny_pure (wpAny_pure h)))
end
local macro_rules | `(tactic| x_close) => `(tactic| (
  (rename (∀ _ _, Keeps _ _ → _) => hQ')
  exact hQ' _ _ (fun _ _ e => e)))
set_option maxHeartbeats 0 in
/-- getattr's inner call, run -/
theorem attr_in {w : World} {h : Heap} {g : Array GenState} {d : Drawn} {tk0 : Nat} {os : OsState} (X : (myK w.params).In h)
    {C ns fi fl md k₁ d₁ a₁ : Addr} {q : Str} {s0 s2 s3 s5 : Option Value} {hs : List Int} {ts : List Tok} {v : List Value} {n : Nat} {t tn : Tok}
    (hC : h.get? C = some (kCls C ns q s0 s2 s3 s5)) (hN : h.get? ns = some (kNs hs ts v fi fl md n)) (hM : h.get? md = some (kMd C t))
    (h1 : h.get? k₁ = some ⟨.ref C, some d₁, .plain, #[some (.ref a₁)]⟩)
    {Q : Value → Shared → Prop} {E : Value → Shared → Prop}
    (hQ : ∀ (h' : Heap) (tk : Nat), Keeps h h' → Q (.ref a₁) ⟨h', g, d, tk, os⟩) :
    wpAny (model PySem.Challenge.pw_dw5009_01 w) bigA (runValue (.builtin "proto.getattr_hooked" ⟨[.ref k₁, .str ⟨#[111, 98, 106]⟩ tn], []⟩)) Q E ⟨h, g, d, tk0, os⟩ := by
  unfold kCls at hC
  unfold kNs at hN
  unfold kMd at hM
  x_run
theorem k_attr {w : World} {h : Heap} {g : Array GenState} {d : Drawn} {tk0 : Nat} {os : OsState} (X : (myK w.params).In h) {t : TI} {k : KI} (H : HasAll h (t.objs ++ k.objs t))
    {k₁ d₁ a₁ : Addr} (h1 : h.get? k₁ = some ⟨.ref k.C, some d₁, .plain, #[some (.ref a₁)]⟩) {b : Bool}
    {Q : Value → Shared → Prop} {E : Value → Shared → Prop}
    (hQ : ∀ (h' : Heap) (tk : Nat), Keeps h h' → Q (.ref a₁) ⟨h', g, d, tk, os⟩) :
    wpAny (model PySem.Challenge.pw_dw5009_01 w) bigA (getAttr (.ref k₁) (Str.ofString "obj") b) Q E ⟨h, g, d, tk0, os⟩ := by
  unfold getAttr
  refine wpAny_bind (wpAny_mkText ?_)
  unfold getAttrBy
  refine wpAny_holding (wpAny_bind ?_)
  refine wpAny_bind (wpAny_loadPart h1 (wpAny_pure ?_))
  refine wpAny_bind (tl_obj (H _ (m_C t k)) (H _ (m_ns t k)) (by kernel_rfl) (r := .builtin "object.__getattribute__") (by kernel_rfl) ?_)
  dsimp only
  rw [if_pos (by kernel_rfl)]
  unfold getAttrEveryday
  refine wpAny_bind (wpAny_onRaise ?_)
  have e : (Str.ofString "obj") = (⟨#[111, 98, 106]⟩ : Str) := by kernel_rfl
  rw [e]
  exact attr_in X (H _ (m_C t k)) (H _ (m_ns t k)) (H _ (m_md t k)) h1 fun h' tk hk => wpAny_pure (hQ h' tk hk)
end Mine
end
section
open PySem PySem.W PyProof.Rows PySem.W.X
namespace Mine
set_option maxRecDepth 100000
set_option maxHeartbeats 4000000
def capA (d u : Nat) : Around := { handled := none, depth := d, frames := none, guards := none, units := u }
theorem wpAny_cap {α : Type} {M : Model} {A : Around} {t : Sem α} {Q : α → Shared → Prop} {E : Value → Shared → Prop} {s : Shared} (d u : Nat)
    (h : wpAny M (capA d u) t Q E s) (hh : A.handled = none := by rfl) (hd : A.depth ≤ d := by exact Nat.le_of_ble_eq_true rfl) (hu : A.units ≤ u := by exact Nat.le_of_ble_eq_true rfl) : wpAny M A t Q E s :=
  fun Γ p hΓ => h Γ p ⟨hΓ.1.trans hh, Nat.le_trans hΓ.2.1 hd, fun _ e => (by cases e), fun _ e => (by cases e), Nat.le_trans hΓ.2.2.2.2 hu⟩
theorem codeAny_cap {M : Model} {A : Around} {c : Code} {R : Result → Shared → Prop} {s : Shared} (d u : Nat)
    (h : codeAny M (capA d u) c R s) (hh : A.handled = none := by rfl) (hd : A.depth ≤ d := by exact Nat.le_of_ble_eq_true rfl) (hu : A.units ≤ u := by exact Nat.le_of_ble_eq_true rfl) : codeAny M A c R s :=
  fun Γ p hc hΓ => h Γ p hc ⟨hΓ.1.trans hh, Nat.le_trans hΓ.2.1 hd, fun _ e => (by cases e), fun _ e => (by cases e), Nat.le_trans hΓ.2.2.2.2 hu⟩
theorem HasAll.keeps {h h' : Heap} {l : List (Addr × Obj)} (H : HasAll h l) (k : Keeps h h') : HasAll h' l := fun p hp => k _ _ (H p hp)
/-- a call of a def without cells: its frame over all that stands -/
theorem enter_def {prog : Program} {w : World} {A : Around} {s : Shared} {f : Addr} {name qual : Str} {params : Arguments} {body : List Stmt} {scope : Scope} {cl : List (Str × Addr)} {dV kV doc pm cdv ct oc : Value} {an od : Option Addr} {osl : Array (Option Value)}
    {args : Args} {binds : List (Str × Value)} {Q : Value → Shared → Prop} {E : Value → Shared → Prop}
    (ho : s.heap.get? f = some ⟨oc, od, .func (fnX name qual params body scope cl dV kV doc pm an cdv ct), osl⟩) (hcd : s.heap.CodeRec cdv qual) (hlim : s.heap.NoLimit)
    (hbind : BindsTo s (fnX name qual params body scope cl dV kV doc pm an cdv ct) args binds) (hroom : A.depth < recursionLimit)
    (hloc : (binds.all fun x => decide (scope.names.lookup x.1 = some .local)) = true) (hcell : (scope.names.all fun x => decide (x.2 ≠ .cell)) = true) (hk : scope.isCoroutine = false ∧ scope.isGenerator = false ∧ scope.kind = .function)
    (h : ∀ L h₁ tk, L = s.heap.objs.size → Fr s.heap L h₁ (fun y => binds.reverse.lookup y) →
      wpAny (model prog w) (A.deeper (envX qual scope L f cdv cl)) (execs body (envX qual scope L f cdv cl)) (fun fl s' => Q (match fl with | .ret v => v | _ => .none) s') (fun _ _ => False) { s with heap := h₁, toks := tk }) :
    wpAny (model prog w) A (PySem.call (.ref f) args.pos args.kw) Q E s :=
  wpAny_call (codeAny_call_def (fd := fnX name qual params body scope cl dV kV doc pm an cdv ct) (body := body) (binds := binds) hroom ho rfl hlim hcd rfl hbind (fun x hx => of_decide_eq_true (List.all_eq_true.mp hcell x hx)) (locs hloc)
    (fun h₁ hns hk₁ => wpAny_mono (h _ h₁ _ rfl ⟨hns, hk₁, Nat.le_refl _⟩) (fun _ _ x => x) fun _ _ x => x.elim) hk.1 hk.2.1 hk.2.2)
theorem k_lt {w : World} {h : Heap} {g : Array GenState} {d : Drawn} {tk0 : Nat} {os : OsState} (V : Env0 w h) {t : TI} {k : KI} (H : HasAll h (t.objs ++ k.objs t))
    {k₁ k₂ a₁ a₂ d₁ d₂ : Addr} {e₁ e₂ : Nat} {t₁ t₂ u₁ u₂ : Tok} {n₁ n₂ p₁ p₂ : Int}
    (h1 : h.get? k₁ = some ⟨.ref k.C, some d₁, .plain, #[some (.ref a₁)]⟩) (h2 : h.get? k₂ = some ⟨.ref k.C, some d₂, .plain, #[some (.ref a₂)]⟩)
    (h3 : h.get? a₁ = some ⟨.type "tuple", none, .seq #[.int n₁ t₁, .int p₁ u₁] e₁, #[]⟩) (h4 : h.get? a₂ = some ⟨.type "tuple", none, .seq #[.int n₂ t₂, .int p₂ u₂] e₂, #[]⟩)
    {Q : Value → Shared → Prop} {E : Value → Shared → Prop}
    (hQ : ∀ (h' : Heap) (tk : Nat), Keeps h h' → Q (.bool (decide (n₂ < n₁))) ⟨h', g, d, tk, os⟩) :
    wpAny (model PW w) (capA 390 950) (PySem.call (.ref k.fl) [.ref k₁, .ref k₂]) Q E ⟨h, g, d, tk0, os⟩ := by
  w_top off
  suffices hh : (PySem.Challenge.rw_dw5009_01 = PySem.Challenge.rw_dw5009_01 ∧ myK = myK) → wpAny (model PW w) (capA 390 950) (PySem.call (.ref k.fl) [.ref k₁, .ref k₂]) Q E ⟨h, g, d, tk0, os⟩ from hh ⟨rfl, rfl⟩
  k_fill
  intro _
  refine enter_def (args := ⟨[.ref k₁, .ref k₂], []⟩) (binds := [(Str.ofString "self", .ref k₁), (Str.ofString "other", .ref k₂)]) (H _ (m_fl t k)) ⟨t.c1, _, _, t.t1, rfl, H _ (m_c1 t k), rfl, rfl⟩ V.nolimit (BindsTo.of_eq (by kernel_rfl)) (by decide) (by kernel_rfl) (by kernel_rfl) ⟨by kernel_rfl, by kernel_rfl, by kernel_rfl⟩ (fun L h₁ tk hL F => ?_)
  have KX := V.X
  obtain ⟨p, loose, mean, mg, mb, T⟩ := V.T
  have N : News h L h₁ [] := News.nil
  dsimp only at F ⊢
  walk1
  walk1
  walk1
  walk1
  refine wpAny_Name (wpAny_loadName_free (c := k.cl) (v := .ref 44) (by kernel_rfl) (by kernel_rfl) (by kernel_rfl) ⟨_, F.keep _ _ (H _ (m_cl t k)), rfl⟩ ?_ (by kernel_rfl)) (by kernel_rfl)
  have fn : ∀ h', Keeps h h' → FnAt 44 h' := fun h' hk => ⟨_, _, _, _, hk _ _ (KX _ _ (fuller_ho _))⟩
  refine callWith_F (fn _ F.keep) ?_
  k_steps
  refine wpAny_cap 400 1000 (k_attr (KX.keeps F.keep) (H.keeps F.keep) (F.keep _ _ h1) fun h₂ tk₂ hk₂ => ?_)
  replace F := F.kept hk₂
  k_steps
  refine wpAny_cap 400 1000 (k_attr (KX.keeps F.keep) (H.keeps F.keep) (F.keep _ _ h2) fun h₃ tk₃ hk₃ => ?_)
  replace F := F.kept hk₃
  k_steps
  · exact fn _ F.keep
  refine wpAny_cap 400 1000 (fuller_call (V.keeps F.keep) (F.keep _ _ h3) (F.keep _ _ h4) fun h₄ tk₄ t₄ hk₄ => ?_)
  replace F := F.kept hk₄
  k_steps
  have e : decide (2 * (n₂ - n₁) < 0) = decide (n₂ < n₁) := decide_eq_decide.2 (by omega)
  first | (rw [e]; exact hQ _ _ F.keep)
end Mine
end
section
open PySem PySem.W PyProof.Rows PySem.W.X
namespace Mine
set_option maxRecDepth 100000
set_option maxHeartbeats 4000000
theorem bind_fn {M : Model} {A : Around} {E : Value → Shared → Prop} {s : Shared} {f : Addr} {self : Value} {o : Obj} {Q : Value × List Value → Shared → Prop} (hf : s.heap.get? f = some o) (hc : o.cls = .type "function") (h : Q (.ref f, [self]) s) :
    wpAny M A (bindSpecial (.ref f) self) Q E s := by
  unfold bindSpecial
  refine wpAny_bind (wpAny_bind (wpAny_loadPart hf (wpAny_pure ?_)))
  rw [hc]
  exact wpAny_pure h
theorem bound_lt {M : Model} {A : Around} {E : Value → Shared → Prop} {s : Shared} {t : TI} {k : KI} (H : HasAll s.heap (t.objs ++ k.objs t)) {k₁ d₁ : Addr} {x : Value} (h1 : s.heap.get? k₁ = some ⟨.ref k.C, some d₁, .plain, #[some x]⟩)
    {Q : Option (Value × List Value) → Shared → Prop} (h : Q (some (.ref k.fl, [.ref k₁])) s) : wpAny M A (bindSpecialIfBound? (.ref k₁) "__lt__") Q E s := by
  unfold bindSpecialIfBound? specialOf
  refine wpAny_bind (wpAny_bind (wpAny_bind (wpAny_loadPart h1 (wpAny_pure ?_))))
  refine tl_own (H _ (m_C t k)) (H _ (m_ns t k)) (by kernel_rfl) (r := .ref k.fl) ?_
  dsimp only
  refine wpAny_bind (wpAny_askSetting ?_)
  split
  · exact wpAny_bind (bind_fn (H _ (m_fl t k)) rfl (wpAny_pure h))
  · exact wpAny_tryCatch (wpAny_bind (bind_fn (H _ (m_fl t k)) rfl (wpAny_pure h)))
theorem key_lt {w : World} {h : Heap} {g : Array GenState} {d : Drawn} {tk0 : Nat} {os : OsState} (V : Env0 w h) {t : TI} {k : KI} (H : HasAll h (t.objs ++ k.objs t))
    {k₁ k₂ a₁ a₂ d₁ d₂ : Addr} {e₁ e₂ : Nat} {t₁ t₂ u₁ u₂ : Tok} {n₁ n₂ p₁ p₂ : Int}
    (h1 : h.get? k₁ = some ⟨.ref k.C, some d₁, .plain, #[some (.ref a₁)]⟩) (h2 : h.get? k₂ = some ⟨.ref k.C, some d₂, .plain, #[some (.ref a₂)]⟩)
    (h3 : h.get? a₁ = some ⟨.type "tuple", none, .seq #[.int n₁ t₁, .int p₁ u₁] e₁, #[]⟩) (h4 : h.get? a₂ = some ⟨.type "tuple", none, .seq #[.int n₂ t₂, .int p₂ u₂] e₂, #[]⟩)
    {Q : Bool → Shared → Prop} {E : Value → Shared → Prop}
    (hQ : ∀ (h' : Heap) (tk : Nat), Keeps h h' → Q (decide (n₂ < n₁)) ⟨h', g, d, tk, os⟩) :
    wpAny (model PW w) (capA 390 950) (keyLt' oneType' (.ref k₁) (.ref k₂)) Q E ⟨h, g, d, tk0, os⟩ := by
  rw [keyLt'_oneType, oneLt'_eq]
  simp only [if_true]
  refine wpAny_bind (wpAny_cRoomFor (by decide) ?_)
  refine wpAny_bind ?_
  unfold callSpecialIfBound?
  refine wpAny_holding (wpAny_bind (bound_lt H h1 ?_))
  dsimp only
  refine wpAny_bind ?_
  refine k_lt V H h1 h2 h3 h4 fun h' tk hk => ?_
  exact wpAny_pure (wpAny_truthy_bool (hQ h' tk hk))
end Mine
end
section
open PySem PySem.W PyProof.Rows
namespace Mine
/-- the tree of questions, walked with a pure answer; every question lies within n -/
def pw {α : Type} (lt : Nat → Nat → Bool) (n : Nat) : KasT α → (α → Prop) → Prop
  | .ret a, P => P a
  | .ask i j k, P => i < n ∧ j < n ∧ pw lt n (k (lt i j)) P
theorem pw_bind {α β : Type} {lt : Nat → Nat → Bool} {n : Nat} {f : α → KasT β} {P : β → Prop} : ∀ (t : KasT α), pw lt n t (fun a => pw lt n (f a) P) → pw lt n (t.bind f) P
  | .ret _, h => h
  | .ask i j k, h => ⟨h.1, h.2.1, pw_bind (k (lt i j)) h.2.2⟩
theorem pw_mono {α : Type} {lt : Nat → Nat → Bool} {n : Nat} {P P' : α → Prop} (hp : ∀ a, P a → P' a) : ∀ (t : KasT α), pw lt n t P → pw lt n t P'
  | .ret a, h => hp a h
  | .ask i j k, h => ⟨h.1, h.2.1, pw_mono hp (k (lt i j)) h.2.2⟩
theorem kasWp_of_pw {α : Type} {lt : Nat → Nat → Bool} {n : Nat} {cmp : Nat → Nat → (Bool → Shared → Prop) → Shared → Prop} {Inv : Shared → Prop} {P : α → Prop} {Q : α → Shared → Prop}
    (hc : ∀ i j (C : Bool → Shared → Prop) s, i < n → j < n → Inv s → (∀ s', Inv s' → C (lt i j) s') → cmp i j C s) (hq : ∀ a s, P a → Inv s → Q a s) : ∀ (t : KasT α) (s : Shared), Inv s → pw lt n t P → t.kasWp cmp Q s
  | .ret a, s, hI, h => hq a s h hI
  | .ask i j k, s, hI, h => hc i j _ s h.1 h.2.1 hI fun s' hI' => kasWp_of_pw hc hq (k (lt i j)) s' hI' h.2.2
section
variable (f : Nat → Int) (n : Nat)
def ltOf (i j : Nat) : Bool := decide (f i < f j)
/-- the key at a place of the order so far -/
def ky (p : Array Nat) (i : Nat) : Int := f (p.getD i 0)
def PermR (p : Array Nat) : Prop := p.size = n ∧ p.Perm (List.range n).toArray
def Up (p : Array Nat) (k : Nat) : Prop := ∀ i j, i ≤ j → j < k → ky f p i ≤ ky f p j
def Dn (p : Array Nat) (k : Nat) : Prop := ∀ i j, i ≤ j → j < k → ky f p j ≤ ky f p i
variable {f n}
theorem PermR.lt {p : Array Nat} (h : PermR n p) {i : Nat} (hi : i < n) : p.getD i 0 < n := by
  have hs : i < p.size := by rw [h.1]; exact hi
  have e : p.getD i 0 = p[i] := by simp [Array.getD, hs]
  rw [e]
  have hm : p[i] ∈ p.toList := by simp
  have := (Array.perm_iff_toList_perm.mp h.2).subset hm
  simpa using this
theorem PermR.mirror {p : Array Nat} (h : PermR n p) (i j : Nat) : PermR n (kas_rev p i j) := ⟨(mirror_size ..).trans h.1, (mirror_perm ..).trans h.2⟩
theorem PermR.bubble {p : Array Nat} (h : PermR n p) (i j : Nat) : PermR n (PyProof.Rows.bubble p i j) := ⟨(bubble_size ..).trans h.1, (bubble_perm ..).trans h.2⟩
theorem ky_congr {p q : Array Nat} {i j : Nat} (e : p[i]? = q[j]?) : ky f p i = ky f q j := by
  unfold ky
  rw [Array.getD_eq_getD_getElem?, Array.getD_eq_getD_getElem?, e]
theorem ky_rev {p : Array Nat} {i j : Nat} (hj : j ≤ p.size) (k : Nat) : ky f (kas_rev p i j) k = if i ≤ k ∧ k < j then ky f p (i + j - 1 - k) else ky f p k := by
  have e := getElem?_mirror_all (xs := p) (i := i) hj k
  by_cases h1 : i ≤ k ∧ k < j
  · rw [if_pos h1] at e ⊢; exact ky_congr e
  · rw [if_neg h1] at e ⊢; exact ky_congr e
theorem ky_bubble {p : Array Nat} {src d : Nat} (hs : src < p.size) (hd : d ≤ src) (k : Nat) :
    ky f (bubble p src d) k = if k = src - d then ky f p src else if src - d < k ∧ k ≤ src then ky f p (k - 1) else ky f p k := by
  have e := getElem?_bubble (xs := p) hs d hd k
  by_cases h1 : k = src - d
  · rw [if_pos h1] at e ⊢; exact ky_congr e
  · rw [if_neg h1] at e ⊢
    by_cases h2 : src - d < k ∧ k ≤ src
    · rw [if_pos h2] at e ⊢; exact ky_congr e
    · rw [if_neg h2] at e ⊢; exact ky_congr e
theorem up_succ {p : Array Nat} {k : Nat} (h : Up f p k) (h1 : 1 ≤ k) (hk : ky f p (k - 1) ≤ ky f p k) : Up f p (k + 1) := by
  intro i j hij hj
  by_cases hjk : j < k
  · exact h i j hij hjk
  · have : j = k := by omega
    subst this
    by_cases hi : i = j
    · subst hi; exact Int.le_refl _
    · exact Int.le_trans (h i (j - 1) (by omega) (by omega)) hk
theorem dn_succ {p : Array Nat} {k : Nat} (h : Dn f p k) (h1 : 1 ≤ k) (hk : ky f p k ≤ ky f p (k - 1)) : Dn f p (k + 1) := by
  intro i j hij hj
  by_cases hjk : j < k
  · exact h i j hij hjk
  · have : j = k := by omega
    subst this
    by_cases hi : i = j
    · subst hi; exact Int.le_refl _
    · exact Int.le_trans hk (h i (j - 1) (by omega) (by omega))
theorem pw_asc {p : Array Nat} (hp : PermR n p) : ∀ (fu k : Nat) {P : Nat → Prop}, 1 ≤ k → k + fu ≤ n → Up f p k → (∀ m, k ≤ m → m ≤ k + fu → Up f p m → P m) → pw (ltOf f) n (kas_asc p fu k) P
  | 0, k, P, _, _, hu, h => h k (Nat.le_refl _) (Nat.le_refl _) hu
  | fu + 1, k, P, h1, hk, hu, h => by
    refine ⟨hp.lt (by omega), hp.lt (by omega), ?_⟩
    cases hc : ltOf f (p.getD k 0) (p.getD (k - 1) 0) with
    | true => (try dsimp only); rw [if_pos rfl]; exact h k (Nat.le_refl _) (by omega) hu
    | false =>
      (try dsimp only); rw [if_neg Bool.false_ne_true]
      have hle : ky f p (k - 1) ≤ ky f p k := by
        have := of_decide_eq_false hc
        unfold ky; omega
      exact pw_asc hp fu (k + 1) (by omega) (by omega) (up_succ hu h1 hle) fun m a b c => h m (by omega) (by omega) c
theorem pw_tail3 {p : Array Nat} {k : Nat} {P : Nat × Array Nat → Prop} (hp : PermR n p) (h1 : 1 ≤ k) (hk : k ≤ n) (hd : Dn f p k)
    (h : ∀ m q, 1 ≤ m → m ≤ n → PermR n q → Up f q m → P (m, q)) : pw (ltOf f) n (kas_tail3 k n p) P := by
  have hp' := hp.mirror 0 k
  have hu : Up f (kas_rev p 0 k) k := by
    intro i j hij hj
    rw [ky_rev (by rw [hp.1]; exact hk), ky_rev (by rw [hp.1]; exact hk), if_pos ⟨Nat.zero_le _, by omega⟩, if_pos ⟨Nat.zero_le _, hj⟩]
    exact hd _ _ (by omega) (by omega)
  exact pw_bind _ (pw_asc hp' _ _ h1 (by omega) hu fun m a b c => h m _ (by omega) (by omega) hp' c)
/-- the last q + 1 of the first k stand level -/
def Flat (f : Nat → Int) (p : Array Nat) (k q : Nat) : Prop := ∀ i, k - (q + 1) ≤ i → i < k → ky f p i = ky f p (k - 1)
theorem rev_flat {p : Array Nat} {k q : Nat} (hk : k ≤ p.size) (hf : Flat f p k q) (i : Nat) : ky f (kas_rev p (k - (q + 1)) k) i = ky f p i := by
  rw [ky_rev hk]
  split
  · rename_i h1
    rw [hf _ (by omega) (by omega), hf i h1.1 h1.2]
  · rfl
theorem pw_desc : ∀ (fu : Nat) {p : Array Nat} {k q : Nat} {P : Array Nat × Nat × Nat → Prop}, PermR n p → 1 ≤ k → k + fu ≤ n → Dn f p k → Flat f p k q →
    (∀ p' m q', PermR n p' → k ≤ m → m ≤ k + fu → Dn f p' m → Flat f p' m q' → P (p', m, q')) → pw (ltOf f) n (kas_desc fu p k q) P
  | 0, p, k, q, P, hp, _, _, hd, hf, h => h p k q hp (Nat.le_refl _) (Nat.le_refl _) hd hf
  | fu + 1, p, k, q, P, hp, h1, hk, hd, hf, h => by
    refine ⟨hp.lt (by omega), hp.lt (by omega), ?_⟩
    cases hc : ltOf f (p.getD k 0) (p.getD (k - 1) 0) with
    | true =>
      (try dsimp only); rw [if_pos rfl]
      have hle : ky f p k ≤ ky f p (k - 1) := by
        have := of_decide_eq_true hc
        unfold ky; omega
      by_cases hq : q > 0
      · rw [if_pos hq]
        have hps : k ≤ p.size := by rw [hp.1]; omega
        have e := rev_flat hps hf
        refine pw_desc fu (hp.mirror _ _) (by omega) (by omega) ?_ ?_ fun p' m q' a b c => h p' m q' a (by omega) (by omega)
        · intro i j hij hj; rw [e, e]; exact dn_succ hd h1 hle i j hij hj
        · intro i hi hi2
          have : i = k := by omega
          subst this; rfl
      · rw [if_neg hq]
        refine pw_desc fu hp (by omega) (by omega) (dn_succ hd h1 hle) ?_ fun p' m q' a b c => h p' m q' a (by omega) (by omega)
        intro i hi hi2
        have : i = k := by omega
        subst this; rfl
    | false =>
      (try dsimp only); rw [if_neg Bool.false_ne_true]
      refine ⟨hp.lt (by omega), hp.lt (by omega), ?_⟩
      cases hc2 : ltOf f (p.getD (k - 1) 0) (p.getD k 0) with
      | true => (try dsimp only); rw [if_pos rfl]; exact h p k q hp (Nat.le_refl _) (by omega) hd hf
      | false =>
        (try dsimp only); rw [if_neg Bool.false_ne_true]
        have heq : ky f p k = ky f p (k - 1) := by
          have a1 := of_decide_eq_false hc
          have a2 := of_decide_eq_false hc2
          unfold ky; omega
        refine pw_desc fu hp (by omega) (by omega) (dn_succ hd h1 (Int.le_of_eq heq)) ?_ fun p' m q' a b c => h p' m q' a (by omega) (by omega)
        intro i hi hi2
        show ky f p i = ky f p k
        by_cases hik : i = k
        · subst hik; rfl
        · rw [heq]; exact hf i (by omega) (by omega)
theorem pw_descPart {p : Array Nat} {k : Nat} {P : Nat × Array Nat → Prop} (hp : PermR n p) (h1 : 1 ≤ k) (hk : k + 1 ≤ n) (hd : Dn f p (k + 1))
    (h : ∀ m q, 1 ≤ m → m ≤ n → PermR n q → Up f q m → P (m, q)) : pw (ltOf f) n (kas_descPart k n p) P := by
  refine pw_bind _ (pw_desc _ hp (by omega) (by omega) hd (q := 0) (fun i hi hi2 => by have : i = k + 1 - 1 := by omega
                                                                                       rw [this]) fun p' m q' a b c dd ff => ?_)
  dsimp only
  by_cases hq : q' > 0
  · rw [if_pos hq]
    have hps : m ≤ p'.size := by rw [a.1]; omega
    have e := rev_flat hps ff
    exact pw_tail3 (a.mirror _ _) (by omega) (by omega) (fun i j hij hj => by rw [e, e]; exact dd i j hij hj) h
  · rw [if_neg hq]
    exact pw_tail3 a (by omega) (by omega) dd h
theorem pw_count {P : Nat × Array Nat → Prop} {p : Array Nat} (hp : PermR n p) (hn : 1 ≤ n) (h : ∀ m q, 1 ≤ m → m ≤ n → PermR n q → Up f q m → P (m, q)) : pw (ltOf f) n (kas_count n p) P := by
  have hu1 : Up f p 1 := fun i j hij hj => by have : i = j := by omega
                                              rw [this]; exact Int.le_refl _
  unfold kas_count
  -- the rising run, and why it ended
  have go : ∀ (fu k : Nat) {P' : Nat → Prop}, 1 ≤ k → k + fu = n → Up f p k → (∀ m, 1 ≤ m → m ≤ n → Up f p m → (m < n → ky f p m < ky f p (m - 1)) → P' m) → pw (ltOf f) n (kas_asc p fu k) P' := by
    intro fu
    induction fu with
    | zero => intro k P' h1 hk hu h; exact h k h1 (by omega) hu fun hlt => by omega
    | succ fu ih =>
      intro k P' h1 hk hu h
      refine ⟨hp.lt (by omega), hp.lt (by omega), ?_⟩
      cases hc : ltOf f (p.getD k 0) (p.getD (k - 1) 0) with
      | true => (try dsimp only); rw [if_pos rfl]; exact h k h1 (by omega) hu fun _ => of_decide_eq_true hc
      | false =>
        (try dsimp only); rw [if_neg Bool.false_ne_true]
        have hle : ky f p (k - 1) ≤ ky f p k := by
          have := of_decide_eq_false hc
          unfold ky; omega
        exact ih (k + 1) (by omega) (by omega) (up_succ hu h1 hle) h
  refine pw_bind _ (go _ 1 (Nat.le_refl _) (by omega) hu1 fun m hm1 hm2 hum hend => ?_)
  by_cases e1 : (m == n) = true
  · rw [if_pos e1]; exact h m p hm1 hm2 hp hum
  · rw [if_neg e1]
    have hlt : m < n := by
      have : m ≠ n := fun q => e1 (by rw [q]; exact beq_self_eq_true _)
      omega
    have hstep := hend hlt
    by_cases e2 : m > 1
    · rw [if_pos e2]
      refine ⟨hp.lt (by omega), hp.lt (by omega), ?_⟩
      cases hc : ltOf f (p.getD 0 0) (p.getD (m - 1) 0) with
      | true => (try dsimp only); rw [if_pos rfl]; exact h m p hm1 hm2 hp hum
      | false =>
        (try dsimp only); rw [if_neg Bool.false_ne_true]
        have hps : m ≤ p.size := by rw [hp.1]; omega
        have hflat : Flat f p m (m - 1) := fun i _ hi2 => by
          have a1 := hum 0 i (by omega) hi2
          have a2 := hum i (m - 1) (by omega) (by omega)
          have a3 : ¬ (ky f p 0 < ky f p (m - 1)) := of_decide_eq_false hc
          omega
        have e : ∀ i, ky f (kas_rev p 0 m) i = ky f p i := fun i => by
          have := rev_flat hps hflat i
          rwa [show m - (m - 1 + 1) = 0 by omega] at this
        refine pw_descPart (hp.mirror _ _) hm1 (by omega) ?_ h
        refine dn_succ (fun i j hij hj => ?_) hm1 (by rw [e, e]; omega)
        rw [e, e]
        have b1 := hflat i (by omega) (by omega)
        have b2 := hflat j (by omega) hj
        omega
    · rw [if_neg e2]
      have : m = 1 := by omega
      subst this
      refine pw_descPart hp hm1 (by omega) ?_ h
      refine dn_succ (fun i j hij hj => ?_) hm1 (by omega)
      have : i = j := by omega
      rw [this]; exact Int.le_refl _
theorem pw_place {p : Array Nat} {k : Nat} (hp : PermR n p) (hk : k < n) (hu : Up f p k) : ∀ (fu l r : Nat) {P : Nat → Prop}, l ≤ r → r ≤ k → r - l ≤ fu → (∀ i, i < l → ky f p i ≤ ky f p k) → (∀ i, r ≤ i → i < k → ky f p k < ky f p i) →
    (∀ m, m ≤ k → (∀ i, i < m → ky f p i ≤ ky f p k) → (∀ i, m ≤ i → i < k → ky f p k < ky f p i) → P m) → pw (ltOf f) n (kas_place p k fu l r) P
  | 0, l, r, P, hlr, hrk, hm, hlo, hhi, h => by
    have : l = r := by omega
    subst this
    exact h l hrk hlo hhi
  | fu + 1, l, r, P, hlr, hrk, hm, hlo, hhi, h => by
    unfold kas_place
    by_cases hge : l ≥ r
    · rw [if_pos hge]
      have : l = r := by omega
      subst this
      exact h l hrk hlo hhi
    · rw [if_neg hge]
      refine ⟨hp.lt hk, hp.lt (by omega), ?_⟩
      cases hc : ltOf f (p.getD k 0) (p.getD ((l + r) / 2) 0) with
      | true =>
        (try dsimp only); rw [if_pos rfl]
        have hless : ky f p k < ky f p ((l + r) / 2) := of_decide_eq_true hc
        exact pw_place hp hk hu fu _ _ (by omega) (by omega) (by omega) hlo (fun i h1 h2 => Int.lt_of_lt_of_le hless (hu _ _ h1 h2)) h
      | false =>
        (try dsimp only); rw [if_neg Bool.false_ne_true]
        have hless : ¬ (ky f p k < ky f p ((l + r) / 2)) := of_decide_eq_false hc
        exact pw_place hp hk hu fu _ _ (by omega) (by omega) (by omega) (fun i h1 => by
          have := hu i ((l + r) / 2) (by omega) (by omega)
          omega) hhi h
theorem pw_bin : ∀ (fu : Nat) {p : Array Nat} {k : Nat} {P : Array Nat → Prop}, PermR n p → 1 ≤ k → k + fu = n → Up f p k → (∀ q, PermR n q → Up f q n → P q) → pw (ltOf f) n (kas_bin fu p k) P
  | 0, p, k, P, hp, _, hk, hu, h => h p hp (by have : k = n := by omega
                                               rw [← this]; exact hu)
  | fu + 1, p, k, P, hp, h1, hk, hu, h => by
    refine pw_bind _ (pw_place hp (by omega) hu _ 0 k (Nat.zero_le _) (Nat.le_refl _) (by omega) (fun i hi => by omega) (fun i a b => by omega) fun m hm hlo hhi => ?_)
    refine pw_bin fu (hp.bubble _ _) (by omega) (by omega) ?_ h
    have hs : k < p.size := by rw [hp.1]; omega
    intro i j hij hj
    rw [ky_bubble hs (by omega), ky_bubble hs (by omega)]
    have em : k - (k - m) = m := by omega
    rw [em]
    by_cases hi : i = m
    · rw [if_pos hi]
      by_cases hj2 : j = m
      · rw [if_pos hj2]; exact Int.le_refl _
      · rw [if_neg hj2, if_pos ⟨by omega, by omega⟩]
        exact Int.le_of_lt (hhi _ (by omega) (by omega))
    · rw [if_neg hi]
      by_cases hi2 : m < i ∧ i ≤ k
      · rw [if_pos hi2, if_neg (by omega), if_pos ⟨by omega, by omega⟩]
        exact hu _ _ (by omega) (by omega)
      · rw [if_neg hi2]
        have him : i < m := by omega
        by_cases hj2 : j = m
        · rw [if_pos hj2]; exact hlo i him
        · rw [if_neg hj2]
          by_cases hj3 : m < j ∧ j ≤ k
          · rw [if_pos hj3]; exact hu _ _ (by omega) (by omega)
          · rw [if_neg hj3]; exact hu _ _ hij (by omega)
theorem pw_sort (hn : 1 ≤ n) {P : Array Nat → Prop} (h : ∀ q, PermR n q → Up f q n → P q) : pw (ltOf f) n (kas_sort n) P := by
  have hp : PermR n (List.toArray (List.range n)) := ⟨by simp, Array.Perm.refl _⟩
  refine pw_bind _ (pw_count hp hn fun m q hm1 hm2 hq hu => ?_)
  dsimp only
  by_cases hlt : m < n
  · rw [if_pos hlt]
    rw [show max m 1 = m by omega]
    exact pw_bin _ hq hm1 (by omega) hu h
  · rw [if_neg hlt]
    have : m = n := by omega
    subst this
    exact h q hq hu
end
end Mine
end
section
open PySem PySem.W PyProof.Rows PySem.W.X
namespace Mine
set_option maxRecDepth 100000
set_option maxHeartbeats 4000000
theorem Keeps.refl (h : Heap) : Keeps h h := fun _ _ e => e
theorem Keeps.trans {a b c : Heap} (x : Keeps a b) (y : Keeps b c) : Keeps a c := fun _ _ e => y _ _ (x _ _ e)
theorem Keeps.push (h : Heap) (o : Obj) : Keeps h (h.push o) := fun _ _ e => Heap.get?_push_of_some _ e
/-- a pair of ints, as a tuple -/
def PairAt (h : Heap) (v : Value) (p : Int × Int) : Prop := ∃ a t u e, v = .ref a ∧ h.get? a = some ⟨.type "tuple", none, .seq #[.int p.1 t, .int p.2 u] e, #[]⟩
theorem PairAt.keeps {h h' : Heap} {v : Value} {p : Int × Int} (x : PairAt h v p) (k : Keeps h h') : PairAt h' v p := let ⟨a, t, u, e, r, g⟩ := x; ⟨a, t, u, e, r, k _ _ g⟩
inductive Pairs (h : Heap) : List Value → List (Int × Int) → Prop
  | nil : Pairs h [] []
  | cons {v vs p ps} : PairAt h v p → Pairs h vs ps → Pairs h (v :: vs) (p :: ps)
theorem Pairs.keeps {h h' : Heap} {vs : List Value} {ps : List (Int × Int)} (x : Pairs h vs ps) (k : Keeps h h') : Pairs h' vs ps := by
  induction x with
  | nil => exact .nil
  | cons a _ ih => exact .cons (a.keeps k) ih
theorem Pairs.length {h : Heap} {vs : List Value} {ps : List (Int × Int)} (x : Pairs h vs ps) : vs.length = ps.length := by
  induction x with
  | nil => rfl
  | cons _ _ ih => simp [ih]
theorem Pairs.get {h : Heap} {vs : List Value} {ps : List (Int × Int)} (x : Pairs h vs ps) {i : Nat} (hi : i < vs.length) : PairAt h (vs.getD i .none) (ps.getD i (0, 0)) := by
  induction x generalizing i with
  | nil => simp at hi
  | cons a _ ih =>
    cases i with
    | zero => simpa using a
    | succ i => simpa using ih (by simpa using hi)
theorem Pairs.of_get {h : Heap} : ∀ {vs : List Value} {ps : List (Int × Int)}, vs.length = ps.length → (∀ i, i < vs.length → PairAt h (vs.getD i .none) (ps.getD i (0, 0))) → Pairs h vs ps
  | [], [], _, _ => .nil
  | v :: vs, p :: ps, hl, hg => .cons (by simpa using hg 0 (by simp)) (Pairs.of_get (by simpa using hl) fun i hi => by simpa using hg (i + 1) (by simpa using hi))
  | [], _ :: _, hl, _ => by simp at hl
  | _ :: _, [], hl, _ => by simp at hl
theorem Pairs.append {h : Heap} {vs ws : List Value} {ps qs : List (Int × Int)} (x : Pairs h vs ps) (y : Pairs h ws qs) : Pairs h (vs ++ ws) (ps ++ qs) := by
  induction x with
  | nil => exact y
  | cons a _ ih => exact .cons a ih
theorem Pairs.take {h : Heap} {vs : List Value} {ps : List (Int × Int)} (x : Pairs h vs ps) (n : Nat) : Pairs h (vs.take n) (ps.take n) := by
  induction x generalizing n with
  | nil => simpa using .nil
  | cons a _ ih =>
    cases n with
    | zero => exact .nil
    | succ n => exact .cons a (ih n)
theorem Pairs.drop {h : Heap} {vs : List Value} {ps : List (Int × Int)} (x : Pairs h vs ps) (n : Nat) : Pairs h (vs.drop n) (ps.drop n) := by
  induction x generalizing n with
  | nil => simpa using .nil
  | cons a r ih =>
    cases n with
    | zero => exact .cons a r
    | succ n => exact ih n
/-- the one list's items, and their pairs, picked by places -/
def Picked (vs : List Value) (ps : List (Int × Int)) (vs' : List Value) (ps' : List (Int × Int)) : Prop := ∃ σ : List Nat, (∀ i ∈ σ, i < vs.length) ∧ vs' = σ.map (fun i => vs.getD i .none) ∧ ps' = σ.map (fun i => ps.getD i (0, 0))
theorem map_getD_range {α : Type} (d : α) : ∀ (l : List α), (List.range l.length).map (fun i => l.getD i d) = l := by
  intro l
  apply List.ext_getElem
  · simp
  · intro i h1 h2
    simp at h1 ⊢
    simp [h2]
theorem Picked.refl {vs : List Value} {ps : List (Int × Int)} (h : vs.length = ps.length) : Picked vs ps vs ps :=
  ⟨List.range vs.length, fun _ hi => List.mem_range.mp hi, (map_getD_range _ vs).symm, by rw [h]; exact (map_getD_range _ ps).symm⟩
/-- an object of the class, over v -/
def KeyAt (h : Heap) (C : Addr) (kv v : Value) : Prop := ∃ a d, kv = .ref a ∧ h.get? a = some ⟨.ref C, some d, .plain, #[some v]⟩
theorem KeyAt.keeps {h h' : Heap} {C : Addr} {kv v : Value} (x : KeyAt h C kv v) (k : Keeps h h') : KeyAt h' C kv v := let ⟨a, d, r, g⟩ := x; ⟨a, d, r, k _ _ g⟩
inductive Keys (h : Heap) (C : Addr) : List Value → List Value → Prop
  | nil : Keys h C [] []
  | cons {k v ks vs} : KeyAt h C k v → Keys h C ks vs → Keys h C (k :: ks) (v :: vs)
theorem Keys.keeps {h h' : Heap} {C : Addr} {ks vs : List Value} (x : Keys h C ks vs) (k : ∀ a o, o.cls = .ref C → h.get? a = some o → h'.get? a = some o) : Keys h' C ks vs := by
  induction x with
  | nil => exact .nil
  | cons a _ ih => exact .cons (let ⟨a, d, r, g⟩ := a; ⟨a, d, r, k _ _ rfl g⟩) ih
theorem Keys.length {h : Heap} {C : Addr} {ks vs : List Value} (x : Keys h C ks vs) : ks.length = vs.length := by
  induction x with
  | nil => rfl
  | cons _ _ ih => simp [ih]
theorem Keys.snoc {h : Heap} {C : Addr} {ks vs : List Value} {k v : Value} (x : Keys h C ks vs) (y : KeyAt h C k v) : Keys h C (ks ++ [k]) (vs ++ [v]) := by
  induction x with
  | nil => exact .cons y .nil
  | cons a _ ih => exact .cons a ih
theorem Keys.get {h : Heap} {C : Addr} {ks vs : List Value} (x : Keys h C ks vs) {i : Nat} (hi : i < ks.length) : KeyAt h C (ks.getD i .none) (vs.getD i .none) := by
  induction x generalizing i with
  | nil => simp at hi
  | cons a _ ih =>
    cases i with
    | zero => simpa using a
    | succ i => simpa using ih (by simpa using hi)
theorem Keys.mem {h : Heap} {C : Addr} {ks vs : List Value} (x : Keys h C ks vs) {k : Value} (hk : k ∈ ks) : ∃ v, KeyAt h C k v := by
  induction x with
  | nil => cases hk
  | cons a _ ih =>
    rcases List.mem_cons.mp hk with rfl | hk
    · exact ⟨_, a⟩
    · exact ih hk
theorem keeps_but {h h' : Heap} {a : Addr} {c : String} {xs : Array Value} {n : Nat} (hs : Heap.SameBut a h h') (ha : h.get? a = some (seqObj c xs n)) {C : Addr} : ∀ b o, o.cls = .ref C → h.get? b = some o → h'.get? b = some o := fun b o hc e =>
  (hs.2 b fun q => by
    subst q
    rw [ha] at e
    cases e
    cases hc).trans e
theorem keeps_fresh {h₀ h h' : Heap} {a : Addr} (k : Keeps h₀ h) (hs : Heap.SameBut a h h') (ha : h₀.get? a = none) : Keeps h₀ h' := fun b o e =>
  (hs.2 b fun q => by subst q; rw [ha] at e; cases e).trans (k _ _ e)
end Mine
end
section
open PySem PySem.W PyProof.Rows PySem.W.X
namespace Mine
set_option maxRecDepth 100000
set_option maxHeartbeats 4000000
section
variable {prog : Program} {w : World} {A : Around} {E : Value → Shared → Prop} {s : Shared} {h₀ : Heap} {a kS : Addr} {keys : Array Value} {e e1 : Nat} {P : PySem.Fin → Shared → Prop}
theorem tail_K {st : SortSt} (k0 : Keeps h₀ s.heap) (hk : s.heap.get? kS = some (seqObj "list" keys e)) (ha : s.heap.get? a = some (seqObj "list" #[] e1)) (hne : kS ≠ a) (hk0 : h₀.get? kS = none) (ha0 : h₀.get? a = none)
    (hz : keys.size < 64) (hz2 : (arrOf st).size < 64) (hf : failedOf st = none)
    (h : ∀ h' tk c, Keeps h₀ h' → h'.get? a = some (seqObj "list" ((arrOf st).map (·.2)) c) → P (.done (.ret .none)) { s with heap := h', toks := tk }) :
    wpAny (model prog w) A (ksk_tail a false e1 (.ref kS) st) P E s := by
  have s1 := Heap.SameBut.update s.heap kS (Obj.mapSeq fun _ => (#[] : Array Value))
  have na1 : (s.heap.update kS (Obj.mapSeq fun _ => (#[] : Array Value))).get? a = some (seqObj "list" #[] e1) := (s1.2 a hne.symm).trans ha
  have s2 := Heap.SameBut.update (s.heap.update kS (Obj.mapSeq fun _ => (#[] : Array Value))) a (Obj.mapSeq fun _ => (arrOf st).map (·.2))
  obtain ⟨c2, hc2⟩ : ∃ c2, ((s.heap.update kS (Obj.mapSeq fun _ => (#[] : Array Value))).update a (Obj.mapSeq fun _ => (arrOf st).map (·.2))).get? a = some (seqObj "list" ((arrOf st).map (·.2)) c2) :=
    ⟨_, get?_update_seq na1 fun _ => (arrOf st).map (·.2)⟩
  unfold ksk_tail
  refine wpAny_bind (listUpdate_at hk rfl ?_ (by rw [sizeLine_eq]; omega) (Nat.zero_le _))
  refine wpAny_bind (wpAny_letGo ?_)
  refine wpAny_bind (seqEpoch_at na1 rfl ?_)
  refine wpAny_bind (listUpdate_at na1 rfl ?_ (Nat.zero_le _) (by
    simp only [Bool.false_eq_true, if_false, Array.size_map]
    rw [sizeLine_eq]; omega))
  rw [hf]
  simp only [bne_self_eq_false, Bool.false_eq_true, if_false]
  exact wpAny_pure (h _ _ c2 (keeps_fresh (keeps_fresh k0 s1 hk0) s2 ha0) hc2)
end
theorem kas_item_zip {keys : Array Value} {vs : List Value} (hl : keys.size = vs.length) {i : Nat} (hi : i < keys.size) : kas_item (keys.zip vs.toArray) i = (keys.toList.getD i .none, vs.getD i .none) := by
  have h1 : i < (keys.zip vs.toArray).size := by simp; omega
  have h2 : i < vs.length := by omega
  unfold kas_item
  have e : (keys.zip vs.toArray).getD i (Value.none, Value.none) = (keys.zip vs.toArray)[i] := by unfold Array.getD; exact dif_pos h1
  rw [e, Array.getElem_zip]
  have e1 : keys.toList.getD i .none = keys[i] := by simp [hi]
  have e2 : vs.getD i .none = vs[i] := by simp [h2]
  rw [e1, e2]
  simp
section
variable {w : World} {E : Value → Shared → Prop} {h₀ : Heap} {g : Array GenState} {d : Drawn} {os : OsState} {a kS : Addr} {e e1 : Nat} {P : PySem.Fin → Shared → Prop} {t : TI} {k : KI}
/-- the list's sort, the keys made -/
theorem end_K {h : Heap} {tk0 : Nat} {keys : Array Value} {vs : List Value} {ps : List (Int × Int)} (V : Env0 w h₀) (H : HasAll h₀ (t.objs ++ k.objs t)) (k0 : Keeps h₀ h) (hk : h.get? kS = some (seqObj "list" keys e)) (ha : h.get? a = some (seqObj "list" #[] e1)) (hne : kS ≠ a) (hk0 : h₀.get? kS = none) (ha0 : h₀.get? a = none)
    (hK : Keys h k.C keys.toList vs) (hP : Pairs h₀ vs ps) (h64 : vs.length < 64)
    (hq : ∀ h' tk c vs' ps', Keeps h₀ h' → h'.get? a = some (seqObj "list" (List.toArray vs') c) → Pairs h' vs' ps' → Picked vs ps vs' ps' → ps'.Perm ps → ps'.Pairwise (fun x y => y.1 ≤ x.1) → P (.done (.ret .none)) ⟨h', g, d, tk, os⟩) :
    wpAny (model PW w) (capA 385 940) (ksk_end a false vs.toArray e1 (.ref kS) keys) P E ⟨h, g, d, tk0, os⟩ := by
  have hkl : keys.size = vs.length := by rw [← hK.length, Array.length_toList]
  have hpl := hP.length
  have hzs : (keys.zip vs.toArray).size = vs.length := by rw [Array.size_zip, hkl, List.size_toArray, Nat.min_self]
  unfold ksk_end
  simp only [Bool.false_eq_true, if_false]
  by_cases h2 : vs.toArray.size < 2
  · rw [if_pos h2, if_pos h2]
    rw [List.size_toArray] at h2
    refine wpAny_bind (wpAny_pure ?_)
    rw [StateT.run_pure]
    refine wpAny_bind (wpAny_pure ?_)
    dsimp only
    refine tail_K k0 hk ha hne hk0 ha0 (by omega) (by show (keys.zip vs.toArray).size < 64; omega) rfl fun h' tk c kk hc => ?_
    have eo : (arrOf (SortSt.mk' general' (keys.zip vs.toArray) #[] 7 none)).map (·.2) = vs.toArray := by
      show (keys.zip vs.toArray).map (·.2) = vs.toArray
      apply Array.toList_inj.mp
      rw [Array.toList_map, Array.toList_zip, List.map_snd_zip]
      simp [hkl]
    refine hq h' tk c vs ps kk (by rw [← eo]; exact hc) (hP.keeps kk) (Picked.refl hpl) (List.Perm.refl _) ?_
    have : ps.length < 2 := by omega
    match ps, this with
    | [], _ => exact .nil
    | [_], _ => exact List.pairwise_singleton _ _
  · rw [if_neg h2, if_neg h2]
    rw [List.size_toArray] at h2
    have hkind : ∀ (Q : SortKind → Shared → Prop), Q oneType' ⟨h, g, d, tk0, os⟩ → wpAny (model PW w) (capA 385 940) (keyKind' keys) Q E ⟨h, g, d, tk0, os⟩ := by
      intro Q hQ
      have := kas_kind (M := model PW w) (A := capA 385 940) (E := E) (s := ⟨h, g, d, tk0, os⟩) (vs := keys.toList) (T := .ref k.C) (Q := Q) (by rw [Array.length_toList]; omega)
        (fun v hv => by
          obtain ⟨x, ad, dd, rfl, hg⟩ := hK.mem hv
          intro A' Q' E' s' ks' hq'
          exact wpAny_bind (wpAny_loadPart (ks' _ _ hg) (wpAny_pure hq'))) (by rfl) (by simp) hQ
      rwa [Array.toArray_toList] at this
    refine wpAny_bind (hkind _ ?_)
    let f : Nat → Int := fun i => - (ps.getD i (0, 0)).1
    have hrun := kas_runs (prog := PW) (w := w) (A := capA 385 940) (E := E) (κ := oneType') (it := keys.zip vs.toArray) (n := vs.length)
      (Q := fun _ st' s' => ∃ (p : Array Nat) (h' : Heap) (tk : Nat), PermR vs.length p ∧ Up f p vs.length ∧ arrOf st' = p.map (kas_item (keys.zip vs.toArray)) ∧ failedOf st' = none ∧ s' = ⟨h', g, d, tk, os⟩ ∧ Keeps h h')
      (G := fun p s' => PermR vs.length p ∧ Up f p vs.length ∧ ∃ (h' : Heap) (tk : Nat), s' = ⟨h', g, d, tk, os⟩ ∧ Keeps h h') (s := ⟨h, g, d, tk0, os⟩)
      (by omega) h64 (fun p' st' s' _ a2 a3 ⟨b1, b2, h', tk, b3, b4⟩ => ⟨p', h', tk, b1, b2, a2, a3, b3, b4⟩)
      (kasWp_of_pw (lt := ltOf f) (n := vs.length) (Inv := fun s' => ∃ (h' : Heap) (tk : Nat), s' = ⟨h', g, d, tk, os⟩ ∧ Keeps h h') (P := fun p => PermR vs.length p ∧ Up f p vs.length)
        (fun i j C s' hi hj hI hC => by
          obtain ⟨h', tk, rfl, kh⟩ := hI
          unfold kas_cmp
          rw [kas_item_zip hkl (by omega), kas_item_zip hkl (by omega)]
          have hi' : i < keys.toList.length := by rw [Array.length_toList]; omega
          have hj' : j < keys.toList.length := by rw [Array.length_toList]; omega
          obtain ⟨ka, da, ea, ga⟩ := hK.get hi'
          obtain ⟨kb, db, eb, gb⟩ := hK.get hj'
          obtain ⟨aa, ta, ua, na, va, pa⟩ := hP.get (i := i) hi
          obtain ⟨ab, tb, ub, nb, vb, pb⟩ := hP.get (i := j) hj
          dsimp only
          rw [ea, eb]
          rw [va] at ga
          rw [vb] at gb
          have kk : Keeps h₀ h' := k0.trans kh
          refine wpAny_cap 390 950 (key_lt (V.keeps kk) (H.keeps kk) (kh _ _ ga) (kh _ _ gb) (kk _ _ pa) (kk _ _ pb) fun h'' tk' kh' => ?_)
          have e : decide ((ps.getD j (0, 0)).1 < (ps.getD i (0, 0)).1) = ltOf f i j := decide_eq_decide.2 (by
            show _ ↔ - (ps.getD i (0, 0)).1 < - (ps.getD j (0, 0)).1
            omega)
          rw [e]
          exact hC _ ⟨h'', tk', rfl, kh.trans kh'⟩)
        (fun p s' hp hI => ⟨hp.1, hp.2, hI⟩) _ _ ⟨h, tk0, rfl, Keeps.refl h⟩ (pw_sort (by omega) fun q a b => ⟨a, b⟩))
    have est : SortSt.mk' oneType' (keys.zip vs.toArray) #[] 7 none = kas_st oneType' (keys.zip vs.toArray) (List.toArray (List.range vs.length)) := by
      have e := kas_range (keys.zip vs.toArray)
      rw [hzs] at e
      show SortSt.mk' oneType' (keys.zip vs.toArray) #[] 7 none = SortSt.mk' oneType' ((List.toArray (List.range vs.length)).map (kas_item (keys.zip vs.toArray))) #[] 7 none
      rw [e]
    rw [← est] at hrun
    refine wpAny_bind (wpAny_mono hrun ?_ fun _ _ e => e)
    rintro ⟨⟨⟩, st'⟩ s' ⟨p, h', tk, hp, hu, har, hf, rfl, kh⟩
    dsimp only
    have kk : Keeps h₀ h' := k0.trans kh
    have hps : p.size = vs.length := hp.1
    refine tail_K kk (kh _ _ hk) (kh _ _ ha) hne hk0 ha0 (by omega) (by rw [har, Array.size_map]; omega) hf fun h'' tk' c kk' hc => ?_
    have hlt : ∀ i, i ∈ p.toList → i < vs.length := fun i hi => by
      have := (Array.perm_iff_toList_perm.mp hp.2).subset hi
      simpa using this
    have eo : (arrOf st').map (·.2) = List.toArray (p.toList.map fun i => vs.getD i .none) := by
      apply Array.toList_inj.mp
      rw [har, Array.map_map, Array.toList_map]
      exact List.map_congr_left fun i hi => by
        show (kas_item (keys.zip vs.toArray) i).2 = _
        rw [kas_item_zip hkl (by have := hlt i hi; omega)]
    rw [eo] at hc
    refine hq h'' tk' c (p.toList.map fun i => vs.getD i .none) (p.toList.map fun i => ps.getD i (0, 0)) kk' hc ?_ ⟨p.toList, hlt, rfl, rfl⟩ ?_ ?_
    · have hP' := hP.keeps kk'
      have : ∀ l : List Nat, (∀ i ∈ l, i < vs.length) → Pairs h'' (l.map fun i => vs.getD i .none) (l.map fun i => ps.getD i (0, 0)) := by
        intro l
        induction l with
        | nil => intro _; exact .nil
        | cons i l ih => intro hl; exact .cons (hP'.get (hl i (.head _))) (ih fun j hj => hl j (.tail _ hj))
      exact this _ hlt
    · have h1 : (p.toList.map fun i => ps.getD i (0, 0)).Perm ((List.range vs.length).map fun i => ps.getD i (0, 0)) := (Array.perm_iff_toList_perm.mp hp.2).map _
      have h2' : (List.range vs.length).map (fun i => ps.getD i (0, 0)) = ps := by
        rw [hpl]
        apply List.ext_getElem
        · simp
        · intro i h1 h2; simp at h1 ⊢; simp [h2]
      rw [h2'] at h1
      exact h1
    · rw [List.pairwise_iff_getElem]
      intro i j hi hj hij
      simp only [List.getElem_map]
      simp only [List.length_map, Array.length_toList] at hi hj
      have := hu i j (by omega) (by omega)
      unfold ky at this
      have ei : p.getD i 0 = p.toList[i]'(by simpa using hi) := by simp [Array.getD, hi]
      have ej : p.getD j 0 = p.toList[j]'(by simpa using hj) := by simp [Array.getD, hj]
      rw [ei, ej] at this
      have q : - (ps.getD (p.toList[i]'(by simpa using hi)) (0, 0)).1 ≤ - (ps.getD (p.toList[j]'(by simpa using hj)) (0, 0)).1 := this
      omega
end
end Mine
end
section
/-! what the program reckons, in plain words -/
namespace Mine
/-- one round: the row in falling order, the ties so far, the pick -/
def stepL (L ties : List (Int × Int)) (pick : Int) : Option (List (Int × Int) × List (Int × Int)) :=
  let P := (pick.fmod L.length).toNat
  let nd := (L.getD P (0, 0)).1
  let mi := (L.getD P (0, 0)).2
  let rp := L.take P ++ L.drop (P + 1)
  if (rp.length : Int) < nd ∨ (0 < nd ∧ (rp.getD (nd - 1).toNat (0, 0)).1 = 0) then none
  else some ((rp.take nd.toNat).map (fun p => (p.1 - 1, p.2)) ++ rp.drop nd.toNat, ties ++ (rp.take nd.toNat).map (fun p => (mi, p.2)))
end Mine
end
section
open PySem PySem.W PyProof.Rows PySem.W.X
namespace Mine
set_option maxRecDepth 100000
set_option maxHeartbeats 4000000
section
variable {w : World} {E : Value → Shared → Prop} {h₀ : Heap} {g : Array GenState} {d : Drawn} {os : OsState} {a kS : Addr} {e e1 : Nat} {P : PySem.Fin → Shared → Prop} {t : TI} {k : KI}
theorem rest_K {h : Heap} {tk0 : Nat} {vs : List Value} {ps : List (Int × Int)} (V : Env0 w h₀) (H : HasAll h₀ (t.objs ++ k.objs t)) (k0 : Keeps h₀ h) (hk : h.get? kS = some (seqObj "list" #[] 0)) (ha : h.get? a = some (seqObj "list" #[] e1)) (hne : kS ≠ a) (hk0 : h₀.get? kS = none) (ha0 : h₀.get? a = none)
    (hP : Pairs h₀ vs ps) (h64 : vs.length < 64)
    (hq : ∀ h' tk c vs' ps', Keeps h₀ h' → h'.get? a = some (seqObj "list" (List.toArray vs') c) → Pairs h' vs' ps' → Picked vs ps vs' ps' → ps'.Perm ps → ps'.Pairwise (fun x y => y.1 ≤ x.1) → P (.done (.ret .none)) ⟨h', g, d, tk, os⟩) :
    wpAny (model PW w) (capA 385 940) (ksk_rest a (.ref k.C) false vs.toArray e1 (.ref kS)) P E ⟨h, g, d, tk0, os⟩ := by
  unfold ksk_rest
  refine wpAny_bind (wpAny_rule ?_)
  first
    | rw [List.forIn_toArray]
    | (rw [← Array.forIn_toList]; simp only [List.toList_toArray])
    | rw [← Array.forIn_toList]
  refine wpAny_bind (ksk_fold (fun i s' => ∃ h' tk kA e, s' = (⟨h', g, d, tk, os⟩ : Shared) ∧ Keeps h₀ h' ∧ h'.get? kS = some (seqObj "list" kA e) ∧ h'.get? a = some (seqObj "list" #[] e1) ∧ Keys h' k.C kA.toList (vs.take i)) vs 0 _
    ⟨h, tk0, #[], 0, rfl, k0, hk, ha, by simpa using Keys.nil⟩ ?step ?done)
  case step =>
    rintro j x s' hx ⟨h', tk, kA, e, rfl, kk, hk', ha', hK⟩
    simp only [Nat.zero_add] at hK ⊢
    have hj : j < vs.length := (List.getElem?_eq_some_iff.mp hx).1
    have hz : kA.size ≤ vs.length := by
      have h1 := hK.length
      rw [Array.length_toList, List.length_take] at h1
      omega
    refine wpAny_bind (wpAny_attempt (wpAny_cap 400 1000 (inst_new (V.keeps kk).X (H.keeps kk) fun ad da h'' tk' kh hg hfr => ?_)))
    dsimp only
    have nk := kh _ _ hk'
    have s1 := Heap.SameBut.update h'' kS (Obj.mapSeq (·.push (.ref ad)))
    obtain ⟨c2, hc2⟩ : ∃ c2, (h''.update kS (Obj.mapSeq (·.push (.ref ad)))).get? kS = some (seqObj "list" (kA.push (.ref ad)) c2) := ⟨_, get?_update_seq nk (·.push (.ref ad))⟩
    have ek : vs.take (j + 1) = vs.take j ++ [x] := by rw [List.take_add_one, hx]; rfl
    have ea : (kA.push (Value.ref ad)).toList = kA.toList ++ [Value.ref ad] := by simp
    refine wpAny_bind (listUpdate_at nk rfl ?_ (by rw [sizeLine_eq]; omega) (Nat.le_trans (Nat.le_of_eq (Array.size_push ..)) (by rw [sizeLine_eq]; omega)))
    refine wpAny_pure ⟨rfl, _, _, kA.push (.ref ad), c2, rfl, keeps_fresh (kk.trans kh) s1 hk0, hc2, (s1.2 a hne.symm).trans (kh _ _ ha'), ?_⟩
    rw [ea, ek]
    have hK2 : Keys (h''.update kS (Obj.mapSeq (·.push (.ref ad)))) k.C kA.toList (vs.take j) := hK.keeps fun b o hc e => keeps_but s1 nk b o hc (kh _ _ e)
    exact hK2.snoc ⟨ad, da, rfl, keeps_but (C := k.C) s1 nk _ _ rfl hg⟩
  case done =>
    rintro s' ⟨h', tk, kA, e, rfl, kk, hk', ha', hK⟩
    have e3 : vs.take (0 + vs.length) = vs := List.take_of_length_le (by omega)
    rw [e3] at hK
    refine wpAny_bind (listItems_at hk' rfl ?_)
    exact end_K V H kk hk' ha' hne hk0 ha0 hK hP h64 hq
theorem sort_K {h : Heap} {tk0 n : Nat} {vs : List Value} {ps : List (Int × Int)} (V : Env0 w h₀) (H : HasAll h₀ (t.objs ++ k.objs t)) (k0 : Keeps h₀ h) (ho : h.get? a = some (seqObj "list" vs.toArray n)) (ha0 : h₀.get? a = none)
    (hP : Pairs h₀ vs ps) (h64 : vs.length < 64)
    (hq : ∀ h' tk c vs' ps', Keeps h₀ h' → h'.get? a = some (seqObj "list" (List.toArray vs') c) → Pairs h' vs' ps' → Picked vs ps vs' ps' → ps'.Perm ps → ps'.Pairwise (fun x y => y.1 ≤ x.1) → P (.done (.ret .none)) ⟨h', g, d, tk, os⟩) :
    wpAny (model PW w) (capA 385 940) (ksk_tree a (.ref k.C) false) P E ⟨h, g, d, tk0, os⟩ := by
  have ha : a < h.objs.size := Heap.lt_size ho
  have s1 := Heap.SameBut.update h a (Obj.mapSeq fun _ => (#[] : Array Value))
  obtain ⟨e1, ho1⟩ : ∃ e1, (h.update a (Obj.mapSeq fun _ => (#[] : Array Value))).get? a = some (seqObj "list" #[] e1) := ⟨_, get?_update_seq ho fun _ => #[]⟩
  have hkS : ((h.update a (Obj.mapSeq fun _ => (#[] : Array Value))).push (seqObj "tuple" vs.toArray 0)).objs.size = h.objs.size + 1 := by rw [size_push', Heap.size_update]
  unfold ksk_tree
  refine wpAny_bind (listItems_at ho rfl ?_)
  refine wpAny_bind (listUpdate_at ho rfl ?_ (by rw [List.size_toArray, sizeLine_eq]; omega) (Nat.zero_le _))
  refine wpAny_bind (seqEpoch_at ho1 rfl ?_)
  refine wpAny_bind (wpAny_newTuple ?_ (by show vs.length ≤ _; rw [sizeLine_eq]; omega))
  refine wpAny_bind (wpAny_newList ?_ (Nat.zero_le _))
  refine wpAny_holding ?_
  have kk : Keeps h₀ (((h.update a (Obj.mapSeq fun _ => (#[] : Array Value))).push (seqObj "tuple" vs.toArray 0)).push (seqObj "list" #[] 0)) := ((keeps_fresh k0 s1 ha0).trans (Keeps.push _ _)).trans (Keeps.push _ _)
  refine rest_K V H kk (Heap.get?_push_size _ rfl) (Heap.get?_push_of_some _ (Heap.get?_push_of_some _ ho1)) (by rw [hkS]; exact Nat.ne_of_gt (Nat.lt_succ_of_lt ha)) ?_ ha0 hP h64 hq
  rw [hkS]
  cases q : h₀.get? (h.objs.size + 1) with
  | none => rfl
  | some o =>
    exact absurd (Nat.lt_of_succ_lt (Heap.lt_size (k0 _ _ q))) (Nat.lt_irrefl _)
theorem sorted_K {tk0 : Nat} {l : Addr} {vs : List Value} {ps : List (Int × Int)} {Q : Value → Shared → Prop} (V : Env0 w h₀) (H : HasAll h₀ (t.objs ++ k.objs t)) (hl : h₀.IsList l vs.toArray) (hP : Pairs h₀ vs ps) (h64 : vs.length < 64)
    (hq : ∀ D h' tk vs' ps', Keeps h₀ h' → (∃ c, h'.get? D = some (seqObj "list" (List.toArray vs') c)) → h₀.get? D = none → Pairs h' vs' ps' → Picked vs ps vs' ps' → ps'.Perm ps → ps'.Pairwise (fun x y => y.1 ≤ x.1) → Q (.ref D) ⟨h', g, d, tk, os⟩) :
    wpAny (model PW w) (capA 380 930) (PySem.call (.builtin "sorted") [.ref l] [(Str.ofString "key", .ref k.C)]) Q E ⟨h₀, g, d, tk0, os⟩ := by
  refine call_function_entry_kw kind_sorted plain_sorted entry_sorted (ksk_s1 _ _) ?_
  unfold Builtin.«sorted»
  refine wpAny_bind (m := checkCount "sorted" 1 1 _) (wpAny_pure ?_)
  refine wpAny_bind (collect_list hl ?_ (by rw [sizeLine_eq]; omega))
  refine wpAny_bind (wpAny_newList ?_ (by rw [sizeLine_eq]; omega))
  have hsz : ((h₀.push (seqObj "list" #[] 0)).update h₀.objs.size (Obj.mapSeq (· ++ vs.toArray))).objs.size = h₀.objs.size + 1 := by
    rw [Heap.size_update, size_push']
  have hoL : (((h₀.push (seqObj "list" #[] 0)).update h₀.objs.size (Obj.mapSeq (· ++ vs.toArray))).push (seqObj "list" vs.toArray 0)).get? (h₀.objs.size + 1) = some (seqObj "list" vs.toArray 0) := by
    rw [← hsz]; exact Heap.get?_push_size _ rfl
  have keep : Keeps h₀ (((h₀.push (seqObj "list" #[] 0)).update h₀.objs.size (Obj.mapSeq (· ++ vs.toArray))).push (seqObj "list" vs.toArray 0)) := fun b o q => by
    have hlt : b < h₀.objs.size := Heap.lt_size q
    rw [Heap.get?_push_ne _ _ _ (by rw [hsz]; exact Nat.ne_of_lt (Nat.lt_succ_of_lt hlt)), Heap.get?_update_ne _ _ _ _ (Nat.ne_of_lt hlt), Heap.get?_push_ne _ _ _ (Nat.ne_of_lt hlt)]
    exact q
  have hno : h₀.get? (h₀.objs.size + 1) = none := Heap.get?_none_of_le (Nat.le_succ _)
  show wpAny _ _ _ _ _ (⟨((h₀.push (seqObj "list" #[] 0)).update h₀.objs.size (Obj.mapSeq (· ++ vs.toArray))).push (seqObj "list" vs.toArray 0), g, d, tk0, os⟩ : Shared)
  dsimp only
  rw [hsz]
  refine wpAny_bind (wpAny_holding (wpAny_call_entry_kw slot_list_sort ⟨_, hoL, rfl⟩ entry_list_sort ?body (ksk_l1 _ _)))
  case body =>
    show wpAny (model PW w) _ (Builtin.«list.sort» ⟨[.ref (h₀.objs.size + 1)], [(Str.ofString "key", .ref k.C)]⟩) _ _ _
    rw [ksk_t1]
    refine wpAny_cap 385 940 (sort_K V H keep hoL hno hP h64 fun h' tk c vs' ps' kk hg hP' hpk hp hs => ⟨_, rfl, ?_⟩)
    exact wpAny_pure ⟨_, rfl, hq _ h' tk vs' ps' kk ⟨_, hg⟩ hno hP' hpk hp hs⟩
end
end Mine
end
section
open PySem PySem.W PyProof.Rows PySem.W.X
namespace Mine
set_option maxRecDepth 100000
section
variable {M : Model} {A : Around} {E : Value → Shared → Prop} {h₀ h : Heap} {g : Array GenState} {d : Drawn} {t : Nat} {os : OsState} {chg news : List (Addr × Obj)}
theorem m_alloc {o : Obj} {Q : Addr → Shared → Prop} (D : Mem h₀ h chg news) (hf : o.isFreed = false) (x : ∀ a h', Mem h₀ h' chg ((a, o) :: news) → Q a ⟨h', g, d, t, os⟩) : wpAny M A (alloc o) Q E ⟨h, g, d, t, os⟩ :=
  wpAny_alloc (x _ _ (D.alloc hf))
theorem m_load {a : Addr} {q : Option Value} {o : Obj} {Q : Obj → Shared → Prop} (D : Mem h₀ h chg news) (i : Nat) (hi : news[i]? = some (a, o)) (x : Q o ⟨h, g, d, t, os⟩) : wpAny M A (loadPart a q) Q E ⟨h, g, d, t, os⟩ :=
  wpAny_loadPart (D.at i _ _ hi) x
theorem m_update {a : Addr} {q : Option Value} {f : Obj → Obj} {o : Obj} {Q : Unit → Shared → Prop} (D : Mem h₀ h chg news) (i : Nat) (hi : news[i]? = some (a, o)) (hf : (f o).isFreed = false)
    (x : ∀ h', Mem h₀ h' chg (news.set i (a, f o)) → Q () ⟨h', g, d, t, os⟩) : wpAny M A (updatePart a q f) Q E ⟨h, g, d, t, os⟩ :=
  wpAny_updatePart (D.at i _ _ hi) (x _ (D.update hi hf))
end
/-- the class's namespace as the body leaves it -/
def nsRaw (hs : List Int) (ts : List Tok) (v : List Value) (fi fl lst : Addr) (n : Nat) : Obj :=
  { cls := .type "dict", data := .dict #[⟨hs.getD 0 0, .str ⟨#[95, 95, 109, 111, 100, 117, 108, 101, 95, 95]⟩ (ts.getD 0 0), v.getD 0 .none⟩,
      ⟨hs.getD 1 0, .str ⟨#[95, 95, 113, 117, 97, 108, 110, 97, 109, 101, 95, 95]⟩ (ts.getD 1 0), v.getD 1 .none⟩,
      ⟨hs.getD 2 0, .str ⟨#[95, 95, 102, 105, 114, 115, 116, 108, 105, 110, 101, 110, 111, 95, 95]⟩ (ts.getD 2 0), v.getD 2 .none⟩,
      ⟨hs.getD 3 0, .str ⟨#[95, 95, 115, 108, 111, 116, 115, 95, 95]⟩ (ts.getD 3 0), .ref lst⟩,
      ⟨hs.getD 4 0, .str ⟨#[95, 95, 105, 110, 105, 116, 95, 95]⟩ (ts.getD 4 0), .ref fi⟩,
      ⟨hs.getD 5 0, .str ⟨#[95, 95, 108, 116, 95, 95]⟩ (ts.getD 5 0), .ref fl⟩,
      ⟨hs.getD 6 0, .str ⟨#[95, 95, 103, 116, 95, 95]⟩ (ts.getD 6 0), v.getD 6 .none⟩,
      ⟨hs.getD 7 0, .str ⟨#[95, 95, 101, 113, 95, 95]⟩ (ts.getD 7 0), v.getD 7 .none⟩,
      ⟨hs.getD 8 0, .str ⟨#[95, 95, 108, 101, 95, 95]⟩ (ts.getD 8 0), v.getD 8 .none⟩,
      ⟨hs.getD 9 0, .str ⟨#[95, 95, 103, 101, 95, 95]⟩ (ts.getD 9 0), v.getD 9 .none⟩,
      ⟨hs.getD 10 0, .str ⟨#[95, 95, 104, 97, 115, 104, 95, 95]⟩ (ts.getD 10 0), .none⟩,
      ⟨hs.getD 11 0, .str ⟨#[95, 95, 115, 116, 97, 116, 105, 99, 95, 97, 116, 116, 114, 105, 98, 117, 116, 101, 115, 95, 95]⟩ (ts.getD 11 0), v.getD 11 .none⟩] n }
namespace F
theorem sub_tt : isSubtype (.type "tuple") (.type "tuple") = pure true := by rw [isSubtype_type]; kernel_rfl
theorem sub_dd : isSubtype (.type "dict") (.type "dict") = pure true := by rw [isSubtype_type]; kernel_rfl
theorem sub_ty : isSubtype (.type "type") (.type "type") = pure true := by rw [isSubtype_type]; kernel_rfl
theorem ty_obj : typeOf (.type "object") = pure (.type "type") := by kernel_rfl
theorem isty_obj : isType (.type "object") = pure true := by kernel_rfl
theorem turned_obj : Builtin.notOverATurnedClass [.type "object"] = pure () := by
  unfold Builtin.notOverATurnedClass
  simp only [List.forIn_cons, List.forIn_nil, isty_obj, pure_bind, if_true, mroOf_type]
  kernel_rfl
end F
end Mine
namespace Mine.F
theorem sub_oo : isSubtype (.type "object") (.type "object") = pure true := by rw [isSubtype_type]; kernel_rfl
end Mine.F
end
section
open PySem PySem.W PyProof.Rows PySem.W.X
namespace Mine.F
theorem best_o : Builtin.Slots.bestBase [.type "object"] = pure (.type "object") := by kernel_rfl
theorem solid_o : Builtin.Slots.solid (.type "object") = pure (.type "object") := by kernel_rfl
theorem names_o : Builtin.Slots.slotNamesOf (.type "object") = pure [] := by kernel_rfl
theorem dict_o : Builtin.Slots.givesDict (.type "object") = pure false := by kernel_rfl
theorem weak_o : Builtin.Slots.givesWeak (.type "object") = pure false := by
  unfold Builtin.Slots.givesWeak
  simp only [mroOf_type, typeLookup_type, builtinLookup_eq_fast]
  kernel_rfl
theorem var_o : Builtin.Slots.varSize (.type "object") = pure false := by
  unfold Builtin.Slots.varSize
  simp only [mroOf_type]
  kernel_rfl
theorem made_o : Bind.madeBy (.type "object") = pure (some "object.__new__") := by
  unfold Bind.madeBy
  simp only [mroOf_type, typeLookup_type, builtinLookup_eq_fast]
  kernel_rfl
theorem mroHook_t : Builtin.mroHook? (.type "type") = pure none := by
  unfold Builtin.mroHook?
  simp only [typeLookup_type, builtinLookup_eq_fast]
  kernel_rfl
theorem lin_o : Builtin.linearize [.type "object"] mroOf = pure [.type "object"] := by
  unfold Builtin.linearize
  simp only [List.mapM_cons, List.mapM_nil, mroOf_type]
  kernel_rfl
theorem ext_o : Builtin.extendedBase [.type "object"] = pure (.type "object") := by
  unfold Builtin.extendedBase
  simp only [List.forIn_cons, List.forIn_nil, solid_o, sub_oo, best_o, pure_bind]
  kernel_rfl
theorem iter_d : typeLookup (.type "dict") "__iter__" = pure (some (.builtin "dict.__iter__")) := by rw [typeLookup_type, builtinLookup_eq_fast]; kernel_rfl
theorem note_o (a : Addr) : Builtin.noteSubclassOfBuiltin "object" a = pure () := by
  unfold Builtin.noteSubclassOfBuiltin
  kernel_rfl
theorem set_fn : typeLookup (.type "function") "__set_name__" = pure none := by rw [typeLookup_type, builtinLookup_eq_fast]; kernel_rfl
theorem set_str : typeLookup (.type "str") "__set_name__" = pure none := by rw [typeLookup_type, builtinLookup_eq_fast]; kernel_rfl
theorem set_int : typeLookup (.type "int") "__set_name__" = pure none := by rw [typeLookup_type, builtinLookup_eq_fast]; kernel_rfl
theorem set_tup : typeLookup (.type "tuple") "__set_name__" = pure none := by rw [typeLookup_type, builtinLookup_eq_fast]; kernel_rfl
theorem set_list : typeLookup (.type "list") "__set_name__" = pure none := by rw [typeLookup_type, builtinLookup_eq_fast]; kernel_rfl
theorem set_none : typeLookup (.type "NoneType") "__set_name__" = pure none := by rw [typeLookup_type, builtinLookup_eq_fast]; kernel_rfl
theorem set_md : typeLookup (.type "member_descriptor") "__set_name__" = pure none := by rw [typeLookup_type, builtinLookup_eq_fast]; kernel_rfl
end Mine.F
end
section
open PySem PySem.W PyProof.Rows PySem.W.X
namespace Mine
set_option maxRecDepth 100000
set_option maxHeartbeats 1000000
section
variable {M : Model} {A : Around} {E : Value → Shared → Prop} {s : Shared} 
theorem m_ext {bs : List Value} {Q : Value → Shared → Prop} (e : bs = [.type "object"]) (x : Q (.type "object") s) : wpAny M A (Builtin.extendedBase bs) Q E s := by
  subst e
  exact wpAny_of_eq F.ext_o x
theorem m_best {bs : List Value} {Q : Value → Shared → Prop} (e : bs = [.type "object"]) (x : Q (.type "object") s) : wpAny M A (Builtin.Slots.bestBase bs) Q E s := by
  subst e
  exact wpAny_of_eq F.best_o x
theorem m_turned {bs : List Value} {Q : Unit → Shared → Prop} (e : bs = [.type "object"]) (x : Q () s) : wpAny M A (Builtin.notOverATurnedClass bs) Q E s := by
  subst e
  exact wpAny_of_eq F.turned_obj x
theorem m_names {b : Value} {Q : List Str → Shared → Prop} (e : b = .type "object") (x : Q [] s) : wpAny M A (Builtin.Slots.slotNamesOf b) Q E s := by
  subst e
  exact wpAny_of_eq F.names_o x
theorem m_dict {b : Value} {Q : Bool → Shared → Prop} (e : b = .type "object") (x : Q false s) : wpAny M A (Builtin.Slots.givesDict b) Q E s := by
  subst e
  exact wpAny_of_eq F.dict_o x
theorem m_weak {b : Value} {Q : Bool → Shared → Prop} (e : b = .type "object") (x : Q false s) : wpAny M A (Builtin.Slots.givesWeak b) Q E s := by
  subst e
  exact wpAny_of_eq F.weak_o x
theorem m_var {b : Value} {Q : Bool → Shared → Prop} (e : b = .type "object") (x : Q false s) : wpAny M A (Builtin.Slots.varSize b) Q E s := by
  subst e
  exact wpAny_of_eq F.var_o x
end
local macro_rules | `(tactic| x_close) => `(tactic| (
  (rename Mem _ _ _ _ => D')
  (rename (∀ _ _ _ _, Keeps _ _ → _) => hQ')
  exact hQ' _ _ _ _ (keeps_of D') (D'.at 0 _ _ rfl)))
set_option maxHeartbeats 0 in
theorem collect_run {w : World} {h : Heap} {g : Array GenState} {d : Drawn} {tk0 : Nat} {os : OsState} (X : (myK w.params).In h)
    {lst : Addr} {x : Str} {tO : Tok} {e2 : Nat} (hl : h.get? lst = some ⟨.type "list", none, .seq #[.str x tO] e2, #[]⟩)
    {Q : Value → Shared → Prop} {E : Value → Shared → Prop}
    (hQ : ∀ (l : Addr) (n : Nat) (h' : Heap) (tk : Nat), Keeps h h' → h'.get? l = some ⟨.type "list", none, .seq #[.str x tO] n, #[]⟩ → Q (.ref l) ⟨h', g, d, tk, os⟩) :
    wpAny (model PySem.Challenge.pw_dw5009_01 w) bigA (runValue (.builtin "proto.collect" ⟨[.ref lst], []⟩)) Q E ⟨h, g, d, tk0, os⟩ := by
  x_run
def theEntries (hs : List Int) (ts : List Tok) (v : List Value) (fi fl lst : Addr) : Array DictEntry := match (nsRaw hs ts v fi fl lst 0).data with | .dict es _ => es | _ => #[]
theorem slots_read {w : World} {A : Around} {h : Heap} {g : Array GenState} {d : Drawn} {tk : Nat} {os : OsState} (X : (myK w.params).In h) (hA : A.handled = none ∧ A.depth ≤ 400 ∧ A.units ≤ 1000) {fi fl lst : Addr} {tO : Tok} {hs : List Int} {ts : List Tok} {v : List Value} {e2 : Nat}
    (hl : h.get? lst = some ⟨.type "list", none, .seq #[.str ⟨#[111, 98, 106]⟩ tO] e2, #[]⟩)
    {Q : Builtin.Slots.Plan → Shared → Prop} {E : Value → Shared → Prop} (hQ : ∀ h' tk', Keeps h h' → Q { names := [⟨#[111, 98, 106]⟩], dict := false, weak := false, inherited := [] } ⟨h', g, d, tk', os⟩) :
    wpAny (model PySem.Challenge.pw_dw5009_01 w) A (Builtin.Slots.read ⟨#[75]⟩ [.type "object"] (theEntries hs ts v fi fl lst)) Q E ⟨h, g, d, tk, os⟩ := by
  unfold Builtin.Slots.read
  have e : (theEntries hs ts v fi fl lst).find? (fun x => x.key.isStr "__slots__") = some ⟨hs.getD 3 0, .str ⟨#[95, 95, 115, 108, 111, 116, 115, 95, 95]⟩ (ts.getD 3 0), .ref lst⟩ := by kernel_rfl
  refine wpAny_bind (m_best rfl ?_)
  refine wpAny_bind (m_names rfl ?_)
  refine wpAny_bind (m_dict rfl ?_)
  refine wpAny_bind (m_weak rfl ?_)
  refine wpAny_bind (m_var rfl ?_)
  rw [e]
  repeat (first | (with_reducible refine wpAny_runValue ?_; fail) | (fail_if_success (with_reducible refine wpAny_runValue ?_)); wp_step)
  refine wpAny_big hA.1 hA.2.1 hA.2.2 (collect_run X hl fun l nl h' tk' hk hl' => ?_)
  repeat (first | (with_reducible refine m_var rfl ?_) | (with_reducible refine wpAny_load hl' ?_) | wp_step)
  have e3 : Builtin.Slots.isIdentifier ⟨#[111, 98, 106]⟩ = some true := by kernel_rfl
  rw [e3]
  have e4 : ((⟨#[111, 98, 106]⟩ : Str) == Str.ofString "__dict__") = false := by kernel_rfl
  have e5 : ((⟨#[111, 98, 106]⟩ : Str) == Str.ofString "__weakref__") = false := by kernel_rfl
  have e6 : ((⟨#[111, 98, 106]⟩ : Str) == Str.ofString "__del__") = false := by kernel_rfl
  have e7 : Builtin.Slots.mangle ⟨#[75]⟩ ⟨#[111, 98, 106]⟩ = ⟨#[111, 98, 106]⟩ := by kernel_rfl
  have e8 : (theEntries hs ts v fi fl lst).any (fun x => x.key.isStr ⟨#[111, 98, 106]⟩) = false := by kernel_rfl
  repeat (first | rw [e4] | rw [e5] | rw [e6] | rw [e7] | rw [e8] | wp_step)
  refine Eq.mpr (congrArg (fun p => Q p ⟨h', g, d, tk', os⟩) ?e) (hQ h' tk' hk)
  case e => kernel_rfl
end Mine
end
section
open PySem PySem.W PyProof.Rows PySem.W.X
namespace Mine
set_option maxRecDepth 100000
namespace F
theorem isub_own : builtinOwn "object" "__init_subclass__" = some (.builtin "object.__init_subclass__") := by kernel_rfl
theorem ty_isub : typeOf (.builtin "object.__init_subclass__") = pure (.type "classmethod_descriptor") := by show builtinType _ = _; rw [builtinType_eq_fast]; kernel_rfl
theorem get_cmd' : typeLookup (.type "classmethod_descriptor") "__get__" = pure (some (.builtin "classmethod_descriptor.__get__")) := by rw [typeLookup_type, builtinLookup_eq_fast]; kernel_rfl
end F
local macro_rules | `(tactic| x_close) => `(tactic| (
  (rename Mem _ _ _ _ => D')
  (rename (∀ _ _ _, Keeps _ _ → _) => hQ')
  exact hQ' _ _ _ (keeps_of D') (D'.at 0 _ _ rfl)))
set_option maxHeartbeats 0 in
theorem super_run {w : World} {h : Heap} {g : Array GenState} {d : Drawn} {tk0 : Nat} {os : OsState} (X : (myK w.params).In h)
    {C ns fi fl md : Addr} {q : Str} {s0 s2 s3 s5 : Option Value} {hs : List Int} {ts : List Tok} {v : List Value} {n : Nat}
    (hC : h.get? C = some (kCls C ns q s0 s2 s3 s5)) (hN : h.get? ns = some (kNs hs ts v fi fl md n))
    {Q : Value → Shared → Prop} {E : Value → Shared → Prop}
    (hQ : ∀ (sp : Addr) (h' : Heap) (tk : Nat), Keeps h h' → h'.get? sp = some { cls := .type "super", data := .fields #[.ref C, .ref C, .ref C] } → Q (.ref sp) ⟨h', g, d, tk, os⟩) :
    wpAny (model PySem.Challenge.pw_dw5009_01 w) bigA (PySem.call (.type "super") [.ref C, .ref C]) Q E ⟨h, g, d, tk0, os⟩ := by
  unfold kCls at hC
  unfold kNs at hN
  x_run
local macro_rules | `(tactic| x_close) => `(tactic| (
  (rename Mem _ _ _ _ => D')
  (rename (∀ _ _ _, Keeps _ _ → _) => hQ')
  first | exact hQ' _ _ _ (keeps_of D') (D'.at 0 _ _ rfl) | fail))
set_option maxHeartbeats 0 in
theorem isub_get {w : World} {h : Heap} {g : Array GenState} {d : Drawn} {tk0 : Nat} {os : OsState} (X : (myK w.params).In h)
    {C ns fi fl md : Addr} {q : Str} {s0 s2 s3 s5 : Option Value} {hs : List Int} {ts : List Tok} {v : List Value} {n : Nat}
    (hC : h.get? C = some (kCls C ns q s0 s2 s3 s5)) (hN : h.get? ns = some (kNs hs ts v fi fl md n))
    {Q : Value → Shared → Prop} {E : Value → Shared → Prop}
    (hQ : ∀ (m : Addr) (h' : Heap) (tk : Nat), Keeps h h' → h'.get? m = some { cls := .type "builtin_function_or_method", data := .fields #[.builtin "object.__init_subclass__", .ref C] } → Q (.ref m) ⟨h', g, d, tk, os⟩) :
    wpAny (model PySem.Challenge.pw_dw5009_01 w) bigA (PySem.call (.builtin "classmethod_descriptor.__get__") [.builtin "object.__init_subclass__", .none, .ref C]) Q E ⟨h, g, d, tk0, os⟩ := by
  unfold kCls at hC
  unfold kNs at hN
  x_run
def qK : Str := ⟨#[99, 109, 112, 95, 116, 111, 95, 107, 101, 121, 46, 60, 108, 111, 99, 97, 108, 115, 62, 46, 75]⟩
local macro_rules | `(tactic| x_close) => `(tactic| ((rename (∀ _ _, Keeps _ _ → _) => hQ'); first | exact hQ' _ _ (keeps_of (by assumption)) | exact hQ' _ _ (fun _ _ e => e)))
set_option maxHeartbeats 0 in
theorem isub_call {w : World} {h : Heap} {g : Array GenState} {d : Drawn} {tk0 : Nat} {os : OsState} (X : (myK w.params).In h)
    {C ns fi fl md m : Addr} {s0 s2 s3 s5 : Option Value} {hs : List Int} {ts : List Tok} {v : List Value} {n : Nat}
    (hC : h.get? C = some (kCls C ns qK s0 s2 s3 s5)) (hN : h.get? ns = some (kNs hs ts v fi fl md n))
    (hm : h.get? m = some { cls := .type "builtin_function_or_method", data := .fields #[.builtin "object.__init_subclass__", .ref C] })
    {Q : Value → Shared → Prop} {E : Value → Shared → Prop}
    (hQ : ∀ (h' : Heap) (tk : Nat), Keeps h h' → Q .none ⟨h', g, d, tk, os⟩) :
    wpAny (model PySem.Challenge.pw_dw5009_01 w) bigA (PySem.call (.ref m) []) Q E ⟨h, g, d, tk0, os⟩ := by
  unfold kCls qK at hC
  unfold kNs at hN
  x_run
end Mine
end
section
open PySem PySem.W PyProof.Rows PySem.W.X
namespace Mine
set_option maxRecDepth 100000
set_option maxHeartbeats 1000000
section
variable {M : Model} {A : Around} {E : Value → Shared → Prop} {s : Shared}
theorem m_note {n : String} {a : Addr} {Q : Unit → Shared → Prop} (e : n = "object") (x : Q () s) : wpAny M A (Builtin.noteSubclassOfBuiltin n a) Q E s := by
  subst e
  exact wpAny_of_eq (F.note_o a) x
/-- a value that has no __set_name__ -/
def SetOk (h : Heap) (x : Value) : Prop := x = .none ∨ (∃ s t, x = .str s t) ∨ (∃ n t, x = .int n t) ∨ ∃ a o T, x = .ref a ∧ h.get? a = some o ∧ o.cls = .type T ∧ typeLookup (.type T) "__set_name__" = pure none
theorem SetOk.keeps {h h' : Heap} {x : Value} (H : SetOk h x) (k : Keeps h h') : SetOk h' x := by
  rcases H with h | h | h | ⟨a, o, T, h1, h2, h3, h4⟩
  · exact .inl h
  · exact .inr (.inl h)
  · exact .inr (.inr (.inl h))
  · exact .inr (.inr (.inr ⟨a, o, T, h1, k _ _ h2, h3, h4⟩))
theorem m_set {x : Value} {Q : Option Value → Shared → Prop} (H : SetOk s.heap x) (h : Q none s) : wpAny M A (specialOf x "__set_name__") Q E s := by
  unfold specialOf
  rcases H with rfl | ⟨s, t, rfl⟩ | ⟨n, t, rfl⟩ | ⟨a, o, T, rfl, h2, h3, h4⟩
  · exact wpAny_bind (wpAny_pure (wpAny_of_eq F.set_none h))
  · exact wpAny_bind (wpAny_pure (wpAny_of_eq F.set_str h))
  · exact wpAny_bind (wpAny_pure (wpAny_of_eq F.set_int h))
  · refine wpAny_bind (wpAny_bind (wpAny_loadPart h2 (wpAny_pure ?_)))
    rw [h3]
    exact wpAny_of_eq h4 h
theorem m_laid {k x : Value} {h : Heap} (H : SetOk h x) : Builtin.laidUnderItsOwnName k x = false := by
  rcases H with rfl | ⟨s, t, rfl⟩ | ⟨n, t, rfl⟩ | ⟨a, o, T, rfl, h2, h3, h4⟩ <;> (cases k <;> rfl)
theorem forIn_same {α β : Type} {l : List α} {x : β} {f : α → β → Sem (ForInStep β)} {Q : β → Shared → Prop} (hf : ∀ e ∈ l, ∀ Q', Q' (.yield x) s → wpAny M A (f e x) Q' E s) (h : Q x s) : wpAny M A (forIn l x f) Q E s := by
  induction l with
  | nil => rw [List.forIn_nil]; exact wpAny_pure h
  | cons a r ih =>
    rw [List.forIn_cons]
    refine wpAny_bind (hf a (.head _) _ ?_)
    exact ih fun e he => hf e (.tail _ he)
theorem forIn_sameA {α β : Type} {l : Array α} {x : β} {f : α → β → Sem (ForInStep β)} {Q : β → Shared → Prop} (hf : ∀ e ∈ l.toList, ∀ Q', Q' (.yield x) s → wpAny M A (f e x) Q' E s) (h : Q x s) : wpAny M A (forIn l x f) Q E s := by
  rw [← Array.forIn_toList]
  exact forIn_same hf h
end
def entsOf (o : Obj) : Array DictEntry := match o.data with | .dict es _ => es | _ => #[]
theorem ents_ok {h : Heap} {hs : List Int} {ts : List Tok} {v : List Value} {fi fl md : Addr} {n : Nat} (hv : ∀ i, SetOk h (v.getD i .none)) (hfi : SetOk h (.ref fi)) (hfl : SetOk h (.ref fl)) (hmd : SetOk h (.ref md)) :
    ∀ e ∈ (entsOf (kNs hs ts v fi fl md n)).toList, (∃ s t, e.key = .str s t) ∧ SetOk h e.val := by
  intro e he
  simp only [entsOf, kNs, List.mem_cons, List.not_mem_nil, or_false] at he
  rcases he with rfl | rfl | rfl | rfl | rfl | rfl | rfl | rfl | rfl | rfl | rfl | rfl | rfl
  all_goals first
    | exact ⟨⟨_, _, rfl⟩, hv _⟩
    | exact ⟨⟨_, _, rfl⟩, hfi⟩
    | exact ⟨⟨_, _, rfl⟩, hfl⟩
    | exact ⟨⟨_, _, rfl⟩, hmd⟩
    | exact ⟨⟨_, _, rfl⟩, .inl rfl⟩
theorem forIn_one {β : Type} {c : Value} {init : β} {body : Value → β → Sem (ForInStep β)} {M : Model} {A : Around} {E : Value → Shared → Prop} {s : Shared} {Q : β → Shared → Prop}
    (h : wpAny M A (body c init) (fun st s' => match st with | .done b => Q b s' | .yield b => Q b s') E s) : wpAny M A (forIn [c] init body) Q E s := by
  rw [List.forIn_cons]
  refine wpAny_bind (wpAny_mono h (fun st s' h' => ?_) fun _ _ z => z)
  cases st with
  | done b => exact wpAny_pure h'
  | yield b => exact wpAny_pure h'
/-- super(C, C).__init_subclass__ -/
theorem sup_attr {w : World} {h : Heap} {g : Array GenState} {d : Drawn} {tk0 : Nat} {os : OsState} (X : (myK w.params).In h)
    {C ns fi fl md sp : Addr} {q : Str} {s0 s2 s3 s5 : Option Value} {hs : List Int} {ts : List Tok} {v : List Value} {n : Nat}
    (hC : h.get? C = some (kCls C ns q s0 s2 s3 s5)) (hN : h.get? ns = some (kNs hs ts v fi fl md n)) (hso : h.get? sp = some { cls := .type "super", data := .fields #[.ref C, .ref C, .ref C] })
    {name : Str} (hn : (name == ("__class__" : Str)) = false) (hown : builtinOwn "object" name = some (.builtin "object.__init_subclass__"))
    {Q : Value → Shared → Prop} {E : Value → Shared → Prop}
    (hQ : ∀ (m : Addr) (h' : Heap) (tk : Nat), Keeps h h' → h'.get? m = some { cls := .type "builtin_function_or_method", data := .fields #[.builtin "object.__init_subclass__", .ref C] } → Q (.ref m) ⟨h', g, d, tk, os⟩) :
    wpAny (model PySem.Challenge.pw_dw5009_01 w) { handled := none, depth := 390, frames := none, guards := none, units := 950 } (getAttr (.ref sp) name) Q E ⟨h, g, d, tk0, os⟩ := by
  have hlk := PySem.F.ks_slot_super_ga.lookup
  have hT : ∀ t', (⟨h, g, d, t', os⟩ : Shared).TypeIs (.ref sp) "super" := fun _ => ⟨_, hso, rfl⟩
  unfold getAttr getAttrBy
  refine wpAny_bind (wpAny_mkText (wpAny_holding (wpAny_bind (wpAny_typeOf (hT _) (wpAny_bind (wpAny_of_eq hlk ?_))))))
  show wpAny _ _ (getAttrByItsOwn (.ref sp) (.str name tk0) (.type "super") (.builtin "super.__getattribute__") true false) _ _ _
  unfold getAttrByItsOwn hookBefore callGetattribute boundAndCalled
  refine wpAny_bind (wpAny_of_eq (show (if onTheHeap (.type "super") then typeLookup (.type "super") "__getattr__" else pure none) = pure none from rfl) ?_)
  refine wpAny_bind (wpAny_attempt (wpAny_holding ?_))
  show wpAny _ _ (bindSpecial (.builtin "super.__getattribute__") (.ref sp) >>= _) _ _ _
  refine wpAny_bind (wpAny_of_eq (PySem.F.ks_slot_super_ga.bind _) ?_)
  refine wpAny_call_entry PySem.F.ks_slot_super_ga (hT _) PySem.F.ks_entry_super_ga ?_ (PySem.F.ks_gaArgs_super _ _)
  show wpAny _ _ (Builtin.«super.__getattribute__» ⟨[.ref sp, .str name tk0], []⟩) _ _ _
  unfold Builtin.«super.__getattribute__»
  have hno : Looks (model PySem.Challenge.pw_dw5009_01 w) h (opaqueClassAbove (.ref C)) none := looks_opaque X (by kernel_rfl)
  have hdt : ({ cls := .type "super", dict := none, data := .fields #[.ref C, .ref C, .ref C], slots := #[] } : Obj).data = .fields #[.ref C, .ref C, .ref C] := rfl
  have f0 : (#[.ref C, .ref C, .ref C] : Array Value)[0]? = some (.ref C) := rfl
  have f1 : (#[.ref C, .ref C, .ref C] : Array Value)[1]? = some (.ref C) := rfl
  have f2 : (#[.ref C, .ref C, .ref C] : Array Value)[2]? = some (.ref C) := rfl
  have hdw : List.drop 1 (List.dropWhile (fun x => x != Value.ref C) [Value.ref C, Value.type "object"]) = [Value.type "object"] := by simp
  have hne : (Value.ref C == Value.ref C) = true := by simp
  iterate 25 (first
    | (with_reducible refine wpAny_field hso hdt f0 ?_) | (with_reducible refine wpAny_field hso hdt f1 ?_) | (with_reducible refine wpAny_field hso hdt f2 ?_)
    | (with_reducible refine ks_wpAny_notOpaque hno ?_)
    | (with_reducible refine mro_K hC ?_; rw [hdw])
    | (refine forIn_one ?_)
    | (simp only [hn, Bool.or_false, Bool.false_eq_true, if_false])
    | wp_step
    | dsimp only)
  refine wpAny_pure ?_
  rw [hown]
  dsimp only
  refine wpAny_bind (wpAny_of_eq F.ty_isub ?_)
  refine wpAny_bind (wpAny_of_eq F.get_cmd' ?_)
  dsimp only
  refine wpAny_bind (wpAny_holding ?_)
  rw [if_pos hne]
  refine wpAny_cap 400 1000 (isub_get X hC hN fun m h' tk hk hm => ?_)
  exact wpAny_pure (wpAny_pure ⟨_, rfl, wpAny_pure (hQ m h' tk hk hm)⟩)
end Mine
end
section
open PySem PySem.W PyProof.Rows PySem.W.X
namespace Mine
set_option maxRecDepth 100000
set_option maxHeartbeats 2000000
section
variable {M : Model} {A : Around} {E : Value → Shared → Prop} {h₀ h : Heap} {g : Array GenState} {d : Drawn} {t : Nat} {os : OsState} {chg news : List (Addr × Obj)}
theorem m_nsGet {ns : Addr} {name : Str} {o : Obj} {r : Option Value} {Q : Option Value → Shared → Prop} (D : Mem h₀ h chg news) (i : Nat) (hi : news[i]? = some (ns, o)) (e : nsLook name o = pure r) (x : Q r ⟨h, g, d, t, os⟩) :
    wpAny M A (nsGet ns name) Q E ⟨h, g, d, t, os⟩ := by
  unfold nsGet
  refine wpAny_bind (m_load D i hi ?_)
  rw [e]
  exact wpAny_pure x
end
theorem m_slots {w : World} {A : Around} {h : Heap} {g : Array GenState} {d : Drawn} {tk : Nat} {os : OsState} (X : (myK w.params).In h) (hA : A.handled = none ∧ A.depth ≤ 400 ∧ A.units ≤ 1000) {fi fl lst : Addr} {tO : Tok} {hs : List Int} {ts : List Tok} {v : List Value} {e2 : Nat}
    (hl : h.get? lst = some ⟨.type "list", none, .seq #[.str ⟨#[111, 98, 106]⟩ tO] e2, #[]⟩) {nm : Str} {bs : List Value} {es : Array DictEntry}
    (h0 : nm = ⟨#[75]⟩) (h1 : bs = [.type "object"]) (h2 : es = theEntries hs ts v fi fl lst)
    {Q : Builtin.Slots.Plan → Shared → Prop} {E : Value → Shared → Prop} (hQ : ∀ h' tk', Keeps h h' → Q { names := [⟨#[111, 98, 106]⟩], dict := false, weak := false, inherited := [] } ⟨h', g, d, tk', os⟩) :
    wpAny (model PySem.Challenge.pw_dw5009_01 w) A (Builtin.Slots.read nm bs es) Q E ⟨h, g, d, tk, os⟩ := by
  subst h0 h1 h2
  exact slots_read X hA hl hQ
theorem m_updCls {M : Model} {A : Around} {E : Value → Shared → Prop} {h₀ h : Heap} {g : Array GenState} {d : Drawn} {t : Nat} {os : OsState} {chg news : List (Addr × Obj)} {a : Addr} {f : ClassData → ClassData} {o : Obj} {Q : Unit → Shared → Prop} (D : Mem h₀ h chg news) (i : Nat) (hi : news[i]? = some (a, o)) (hc : ∃ c, o.data = .cls c)
    (hf : (Obj.mapCls f o).isFreed = false) (hp : (Obj.mapCls f o).data.pastItsLine = none) (x : ∀ h', Mem h₀ h' chg (news.set i (a, Obj.mapCls f o)) → Q () ⟨h', g, d, t, os⟩) : wpAny M A (updateCls a f) Q E ⟨h, g, d, t, os⟩ := by
  unfold updateCls
  refine wpAny_bind (wpAny_load (D.at i _ _ hi) ?_)
  obtain ⟨c, hc⟩ := hc
  rw [hc]
  have D' := D.update hi hf
  exact wpAny_bind (wpAny_update (D.at i _ _ hi) (wpAny_lookBehind (D'.at i _ _ (by
    obtain ⟨hl, _⟩ := List.getElem?_eq_some_iff.mp hi
    rw [List.getElem?_set_self hl])) hp (x _ D')))
theorem m_isUpdCls {M : Model} {A : Around} {E : Value → Shared → Prop} {s : Shared} {a : Addr} {n : ClassData → ClassData} {Q : Unit → Shared → Prop} (h : wpAny M A (updateCls a n) Q E s) : wpAny M A (updateCls a n) Q E s := h
theorem m_tl {M : Model} {A : Around} {E : Value → Shared → Prop} {h₀ h : Heap} {g : Array GenState} {d : Drawn} {t : Nat} {os : OsState} {chg news : List (Addr × Obj)} {C ns : Addr} {o on : Obj} {c : ClassData} {name : Str} {r : Option Value} {Q : Option Value → Shared → Prop} (D : Mem h₀ h chg news) (i j : Nat) (hi : news[i]? = some (C, o)) (hj : news[j]? = some (ns, on))
    (hc : o.data = .cls c) (hm : c.mro = [.ref C, .type "object"]) (hns : c.ns = ns) (e : nsLook name on = pure none) (e2 : builtinOwn "object" name = r) (x : Q r ⟨h, g, d, t, os⟩) : wpAny M A (typeLookup (.ref C) name) Q E ⟨h, g, d, t, os⟩ := by
  subst hns e2
  unfold typeLookup
  have hl : wpAny M A (mroOf (.ref C)) (fun l s => l = [.ref C, .type "object"] ∧ s = ⟨h, g, d, t, os⟩) E ⟨h, g, d, t, os⟩ := by
    show wpAny M A (do return (← (do match (← load C).data with | .cls c => pure c | _ => unsupported "internal:not-a-class" : Sem ClassData)).mro) _ E _
    refine wpAny_bind (wpAny_bind (wpAny_load (D.at i _ _ hi) ?_))
    rw [hc]
    exact wpAny_pure (wpAny_pure ⟨hm, rfl⟩)
  refine wpAny_bind (wpAny_mono hl (fun l s hs => ?_) fun _ _ z => z)
  obtain ⟨rfl, rfl⟩ := hs
  simp only [List.forIn_cons]
  refine wpAny_bind (wpAny_bind (wpAny_bind ?_))
  show wpAny M A (do nsGet (← (do match (← load C).data with | .cls c => pure c | _ => unsupported "internal:not-a-class" : Sem ClassData)).ns name) _ E _
  refine wpAny_bind (wpAny_bind (wpAny_load (D.at i _ _ hi) ?_))
  rw [hc]
  refine wpAny_pure (m_nsGet D j hj e (wpAny_pure (wpAny_bind (wpAny_bind ?_))))
  show wpAny M A (pure (builtinOwn "object" name)) _ E _
  refine wpAny_pure ?_
  cases h : builtinOwn "object" name with
  | none =>
    refine wpAny_pure ?_
    dsimp only
    rw [List.forIn_nil]
    exact wpAny_pure (wpAny_pure (h ▸ x))
  | some v => exact wpAny_pure (wpAny_pure (wpAny_pure (h ▸ x)))
theorem m_nsSet {M : Model} {A : Around} {E : Value → Shared → Prop} {h₀ h : Heap} {g : Array GenState} {d : Drawn} {t : Nat} {os : OsState} {chg news : List (Addr × Obj)} {ns : Addr} {name : Str} {v : Value} {o : Obj} {Q : Unit → Shared → Prop} (D : Mem h₀ h chg news) (i : Nat) (hi : news[i]? = some (ns, o))
    (hd : ∃ es n, o.data = .dict es n ∧ aRefKeyMayBeTheName name es = false) (hf : ∀ k u, (Obj.putName name k (.str name u) v o).isFreed = false) (x : ∀ k u t' h', Mem h₀ h' chg (news.set i (ns, Obj.putName name k (.str name u) v o)) → Q () ⟨h', g, d, t', os⟩) : wpAny M A (nsSet ns name v) Q E ⟨h, g, d, t, os⟩ := by
  unfold nsSet strHash
  refine wpAny_bind (wpAny_bind (wpAny_askSetting (wpAny_pure ?_)))
  refine wpAny_bind (wpAny_mkText ?_)
  refine wpAny_bind (m_load D i hi ?_)
  obtain ⟨es, n, hd, ha⟩ := hd
  rw [hd]
  dsimp only
  rw [ha]
  exact m_update D i hi (hf _ _) fun h' D' => x _ _ _ _ D'
theorem m_isNsSet {M : Model} {A : Around} {E : Value → Shared → Prop} {s : Shared} {a : Addr} {n : Str} {v : Value} {Q : Unit → Shared → Prop} (h : wpAny M A (nsSet a n v) Q E s) : wpAny M A (nsSet a n v) Q E s := h
theorem m_isTL {M : Model} {A : Around} {E : Value → Shared → Prop} {s : Shared} {a : Addr} {n : Str} {Q : Option Value → Shared → Prop} (h : wpAny M A (typeLookup (.ref a) n) Q E s) : wpAny M A (typeLookup (.ref a) n) Q E s := h
/-- the class before its maker is told -/
def clsA (C ns bt : Addr) (qn : Str) (tK tq : Tok) : Obj :=
  { cls := .type "type", data := .cls { name := ⟨#[75]⟩, bases := [.type "object"], mro := [.ref C, .type "object"], ns := ns, qualname := qn }, slots := #[some (.ref bt), none, some (.str ⟨#[75]⟩ tK), some (.str qn tq)] }
/-- the namespace without its qualified name -/
def nsB (hs : List Int) (ts : List Tok) (v : List Value) (fi fl lst : Addr) (n : Nat) : Obj :=
  { cls := .type "dict", data := .dict #[⟨hs.getD 0 0, .str ⟨#[95, 95, 109, 111, 100, 117, 108, 101, 95, 95]⟩ (ts.getD 0 0), v.getD 0 .none⟩,
      ⟨hs.getD 2 0, .str ⟨#[95, 95, 102, 105, 114, 115, 116, 108, 105, 110, 101, 110, 111, 95, 95]⟩ (ts.getD 2 0), v.getD 2 .none⟩,
      ⟨hs.getD 3 0, .str ⟨#[95, 95, 115, 108, 111, 116, 115, 95, 95]⟩ (ts.getD 3 0), .ref lst⟩,
      ⟨hs.getD 4 0, .str ⟨#[95, 95, 105, 110, 105, 116, 95, 95]⟩ (ts.getD 4 0), .ref fi⟩,
      ⟨hs.getD 5 0, .str ⟨#[95, 95, 108, 116, 95, 95]⟩ (ts.getD 5 0), .ref fl⟩,
      ⟨hs.getD 6 0, .str ⟨#[95, 95, 103, 116, 95, 95]⟩ (ts.getD 6 0), v.getD 6 .none⟩,
      ⟨hs.getD 7 0, .str ⟨#[95, 95, 101, 113, 95, 95]⟩ (ts.getD 7 0), v.getD 7 .none⟩,
      ⟨hs.getD 8 0, .str ⟨#[95, 95, 108, 101, 95, 95]⟩ (ts.getD 8 0), v.getD 8 .none⟩,
      ⟨hs.getD 9 0, .str ⟨#[95, 95, 103, 101, 95, 95]⟩ (ts.getD 9 0), v.getD 9 .none⟩,
      ⟨hs.getD 10 0, .str ⟨#[95, 95, 104, 97, 115, 104, 95, 95]⟩ (ts.getD 10 0), .none⟩,
      ⟨hs.getD 11 0, .str ⟨#[95, 95, 115, 116, 97, 116, 105, 99, 95, 97, 116, 116, 114, 105, 98, 117, 116, 101, 115, 95, 95]⟩ (ts.getD 11 0), v.getD 11 .none⟩] n }
theorem filt_C (a : Addr) : List.filter (fun x => x != Value.ref a) [Value.ref a, Value.type "object"] = [Value.type "object"] := by simp
theorem m_hook {M : Model} {A : Around} {E : Value → Shared → Prop} {s : Shared} {c : Value} {Q : Option Value → Shared → Prop} (e : c = .type "type") (x : Q none s) : wpAny M A (Builtin.mroHook? c) Q E s := by
  subst e
  exact wpAny_of_eq F.mroHook_t x
theorem m_lin {M : Model} {A : Around} {E : Value → Shared → Prop} {s : Shared} {bs : List Value} {Q : List Value → Shared → Prop} (e : bs = [.type "object"]) (x : Q [.type "object"] s) : wpAny M A (Builtin.linearize bs mroOf) Q E s := by
  subst e
  exact wpAny_of_eq F.lin_o x
theorem m_made {M : Model} {A : Around} {E : Value → Shared → Prop} {s : Shared} {c : Value} {Q : Option String → Shared → Prop} (e : c = .type "object") (x : Q (some "object.__new__") s) : wpAny M A (Bind.madeBy c) Q E s := by
  subst e
  exact wpAny_of_eq F.made_o x
theorem m_nsDel {M : Model} {A : Around} {E : Value → Shared → Prop} {h₀ h : Heap} {g : Array GenState} {d : Drawn} {t : Nat} {os : OsState} {chg news : List (Addr × Obj)} {ns : Addr} {name : Str} {o : Obj} {Q : Bool → Shared → Prop} (D : Mem h₀ h chg news) (i : Nat) (hi : news[i]? = some (ns, o)) (e : nsHas name o = pure true)
    (hf : (Obj.dropName name o).isFreed = false) (x : ∀ h', Mem h₀ h' chg (news.set i (ns, Obj.dropName name o)) → Q true ⟨h', g, d, t, os⟩) : wpAny M A (nsDel ns name) Q E ⟨h, g, d, t, os⟩ := by
  unfold nsDel
  refine wpAny_bind (m_load D i hi ?_)
  rw [e]
  refine wpAny_bind (wpAny_pure ?_)
  exact wpAny_bind (m_update D i hi hf fun h' D' => wpAny_pure (x h' D'))
theorem m_isNsDel {M : Model} {A : Around} {E : Value → Shared → Prop} {s : Shared} {a : Addr} {n : Str} {Q : Bool → Shared → Prop} (h : wpAny M A (nsDel a n) Q E s) : wpAny M A (nsDel a n) Q E s := h
theorem m_isNsGet {M : Model} {A : Around} {E : Value → Shared → Prop} {s : Shared} {a : Addr} {n : Str} {Q : Option Value → Shared → Prop} (h : wpAny M A (nsGet a n) Q E s) : wpAny M A (nsGet a n) Q E s := h
local macro_rules | `(tactic| x_close) => `(tactic| ((fail_if_success (with_reducible apply m_isNsGet)); (fail_if_success (with_reducible apply m_isNsDel)); (fail_if_success (with_reducible apply m_isNsSet)); (fail_if_success (with_reducible apply m_isTL)); (fail_if_success (with_reducible apply m_isUpdCls)); (fail_if_success (with_reducible show wpAny _ _ (Sem.tryCatch _ _) _ _ _)); first
    | ((with_reducible refine m_load (o := ?o) (by assumption) 0 ?e ?_); (case e => rfl))
    | ((with_reducible refine m_load (o := ?o) (by assumption) 1 ?e ?_); (case e => rfl))
    | ((with_reducible refine m_load (o := ?o) (by assumption) 2 ?e ?_); (case e => rfl))
    | ((with_reducible refine m_update (o := ?o) (by assumption) 0 ?e ?f ?_); (case e => rfl); (case f => rfl); (intro _ _))
    | ((with_reducible refine m_update (o := ?o) (by assumption) 1 ?e ?f ?_); (case e => rfl); (case f => rfl); (intro _ _))
    | ((with_reducible refine m_alloc (by assumption) ?e ?_); (case e => rfl); (intro _ _ _))
    | ((with_reducible refine m_ext ?e ?_); (case e => rfl))
    | ((with_reducible refine m_hook ?e ?_); (case e => rfl))
    | ((with_reducible refine m_lin ?e ?_); (case e => rfl))
    | ((with_reducible refine m_made ?e ?_); (case e => rfl))
    | ((with_reducible refine m_dict ?e ?_); (case e => rfl))
    | ((with_reducible refine m_weak ?e ?_); (case e => rfl))
    | ((with_reducible refine m_turned ?e ?_); (case e => rfl))
    | ((with_reducible refine m_note ?e ?_); (case e => rfl))
    | wp_step))
theorem type_new {w : World} {A : Around} {h : Heap} {g : Array GenState} {d : Drawn} {tk : Nat} {os : OsState} (X : (myK w.params).In h) (hA : A.handled = none ∧ A.depth ≤ 385 ∧ A.units ≤ 940) {bt ns0 fi fl lst : Addr} {tK tO : Tok} {hs : List Int} {ts : List Tok} {v : List Value} {n e1 e2 : Nat}
    (hb : h.get? bt = some ⟨.type "tuple", none, .seq #[.type "object"] e1, #[]⟩) (hn : h.get? ns0 = some (nsRaw hs ts v fi fl lst n)) (hl : h.get? lst = some ⟨.type "list", none, .seq #[.str ⟨#[111, 98, 106]⟩ tO] e2, #[]⟩)
    (h1 : ns0 ≠ 1) {qn : Str} {tq : Tok} (hv : v.getD 1 .none = .str qn tq) (hq : qn = qK) (hvo : ∀ i, i ≠ 1 → SetOk h (v.getD i .none)) (hfi : SetOk h (.ref fi)) (hfl : SetOk h (.ref fl))
    {Q : Fin → Shared → Prop} {E : Value → Shared → Prop}
    (hQ : ∀ C ns md hs ts v n t s0 s2 s3 s5 h' tk, h.get? ns = none → Keeps h h' → h'.get? C = some (kCls C ns qK s0 s2 s3 s5) → h'.get? ns = some (kNs hs ts v fi fl md n) → h'.get? md = some (kMd C t) → Q (.done (.ret (.ref C))) ⟨h', g, d, tk, os⟩) :
    wpAny (model PySem.Challenge.pw_dw5009_01 w) A (Builtin.«type.__new__» ⟨[.type "type", .str ⟨#[75]⟩ tK, .ref bt, .ref ns0], []⟩) Q E ⟨h, g, d, tk, os⟩ := by
  unfold Builtin.«type.__new__»
  have hA' : A.handled = none ∧ A.depth ≤ 400 ∧ A.units ≤ 1000 := ⟨hA.1, by omega, by omega⟩
  have f1 := F.sub_tt
  have f2 := F.sub_dd
  have f3 := F.sub_ty
  have f4 := F.ty_obj
  have f5 := F.isty_obj
  have f8 := F.iter_d
  have f9 : (ns0 == sysModules) = false := beq_false_of_ne h1
  have T1 : (⟨h, g, d, tk, os⟩ : Shared).TypeIs (.ref bt) "tuple" := ⟨_, hb, rfl⟩
  have T2 : (⟨h, g, d, tk, os⟩ : Shared).TypeIs (.ref ns0) "dict" := ⟨_, hn, rfl⟩
  repeat (first
    | ((with_reducible refine wpAny_dictEntries hn ?e ?_); (case e => rfl))
    | ((with_reducible refine m_slots (hs := hs) (ts := ts) (v := v) (fi := fi) (fl := fl) X hA' hl ?e0 ?e1 ?e2 ?_); (case e0 => rfl); (case e1 => rfl); (case e2 => rfl); (intro h' tk' hk); (have D := Mem.start h'))
    | x_close)
  refine wpAny_ite_false (by kernel_rfl) ?_
  repeat x_close
  refine m_nsGet (r := some (v.getD 1 .none)) (by assumption) 0 rfl (by kernel_rfl) ?_
  rw [hv]
  repeat x_close
  refine m_nsGet (r := some (v.getD 1 .none)) (by assumption) 0 rfl (by kernel_rfl) ?_
  rw [hv]
  repeat x_close
  refine m_nsGet (r := none) (by assumption) 0 rfl (by kernel_rfl) ?_
  repeat x_close
  refine m_nsDel (by assumption) 1 rfl (by kernel_rfl) (by kernel_rfl) ?_
  intro _ _
  repeat x_close
  refine m_nsGet (r := none) (by assumption) 1 rfl (by kernel_rfl) ?_
  repeat x_close
  refine m_nsGet (r := none) (by assumption) 1 rfl (by kernel_rfl) ?_
  repeat x_close
  refine m_nsGet (r := none) (by assumption) 1 rfl (by kernel_rfl) ?_
  repeat x_close
  refine m_nsGet (r := none) (by assumption) 1 rfl (by kernel_rfl) ?_
  repeat x_close
  refine m_nsGet (r := none) (by assumption) 1 rfl (by kernel_rfl) ?_
  repeat x_close
  rw [filt_C]
  refine wpAny_of_eq (a := false) (by kernel_rfl) ?_
  repeat x_close
  refine m_updCls (by assumption) 0 rfl ⟨_, rfl⟩ (by kernel_rfl) (by kernel_rfl) ?_
  intro h7 D7
  rename_i ns h1 D1 C h2 D2 h3 D3 h4 D4 h5 D5 h6 D6
  replace D7 : Mem h' h7 [] [(C, clsA C ns bt qn tK tq), (ns, nsB hs ts v fi fl lst 1)] := Eq.mp (congrArg (Mem h' h7 []) (by kernel_rfl)) D7
  clear D1 D2 D3 D4 D5 D6
  repeat x_close
  refine m_tl (by assumption) 0 1 rfl rfl rfl rfl rfl (by kernel_rfl) (r := some (.builtin "object.__new__")) (by kernel_rfl) ?_
  repeat x_close
  refine wpAny_ite_false (by kernel_rfl) ?_
  repeat x_close
  refine m_nsGet (r := none) (by assumption) 1 rfl (by kernel_rfl) ?_
  repeat x_close
  refine m_nsSet (by assumption) 2 rfl ⟨_, _, rfl, by kernel_rfl⟩ (fun _ _ => by kernel_rfl) ?_
  intro kO uO tkO hO DO
  repeat x_close
  refine m_updCls (by assumption) 1 rfl ⟨_, rfl⟩ (by kernel_rfl) (by kernel_rfl) ?_
  intro h8 D8
  rename_i h9 D9 md h10 D10 
  clear D9 D10 DO D7
  repeat x_close
  refine m_nsGet (r := none) (by assumption) 2 rfl (by kernel_rfl) ?_
  repeat x_close
  refine m_nsSet (by assumption) 2 rfl ⟨_, _, rfl, by kernel_rfl⟩ (fun _ _ => by kernel_rfl) ?_
  intro kD uD tkD hD DD
  repeat x_close
  refine m_nsGet (r := some (v.getD 7 .none)) (by assumption) 2 rfl (by kernel_rfl) ?_
  repeat x_close
  refine m_nsGet (r := some .none) (by assumption) 2 rfl (by kernel_rfl) ?_
  replace DD : Mem h' hD [] [(md, kMd C tk'), (C, kCls C ns qn (some (.ref bt)) (some (.str ⟨#[75]⟩ tK)) (some (.str qn tq)) (some (.bool false))),
    (ns, kNs [hs.getD 0 0, hs.getD 2 0, hs.getD 3 0, hs.getD 4 0, hs.getD 5 0, hs.getD 6 0, hs.getD 7 0, hs.getD 8 0, hs.getD 9 0, hs.getD 10 0, hs.getD 11 0, kO, kD]
      [ts.getD 0 0, ts.getD 2 0, ts.getD 3 0, ts.getD 4 0, ts.getD 5 0, ts.getD 6 0, ts.getD 7 0, ts.getD 8 0, ts.getD 9 0, ts.getD 10 0, ts.getD 11 0, uO, uD]
      [v.getD 0 .none, v.getD 2 .none, .ref lst, .ref fi, .ref fl, v.getD 6 .none, v.getD 7 .none, v.getD 8 .none, v.getD 9 .none, .none, v.getD 11 .none, .ref md, .none] fi fl md 3)] := Eq.mp (congrArg (Mem h' hD []) (by kernel_rfl)) DD
  clear f1 f2 f3 f4 f5 f8 f9 T1 T2
  subst hq
  have hC := DD.at 1 _ _ rfl
  have hN := DD.at 2 _ _ rfl
  have hM := DD.at 0 _ _ rfl
  have hNf : h.get? ns = none := by
    have e := (DD.nw _ (List.mem_of_getElem? (i := 2) rfl)).2
    cases q : h.get? ns with
    | none => rfl
    | some o => rw [hk _ _ q] at e; cases e
  have kk : Keeps h hD := fun b o e => keeps_of DD b o (hk b o e)
  clear DD D8 D
  have hlo : SetOk hD (.ref lst) := .inr (.inr (.inr ⟨_, _, "list", rfl, kk _ _ hl, rfl, F.set_list⟩))
  have hmo : SetOk hD (.ref md) := .inr (.inr (.inr ⟨_, _, "member_descriptor", rfl, hM, rfl, F.set_md⟩))
  have hvo' : ∀ i, SetOk hD (([v.getD 0 .none, v.getD 2 .none, .ref lst, .ref fi, .ref fl, v.getD 6 .none, v.getD 7 .none, v.getD 8 .none, v.getD 9 .none, .none, v.getD 11 .none, .ref md, .none] : List Value).getD i .none) := by
    intro i
    have up : ∀ j, j ≠ 1 → SetOk hD (v.getD j .none) := fun j hj => (hvo j hj).keeps kk
    match i with
    | 0 => exact up 0 (by decide)
    | 1 => exact up 2 (by decide)
    | 2 => exact hlo
    | 3 => exact hfi.keeps kk
    | 4 => exact hfl.keeps kk
    | 5 => exact up 6 (by decide)
    | 6 => exact up 7 (by decide)
    | 7 => exact up 8 (by decide)
    | 8 => exact up 9 (by decide)
    | 9 => exact .inl rfl
    | 10 => exact up 11 (by decide)
    | 11 => exact hmo
    | 12 => exact .inl rfl
    | _ + 13 => exact .inl rfl
  have hents := ents_ok (hs := [hs.getD 0 0, hs.getD 2 0, hs.getD 3 0, hs.getD 4 0, hs.getD 5 0, hs.getD 6 0, hs.getD 7 0, hs.getD 8 0, hs.getD 9 0, hs.getD 10 0, hs.getD 11 0, kO, kD])
    (ts := [ts.getD 0 0, ts.getD 2 0, ts.getD 3 0, ts.getD 4 0, ts.getD 5 0, ts.getD 6 0, ts.getD 7 0, ts.getD 8 0, ts.getD 9 0, ts.getD 10 0, ts.getD 11 0, uO, uD]) (n := 3) hvo' (hfi.keeps kk) (hfl.keeps kk) hmo
  repeat x_close
  refine wpAny_tryCatch ?_
  refine wpAny_holding ?_
  refine wpAny_bind (wpAny_dictEntries hN rfl ?_)
  refine wpAny_bind (forIn_sameA (fun e he Q' hq' => ?_) ?_)
  · obtain ⟨⟨s, t, hk⟩, _⟩ := hents e he
    rw [hk]
    exact wpAny_bind (wpAny_pure (wpAny_pure hq'))
  dsimp only
  refine wpAny_ite_false (by decide) ?_
  refine wpAny_bind (wpAny_dictEntries hN rfl ?_)
  refine wpAny_bind (forIn_sameA (fun e he Q' hq' => ?_) ?_)
  · obtain ⟨_, hs⟩ := hents e he
    rw [m_laid hs]
    refine wpAny_ite_false (by decide) ?_
    exact wpAny_bind (m_set hs (wpAny_pure hq'))
  refine wpAny_bind (wpAny_cap 400 1000 (hh := hA.1) (hd := by omega) (hu := by omega) (super_run (X.keeps kk) hC hN fun sp h₁ t₁ k₁ hsp => ?_))
  refine wpAny_bind (wpAny_holding (wpAny_cap 390 950 (hh := hA.1) (hd := by omega) (hu := by omega) (sup_attr (X.keeps fun b o e => k₁ b o (kk b o e)) (k₁ _ _ hC) (k₁ _ _ hN) hsp (by kernel_rfl) F.isub_own fun m h₂ t₂ k₂ hm => ?_)))
  refine wpAny_bind (wpAny_cap 400 1000 (hh := hA.1) (hd := by omega) (hu := by omega) (isub_call (X.keeps fun b o e => k₂ b o (k₁ b o (kk b o e))) (k₂ _ _ (k₁ _ _ hC)) (k₂ _ _ (k₁ _ _ hN)) hm fun h₃ t₃ k₃ => ?_))
  refine wpAny_pure (wpAny_pure ?_)
  exact hQ C ns md _ _ _ _ _ _ _ _ _ h₃ t₃ hNf (fun b o e => k₃ b o (k₂ b o (k₁ b o (kk b o e)))) (k₃ _ _ (k₂ _ _ (k₁ _ _ hC))) (k₃ _ _ (k₂ _ _ (k₁ _ _ hN))) (k₃ _ _ (k₂ _ _ (k₁ _ _ hM)))
end Mine
end
section
open PySem PySem.W PyProof.Rows PySem.W.X
namespace Mine
set_option maxRecDepth 100000
namespace F
theorem ga_type : typeLookup (.type "type") "__getattribute__" = pure (some (.builtin "type.__getattribute__")) := by rw [typeLookup_type, builtinLookup_eq_fast]; kernel_rfl
theorem slot_type_ga : Slot "type" "__getattribute__" "type.__getattribute__" := .of (owner := "type") (n := "__getattribute__") (by rw [typeLookup_type, builtinLookup_eq_fast]; kernel_rfl) (by decide +kernel) (by decide +kernel) (by decide +kernel)
  (by first | exact .inl (by decide +kernel) | exact .inr (by decide +kernel)) (by rw [isSubtype_type]; kernel_rfl)
end F
local macro_rules | `(tactic| x_close) => `(tactic| (
  (rename Mem _ _ _ _ => D')
  (rename (∀ _ _ _, Keeps _ _ → _) => hQ')
  exact hQ' _ _ _ (keeps_of D') (D'.at 0 _ _ rfl)))
set_option maxHeartbeats 0 in
theorem prep_run {w : World} {h : Heap} {g : Array GenState} {d : Drawn} {tk0 : Nat} {os : OsState} (X : (myK w.params).In h) {t : Tok}
    {Q : Value → Shared → Prop} {E : Value → Shared → Prop}
    (hQ : ∀ (m : Addr) (h' : Heap) (tk : Nat), Keeps h h' → h'.get? m = some { cls := .type "builtin_function_or_method", data := .fields #[.builtin "type.__prepare__", .type "type"] } → Q (.ref m) ⟨h', g, d, tk, os⟩) :
    wpAny (model PySem.Challenge.pw_dw5009_01 w) bigA (PySem.call (.builtin "type.__getattribute__") [.type "type", .str (Str.ofString "__prepare__") t]) Q E ⟨h, g, d, tk0, os⟩ := by
  x_run
local macro_rules | `(tactic| x_close) => `(tactic| (
  (rename Mem _ _ _ _ => D')
  (rename (∀ _ _ _, Keeps _ _ → _) => hQ')
  exact hQ' _ _ _ (keeps_of D') (D'.at 0 _ _ rfl) (D'.nw _ (List.mem_of_getElem? (i := 0) rfl)).2))
set_option maxHeartbeats 0 in
theorem prep_call {w : World} {h : Heap} {g : Array GenState} {d : Drawn} {tk0 : Nat} {os : OsState} (X : (myK w.params).In h) {m bt : Addr} {e1 : Nat} {t : Tok}
    (hm : h.get? m = some { cls := .type "builtin_function_or_method", data := .fields #[.builtin "type.__prepare__", .type "type"] }) (hb : h.get? bt = some ⟨.type "tuple", none, .seq #[.type "object"] e1, #[]⟩)
    {Q : Value → Shared → Prop} {E : Value → Shared → Prop}
    (hQ : ∀ (n : Addr) (h' : Heap) (tk : Nat), Keeps h h' → h'.get? n = some { cls := .type "dict", data := .dict #[] 0 } → h.get? n = none → Q (.ref n) ⟨h', g, d, tk, os⟩) :
    wpAny (model PySem.Challenge.pw_dw5009_01 w) bigA (PySem.call (.ref m) [.str ⟨#[75]⟩ t, .ref bt]) Q E ⟨h, g, d, tk0, os⟩ := by
  x_run
theorem prep_attr {w : World} {A : Around} (hA : A.handled = none ∧ A.depth ≤ 390 ∧ A.units ≤ 950) {h : Heap} {g : Array GenState} {d : Drawn} {tk0 : Nat} {os : OsState} (X : (myK w.params).In h)
    {Q : Option Value → Shared → Prop} {E : Value → Shared → Prop}
    (hQ : ∀ (m : Addr) (h' : Heap) (tk : Nat), Keeps h h' → h'.get? m = some { cls := .type "builtin_function_or_method", data := .fields #[.builtin "type.__prepare__", .type "type"] } → Q (some (.ref m)) ⟨h', g, d, tk, os⟩) :
    wpAny (model PySem.Challenge.pw_dw5009_01 w) A (getAttr? (.type "type") (Str.ofString "__prepare__")) Q E ⟨h, g, d, tk0, os⟩ := by
  unfold getAttr? getAttrBy? getAttrBy
  refine wpAny_bind (wpAny_mkText (wpAny_bind (wpAny_attempt (wpAny_holding (wpAny_bind ?_)))))
  refine wpAny_of_eq (show typeOf (.type "type") = pure (.type "type") by kernel_rfl) ?_
  refine wpAny_bind (wpAny_of_eq F.ga_type ?_)
  show wpAny _ _ (getAttrByItsOwn (.type "type") (.str (Str.ofString "__prepare__") tk0) (.type "type") (.builtin "type.__getattribute__") false false) _ _ _
  unfold getAttrByItsOwn hookBefore callGetattribute boundAndCalled
  refine wpAny_bind (wpAny_of_eq (show (if onTheHeap (.type "type") then typeLookup (.type "type") "__getattr__" else pure none) = pure none from rfl) ?_)
  refine wpAny_bind (wpAny_attempt (wpAny_holding ?_))
  show wpAny _ _ (bindSpecial (.builtin "type.__getattribute__") (.type "type") >>= _) _ _ _
  refine wpAny_bind (wpAny_of_eq (F.slot_type_ga.bind _) ?_)
  refine wpAny_cap 400 1000 (hh := hA.1) (hd := by omega) (hu := by omega) (prep_run X fun m h' tk hk hm => ?_)
  exact wpAny_pure (wpAny_pure (hQ m h' tk hk hm))
end Mine
end
section
open PySem PySem.W PyProof.Rows PySem.W.X
namespace Mine
set_option maxRecDepth 100000
theorem Keeps.trans' {h₁ h₂ h₃ : Heap} (a : Keeps h₁ h₂) (b : Keeps h₂ h₃) : Keeps h₁ h₃ := fun x o e => b x o (a x o e)
/-- a code object of that name -/
def GoodC (g₀ h : Heap) (v : Value) (q : Str) : Prop := ∃ c w t, v = .ref c ∧ h.get? c = some (kCode w q t) ∧ g₀.get? c = none
theorem GoodC.extBut {g₀ h h' : Heap} {v : Value} {q : Str} {P : Addr} {ps : Array Value} (G : GoodC g₀ h v q) (k : Heap.ExtBut P h h') (hP : h.get? P = some (W.tabObj ps)) : GoodC g₀ h' v q := by
  obtain ⟨c, w, t, rfl, e, z⟩ := G
  refine ⟨c, w, t, rfl, k _ _ (fun q => ?_) e, z⟩
  rw [q, hP] at e
  exact absurd (congrArg Obj.cls (Option.some.inj e)) (by intro q; cases q)
theorem GoodC.keeps {g₀ h h' : Heap} {v : Value} {q : Str} (G : GoodC g₀ h v q) (k : Keeps h h') : GoodC g₀ h' v q := by
  obtain ⟨c, w, t, rfl, e, z⟩ := G
  exact ⟨c, w, t, rfl, k _ _ e, z⟩
theorem GoodC.of {g₀ h : Heap} {c P : Addr} {ps : Array Value} {q : Str} (T : h.TableAt c P ps) (R : h.CodeRec (.ref c) q) (z : g₀.get? c = none) : GoodC g₀ h (.ref c) q := by
  obtain ⟨⟨o, vs, e1, e2, e3, _⟩, _⟩ := T
  obtain ⟨c', o', vs', t, e0, f1, f2, f3⟩ := R
  cases e0
  rw [e1] at f1; cases f1
  rw [e3] at f2; cases f2
  obtain ⟨oc, od, odt, os⟩ := o
  dsimp only at e2 e3
  subst e2 e3
  obtain ⟨l⟩ := vs
  match l, f3 with
  | a0 :: b :: rest, f3 =>
    have : b = .str q t := by simpa using f3
    subst this
    exact ⟨c, ⟨a0, rest, od, os⟩, t, rfl, e1, z⟩
theorem GoodC.rec_ {g₀ h : Heap} {c : Addr} {q : Str} (G : GoodC g₀ h (.ref c) q) : h.CodeRec (.ref c) q := by
  obtain ⟨c', w, t, e, e1, _⟩ := G
  cases e
  exact ⟨c, _, _, t, rfl, e1, rfl, rfl⟩
/-- a table of codes behind one more asking -/
def Next (ps : Array Value) (pos : Pos) (ps' : Array Value) : Prop :=
  (∀ p v, codeAmong p ps.toList = some v → codeAmong p ps'.toList = some v) ∧ (∀ p : Pos, (p.line ≠ pos.line ∨ p.col ≠ pos.col) → codeAmong p ps.toList = none → codeAmong p ps'.toList = none) ∧ (∀ v, codeAmong pos ps.toList = some v → ps' = ps)
theorem Next.refl {ps : Array Value} {pos : Pos} : Next ps pos ps := ⟨fun _ _ e => e, fun _ _ e => e, fun _ _ => rfl⟩
theorem among_app {p pos : Pos} {c : Value} (l : List Value) (h : TriplesOk l) :
    codeAmong p (l ++ [rawInt pos.line, rawInt pos.col, c]) = (codeAmong p l).or (if (pos.line : Int) == (p.line : Int) && (pos.col : Int) == (p.col : Int) then some c else none) := by
  fun_induction TriplesOk l with
  | case1 => simp [codeAmong, rawInt]
  | case2 a t b u x rest ih =>
    simp only [List.cons_append, codeAmong]
    split
    · rfl
    · exact ih h
  | case3 => exact h.elim
theorem Next.snoc {ps : Array Value} {pos : Pos} {c : Value} (ht : TriplesOk ps.toList) (hn : codeAmong pos ps.toList = none) : Next ps pos (ps ++ #[rawInt pos.line, rawInt pos.col, c]) := by
  have hl : (ps ++ #[rawInt pos.line, rawInt pos.col, c]).toList = ps.toList ++ [rawInt pos.line, rawInt pos.col, c] := by simp
  refine ⟨fun p v e => ?_, fun p hp e => ?_, fun v e => ?_⟩
  · rw [hl, among_app _ ht, e]; rfl
  · rw [hl, among_app _ ht, e]
    have : ((pos.line : Int) == (p.line : Int) && (pos.col : Int) == (p.col : Int)) = false := by
      rw [Bool.and_eq_false_iff]
      rcases hp with hp | hp
      · exact .inl (beq_false_of_ne fun q => hp (by omega))
      · exact .inr (beq_false_of_ne fun q => hp (by omega))
    rw [this]; rfl
  · rw [hn] at e; cases e
section
variable {M : Model} {A : Around} {E : Value → Shared → Prop} {h : Heap} {g : Array GenState} {d : Drawn} {tk0 : Nat} {os : OsState}
/-- what a maker of a code object does -/
def Makes (M : Model) (A : Around) (h : Heap) (g : Array GenState) (d : Drawn) (tk0 : Nat) (os : OsState) (E : Value → Shared → Prop) (qual : Str) (t : Sem Value) : Prop :=
  ∀ Q : Value → Shared → Prop, (∀ c P h' tk, Keeps h h' → h.objs.size ≤ c → h.objs.size ≤ P → h'.IsCode c P #[] → h'.TableAt c P #[] → h'.CodeRec (.ref c) qual → Q (.ref c) ⟨h', g, d, tk, os⟩) → wpAny M A t Q E ⟨h, g, d, tk0, os⟩
theorem codeAt_any {env : Env} {c P : Addr} {ps : Array Value} {pos : Pos} {make : CodeContext → Sem Value} {qual : Str} {Q : Value → Shared → Prop} {g₀ : Heap} (k0 : Keeps g₀ h)
    (hc : env.code = .ref c) (C : CodeHd h c P) (hP : h.get? P = some (W.tabObj ps)) (ht : TriplesOk ps.toList) (hf : ∀ v, codeAmong pos ps.toList = some v → GoodC g₀ h v qual)
    (hm : ∀ ctx, Makes M A h g d tk0 os E qual (make ctx))
    (hQ : ∀ c' h' tk ps', Heap.ExtBut P h h' → h.objs.size ≤ h'.objs.size → h'.get? P = some (W.tabObj ps') → TriplesOk ps'.toList → codeAmong pos ps'.toList = some (.ref c') → Next ps pos ps' → GoodC g₀ h' (.ref c') qual →
      (codeAmong pos ps.toList = none → ∃ P', h.objs.size ≤ P' ∧ h.objs.size ≤ c' ∧ CodeHd h' c' P' ∧ h'.get? P' = some (W.tabObj #[])) → (∀ v, codeAmong pos ps.toList = some v → h' = h) → Q (.ref c') ⟨h', g, d, tk, os⟩) :
    wpAny M A (codeAt env pos make) Q E ⟨h, g, d, tk0, os⟩ := by
  cases hcase : codeAmong pos ps.toList with
  | some v =>
    obtain ⟨c', w, t, rfl, e, z⟩ := hf v hcase
    exact wpAny_codeAt_hit hc (C.code hP ht) hcase (hQ c' h tk0 ps (fun _ _ _ e => e) (Nat.le_refl _) hP ht hcase Next.refl ⟨c', w, t, rfl, e, z⟩ (fun q => by rw [hcase] at q; cases q) fun _ _ => rfl)
  | none =>
    obtain ⟨o, vs, file, tf, flags, tg, inF, text, tt, ho, hcl, hd, h11, h11', h18, h7, h9, h10, hne⟩ := C
    unfold codeAt
    rw [hc, if_neg (show ¬ ((Value.ref c == Value.none) = true) from Bool.false_ne_true)]
    refine wpAny_bind (wpAny_fieldsOf ho hd ?_)
    rw [h11']
    refine wpAny_bind (wpAny_fieldsOf hP rfl ?_)
    rw [hcase, h18, h7, h9, h10]
    refine wpAny_bind (hm _ _ fun c' P' h' tk hk hc' hP' hcode htab hrec => ?_)
    have hop' := hk _ _ hP
    refine wpAny_bind (wpAny_updateFieldsOfTheText hop' rfl ?_)
    have sb : Heap.SameBut P h' (h'.update P (Obj.mapFields fun vs => if (codeAmong pos vs.toList).isSome = true then vs else vs ++ #[rawInt pos.line, rawInt pos.col, .ref c'])) := Heap.SameBut.update ..
    have hnew : (Obj.mapFields (fun vs => if (codeAmong pos vs.toList).isSome = true then vs else vs ++ #[rawInt pos.line, rawInt pos.col, .ref c']) (W.tabObj ps)) = W.tabObj (ps ++ #[rawInt pos.line, rawInt pos.col, .ref c']) := by
      simp only [W.tabObj, Obj.mapFields, hcase]
      rfl
    have hget : (h'.update P (Obj.mapFields fun vs => if (codeAmong pos vs.toList).isSome = true then vs else vs ++ #[rawInt pos.line, rawInt pos.col, .ref c'])).get? P = some (W.tabObj (ps ++ #[rawInt pos.line, rawInt pos.col, .ref c'])) := by
      rw [← hnew]
      exact Heap.get?_update_self _ hop' (by rw [hnew]; rfl)
    refine wpAny_bind (wpAny_fieldsOf hget rfl ?_)
    have hl : (ps ++ #[rawInt pos.line, rawInt pos.col, Value.ref c']).toList = ps.toList ++ [rawInt pos.line, rawInt pos.col, .ref c'] := by simp
    have hsn := codeAmong_snoc (c := .ref c') _ ht hcase
    rw [hl, hsn]
    have hPl := Heap.lt_size hP
    have hcP : c' ≠ P := Nat.ne_of_gt (Nat.lt_of_lt_of_le hPl hc')
    have hPP : P' ≠ P := Nat.ne_of_gt (Nat.lt_of_lt_of_le hPl hP')
    have htab' := htab.sameBut sb hcP hPP
    have hz0 : g₀.get? c' = none := by
      cases q : g₀.get? c' with
      | none => rfl
      | some o => exact absurd (Heap.lt_size (k0 _ _ q)) (Nat.not_lt.mpr hc')
    have hrec' : (h'.update P (Obj.mapFields fun vs => if (codeAmong pos vs.toList).isSome = true then vs else vs ++ #[rawInt pos.line, rawInt pos.col, .ref c'])).CodeRec (.ref c') qual := by
      obtain ⟨c₂, o₂, vs₂, t₂, e₂, g₂, r₂⟩ := hrec
      cases e₂
      exact ⟨c', o₂, vs₂, t₂, rfl, sb.extBut _ _ hcP g₂, r₂⟩
    refine wpAny_pure (hQ c' _ tk _ (fun b o hb e => sb.extBut b o hb (hk b o e)) ?_ hget (by rw [hl]; exact TriplesOk_snoc _ _ _ _ ht) (by rw [hl]; exact hsn) (Next.snoc ht hcase) (GoodC.of htab' hrec' hz0)
      (fun _ => ⟨P', hP', hc', CodeHd.of (hcode.sameBut sb hcP hPP) htab', htab'.2⟩) fun v e => by rw [hcase] at e; cases e)
    rw [Heap.size_after_update]
    obtain ⟨⟨_, _, z, _⟩, _⟩ := htab
    exact Nat.le_of_lt (Nat.lt_of_le_of_lt hc' (Heap.lt_size z))
theorem newCode_makes {ctx : CodeContext} {name qualname : Str} {firstLine argc posonly kwonly flags : Nat} {free : List Str} {isFunction : Bool} {parse : Option Nat} {locals : Option (List Str × List Str)} {template : Option FuncData} :
    Makes M A h g d tk0 os E qualname (newCode ctx name qualname firstLine argc posonly kwonly flags free isFunction parse locals template) :=
  fun _ hQ => wpAny_newCodeX fun c P h' tk hk h1 h2 h3 h4 h5 => hQ c P h' tk hk h1 h2 h3 h4 h5
/-- a def's function object -/
theorem mkFn {name qual : Str} {params : Arguments} {body : List Stmt} {scope : Scope} {env : Env} {c P : Addr} {ps : Array Value} {pos : Pos} {firstLine : Nat} {mg mb : Str → Option Value} {p : Program} {loose : List Str} {mean : ExcName → Option Value}
    {clos : List (Str × Addr)} {Q : Value → Shared → Prop} {g₀ : Heap} (T : Top p loose mean mg mb g₀) (hk0 : Keeps g₀ h) (hgP : g₀.get? P = none)
    (hcl : closureFor scope env = pure clos) (hge : env.globals = mainGlobals) (hcode : env.code = .ref c) (C : CodeHd h c P) (hP : h.get? P = some (W.tabObj ps)) (ht : TriplesOk ps.toList) (hf : ∀ v, codeAmong pos ps.toList = some v → GoodC g₀ h v qual)
    (hQ : ∀ f c' ctv doc h' tk ps', Heap.ExtBut P h h' → h.get? f = none → h'.get? f = some (fnMade name qual params body scope clos doc ((mg "__name__").getD .none) c' ctv) → h'.get? P = some (W.tabObj ps') → TriplesOk ps'.toList →
      codeAmong pos ps'.toList = some (.ref c') → Next ps pos ps' → GoodC g₀ h' (.ref c') qual → Q (.ref f) ⟨h', g, d, tk, os⟩) :
    wpAny M A (makeFunction name qual params (.stmts body) scope env [] [] [] pos firstLine) Q E ⟨h, g, d, tk0, os⟩ := by
  rw [makeFunction_eq]
  simp only [List.zip_nil_right, List.filterMap_nil, List.isEmpty_nil, if_true, pure_bind]
  unfold makeTail
  rw [hcl, hge]
  refine wpAny_bind (wpAny_pure ?_)
  obtain ⟨bm, ob, hbm, hne0, hbo, hcls, hdict, hdata⟩ := T.bmain
  suffices tail : ∀ (ctv : Value) (h₁ : Heap) (tk₁ : Nat), Keeps h h₁ → h.objs.size ≤ h₁.objs.size → wpAny M A (do
      let fd : FuncData := { name, qualname := qual, params, body := .stmts body, scope, globals := mainGlobals, closure := clos, closureTuple := ctv, code := ← functionCode env pos firstLine name qual params scope (.stmts body), builtins := ← builtinsFor mainGlobals env.builtins,
                             defaults := .none, kwdefaults := .none, annotations := none, pyModule := (← nsGet mainGlobals "__name__").getD .none, doc := ← (match docOf body with | some s => mkText s | none => pure .none) }
      newObj (.type "function") (.func fd)) Q E ⟨h₁, g, d, tk₁, os⟩ by
    cases clos with
    | nil =>
      simp only [List.isEmpty_nil, if_true]
      exact wpAny_bind (wpAny_pure (tail .none h tk0 (fun _ _ e => e) (Nat.le_refl _)))
    | cons q r =>
      simp only [List.isEmpty_cons, Bool.false_eq_true, if_false]
      exact wpAny_bind (wpAny_newTextTuple (tail _ _ _ (fun b o e => Heap.get?_push_of_some _ e) (by rw [Heap.size_push]; exact Nat.le_succ _)))
  intro ctv h₁ tk₁ k₁ hz₁
  have hP₁ := k₁ _ _ hP
  refine wpAny_bind (codeAt_any (hk0.trans' k₁) hcode (C.keeps k₁) hP₁ ht (fun v e => (hf v e).keeps k₁) (fun ctx => newCode_makes) fun c' h₂ tk₂ ps' x₂ hz₂ hP₂ ht₂ ha₂ n₂ g₂ _ _ => ?_)
  have hgne : ∀ b o, g₀.get? b = some o → b ≠ P := fun b o e q => by rw [q, hgP] at e; cases e
  have k02 : Keeps g₀ h₂ := fun b o e => x₂ b o (hgne b o e) (k₁ b o (hk0 b o e))
  have hg₂ := T.g.keeps k02
  refine wpAny_bind (wpAny_builtinsFor hg₂ hbm hne0 (k02 _ _ hbo) hcls hdict hdata ?_)
  refine wpAny_bind (wpAny_nsGet hg₂ ?_)
  have fin : ∀ (doc : Value) (tk₃ : Nat), wpAny M A (newObj (.type "function") (.func (fnX name qual params body scope clos .none .none doc ((mg "__name__").getD .none) none (.ref c') ctv))) Q E ⟨h₂, g, d, tk₃, os⟩ := fun doc tk₃ => by
    have hPs := Heap.lt_size hP₂
    refine wpAny_newObj_type (hQ h₂.objs.size c' ctv doc _ tk₃ ps' (fun b o hb e => Heap.get?_push_of_some _ (x₂ b o hb (k₁ b o e))) ?_ (Heap.get?_push_size _ rfl) (Heap.get?_push_of_some _ hP₂) ht₂ ha₂ n₂ (g₂.keeps fun b o e => Heap.get?_push_of_some _ e)) (by size_fits)
    exact Heap.get?_none_of_le (Nat.le_trans hz₁ hz₂)
  cases hdoc : docOf body with
  | none => exact wpAny_bind (wpAny_pure (fin _ _))
  | some t => exact wpAny_bind (wpAny_mkText (fin _ _))
end
end Mine
end
section
open PySem PySem.W PyProof.Rows PySem.W.X
namespace Mine
set_option maxRecDepth 100000
namespace F
theorem tn_entry : entryFor table "type.__new__" = some Builtin.«type.__new__» := entryFor_of_tree (by kernel_rfl)
theorem tn_plain : plainId "type.__new__" = true := by decide +kernel
theorem ti_entry : entryFor table "type.__init__" = some Builtin.«type.__init__» := entryFor_of_tree (by kernel_rfl)
theorem ti_slot : Slot "type" "__init__" "type.__init__" := .of (owner := "type") (n := "__init__") (by rw [typeLookup_type, builtinLookup_eq_fast]; kernel_rfl) (by decide +kernel) (by decide +kernel) (by decide +kernel)
  (by first | exact .inl (by decide +kernel) | exact .inr (by decide +kernel)) (by rw [isSubtype_type]; kernel_rfl)
theorem tn_made : Bind.madeBy (.type "type") = pure (some "type.__new__") := by
  unfold Bind.madeBy
  simp only [mroOf_type, typeLookup_type, builtinLookup_eq_fast]
  kernel_rfl
theorem tn_mro : mroOf (.type "type") = pure [.type "type", .type "object"] := by rw [mroOf_type]; kernel_rfl
theorem tn_ct (a b c : Value) : checkTypeCall "type" ⟨[a, b, c], []⟩ = pure () := by kernel_rfl
theorem tn_check (a b c : Value) : checkBuiltinCall "type.__new__" ⟨[.type "type", a, b, c], []⟩ = pure () := by kernel_rfl
theorem ti_args (o a b c : Value) : argsOk "type.__init__" ⟨[o, a, b, c], []⟩ := by unfold argsOk; kernel_rfl
theorem tn_dec : (((Manifest.find? "type").bind (·.mro.findSome? fun t => (Manifest.find? t).bind fun b => if b.noNew then some true else if b.attrs.any (·.1 == "__new__") then some false else none)).getD false) = false := by kernel_rfl
end F
theorem type_call {w : World} {A : Around} {h : Heap} {g : Array GenState} {d : Drawn} {tk : Nat} {os : OsState} (X : (myK w.params).In h) (hA : A.handled = none ∧ A.depth ≤ 381 ∧ A.units ≤ 932) {bt ns0 fi fl lst : Addr} {tK tO : Tok} {hs : List Int} {ts : List Tok} {v : List Value} {n e1 e2 : Nat}
    (hb : h.get? bt = some ⟨.type "tuple", none, .seq #[.type "object"] e1, #[]⟩) (hn : h.get? ns0 = some (nsRaw hs ts v fi fl lst n)) (hl : h.get? lst = some ⟨.type "list", none, .seq #[.str ⟨#[111, 98, 106]⟩ tO] e2, #[]⟩)
    (h1 : ns0 ≠ 1) {qn : Str} {tq : Tok} (hv : v.getD 1 .none = .str qn tq) (hq : qn = qK) (hvo : ∀ i, i ≠ 1 → SetOk h (v.getD i .none)) (hfi : SetOk h (.ref fi)) (hfl : SetOk h (.ref fl))
    {Q : Value → Shared → Prop} {E : Value → Shared → Prop}
    (hQ : ∀ C ns md hs ts v n t s0 s2 s3 s5 h' tk, h.get? ns = none → Keeps h h' → h'.get? C = some (kCls C ns qK s0 s2 s3 s5) → h'.get? ns = some (kNs hs ts v fi fl md n) → h'.get? md = some (kMd C t) → Q (.ref C) ⟨h', g, d, tk, os⟩) :
    wpAny (model PySem.Challenge.pw_dw5009_01 w) A (PySem.call (.type "type") [.str ⟨#[75]⟩ tK, .ref bt, .ref ns0]) Q E ⟨h, g, d, tk, os⟩ := by
  refine wpAny_call (codeAny_of_tree ?_)
  show wpAny _ _ (callAny (.type "type") _) _ _ _
  refine wpAny_pure ⟨Code.quiet_builtin _ (by decide +kernel), codeAny_builtin PySem.F.entry_type_call ?_⟩
  rw [Around.under_plain (weight_type_call_type "type" _ []) rfl]
  unfold Builtin.«type.__call__»
  dsimp only
  refine wpAny_ite_true (by kernel_rfl) ?_
  refine wpAny_ite_false (by kernel_rfl) ?_
  refine wpAny_ite_false (by kernel_rfl) ?_
  refine wpAny_ite_false (by kernel_rfl) ?_
  refine wpAny_bind (wpAny_of_eq (F.tn_ct _ _ _) ?_)
  refine wpAny_bind (wpAny_of_eq F.tn_mro ?_)
  refine wpAny_ite_false (by kernel_rfl) ?_
  refine wpAny_bind (wpAny_of_eq F.tn_made ?_)
  dsimp only
  refine wpAny_bind (wpAny_pure ?_)
  refine wpAny_bind (wpAny_holding (wpAny_call (codeAny_call_builtin F.tn_plain F.tn_entry (wpAny_of_eq (F.tn_check _ _ _) ?_))))
  refine type_new (A := A.in1.in1) X ⟨hA.1, by show A.depth ≤ 385; omega, by show A.units + 1 + 1 ≤ 940; omega⟩ hb hn hl h1 hv hq hvo hfi hfl fun C ns md hs ts v n t s0 s2 s3 s5 h' tk' hf hk hC hN hM => ?_
  have hT : (⟨h', g, d, tk', os⟩ : Shared).TypeIs (.ref C) "type" := ⟨_, hC, rfl⟩
  dsimp only
  refine wpAny_bind (wpAny_isInstance hT F.sub_ty ?_)
  refine wpAny_ite_false rfl ?_
  refine wpAny_bind (wpAny_holding ?_)
  unfold callSpecial?
  refine wpAny_bind (wpAny_specialOf hT F.ti_slot.lookup ?_)
  dsimp only
  refine wpAny_holding (wpAny_bind (wpAny_of_eq (F.ti_slot.bind _) ?_))
  refine wpAny_bind (wpAny_call_entry F.ti_slot hT F.ti_entry ?_ (F.ti_args _ _ _ _))
  unfold Builtin.«type.__init__»
  dsimp only
  refine wpAny_ite_false (by kernel_rfl) ?_
  refine wpAny_ite_false (by kernel_rfl) ?_
  refine wpAny_pure ⟨_, rfl, ?_⟩
  refine wpAny_pure ?_
  dsimp only
  refine wpAny_ite_false (by kernel_rfl) ?_
  exact wpAny_pure (hQ C ns md hs ts v n t s0 s2 s3 s5 h' tk' hf hk hC hN hM)
end Mine
end
section
open PySem PySem.W PyProof.Rows PySem.W.X
namespace Mine
set_option maxRecDepth 100000
def kStmt : Stmt := (sBody (tDef 2)).getD 0 default
def cBases : Stmt → List Expr
  | .ClassDef _ b _ _ _ _ _ _ _ _ _ => b
  | _ => []
def cBody : Stmt → List Stmt
  | .ClassDef _ _ _ b _ _ _ _ _ _ _ => b
  | _ => []
def cScope : Stmt → Scope
  | .ClassDef _ _ _ _ _ _ s _ _ _ _ => s
  | _ => default
def cTscope : Stmt → Option Scope
  | .ClassDef _ _ _ _ _ _ _ s _ _ _ => s
  | _ => default
def cStat : Stmt → List Str
  | .ClassDef _ _ _ _ _ _ _ _ _ s _ => s
  | _ => []
def cPos : Stmt → Pos
  | .ClassDef _ _ _ _ _ _ _ _ _ _ p => p
  | _ => default
def nK : Str := ⟨#[75]⟩
theorem kStmt_eq : kStmt = .ClassDef nK (cBases kStmt) [] (cBody kStmt) [] [] (cScope kStmt) none nK (cStat kStmt) (cPos kStmt) := by kernel_rfl
def qCls : Str := Str.ofString "cmp_to_key.<locals>.K"
/-- the six defs of the class: where each stands, and its name -/
def wantsK : List (Pos × Str) := (cBody kStmt).filterMap fun
  | .FunctionDef n _ _ _ _ _ _ _ _ p => some (p, qCls ++ ("." : Str) ++ n)
  | _ => none
def CodesOk (g₀ h : Heap) (c P : Addr) (pk : Array Value) : Prop :=
  CodeHd h c P ∧ h.get? P = some (W.tabObj pk) ∧ TriplesOk pk.toList ∧ GoodC g₀ h (.ref c) qCls ∧ (P ≠ 23 ∧ g₀.get? P = none) ∧ ∀ x ∈ wantsK, ∃ v, codeAmong x.1 pk.toList = some v ∧ GoodC g₀ h v x.2
/-- the table of cmp_to_key's codes: no class made yet, or the class's codes all there -/
def TabS (g₀ h : Heap) : Prop := h.get? 23 = some (W.tabObj #[]) ∨ ∃ ps c P pk, h.get? 23 = some (W.tabObj ps) ∧ TriplesOk ps.toList ∧ codeAmong (cPos kStmt) ps.toList = some (.ref c) ∧ CodesOk g₀ h c P pk
theorem CodesOk.keeps {g₀ h h' : Heap} {c P : Addr} {pk : Array Value} (H : CodesOk g₀ h c P pk) (k : Keeps h h') : CodesOk g₀ h' c P pk :=
  ⟨H.1.keeps k, k _ _ H.2.1, H.2.2.1, H.2.2.2.1.keeps k, H.2.2.2.2.1, fun x hx => let ⟨v, a, b⟩ := H.2.2.2.2.2 x hx; ⟨v, a, b.keeps k⟩⟩
theorem TabS.keeps {g₀ h h' : Heap} (H : TabS g₀ h) (k : Keeps h h') : TabS g₀ h' := by
  rcases H with H | ⟨ps, c, P, pk, h1, h2, h3, h4⟩
  · exact .inl (k _ _ H)
  · exact .inr ⟨ps, c, P, pk, k _ _ h1, h2, h3, h4.keeps k⟩
/-- the frame of cmp_to_key -/
abbrev cEnv (L : Addr) : Env := envOfC (Str.ofString "cmp_to_key") (sScope (tDef 2)) L 28 (.ref 27)
theorem hd27 (P : Params) : codeHdIn (myK P) 27 23 = true := myHd P
section
variable {w : World} {g : Array GenState} {d : Drawn} {os : OsState} {E : Value → Shared → Prop}
theorem F.getitem_d : typeLookup (.type "dict") "__getitem__" = pure (some (.builtin "dict.__getitem__")) := by rw [typeLookup_type, builtinLookup_eq_fast]; kernel_rfl
theorem args_cls {M : Model} {A : Around} {s : Shared} {e : Expr} {env : Env} {pos : Pos} {f : Value} {Q : Args → Shared → Prop} (h : wpAny M A (eval e env) (fun v s' => Q ⟨[v], []⟩ s') E s) (he : starEach [e] env = [(false, eval e env)] := by rfl) :
    wpAny M A (evalArgs f false (backTo pos (starEach [e] env)) (backToKw pos (keywordEach [] env))) Q E s := by
  have e2 : backTo pos (starEach [e] env) = [(false, eval e env)] := by rw [he]; rfl
  rw [e2]
  unfold evalArgs
  refine wpAny_bind (m := spliced [(false, eval e env)]) (Calls.spliced_cons (wpAny_mono h (fun v s' h' => ?_) fun _ _ z => z))
  refine Calls.spliced_nil (wpAny_bind (wpAny_pure ?_))
  refine wpAny_holding ?_
  exact wpAny_bind (wpAny_pure (wpAny_bind (wpAny_pure (wpAny_pure h'))))
end
end Mine
end
section
open PySem PySem.W PyProof.Rows PySem.W.X
namespace Mine
set_option maxRecDepth 100000
/-- the class body's frame -/
abbrev kEnv (L ns c fr : Addr) : Env := { scope := cScope kStmt, locals := ns, globals := mainGlobals, qual := qCls ++ ("." : Str), code := .ref c, frame := some fr, builtins := builtinsNs, cells := [(Str.ofString "mycmp", L + 1)] }
/-- where the class body's walk stands -/
structure Bd (g₀ hA h : Heap) (ns P : Addr) (o : Obj) (pk : Array Value) (l : List (Addr × Obj)) : Prop where
  k0 : Keeps g₀ h
  kA : ∀ b ob, b ≠ 23 → b ≠ P → hA.get? b = some ob → h.get? b = some ob
  nA : hA.get? ns = none
  n0 : g₀.get? ns = none
  p0 : g₀.get? P = none
  hn : h.get? ns = some o
  hd : o.cls = .type "dict"
  hP : h.get? P = some (W.tabObj pk)
  ht : TriplesOk pk.toList
  good : ∀ x ∈ wantsK, ∀ v, codeAmong x.1 pk.toList = some v → GoodC g₀ h v x.2
  all : ∀ x ∈ l, h.get? x.1 = some x.2 ∧ x.1 ≠ ns ∧ x.1 ≠ P
section
variable {g₀ hA h h' : Heap} {ns P : Addr} {o o' : Obj} {pk pk' : Array Value} {l : List (Addr × Obj)}
theorem Bd.nP (B : Bd g₀ hA h ns P o pk l) : ns ≠ P := fun q => by
  have := B.hn
  rw [q, B.hP] at this
  have e := B.hd
  rw [← Option.some.inj this] at e
  cases e
theorem Bd.keeps (B : Bd g₀ hA h ns P o pk l) (k : Keeps h h') : Bd g₀ hA h' ns P o pk l :=
  ⟨B.k0.trans' k, fun b ob h1 h2 e => k _ _ (B.kA b ob h1 h2 e), B.nA, B.n0, B.p0, k _ _ B.hn, B.hd, k _ _ B.hP, B.ht, fun x hx v e => (B.good x hx v e).keeps k, fun x hx => ⟨k _ _ (B.all x hx).1, (B.all x hx).2⟩⟩
theorem Bd.add (B : Bd g₀ hA h ns P o pk l) {a : Addr} {oa : Obj} (ha : h.get? a = some oa) (h1 : a ≠ ns) (h2 : a ≠ P) : Bd g₀ hA h ns P o pk ((a, oa) :: l) :=
  ⟨B.k0, B.kA, B.nA, B.n0, B.p0, B.hn, B.hd, B.hP, B.ht, B.good, fun x hx => (List.mem_cons.mp hx).elim (fun e => e ▸ ⟨ha, h1, h2⟩) (B.all x)⟩
theorem Bd.ext (B : Bd g₀ hA h ns P o pk l) (x : Heap.ExtBut P h h') (hP : h'.get? P = some (W.tabObj pk')) (ht : TriplesOk pk'.toList) (hg : ∀ x ∈ wantsK, ∀ v, codeAmong x.1 pk'.toList = some v → GoodC g₀ h' v x.2) : Bd g₀ hA h' ns P o pk' l :=
  ⟨fun b ob e => x b ob (fun q => by rw [q, B.p0] at e; cases e) (B.k0 b ob e), fun b ob h1 h2 e => x b ob h2 (B.kA b ob h1 h2 e), B.nA, B.n0, B.p0, x _ _ B.nP B.hn, B.hd, hP, ht, hg, fun y hy => ⟨x _ _ (B.all y hy).2.2 (B.all y hy).1, (B.all y hy).2⟩⟩
theorem GoodC.sameBut {v : Value} {q : Str} (G : GoodC g₀ h v q) (s : Heap.SameBut ns h h') (hn : h.get? ns = some o) (hd : o.cls = .type "dict") : GoodC g₀ h' v q := by
  obtain ⟨c, w, t, rfl, e, z⟩ := G
  refine ⟨c, w, t, rfl, s.extBut _ _ (fun q => ?_) e, z⟩
  rw [q, hn] at e
  rw [Option.some.inj e] at hd
  exact absurd hd (by show ¬ (Value.type "code" = Value.type "dict"); intro q; injection q with q; revert q; decide)
theorem Bd.set (B : Bd g₀ hA h ns P o pk l) (s : Heap.SameBut ns h h') (hn : h'.get? ns = some o') (hd : o'.cls = .type "dict") : Bd g₀ hA h' ns P o' pk l :=
  ⟨fun b ob e => s.extBut _ _ (fun q => by rw [q, B.n0] at e; cases e) (B.k0 b ob e), fun b ob h1 h2 e => s.extBut _ _ (fun q => by rw [q, B.nA] at e; cases e) (B.kA b ob h1 h2 e), B.nA, B.n0, B.p0, hn, hd, s.extBut _ _ B.nP.symm B.hP, B.ht,
    fun x hx v e => (B.good x hx v e).sameBut s B.hn B.hd, fun y hy => ⟨s.extBut _ _ (B.all y hy).2.1 (B.all y hy).1, (B.all y hy).2⟩⟩
end
section
variable {M : Model} {A : Around} {E : Value → Shared → Prop} {h : Heap} {g : Array GenState} {d : Drawn} {tk0 : Nat} {os : OsState}
/-- a name stored in the class's namespace -/
theorem st_cls {env : Env} {ns : Addr} {o : Obj} {x : Str} {v : Value} {Q : Unit → Shared → Prop} (hst : storeName env x v = localSet env x v) (hl : env.locals = ns) (hn : h.get? ns = some o) (hd : o.cls = .type "dict")
    (he : ∃ es n, o.data = .dict es n ∧ aRefKeyMayBeTheName x es = false) (hf : ∀ k u, (Obj.putName x k (.str x u) v o).isFreed = false)
    (hQ : ∀ k u h' tk, Heap.SameBut ns h h' → h'.get? ns = some (Obj.putName x k (.str x u) v o) → Q () ⟨h', g, d, tk, os⟩) : wpAny M A (storeName env x v) Q E ⟨h, g, d, tk0, os⟩ := by
  rw [hst]
  unfold localSet
  rw [hl]
  refine wpAny_bind (wpAny_load hn ?_)
  rw [hd]
  refine wpAny_ite_true rfl ?_
  unfold nsSet strHash
  refine wpAny_bind (wpAny_bind (wpAny_askSetting (wpAny_pure ?_)))
  refine wpAny_bind (wpAny_mkText ?_)
  refine wpAny_bind (wpAny_loadPart hn ?_)
  obtain ⟨es, n, e1, e2⟩ := he
  rw [e1]
  dsimp only
  rw [e2]
  refine wpAny_ite_false rfl ?_
  refine wpAny_updatePart hn ?_
  exact hQ _ _ _ _ (Heap.SameBut.update ..) (Heap.get?_update_self _ hn (hf _ _))
end
section
variable {M : Model} {A : Around} {E : Value → Shared → Prop} {h : Heap} {g : Array GenState} {d : Drawn} {tk0 : Nat} {os : OsState}
theorem ld_name_cls {g₀ : Heap} {p : Program} {loose : List Str} {mean : ExcName → Option Value} {mg mb : Str → Option Value} {P : Params} (T : Top p loose mean mg mb g₀) (X : (myK P).In g₀) (k0 : Keeps g₀ h) {L ns c fr : Addr}
    (hn : h.get? ns = some { cls := .type "dict", data := .dict #[] 0 }) {Q : Value → Shared → Prop} (hQ : Q (.str (Str.ofString "law_dw5009_01") 220) ⟨h, g, d, tk0, os⟩) :
    wpAny M A (loadName (kEnv L ns c fr) (Str.ofString "__name__")) Q E ⟨h, g, d, tk0, os⟩ := by
  have hm : mg (Str.ofString "__name__") = some (.str (Str.ofString "law_dw5009_01") 220) := mg_of X T.g (by kernel_rfl)
  unfold loadName
  refine wpAny_ite_false (by kernel_rfl) ?_
  have e1 : (kEnv L ns c fr).blockKind = .class := by kernel_rfl
  have e2 : (kEnv L ns c fr).kindOf (Str.ofString "__name__") = none := by kernel_rfl
  rw [e1, e2]
  dsimp only
  refine wpAny_ite_false (by kernel_rfl) ?_
  unfold localGet
  refine wpAny_bind (wpAny_bind (wpAny_load hn ?_))
  refine wpAny_ite_true rfl ?_
  refine wpAny_bind (wpAny_bind (wpAny_loadPart hn (wpAny_pure ?_)))
  refine wpAny_of_eq (show nsLook (Str.ofString "__name__") { cls := .type "dict", data := .dict #[] 0 } = pure none by kernel_rfl) ?_
  dsimp only
  unfold loadGlobal
  refine wpAny_bind (wpAny_nsGet (T.g.keeps k0) ?_)
  rw [hm]
  exact wpAny_pure hQ
end
def dName : Stmt → Str
  | .FunctionDef n _ _ _ _ _ _ _ _ _ => n
  | _ => default
def dPos : Stmt → Pos
  | .FunctionDef _ _ _ _ _ _ _ _ _ p => p
  | _ => default
/-- a method as the class body makes it -/
abbrev mFn (st : Stmt) (clos : List (Str × Addr)) (doc pm : Value) (c' : Addr) (ct : Value) : Obj := fnMade (dName st) (qCls ++ ("." : Str) ++ dName st) (sParams st) (sBody st) (sScope st) clos doc pm c' ct
theorem def_cls {w : World} {A : Around} {E : Value → Shared → Prop} {g : Array GenState} {d : Drawn} {tk0 : Nat} {os : OsState} {g₀ hA h : Heap} (V : Env0 w g₀) {L ns c fr P : Addr} {o : Obj} {pk : Array Value} {l : List (Addr × Obj)} (B : Bd g₀ hA h ns P o pk l) (C : CodeHd h c P)
    {st : Stmt} {clos : List (Str × Addr)} (hst : st = .FunctionDef (dName st) (sParams st) (sBody st) [] none [] (sScope st) none (dName st) (dPos st)) (hcl : closureFor (sScope st) (kEnv L ns c fr) = pure clos)
    (h1 : (sParams st).defaults = []) (h2 : (sParams st).kw_defaults = []) (h3 : annTrees (sParams st) none (kEnv L ns c fr) = []) (hq : qualnameIn (kEnv L ns c fr) (dName st) (dName st) = qCls ++ ("." : Str) ++ dName st) (hw : (dPos st, qCls ++ ("." : Str) ++ dName st) ∈ wantsK)
    (hap : ∀ x ∈ wantsK, x = (dPos st, qCls ++ ("." : Str) ++ dName st) ∨ x.1.line ≠ (dPos st).line)
    (hs : ∀ v, storeName (kEnv L ns c fr) (dName st) v = localSet (kEnv L ns c fr) (dName st) v) (he : ∃ es n, o.data = .dict es n ∧ aRefKeyMayBeTheName (dName st) es = false) (hf : ∀ v k u, (Obj.putName (dName st) k (.str (dName st) u) v o).isFreed = false ∧ (Obj.putName (dName st) k (.str (dName st) u) v o).cls = .type "dict")
    {Q : Flow → Shared → Prop}
    (hQ : ∀ f c' ctv doc pm k u h' tk pk', Bd g₀ hA h' ns P (Obj.putName (dName st) k (.str (dName st) u) (.ref f) o) pk' ((f, mFn st clos doc pm c' ctv) :: l) → CodeHd h' c P → codeAmong (dPos st) pk'.toList = some (.ref c') → Next pk (dPos st) pk' → Q .next ⟨h', g, d, tk, os⟩) :
    wpAny (model PW w) A (exec st (kEnv L ns c fr)) Q E ⟨h, g, d, tk0, os⟩ := by
  rw [hst]
  obtain ⟨p, loose, mean, mg, mb, T⟩ := V.T
  refine nestDef_K h1 h2 h3 ?_
  rw [hq]
  refine mkFn T B.k0 B.p0 hcl rfl rfl C B.hP B.ht (fun v e => B.good _ hw v e) fun f c' ctv doc h₁ tk₁ pk' x₁ hf0 hf1 hP₁ ht₁ ha₁ n₁ G₁ => ?_
  have C₁ : CodeHd h₁ c P := by
    obtain ⟨oc, vs, file, tf, flags, tg, inF, text, tt, e1, r1, r2, r3, r4, r5, r6, r7, r8, hne⟩ := C
    exact ⟨oc, vs, file, tf, flags, tg, inF, text, tt, x₁ _ _ hne e1, r1, r2, r3, r4, r5, r6, r7, r8, hne⟩
  have B₁ : Bd g₀ hA h₁ ns P o pk' l := B.ext x₁ hP₁ ht₁ fun x hx v e => by
    rcases hap x hx with rfl | hne
    · rw [ha₁] at e; cases e; exact G₁
    · cases hc : codeAmong x.1 pk.toList with
      | none => rw [n₁.2.1 _ (.inl hne) hc] at e; cases e
      | some v' =>
        rw [n₁.1 _ _ hc] at e; cases e
        exact (B.good x hx _ hc).extBut x₁ B.hP
  have hfn : f ≠ ns := fun q => by rw [q, B.hn] at hf0; cases hf0
  have hfP : f ≠ P := fun q => by rw [q, B.hP] at hf0; cases hf0
  have B₂ := B₁.add hf1 hfn hfP
  refine st_cls (hs _) rfl B₂.hn B₂.hd he (fun k u => (hf _ k u).1) fun k u h₂ tk₂ s₂ e₂ => ?_
  exact hQ f c' ctv doc _ k u h₂ tk₂ pk' (B₂.set s₂ e₂ (hf _ k u).2) (by
    obtain ⟨oc, vs, file, tf, flags, tg, inF, text, tt, e1, r1, r2, r3, r4, r5, r6, r7, r8, hne⟩ := C₁
    refine ⟨oc, vs, file, tf, flags, tg, inF, text, tt, s₂.extBut _ _ (fun q => ?_) e1, r1, r2, r3, r4, r5, r6, r7, r8, hne⟩
    rw [q, B₂.hn] at e1
    have := B₂.hd
    rw [Option.some.inj e1, r1] at this
    injection this with this
    revert this; decide) ha₁ n₁
end Mine
end
section
open PySem PySem.W PyProof.Rows PySem.W.X
namespace Mine
set_option maxRecDepth 100000
set_option maxHeartbeats 1000000
/-- a namespace of names -/
def nsO (l : List (Str × Int × Tok × Value)) : Obj := { cls := .type "dict", data := .dict (Array.mk (l.map fun x => ⟨x.2.1, .str x.1 x.2.2.1, x.2.2.2⟩)) l.length }
def aName : Stmt → Str
  | .Assign (.Name x _ :: _) _ _ => x
  | _ => default
def aNPos : Stmt → Pos
  | .Assign (.Name _ p :: _) _ _ => p
  | _ => default
def aVal : Stmt → Expr
  | .Assign _ v _ => v
  | _ => default
def aPos : Stmt → Pos
  | .Assign _ _ p => p
  | _ => default
def lEls : Expr → List Expr
  | .List l _ => l
  | _ => []
def xPos : Expr → Pos
  | .List _ p => p
  | .Constant _ _ p => p
  | _ => default
def cKind : Expr → Nat
  | .Constant _ k _ => k
  | _ => 0
def wK (i : Nat) : Pos × Str := (dPos (kDef i), qCls ++ ("." : Str) ++ dName (kDef i))
theorem wantsK_eq : wantsK = [wK 2, wK 3, wK 4, wK 5, wK 6, wK 7] := by kernel_rfl
theorem body_eq : cBody kStmt = [kDef 0, kDef 1, kDef 2, kDef 3, kDef 4, kDef 5, kDef 6, kDef 7, kDef 8] := by kernel_rfl
theorem hap_of (i : Nat) (h : [wK 2, wK 3, wK 4, wK 5, wK 6, wK 7].all (fun x => Nat.beq x.1.line (wK i).1.line == false || (Nat.beq x.1.line (wK i).1.line && Nat.beq x.1.col (wK i).1.col && Nat.beq x.1.endLine (wK i).1.endLine && Nat.beq x.1.endCol (wK i).1.endCol && x.2 == (wK i).2)) = true) :
    ∀ x ∈ wantsK, x = wK i ∨ x.1.line ≠ (wK i).1.line := by
  intro x hx
  rw [wantsK_eq] at hx
  have := List.all_eq_true.mp h x hx
  simp only [Bool.or_eq_true, Bool.and_eq_true, beq_iff_eq] at this
  rcases this with h | ⟨⟨⟨⟨h1, h2⟩, h3⟩, h4⟩, h5⟩
  · right
    intro q
    rw [q, Nat.beq_refl] at h
    cases h
  · left
    obtain ⟨⟨a, b, c, d⟩, q⟩ := x
    have e1 := Nat.eq_of_beq_eq_true h1
    have e2 := Nat.eq_of_beq_eq_true h2
    have e3 := Nat.eq_of_beq_eq_true h3
    have e4 := Nat.eq_of_beq_eq_true h4
    dsimp only at e1 e2 e3 e4 h5
    subst e1 e2 e3 e4 h5
    rfl
section
variable {M : Model} {A : Around} {E : Value → Shared → Prop} {h : Heap} {g : Array GenState} {d : Drawn} {tk0 : Nat} {os : OsState}
/-- a constant stored -/
theorem as_cls {g₀ hA : Heap} {L ns c fr P : Addr} {o : Obj} {pk : Array Value} {l : List (Addr × Obj)} (B : Bd g₀ hA h ns P o pk l) {st : Stmt} (hst : st = .Assign [.Name (aName st) (aNPos st)] (aVal st) (aPos st))
    (hk : (aVal st).isPlainConst = true) (hsw : swapsWith (aVal st) (some (.Name (aName st) (aNPos st))) (aPos st).line (kEnv L ns c fr) = pure false)
    (hs : ∀ v, storeName (kEnv L ns c fr) (aName st) v = localSet (kEnv L ns c fr) (aName st) v) (he : ∃ es n, o.data = .dict es n ∧ aRefKeyMayBeTheName (aName st) es = false) (hf : ∀ v k u, (Obj.putName (aName st) k (.str (aName st) u) v o).isFreed = false ∧ (Obj.putName (aName st) k (.str (aName st) u) v o).cls = .type "dict")
    {Q : Flow → Shared → Prop} (hQ : ∀ v k u h' tk, (aVal st).ConstVal v → Bd g₀ hA h' ns P (Obj.putName (aName st) k (.str (aName st) u) v o) pk l → Heap.SameBut ns h h' → Q .next ⟨h', g, d, tk, os⟩) :
    wpAny M A (exec st (kEnv L ns c fr)) Q E ⟨h, g, d, tk0, os⟩ := by
  rw [hst]
  refine wpAny_Assign_Name (wpAny_eval_const hk fun v tk hv => ?_) hsw
  exact st_cls (hs _) rfl B.hn B.hd he (fun k u => (hf _ k u).1) fun k u h₂ tk₂ s₂ e₂ => hQ v k u h₂ tk₂ hv (B.set s₂ e₂ (hf _ k u).2) s₂
end
theorem wpAny_List1 {M : Model} {A : Around} {E : Value → Shared → Prop} {s : Shared} {e : Expr} {env : Env} {pos : Pos} {Q : Value → Shared → Prop} (h : wpAny M A (eval e env) (fun v s' => wpAny M A (newList [v]) Q E s') E s) (he : starEach [e] env = [(false, eval e env)] := by rfl) :
    wpAny M A (eval (.List [e] pos) env) Q E s := by
  show wpAny M A (do standAt pos; newList (← spliced (backTo pos (starEach [e] env)))) Q E s
  have e2 : backTo pos (starEach [e] env) = [(false, eval e env)] := by rw [he]; rfl
  rw [e2]
  refine wpAny_bind (wpAny_standAt (wpAny_bind (Calls.spliced_cons (wpAny_mono h (fun v s' h' => ?_) fun _ _ z => z))))
  exact Calls.spliced_nil h'
theorem CodeHd.sameBut' {h h' : Heap} {c P ns : Addr} {o : Obj} (C : CodeHd h c P) (s : Heap.SameBut ns h h') (hn : h.get? ns = some o) (hd : o.cls = .type "dict") : CodeHd h' c P := by
  obtain ⟨oc, vs, file, tf, flags, tg, inF, text, tt, e1, r1, r2⟩ := C
  refine ⟨oc, vs, file, tf, flags, tg, inF, text, tt, s.extBut _ _ (fun q => ?_) e1, r1, r2⟩
  rw [q, hn] at e1
  rw [Option.some.inj e1, r1] at hd
  injection hd with hd
  revert hd; decide
theorem cls_body {w : World} {A : Around} {E : Value → Shared → Prop} {g : Array GenState} {d : Drawn} {tk0 : Nat} {os : OsState} {g₀ hA h : Heap} (V : Env0 w g₀) {L ns c fr P : Addr} {pk : Array Value} {l : List (Addr × Obj)} {v0 v1 v2 : Value} {k0 k1 k2 : Int} {u0 u1 u2 : Tok}
    (B : Bd g₀ hA h ns P (nsO [(Str.ofString "__module__", k0, u0, v0), (Str.ofString "__qualname__", k1, u1, v1), (Str.ofString "__firstlineno__", k2, u2, v2)]) pk l) (C : CodeHd h c P) {Q : Flow → Shared → Prop}
    (hQ : ∀ h' tk pk' (v3 : Value) (k3 k4 k5 k6 k7 k8 k9 k10 : Int) (u3 u4 u5 u6 u7 u8 u9 u10 : Tok) (vm : Value) (lst f2 f3 f4 f5 f6 f7 c2 c3 c4 c5 c6 c7 : Addr) (e : Nat) (tO : Tok) (ct2 ct3 ct4 ct5 ct6 ct7 dc2 dc3 dc4 dc5 dc6 dc7 pm2 pm3 pm4 pm5 pm6 pm7 : Value), (∃ s t, v0 = .str s t) ∨ True →
      (∃ s t, vm = .str s t) → v3 = .ref lst →
      Bd g₀ hA h' ns P (nsO [(Str.ofString "__module__", k0, u0, vm), (Str.ofString "__qualname__", k1, u1, v1), (Str.ofString "__firstlineno__", k2, u2, v2), (Str.ofString "__slots__", k3, u3, .ref lst), (Str.ofString "__init__", k4, u4, .ref f2), (Str.ofString "__lt__", k5, u5, .ref f3), (Str.ofString "__gt__", k6, u6, .ref f4), (Str.ofString "__eq__", k7, u7, .ref f5), (Str.ofString "__le__", k8, u8, .ref f6), (Str.ofString "__ge__", k9, u9, .ref f7), (Str.ofString "__hash__", k10, u10, .none)]) pk'
        ((f7, mFn (kDef 7) [(Str.ofString "mycmp", L + 1)] dc7 pm7 c7 ct7) :: (f6, mFn (kDef 6) [(Str.ofString "mycmp", L + 1)] dc6 pm6 c6 ct6) :: (f5, mFn (kDef 5) [(Str.ofString "mycmp", L + 1)] dc5 pm5 c5 ct5) :: (f4, mFn (kDef 4) [(Str.ofString "mycmp", L + 1)] dc4 pm4 c4 ct4) :: (f3, mFn (kDef 3) [(Str.ofString "mycmp", L + 1)] dc3 pm3 c3 ct3) :: (f2, mFn (kDef 2) [] dc2 pm2 c2 ct2) :: (lst, { cls := .type "list", data := .seq #[.str (Str.ofString "obj") tO] e }) :: l) →
      CodeHd h' c P → (∀ x ∈ wantsK, ∃ v, codeAmong x.1 pk'.toList = some v ∧ GoodC g₀ h' v x.2) → GoodC g₀ h' (.ref c2) (wK 2).2 → GoodC g₀ h' (.ref c3) (wK 3).2 → ((∀ x ∈ wantsK, ∃ v, codeAmong x.1 pk.toList = some v) → pk' = pk) → Q .next ⟨h', g, d, tk, os⟩) :
    wpAny (model PW w) A (execs (cBody kStmt) (kEnv L ns c fr)) Q E ⟨h, g, d, tk0, os⟩ := by
  rw [body_eq]
  refine wpAny_execs_cons (as_cls B (by kernel_rfl) (by kernel_rfl) (by kernel_rfl) (fun v => by kernel_rfl) ⟨_, _, rfl, by kernel_rfl⟩ (fun v k u => ⟨by kernel_rfl, by kernel_rfl⟩) fun vm k u h₁ t₁ hvm B₁ s₁ => ?_)
  have C₁ := CodeHd.sameBut' C s₁ B.hn B.hd
  obtain ⟨tm, hvm⟩ : ∃ t, vm = .str (Str.ofString "cpy313.functools") t := hvm
  have B₁' : Bd g₀ hA h₁ ns P (nsO [(Str.ofString "__module__", k0, u0, vm), (Str.ofString "__qualname__", k1, u1, v1), (Str.ofString "__firstlineno__", k2, u2, v2)]) pk l := Eq.mp (congrArg (fun x => Bd g₀ hA h₁ ns P x pk l) (by kernel_rfl)) B₁
  try dsimp only
  refine wpAny_execs_cons ?_
  rw [show kDef 1 = .Assign [.Name (aName (kDef 1)) (aNPos (kDef 1))] (.List [.Constant (.str (Str.ofString "obj")) (cKind ((lEls (aVal (kDef 1))).getD 0 default)) (xPos ((lEls (aVal (kDef 1))).getD 0 default))] (xPos (aVal (kDef 1)))) (aPos (kDef 1)) by kernel_rfl]
  refine wpAny_Assign_Name ?_ (by kernel_rfl)
  refine wpAny_List1 (wpAny_eval_const rfl fun vs ts hvs => ?_)
  obtain ⟨tO, rfl⟩ : ∃ t, vs = .str (Str.ofString "obj") t := hvs
  refine wpAny_newList ?_ (by size_fits)
  try dsimp only
  have B₁'' := (B₁'.keeps (fun b o e => Heap.get?_push_of_some _ e : Keeps h₁ (h₁.push { cls := .type "list", data := .seq #[.str (Str.ofString "obj") tO] }))).add (a := h₁.objs.size) (oa := { cls := .type "list", data := .seq #[.str (Str.ofString "obj") tO] }) (Heap.get?_push_size _ rfl) (Nat.ne_of_gt (Heap.lt_size B₁'.hn)) (Nat.ne_of_gt (Heap.lt_size B₁'.hP))
  have C₁'' : CodeHd (h₁.push { cls := .type "list", data := .seq #[.str (Str.ofString "obj") tO] }) c P := C₁.keeps fun b o e => Heap.get?_push_of_some _ e
  generalize (h₁.objs.size : Addr) = lst at B₁'' ⊢
  refine st_cls (by kernel_rfl) rfl B₁''.hn B₁''.hd ⟨_, _, rfl, by kernel_rfl⟩ (fun k u => by kernel_rfl) fun k3 u3 h₂ t₂ s₂ e₂ => ?_
  have C₂ := CodeHd.sameBut' C₁'' s₂ B₁''.hn B₁''.hd
  have B₂ := B₁''.set s₂ e₂ (by kernel_rfl)
  replace B₂ : Bd g₀ hA h₂ ns P (nsO [(Str.ofString "__module__", k0, u0, vm), (Str.ofString "__qualname__", k1, u1, v1), (Str.ofString "__firstlineno__", k2, u2, v2), (Str.ofString "__slots__", k3, u3, .ref lst)]) pk _ := Eq.mp (congrArg (fun x => Bd g₀ hA h₂ ns P x pk _) (by kernel_rfl)) B₂
  try dsimp only
  refine wpAny_execs_cons (def_cls V B₂ C₂ (clos := []) (by kernel_rfl) (by kernel_rfl) (by kernel_rfl) (by kernel_rfl) (by kernel_rfl) (by kernel_rfl) (by rw [wantsK_eq]; simp [wK]) (hap_of 2 (by kernel_rfl)) (fun v => by kernel_rfl) ⟨_, _, rfl, by kernel_rfl⟩ (fun v k u => ⟨by kernel_rfl, by kernel_rfl⟩) fun f2 c2 ct2 dc2 pm2 k4 u4 h2 t2 pk2 B2 C2 a2 n2 => ?_)
  replace B2 : Bd g₀ hA h2 ns P (nsO [(Str.ofString "__module__", k0, u0, vm), (Str.ofString "__qualname__", k1, u1, v1), (Str.ofString "__firstlineno__", k2, u2, v2), (Str.ofString "__slots__", k3, u3, .ref lst), (Str.ofString "__init__", k4, u4, .ref f2)]) pk2 _ := Eq.mp (congrArg (fun x => Bd g₀ hA h2 ns P x pk2 _) (by kernel_rfl)) B2
  try dsimp only
  refine wpAny_execs_cons (def_cls V B2 C2 (clos := [(Str.ofString "mycmp", L + 1)]) (by kernel_rfl) (by kernel_rfl) (by kernel_rfl) (by kernel_rfl) (by kernel_rfl) (by kernel_rfl) (by rw [wantsK_eq]; simp [wK]) (hap_of 3 (by kernel_rfl)) (fun v => by kernel_rfl) ⟨_, _, rfl, by kernel_rfl⟩ (fun v k u => ⟨by kernel_rfl, by kernel_rfl⟩) fun f3 c3 ct3 dc3 pm3 k5 u5 h3 t3 pk3 B3 C3 a3 n3 => ?_)
  replace B3 : Bd g₀ hA h3 ns P (nsO [(Str.ofString "__module__", k0, u0, vm), (Str.ofString "__qualname__", k1, u1, v1), (Str.ofString "__firstlineno__", k2, u2, v2), (Str.ofString "__slots__", k3, u3, .ref lst), (Str.ofString "__init__", k4, u4, .ref f2), (Str.ofString "__lt__", k5, u5, .ref f3)]) pk3 _ := Eq.mp (congrArg (fun x => Bd g₀ hA h3 ns P x pk3 _) (by kernel_rfl)) B3
  try dsimp only
  refine wpAny_execs_cons (def_cls V B3 C3 (clos := [(Str.ofString "mycmp", L + 1)]) (by kernel_rfl) (by kernel_rfl) (by kernel_rfl) (by kernel_rfl) (by kernel_rfl) (by kernel_rfl) (by rw [wantsK_eq]; simp [wK]) (hap_of 4 (by kernel_rfl)) (fun v => by kernel_rfl) ⟨_, _, rfl, by kernel_rfl⟩ (fun v k u => ⟨by kernel_rfl, by kernel_rfl⟩) fun f4 c4 ct4 dc4 pm4 k6 u6 h4 t4 pk4 B4 C4 a4 n4 => ?_)
  replace B4 : Bd g₀ hA h4 ns P (nsO [(Str.ofString "__module__", k0, u0, vm), (Str.ofString "__qualname__", k1, u1, v1), (Str.ofString "__firstlineno__", k2, u2, v2), (Str.ofString "__slots__", k3, u3, .ref lst), (Str.ofString "__init__", k4, u4, .ref f2), (Str.ofString "__lt__", k5, u5, .ref f3), (Str.ofString "__gt__", k6, u6, .ref f4)]) pk4 _ := Eq.mp (congrArg (fun x => Bd g₀ hA h4 ns P x pk4 _) (by kernel_rfl)) B4
  try dsimp only
  refine wpAny_execs_cons (def_cls V B4 C4 (clos := [(Str.ofString "mycmp", L + 1)]) (by kernel_rfl) (by kernel_rfl) (by kernel_rfl) (by kernel_rfl) (by kernel_rfl) (by kernel_rfl) (by rw [wantsK_eq]; simp [wK]) (hap_of 5 (by kernel_rfl)) (fun v => by kernel_rfl) ⟨_, _, rfl, by kernel_rfl⟩ (fun v k u => ⟨by kernel_rfl, by kernel_rfl⟩) fun f5 c5 ct5 dc5 pm5 k7 u7 h5 t5 pk5 B5 C5 a5 n5 => ?_)
  replace B5 : Bd g₀ hA h5 ns P (nsO [(Str.ofString "__module__", k0, u0, vm), (Str.ofString "__qualname__", k1, u1, v1), (Str.ofString "__firstlineno__", k2, u2, v2), (Str.ofString "__slots__", k3, u3, .ref lst), (Str.ofString "__init__", k4, u4, .ref f2), (Str.ofString "__lt__", k5, u5, .ref f3), (Str.ofString "__gt__", k6, u6, .ref f4), (Str.ofString "__eq__", k7, u7, .ref f5)]) pk5 _ := Eq.mp (congrArg (fun x => Bd g₀ hA h5 ns P x pk5 _) (by kernel_rfl)) B5
  try dsimp only
  refine wpAny_execs_cons (def_cls V B5 C5 (clos := [(Str.ofString "mycmp", L + 1)]) (by kernel_rfl) (by kernel_rfl) (by kernel_rfl) (by kernel_rfl) (by kernel_rfl) (by kernel_rfl) (by rw [wantsK_eq]; simp [wK]) (hap_of 6 (by kernel_rfl)) (fun v => by kernel_rfl) ⟨_, _, rfl, by kernel_rfl⟩ (fun v k u => ⟨by kernel_rfl, by kernel_rfl⟩) fun f6 c6 ct6 dc6 pm6 k8 u8 h6 t6 pk6 B6 C6 a6 n6 => ?_)
  replace B6 : Bd g₀ hA h6 ns P (nsO [(Str.ofString "__module__", k0, u0, vm), (Str.ofString "__qualname__", k1, u1, v1), (Str.ofString "__firstlineno__", k2, u2, v2), (Str.ofString "__slots__", k3, u3, .ref lst), (Str.ofString "__init__", k4, u4, .ref f2), (Str.ofString "__lt__", k5, u5, .ref f3), (Str.ofString "__gt__", k6, u6, .ref f4), (Str.ofString "__eq__", k7, u7, .ref f5), (Str.ofString "__le__", k8, u8, .ref f6)]) pk6 _ := Eq.mp (congrArg (fun x => Bd g₀ hA h6 ns P x pk6 _) (by kernel_rfl)) B6
  try dsimp only
  refine wpAny_execs_cons (def_cls V B6 C6 (clos := [(Str.ofString "mycmp", L + 1)]) (by kernel_rfl) (by kernel_rfl) (by kernel_rfl) (by kernel_rfl) (by kernel_rfl) (by kernel_rfl) (by rw [wantsK_eq]; simp [wK]) (hap_of 7 (by kernel_rfl)) (fun v => by kernel_rfl) ⟨_, _, rfl, by kernel_rfl⟩ (fun v k u => ⟨by kernel_rfl, by kernel_rfl⟩) fun f7 c7 ct7 dc7 pm7 k9 u9 h7 t7 pk7 B7 C7 a7 n7 => ?_)
  replace B7 : Bd g₀ hA h7 ns P (nsO [(Str.ofString "__module__", k0, u0, vm), (Str.ofString "__qualname__", k1, u1, v1), (Str.ofString "__firstlineno__", k2, u2, v2), (Str.ofString "__slots__", k3, u3, .ref lst), (Str.ofString "__init__", k4, u4, .ref f2), (Str.ofString "__lt__", k5, u5, .ref f3), (Str.ofString "__gt__", k6, u6, .ref f4), (Str.ofString "__eq__", k7, u7, .ref f5), (Str.ofString "__le__", k8, u8, .ref f6), (Str.ofString "__ge__", k9, u9, .ref f7)]) pk7 _ := Eq.mp (congrArg (fun x => Bd g₀ hA h7 ns P x pk7 _) (by kernel_rfl)) B7
  try dsimp only
  refine wpAny_execs_cons (as_cls B7 (by kernel_rfl) (by kernel_rfl) (by kernel_rfl) (fun v => by kernel_rfl) ⟨_, _, rfl, by kernel_rfl⟩ (fun v k u => ⟨by kernel_rfl, by kernel_rfl⟩) fun vh k10 u10 h₈ t₈ hvh B8 s8 => ?_)
  have C8 := CodeHd.sameBut' C7 s8 B7.hn B7.hd
  have hvh' : vh = .none := hvh
  subst hvh'
  replace B8 : Bd g₀ hA h₈ ns P (nsO [(Str.ofString "__module__", k0, u0, vm), (Str.ofString "__qualname__", k1, u1, v1), (Str.ofString "__firstlineno__", k2, u2, v2), (Str.ofString "__slots__", k3, u3, .ref lst), (Str.ofString "__init__", k4, u4, .ref f2), (Str.ofString "__lt__", k5, u5, .ref f3), (Str.ofString "__gt__", k6, u6, .ref f4), (Str.ofString "__eq__", k7, u7, .ref f5), (Str.ofString "__le__", k8, u8, .ref f6), (Str.ofString "__ge__", k9, u9, .ref f7), (Str.ofString "__hash__", k10, u10, .none)]) pk7 _ := Eq.mp (congrArg (fun x => Bd g₀ hA h₈ ns P x pk7 _) (by kernel_rfl)) B8
  try dsimp only
  refine wpAny_execs_nil ?_
  have all : ∀ x ∈ wantsK, ∃ v, codeAmong x.1 pk7.toList = some v := by
    intro x hx
    rw [wantsK_eq] at hx
    simp only [List.mem_cons, List.not_mem_nil, or_false] at hx
    rcases hx with rfl | rfl | rfl | rfl | rfl | rfl
    · exact ⟨_, n7.1 _ _ (n6.1 _ _ (n5.1 _ _ (n4.1 _ _ (n3.1 _ _ a2))))⟩
    · exact ⟨_, n7.1 _ _ (n6.1 _ _ (n5.1 _ _ (n4.1 _ _ a3)))⟩
    · exact ⟨_, n7.1 _ _ (n6.1 _ _ (n5.1 _ _ a4))⟩
    · exact ⟨_, n7.1 _ _ (n6.1 _ _ a5)⟩
    · exact ⟨_, n7.1 _ _ a6⟩
    · exact ⟨_, a7⟩
  have z2 := n7.1 _ _ (n6.1 _ _ (n5.1 _ _ (n4.1 _ _ (n3.1 _ _ a2))))
  have z3 := n7.1 _ _ (n6.1 _ _ (n5.1 _ _ (n4.1 _ _ a3)))
  have m2 : wK 2 ∈ wantsK := by rw [wantsK_eq]; simp
  have m3 : wK 3 ∈ wantsK := by rw [wantsK_eq]; simp
  have m4 : wK 4 ∈ wantsK := by rw [wantsK_eq]; simp
  have m5 : wK 5 ∈ wantsK := by rw [wantsK_eq]; simp
  have m6 : wK 6 ∈ wantsK := by rw [wantsK_eq]; simp
  have m7 : wK 7 ∈ wantsK := by rw [wantsK_eq]; simp
  refine hQ h₈ t₈ pk7 (.ref lst) k3 k4 k5 k6 k7 k8 k9 k10 u3 u4 u5 u6 u7 u8 u9 u10 vm lst f2 f3 f4 f5 f6 f7 c2 c3 c4 c5 c6 c7 _ tO ct2 ct3 ct4 ct5 ct6 ct7 dc2 dc3 dc4 dc5 dc6 dc7 pm2 pm3 pm4 pm5 pm6 pm7 (.inr trivial) ⟨_, _, hvm⟩ rfl B8 C8
    (fun x hx => let ⟨v, e⟩ := all x hx; ⟨v, e, B8.good x hx v e⟩) (B8.good _ m2 _ z2) (B8.good _ m3 _ z3) fun full => ?_
  have q2 : pk2 = pk := let ⟨v, e⟩ := full _ m2; n2.2.2 v e
  subst q2
  have q3 : pk3 = pk2 := let ⟨v, e⟩ := full _ m3; n3.2.2 v e
  subst q3
  have q4 : pk4 = pk3 := let ⟨v, e⟩ := full _ m4; n4.2.2 v e
  subst q4
  have q5 : pk5 = pk4 := let ⟨v, e⟩ := full _ m5; n5.2.2 v e
  subst q5
  have q6 : pk6 = pk5 := let ⟨v, e⟩ := full _ m6; n6.2.2 v e
  subst q6
  exact (let ⟨v, e⟩ := full _ m7; n7.2.2 v e)
end Mine
end
section
open PySem PySem.W PyProof.Rows PySem.W.X
namespace Mine
set_option maxRecDepth 100000
section
variable {w : World} {g : Array GenState} {d : Drawn} {os : OsState} {E : Value → Shared → Prop}
theorem build_K {g₀ h : Heap} {tk0 : Nat} {A : Around} (hA : A.handled = none ∧ A.depth ≤ 381 ∧ A.units ≤ 932) (V : Env0 w g₀) (h23 : g₀.get? 23 = none) (k0 : Keeps g₀ h) (S : TabS g₀ h) {L : Addr} {oc : Obj} (hc : h.get? (L + 1) = some oc) (hcd : oc.data = .cell (some (.ref 44)))
    {Q : Value → Shared → Prop} (hQ : ∀ (t : TI) (k : KI) h' tk, (∀ b o, b ≠ 23 → h.get? b = some o → h'.get? b = some o) → TabS g₀ h' → HasAll h' (t.objs ++ k.objs t) → h.get? k.ns = none → Q (.ref k.C) ⟨h', g, d, tk, os⟩) :
    wpAny (model PW w) A (buildClass nK qCls [.type "object"] [] (cBody kStmt) (cScope kStmt) (cStat kStmt) (firstLineOf [] (cPos kStmt)) (cEnv L) (cPos kStmt)) Q E ⟨h, g, d, tk0, os⟩ := by
  have f1 := F.sub_ty
  have f4 := F.ty_obj
  have f5 := F.isty_obj
  unfold buildClass
  refine wpAny_bind (wpAny_newTuple ?_)
  refine wpAny_bind (forIn_one ?_)
  refine wpAny_bind (wpAny_of_eq f5 ?_)
  refine wpAny_ite_true rfl ?_
  refine wpAny_ite_false (by simp) ?_
  refine wpAny_pure ?_
  dsimp only
  refine wpAny_bind ?_
  show wpAny _ _ (typeOf (.type "object")) _ _ _
  refine wpAny_of_eq f4 ?_
  refine wpAny_bind (wpAny_pure ?_)
  refine wpAny_ite_true rfl ?_
  refine wpAny_bind (forIn_one ?_)
  refine wpAny_bind (wpAny_of_eq f4 ?_)
  refine wpAny_bind (wpAny_of_eq f1 ?_)
  refine wpAny_ite_true rfl ?_
  refine wpAny_bind (wpAny_pure ?_)
  refine wpAny_pure ?_
  dsimp only
  refine wpAny_bind (wpAny_mkText ?_)
  refine wpAny_ite_false (by decide) ?_
  refine wpAny_bind (wpAny_pure ?_)
  refine wpAny_holding ?_
  have kb : Keeps h (h.push { cls := .type "tuple", data := .seq #[.type "object"] }) := fun b o e => Heap.get?_push_of_some _ e
  have hbt : (h.push { cls := .type "tuple", data := .seq #[.type "object"] }).get? h.objs.size = some { cls := .type "tuple", data := .seq #[.type "object"] } := Heap.get?_push_size _ rfl
  refine wpAny_bind (prep_attr ⟨hA.1, by omega, by omega⟩ (V.X.keeps (k0.trans' kb)) fun m h₂ t₂ k₂ hm => ?_)
  dsimp only
  refine wpAny_bind (wpAny_cap 400 1000 (hh := hA.1) (hd := by omega) (hu := by omega) (prep_call (V.X.keeps ((k0.trans' kb).trans' k₂)) hm (k₂ _ _ hbt) fun ns h₃ t₃ k₃ hns hfr => ?_))
  dsimp only
  have k03 : Keeps h h₃ := (kb.trans' k₂).trans' k₃
  have hbt₃ := k₃ _ _ (k₂ _ _ hbt)
  have hn1 : ns ≠ 1 := fun q => by
    have := (k0.trans' (kb.trans' k₂)) _ _ (V.X 1 _ (by kernel_rfl : (myK w.params).lookup 1 = some (objAt 1 w.params)))
    rw [q, this] at hfr; cases hfr
  unfold notTheModulesDict
  refine wpAny_bind (wpAny_ite_false (decide_eq_false (fun q => hn1 (beq_iff_eq.mp q))) (wpAny_pure ?_))
  refine wpAny_bind (wpAny_specialOf (⟨_, hns, rfl⟩ : (⟨h₃, g, d, t₃, os⟩ : Shared).TypeIs (.ref ns) "dict") F.getitem_d ?_)
  refine wpAny_ite_false rfl ?_
  refine wpAny_holding ?_
  refine wpAny_ite_false (by kernel_rfl) ?_
  refine wpAny_bind (wpAny_pure ?_)
  refine wpAny_ite_false (by kernel_rfl) ?_
  refine wpAny_bind (wpAny_pure ?_)
  have S' : ∃ ps, h.get? 23 = some (W.tabObj ps) ∧ TriplesOk ps.toList ∧ ((codeAmong (cPos kStmt) ps.toList = none ∧ ps = #[]) ∨ ∃ c P pk, codeAmong (cPos kStmt) ps.toList = some (.ref c) ∧ CodesOk g₀ h c P pk) := by
    rcases S with S | ⟨ps, c, P, pk, h1, h2, h3, h4⟩
    · exact ⟨_, S, trivial, .inl ⟨rfl, rfl⟩⟩
    · exact ⟨ps, h1, h2, .inr ⟨c, P, pk, h3, h4⟩⟩
  obtain ⟨ps, hP, ht, Sc⟩ := S'
  have hf : ∀ v, codeAmong (cPos kStmt) ps.toList = some v → GoodC g₀ h₃ v qCls := fun v e => by
    rcases Sc with ⟨Sc, _⟩ | ⟨c, P, pk, h3, h4⟩
    · rw [Sc] at e; cases e
    · rw [h3] at e; cases e; exact h4.2.2.2.1.keeps k03
  unfold classCode
  refine wpAny_bind (codeAt_any (qual := qCls) (k0.trans' k03) rfl (codeHd_of_K (V.X.keeps (k0.trans' k03)) (hd27 _)) (k03 _ _ hP) ht hf (fun ctx => newCode_makes) fun c h₄ t₄ ps' x₄ hz₄ hP₄ ht₄ ha₄ n₄ g₄ new₄ old₄ => ?_)
  have S4 : ∃ P pk, CodeHd h₄ c P ∧ h₄.get? P = some (W.tabObj pk) ∧ TriplesOk pk.toList ∧ (P ≠ 23 ∧ g₀.get? P = none) ∧ (∀ x ∈ wantsK, ∀ v, codeAmong x.1 pk.toList = some v → GoodC g₀ h₄ v x.2) ∧
      (h₃.get? P = none ∨ (∀ x ∈ wantsK, ∃ v, codeAmong x.1 pk.toList = some v)) := by
    rcases Sc with ⟨Sc, rfl⟩ | ⟨c', P, pk, h3, h4⟩
    · obtain ⟨P, z1, z2, z3, z4⟩ := new₄ Sc
      have hPn : h₃.get? P = none := Heap.get?_none_of_le z1
      refine ⟨P, #[], z3, z4, trivial, ⟨fun q => ?_, ?_⟩, fun x _ v e => by simp [codeAmong] at e, .inl hPn⟩
      rotate_left
      · cases q : g₀.get? P with
        | none => rfl
        | some o => rw [k03 _ _ (k0 _ _ q)] at hPn; cases hPn
      have := Heap.lt_size (k03 _ _ hP)
      rw [q] at z1
      exact absurd this (Nat.not_lt.mpr z1)
    · have e4 := old₄ _ h3
      have e5 := n₄.1 _ _ h3
      rw [ha₄] at e5
      cases e5
      subst e4
      have h4' := h4.keeps k03
      exact ⟨P, pk, h4'.1, h4'.2.1, h4'.2.2.1, h4'.2.2.2.2.1, fun x hx v e => (let ⟨v', e', G⟩ := h4'.2.2.2.2.2 x hx; by rw [e] at e'; cases e'; exact G), .inr fun x hx => let ⟨v', e', _⟩ := h4'.2.2.2.2.2 x hx; ⟨v', e'⟩⟩
  obtain ⟨P, pk, C₄, hPk, htk, hP23, hgood, hfull⟩ := S4
  have kg4 : Keeps g₀ h₄ := fun b o e => x₄ b o (fun q => by rw [q, h23] at e; cases e) (k03 _ _ (k0 _ _ e))
  obtain ⟨p, loose, mean, mg, mb, T⟩ := V.T
  obtain ⟨bm, ob, hbm, hne0, hbo, hbcls, hbdict, hbdata⟩ := T.bmain
  refine wpAny_bind (wpAny_builtinsFor (T.g.keeps kg4) hbm hne0 (kg4 _ _ hbo) hbcls hbdict hbdata ?_)
  unfold newBodyFrame
  refine wpAny_bind (wpAny_bind (wpAny_nsGet (T.g.keeps kg4) (wpAny_alloc ?_)))
  have hns23 : ns ≠ 23 := fun q => by rw [q, k₂ _ _ (kb _ _ hP)] at hfr; cases hfr
  have hnP4 : ns ≠ P := fun q => by
    have := x₄ _ _ hns23 hns
    rw [q, hPk] at this; cases this
  generalize hfo : ({ cls := .type "frame", slots := #[some (.ref c), some (.ref (cEnv L).globals), some (.ref ns), none, some ((mg (Str.ofString "__name__")).getD .none), none, some (.ref builtinsNs)] } : Obj) = fo
  have k45 : Keeps h₄ (h₄.push fo) := fun b o e => Heap.get?_push_of_some _ e
  have hL23 : L + 1 ≠ 23 := fun q => by rw [q, hP] at hc; cases hc; cases hcd
  have hLP : L + 1 ≠ P := fun q => by
    have := x₄ _ _ hL23 (k03 _ _ hc)
    rw [q, hPk] at this; cases this; cases hcd
  have hLns : L + 1 ≠ ns := fun q => by rw [← q, k₂ _ _ (kb _ _ hc)] at hfr; cases hfr
  have hbt23 : h.objs.size ≠ 23 := fun q => by rw [q, k03 _ _ hP] at hbt₃; cases hbt₃
  have hbtP : h.objs.size ≠ P := fun q => by
    have := x₄ _ _ hbt23 hbt₃
    rw [q, hPk] at this; cases this
  have hbtn : h.objs.size ≠ ns := fun q => by rw [← q, k₂ _ _ hbt] at hfr; cases hfr
  obtain ⟨c₀, wc, tc, ec, hgc, hcz⟩ := g₄
  cases ec
  have hcns : c ≠ ns := fun q => by
    have e2 := x₄ _ _ hns23 hns
    rw [q, e2] at hgc
    have e3 := congrArg Obj.cls (Option.some.inj hgc)
    exact absurd e3 (by show ¬ (Value.type "dict" = Value.type "code"); intro q; injection q with q; revert q; decide)
  have hcP : c ≠ P := fun q => by
    rw [q, hPk] at hgc
    exact absurd (congrArg Obj.cls (Option.some.inj hgc)) (by intro q; cases q)
  have B : Bd g₀ h (h₄.push fo) ns P { cls := .type "dict", data := .dict #[] 0 } pk [(h.objs.size, { cls := .type "tuple", data := .seq #[.type "object"] }), (L + 1, oc), (23, W.tabObj ps'), (c, kCode wc qCls tc)] := {
    k0 := kg4.trans' k45
    kA := fun b ob h1 h2 e => k45 _ _ (x₄ _ _ h1 (k03 _ _ e))
    nA := by
      cases q : h.get? ns with
      | none => rfl
      | some o => rw [k₂ _ _ (kb _ _ q)] at hfr; cases hfr
    n0 := by
      cases q : g₀.get? ns with
      | none => rfl
      | some o => rw [k₂ _ _ (kb _ _ (k0 _ _ q))] at hfr; cases hfr
    p0 := hP23.2
    hn := k45 _ _ (x₄ _ _ hns23 hns)
    hd := rfl
    hP := k45 _ _ hPk
    ht := htk
    good := fun x hx v e => (hgood x hx v e).keeps k45
    all := fun x hx => by
      rcases List.mem_cons.mp hx with rfl | hx
      · exact ⟨k45 _ _ (x₄ _ _ hbt23 hbt₃), hbtn, hbtP⟩
      · rcases List.mem_cons.mp hx with rfl | hx
        · exact ⟨k45 _ _ (x₄ _ _ hL23 (k03 _ _ hc)), hLns, hLP⟩
        · rcases List.mem_cons.mp hx with rfl | hx
          · exact ⟨k45 _ _ hP₄, hns23.symm, hP23.1.symm⟩
          · rcases List.mem_cons.mp hx with rfl | hx
            · exact ⟨k45 _ _ hgc, hcns, hcP⟩
            · cases hx }
  have C₅ : CodeHd (h₄.push fo) c P := C₄.keeps k45
  have hP5 : (h₄.push fo).get? 23 = some (W.tabObj ps') := k45 _ _ hP₄
  have hcl : closureFor (cScope kStmt) (cEnv L) = pure [(Str.ofString "mycmp", L + 1)] := by kernel_rfl
  refine wpAny_bind (wpAny_of_eq hcl ?_)
  refine wpAny_holding ?_
  refine wpAny_bind (wpAny_enterFrame (V.keeps B.k0).nolimit (by have := hA.2.1; show A.depth < 1000; omega) ?_)
  refine wpAny_bind (wpAny_onRaise ?_)
  generalize hfr5 : (h₄.objs.size : Addr) = fr at *
  refine wpAny_bind (ld_name_cls (L := L) (c := c) (fr := fr) T V.X B.k0 B.hn ?_)
  refine wpAny_bind (st_cls (env := kEnv L ns c fr) (by kernel_rfl) rfl B.hn B.hd ⟨_, _, rfl, by kernel_rfl⟩ (fun k u => by kernel_rfl) fun k0 u0 h₅ t₅ s₅ e₅ => ?_)
  have C₆ := CodeHd.sameBut' C₅ s₅ B.hn B.hd
  have B₆ : Bd g₀ h h₅ ns P (nsO [(Str.ofString "__module__", k0, u0, .str (Str.ofString "law_dw5009_01") 220)]) pk _ := B.set s₅ (e₅.trans (congrArg some (by kernel_rfl))) rfl
  have hP6 : h₅.get? 23 = some (W.tabObj ps') := s₅.extBut _ _ hns23.symm hP5
  refine wpAny_bind (wpAny_mkText ?_)
  refine wpAny_bind (st_cls (env := kEnv L ns c fr) (by kernel_rfl) rfl B₆.hn B₆.hd ⟨_, _, rfl, by kernel_rfl⟩ (fun k u => by kernel_rfl) fun k1 u1 h₆ t₆ s₆ e₆ => ?_)
  have C₇ := CodeHd.sameBut' C₆ s₆ B₆.hn B₆.hd
  have B₇ : Bd g₀ h h₆ ns P (nsO [(Str.ofString "__module__", k0, u0, .str (Str.ofString "law_dw5009_01") 220), (Str.ofString "__qualname__", k1, u1, .str qCls t₅)]) pk _ := B₆.set s₆ (e₆.trans (congrArg some (by kernel_rfl))) rfl
  have hP7 : h₆.get? 23 = some (W.tabObj ps') := s₆.extBut _ _ hns23.symm hP6
  refine wpAny_bind (wpAny_mkInt ?_)
  refine wpAny_bind (st_cls (env := kEnv L ns c fr) (by kernel_rfl) rfl B₇.hn B₇.hd ⟨_, _, rfl, by kernel_rfl⟩ (fun k u => by kernel_rfl) fun k2 u2 h₇ t₇ s₇ e₇ => ?_)
  have C₈ := CodeHd.sameBut' C₇ s₇ B₇.hn B₇.hd
  have B₈ : Bd g₀ h h₇ ns P (nsO [(Str.ofString "__module__", k0, u0, .str (Str.ofString "law_dw5009_01") 220), (Str.ofString "__qualname__", k1, u1, .str qCls t₅), (Str.ofString "__firstlineno__", k2, u2, .int (firstLineOf [] (cPos kStmt) : Nat) t₆)]) pk _ := B₇.set s₇ (e₇.trans (congrArg some (by kernel_rfl))) rfl
  have hP8 : h₇.get? 23 = some (W.tabObj ps') := s₇.extBut _ _ hns23.symm hP7
  refine wpAny_pure ?_
  dsimp only
  refine wpAny_bind (wpAny_run (codeAny_body (by kernel_rfl) (by kernel_rfl) ?_))
  refine cls_body (L := L) (c := c) (fr := fr) V B₈ C₈ fun h₉ t₉ pk' v3 k3 k4 k5 k6 k7 k8 k9 k10 u3 u4 u5 u6 u7 u8 u9 u10 vm lst f2 f3 f4 f5 f6 f7 c2 c3 c4 c5 c6 c7 e tO ct2 ct3 ct4 ct5 ct6 ct7 dc2 dc3 dc4 dc5 dc6 dc7 pm2 pm3 pm4 pm5 pm6 pm7 _ hvm _ B₉ C₉ all9 G2 G3 full9 => ?_
  dsimp only
  refine wpAny_bind (wpAny_onRaise (wpAny_bind (wpAny_mkStrs fun fs => wpAny_bind (wpAny_newTextTuple ?_))))
  dsimp only
  generalize hto : ({ cls := .type "tuple", data := .seq fs.toArray } : Obj) = to
  have htc : to.cls = .type "tuple" := by rw [← hto]
  have kt : Keeps h₉ (h₉.push to) := fun b o e => Heap.get?_push_of_some _ e
  have hto' : (h₉.push to).get? h₉.objs.size = some to := Heap.get?_push_size _ (by rw [← hto]; rfl)
  have B₁₀ := (B₉.keeps kt).add hto' (Nat.ne_of_gt (Heap.lt_size B₉.hn)) (Nat.ne_of_gt (Heap.lt_size B₉.hP))
  generalize (h₉.objs.size : Addr) = tu at B₁₀ ⊢
  refine wpAny_bind (st_cls (env := kEnv L ns c fr) (by kernel_rfl) rfl B₁₀.hn B₁₀.hd ⟨_, _, rfl, by kernel_rfl⟩ (fun k u => by kernel_rfl) fun k11 u11 h₁₀ t₁₀ s₁₀ e₁₀ => ?_)
  have C₁₀ := CodeHd.sameBut' (C₉.keeps kt) s₁₀ B₁₀.hn B₁₀.hd
  have all₁₀ : ∀ x ∈ wantsK, ∃ v, codeAmong x.1 pk'.toList = some v ∧ GoodC g₀ h₁₀ v x.2 := fun x hx => let ⟨v, e, G⟩ := all9 x hx; ⟨v, e, (G.keeps kt).sameBut s₁₀ B₁₀.hn B₁₀.hd⟩
  have G2' := (G2.keeps kt).sameBut s₁₀ B₁₀.hn B₁₀.hd
  have G3' := (G3.keeps kt).sameBut s₁₀ B₁₀.hn B₁₀.hd
  have B₁₁ := B₁₀.set s₁₀ e₁₀ (by kernel_rfl)
  refine wpAny_pure ?_
  try dsimp only
  refine wpAny_ite_false (by decide) ?_
  obtain ⟨sm, tm, rfl⟩ := hvm
  have hn' : h₁₀.get? ns = some (nsRaw [k0, k1, k2, k3, k4, k5, k6, k7, k8, k9, k10, k11] [u0, u1, u2, u3, u4, u5, u6, u7, u8, u9, u10, u11] [.str sm tm, .str qCls t₅, .int (firstLineOf [] (cPos kStmt) : Nat) t₆, .none, .none, .none, .ref f4, .ref f5, .ref f6, .ref f7, .none, .ref tu] f2 f3 lst 12) :=
    e₁₀.trans (congrArg some (by kernel_rfl))
  have at' : ∀ {a : Addr} {o : Obj}, (a, o) ∈ _ → h₁₀.get? a = some o := fun hm => (B₁₁.all (_, _) hm).1
  have ati : ∀ {a : Addr} {o : Obj} (i : Nat), _ → h₁₀.get? a = some o := fun i hm => at' (List.mem_of_getElem? (i := i) hm)
  have hl' : h₁₀.get? lst = some ⟨.type "list", none, .seq #[.str ⟨#[111, 98, 106]⟩ tO] e, #[]⟩ := (ati 7 rfl).trans (congrArg some (by kernel_rfl))
  have hb' : h₁₀.get? h.objs.size = some ⟨.type "tuple", none, .seq #[.type "object"] 0, #[]⟩ := ati 8 rfl
  have h7' := ati (a := f7) (o := mFn (kDef 7) [(Str.ofString "mycmp", L + 1)] dc7 pm7 c7 ct7) 1 rfl
  have h6' := ati (a := f6) (o := mFn (kDef 6) [(Str.ofString "mycmp", L + 1)] dc6 pm6 c6 ct6) 2 rfl
  have h5' := ati (a := f5) (o := mFn (kDef 5) [(Str.ofString "mycmp", L + 1)] dc5 pm5 c5 ct5) 3 rfl
  have h4' := ati (a := f4) (o := mFn (kDef 4) [(Str.ofString "mycmp", L + 1)] dc4 pm4 c4 ct4) 4 rfl
  have h3' := ati (a := f3) (o := mFn (kDef 3) [(Str.ofString "mycmp", L + 1)] dc3 pm3 c3 ct3) 5 rfl
  have h2' := ati (a := f2) (o := mFn (kDef 2) [] dc2 pm2 c2 ct2) 6 rfl
  have htu := ati (a := tu) (o := to) 0 rfl
  have hLc := ati (a := L + 1) (o := oc) 9 rfl
  have h23' := ati (a := 23) (o := W.tabObj ps') 10 rfl
  have hcc := ati (a := c) (o := kCode wc qCls tc) 11 rfl
  have okf : ∀ {a : Addr} {o : Obj}, h₁₀.get? a = some o → o.cls = .type "function" → SetOk h₁₀ (.ref a) := fun e q => .inr (.inr (.inr ⟨_, _, "function", rfl, e, q, F.set_fn⟩))
  refine wpAny_bind (type_call (V.X.keeps B₁₁.k0) hA hb' hn' hl' hn1 (tq := t₅) rfl (by kernel_rfl) (fun i hi => ?_) (okf h2' rfl) (okf h3' rfl) fun C ns' md hs' ts' v' n' t' s0 s2 s3 s5 h₁₁ t₁₁ hNf k₁₁ hC hN hM => ?_)
  · match i with
    | 0 => exact .inr (.inl ⟨_, _, rfl⟩)
    | 1 => exact absurd rfl hi
    | 2 => exact .inr (.inr (.inl ⟨_, _, rfl⟩))
    | 3 => exact .inl rfl
    | 4 => exact .inl rfl
    | 5 => exact .inl rfl
    | 6 => exact okf h4' rfl
    | 7 => exact okf h5' rfl
    | 8 => exact okf h6' rfl
    | 9 => exact okf h7' rfl
    | 10 => exact .inl rfl
    | 11 => exact .inr (.inr (.inr ⟨_, _, "tuple", rfl, htu, htc, F.set_tup⟩))
    | _ + 12 => exact .inl rfl
  obtain ⟨d2, w2, t2, ed2, hd2, _⟩ := G2'
  cases ed2
  obtain ⟨d3, w3, t3, ed3, hd3, _⟩ := G3'
  cases ed3
  let t : TI := { c0 := c2, c1 := c3, w0 := w2, w1 := w3, t0 := t2, t1 := t3 }
  let k : KI := { C := C, ns := ns', md := md, fi := f2, fl := f3, cl := L + 1, oc := oc, q := qK, s0 := s0, s2 := s2, s3 := s3, s5 := s5, hs := hs', ts := ts', v := v', n := n', t := t', doc0 := dc2, pm0 := pm2, ct0 := ct2, doc1 := dc3, pm1 := pm3, ct1 := ct3 }
  refine wpAny_pure (hQ t k h₁₁ t₁₁ (fun b o hb e => ?_) (.inr ⟨ps', c, P, pk', k₁₁ _ _ h23', ht₄, ha₄, C₁₀.keeps k₁₁, k₁₁ _ _ B₁₁.hP, B₁₁.ht, ⟨c, wc, tc, rfl, k₁₁ _ _ hcc, hcz⟩, ⟨hP23.1, B₁₁.p0⟩, fun x hx => let ⟨v, e, G⟩ := all₁₀ x hx; ⟨v, e, G.keeps k₁₁⟩⟩) ?_ ?_)
  · by_cases hbP : b = P
    · subst hbP
      rcases hfull with hf | hf
      · rw [k03 _ _ e] at hf; cases hf
      · have e4 := x₄ _ _ hb (k03 _ _ e)
        rw [hPk] at e4
        cases e4
        rw [← full9 hf]
        exact k₁₁ _ _ B₁₁.hP
    · exact k₁₁ _ _ (B₁₁.kA b o hb hbP e)
  · have hcell : kCell oc = oc := by unfold kCell; rw [← hcd]
    intro x hx
    simp only [TI.objs, KI.objs, List.mem_append, List.mem_cons, List.not_mem_nil, or_false] at hx
    rcases hx with (rfl | rfl) | (rfl | rfl | rfl | rfl | rfl | rfl)
    · exact (k₁₁ _ _ hd2).trans (congrArg some (by kernel_rfl))
    · exact (k₁₁ _ _ hd3).trans (congrArg some (by kernel_rfl))
    · exact hC
    · exact hN
    · exact hM
    · exact (k₁₁ _ _ h2').trans (congrArg some (by kernel_rfl))
    · exact (k₁₁ _ _ h3').trans (congrArg some (by kernel_rfl))
    · exact (k₁₁ _ _ hLc).trans (congrArg some hcell.symm)
  · show h.get? ns' = none
    cases q : h.get? ns' with
    | none => rfl
    | some o =>
      by_cases q23 : ns' = 23
      · subst q23; rw [h23'] at hNf; cases hNf
      · by_cases qP : ns' = P
        · subst qP; rw [B₁₁.hP] at hNf; cases hNf
        · rw [B₁₁.kA _ _ q23 qP q] at hNf; cases hNf
end
end Mine
end
section
open PySem PySem.W PyProof.Rows PySem.W.X
namespace Mine
set_option maxRecDepth 100000
set_option maxHeartbeats 1000000
/-- all but the table of cmp_to_key's codes stands -/
def UpT (h h' : Heap) : Prop := ∀ b o, b ≠ 23 → h.get? b = some o → h'.get? b = some o
theorem UpT.keeps {g₀ h h' : Heap} (h23 : g₀.get? 23 = none) (k : Keeps g₀ h) (u : UpT h h') : Keeps g₀ h' := fun b o e => u b o (fun q => by rw [q, h23] at e; cases e) (k b o e)
theorem Keeps.up {h h' : Heap} (k : Keeps h h') : UpT h h' := fun b o _ e => k b o e
theorem UpT.trans {h₁ h₂ h₃ : Heap} (a : UpT h₁ h₂) (b : UpT h₂ h₃) : UpT h₁ h₃ := fun x o q e => b x o q (a x o q e)
def fnPm (o : Obj) : Value := match o.data with | .func fd => fd.pyModule | _ => .none
def fnDoc (o : Obj) : Value := match o.data with | .func fd => fd.doc | _ => .none
theorem cmp_ho (P : Params) : (myK P).lookup 28 = some (objAt 28 P) := by kernel_rfl
theorem cmp_data (P : Params) : (objAt 28 P).data = .func (Calls.docDef (Str.ofString "cmp_to_key") (sParams (tDef 2)) (sBody (tDef 2)) (sScope (tDef 2)) (fnPm (objAt 28 P)) (.ref 27) (fnDoc (objAt 28 P))) := by kernel_rfl
def rPos : Stmt → Pos
  | .Return _ p => p
  | _ => default
def rNPos : Stmt → Pos
  | .Return (some (.Name _ p)) _ => p
  | _ => default
def oPos : Pos := match cBases kStmt with | .Name _ p :: _ => p | _ => default
def rStmt : Stmt := (sBody (tDef 2)).getD 1 default
theorem cmp_body : sBody (tDef 2) = [kStmt, .Return (some (.Name nK (rNPos rStmt))) (rPos rStmt)] := by kernel_rfl
theorem TabS.sameBut {g₀ h h' : Heap} {L : Addr} {o : Obj} (H : TabS g₀ h) (s : Heap.SameBut L h h') (hL : h.get? L = some o) {es : Array DictEntry} {n : Nat} (hd : o.data = .dict es n) : TabS g₀ h' := by
  have nf : ∀ {P : Addr} {oP : Obj} {vs : Array Value}, h.get? P = some oP → oP.data = .fields vs → h'.get? P = some oP := fun {P oP vs} e q => s.extBut _ _ (fun z => by
    rw [z, hL] at e
    rw [← Option.some.inj e, hd] at q
    cases q) e
  have gc : ∀ {v : Value} {q : Str}, GoodC g₀ h v q → GoodC g₀ h' v q := fun ⟨c, w, t, e1, e2, z⟩ => ⟨c, w, t, e1, nf e2 rfl, z⟩
  rcases H with H | ⟨ps, c, P, pk, h1, h2, h3, ⟨oc, vs, file, tf, flags, tg, inF, text, tt, e1, r1, r2, r3⟩, h5, h6, h7, h8, h9⟩
  · exact .inl (nf H rfl)
  · exact .inr ⟨ps, c, P, pk, nf h1 rfl, h2, h3, ⟨oc, vs, file, tf, flags, tg, inF, text, tt, nf e1 r2, r1, r2, r3⟩, nf h5 rfl, h6, gc h7, h8, fun x hx => let ⟨v, e, G⟩ := h9 x hx; ⟨v, e, gc G⟩⟩
section
variable {w : World} {g : Array GenState} {d : Drawn} {os : OsState} {E : Value → Shared → Prop}
theorem cmp_call {g₀ h : Heap} {tk0 : Nat} (V : Env0 w g₀) (h23 : g₀.get? 23 = none) (k0 : Keeps g₀ h) (S : TabS g₀ h)
    {Q : Value → Shared → Prop} (hQ : ∀ (t : TI) (k : KI) h' tk, UpT h h' → TabS g₀ h' → HasAll h' (t.objs ++ k.objs t) → Q (.ref k.C) ⟨h', g, d, tk, os⟩) :
    wpAny (model PW w) (capA 380 928) (PySem.call (.ref 28) [.ref 44]) Q E ⟨h, g, d, tk0, os⟩ := by
  have X := V.X
  have hcd : h.CodeRec (.ref 27) (Str.ofString "cmp_to_key") := codeRec_of (V.X.keeps k0) (by kernel_rfl)
  refine wpAny_call (call_cellsN_ret (binds := [(Str.ofString "mycmp", .ref 44)]) (by decide) (k0 _ _ (X _ _ (cmp_ho _))) (cmp_data _) (V.keeps k0).nolimit hcd (by kernel_rfl) ?_ ?_ (fun h₁ tk cells F N CA => ?_) (by kernel_rfl) (by kernel_rfl) (by kernel_rfl))
  · intro x hx
    rcases List.mem_cons.mp hx with rfl | hx
    · exact .inr ⟨by kernel_rfl, by kernel_rfl⟩
    · cases hx
  · rw [show List.map (fun x => x.fst) (cellsFrom 0 (sScope (tDef 2)).names []) = [Str.ofString "mycmp"] by kernel_rfl]
    exact List.nodup_cons.mpr ⟨List.not_mem_nil, List.nodup_nil⟩
  dsimp only at F N CA ⊢
  rw [show cellsFrom (h.objs.size + 1) (sScope (tDef 2)).names [] = [(Str.ofString "mycmp", h.objs.size + 1)] by kernel_rfl] at CA
  obtain ⟨oc, rfl, hcd'⟩ := CA.one
  have hcd : oc.data = .cell (some (.ref 44)) := hcd'.trans (by kernel_rfl)
  have hoc := (N _ (.head _)).1
  have k1 : Keeps g₀ h₁ := k0.trans' F.keep
  rw [cmp_body]
  refine wpAny_execs_cons ?_
  rw [kStmt_eq]
  unfold exec
  refine wpAny_bind (wpAny_pure (wpAny_bind (wpAny_standAt (wpAny_bind ?_))))
  unfold buildClassGuard
  obtain ⟨p, loose, mean, mg, mb, T⟩ := V.T
  have hb : (mb (Str.ofString "__build_class__")) = some (.builtin "__build_class__") := (T.builtins _ (by decide)).trans (by kernel_rfl)
  refine wpAny_bind (wpAny_nsGet (T.b.keeps k1) ?_)
  rw [hb]
  refine wpAny_pure (wpAny_bind (wpAny_holding (wpAny_bind ?_)))
  rw [show cBases kStmt = [.Name (Str.ofString "object") oPos] by kernel_rfl]
  refine args_cls (nameX_B (cn := Str.ofString "cmp_to_key") (cs := sScope (tDef 2)) (cl := cellsFrom (h.objs.size + 1) (sScope (tDef 2)).names []) F (X.keeps k0) (topRead_of (T.keeps k0)) (by kernel_rfl) (v := .type "object") (by kernel_rfl) (by decide) ?_ (by kernel_rfl) (by kernel_rfl))
  dsimp only
  refine wpAny_bind (wpAny_standAt (wpAny_holding ?_))
  rw [show qualnameIn (envOfC (Str.ofString "cmp_to_key") (sScope (tDef 2)) h.objs.size 28 (.ref 27)) nK nK = qCls by kernel_rfl]
  have h23s : 23 < h.objs.size := by
    rcases S with S | ⟨_, _, _, _, S, _⟩ <;> exact Heap.lt_size S
  refine build_K (L := h.objs.size) ⟨rfl, by show 381 ≤ 381; omega, by show 931 ≤ 932; omega⟩ V h23 k1 (S.keeps F.keep) hoc hcd fun t k h' tk' up S' H hns => ?_
  refine wpAny_bind (wpAny_pure (wpAny_bind (wpAny_standAt (wpAny_bind (wpAny_bindName ?_)))))
  have hL23 : h.objs.size ≠ 23 := Nat.ne_of_gt h23s
  have hLn : h'.Ns h.objs.size _ := F.ns.extBut up hL23
  refine wpAny_storeName_local (by kernel_rfl) hLn (fun h₃ hn₃ sb => ?_) (by kernel_rfl)
  refine wpAny_pure ?_
  dsimp only
  refine wpAny_execs_cons (wpAny_Return_some (wpAny_Name (wpAny_loadName_local (by kernel_rfl) (by kernel_rfl) hn₃ (v := .ref k.C) (if_pos rfl) ?_) (by kernel_rfl)))
  dsimp only
  obtain ⟨oL, es, ep, eL, hdL, _⟩ := hLn
  refine hQ t k h₃ _ (fun b o q e => sb.extBut _ _ (Nat.ne_of_lt (Heap.lt_size e)) (up _ _ q (F.keep _ _ e))) (S'.sameBut sb eL hdL) fun x hx => sb.extBut _ _ (fun z => ?_) (H x hx)
  replace z : x.1 = h.objs.size := z
  have e := H x hx
  rw [z, eL] at e
  have ed := congrArg Obj.data (Option.some.inj e)
  rw [hdL] at ed
  simp only [TI.objs, KI.objs, List.mem_append, List.mem_cons, List.not_mem_nil, or_false] at hx
  rcases hx with (rfl | rfl) | (rfl | rfl | rfl | rfl | rfl | rfl)
  · cases ed
  · cases ed
  · cases ed
  · obtain ⟨o₁, _, _, e₁, _⟩ := F.ns
    dsimp only at z
    rw [z, e₁] at hns
    cases hns
  · cases ed
  · cases ed
  · cases ed
  · cases ed
end
end Mine
end
section
open PySem PySem.W PyProof.Rows PySem.W.X
namespace Mine
set_option maxRecDepth 100000
section
variable (P : Params)
theorem G_le : nsIn (myK P) mainGlobals (Str.ofString "_le_from_gt") = some (some (.ref 21)) := by kernel_rfl
theorem G_cmp : nsIn (myK P) mainGlobals (Str.ofString "cmp_to_key") = some (some (.ref 28)) := by kernel_rfl
theorem G_missing : nsIn (myK P) mainGlobals (Str.ofString "_initial_missing") = some (some (.ref 29)) := by kernel_rfl
theorem G_reduce : nsIn (myK P) mainGlobals (Str.ofString "reduce") = some (some (.ref 37)) := by kernel_rfl
theorem G_fuller : nsIn (myK P) mainGlobals (Str.ofString "_law_fuller") = some (some (.ref 44)) := by kernel_rfl
theorem G_round : nsIn (myK P) mainGlobals (Str.ofString "_law_round") = some (some (.ref 49)) := by kernel_rfl
theorem G_fits : nsIn (myK P) mainGlobals (Str.ofString "_law_fits") = some (some (.ref 54)) := by kernel_rfl
theorem G_sorted : nsIn (myK P) mainGlobals (Str.ofString "sorted") = some none := by kernel_rfl
theorem G_len : nsIn (myK P) mainGlobals (Str.ofString "len") = some none := by kernel_rfl
theorem G_sum : nsIn (myK P) mainGlobals (Str.ofString "sum") = some none := by kernel_rfl
theorem G_range : nsIn (myK P) mainGlobals (Str.ofString "range") = some none := by kernel_rfl
theorem G_min : nsIn (myK P) mainGlobals (Str.ofString "min") = some none := by kernel_rfl
theorem G_max : nsIn (myK P) mainGlobals (Str.ofString "max") = some none := by kernel_rfl
theorem G_iter : nsIn (myK P) mainGlobals (Str.ofString "iter") = some none := by kernel_rfl
theorem G_next : nsIn (myK P) mainGlobals (Str.ofString "next") = some none := by kernel_rfl
theorem G_holds : nsIn (myK P) mainGlobals (Str.ofString "_law_holds") = some (some (.ref 59)) := by kernel_rfl
end
/-- a pair of ints made since the law's entry -/
def PairG (g₀ h : Heap) (v : Value) (p : Int × Int) : Prop := ∃ a t u e, v = .ref a ∧ h.get? a = some ⟨.type "tuple", none, .seq #[.int p.1 t, .int p.2 u] e, #[]⟩ ∧ g₀.get? a = none
inductive PairsG (g₀ h : Heap) : List Value → List (Int × Int) → Prop
  | nil : PairsG g₀ h [] []
  | cons {v vs p ps} : PairG g₀ h v p → PairsG g₀ h vs ps → PairsG g₀ h (v :: vs) (p :: ps)
def ListG (g₀ h : Heap) (a : Addr) (vs : List Value) : Prop := ∃ n, h.get? a = some (seqObj "list" vs.toArray n) ∧ g₀.get? a = none
/-- what the process has in hand: the row and the ties so far -/
def StG (g₀ h : Heap) (v : Value) (row ties : List (Int × Int)) : Prop := ∃ a e ra ta rvs tvs, v = .ref a ∧ h.get? a = some ⟨.type "tuple", none, .seq #[.ref ra, .ref ta] e, #[]⟩ ∧ g₀.get? a = none ∧ ListG g₀ h ra rvs ∧ ListG g₀ h ta tvs ∧ PairsG g₀ h rvs row ∧ PairsG g₀ h tvs ties
/-- every list and tuple stands -/
def Sq (h h' : Heap) : Prop := ∀ b o xs n, o.data = .seq xs n → h.get? b = some o → h'.get? b = some o
theorem Keeps.sq {h h' : Heap} (k : Keeps h h') : Sq h h' := fun b o _ _ _ e => k b o e
theorem Sq.trans {h₁ h₂ h₃ : Heap} (a : Sq h₁ h₂) (b : Sq h₂ h₃) : Sq h₁ h₃ := fun x o xs n d e => b x o xs n d (a x o xs n d e)
theorem Sq.of_sameBut {h h' : Heap} {L : Addr} {o : Obj} (s : Heap.SameBut L h h') (hL : h.get? L = some o) (hd : ∀ xs n, o.data ≠ .seq xs n) : Sq h h' := fun b ob xs n d e => s.extBut _ _ (fun q => by rw [q, hL] at e; rw [← Option.some.inj e] at d; exact hd _ _ d) e
theorem UpT.sq {g₀ h h' : Heap} (u : UpT h h') (S : TabS g₀ h) : Sq h h' := fun b o xs n d e => u b o (fun q => by
  subst q
  rcases S with S | ⟨_, _, _, _, S, _⟩ <;> (rw [S] at e; rw [← Option.some.inj e] at d; cases d)) e
section
variable {g₀ h h' : Heap}
theorem PairG.sq {v : Value} {p : Int × Int} (x : PairG g₀ h v p) (s : Sq h h') : PairG g₀ h' v p := let ⟨a, t, u, e, r, g, z⟩ := x; ⟨a, t, u, e, r, s _ _ _ _ rfl g, z⟩
theorem PairsG.sq {vs : List Value} {ps : List (Int × Int)} (x : PairsG g₀ h vs ps) (s : Sq h h') : PairsG g₀ h' vs ps := by
  induction x with
  | nil => exact .nil
  | cons a _ ih => exact .cons (a.sq s) ih
theorem ListG.sq {a : Addr} {vs : List Value} (x : ListG g₀ h a vs) (s : Sq h h') : ListG g₀ h' a vs := let ⟨n, g, z⟩ := x; ⟨n, s _ _ _ _ rfl g, z⟩
theorem StG.sq {v : Value} {row ties : List (Int × Int)} (x : StG g₀ h v row ties) (s : Sq h h') : StG g₀ h' v row ties :=
  let ⟨a, e, ra, ta, rvs, tvs, r, g, z, l1, l2, p1, p2⟩ := x; ⟨a, e, ra, ta, rvs, tvs, r, s _ _ _ _ rfl g, z, l1.sq s, l2.sq s, p1.sq s, p2.sq s⟩
theorem PairsG.length {vs : List Value} {ps : List (Int × Int)} (x : PairsG g₀ h vs ps) : vs.length = ps.length := by
  induction x with
  | nil => rfl
  | cons _ _ ih => simp [ih]
theorem PairsG.get {vs : List Value} {ps : List (Int × Int)} (x : PairsG g₀ h vs ps) {i : Nat} (hi : i < vs.length) : PairG g₀ h (vs.getD i .none) (ps.getD i (0, 0)) := by
  induction x generalizing i with
  | nil => simp at hi
  | cons a _ ih =>
    cases i with
    | zero => simpa using a
    | succ i => simpa using ih (by simpa using hi)
theorem PairsG.append {vs ws : List Value} {ps qs : List (Int × Int)} (x : PairsG g₀ h vs ps) (y : PairsG g₀ h ws qs) : PairsG g₀ h (vs ++ ws) (ps ++ qs) := by
  induction x with
  | nil => exact y
  | cons a _ ih => exact .cons a ih
theorem PairsG.take {vs : List Value} {ps : List (Int × Int)} (x : PairsG g₀ h vs ps) (n : Nat) : PairsG g₀ h (vs.take n) (ps.take n) := by
  induction x generalizing n with
  | nil => simpa using .nil
  | cons a _ ih =>
    cases n with
    | zero => exact .nil
    | succ n => exact .cons a (ih n)
theorem PairsG.drop {vs : List Value} {ps : List (Int × Int)} (x : PairsG g₀ h vs ps) (n : Nat) : PairsG g₀ h (vs.drop n) (ps.drop n) := by
  induction x generalizing n with
  | nil => simpa using .nil
  | cons a r ih =>
    cases n with
    | zero => exact .cons a r
    | succ n => exact ih n
theorem PairsG.pairs {vs : List Value} {ps : List (Int × Int)} (x : PairsG g₀ h vs ps) : Pairs h vs ps := by
  induction x with
  | nil => exact .nil
  | cons a _ ih => exact .cons (let ⟨a, t, u, e, r, g, _⟩ := a; ⟨a, t, u, e, r, g⟩) ih
theorem PairsG.pick {vs : List Value} {ps : List (Int × Int)} (x : PairsG g₀ h vs ps) : ∀ (σ : List Nat), (∀ i ∈ σ, i < vs.length) → PairsG g₀ h (σ.map fun i => vs.getD i .none) (σ.map fun i => ps.getD i (0, 0))
  | [], _ => .nil
  | i :: σ, hl => .cons (x.get (hl i (.head _))) (PairsG.pick x σ fun j hj => hl j (.tail _ hj))
/-- the pairs' objects, as a ledger -/
theorem PairsG.seg {vs : List Value} {ps : List (Int × Int)} (x : PairsG g₀ h vs ps) : ∃ tl : List (Addr × Obj), (∀ p ∈ tl, h.get? p.1 = some p.2 ∧ g₀.get? p.1 = none ∧ ∃ xs n, p.2.data = .seq xs n) ∧
    ∀ i, i < vs.length → ∃ a t u e, vs[i]? = some (.ref a) ∧ (a, (⟨.type "tuple", none, .seq #[.int (ps.getD i (0, 0)).1 t, .int (ps.getD i (0, 0)).2 u] e, #[]⟩ : Obj)) ∈ tl := by
  induction x with
  | nil => exact ⟨[], fun _ hp => (nomatch hp), fun i hi => absurd hi (Nat.not_lt_zero _)⟩
  | cons y _ ih =>
    obtain ⟨tl, h1, h2⟩ := ih
    rename_i p' _ _
    obtain ⟨a, t, u, e, rfl, g, z⟩ := y
    refine ⟨(a, ⟨.type "tuple", none, .seq #[.int p'.1 t, .int p'.2 u] e, #[]⟩) :: tl, fun p hp => ?_, fun i hi => ?_⟩
    · rcases List.mem_cons.mp hp with rfl | hp
      · exact ⟨g, z, _, _, rfl⟩
      · exact h1 p hp
    · cases i with
      | zero => exact ⟨a, t, u, e, rfl, .head _⟩
      | succ i =>
        obtain ⟨a', t', u', e', q1, q2⟩ := h2 i (by simpa using hi)
        exact ⟨a', t', u', e', by simpa using q1, List.mem_cons_of_mem _ (by simpa using q2)⟩
/-- the code table's objects, as a ledger -/
theorem TabS.seg (S : TabS g₀ h) (h23 : g₀.get? 23 = none) : ∃ tl : List (Addr × Obj), (∀ p ∈ tl, h.get? p.1 = some p.2 ∧ g₀.get? p.1 = none ∧ ∃ vs, p.2.data = .fields vs) ∧ ∀ h', (∀ p ∈ tl, h'.get? p.1 = some p.2) → TabS g₀ h' := by
  rcases S with S | ⟨ps, c, P, pk, h1, h2, h3, ⟨oc, vs, file, tf, flags, tg, inF, text, tt, e1, r1, r2, r3⟩, h5, h6, ⟨c', wc, tc, ec, gc, zc⟩, h8, h9⟩
  · refine ⟨[(23, W.tabObj #[])], fun p hp => ?_, fun h' hh => .inl (hh _ (.head _))⟩
    rw [List.mem_singleton.mp hp]
    exact ⟨S, h23, _, rfl⟩
  · cases ec
    have cod : ∀ l : List (Pos × Str), (∀ x ∈ l, ∃ v, codeAmong x.1 pk.toList = some v ∧ GoodC g₀ h v x.2) → ∃ tl : List (Addr × Obj), (∀ p ∈ tl, h.get? p.1 = some p.2 ∧ g₀.get? p.1 = none ∧ ∃ vs, p.2.data = .fields vs) ∧
        ∀ h', (∀ p ∈ tl, h'.get? p.1 = some p.2) → ∀ x ∈ l, ∃ v, codeAmong x.1 pk.toList = some v ∧ GoodC g₀ h' v x.2 := by
      intro l
      induction l with
      | nil => exact fun _ => ⟨[], fun _ hp => (nomatch hp), fun _ _ x hx => (nomatch hx)⟩
      | cons x l ih =>
        intro hl
        obtain ⟨tl, t1, t2⟩ := ih fun y hy => hl y (.tail _ hy)
        obtain ⟨v, ev, cv, wv, tv, e, gv, zv⟩ := hl x (.head _)
        refine ⟨(cv, kCode wv x.2 tv) :: tl, fun p hp => ?_, fun h' hh y hy => ?_⟩
        · rcases List.mem_cons.mp hp with rfl | hp
          · exact ⟨gv, zv, _, rfl⟩
          · exact t1 p hp
        · rcases List.mem_cons.mp hy with rfl | hy
          · exact ⟨v, ev, cv, wv, tv, e, hh _ (.head _), zv⟩
          · exact t2 h' (fun p hp => hh p (.tail _ hp)) y hy
    obtain ⟨tl, t1, t2⟩ := cod wantsK h9
    refine ⟨(23, W.tabObj ps) :: (c, oc) :: (P, W.tabObj pk) :: tl, fun p hp => ?_, fun h' hh => ?_⟩
    · rcases List.mem_cons.mp hp with rfl | hp
      · exact ⟨h1, h23, _, rfl⟩
      · rcases List.mem_cons.mp hp with rfl | hp
        · exact ⟨e1, zc, _, r2⟩
        · rcases List.mem_cons.mp hp with rfl | hp
          · exact ⟨h5, h8.2, _, rfl⟩
          · exact t1 p hp
    · have hc' := hh _ (List.mem_cons_of_mem _ (.head _))
      have eo : oc = kCode wc qCls tc := Option.some.inj (e1.symm.trans gc)
      exact .inr ⟨ps, c, P, pk, hh _ (.head _), h2, h3, ⟨oc, vs, file, tf, flags, tg, inF, text, tt, hc', r1, r2, r3⟩, hh _ (List.mem_cons_of_mem _ (List.mem_cons_of_mem _ (.head _))), h6, ⟨c, wc, tc, rfl, eo ▸ hc', zc⟩, h8,
        t2 h' fun p hp => hh p (List.mem_cons_of_mem _ (List.mem_cons_of_mem _ (List.mem_cons_of_mem _ hp)))⟩
theorem erase_get {α : Type} {l : List α} {P : Nat} (hP : P < l.length) (i : Nat) : (l.take P ++ l.drop (P + 1))[i]? = if i < P then l[i]? else l[i + 1]? := by
  have ht : (l.take P).length = P := by rw [List.length_take]; omega
  by_cases hi : i < P
  · rw [if_pos hi, List.getElem?_append_left (by rw [ht]; exact hi), List.getElem?_take, if_pos hi]
  · rw [if_neg hi, List.getElem?_append_right (by rw [ht]; omega), ht, List.getElem?_drop]
    congr 1
    omega
/-- all that stands beside the base, but the table -/
def restOf (g₀ h : Heap) : List (Addr × Obj) := (List.range h.objs.size).filterMap fun b => match h.get? b, g₀.get? b with
  | some o, none => if b = 23 then none else some (b, o)
  | _, _ => none
theorem mem_rest {b : Addr} {o : Obj} (e : h.get? b = some o) (z : g₀.get? b = none) (n : b ≠ 23) : (b, o) ∈ restOf g₀ h := by
  refine List.mem_filterMap.mpr ⟨b, List.mem_range.mpr (Heap.lt_size e), ?_⟩
  rw [e, z]
  exact if_neg n
theorem of_rest {p : Addr × Obj} (hp : p ∈ restOf g₀ h) : h.get? p.1 = some p.2 ∧ g₀.get? p.1 = none ∧ p.1 ≠ 23 := by
  obtain ⟨b, _, e⟩ := List.mem_filterMap.mp hp
  split at e
  · rename_i o e1 e2
    split at e
    · cases e
    · rename_i n
      cases e
      exact ⟨e1, e2, n⟩
  · cases e
/-- a ledger without the table -/
def No23 (l : List (Addr × Obj)) : Prop := ∀ p ∈ l, p.1 ≠ 23
theorem No23.cons {l : List (Addr × Obj)} {a : Addr} {o : Obj} (x : No23 l) (n : a ≠ 23) : No23 ((a, o) :: l) := fun p hp => by
  rcases List.mem_cons.mp hp with rfl | hp
  · exact n
  · exact x p hp
theorem No23.rest : No23 (restOf g₀ h) := fun _ hp => (of_rest hp).2.2
theorem news_rest {L : Addr} (k : Keeps h h') (hL : h.objs.size ≤ L) : News g₀ L h' (restOf g₀ h) := fun p hp => ⟨k _ _ (of_rest hp).1, Nat.ne_of_lt (Nat.lt_of_lt_of_le (Heap.lt_size (of_rest hp).1) hL), (of_rest hp).2.1⟩
theorem news_up {L : Addr} {l : List (Addr × Obj)} (N : News g₀ L h l) (n : No23 l) (u : UpT h h') : News g₀ L h' l := fun p hp => ⟨u _ _ (n p hp) (N p hp).1, (N p hp).2⟩
theorem news_keeps {L : Addr} {l : List (Addr × Obj)} (N : News g₀ L h l) (u : Keeps h h') : News g₀ L h' l := fun p hp => ⟨u _ _ (N p hp).1, (N p hp).2⟩
theorem news_cons {L : Addr} {l : List (Addr × Obj)} {a : Addr} {o : Obj} (N : News g₀ L h l) (e : h.get? a = some o) (z : g₀.get? a = none) (n : a ≠ L) : News g₀ L h ((a, o) :: l) := fun p hp => by
  rcases List.mem_cons.mp hp with rfl | hp
  · exact ⟨e, n, z⟩
  · exact N p hp
theorem news_left {L : Addr} {l tt : List (Addr × Obj)} (N : News g₀ L h (l ++ tt)) : News g₀ L h l := fun p hp => N p (List.mem_append_left _ hp)
/-- the ledger with the table's segment -/
theorem news_tab {L : Addr} {m : Str → Option Value} {l tt : List (Addr × Obj)} (F : Fr g₀ L h m) (N : News g₀ L h l) (y : ∀ p ∈ tt, h.get? p.1 = some p.2 ∧ g₀.get? p.1 = none ∧ ∃ vs, p.2.data = .fields vs) : News g₀ L h (l ++ tt) := by
  obtain ⟨oL, es, ep, eL, hdL, _⟩ := F.ns
  intro p hp
  rcases List.mem_append.mp hp with hp | hp
  · exact N p hp
  · refine ⟨(y p hp).1, fun q => ?_, (y p hp).2.1⟩
    have e := (y p hp).1
    rw [q, eL] at e
    obtain ⟨_, d⟩ := (y p hp).2.2
    rw [← Option.some.inj e, hdL] at d
    cases d
theorem tab_at {L : Addr} {l tt : List (Addr × Obj)} (N : News g₀ L h (l ++ tt)) (htS : ∀ h', (∀ p ∈ tt, h'.get? p.1 = some p.2) → TabS g₀ h') : TabS g₀ h := htS h fun p hp => (N p (List.mem_append_right _ hp)).1
theorem TabS.at23 (S : TabS g₀ h) : ∃ ps, h.get? 23 = some (W.tabObj ps) := by
  rcases S with S | ⟨_, _, _, _, S, _⟩ <;> exact ⟨_, S⟩
theorem fr_up {L : Addr} {m : Str → Option Value} (h23 : g₀.get? 23 = none) (S : TabS g₀ h) (F : Fr g₀ L h m) (u : UpT h h') : Fr g₀ L h' m := by
  refine ⟨?_, fun b o e => u b o (fun q => by rw [q, h23] at e; cases e) (F.keep b o e), F.above⟩
  obtain ⟨oL, es, ep, eL, hdL, r⟩ := F.ns
  refine ⟨oL, es, ep, u _ _ (fun q => ?_) eL, hdL, r⟩
  rw [q] at eL
  rcases S with S | ⟨_, _, _, _, S, _⟩ <;> (rw [S] at eL; rw [← Option.some.inj eL] at hdL; cases hdL)
/-- a frame over the law's base -/
theorem fr_base {L : Addr} {m : Str → Option Value} {h₁ : Heap} (k0 : Keeps g₀ h) (z0 : g₀.objs.size ≤ h.objs.size) (F : Fr h L h₁ m) : Fr g₀ L h₁ m := ⟨F.ns, fun b o e => F.keep b o (k0 b o e), Nat.le_trans z0 F.above⟩
/-- at the end of a call: all that stood stands -/
theorem up_end {L : Addr} {m : Str → Option Value} (k0 : Keeps g₀ h) (F : Fr g₀ L h' m) (N : News g₀ L h' (restOf g₀ h)) : UpT h h' := fun b o n e => by
  cases q : g₀.get? b with
  | none => exact (N _ (mem_rest e q n)).1
  | some o' =>
    have e' := k0 _ _ q
    rw [e] at e'
    cases e'
    exact F.keep _ _ q
theorem seq_ne23 {a : Addr} {o : Obj} (S : TabS g₀ h) (e : h.get? a = some o) {xs : Array Value} {n : Nat} (d : o.data = .seq xs n) : a ≠ 23 := fun q => by
  obtain ⟨ps, e2⟩ := S.at23
  rw [q, e2] at e
  rw [← Option.some.inj e] at d
  cases d
theorem PairsG.mem {vs : List Value} {ps : List (Int × Int)} (x : PairsG g₀ h vs ps) (S : TabS g₀ h) : ∀ i, i < vs.length → ∃ a t u e, vs[i]? = some (.ref a) ∧ (a, (⟨.type "tuple", none, .seq #[.int (ps.getD i (0, 0)).1 t, .int (ps.getD i (0, 0)).2 u] e, #[]⟩ : Obj)) ∈ restOf g₀ h := by
  intro i hi
  obtain ⟨a, t, u, e, h1, h2, h3⟩ := x.get hi
  refine ⟨a, t, u, e, ?_, mem_rest h2 h3 (seq_ne23 S h2 rfl)⟩
  rw [List.getElem?_eq_getElem hi]
  have : vs.getD i .none = vs[i] := by simp [hi]
  rw [← this, h1]
end
end Mine
end
section
open PySem PySem.W PyProof.Rows PySem.W.X
open LCg LCp
namespace Mine
set_option maxRecDepth 100000
set_option maxHeartbeats 1000000
abbrev pairObj (p : Int × Int) (t u : Tok) (e : Nat) : Obj := ⟨.type "tuple", none, .seq #[.int p.1 t, .int p.2 u] e, #[]⟩
/-- the items are pairs of the ledger -/
def PairsIn (vs : List Value) (ps : List (Int × Int)) (l : List (Addr × Obj)) : Prop := vs.length = ps.length ∧ ∀ i, i < vs.length → ∃ a t u e, vs[i]? = some (.ref a) ∧ (a, pairObj (ps.getD i (0, 0)) t u e) ∈ l
theorem PairsIn.mono {vs : List Value} {ps : List (Int × Int)} {l l' : List (Addr × Obj)} (x : PairsIn vs ps l) (s : ∀ p ∈ l, p ∈ l') : PairsIn vs ps l' := ⟨x.1, fun i hi => let ⟨a, t, u, e, h1, h2⟩ := x.2 i hi; ⟨a, t, u, e, h1, s _ h2⟩⟩
theorem PairsIn.snoc {vs : List Value} {ps : List (Int × Int)} {l : List (Addr × Obj)} (x : PairsIn vs ps l) {a : Addr} {p : Int × Int} {t u : Tok} {e : Nat} : PairsIn (vs ++ [.ref a]) (ps ++ [p]) ((a, pairObj p t u e) :: l) := by
  refine ⟨by simp [x.1], fun i hi => ?_⟩
  by_cases c : i < vs.length
  · obtain ⟨a', t', u', e', h1, h2⟩ := x.2 i c
    refine ⟨a', t', u', e', by rw [List.getElem?_append_left c]; exact h1, List.mem_cons_of_mem _ ?_⟩
    rw [List.getD_eq_getElem?_getD, List.getElem?_append_left (by rw [← x.1]; exact c), ← List.getD_eq_getElem?_getD]
    exact h2
  · have e1 : i = vs.length := by simp at hi; omega
    subst e1
    refine ⟨a, t, u, e, by simp, ?_⟩
    rw [List.getD_eq_getElem?_getD, x.1]
    simp
theorem PairsIn.pairsG {g₀ h : Heap} {vs : List Value} {ps : List (Int × Int)} {l : List (Addr × Obj)} {L : Addr} (x : PairsIn vs ps l) (N : News g₀ L h l) : PairsG g₀ h vs ps := by
  obtain ⟨h1, h2⟩ := x
  induction vs generalizing ps with
  | nil =>
    cases ps with
    | nil => exact .nil
    | cons _ _ => simp at h1
  | cons v vs ih =>
    cases ps with
    | nil => simp at h1
    | cons p ps =>
      obtain ⟨a, t, u, e, q1, q2⟩ := h2 0 (by simp)
      have q1' : v = .ref a := by simpa using q1
      refine .cons ⟨a, t, u, e, q1', (N _ q2).1, (N _ q2).2.2⟩ (ih (by simpa using h1) fun i hi => ?_)
      obtain ⟨a', t', u', e', r1, r2⟩ := h2 (i + 1) (by simpa using hi)
      exact ⟨a', t', u', e', by simpa using r1, by simpa using r2⟩
theorem PairsIn.append {vs ws : List Value} {ps qs : List (Int × Int)} {l : List (Addr × Obj)} (x : PairsIn vs ps l) (y : PairsIn ws qs l) : PairsIn (vs ++ ws) (ps ++ qs) l := by
  refine ⟨by simp [x.1, y.1], fun i hi => ?_⟩
  by_cases c : i < vs.length
  · obtain ⟨a', t', u', e', h1, h2⟩ := x.2 i c
    refine ⟨a', t', u', e', by rw [List.getElem?_append_left c]; exact h1, ?_⟩
    rw [List.getD_eq_getElem?_getD, List.getElem?_append_left (by rw [← x.1]; exact c), ← List.getD_eq_getElem?_getD]
    exact h2
  · rw [List.length_append] at hi
    obtain ⟨a', t', u', e', h1, h2⟩ := y.2 (i - vs.length) (by omega)
    refine ⟨a', t', u', e', by rw [List.getElem?_append_right (by omega)]; exact h1, ?_⟩
    rw [List.getD_eq_getElem?_getD, List.getElem?_append_right (by rw [← x.1]; omega), ← x.1, ← List.getD_eq_getElem?_getD]
    exact h2
theorem getElem?_take' {α : Type} (l : List α) (n i : Nat) (hi : i < n) : (l.take n)[i]? = l[i]? := by rw [List.getElem?_take, if_pos hi]
theorem PairsIn.take {vs : List Value} {ps : List (Int × Int)} {l : List (Addr × Obj)} (x : PairsIn vs ps l) (n : Nat) : PairsIn (vs.take n) (ps.take n) l := by
  refine ⟨by simp [x.1], fun i hi => ?_⟩
  rw [List.length_take] at hi
  obtain ⟨a', t', u', e', h1, h2⟩ := x.2 i (by omega)
  refine ⟨a', t', u', e', by rw [getElem?_take' _ _ _ (by omega)]; exact h1, ?_⟩
  rw [List.getD_eq_getElem?_getD, getElem?_take' _ _ _ (by omega), ← List.getD_eq_getElem?_getD]
  exact h2
theorem PairsIn.drop {vs : List Value} {ps : List (Int × Int)} {l : List (Addr × Obj)} (x : PairsIn vs ps l) (n : Nat) : PairsIn (vs.drop n) (ps.drop n) l := by
  refine ⟨by simp [x.1], fun i hi => ?_⟩
  rw [List.length_drop] at hi
  obtain ⟨a', t', u', e', h1, h2⟩ := x.2 (n + i) (by omega)
  refine ⟨a', t', u', e', by rw [List.getElem?_drop]; exact h1, ?_⟩
  rw [List.getD_eq_getElem?_getD, List.getElem?_drop, ← List.getD_eq_getElem?_getD]
  exact h2
section
variable {prog : Program} {w : World} {A : Around} {g₀ : Heap} {L : Addr} {m : Str → Option Value} {env : Env} {elt : PySem.Expr} {x x₂ : Str} {scope : Scope} {cl : List (Str × Addr)}
/-- what an element of a comprehension over pairs makes -/
def Elt (prog : Program) (w : World) (A : Around) (elt : PySem.Expr) (x x₂ : Str) (scope : Scope) (cl : List (Str × Addr)) (env : Env) (news : List (Addr × Obj)) (f : Int × Int → Int × Int) : Prop :=
  ∀ (p : Int × Int) (t u : Tok) (C : Addr) (oC : Obj) (m₂ : Str → Option Value) (s : Shared) (E' : Value → Shared → Prop) (Q' : Value → Shared → Prop), NsObj oC m₂ → s.heap.get? C = some oC → m₂ x = some (.int p.1 t) → m₂ x₂ = some (.int p.2 u) →
    (∀ q ∈ news, s.heap.get? q.1 = some q.2) → (∀ t1 t2 tk', Q' (.ref s.heap.objs.size) { s with heap := s.heap.push (pairObj (f p) t1 t2 0), toks := tk' }) → wpAny (model prog w) A (eval elt (compEnvC scope cl C env)) Q' E' s
theorem comp_rest {f : Int × Int → Int × Int} {ax : Addr} {its : List Value} {qs : List (Int × Int)} {news : List (Addr × Obj)} {s : Shared} (hsrc : SrcAt g₀ ax its.toArray news) (hp : PairsIn its qs news) (hel : Elt prog w A elt x x₂ scope cl env news f)
    {Fin : List Value → List (Addr × Obj) → Prop} (hFin : ∀ ys made, PairsIn ys (qs.map f) made → Fin ys (made ++ news)) :
    CompRestP prog w A g₀ L m env elt x x₂ scope cl s (SrcAt g₀ ax its.toArray) (fun i v => its.toArray[i]? = some v) Fin its.toArray.size 0 [] news := by
  have main : ∀ (k i : Nat) (ys : List Value) (made : List (Addr × Obj)), i + k = its.length → PairsIn ys ((qs.take i).map f) made →
      CompRestP prog w A g₀ L m env elt x x₂ scope cl s (SrcAt g₀ ax its.toArray) (fun i v => its.toArray[i]? = some v) Fin k i ys (made ++ news) := by
    intro k
    induction k with
    | zero =>
      intro i ys made hi hy
      refine CompRestP.zero (hFin ys made ?_)
      have : qs.take i = qs := List.take_of_length_le (by rw [← hp.1]; omega)
      rwa [this] at hy
    | succ k ih =>
      intro i ys made hi hy
      refine CompRestP.succ fun v hv => ?_
      have hil : i < its.length := by omega
      obtain ⟨a, t, u, e, h1, h2⟩ := hp.2 i hil
      have hv' : v = .ref a := by
        have : its[i]? = some v := by simpa using hv
        rw [h1] at this
        exact (Option.some.inj this).symm
      refine ⟨a, _, .int (qs.getD i (0, 0)).1 t, .int (qs.getD i (0, 0)).2 u, e, hv', List.mem_append_right _ h2, rfl, rfl, ?_⟩
      intro I oI C oC D m₂ h tk E' hC hx hx₂ F N off ne
      have hq := fun q (hq : q ∈ news) => (N q (List.mem_cons_of_mem _ (List.mem_cons_of_mem _ (List.mem_cons_of_mem _ (List.mem_append_right _ hq))))).1
      refine hel (qs.getD i (0, 0)) t u C oC m₂ { s with heap := h, toks := tk } E' _ hC (N (C, oC) (List.mem_cons_of_mem _ (.head _))).1 hx hx₂ hq fun t1 t2 tk' => ?_
      have N' : News g₀ L (h.push (pairObj (f (qs.getD i (0, 0))) t1 t2 0)) ((h.objs.size, pairObj (f (qs.getD i (0, 0))) t1 t2 0) :: (I, oI) :: (C, oC) :: (D, lst ys) :: (made ++ news)) := News.push F N _
      refine CompEnd.intro (F.push _) N' ((h.objs.size, pairObj (f (qs.getD i (0, 0))) t1 t2 0) :: made ++ news) (fun p hp => ?_) ?_ ?_ ?_
      · simp only [List.mem_cons, List.cons_append] at hp ⊢
        rcases hp with h | h | h | h | h <;> simp [h]
      · refine Off3.of fun p hp => ?_
        have hI := Heap.lt_size (N (I, oI) (.head _)).1
        have hCl := Heap.lt_size (N (C, oC) (List.mem_cons_of_mem _ (.head _))).1
        have hDl := Heap.lt_size (N (D, lst ys) (List.mem_cons_of_mem _ (List.mem_cons_of_mem _ (.head _)))).1
        rcases List.mem_cons.mp hp with rfl | hp
        · exact ⟨Nat.ne_of_gt hI, Nat.ne_of_gt hCl, Nat.ne_of_gt hDl⟩
        · exact Off3.mem off p hp
      · rcases hsrc with hs | ⟨o, hm, r⟩
        · exact .inl hs
        · exact .inr ⟨o, List.mem_append_right _ hm, r⟩
      · refine ih (i + 1) (ys ++ [.ref h.objs.size]) ((h.objs.size, pairObj (f (qs.getD i (0, 0))) t1 t2 0) :: made) (by omega) ?_
        have e1 : (qs.take (i + 1)).map f = (qs.take i).map f ++ [f (qs.getD i (0, 0))] := by
          rw [List.take_add_one, List.map_append]
          have : i < qs.length := by rw [← hp.1]; exact hil
          rw [List.getD_eq_getElem?_getD, List.getElem?_eq_getElem this]
          rfl
        rw [e1]
        exact hy.snoc
  have := main its.length 0 [] [] (by omega) ⟨by simp, fun i hi => absurd hi (Nat.not_lt_zero _)⟩
  rw [List.size_toArray]
  simpa using this
end
section
variable {prog : Program} {w : World} {A : Around} {scope : Scope} {cl : List (Str × Addr)} {env : Env} {news : List (Addr × Obj)} {x x₂ : Str}
theorem spliced2 {M : Model} {E : Value → Shared → Prop} {s : Shared} {env : Env} {e₁ e₂ : PySem.Expr} {pos : Pos} {k : Nat} {Q : Value → Shared → Prop} (h1 : starEach [e₁, e₂] env = [(false, eval e₁ env), (false, eval e₂ env)])
    (h : wpAny M A (eval e₁ env) (fun v₁ s₁ => wpAny M A (eval e₂ env) (fun v₂ s₂ => wpAny M A (newTuple [v₁, v₂]) Q E s₂) E s₁) E s) : wpAny M A (eval (.Tuple [e₁, e₂] k pos) env) Q E s := by
  show wpAny M A (do standAt pos; newTuple (← spliced (backTo pos (starEach [e₁, e₂] env)))) Q E s
  have e2 : backTo pos (starEach [e₁, e₂] env) = [(false, eval e₁ env), (false, eval e₂ env)] := by rw [h1]; rfl
  rw [e2]
  refine wpAny_bind (wpAny_standAt (wpAny_bind (Calls.spliced_cons (wpAny_mono h (fun v₁ s₁ h₁ => ?_) fun _ _ z => z))))
  refine Calls.spliced_cons (wpAny_mono h₁ (fun v₂ s₂ h₂ => ?_) fun _ _ z => z)
  exact Calls.spliced_nil h₂
/-- (number - 1, other) -/
theorem elt_less {px pc pb p2 pt : Pos} {kc k : Nat} (hk : scope.kind = .function) (hx : scope.names.lookup x = some .local) (hx₂ : scope.names.lookup x₂ = some .local) (hd : (x == ("__debug__" : Str)) = false) (hd₂ : (x₂ == ("__debug__" : Str)) = false) :
    Elt prog w A (.Tuple [.BinOp (.Name x px) .Sub (.Constant (.int 1) kc pc) pb, .Name x₂ p2] k pt) x x₂ scope cl env news (fun p => (p.1 - 1, p.2)) := by
  intro p t u C oC m₂ s E' Q' hC hg h1 h2 _ hQ
  have hn : ∀ tk, ({ s with toks := tk } : Shared).heap.Ns (compEnvC scope cl C env).locals m₂ := fun _ => hC.ns hg
  refine spliced2 rfl ?_
  refine wpAny_BinOp (wpAny_Name (wpAny_loadName_local (by simp [compEnvC, relabel, hk]) (lookup_relabel_local hx) (hn s.toks) h1 ?_) hd)
  refine wpAny_Constant_int (sub_int ?_)
  refine wpAny_Name (wpAny_loadName_local (by simp [compEnvC, relabel, hk]) (lookup_relabel_local hx₂) (hn _) h2 ?_) hd₂
  exact wpAny_newTuple (hQ _ _ _)
/-- (mine, other), mine in a cell -/
theorem elt_mine {y : Str} {c : Addr} {oc : Obj} {mi : Int} {tm : Tok} {px p2 pt : Pos} {k : Nat} (hk : scope.kind = .function) (hx₂ : scope.names.lookup x₂ = some .local) (hd : (y == ("__debug__" : Str)) = false) (hd₂ : (x₂ == ("__debug__" : Str)) = false) (hn : (y == ("__classdict__" : Str)) = false)
    (hy : ∀ C, (compEnvC scope cl C env).kindOf y = some .cell ∨ (compEnvC scope cl C env).kindOf y = some .free) (hc : cl.lookup y = some c) (hm : (c, oc) ∈ news) (ho : oc.data = .cell (some (.int mi tm))) :
    Elt prog w A (.Tuple [.Name y px, .Name x₂ p2] k pt) x x₂ scope cl env news (fun p => (mi, p.2)) := by
  intro p t u C oC m₂ s E' Q' hC hg h1 h2 hq hQ
  have hns : ∀ tk, ({ s with toks := tk } : Shared).heap.Ns (compEnvC scope cl C env).locals m₂ := fun _ => hC.ns hg
  refine spliced2 rfl ?_
  have tail : wpAny (model prog w) A (eval (.Name x₂ p2) (compEnvC scope cl C env)) (fun v₂ s₂ => wpAny (model prog w) A (newTuple [.int mi tm, v₂]) Q' E' s₂) E' s := by
    refine wpAny_Name (wpAny_loadName_local (by simp [compEnvC, relabel, hk]) (lookup_relabel_local hx₂) (hns s.toks) h2 ?_) hd₂
    exact wpAny_newTuple (hQ _ _ _)
  rcases hy C with h | h
  · exact wpAny_Name (wpAny_loadName_cell (by simp [compEnvC, relabel, hk]) h hc ⟨oc, hq _ hm, ho⟩ tail) hd
  · exact wpAny_Name (wpAny_loadName_free (by simp [compEnvC, relabel, hk]) h hc ⟨oc, hq _ hm, ho⟩ tail hn) hd
end
end Mine
end
section
open PySem PySem.W PyProof.Rows PySem.W.X
namespace Mine
set_option maxRecDepth 100000
set_option maxHeartbeats 4000000
theorem round_ho' (P : Params) : (myK P).lookup 49 = some (objAt 49 P) := by kernel_rfl
theorem round_data' (P : Params) : (objAt 49 P).data = .func (Calls.docDef (Str.ofString "_law_round") (sParams (tDef 7)) (sBody (tDef 7)) (sScope (tDef 7)) (fnPm (objAt 49 P)) (.ref 48) (fnDoc (objAt 49 P))) := by kernel_rfl
theorem round_none {w : World} {g : Array GenState} {d : Drawn} {os : OsState} {E : Value → Shared → Prop} {h : Heap} {tk0 : Nat} (V : Env0 w h)
    {pick : Int} {tp : Tok} {Q : Value → Shared → Prop} (hQ : ∀ h' tk, Keeps h h' → Q .none ⟨h', g, d, tk, os⟩) :
    wpAny (model PW w) (capA 370 900) (PySem.call (.ref 49) [.none, .int pick tp]) Q E ⟨h, g, d, tk0, os⟩ := by
  w_top off
  suffices hh : (PySem.Challenge.rw_dw5009_01 = PySem.Challenge.rw_dw5009_01 ∧ myK = myK) → wpAny (model PW w) (capA 370 900) (PySem.call (.ref 49) [.none, .int pick tp]) Q E ⟨h, g, d, tk0, os⟩ from hh ⟨rfl, rfl⟩
  k_fill
  intro _
  have KX := V.X
  have hcd : h.CodeRec (.ref 48) (Str.ofString "_law_round") := codeRec_of V.X (by kernel_rfl)
  refine wpAny_call (call_cellsN_ret (binds := [(Str.ofString "state", .none), (Str.ofString "pick", .int pick tp)]) (by decide) (KX _ _ (round_ho' _)) (round_data' _) V.nolimit hcd (by kernel_rfl) ?_ ?_ (fun h₁ tk cells F N CA => ?_) (by kernel_rfl) (by kernel_rfl) (by kernel_rfl))
  · intro x hx
    rcases List.mem_cons.mp hx with rfl | hx
    · exact .inl (by kernel_rfl)
    · rcases List.mem_cons.mp hx with rfl | hx
      · exact .inl (by kernel_rfl)
      · cases hx
  · rw [show List.map (fun x => x.fst) (cellsFrom 0 (sScope (tDef 7)).names []) = [Str.ofString "mine"] by kernel_rfl]
    exact List.nodup_cons.mpr ⟨List.not_mem_nil, List.nodup_nil⟩
  dsimp only at F N CA ⊢
  rw [show cellsFrom (h.objs.size + 1) (sScope (tDef 7)).names [] = [(Str.ofString "mine", h.objs.size + 1)] by kernel_rfl] at CA
  obtain ⟨oc, rfl, hcd'⟩ := CA.one
  obtain ⟨p, loose, mean, mg, mb, T⟩ := V.T
  clear N CA
  have TR := topRead_of T
  have N : News h h.objs.size h₁ [] := News.nil
  k_steps
  dsimp only
  exact hQ _ _ F.keep
end Mine
end
section
open PySem PySem.W PyProof.Rows PySem.W.X
namespace Mine
set_option maxRecDepth 100000
set_option maxHeartbeats 4000000
local macro_rules | `(tactic| k_is) => `(tactic| first | exact G_cmp _ | exact G_fuller _ | exact G_le _ | exact G_reduce _ | exact G_round _ | exact G_fits _ | exact G_holds _ | exact G_missing _ | exact G_sorted _ | exact G_len _ | exact G_sum _ | exact G_range _ | exact G_min _ | exact G_max _ | exact G_iter _ | exact G_next _)
theorem my_len {prog : Program} {w : World} {A : Around} {E : Value → Shared → Prop} {s : Shared} {l : Addr} {vs : List Value} {Q : Value → Shared → Prop} (hl : s.heap.IsList l vs.toArray) (hs : vs.length < 64) (h : Q (.int (vs.length : Int) (s.toks + 1)) { s with toks := s.toks + 1 + 1 }) :
    wpAny (model prog w) A (call (.builtin "len") [.ref l]) Q E s := by
  refine len_list hl (by rw [List.size_toArray]; omega) ?_
  rw [List.size_toArray]
  exact h
local macro_rules | `(tactic| walk_at "call builtin:len") => `(tactic| (k_here; (with_reducible show wpAny _ _ (call (Value.builtin "len") [Value.ref _]) _ _ _); k_dflt (refine' my_len ?k1 ?k2 ?_; (case k1 => exact News.isList (by k_asm) (by k_mem)); (case k2 => (first | assumption | omega)); k_whole)))
theorem round_ho (P : Params) : (myK P).lookup 49 = some (objAt 49 P) := by kernel_rfl
theorem round_data (P : Params) : (objAt 49 P).data = .func (Calls.docDef (Str.ofString "_law_round") (sParams (tDef 7)) (sBody (tDef 7)) (sScope (tDef 7)) (fnPm (objAt 49 P)) (.ref 48) (fnDoc (objAt 49 P))) := by kernel_rfl
abbrev rEnv (L : Addr) : Env := envOfC (Str.ofString "_law_round") (sScope (tDef 7)) L 49 (.ref 48)
theorem my_item {prog : Program} {w : World} {A : Around} {E : Value → Shared → Prop} {s : Shared} {value slice : Expr} {a : Addr} {l : List Value} {k : Int} {u : Tok} {x : Value} {Q : Value → Shared → Prop} (hl : s.heap.IsList a l.toArray)
    (h0 : 0 ≤ k) (hfit : k < 2 ^ 63) (hx : l[k.toNat]? = some x) (h : Q x s)
    (hs : subscripted slice false (.ref a) (.int k u) = operate [.ref a, .int k u] (getItem (.ref a) (.int k u)) := by with_unfolding_all rfl) (hg : ∀ r, letTemporaryGo value (.ref a) r = pure () := by intro _; with_unfolding_all rfl) :
    wpAny (model prog w) A (subscriptTail value slice (.ref a) (.int k u)) Q E s := item_listL hl h0 hfit hx h hs hg
local macro_rules | `(tactic| walk_at "subscriptTail") => `(tactic| (k_here; (with_reducible show wpAny _ _ (subscriptTail _ _ (Value.ref _) (Value.int _ _)) _ _ _); k_dflt (refine' my_item ?k1 ?k2 ?k3 ?k4 ?_; (case k1 => exact News.isList (by k_asm) (by k_mem)); (case k4 => with_reducible assumption); (case k2 => omega); (case k3 => omega); k_whole)))
theorem news_dup {g₀ h : Heap} {L : Addr} {l : List (Addr × Obj)} {p : Addr × Obj} (N : News g₀ L h l) (m : p ∈ l) : News g₀ L h (p :: l) := fun q hq => by
  rcases List.mem_cons.mp hq with rfl | hq
  · exact N _ m
  · exact N _ hq
theorem round_some {w : World} {g : Array GenState} {d : Drawn} {os : OsState} {E : Value → Shared → Prop} {g₀ h : Heap} {tk0 : Nat} (V : Env0 w g₀) (h23 : g₀.get? 23 = none) (k0 : Keeps g₀ h) (S : TabS g₀ h)
    {v : Value} {row ties : List (Int × Int)} (St : StG g₀ h v row ties) {pick : Int} {tp : Tok} (z0 : g₀.objs.size ≤ h.objs.size) (hr : 0 < row.length) (hr' : row.length < 64) (hpos : ∀ p ∈ row, 0 ≤ p.1) (hties : ties.length ≤ 1000)
    {Q : Value → Shared → Prop} (hQ : ∀ (L : List (Int × Int)) h' tk r, L.Perm row → L.Pairwise (fun x y => y.1 ≤ x.1) → UpT h h' → TabS g₀ h' → (match stepL L ties pick with | none => r = .none | some st => StG g₀ h' r st.1 st.2) → Q r ⟨h', g, d, tk, os⟩) :
    wpAny (model PW w) (capA 370 900) (PySem.call (.ref 49) [v, .int pick tp]) Q E ⟨h, g, d, tk0, os⟩ := by
  w_top off
  suffices hh : (PySem.Challenge.rw_dw5009_01 = PySem.Challenge.rw_dw5009_01 ∧ myK = myK) → wpAny (model PW w) (capA 370 900) (PySem.call (.ref 49) [v, .int pick tp]) Q E ⟨h, g, d, tk0, os⟩ from hh ⟨rfl, rfl⟩
  k_fill
  intro _
  have KX := V.X
  have hcd : h.CodeRec (.ref 48) (Str.ofString "_law_round") := codeRec_of (V.X.keeps k0) (by kernel_rfl)
  refine wpAny_call (call_cellsN_ret (binds := [(Str.ofString "state", v), (Str.ofString "pick", .int pick tp)]) (by decide) (k0 _ _ (KX _ _ (round_ho _))) (round_data _) (V.keeps k0).nolimit hcd (by kernel_rfl) ?_ ?_ (fun h₁ tk cells F N CA => ?_) (by kernel_rfl) (by kernel_rfl) (by kernel_rfl))
  · intro x hx
    rcases List.mem_cons.mp hx with rfl | hx
    · exact .inl (by kernel_rfl)
    · rcases List.mem_cons.mp hx with rfl | hx
      · exact .inl (by kernel_rfl)
      · cases hx
  · rw [show List.map (fun x => x.fst) (cellsFrom 0 (sScope (tDef 7)).names []) = [Str.ofString "mine"] by kernel_rfl]
    exact List.nodup_cons.mpr ⟨List.not_mem_nil, List.nodup_nil⟩
  dsimp only at F N CA ⊢
  rw [show cellsFrom (h.objs.size + 1) (sScope (tDef 7)).names [] = [(Str.ofString "mine", h.objs.size + 1)] by kernel_rfl] at CA
  obtain ⟨oc, rfl, hcd'⟩ := CA.one
  obtain ⟨p, loose, mean, mg, mb, T⟩ := V.T
  obtain ⟨a, e, ra, ta, rvs, tvs, rfl, hst, zst, ⟨n1, hra, zra⟩, ⟨n2, hta, zta⟩, hp1, hp2⟩ := St
  have F0 := fr_base k0 z0 F
  have S1 := S.keeps F.keep
  have hzc : g₀.get? (h.objs.size + 1) = none := Heap.get?_none_of_le (Nat.le_trans z0 (Nat.le_succ _))
  have hs23 : 23 < h.objs.size := let ⟨_, e⟩ := S.at23; Heap.lt_size e
  have hmo := hp1.mem S
  have Nr : News g₀ h.objs.size h₁ (restOf g₀ h) := news_rest F.keep (Nat.le_refl _)
  have m1 := mem_rest hst zst (seq_ne23 S hst rfl)
  have m2 := mem_rest hra zra (seq_ne23 S hra rfl)
  have m3 := mem_rest hta zta (seq_ne23 S hta rfl)
  generalize hrest : restOf g₀ h = rest at *
  have nrest : No23 rest := hrest ▸ No23.rest
  have N0 : News g₀ h.objs.size h₁ ((h.objs.size + 1, oc) :: (a, ⟨.type "tuple", none, .seq #[.ref ra, .ref ta] e, #[]⟩) :: (ra, ⟨.type "list", none, .seq rvs.toArray n1, #[]⟩) :: (ta, ⟨.type "list", none, .seq tvs.toArray n2, #[]⟩) :: rest) :=
    news_cons (news_cons (news_cons (news_cons Nr (Nr _ m3).1 zta (Nr _ m3).2.1) (Nr _ m2).1 zra (Nr _ m2).2.1) (Nr _ m1).1 zst (Nr _ m1).2.1) (N _ (.head _)).1 hzc (Nat.succ_ne_self _)
  have n0 : No23 ((h.objs.size + 1, oc) :: (a, ⟨.type "tuple", none, .seq #[.ref ra, .ref ta] e, #[]⟩) :: (ra, ⟨.type "list", none, .seq rvs.toArray n1, #[]⟩) :: (ta, ⟨.type "list", none, .seq tvs.toArray n2, #[]⟩) :: rest) :=
    (((nrest.cons (nrest _ m3)).cons (nrest _ m2)).cons (nrest _ m1)).cons (Nat.ne_of_gt (Nat.lt_succ_of_lt hs23))
  have q1 : PairsG g₀ h₁ rvs row := hp1.sq (Keeps.sq (h := h) F.keep)
  have K1 : Keeps h h₁ := F.keep
  have hdL : ∀ p ∈ rest, p.1 ≠ h.objs.size + 1 := fun p hp => Nat.ne_of_lt (Nat.lt_succ_of_lt (Heap.lt_size (of_rest (hrest.symm ▸ hp)).1))
  have hc1 : a ≠ h.objs.size + 1 := hdL _ m1
  have hc2 : ra ≠ h.objs.size + 1 := hdL _ m2
  have hc3 : ta ≠ h.objs.size + 1 := hdL _ m3
  clear F N Nr hst hra hta hp1
  have TR := topRead_of T
  obtain ⟨SC, eS⟩ : ∃ SC, sScope (tDef 7) = SC := ⟨_, rfl⟩
  obtain ⟨BD, eB⟩ : ∃ BD, sBody (tDef 7) = BD := ⟨_, rfl⟩
  have eS' := eS
  have eB' := eB
  simp only [sScope, tDef, PW, PySem.Challenge.pw_dw5009_01, List.getElem?_cons_succ, List.getElem?_cons_zero, Option.getD_some] at eS'
  simp only [sBody, tDef, PW, PySem.Challenge.pw_dw5009_01, List.getElem?_cons_succ, List.getElem?_cons_zero, Option.getD_some] at eB'
  rw [eS] at F0 CA hcd' ⊢
  rw [eB]
  clear eS eB
  subst eS'
  subst eB'
  iterate 23 (first | walk1 | (dsimp only; walk1))
  rotate_left
  all_goals try exact ⟨_, _, _, _, F0.keep _ _ (KX _ _ (cmp_ho _))⟩
  refine callWith_F ⟨_, _, _, _, F0.keep _ _ (KX _ _ (cmp_ho _))⟩ ?_
  iterate 4 (first | walk1 | (dsimp only; walk1))
  · exact ⟨_, _, _, _, F0.keep _ _ (KX _ _ (cmp_ho _))⟩
  refine wpAny_cap 380 928 (cmp_call V h23 (k0.trans' K1) S1 fun t k h₂ tk₂ u₂ S₂ H₂ => ?_)
  have F2 := fr_up h23 S1 F0 u₂
  have N2 := news_up N0 n0 u₂
  have r1 := q1.sq (UpT.sq u₂ S1)
  clear N0 F0
  iterate 1 (first | walk1 | (dsimp only; walk1))
  refine wpAny_cap 380 930 (sorted_K (V.keeps F2.keep) H₂ ⟨_, (N2 _ (List.mem_of_getElem? (i := 2) rfl)).1, rfl, _, rfl⟩ r1.pairs (by rw [r1.length]; exact hr') fun D h₃ tk₃ vs' ps' k₃ hD zD hP' pk perm srt => ?_)
  obtain ⟨c₃, hD⟩ := hD
  have F3 := F2.keeps k₃
  have zD0 : g₀.get? D = none := by
    cases q : g₀.get? D with
    | none => rfl
    | some o => rw [F2.keep _ _ q] at zD; cases zD
  have hDL : D ≠ h.objs.size := fun q => by
    obtain ⟨_, _, _, eL, _⟩ := F2.ns
    try dsimp only at eL
    rw [q, eL] at zD
    cases zD
  have hD23 : D ≠ 23 := fun q => by
    obtain ⟨_, e⟩ := S₂.at23
    rw [q, e] at zD
    cases zD
  have hDc : D ≠ h.objs.size + 1 := fun q => by
    rw [q, (N2 _ (.head _)).1] at zD
    cases zD
  have S3 := S₂.keeps k₃
  obtain ⟨tt, htt, htS⟩ := S3.seg h23
  have N3 := news_tab F3 (news_cons (news_keeps N2 k₃) hD zD0 hDL) htt
  have n3 := n0.cons hD23 (o := seqObj "list" vs'.toArray c₃)
  have htc : ∀ p ∈ tt, p.1 ≠ h.objs.size + 1 := fun p hp q => by
    have e := (htt p hp).1
    rw [q, (N3 (h.objs.size + 1, oc) (List.mem_append_left _ (List.mem_cons_of_mem _ (.head _)))).1] at e
    obtain ⟨_, dd⟩ := (htt p hp).2.2
    rw [← Option.some.inj e, hcd'] at dd
    cases dd
  simp only [List.cons_append, seqObj] at N3
  have hl1 : ps'.length = row.length := perm.length_eq
  have hget : ∀ i, i < vs'.length → ∃ a t u e, vs'[i]? = some (.ref a) ∧ (a, (⟨.type "tuple", none, .seq #[.int (ps'.getD i (0, 0)).1 t, .int (ps'.getD i (0, 0)).2 u] e, #[]⟩ : Obj)) ∈ rest := by
    obtain ⟨σ, hσ, e1, e2⟩ := pk
    subst e1
    subst e2
    intro i hi
    rw [List.length_map] at hi
    obtain ⟨a', t', u', e', g1, g2⟩ := hmo _ (hσ _ (List.getElem_mem hi))
    refine ⟨a', t', u', e', ?_, ?_⟩
    · rw [List.getElem?_map, List.getElem?_eq_getElem hi]
      show some (rvs.getD _ .none) = _
      rw [List.getD_eq_getElem?_getD, g1]
      rfl
    · have e3 : (σ.map fun i => row.getD i (0, 0)).getD i (0, 0) = row.getD (σ[i]) (0, 0) := by simp [hi]
      rw [e3]
      exact g2
  have hl2 : vs'.length = ps'.length := hP'.length
  have hlp : (0 : Int) < (vs'.length : Int) := by omega
  have hl64 : vs'.length < 64 := by omega
  clear F2 N2 H₂ hmo pk hP' r1 q1 u₂ k₃ hD zD htt
  iterate 21 (first | walk1 | (dsimp only; walk1))
  rename_i hA tkB h₅ F5 N5
  have hf0 := Int.fmod_nonneg_of_pos (a := pick) hlp
  have hf1 := Int.fmod_lt_of_pos pick hlp
  obtain ⟨P, hP⟩ : ∃ P : Nat, pick.fmod (vs'.length : Int) = (P : Int) := ⟨(pick.fmod (vs'.length : Int)).toNat, by omega⟩
  rw [hP] at hf0 hf1 F5 ⊢
  have hPl : P < vs'.length := by omega
  obtain ⟨ap, tn, tm, ep, hap, map⟩ := hget P hPl
  have N6 := news_dup N5 (p := (ap, _)) (List.mem_cons_of_mem _ (List.mem_cons_of_mem _ (List.mem_cons_of_mem _ (List.mem_cons_of_mem _ (List.mem_cons_of_mem _ (List.mem_append_left _ map))))))
  clear N5
  refine item_listL (News.isList N6 (by k_mem)) hf0 (by omega) (by simpa using hap) ?_
  iterate 6 (first | walk1 | (dsimp only; walk1))
  rename_i h₆ h₇ F7 N7
  refine stCN (own := [(ap, _), (D, _)]) F7 N7 rfl hcd' (fun p hp => ?_) (fun p hp => ?_) (fun h₈ oc' F8 N8 hoc' => ?_)
  · rcases List.mem_cons.mp hp with rfl | hp
    · exact hdL _ map
    · rw [List.mem_singleton.mp hp]; exact hDc
  · rcases List.mem_cons.mp hp with rfl | hp
    · exact hc1
    · rcases List.mem_cons.mp hp with rfl | hp
      · exact hc2
      · rcases List.mem_cons.mp hp with rfl | hp
        · exact hc3
        · rcases List.mem_append.mp hp with hp | hp
          · exact hdL _ hp
          · exact htc _ hp
  clear F7 N7 hcd' CA
  simp only [List.cons_append, List.nil_append] at N8
  iterate 23 (first | walk1 | (dsimp only; walk1))
  rename_i h₉ F9 N9 h₁₀ F10 N10
  clear F9 N9 F8 N8
  have e1 : slicePick vs'.toArray none (some (P : Int)) none = (vs'.take P).toArray := slicePick_upto' _ _
  have e2 : slicePick vs'.toArray (some ((P : Int) + 1)) none none = (vs'.drop (P + 1)).toArray := by
    have := slicePick_from' vs'.toArray (P + 1)
    rw [Int.natCast_add] at this
    exact this
  rw [e1, e2] at N10
  refine add_lists F10 N10 (N10.isList (List.mem_cons_of_mem _ (.head _))) (N10.isList (.head _)) (fun h₁₁ F11 N11 => ?_) (by rw [sizeLine_eq, List.length_take, List.length_drop]; omega)
  obtain ⟨rl, hrl⟩ : ∃ rl, vs'.take P ++ vs'.drop (P + 1) = rl := ⟨_, rfl⟩
  obtain ⟨rp, hrp⟩ : ∃ rp, ps'.take P ++ ps'.drop (P + 1) = rp := ⟨_, rfl⟩
  obtain ⟨nd, hnd⟩ : ∃ nd, (ps'.getD P (0, 0)).1 = nd := ⟨_, rfl⟩
  obtain ⟨mi, hmi⟩ : ∃ mi, (ps'.getD P (0, 0)).2 = mi := ⟨_, rfl⟩
  rw [hrl] at N11
  rw [hnd] at F11
  rw [hmi] at hoc'
  have N12 : News g₀ h.objs.size h₁₁ ((h₁₀.objs.size, { cls := .type "list", data := .seq rl.toArray }) :: (h.objs.size + 1, oc') :: (a, ⟨.type "tuple", none, .seq #[.ref ra, .ref ta] e, #[]⟩) :: (ta, ⟨.type "list", none, .seq tvs.toArray n2, #[]⟩) :: (rest ++ tt)) := fun p hp => N11 p (by
    simp only [List.mem_cons] at hp ⊢
    rcases hp with h | h | h | h | h <;> simp [h])
  have hR23 : (h₁₀.objs.size : Addr) ≠ h.objs.size + 1 := fun q => by
    have e1 := (N12 _ (.head _)).1
    have e2 := (N12 _ (List.mem_cons_of_mem _ (.head _))).1
    dsimp only at e1 e2
    rw [q, e2] at e1
    rw [Option.some.inj e1] at hoc'
    cases hoc'
  have hgR : ∀ i, i < rl.length → ∃ a t u e, rl[i]? = some (.ref a) ∧ (a, (⟨.type "tuple", none, .seq #[.int (rp.getD i (0, 0)).1 t, .int (rp.getD i (0, 0)).2 u] e, #[]⟩ : Obj)) ∈ rest := by
    intro i hi
    rw [← hrl, List.length_append, List.length_take, List.length_drop] at hi
    have g1 := erase_get hPl i
    have g2 := erase_get (l := ps') (P := P) (by omega) i
    rw [hrl] at g1
    rw [hrp] at g2
    rw [List.getD_eq_getElem?_getD, g1, g2]
    by_cases c : i < P
    · rw [if_pos c, if_pos c]
      obtain ⟨a', t', u', e', q1, q2⟩ := hget i (by omega)
      rw [List.getD_eq_getElem?_getD] at q2
      exact ⟨a', t', u', e', q1, q2⟩
    · rw [if_neg c, if_neg c]
      obtain ⟨a', t', u', e', q1, q2⟩ := hget (i + 1) (by omega)
      rw [List.getD_eq_getElem?_getD] at q2
      exact ⟨a', t', u', e', q1, q2⟩
  generalize (h₁₀.objs.size : Addr) = R at *
  have hrll : rl.length = rp.length := by rw [← hrl, ← hrp]; simp [hl2]
  have hr64 : rl.length < 64 := by rw [← hrl]; simp; omega
  clear N11 N10 F10 n3 hDL hD23 hDc hget hap map
  iterate 3 (first | walk1 | (dsimp only; walk1))
  rename_i h₁₂ F12 N12
  have hnn : 0 ≤ nd := by
    rw [← hnd]
    refine hpos _ (perm.subset ?_)
    have : P < ps'.length := by omega
    rw [List.getD_eq_getElem?_getD, List.getElem?_eq_getElem this]
    exact List.getElem_mem this
  clear hf1 hf0 e1 e2
  refine wpAny_mono (Q := fun b s' => (∃ tk, s' = ⟨h₁₂, g, d, tk, os⟩) ∧ b = decide ((rl.length : Int) < nd ∨ (0 < nd ∧ (rp.getD (nd - 1).toNat (0, 0)).1 = 0))) ?cond (fun b s' hb => ?_) (fun _ _ x => x)
  case cond =>
    by_cases c1 : (rl.length : Int) < nd
    · rw [decide_eq_true (p := _ ∨ _) (.inl c1)]
      iterate 15 (first | walk1 | (dsimp only; walk1))
      all_goals trivial
    · by_cases c2 : 0 < nd
      · have hi : (nd - 1).toNat < rl.length := by omega
        obtain ⟨ax, tx, ux, ex, hx1, hx2⟩ := hgR _ hi
        have N13 := news_dup N12 (p := (ax, _)) (List.mem_cons_of_mem _ (List.mem_cons_of_mem _ (List.mem_cons_of_mem _ (List.mem_cons_of_mem _ (List.mem_append_left _ hx2)))))
        clear N12
        obtain ⟨x1, hx1'⟩ : ∃ x1, (rp.getD (nd - 1).toNat (0, 0)).1 = x1 := ⟨_, rfl⟩
        rw [hx1'] at N13 ⊢
        by_cases c3 : x1 = 0
        · rw [decide_eq_true (p := _ ∨ _) (.inr ⟨c2, c3⟩)]
          iterate 47 (first | walk1 | (dsimp only; walk1))
        · rw [decide_eq_false (p := _ ∨ _) (fun q => q.elim c1 fun q => c3 q.2)]
          iterate 47 (first | walk1 | (dsimp only; walk1))
      · rw [decide_eq_false (p := _ ∨ _) (fun q => q.elim c1 fun q => c2 q.1)]
        iterate 26 (first | walk1 | (dsimp only; walk1))
  obtain ⟨⟨tk12, rfl⟩, rfl⟩ := hb
  have Nend : ∀ {h' : Heap} {l : List (Addr × Obj)}, News g₀ h.objs.size h' (l ++ (rest ++ tt)) → News g₀ h.objs.size h' (restOf g₀ h) ∧ TabS g₀ h' := fun {h' l} N =>
    ⟨fun p hp => N p (List.mem_append_right _ (List.mem_append_left _ (hrest ▸ hp))), htS h' fun p hp => (N p (List.mem_append_right _ (List.mem_append_right _ hp))).1⟩
  have hstep : stepL ps' ties pick = if (rp.length : Int) < nd ∨ (0 < nd ∧ (rp.getD (nd - 1).toNat (0, 0)).1 = 0) then none else some ((rp.take nd.toNat).map (fun p => (p.1 - 1, p.2)) ++ rp.drop nd.toNat, ties ++ (rp.take nd.toNat).map (fun p => (mi, p.2))) := by
    have hPP : (pick.fmod (ps'.length : Int)).toNat = P := by rw [← hl2, hP]; simp
    unfold stepL
    simp only [hPP, hnd, hmi, hrp]
  by_cases c : (rl.length : Int) < nd ∨ (0 < nd ∧ (rp.getD (nd - 1).toNat (0, 0)).1 = 0)
  · rw [decide_eq_true c]
    k_steps
    obtain ⟨n1', n2'⟩ := Nend (l := [_, _, _, _]) N12
    refine hQ ps' h₁₂ _ .none perm srt (up_end k0 F12 n1') n2' ?_
    rw [hstep, if_pos (by rw [← hrll]; exact c)]
  · rw [decide_eq_false c]
    iterate 5 (first | walk1 | (dsimp only; walk1))
    refine LCp.ListComp_P (F₀ := F12) (by with_unfolding_all rfl) (by decide) (by rfl) (by decide) (by rfl) (by rfl) (by decide) ?_
    iterate 8 (first | walk1 | (dsimp only; walk1))
    rename_i h₁₃ F13 N13
    obtain ⟨ndn, hndn⟩ : ∃ n : Nat, nd = (n : Int) := ⟨nd.toNat, by omega⟩
    have hnt : nd.toNat = ndn := by omega
    have e13 : slicePick rl.toArray none (some nd) none = (rl.take ndn).toArray := by rw [hndn]; exact slicePick_upto' _ _
    have e14 : slicePick rl.toArray (some nd) none none = (rl.drop ndn).toArray := by rw [hndn]; exact slicePick_from' _ _
    rw [e13] at N13
    have hpr : PairsIn rl rp rest := ⟨hrll, hgR⟩
    clear N12 F12
    refine LCp.SrcLP.ledger rfl F13 N13 (.head _) (by rw [List.size_toArray, List.length_take, sizeLine_eq]; omega) (fun g' => comp_rest (f := fun p => (p.1 - 1, p.2)) (qs := rp.take ndn) (its := rl.take ndn) (.inr ⟨_, .head _, rfl, _, rfl⟩)
      ((hpr.take ndn).mono fun p hp => List.mem_cons_of_mem _ (List.mem_cons_of_mem _ (List.mem_cons_of_mem _ (List.mem_cons_of_mem _ (List.mem_cons_of_mem _ (List.mem_append_left _ hp))))))
      (elt_less rfl rfl rfl (by decide) (by decide)) (fun ys made hy => ?_))
    intro D1 h₁₄ tk14 F14 N14 _
    have N15 : News g₀ h.objs.size h₁₄ ((D1, ⟨.type "list", none, .seq ys.toArray ys.length, #[]⟩) :: (R, ⟨.type "list", none, .seq rl.toArray 0, #[]⟩) :: (h.objs.size + 1, oc') :: (a, ⟨.type "tuple", none, .seq #[.ref ra, .ref ta] e, #[]⟩) :: (ta, ⟨.type "list", none, .seq tvs.toArray n2, #[]⟩) :: (made ++ (rest ++ tt))) := fun p hp => N14 p (by
      simp only [List.mem_cons, List.mem_append] at hp ⊢
      rcases hp with h | h | h | h | h | h | h | h <;> simp [h])
    clear N13 F13 N14
    iterate 8 (first | walk1 | (dsimp only; walk1))
    rename_i h₁₆ F16 N16
    rw [e14] at N16
    clear N15 F14
    have hyl : ys.length ≤ 64 := by rw [hy.1]; simp; omega
    refine add_lists F16 N16 (N16.isList (List.mem_cons_of_mem _ (.head _))) (N16.isList (.head _)) (fun h₁₇ F17 N17 => ?_) (by rw [sizeLine_eq, List.length_drop]; omega)
    generalize (h₁₆.objs.size : Addr) = D2 at N17
    clear F16 N16
    have N18 : News g₀ h.objs.size h₁₇ ((D2, ⟨.type "list", none, .seq (ys ++ rl.drop ndn).toArray 0, #[]⟩) :: (R, ⟨.type "list", none, .seq rl.toArray 0, #[]⟩) :: (h.objs.size + 1, oc') :: (a, ⟨.type "tuple", none, .seq #[.ref ra, .ref ta] e, #[]⟩) :: (ta, ⟨.type "list", none, .seq tvs.toArray n2, #[]⟩) :: (made ++ (rest ++ tt))) := fun p hp => N17 p (by
      simp only [List.mem_cons] at hp ⊢
      rcases hp with h | h | h | h | h | h <;> simp [h])
    clear N17
    iterate 12 (first | walk1 | (dsimp only; walk1))
    rename_i h₁₉ F19 N19
    refine LCp.ListComp_P (F₀ := F19) (cl := [(Str.ofString "mine", h.objs.size + 1)]) (by with_unfolding_all rfl) (by decide) (by rfl) (by decide) (by rfl) (by rfl) (by decide) ?_
    iterate 8 (first | walk1 | (dsimp only; walk1))
    rename_i h₂₁ F21 N21
    rw [e13] at N21
    clear F19 N19
    refine LCp.SrcLP.ledger rfl F21 N21 (.head _) (by rw [List.size_toArray, List.length_take, sizeLine_eq]; omega) (fun g' => comp_rest (f := fun p => (mi, p.2)) (qs := rp.take ndn) (its := rl.take ndn) (.inr ⟨_, .head _, rfl, _, rfl⟩)
      ((hpr.take ndn).mono fun p hp => ?_)
      (elt_mine (tm := tm) (oc := oc') (c := h.objs.size + 1) rfl rfl (by decide) (by decide) (by decide) (fun C => (by first | exact .inl rfl | exact .inr rfl)) rfl (by simp) hoc') (fun ys2 made2 hy2 => ?_))
    · simp [hp]
    intro D3 h₂₂ tk22 F22 N22 _
    have hyl2 : ys2.length ≤ 64 := by rw [hy2.1]; simp; omega
    have htl := hp2.length
    have hp2in : PairsIn tvs ties rest := ⟨htl, fun i hi => hrest ▸ hp2.mem S i hi⟩
    refine add_lists F22 N22 (vs := tvs) (ws := ys2) (N22.isList (items := tvs.toArray) (n := n2) (d := none) (sl := #[]) (by simp)) (N22.isList (.head _)) (fun h₂₃ F23 N23 => ?_) (by rw [sizeLine_eq]; omega)
    generalize (h₂₂.objs.size : Addr) = D4 at N23 ⊢
    k_steps
    rename_i Dt h₂₄ F24 N24 _
    have NR : News g₀ h.objs.size h₂₄ (restOf g₀ h) := fun p hp => N24 p (by simp [hrest ▸ hp])
    have NT : TabS g₀ h₂₄ := htS h₂₄ fun p hp => (N24 p (by simp [hp])).1
    refine hQ ps' h₂₄ _ _ perm srt (up_end k0 F24 NR) NT ?_
    rw [hstep, if_neg (by rw [← hrll]; exact c)]
    dsimp only
    rw [hnt]
    have N1 : News g₀ h.objs.size h₂₄ (made ++ rest) := fun p hp => N24 p (by
      rcases List.mem_append.mp hp with h | h <;> simp [h])
    have N2 : News g₀ h.objs.size h₂₄ (made2 ++ rest) := fun p hp => N24 p (by
      rcases List.mem_append.mp hp with h | h <;> simp [h])
    have gD2 := N24 (D2, ⟨.type "list", none, .seq (ys ++ rl.drop ndn).toArray 0, #[]⟩) (by simp)
    have gD4 := N24 (D4, ⟨.type "list", none, .seq (tvs ++ ys2).toArray 0, #[]⟩) (by simp)
    have gT := N24 _ (.head _)
    exact ⟨Dt, 0, D2, D4, _, _, rfl, gT.1, gT.2.2, ⟨0, gD2.1, gD2.2.2⟩, ⟨0, gD4.1, gD4.2.2⟩,
      ((hy.mono fun p hp => List.mem_append_left _ hp).append ((hpr.drop ndn).mono fun p hp => List.mem_append_right _ hp)).pairsG N1,
      ((hp2in.mono fun p hp => List.mem_append_right _ hp).append (hy2.mono fun p hp => List.mem_append_left _ hp)).pairsG N2⟩
end Mine
end
section
/-! plain law, part 1: the form EG, its reading over sorted rows -/
namespace Mine.EG
/-- Erdos-Gallai in a form without order -/
def EG3 (l : List Int) : Prop := ∀ A B C : List Int, (A ++ B ++ C).Perm l → A.sum ≤ B.sum + (A.length : Int) * ((A.length : Int) + C.length - 1)
theorem sum_perm {l l' : List Int} (h : l.Perm l') : l.sum = l'.sum := by
  induction h with
  | nil => rfl
  | cons x _ ih => simp [ih]
  | swap x y l => simp; omega
  | trans _ _ ih1 ih2 => exact ih1.trans ih2
theorem EG3.perm {l l' : List Int} (h : EG3 l) (p : l.Perm l') : EG3 l' := fun A B C q => h A B C (q.trans p.symm)
theorem sum_map_perm (f : Int → Int) {l l' : List Int} (h : l.Perm l') : (l.map f).sum = (l'.map f).sum := sum_perm (h.map f)
theorem sum_le_sum (f g : Int → Int) (l : List Int) (h : ∀ x ∈ l, f x ≤ g x) : (l.map f).sum ≤ (l.map g).sum := by
  induction l with
  | nil => simp
  | cons x r ih =>
    have h1 := h x (.head _)
    have h2 := ih fun y hy => h y (.tail _ hy)
    simp; omega
theorem sum_sub_const (f : Int → Int) (c : Int) (l : List Int) : (l.map fun x => f x - c).sum = (l.map f).sum - l.length * c := by
  induction l with
  | nil => simp
  | cons x r ih => simp [ih, Int.add_mul]; omega
theorem sum_nonneg (f : Int → Int) (l : List Int) (h : ∀ x ∈ l, 0 ≤ f x) : 0 ≤ (l.map f).sum := by
  induction l with
  | nil => simp
  | cons x r ih =>
    have h1 := h x (.head _)
    have h2 := ih fun y hy => h y (.tail _ hy)
    simp; omega
/-- the k greatest: of a row in falling order the first k weigh the most, for a weight that does not fall -/
theorem top_k {f : Int → Int} (hf : ∀ x y, x ≤ y → f x ≤ f y) {L A R : List Int} (hs : L.Pairwise (· ≥ ·)) (hp : (A ++ R).Perm L) :
    (A.map f).sum ≤ ((L.take A.length).map f).sum := by
  have hlen : A.length ≤ L.length := by rw [← hp.length_eq]; simp
  by_cases h0 : A.length = 0
  · have : A = [] := List.eq_nil_of_length_eq_zero h0
    subst this; simp
  have hlt : A.length - 1 < L.length := by omega
  let c := f L[A.length - 1]
  have h1 : ((A.map fun x => max (f x - c) 0)).sum ≤ (L.map fun x => max (f x - c) 0).sum := by
    rw [← sum_map_perm _ hp, List.map_append, List.sum_append]
    have := sum_nonneg (fun x => max (f x - c) 0) R (fun x _ => by omega)
    omega
  have h2 : (A.map fun x => f x - c).sum ≤ (A.map fun x => max (f x - c) 0).sum := sum_le_sum _ _ _ fun x _ => by omega
  have hL : L = L.take A.length ++ L.drop A.length := (List.take_append_drop _ _).symm
  have h3 : (L.map fun x => max (f x - c) 0).sum = ((L.take A.length).map fun x => f x - c).sum := by
    conv => lhs; rw [hL]
    rw [List.map_append, List.sum_append]
    have e1 : (L.take A.length).map (fun x => max (f x - c) 0) = (L.take A.length).map (fun x => f x - c) := by
      apply List.map_congr_left
      intro x hx
      obtain ⟨i, hi, rfl⟩ := List.getElem_of_mem hx
      rw [List.length_take] at hi
      rw [List.getElem_take]
      have : f L[A.length - 1] ≤ f L[i] := by
        apply hf
        by_cases hq : i = A.length - 1
        · subst hq; exact Int.le_refl _
        · exact (List.pairwise_iff_getElem.mp hs) i (A.length - 1) (by omega) hlt (by omega)
      show max (f L[i] - f L[A.length - 1]) 0 = _
      omega
    have e2 : ((L.drop A.length).map fun x => max (f x - c) 0).sum = 0 := by
      have : (L.drop A.length).map (fun x => max (f x - c) 0) = (L.drop A.length).map (fun _ => 0) := by
        apply List.map_congr_left
        intro x hx
        obtain ⟨i, hi, rfl⟩ := List.getElem_of_mem hx
        rw [List.length_drop] at hi
        rw [List.getElem_drop]
        have : f L[A.length + i] ≤ f L[A.length - 1] := hf _ _ ((List.pairwise_iff_getElem.mp hs) (A.length - 1) (A.length + i) hlt (by omega) (by omega))
        show max (f L[A.length + i] - f L[A.length - 1]) 0 = _
        omega
      rw [this]
      induction (L.drop A.length) with
      | nil => rfl
      | cons x r ih => simpa using ih
    rw [e1, e2]; omega
  rw [sum_sub_const] at h2 h3
  have : (L.take A.length).length = A.length := by simp; omega
  rw [this] at h3
  omega
/-- what the program reckons of a row in falling order -/
def cutSum (k : Nat) (l : List Int) : Int := (l.map fun x => min x (k : Int)).sum
def Fits (L : List Int) : Prop := ∀ k : Nat, 1 ≤ k → k ≤ L.length → (L.take k).sum ≤ (k : Int) * (k - 1) + cutSum k (L.drop k)
theorem cutSum_le (k : Nat) (l : List Int) : cutSum k l ≤ l.sum := by
  have := sum_le_sum (fun x => min x (k : Int)) id l fun x _ => by simp only [id]; omega
  simpa [cutSum] using this
theorem cutSum_le_mul (k : Nat) (l : List Int) : cutSum k l ≤ k * l.length := by
  unfold cutSum
  induction l with
  | nil => simp
  | cons x r ih => simp only [List.map_cons, List.sum_cons, List.length_cons, Int.natCast_add, Int.mul_add]; omega
theorem eg3_of_fits {L : List Int} (hs : L.Pairwise (· ≥ ·)) (h0 : ∀ x ∈ L, 0 ≤ x) (h : Fits L) : EG3 L := by
  intro A B C hp
  by_cases hA : A.length = 0
  · have hA : A = [] := List.eq_nil_of_length_eq_zero hA
    subst hA
    simp only [List.nil_append] at hp
    have : 0 ≤ (B.map id).sum := sum_nonneg id B fun x hx => h0 x (hp.subset (List.mem_append_left _ hx))
    simp only [List.map_id] at this
    simpa using this
  · have hp' : (A ++ (B ++ C)).Perm L := by rw [← List.append_assoc]; exact hp
    have hlen := hp'.length_eq
    simp only [List.length_append] at hlen
    have hk := h A.length (by omega) (by omega)
    have ht := top_k (f := fun x => x + min x (A.length : Int)) (fun x y hxy => by omega) hs hp'
    have hsum : ∀ l : List Int, (l.map fun x => x + min x (A.length : Int)).sum = l.sum + cutSum A.length l := by
      intro l
      unfold cutSum
      induction l with
      | nil => simp
      | cons x r ih => simp only [List.map_cons, List.sum_cons, ih]; omega
    rw [hsum, hsum] at ht
    have hall : cutSum A.length (A ++ (B ++ C)) = cutSum A.length L := sum_map_perm _ hp'
    have hsplit : cutSum A.length L = cutSum A.length (L.take A.length) + cutSum A.length (L.drop A.length) := by
      conv => lhs; rw [← List.take_append_drop A.length L]
      unfold cutSum
      rw [List.map_append, List.sum_append]
    have happ : cutSum A.length (A ++ (B ++ C)) = cutSum A.length A + (cutSum A.length B + cutSum A.length C) := by
      unfold cutSum
      rw [List.map_append, List.sum_append, List.map_append, List.sum_append]
    have hB := cutSum_le A.length B
    have hC := cutSum_le_mul A.length C
    have e : (A.length : Int) * ((A.length : Int) + C.length - 1) = (A.length : Int) * (A.length - 1) + A.length * C.length := by grind
    rw [e]
    omega
theorem fits_of_eg3 {L : List Int} (h : EG3 L) : Fits L := by
  intro k h1 hk
  let D := L.drop k
  have hp : (L.take k ++ D.filter (fun x => decide (x < (k : Int))) ++ D.filter (fun x => !decide (x < (k : Int)))).Perm L := by
    rw [List.append_assoc]
    refine (List.Perm.append_left _ (List.filter_append_perm _ _)).trans ?_
    rw [List.take_append_drop]
  have q := h _ _ _ hp
  have hl : (L.take k).length = k := by simp; omega
  rw [hl] at q
  have hc : cutSum k D = (D.filter (fun x => decide (x < (k : Int)))).sum + k * (D.filter (fun x => !decide (x < (k : Int)))).length := by
    unfold cutSum
    induction D with
    | nil => simp
    | cons x r ih =>
      by_cases hx : x < (k : Int)
      · simp only [List.map_cons, List.sum_cons, List.filter_cons, hx, decide_true, if_true, Bool.not_true, Bool.false_eq_true, if_false, ih]; omega
      · simp only [List.map_cons, List.sum_cons, List.filter_cons, hx, decide_false, if_true, Bool.not_false, Bool.false_eq_true, if_false, ih, List.length_cons, Int.natCast_add, Int.mul_add]; omega
  have e : (k : Int) * ((k : Int) + (D.filter (fun x => !decide (x < (k : Int)))).length - 1) = (k : Int) * (k - 1) + k * (D.filter (fun x => !decide (x < (k : Int)))).length := by grind
  rw [e] at q
  show (L.take k).sum ≤ (k : Int) * (k - 1) + cutSum k D
  omega
/-- a row in falling order: it is enough to ask the first s and the last t -/
theorem eg3_of_ends {L : List Int} (hs : L.Pairwise (· ≥ ·))
    (h : ∀ A C B, L = A ++ C ++ B → A.sum ≤ B.sum + (A.length : Int) * ((A.length : Int) + C.length - 1)) : EG3 L := by
  intro A B C hp
  have hp1 : (A ++ (B ++ C)).Perm L := by rw [← List.append_assoc]; exact hp
  have hp2 : ((A ++ C) ++ B).Perm L := (by
    have : ((A ++ C) ++ B).Perm (A ++ B ++ C) := by
      rw [List.append_assoc, List.append_assoc]
      exact List.Perm.append_left _ List.perm_append_comm
    exact this.trans hp)
  have hlen := hp1.length_eq
  simp only [List.length_append] at hlen
  have ht := top_k (f := id) (fun _ _ h => h) hs hp1
  simp only [List.map_id] at ht
  have ht2 := top_k (f := id) (fun _ _ h => h) hs hp2
  simp only [List.map_id] at ht2
  have hsum : (A ++ C ++ B).sum = L.sum := sum_perm hp2
  rw [List.sum_append] at hsum
  rw [List.length_append] at ht2
  have h1 : L = L.take A.length ++ (L.drop A.length).take C.length ++ L.drop (A.length + C.length) := by
    rw [List.append_assoc, ← List.drop_drop, List.take_append_drop, List.take_append_drop]
  have q := h _ _ _ h1
  have l1 : (L.take A.length).length = A.length := by simp; omega
  have l2 : ((L.drop A.length).take C.length).length = C.length := by simp; omega
  rw [l1, l2] at q
  have hL : (L.take (A.length + C.length)).sum + (L.drop (A.length + C.length)).sum = L.sum := by
    rw [← List.sum_append, List.take_append_drop]
  omega
end Mine.EG
end
section
/-! plain law, part 2: a step keeps the form, both ways -/
namespace Mine.EG
/-- a row that is two rows in one: its parts fall apart likewise -/
theorem split2 {A B Y Z : List Int} (h : (A ++ B).Perm (Y ++ Z)) :
    ∃ A1 A2 B1 B2 : List Int, A.Perm (A1 ++ A2) ∧ B.Perm (B1 ++ B2) ∧ Y.Perm (A1 ++ B1) ∧ Z.Perm (A2 ++ B2) := by
  induction A generalizing Y Z with
  | nil => exact ⟨[], [], Y, Z, .refl _, h, .refl _, .refl _⟩
  | cons a A ih =>
    have hm : a ∈ Y ++ Z := h.subset (List.mem_cons_self ..)
    rcases List.mem_append.mp hm with hy | hz
    · have e := List.perm_cons_erase hy
      have h1 : (a :: (A ++ B)).Perm (a :: (Y.erase a ++ Z)) := h.trans (e.append_right Z)
      obtain ⟨A1, A2, B1, B2, p1, p2, p3, p4⟩ := ih (h1.cons_inv)
      exact ⟨a :: A1, A2, B1, B2, p1.cons a, p2, e.trans (p3.cons a), p4⟩
    · have e := List.perm_cons_erase hz
      have h1 : (a :: (A ++ B)).Perm (a :: (Y ++ Z.erase a)) := h.trans ((e.append_left Y).trans List.perm_middle)
      obtain ⟨A1, A2, B1, B2, p1, p2, p3, p4⟩ := ih (h1.cons_inv)
      exact ⟨A1, a :: A2, B1, B2, (p1.cons a).trans List.perm_middle.symm, p2, p3, (e.trans (p4.cons a))⟩
theorem split3 {A B C Y Z : List Int} (h : (A ++ B ++ C).Perm (Y ++ Z)) :
    ∃ A1 A2 B1 B2 C1 C2 : List Int, A.Perm (A1 ++ A2) ∧ B.Perm (B1 ++ B2) ∧ C.Perm (C1 ++ C2) ∧ Y.Perm (A1 ++ B1 ++ C1) ∧ Z.Perm (A2 ++ B2 ++ C2) := by
  rw [List.append_assoc] at h
  obtain ⟨A1, A2, D1, D2, p1, p2, p3, p4⟩ := split2 h
  obtain ⟨B1, B2, C1, C2, q1, q2, q3, q4⟩ := split2 p2
  exact ⟨A1, A2, B1, B2, C1, C2, p1, q1, q2, by rw [List.append_assoc]; exact p3.trans (q3.append_left _), by rw [List.append_assoc]; exact p4.trans (q4.append_left _)⟩
def dn (l : List Int) : List Int := l.map fun x => x - 1
def up (l : List Int) : List Int := l.map fun x => x + 1
theorem dn_up (l : List Int) : dn (up l) = l := by
  unfold dn up; rw [List.map_map]; conv => rhs; rw [← List.map_id l]
  apply List.map_congr_left; intro x _; show x + 1 - 1 = x; omega
theorem up_dn (l : List Int) : up (dn l) = l := by
  unfold dn up; rw [List.map_map]; conv => rhs; rw [← List.map_id l]
  apply List.map_congr_left; intro x _; show x - 1 + 1 = x; omega
theorem sum_dn (l : List Int) : (dn l).sum = l.sum - l.length := by
  have := sum_sub_const id 1 l; simpa [dn] using this
theorem len_dn (l : List Int) : (dn l).length = l.length := by simp [dn]
theorem sum_up (l : List Int) : (up l).sum = l.sum + l.length := by
  have := sum_dn (up l); rw [dn_up] at this; have : (up l).length = l.length := by simp [up]
  omega
theorem len_up (l : List Int) : (up l).length = l.length := by simp [up]
theorem sum_ge {l : List Int} {p : Int} (h : ∀ x ∈ l, p ≤ x) : (l.length : Int) * p ≤ l.sum := by
  induction l with
  | nil => simp
  | cons x r ih =>
    have h1 := h x (.head _)
    have h2 := ih fun y hy => h y (.tail _ hy)
    simp only [List.length_cons, List.sum_cons, Int.natCast_add, Int.add_mul]; omega
theorem sum_le {l : List Int} {p : Int} (h : ∀ x ∈ l, x ≤ p) : l.sum ≤ (l.length : Int) * p := by
  induction l with
  | nil => simp
  | cons x r ih =>
    have h1 := h x (.head _)
    have h2 := ih fun y hy => h y (.tail _ hy)
    simp only [List.length_cons, List.sum_cons, Int.natCast_add, Int.add_mul]; omega
/-- back: the lowered row has the form, so has the row -/
theorem eg3_back {H N : List Int} (h : EG3 (dn H ++ N)) : EG3 ((H.length : Int) :: (H ++ N)) := by
  have key : ∀ A B C : List Int, (A ++ B ++ C).Perm (H ++ N) → ∃ a b c : Int, 0 ≤ a ∧ 0 ≤ b ∧ 0 ≤ c ∧ a ≤ A.length ∧ b ≤ B.length ∧ c ≤ C.length ∧
      (H.length : Int) = a + b + c ∧ A.sum - a ≤ B.sum - b + (A.length : Int) * ((A.length : Int) + C.length - 1) := by
    intro A B C q
    obtain ⟨A1, A2, B1, B2, C1, C2, p1, p2, p3, p4, p5⟩ := split3 q
    have g := h (dn A1 ++ A2) (dn B1 ++ B2) (dn C1 ++ C2) (by
      have e1 : (dn H).Perm (dn A1 ++ dn B1 ++ dn C1) := by have := p4.map (fun x => x - 1); simpa [dn] using this
      refine List.Perm.trans ?_ (e1.append p5).symm
      simp only [List.append_assoc]
      grind)
    simp only [List.sum_append, sum_dn, List.length_append, len_dn] at g
    have l1 := p1.length_eq; have l2 := p2.length_eq; have l3 := p3.length_eq; have l4 := p4.length_eq
    have s1 := sum_perm p1; have s2 := sum_perm p2
    simp only [List.sum_append, List.length_append] at l1 l2 l3 l4 s1 s2
    rw [show A1.length + A2.length = A.length from l1.symm, show C1.length + C2.length = C.length from l3.symm] at g
    exact ⟨A1.length, B1.length, C1.length, by omega, by omega, by omega, by omega, by omega, by omega, by omega, by omega⟩
  intro A B C q
  have hm : ((H.length : Int)) ∈ A ++ B ++ C := q.symm.subset (List.mem_cons_self ..)
  rcases List.mem_append.mp hm with hm | hm
  rcases List.mem_append.mp hm with hm | hm
  · have e := List.perm_cons_erase hm
    have q2 : ((A.erase (H.length : Int)) ++ B ++ C).Perm (H ++ N) := by
      have := ((e.append_right B).append_right C).symm.trans q
      exact List.Perm.cons_inv this
    obtain ⟨a, b, c, h1, h2, h3, h4, h5, h6, h7, h8⟩ := key _ _ _ q2
    have l := e.length_eq; have s := sum_perm e
    rw [List.length_cons] at l; rw [List.sum_cons] at s
    generalize (A.erase (H.length : Int)).length = n at *
    rw [l]
    have : ((n : Int) + 1) * (n + 1 + C.length - 1) = (n : Int) * ((n : Int) + C.length - 1) + 2 * n + C.length := by grind
    rw [Int.natCast_add]
    simp only [Int.natCast_one]
    rw [this]
    omega
  · have e := List.perm_cons_erase hm
    have q2 : (A ++ (B.erase (H.length : Int)) ++ C).Perm (H ++ N) := by
      have := (((e.append_left A)).append_right C).symm.trans q
      exact List.Perm.cons_inv ((List.Perm.append_right C List.perm_middle.symm).trans this)
    obtain ⟨a, b, c, h1, h2, h3, h4, h5, h6, h7, h8⟩ := key _ _ _ q2
    have s := sum_perm e
    rw [List.sum_cons] at s
    omega
  · have e := List.perm_cons_erase hm
    have q2 : (A ++ B ++ (C.erase (H.length : Int))).Perm (H ++ N) := by
      have := (e.append_left (A ++ B)).symm.trans q
      exact List.Perm.cons_inv (List.perm_middle.symm.trans this)
    obtain ⟨a, b, c, h1, h2, h3, h4, h5, h6, h7, h8⟩ := key _ _ _ q2
    have l := e.length_eq
    rw [List.length_cons] at l
    generalize (C.erase (H.length : Int)).length = n at *
    rw [l]
    have : (A.length : Int) * ((A.length : Int) + (n + 1 : Nat) - 1) = (A.length : Int) * ((A.length : Int) + n - 1) + A.length := by grind
    rw [this]
    omega
/-- the row has the form, so there are enough others with anything left -/
theorem eg3_enough {m : Int} {O : List Int} (h0 : ∀ x ∈ O, 0 ≤ x) (h : EG3 (m :: O)) : m ≤ (O.filter fun x => decide (0 < x)).length := by
  have q := h [m] (O.filter fun x => !decide (0 < x)) (O.filter fun x => decide (0 < x)) (by
    refine List.Perm.cons m ?_
    exact List.perm_append_comm.trans (List.filter_append_perm _ _))
  have : (O.filter fun x => !decide (0 < x)).sum ≤ ((O.filter fun x => !decide (0 < x)).length : Int) * 0 := sum_le fun x hx => by
    rw [List.mem_filter] at hx
    simpa using hx.2
  simp only [List.sum_cons, List.sum_nil, List.length_cons, List.length_nil] at q
  omega
end Mine.EG
end
section
/-! plain law, part 3: the lowered row keeps the form -/
namespace Mine.EG
theorem arith_end {a b c g d1 d2 X : Int} (ha : 0 ≤ a) (hb : 0 ≤ b) (hc : 0 ≤ c) (hg : 0 ≤ g) (ht : c + g = d1 + d2)
    (I : X ≤ a + b - a * b - a * d1 - b * d2) (II : X ≤ c * d1 - b * g + b * (2 * d1 + 1 + b)) (III : X ≤ g * d2 + a * (2 * d2 + 1 + a) - a * c)
    (par : c = 0 → g = 0 → X % 2 = 0) : X ≤ 0 := by
  have hbg := Int.mul_nonneg hb hg
  have hac := Int.mul_nonneg ha hc
  by_cases h1 : d1 ≤ -1
  · by_cases h : 1 - d1 ≤ b
    · have e1 := Int.mul_nonneg ha (show 0 ≤ b + d1 - 1 by omega)
      have e2 := Int.mul_nonneg hb (show 0 ≤ d2 - 1 by omega)
      grind
    · have e1 := Int.mul_nonneg hb (show 0 ≤ -(2 * d1 + 1 + b) by omega)
      have e2 := Int.mul_nonneg hc (show 0 ≤ -d1 by omega)
      grind
  by_cases h2 : d2 ≤ -1
  · by_cases h : 1 - d2 ≤ a
    · have e1 := Int.mul_nonneg hb (show 0 ≤ a + d2 - 1 by omega)
      have e2 := Int.mul_nonneg ha (show 0 ≤ d1 - 1 by omega)
      grind
    · have e1 := Int.mul_nonneg ha (show 0 ≤ -(2 * d2 + 1 + a) by omega)
      have e2 := Int.mul_nonneg hg (show 0 ≤ -d2 by omega)
      grind
  by_cases a0 : a = 0
  · subst a0
    by_cases h : d2 = 0
    · subst h; simp at III; exact III
    · have e2 := Int.mul_nonneg hb (show 0 ≤ d2 - 1 by omega)
      grind
  by_cases b0 : b = 0
  · subst b0
    by_cases h : d1 = 0
    · subst h; simp at II; exact II
    · have e2 := Int.mul_nonneg ha (show 0 ≤ d1 - 1 by omega)
      grind
  have e0 := Int.mul_nonneg (show 0 ≤ a - 1 by omega) (show 0 ≤ b - 1 by omega)
  by_cases h3 : 1 ≤ d1
  · have e1 := Int.mul_nonneg ha (show 0 ≤ d1 - 1 by omega)
    have e2 := Int.mul_nonneg hb (show 0 ≤ d2 by omega)
    grind
  by_cases h4 : 1 ≤ d2
  · have e1 := Int.mul_nonneg hb (show 0 ≤ d2 - 1 by omega)
    have e2 := Int.mul_nonneg ha (show 0 ≤ d1 by omega)
    grind
  have d10 : d1 = 0 := by omega
  have d20 : d2 = 0 := by omega
  subst d10 d20
  have := par (by omega) (by omega)
  have : X ≤ 1 := by grind
  omega
theorem arith {a1 a b c g b2 p A1 A2 B1 B2 C1 C2 : Int} (h1 : 0 ≤ a1) (ha : 0 ≤ a) (hb : 0 ≤ b) (hc : 0 ≤ c) (hg : 0 ≤ g)
    (bA : A2 ≤ a * p) (bB : b * (p - 1) ≤ B1) (bC : c * (p - 1) ≤ C1) (bG : C2 ≤ g * p)
    (I : A1 + a1 ≤ B2 + a1 * (a1 + (1 + c + g + a + b) - 1))
    (II : A1 + a1 + A2 + (C1 + c) + (B1 + b) ≤ (a1 + b + c) + B2 + (a1 + a + c + b) * (a1 + a + c + b + g - 1))
    (III : (a1 + b + c) + (A1 + a1) ≤ B1 + b + B2 + C2 + A2 + (a1 + 1) * (a1 + 1 + c - 1))
    (par : c = 0 → g = 0 → (A1 + A2 - B1 - B2 - (a1 + a) * (a1 + a - 1)) % 2 = 0) :
    A1 + A2 ≤ B1 + B2 + (a1 + a) * (a1 + a + (c + g) - 1) := by
  have q := arith_end (a := a) (b := b) (c := c) (g := g) (d1 := a1 + a + (c + g) - p) (d2 := p - (a1 + a))
    (X := A1 + A2 - (B1 + B2) - (a1 + a) * (a1 + a + (c + g) - 1)) ha hb hc hg (by omega) (by grind) (by grind) (by grind)
    (fun e1 e2 => by
      subst e1 e2
      have := par rfl rfl
      rw [show (a1 + a + (0 + 0) - 1 : Int) = a1 + a - 1 by omega]
      omega)
  omega
end Mine.EG
end
section
/-! plain law, part 4: the lowered row keeps the form (joined); one step; the run -/
namespace Mine.EG
theorem even_pred (s : Int) : (s * (s - 1)) % 2 = 0 := by
  rcases Int.emod_two_eq s with h | h
  · rw [Int.mul_emod, h]; simp
  · rw [Int.mul_emod, show (s - 1) % 2 = 0 by omega]; simp
theorem eg3_forth {H N : List Int} {p : Int} (hH : ∀ x ∈ H, p ≤ x) (hN : ∀ x ∈ N, x ≤ p) (h : EG3 ((H.length : Int) :: (H ++ N)))
    (hev : ((H.length : Int) + (H ++ N).sum) % 2 = 0) : EG3 (dn H ++ N) := by
  intro A B C q
  obtain ⟨A1, A2, B1, B2, C1, C2, p1, p2, p3, p4, p5⟩ := split3 q
  have pH : H.Perm (up A1 ++ up B1 ++ up C1) := by
    have := p4.map (fun x => x + 1)
    rw [show (dn H).map (fun x => x + 1) = H from up_dn H] at this
    simpa [up] using this
  have lH := pH.length_eq
  have sH := sum_perm pH
  have sN := sum_perm p5
  simp only [List.length_append, len_up, List.sum_append, sum_up] at lH sH sN
  have lo : ∀ x ∈ A1 ++ B1 ++ C1, p - 1 ≤ x := fun x hx => by
    have : x + 1 ∈ H := pH.symm.subset (by
      simp only [up, ← List.map_append]; exact List.mem_map_of_mem (f := fun x => x + 1) hx)
    have := hH _ this; omega
  have hi : ∀ x ∈ A2 ++ B2 ++ C2, x ≤ p := fun x hx => hN _ (p5.symm.subset hx)
  have bA := sum_le (l := A2) (p := p) fun x hx => hi x (by simp [hx])
  have bB := sum_ge (l := B1) (p := p - 1) fun x hx => lo x (by simp [hx])
  have bC := sum_ge (l := C1) (p := p - 1) fun x hx => lo x (by simp [hx])
  have bG := sum_le (l := C2) (p := p) fun x hx => hi x (by simp [hx])
  have tot : (up A1 ++ up B1 ++ up C1 ++ (A2 ++ B2 ++ C2)).Perm (H ++ N) := (pH.append p5).symm
  have g1 := h (up A1) B2 ((H.length : Int) :: (up C1 ++ C2 ++ A2 ++ up B1)) (by
    refine List.perm_iff_count.mpr fun x => ?_
    have t := tot.count_eq x
    simp only [List.count_append, List.count_cons] at t ⊢
    generalize (if ((H.length : Int) == x) = true then 1 else 0 : Nat) = z
    omega)
  have g2 := h (up A1 ++ A2 ++ up C1 ++ up B1) ((H.length : Int) :: B2) C2 (by
    refine List.perm_iff_count.mpr fun x => ?_
    have t := tot.count_eq x
    simp only [List.count_append, List.count_cons] at t ⊢
    generalize (if ((H.length : Int) == x) = true then 1 else 0 : Nat) = z
    omega)
  have g3 := h ((H.length : Int) :: up A1) (up B1 ++ B2 ++ C2 ++ A2) (up C1) (by
    refine List.perm_iff_count.mpr fun x => ?_
    have t := tot.count_eq x
    simp only [List.count_append, List.count_cons] at t ⊢
    generalize (if ((H.length : Int) == x) = true then 1 else 0 : Nat) = z
    omega)
  simp only [List.sum_append, List.sum_cons, sum_up, len_up, List.length_append, List.length_cons, Int.natCast_add, Int.natCast_one] at g1 g2 g3
  have s1 := sum_perm p1; have s2 := sum_perm p2
  have l1 := p1.length_eq; have l3 := p3.length_eq
  simp only [List.sum_append, List.length_append] at s1 s2 l1 l3
  rw [s1, s2, l1, l3]
  rw [List.sum_append] at hev
  rw [lH] at g2 g3 hev
  simp only [Int.natCast_add] at g2 g3 hev ⊢
  have := arith (a1 := A1.length) (a := A2.length) (b := B1.length) (c := C1.length) (g := C2.length) (b2 := B2.length) (p := p)
    (A1 := A1.sum) (A2 := A2.sum) (B1 := B1.sum) (B2 := B2.sum) (C1 := C1.sum) (C2 := C2.sum)
    (by omega) (by omega) (by omega) (by omega) (by omega) bA bB bC bG
    (by
      have e : (A1.length : Int) + (↑C1.length + ↑C2.length + ↑A2.length + ↑B1.length + 1) - 1 = A1.length + (1 + C1.length + C2.length + A2.length + B1.length) - 1 := by omega
      rw [e] at g1; omega)
    (by
      have e : (A1.length : Int) + ↑A2.length + ↑C1.length + ↑B1.length + ↑C2.length - 1 = A1.length + A2.length + C1.length + B1.length + C2.length - 1 := by omega
      omega)
    (by
      have e : ((A1.length : Int) + 1) + C1.length - 1 = A1.length + 1 + C1.length - 1 := by omega
      omega)
    (fun e1 e2 => by
      have c1 : C1 = [] := List.eq_nil_of_length_eq_zero (by omega)
      have c2 : C2 = [] := List.eq_nil_of_length_eq_zero (by omega)
      subst c1 c2
      have ev := even_pred ((A1.length : Int) + A2.length)
      generalize ((A1.length : Int) + A2.length) * ((A1.length : Int) + A2.length - 1) = z at *
      simp at sH sN hev
      omega)
  omega
end Mine.EG
end
section
/-! plain law, part 5: rows of pairs, one step, the run -/
namespace Mine.EG
abbrev PR := List (Int × Int)
theorem psum_perm {α : Type} (f : α → Int) {l l' : List α} (h : l.Perm l') : (l.map f).sum = (l'.map f).sum := sum_perm (h.map f)
def rem (i : Int) (row : PR) : Int := (row.map fun p => if p.2 = i then p.1 else 0).sum
def occ (i : Int) (ties : PR) : Int := (ties.map fun t => (if t.1 = i then 1 else 0) + (if t.2 = i then 1 else 0)).sum
def norm (t : Int × Int) : Int × Int := (min t.1 t.2, max t.1 t.2)
structure Inv (d : List Int) (row ties : PR) : Prop where
  nd : (row.map Prod.snd).Nodup
  ge : ∀ p ∈ row, 0 ≤ p.1 ∧ 0 ≤ p.2 ∧ p.2 < d.length
  cnt : ∀ i : Nat, (h : i < d.length) → occ i ties + rem i row = d[i]
  tie : ∀ t ∈ ties, (0 ≤ t.1 ∧ t.1 < d.length) ∧ (0 ≤ t.2 ∧ t.2 < d.length) ∧ t.1 ≠ t.2 ∧ t.1 ∉ row.map Prod.snd
  dis : (ties.map norm).Nodup
theorem Inv.perm {d : List Int} {row L ties : PR} (h : Inv d row ties) (p : L.Perm row) : Inv d L ties :=
  ⟨(p.map _).nodup_iff.mpr h.nd, fun q hq => h.ge q (p.subset hq), fun i hi => by rw [← h.cnt i hi]; unfold rem; rw [psum_perm _ p],
   fun t ht => ⟨(h.tie t ht).1, (h.tie t ht).2.1, (h.tie t ht).2.2.1, fun hm => (h.tie t ht).2.2.2 ((p.map _).subset hm)⟩, h.dis⟩
def fsts (row : PR) : List Int := row.map Prod.fst
theorem lower_cnt {i mi : Int} (l : PR) : occ i (l.map fun p => (mi, p.2)) + rem i (l.map fun p => (p.1 - 1, p.2)) = (if mi = i then (l.length : Int) else 0) + rem i l := by
  induction l with
  | nil => simp [occ, rem]
  | cons q r ih =>
    simp only [occ, rem, List.map_cons, List.sum_cons, List.length_cons] at ih ⊢
    by_cases c1 : mi = i
    · simp only [if_pos c1] at ih ⊢
      by_cases c2 : q.2 = i
      · simp only [if_pos c2]; omega
      · simp only [if_neg c2]; omega
    · simp only [if_neg c1] at ih ⊢
      by_cases c2 : q.2 = i
      · simp only [if_pos c2]; omega
      · simp only [if_neg c2]; omega
/-- one step on a row in falling order: refused only if the form or the parity fails, else both ways kept -/
theorem step_law {d : List Int} {L ties : PR} {pick : Int} (I : Inv d L ties) (hs : L.Pairwise fun x y => y.1 ≤ x.1) (hne : 0 < L.length) :
    (∃ L' ties', stepL L ties pick = some (L', ties') ∧ Inv d L' ties' ∧ L'.length + 1 = L.length ∧
      ((EG3 (fsts L) ∧ (fsts L).sum % 2 = 0) ↔ (EG3 (fsts L') ∧ (fsts L').sum % 2 = 0))) ∨
    (stepL L ties pick = none ∧ ¬ EG3 (fsts L)) := by
  have hP : (pick.fmod L.length).toNat < L.length := by
    have h1 := Int.fmod_lt_of_pos pick (show (0 : Int) < L.length by omega)
    have h2 := Int.fmod_nonneg_of_pos pick (show (0 : Int) < L.length by omega)
    omega
  unfold stepL
  dsimp only
  generalize (pick.fmod L.length).toNat = P at hP ⊢
  rw [List.getD_eq_getElem?_getD, List.getElem?_eq_getElem hP, Option.getD_some]
  have eL : L = L.take P ++ L[P] :: L.drop (P + 1) := by
    rw [List.getElem_cons_drop, List.take_append_drop]
  have pL : L.Perm (L[P] :: (L.take P ++ L.drop (P + 1))) := by
    conv => lhs; rw [eL]
    exact List.perm_middle
  have sL : (L.take P ++ L.drop (P + 1)).Pairwise fun x y => y.1 ≤ x.1 := by
    refine hs.sublist ?_
    conv => rhs; rw [eL]
    exact (List.Sublist.refl _).append (List.sublist_cons_self _ _)
  have I2 := I.perm pL.symm
  generalize L.take P ++ L.drop (P + 1) = rp at pL sL I2 ⊢
  generalize hz : L[P] = z at pL I2 ⊢
  obtain ⟨nd, mi⟩ := z
  clear hz
  dsimp only
  have n0 := (I2.ge (nd, mi) (.head _)).1
  dsimp only at n0
  have pF : (fsts L).Perm (nd :: fsts rp) := pL.map _
  have g0 : ∀ x ∈ fsts rp, 0 ≤ x := fun x hx => by
    obtain ⟨q, hq, rfl⟩ := List.mem_map.mp hx
    exact (I2.ge q (.tail _ hq)).1
  obtain ⟨m, rfl⟩ := Int.eq_ofNat_of_zero_le n0
  have lF : (fsts rp).length = rp.length := by simp [fsts]
  have sF : (fsts rp).Pairwise (· ≥ ·) := List.pairwise_map.mpr sL
  split
  · rename_i hc
    refine .inr ⟨rfl, fun h => ?_⟩
    have e := eg3_enough g0 (h.perm pF)
    have el : ((fsts rp).filter fun x => decide (0 < x)).length ≤ (fsts rp).length := List.length_filter_le _ _
    rcases hc with hc | ⟨hc, hz⟩
    · omega
    · have hm : m - 1 < rp.length := by omega
      rw [show ((m : Int) - 1).toNat = m - 1 by omega, List.getD_eq_getElem?_getD, List.getElem?_eq_getElem hm, Option.getD_some] at hz
      have ed : (fsts rp).filter (fun x => decide (0 < x)) = ((fsts rp).take (m - 1)).filter (fun x => decide (0 < x)) := by
        conv => lhs; rw [← List.take_append_drop (m - 1) (fsts rp)]
        rw [List.filter_append]
        have : ((fsts rp).drop (m - 1)).filter (fun x => decide (0 < x)) = [] := by
          rw [List.filter_eq_nil_iff]
          intro x hx
          obtain ⟨i, hi, rfl⟩ := List.getElem_of_mem hx
          rw [List.length_drop] at hi
          rw [List.getElem_drop]
          have hq : (fsts rp)[m - 1 + i] ≤ (fsts rp)[m - 1] := by
            by_cases hi0 : i = 0
            · subst hi0; exact Int.le_refl _
            · exact (List.pairwise_iff_getElem.mp sF) (m - 1) (m - 1 + i) (by omega) (by omega) (by omega)
          have : (fsts rp)[m - 1] = 0 := by simp only [fsts, List.getElem_map]; exact hz
          simp; omega
        rw [this, List.append_nil]
      rw [ed] at e
      have := List.length_filter_le (fun x : Int => decide (0 < x)) ((fsts rp).take (m - 1))
      rw [List.length_take] at this
      omega
  · rename_i hc
    have hml : m ≤ rp.length := by omega
    rw [Int.toNat_natCast]
    refine .inl ⟨_, _, rfl, ?_, ?_, ?_⟩
    · have hposH : ∀ p ∈ rp.take m, 0 < p.1 := by
        intro p hp
        obtain ⟨i, hi, rfl⟩ := List.getElem_of_mem hp
        rw [List.length_take] at hi
        rw [List.getElem_take]
        have hm : m - 1 < rp.length := by omega
        have hz : rp[m - 1].1 ≠ 0 := fun hz => hc (.inr ⟨by omega, by
          rw [show ((m : Int) - 1).toNat = m - 1 by omega, List.getD_eq_getElem?_getD, List.getElem?_eq_getElem hm, Option.getD_some]; exact hz⟩)
        have h0 := (I2.ge rp[m - 1] (.tail _ (List.getElem_mem hm))).1
        by_cases hi0 : i = m - 1
        · subst hi0; omega
        · have := (List.pairwise_iff_getElem.mp sL) i (m - 1) (by omega) hm (by omega)
          omega
      have hnd2 := List.nodup_cons.mp (by simpa using I2.nd : (mi :: rp.map Prod.snd).Nodup)
      have names : ((rp.take m).map (fun p : Int × Int => (p.1 - 1, p.2)) ++ rp.drop m).map Prod.snd = rp.map Prod.snd := by
        rw [List.map_append, List.map_map]
        conv => rhs; rw [← List.take_append_drop m rp]
        rw [List.map_append]; rfl
      refine ⟨by rw [names]; exact hnd2.2, ?_, ?_, ?_, ?_⟩
      · intro p hp
        rcases List.mem_append.mp hp with h | h
        · obtain ⟨q, hq, rfl⟩ := List.mem_map.mp h
          have := hposH q hq
          have := I2.ge q (.tail _ (List.mem_of_mem_take hq))
          exact ⟨by dsimp only; omega, this.2⟩
        · exact I2.ge p (.tail _ (List.mem_of_mem_drop h))
      · intro i hi
        rw [← I2.cnt i hi]
        have e1 : rem i (((m : Int), mi) :: rp) = (if mi = i then (m : Int) else 0) + (rem i (rp.take m) + rem i (rp.drop m)) := by
          unfold rem; rw [← List.sum_append, ← List.map_append, List.take_append_drop]; rfl
        have e2 : occ i (ties ++ (rp.take m).map fun p => (mi, p.2)) = occ i ties + occ i ((rp.take m).map fun p => (mi, p.2)) := by
          unfold occ; rw [List.map_append, List.sum_append]
        have e3 : rem i ((rp.take m).map (fun p => (p.1 - 1, p.2)) ++ rp.drop m) = rem i ((rp.take m).map fun p => (p.1 - 1, p.2)) + rem i (rp.drop m) := by
          unfold rem; rw [List.map_append, List.sum_append]
        have e5 := lower_cnt (i := (i : Int)) (mi := mi) (rp.take m)
        rw [List.length_take, Nat.min_eq_left hml] at e5
        omega
      · intro t ht
        rw [names]
        rcases List.mem_append.mp ht with h | h
        · have q := I2.tie t h
          exact ⟨q.1, q.2.1, q.2.2.1, fun hm => q.2.2.2 (by simp at hm ⊢; exact .inr hm)⟩
        · obtain ⟨p, hp, rfl⟩ := List.mem_map.mp h
          have a := I2.ge ((m : Int), mi) (.head _)
          have b := I2.ge p (.tail _ (List.mem_of_mem_take hp))
          refine ⟨a.2, b.2, fun e => hnd2.1 ?_, hnd2.1⟩
          dsimp only at e
          rw [e]; exact List.mem_map_of_mem (List.mem_of_mem_take hp)
      · rw [List.map_append, List.nodup_append]
        refine ⟨I2.dis, ?_, ?_⟩
        · rw [List.map_map]
          have hn : ((rp.take m).map Prod.snd).Nodup := hnd2.2.sublist ((List.take_sublist _ _).map _)
          rw [List.Nodup, List.pairwise_map] at hn ⊢
          have hne2 : ∀ p ∈ rp.take m, mi ≠ p.2 := fun p hp e => hnd2.1 (by rw [e]; exact List.mem_map_of_mem (List.mem_of_mem_take hp))
          refine (List.Pairwise.imp_of_mem ?_ hn)
          intro p q hp hq hpq e
          have h1 := hne2 p hp; have h2 := hne2 q hq
          simp only [Function.comp, norm, Prod.mk.injEq] at e
          omega
        · intro x hx y hy e
          obtain ⟨t, ht, rfl⟩ := List.mem_map.mp hx
          obtain ⟨u, hu, rfl⟩ := List.mem_map.mp hy
          obtain ⟨p, hp, rfl⟩ := List.mem_map.mp hu
          have q := I2.tie t ht
          have h1 : t.1 ≠ mi := fun e => q.2.2.2 (by simp [e])
          have h2 : t.1 ≠ p.2 := fun e => q.2.2.2 (by rw [e]; exact List.mem_map_of_mem (.tail _ (List.mem_of_mem_take hp)))
          simp only [norm, Prod.mk.injEq] at e
          omega
    · have := pL.length_eq
      simp only [List.length_append, List.length_map, List.length_take, List.length_drop, List.length_cons] at this ⊢
      omega
    · have eF : fsts ((rp.take m).map (fun p => (p.1 - 1, p.2)) ++ rp.drop m) = dn ((fsts rp).take m) ++ (fsts rp).drop m := by
        simp [fsts, dn, List.map_take, List.map_drop, Function.comp_def]
      rw [eF]
      have hl : ((fsts rp).take m).length = m := by rw [List.length_take]; omega
      have eR : (fsts rp).take m ++ (fsts rp).drop m = fsts rp := List.take_append_drop _ _
      have sm : (fsts L).sum = m + (((fsts rp).take m).sum + ((fsts rp).drop m).sum) := by
        rw [sum_perm pF, List.sum_cons, ← List.sum_append, eR]
      have sd : (dn ((fsts rp).take m) ++ (fsts rp).drop m).sum = ((fsts rp).take m).sum - m + ((fsts rp).drop m).sum := by
        rw [List.sum_append, sum_dn, hl]
      constructor
      · rintro ⟨h, hv⟩
        refine ⟨?_, by omega⟩
        have h' := h.perm pF
        rw [← eR] at h'
        by_cases hm0 : m = 0
        · subst hm0
          refine eg3_forth (p := (fsts rp).sum) (by simp) ?_ (by simpa using h') (by simp at sm ⊢; omega)
          intro x hx
          have : x ∈ fsts rp := List.mem_of_mem_drop hx
          have e := List.perm_cons_erase this
          have := sum_perm e
          have nn : 0 ≤ (((fsts rp).erase x).map id).sum := sum_nonneg id _ fun y hy => g0 y (List.mem_of_mem_erase hy)
          simp only [List.map_id] at nn
          rw [List.sum_cons] at this
          omega
        · have hm1 : m - 1 < (fsts rp).length := by omega
          refine eg3_forth (p := (fsts rp)[m - 1]) ?_ ?_ (by rw [hl]; exact h') (by rw [hl, List.sum_append]; omega)
          · intro x hx
            obtain ⟨i, hi, rfl⟩ := List.getElem_of_mem hx
            rw [hl] at hi
            rw [List.getElem_take]
            by_cases hi0 : i = m - 1
            · subst hi0; exact Int.le_refl _
            · exact (List.pairwise_iff_getElem.mp sF) i (m - 1) (by omega) hm1 (by omega)
          · intro x hx
            obtain ⟨i, hi, rfl⟩ := List.getElem_of_mem hx
            rw [List.length_drop] at hi
            rw [List.getElem_drop]
            exact (List.pairwise_iff_getElem.mp sF) (m - 1) (m + i) hm1 (by omega) (by omega)
      · rintro ⟨h, hv⟩
        refine ⟨?_, by omega⟩
        have := eg3_back h
        rw [hl, eR] at this
        exact this.perm pF.symm
/-- the walk over picks: at each round the row in falling order -/
inductive Run : List Int → Option (PR × PR) → Option (PR × PR) → Prop
  | nil {s} : Run [] s s
  | none {p ps r} : Run ps none r → Run (p :: ps) none r
  | some {p ps row ties L r} : L.Perm row → L.Pairwise (fun x y => y.1 ≤ x.1) → Run ps (stepL L ties p) r → Run (p :: ps) (some (row, ties)) r
theorem run_none {ps r} (h : Run ps Option.none r) : r = Option.none := by
  induction ps with
  | nil => cases h; rfl
  | cons p ps ih => cases h with | none h => exact ih h
theorem run_law {d : List Int} : ∀ {ps : List Int} {row ties : PR} {r}, Inv d row ties → ps.length = row.length → Run ps (some (row, ties)) r →
    (EG3 (fsts row) ∧ (fsts row).sum % 2 = 0 → ∃ ties', r = some ([], ties') ∧ Inv d [] ties') ∧ (¬ (EG3 (fsts row) ∧ (fsts row).sum % 2 = 0) → r = Option.none) := by
  intro ps
  induction ps with
  | nil =>
    intro row ties r I hl h
    have : row = [] := List.eq_nil_of_length_eq_zero hl.symm
    subst this
    cases h
    refine ⟨fun _ => ⟨_, rfl, I⟩, fun hn => absurd ⟨?_, rfl⟩ hn⟩
    intro A B C hp
    have hz := hp.length_eq
    simp [fsts] at hz
    obtain ⟨rfl, rfl, rfl⟩ := hz
    simp
  | cons p ps ih =>
    intro row ties r I hl h
    cases h with
    | some hp hs hr =>
      rename_i L
      have IL := I.perm hp
      have pf : (fsts L).Perm (fsts row) := hp.map _
      have hll := hp.length_eq
      simp only [List.length_cons] at hl
      have hiff : (EG3 (fsts L) ∧ (fsts L).sum % 2 = 0) ↔ (EG3 (fsts row) ∧ (fsts row).sum % 2 = 0) :=
        ⟨fun ⟨a, b⟩ => ⟨a.perm pf, by rw [← sum_perm pf]; exact b⟩, fun ⟨a, b⟩ => ⟨a.perm pf.symm, by rw [sum_perm pf]; exact b⟩⟩
      rw [← hiff]
      rcases step_law (pick := p) IL hs (by omega) with ⟨L', ties', e, I', hl', hh⟩ | ⟨e, hn⟩
      · rw [e] at hr
        rw [hh]
        exact ih I' (by omega) hr
      · rw [e] at hr
        exact ⟨fun h => absurd h.1 hn, fun _ => run_none hr⟩
end Mine.EG
end
section
/-! plain law, part 6: the start, the bound on the ties, the answer -/
namespace Mine.EG
/-- the row's numbers, each with its place -/
def placed (ns : List Int) : PR := (List.range ns.length).map fun k => (ns.getD k 0, (k : Int))
theorem fsts_placed (ns : List Int) : fsts (placed ns) = ns := by
  unfold fsts placed
  apply List.ext_getElem
  · simp
  · intro i h1 h2
    simp [h2]
theorem rem_placed (ns : List Int) (i : Nat) (hi : i < ns.length) : rem (i : Int) (placed ns) = ns[i] := by
  have h : ∀ n, n ≤ ns.length → rem (i : Int) ((List.range n).map fun k => (ns.getD k 0, (k : Int))) = if i < n then ns.getD i 0 else 0 := by
    intro n
    induction n with
    | zero => intro _; simp [rem]
    | succ n ih =>
      intro hn
      have := ih (by omega)
      unfold rem at this ⊢
      rw [List.range_succ, List.map_append, List.map_append, List.sum_append, this]
      simp only [List.map_cons, List.map_nil, List.sum_cons, List.sum_nil, Int.add_zero]
      by_cases h1 : i < n
      · rw [if_pos h1, if_neg (by omega), if_pos (by omega), Int.add_zero]
      · rw [if_neg h1, Int.zero_add]
        by_cases h2 : i = n
        · rw [if_pos (by omega), if_pos (by omega), h2]
        · rw [if_neg (by omega), if_neg (by omega)]
  have := h ns.length (Nat.le_refl _)
  rw [if_pos hi] at this
  unfold placed
  rw [this]
  simp [hi]
theorem inv_start {ns : List Int} (h0 : ∀ x ∈ ns, 0 ≤ x) : Inv ns (placed ns) [] := by
  refine ⟨?_, ?_, ?_, fun _ h => (nomatch h), List.nodup_nil⟩
  · unfold placed
    rw [List.map_map, List.Nodup, List.pairwise_map]
    refine List.Pairwise.imp ?_ (List.nodup_range (n := ns.length))
    intro a b hab e
    exact hab (Int.ofNat.inj e)
  · intro p hp
    obtain ⟨k, hk, rfl⟩ := List.mem_map.mp hp
    have hk' := List.mem_range.mp hk
    refine ⟨h0 _ ?_, Int.natCast_nonneg _, Int.ofNat_lt.mpr hk'⟩
    rw [List.getD_eq_getElem?_getD, List.getElem?_eq_getElem hk']
    exact List.getElem_mem hk'
  · intro i hi
    rw [rem_placed ns i hi]
    simp [occ]
/-- what holds between two rounds -/
def Ok (d : List Int) (n : Nat) (row ties : PR) : Prop := Inv d row ties ∧ row.length = n ∧ ties.length + n * n ≤ 100
theorem ok_start {ns : List Int} (h0 : ∀ x ∈ ns, 0 ≤ x) (hl : ns.length ≤ 10) : Ok ns ns.length (placed ns) [] :=
  ⟨inv_start h0, by simp [placed], by have := Nat.mul_le_mul hl hl; simp; omega⟩
theorem step_ties {L ties : PR} {pick : Int} {st : PR × PR} (hne : 0 < L.length) (h : stepL L ties pick = some st) : st.2.length + 1 ≤ ties.length + L.length := by
  have hP : (pick.fmod L.length).toNat < L.length := by
    have h1 := Int.fmod_lt_of_pos pick (show (0 : Int) < L.length by omega)
    have h2 := Int.fmod_nonneg_of_pos pick (show (0 : Int) < L.length by omega)
    omega
  unfold stepL at h
  dsimp only at h
  split at h
  · cases h
  · rename_i hc
    cases h
    simp only [List.length_append, List.length_map, List.length_take, List.length_drop] at hc ⊢
    omega
theorem ok_step {d : List Int} : ∀ n row ties, Ok d (n + 1) row ties → (0 < row.length ∧ row.length < 64 ∧ (∀ p ∈ row, 0 ≤ p.1) ∧ ties.length ≤ 1000) ∧
    ∀ L pick, L.Perm row → L.Pairwise (fun x y => y.1 ≤ x.1) → ∀ st, stepL L ties pick = some st → Ok d n st.1 st.2 := by
  rintro n row ties ⟨I, hl, hb⟩
  have hq : (n + 1) * (n + 1) = n * n + n + n + 1 := by rw [Nat.add_mul, Nat.mul_add]; omega
  have hn : n ≤ 10 := by
    apply Nat.le_of_not_lt
    intro h
    have := Nat.mul_le_mul (show 11 ≤ n + 1 by omega) (show 11 ≤ n + 1 by omega)
    omega
  refine ⟨⟨by omega, by omega, fun p hp => (I.ge p hp).1, by omega⟩, ?_⟩
  intro L pick hp hs st hst
  have hL := hp.length_eq
  rcases step_law (pick := pick) (I.perm hp) hs (by omega) with ⟨L', ties', e, I', hl', _⟩ | ⟨e, _⟩
  · have ht := step_ties (by omega) hst
    rw [e] at hst
    cases hst
    dsimp only at ht
    exact ⟨I', (show L'.length = n by omega), (show ties'.length + n * n ≤ 100 by omega)⟩
  · rw [e] at hst; cases hst
/-- the two tests agree -/
theorem fits_iff {ns L : List Int} (h0 : ∀ x ∈ ns, 0 ≤ x) (hp : L.Perm ns) (hs : L.Pairwise (fun x y => y ≤ x)) : (L.sum % 2 = 0 ∧ Fits L) ↔ (EG3 (fsts (placed ns)) ∧ (fsts (placed ns)).sum % 2 = 0) := by
  rw [fsts_placed, sum_perm hp]
  constructor
  · rintro ⟨a, b⟩
    exact ⟨(eg3_of_fits hs (fun x hx => h0 x (hp.subset hx)) b).perm hp, a⟩
  · rintro ⟨a, b⟩
    exact ⟨b, fits_of_eg3 (a.perm hp.symm)⟩
end Mine.EG
end
section
/-! plain law, part 7: the ties are few -/
namespace Mine.EG
theorem nodup_le : ∀ (N : Nat) (l : List Nat), l.Nodup → (∀ x ∈ l, x < N) → l.length ≤ N
  | 0, l, _, h => by
    cases l with
    | nil => exact Nat.le_refl _
    | cons a _ => exact absurd (h a (.head _)) (Nat.not_lt_zero _)
  | N + 1, l, hd, h => by
    have h1 := nodup_le N (l.erase N) (hd.erase N) (fun x hx => by
      have hm := (List.Nodup.mem_erase_iff hd).mp hx
      have := h x hm.2
      have := hm.1
      omega)
    have h2 : (l.erase N).length = if N ∈ l then l.length - 1 else l.length := List.length_erase ..
    split at h2 <;> omega
theorem ties_le {d : List Int} {row ties : PR} (I : Inv d row ties) (hl : d.length ≤ 10) : ties.length ≤ 1000 := by
  have hd := I.dis
  have hb : ∀ t ∈ ties, 0 ≤ (norm t).1 ∧ (norm t).1 < 10 ∧ 0 ≤ (norm t).2 ∧ (norm t).2 < 10 := fun t ht => by
    obtain ⟨a, b, _⟩ := I.tie t ht
    simp only [norm]
    omega
  have hn : (ties.map fun t => ((norm t).1 * 10 + (norm t).2).toNat).Nodup := by
    rw [List.Nodup, List.pairwise_map] at hd ⊢
    refine List.Pairwise.imp_of_mem ?_ hd
    intro a b ha hb' hab e
    have h1 := hb a ha
    have h2 := hb b hb'
    exact hab (Prod.ext (by omega) (by omega))
  have := nodup_le 100 _ hn (fun x hx => by
    obtain ⟨t, ht, rfl⟩ := List.mem_map.mp hx
    have := hb t ht
    omega)
  rw [List.length_map] at this
  omega
end Mine.EG
end
section
open PySem PySem.W PyProof.Rows PySem.W.X PySem.Calls PySem.Spec
namespace Mine
set_option maxRecDepth 100000
set_option maxHeartbeats 4000000
local macro_rules | `(tactic| k_is) => `(tactic| first | exact G_cmp _ | exact G_fuller _ | exact G_le _ | exact G_reduce _ | exact G_round _ | exact G_fits _ | exact G_holds _ | exact G_missing _ | exact G_sorted _ | exact G_len _ | exact G_sum _ | exact G_range _ | exact G_min _ | exact G_max _ | exact G_iter _ | exact G_next _)
inductive IntsV : List Value → List Int → Prop
  | nil : IntsV [] []
  | cons {n : Int} {t : Tok} {vs ps} : IntsV vs ps → IntsV (.int n t :: vs) (n :: ps)
theorem IntsV.length {vs ps} (x : IntsV vs ps) : vs.length = ps.length := by
  induction x with
  | nil => rfl
  | cons _ ih => simp [ih]
theorem IntsV.drop {vs ps} (x : IntsV vs ps) (n : Nat) : IntsV (vs.drop n) (ps.drop n) := by
  induction x generalizing n with
  | nil => simpa using .nil
  | cons a ih =>
    cases n with
    | zero => exact .cons a
    | succ n => exact ih n
theorem IntsV.get {vs ps} (x : IntsV vs ps) {i : Nat} (hi : i < vs.length) : ∃ t, vs[i]? = some (.int (ps.getD i 0) t) := by
  induction x generalizing i with
  | nil => simp at hi
  | cons a ih =>
    cases i with
    | zero => exact ⟨_, rfl⟩
    | succ i => simpa using ih (by simpa using hi)
/-- the state between two rounds -/
def StO (g₀ h : Heap) (v : Value) : Option (List (Int × Int) × List (Int × Int)) → Prop
  | none => v = .none
  | some st => StG g₀ h v st.1 st.2
theorem StO.sq {g₀ h h' : Heap} {v : Value} {st} (x : StO g₀ h v st) (s : Sq h h') : StO g₀ h' v st := by
  cases st with
  | none => exact x
  | some st => exact StG.sq x s
theorem ncode : Value.type "code" ≠ Value.type "list_iterator" := fun q => by simp at q
/-- the code table's objects, as a ledger -/
theorem TabS.seg2 {g₀ h : Heap} (S : TabS g₀ h) (h23 : g₀.get? 23 = none) : ∃ tl : List (Addr × Obj), (∀ p ∈ tl, h.get? p.1 = some p.2 ∧ g₀.get? p.1 = none ∧ (∃ vs, p.2.data = .fields vs) ∧ p.2.cls ≠ .type "list_iterator") ∧ ∀ h', (∀ p ∈ tl, h'.get? p.1 = some p.2) → TabS g₀ h' := by
  rcases S with S | ⟨ps, c, P, pk, h1, h2, h3, ⟨oc, vs, file, tf, flags, tg, inF, text, tt, e1, r1, r2, r3⟩, h5, h6, ⟨c', wc, tc, ec, gc, zc⟩, h8, h9⟩
  · refine ⟨[(23, W.tabObj #[])], fun p hp => ?_, fun h' hh => .inl (hh _ (.head _))⟩
    rw [List.mem_singleton.mp hp]
    exact ⟨S, h23, ⟨_, rfl⟩, fun q => nomatch q⟩
  · cases ec
    have cod : ∀ l : List (Pos × Str), (∀ x ∈ l, ∃ v, codeAmong x.1 pk.toList = some v ∧ GoodC g₀ h v x.2) → ∃ tl : List (Addr × Obj), (∀ p ∈ tl, h.get? p.1 = some p.2 ∧ g₀.get? p.1 = none ∧ (∃ vs, p.2.data = .fields vs) ∧ p.2.cls ≠ .type "list_iterator") ∧
        ∀ h', (∀ p ∈ tl, h'.get? p.1 = some p.2) → ∀ x ∈ l, ∃ v, codeAmong x.1 pk.toList = some v ∧ GoodC g₀ h' v x.2 := by
      intro l
      induction l with
      | nil => exact fun _ => ⟨[], fun _ hp => (nomatch hp), fun _ _ x hx => (nomatch hx)⟩
      | cons x l ih =>
        intro hl
        obtain ⟨tl, t1, t2⟩ := ih fun y hy => hl y (.tail _ hy)
        obtain ⟨v, ev, cv, wv, tv, e, gv, zv⟩ := hl x (.head _)
        refine ⟨(cv, kCode wv x.2 tv) :: tl, fun p hp => ?_, fun h' hh y hy => ?_⟩
        · rcases List.mem_cons.mp hp with rfl | hp
          · exact ⟨gv, zv, ⟨_, rfl⟩, ncode⟩
          · exact t1 p hp
        · rcases List.mem_cons.mp hy with rfl | hy
          · exact ⟨v, ev, cv, wv, tv, e, hh _ (.head _), zv⟩
          · exact t2 h' (fun p hp => hh p (.tail _ hp)) y hy
    obtain ⟨tl, t1, t2⟩ := cod wantsK h9
    refine ⟨(23, W.tabObj ps) :: (c, oc) :: (P, W.tabObj pk) :: tl, fun p hp => ?_, fun h' hh => ?_⟩
    · rcases List.mem_cons.mp hp with rfl | hp
      · exact ⟨h1, h23, ⟨_, rfl⟩, fun q => nomatch q⟩
      · rcases List.mem_cons.mp hp with rfl | hp
        · exact ⟨e1, zc, ⟨_, r2⟩, by rw [show oc = kCode wc qCls tc from Option.some.inj (e1.symm.trans gc)]; exact ncode⟩
        · rcases List.mem_cons.mp hp with rfl | hp
          · exact ⟨h5, h8.2, ⟨_, rfl⟩, fun q => nomatch q⟩
          · exact t1 p hp
    · have hc' := hh _ (List.mem_cons_of_mem _ (.head _))
      have eo : oc = kCode wc qCls tc := Option.some.inj (e1.symm.trans gc)
      exact .inr ⟨ps, c, P, pk, hh _ (.head _), h2, h3, ⟨oc, vs, file, tf, flags, tg, inF, text, tt, hc', r1, r2, r3⟩, hh _ (List.mem_cons_of_mem _ (List.mem_cons_of_mem _ (.head _))), h6, ⟨c, wc, tc, rfl, eo ▸ hc', zc⟩, h8,
        t2 h' fun p hp => hh p (List.mem_cons_of_mem _ (List.mem_cons_of_mem _ (List.mem_cons_of_mem _ hp)))⟩
theorem TabS.but {g₀ h h' : Heap} {I : Addr} {o : Obj} (S : TabS g₀ h) (h23 : g₀.get? 23 = none) (k : Heap.ExtBut I h h') (hI : h.get? I = some o) (hc : o.cls = .type "list_iterator") : TabS g₀ h' := by
  obtain ⟨tl, t1, t2⟩ := S.seg2 h23
  refine t2 h' fun p hp => k _ _ (fun q => ?_) (t1 p hp).1
  have e := (t1 p hp).1
  rw [q, hI] at e
  exact (t1 p hp).2.2.2 (Option.some.inj e ▸ hc)
theorem TabS.butL {g₀ h h' : Heap} {L : Addr} {m : Str → Option Value} (S : TabS g₀ h) (h23 : g₀.get? 23 = none) (k : Heap.ExtBut L h h') (n : h.Ns L m) : TabS g₀ h' := by
  obtain ⟨tl, t1, t2⟩ := S.seg2 h23
  obtain ⟨oL, es, ep, eL, hdL, _⟩ := n
  refine t2 h' fun p hp => k _ _ (fun q => ?_) (t1 p hp).1
  have e := (t1 p hp).1
  rw [q, eL] at e
  obtain ⟨_, d⟩ := (t1 p hp).2.2.1
  rw [← Option.some.inj e, hdL] at d
  cases d
theorem iter_entry : entryFor table "iter" = some Builtin.«iter» := entryFor_of_fast (by kernel_rfl)
theorem iter_args (a : Value) : argsOk "iter" ⟨[a], []⟩ := by unfold argsOk; kernel_rfl
theorem iter_list {prog : Program} {w : World} {A : Around} {E : Value → Shared → Prop} {s : Shared} {l : Addr} {items : Array Value} {Q : Value → Shared → Prop} (hl : s.heap.IsList l items)
    (hQ : Q (.ref s.heap.objs.size) { s with heap := s.heap.push { cls := .type "list_iterator", data := .fields #[.ref l, .int 0 0] } }) :
    wpAny (model prog w) A (call (.builtin "iter") [.ref l]) Q E s := by
  refine call_function_entry (by decide +kernel) (by decide +kernel) iter_entry (iter_args _) ?_
  unfold Builtin.«iter»
  refine wpAny_bind (m := someArgs "iter" 1 2 _) (wpAny_of_eq (a := [Value.ref l]) (by first | rfl | kernel_rfl!) ?_)
  show wpAny _ _ (pyIter (.ref l) >>= _) _ _ _
  refine wpAny_bind (wpAny_pyIter_list hl ?_)
  exact wpAny_pure ⟨_, rfl, hQ⟩
theorem is_tuple_other {M : Model} {A : Around} {E : Value → Shared → Prop} {s : Shared} {x y : Addr} {ox oy : Obj} {Q : Value → Shared → Prop} (hx : s.heap.get? x = some ox) (hy : s.heap.get? y = some oy) (hxy : x ≠ y) (hnt : oy.cls ≠ .type "tuple")
    (h : Q (.bool false) s) : wpAny M A (compareOp .Is (.ref x) (.ref y)) Q E s := by
  show wpAny M A (do return .bool (← isSame (.ref x) (.ref y))) Q E s
  refine wpAny_bind ?_
  show wpAny M A (if (x == y) = true then pure true else _) _ E s
  rw [if_neg (by simpa using hxy)]
  refine wpAny_bind (wpAny_load hx (wpAny_bind (wpAny_load hy ?_)))
  split
  · rename_i _ h2 _ _; exact absurd h2 hnt
  · exact wpAny_pure (wpAny_pure h)
theorem miss_cls (P : Params) : (objAt 29 P).cls = .type "object" := by kernel_rfl
theorem reduce_ho (P : Params) : (myK P).lookup 37 = some (objAt 37 P) := by kernel_rfl
def fnDV (o : Obj) : Value := match o.data with | .func fd => fd.defaults | _ => .none
def fnKV (o : Obj) : Value := match o.data with | .func fd => fd.kwdefaults | _ => .none
def fnCt (o : Obj) : Value := match o.data with | .func fd => fd.closureTuple | _ => .none
def fnAn (o : Obj) : Option Addr := match o.data with | .func fd => fd.annotations | _ => none
def seqCap (o : Obj) : Nat := match o.data with | .seq _ n => n | _ => 0
theorem miss_data (P : Params) : (objAt 30 P).data = .seq #[.ref 29] (seqCap (objAt 30 P)) := by kernel_rfl
theorem miss_ho (P : Params) : (myK P).lookup 30 = some (objAt 30 P) := by kernel_rfl
theorem reduce_data (P : Params) : (objAt 37 P).data = .func (fnX (Str.ofString "reduce") (Str.ofString "reduce") (sParams (tDef 4)) (sBody (tDef 4)) (sScope (tDef 4)) [] (.ref 30) (fnKV (objAt 37 P)) (fnDoc (objAt 37 P)) (fnPm (objAt 37 P)) (fnAn (objAt 37 P)) (.ref 36) (fnCt (objAt 37 P))) := by kernel_rfl
def redM (lp va I : Addr) (e : Option Value) (v : Value) : Str → Option Value := fun y => if y = Str.ofString "element" then e else if y = Str.ofString "value" then some v else if y = Str.ofString "it" then some (.ref I) else List.lookup y [(Str.ofString "function", .ref 49), (Str.ofString "sequence", .ref lp), (Str.ofString "initial", .ref va)].reverse
theorem redM0 (lp va I : Addr) (v : Value) : redM lp va I none v = fun y => if y = Str.ofString "value" then some v else if y = Str.ofString "it" then some (.ref I) else List.lookup y [(Str.ofString "function", .ref 49), (Str.ofString "sequence", .ref lp), (Str.ofString "initial", .ref va)].reverse := by
  funext y
  unfold redM
  by_cases h : y = Str.ofString "element"
  · rw [if_pos h, h, if_neg (by decide), if_neg (by decide)]; kernel_rfl
  · rw [if_neg h]
theorem redM1 (lp va I : Addr) (e : Option Value) (v x : Value) : (fun y => if y = Str.ofString "element" then some x else redM lp va I e v y) = redM lp va I (some x) v := by
  funext y
  unfold redM
  by_cases h : y = Str.ofString "element"
  · rw [if_pos h, if_pos h]
  · rw [if_neg h, if_neg h, if_neg h]
theorem redM2 (lp va I : Addr) (e : Option Value) (v x : Value) : (fun y => if y = Str.ofString "value" then some x else redM lp va I e v y) = redM lp va I e x := by
  funext y
  unfold redM
  by_cases h : y = Str.ofString "value"
  · rw [if_pos h, h, if_neg (by decide), if_pos rfl]
  · rw [if_neg h, if_neg h]
    by_cases h2 : y = Str.ofString "element"
    · rw [if_pos h2, if_pos h2]
    · rw [if_neg h2, if_neg h2, if_neg h]
/-- at most the iterator and the locals differ -/
theorem UpT.but {h h' h'' : Heap} {a : Addr} (u : UpT h h') (k : Heap.ExtBut a h' h'') (ha : h.objs.size ≤ a) : UpT h h'' := fun b o n e => k b o (fun q => absurd (Heap.lt_size e) (by rw [q]; exact Nat.not_lt.mpr ha)) (u b o n e)
theorem Sq.of_extBut {h h' : Heap} {L : Addr} {o : Obj} (s : Heap.ExtBut L h h') (hL : h.get? L = some o) (hd : ∀ xs n, o.data ≠ .seq xs n) : Sq h h' := fun b ob xs n d e => s _ _ (fun q => by rw [q, hL] at e; rw [← Option.some.inj e] at d; exact hd _ _ d) e
theorem reduce_run {w : World} {g : Array GenState} {d : Drawn} {os : OsState} {E : Value → Shared → Prop} {g₀ h : Heap} {tk0 : Nat} (V : Env0 w g₀) (h23 : g₀.get? 23 = none) (k0 : Keeps g₀ h) (S : TabS g₀ h) (z0 : g₀.objs.size ≤ h.objs.size)
    {v : Value} {row ties : List (Int × Int)} (St : StG g₀ h v row ties) {lp : Addr} {its : List Value} {ps : List Int} {c : Nat} (hl : h.get? lp = some (seqObj "list" its.toArray c)) (hlz : g₀.get? lp = none) (hi : IntsV its ps)
    (Ok : Nat → List (Int × Int) → List (Int × Int) → Prop) (ok0 : Ok ps.length row ties)
    (okS : ∀ n row ties, Ok (n + 1) row ties → (0 < row.length ∧ row.length < 64 ∧ (∀ p ∈ row, 0 ≤ p.1) ∧ ties.length ≤ 1000) ∧ ∀ L pick, L.Perm row → L.Pairwise (fun x y => y.1 ≤ x.1) → ∀ st, stepL L ties pick = some st → Ok n st.1 st.2)
    {Q : Value → Shared → Prop} (hQ : ∀ st h' tk r, EG.Run ps (some (row, ties)) st → UpT h h' → TabS g₀ h' → StO g₀ h' r st → Q r ⟨h', g, d, tk, os⟩) :
    wpAny (model PW w) (capA 360 880) (PySem.call (.ref 37) [.ref 49, .ref lp, v]) Q E ⟨h, g, d, tk0, os⟩ := by
  w_top off
  suffices hh : (PySem.Challenge.rw_dw5009_01 = PySem.Challenge.rw_dw5009_01 ∧ myK = myK) → wpAny (model PW w) (capA 360 880) (PySem.call (.ref 37) [.ref 49, .ref lp, v]) Q E ⟨h, g, d, tk0, os⟩ from hh ⟨rfl, rfl⟩
  k_fill
  intro _
  have KX := V.X
  obtain ⟨va, rfl, n29⟩ : ∃ a, v = .ref a ∧ a ≠ 29 := by
    obtain ⟨a, e, ra, ta, rvs, tvs, e1, _, z, _⟩ := id St
    refine ⟨a, e1, fun q => ?_⟩
    rw [q, KX 29 _ (by kernel_rfl : (myK w.params).lookup 29 = some (objAt 29 w.params))] at z
    cases z
  have hcd : h.CodeRec (.ref 36) (Str.ofString "reduce") := codeRec_of (V.X.keeps k0) (by kernel_rfl)
  have ho := k0 _ _ (KX _ _ (reduce_ho _))
  have hd : ∃ kV doc pm an ct, (objAt 37 w.params).data = .func (fnX (Str.ofString "reduce") (Str.ofString "reduce") (sParams (tDef 4)) (sBody (tDef 4)) (sScope (tDef 4)) [] (.ref 30) kV doc pm an (.ref 36) ct) := ⟨_, _, _, _, _, reduce_data w.params⟩
  obtain ⟨kV, doc, pm, an, ct, hd⟩ := hd
  generalize objAt 37 w.params = o at ho hd
  obtain ⟨oc, od, odata, osl⟩ := o
  dsimp only at hd
  subst hd
  refine enter_def (args := ⟨[.ref 49, .ref lp, .ref va], []⟩) (binds := [(Str.ofString "function", .ref 49), (Str.ofString "sequence", .ref lp), (Str.ofString "initial", .ref va)]) ho hcd (V.keeps k0).nolimit (BindsTo.of_defaults (T := 30) rfl (k0 _ _ (KX _ _ (miss_ho _))) (miss_data _) (by rfl) (by kernel_rfl)) (by decide) (by kernel_rfl) (by kernel_rfl) ⟨by kernel_rfl, by kernel_rfl, by kernel_rfl⟩ (fun L h₁ tk hL F => ?_)
  obtain ⟨p, loose, mean, mg, mb, T⟩ := V.T
  have TR := topRead_of T
  have F0 := fr_base k0 z0 F
  have S1 := S.keeps F.keep
  have St1 := St.sq (Keeps.sq (h := h) F.keep)
  have hLI : L < h₁.objs.size := by
    obtain ⟨oL, _, _, e, _⟩ := F0.ns
    exact Heap.lt_size e
  have hLe : h.objs.size ≤ L := Nat.le_of_eq hL.symm
  have m1 := mem_rest hl hlz (seq_ne23 S hl rfl)
  obtain ⟨ov, hov, hovc, mv⟩ : ∃ ov, h.get? va = some ov ∧ ov.cls = .type "tuple" ∧ (va, ov) ∈ restOf g₀ h := by
    obtain ⟨a, e, ra, ta, rvs, tvs, e1, e2, z, _⟩ := id St
    cases e1
    exact ⟨_, e2, rfl, mem_rest e2 z (seq_ne23 S e2 rfl)⟩
  obtain ⟨tt, htt, htS⟩ := S1.seg h23
  have Nr : News g₀ L h₁ (restOf g₀ h) := news_rest F.keep hLe
  have N00 := news_tab F0 Nr htt
  have N0 : News g₀ L h₁ ((lp, seqObj "list" its.toArray c) :: (va, ov) :: (restOf g₀ h ++ tt)) := fun p hp => by
    rcases List.mem_cons.mp hp with rfl | hp
    · exact N00 _ (List.mem_append_left _ m1)
    · rcases List.mem_cons.mp hp with rfl | hp
      · exact N00 _ (List.mem_append_left _ mv)
      · exact N00 _ hp
  clear N00 Nr htt
  have K1 : Keeps h h₁ := F.keep
  clear F
  dsimp only at F0 ⊢
  obtain ⟨SC, eS⟩ : ∃ SC, sScope (tDef 4) = SC := ⟨_, rfl⟩
  obtain ⟨BD, eB⟩ : ∃ BD, sBody (tDef 4) = BD := ⟨_, rfl⟩
  have eS' := eS
  have eB' := eB
  simp only [sScope, tDef, PW, PySem.Challenge.pw_dw5009_01, List.getElem?_cons_succ, List.getElem?_cons_zero, Option.getD_some] at eS'
  simp only [sBody, tDef, PW, PySem.Challenge.pw_dw5009_01, List.getElem?_cons_succ, List.getElem?_cons_zero, Option.getD_some] at eB'
  rw [eS, eB]
  clear eS eB
  subst eS'
  subst eB'
  iterate 8 (first | walk1 | (dsimp only; walk1))
  refine iter_list (N0.isList (.head _)) ?_
  have F1 := F0.push (o := { cls := .type "list_iterator", data := .fields #[.ref lp, .int 0 0] })
  have N1 := News.push F0 N0 { cls := .type "list_iterator", data := .fields #[.ref lp, .int 0 0] } rfl
  iterate 7 (first | walk1 | (dsimp only; walk1))
  rename_i h₂ F2 N2
  refine is_tuple_other (N2 (va, ov) (by simp)).1 (F2.keep _ _ (KX 29 _ (by kernel_rfl : (myK w.params).lookup 29 = some (objAt 29 w.params)))) n29 (fun q => nomatch (show Value.type "object" = Value.type "tuple" from (miss_cls w.params).symm.trans q)) ?_
  iterate 7 (first | walk1 | (dsimp only; walk1))
  rename_i h₃ F3 N3
  generalize h₁.objs.size = I at F3 N3 hLI ⊢
  have u3 : UpT h h₃ := up_end k0 F3 (fun p hp => N3 p (by simp [hp]))
  have S3 : TabS g₀ h₃ := htS _ fun p hp => (N3 p (by simp [hp])).1
  have it3 : h₃.IsListIter I lp 0 := ⟨_, (N3 _ (.head _)).1, rfl, rfl⟩
  have nI : g₀.get? I = none := (N3 _ (.head _)).2.2
  have St3 := St.sq (UpT.sq u3 S)
  clear N3 htS
  dsimp only
  walk1
  refine wpAny_For ?_
  walk1
  refine wpAny_pyIter_listiter it3 ?_
  rw [← redM0 lp va I] at F3
  have hIL : I ≠ L := Nat.ne_of_gt hLI
  have hlen := hi.length
  have hln : lp ≠ 23 := seq_ne23 S hl rfl
  refine codeAny_forLoop (fun n s' => ∃ h' tk' i st v e, s' = ⟨h', g, d, tk', os⟩ ∧ h'.IsListIter I lp i ∧ Fr g₀ L h' (redM lp va I e v) ∧ UpT h h' ∧ TabS g₀ h' ∧ StO g₀ h' v st ∧ i ≤ its.length ∧ n = its.length + 1 - i ∧ (∀ r, EG.Run (ps.drop i) st r → EG.Run ps (some (row, ties)) r) ∧ (∀ x, st = some x → Ok (ps.length - i) x.1 x.2)) ?_ (its.length + 1)
    ⟨h₃, _, 0, some (row, ties), .ref va, none, rfl, it3, F3, u3, S3, St3, Nat.zero_le _, rfl, fun r hr => hr, fun x hx => by cases hx; exact ok0⟩
  rintro n s' ⟨h', tk', i, st, v, e, rfl, it', F', u', S', St', hile, rfl, hrun, hok⟩
  have hl' : h'.IsList lp its.toArray := ⟨_, u' lp _ hln hl, rfl, _, rfl⟩
  obtain ⟨oI, eI, cI, dI⟩ := id it'
  have nsI : ∀ xs n, oI.data ≠ .seq xs n := fun xs n q => by rw [dI] at q; cases q
  by_cases hlt : i < its.length
  · obtain ⟨t, hx⟩ := hi.get hlt
    refine wpAny_pyNext_list_item it' hl' (by rw [List.getElem?_toArray]; exact hx) fun h₄ it4 sb4 => ?_
    have F4 := F'.change sb4 hIL nI
    have S4 : TabS g₀ h₄ := S'.but h23 sb4.extBut eI cI
    have u4 := u'.but sb4.extBut (Nat.le_of_lt (Nat.lt_of_le_of_lt hLe hLI))
    have St4 := St'.sq (Sq.of_extBut sb4.extBut eI nsI)
    dsimp only
    refine wpAny_assign_Name (wpAny_storeName_local (by kernel_rfl) F4.ns (fun h₅ n5 sb5 => ?_) (by kernel_rfl))
    have F5 := F4.set n5 sb5
    try dsimp only at F5
    rw [redM1] at F5
    obtain ⟨oL, esL, epL, eL, dL, _⟩ := id F4.ns
    have S5 : TabS g₀ h₅ := S4.butL h23 sb5.extBut F4.ns
    have u5 := u4.but sb5.extBut hLe
    have St5 := St4.sq (Sq.of_extBut sb5.extBut eL (fun xs n q => by rw [dL] at q; cases q))
    have it5 := it4.extBut sb5.extBut hIL
    clear it' F' u' S' St' hl' eI it4 sb4 F4 S4 u4 St4 n5 sb5 eL dL F3 u3 S3 it3 St3
    unfold redM at F5
    have N5 : News g₀ L h₅ [] := News.nil
    iterate 4 (first | walk1 | (dsimp only; walk1))
    have fn : ∀ h', Keeps g₀ h' → FnAt 49 h' := fun h' hk => ⟨_, _, _, _, hk _ _ (KX _ _ (round_ho _))⟩
    refine callWith_F (fn _ F5.keep) ?_
    k_steps
    · exact fn _ F5.keep
    have hpd : ps.drop i = ps.getD i 0 :: ps.drop (i + 1) := by
      rw [List.drop_eq_getElem_cons (by omega), List.getD_eq_getElem?_getD, List.getElem?_eq_getElem (by omega)]; rfl
    generalize ps.getD i 0 = pk at hpd F5 ⊢
    have zz : g₀.objs.size ≤ h₅.objs.size := Nat.le_of_lt (Nat.lt_of_le_of_lt F5.above (by obtain ⟨oL, _, _, e, _⟩ := F5.ns; exact Heap.lt_size e))
    have n23 : I ≠ 23 := fun q => by
      obtain ⟨_, e5⟩ := S5.at23
      obtain ⟨_, e6, d6, _⟩ := id it5
      rw [q, e5] at e6
      rw [← Option.some.inj e6] at d6
      cases d6
    cases st with
    | none =>
      cases St5
      refine wpAny_cap 370 900 (round_none (V.keeps F5.keep) fun h₆ tk₆ k₆ => ?_)
      have F6 := F5.kept k₆
      have u6 : UpT h h₆ := fun b o n e => k₆ _ _ (u5 b o n e)
      have S₆ := S5.keeps k₆
      have St6 : StO g₀ h₆ .none none := rfl
      refine wpAny_storeName_local (by kernel_rfl) F6.ns (fun h₇ n7 sb7 => ?_) (by kernel_rfl)
      have F7 : Fr g₀ L h₇ (redM lp va I (some (.int pk t)) .none) := by
        exact (congrArg (Fr g₀ L h₇) (redM2 lp va I (some (.int pk t)) .none .none)).mp (F6.set n7  sb7)
      obtain ⟨oL, esL, epL, eL, dL, _⟩ := id F6.ns
      have S7 : TabS g₀ h₇ := S₆.butL h23 sb7.extBut F6.ns
      have u7 := u6.but sb7.extBut hLe
      have St7 := St6.sq (Sq.of_extBut sb7.extBut eL (fun xs n q => by rw [dL] at q; cases q))
      have it7 := (it5.at fun o e => k₆ _ _ e).extBut sb7.extBut hIL
      refine wpAny_execs_nil ?_
      dsimp only
      refine ⟨its.length + 1 - (i + 1), by omega, h₇, _, i + 1, none, _, _, rfl, it7, F7, u7, S7, St7, hlt, rfl, fun rr hrr => hrun rr ?_, ?_⟩
      · rw [hpd]; exact .none hrr
      · intro x hx; cases hx
    | some st =>
      obtain ⟨hh1, hh2⟩ := okS (ps.length - (i + 1)) st.1 st.2 (by rw [show ps.length - (i + 1) + 1 = ps.length - i by omega]; exact hok _ rfl)
      refine wpAny_cap 370 900 (round_some V h23 F5.keep S5 St5 zz hh1.1 hh1.2.1 hh1.2.2.1 hh1.2.2.2 fun LL h₆ tk₆ r pL sL u₆ S₆ hr => ?_)
      have St6 : StO g₀ h₆ r (stepL LL st.2 pk) := by
        cases e : stepL LL st.2 pk with
        | none => rw [e] at hr; exact hr
        | some x => rw [e] at hr; exact hr
      have F6 := fr_up h23 S5 F5 u₆
      have u6 : UpT h h₆ := fun b o n e => u₆ _ _ n (u5 b o n e)
      refine wpAny_storeName_local (by kernel_rfl) F6.ns (fun h₇ n7 sb7 => ?_) (by kernel_rfl)
      have F7 : Fr g₀ L h₇ (redM lp va I (some (.int pk t)) r) := by
        exact (congrArg (Fr g₀ L h₇) (redM2 lp va I (some (.int pk t)) v r)).mp (F6.set n7  sb7)
      obtain ⟨oL, esL, epL, eL, dL, _⟩ := id F6.ns
      have S7 : TabS g₀ h₇ := S₆.butL h23 sb7.extBut F6.ns
      have u7 := u6.but sb7.extBut hLe
      have St7 := St6.sq (Sq.of_extBut sb7.extBut eL (fun xs n q => by rw [dL] at q; cases q))
      have it7 := (it5.at fun o e => u₆ _ _ n23 e).extBut sb7.extBut hIL
      refine wpAny_execs_nil ?_
      dsimp only
      refine ⟨its.length + 1 - (i + 1), by omega, h₇, _, i + 1, stepL LL st.2 pk, _, _, rfl, it7, F7, u7, S7, St7, hlt, rfl, fun rr hrr => hrun rr ?_, ?_⟩
      · rw [hpd]; exact .some pL sL hrr
      · intro x hx; exact hh2 LL pk pL sL x hx
  · have hin : i = its.length := Nat.le_antisymm hile (Nat.not_lt.mp hlt)
    refine wpAny_pyNext_list_end rfl it' hl' (by rw [List.getElem?_toArray]; exact List.getElem?_eq_none (Nat.not_lt.mp hlt)) fun h₄ eb4 => wpAny_execs_nil ?_
    have F4 : Fr g₀ L h₄ (redM lp va I e v) := ⟨F'.ns.extBut eb4 (Ne.symm hIL), fun b o q => eb4 b o (fun qq => by rw [qq, nI] at q; cases q) (F'.keep b o q), F'.above⟩
    have S4 : TabS g₀ h₄ := S'.but h23 eb4 eI cI
    have u4 := u'.but eb4 (Nat.le_of_lt (Nat.lt_of_le_of_lt hLe hLI))
    have St4 := St'.sq (Sq.of_extBut eb4 eI nsI)
    clear it' F' u' S' St' hl' eI eb4
    unfold redM at F4
    have N4 : News g₀ L h₄ [] := News.nil
    dsimp only
    k_steps
    dsimp only
    have hd0 : ps.drop i = [] := List.drop_eq_nil_of_le (by omega)
    rw [hd0] at hrun
    exact hQ st h₄ _ v (hrun _ .nil) u4 S4 St4
end Mine
end
section
open PySem PySem.W PyProof.Rows PySem.W.X
namespace Mine
set_option maxRecDepth 100000
set_option maxHeartbeats 4000000
local macro_rules | `(tactic| k_is) => `(tactic| first | exact G_cmp _ | exact G_fuller _ | exact G_le _ | exact G_reduce _ | exact G_round _ | exact G_fits _ | exact G_holds _ | exact G_missing _ | exact G_sorted _ | exact G_len _ | exact G_sum _ | exact G_range _ | exact G_min _ | exact G_max _ | exact G_iter _ | exact G_next _)
theorem fits_ho (P : Params) : (myK P).lookup 54 = some (objAt 54 P) := by kernel_rfl
theorem fits_data (P : Params) : (objAt 54 P).data = .func (Calls.docDef (Str.ofString "_law_fits") (sParams (tDef 8)) (sBody (tDef 8)) (sScope (tDef 8)) (fnPm (objAt 54 P)) (.ref 53) (fnDoc (objAt 54 P))) := by kernel_rfl
theorem le_ho (P : Params) : (myK P).lookup 21 = some (objAt 21 P) := by kernel_rfl
theorem fits_call {w : World} {g : Array GenState} {d : Drawn} {os : OsState} {E : Value → Shared → Prop} {g₀ h : Heap} {tk0 : Nat} (V : Env0 w g₀) (h23 : g₀.get? 23 = none) (k0 : Keeps g₀ h) (S : TabS g₀ h) (z0 : g₀.objs.size ≤ h.objs.size)
    {l : Addr} {vs : List Value} {ns : List Int} {n : Nat} (hl : h.get? l = some (seqObj "list" vs.toArray n)) (hlz : g₀.get? l = none) (hi : IntsAre vs ns) (hlen : ns.length < 64)
    {Q : Value → Shared → Prop} (hQ : ∀ h' tk b, UpT h h' → TabS g₀ h' → (b = true ↔ ns.sum % 2 = 0 ∧ EG.Fits ns) → Q (.bool b) ⟨h', g, d, tk, os⟩) :
    wpAny (model PW w) (capA 370 900) (PySem.call (.ref 54) [.ref l]) Q E ⟨h, g, d, tk0, os⟩ := by
  w_top off
  suffices hh : (PySem.Challenge.rw_dw5009_01 = PySem.Challenge.rw_dw5009_01 ∧ myK = myK) → wpAny (model PW w) (capA 370 900) (PySem.call (.ref 54) [.ref l]) Q E ⟨h, g, d, tk0, os⟩ from hh ⟨rfl, rfl⟩
  k_fill
  intro _
  have KX := V.X
  have hcd : h.CodeRec (.ref 53) (Str.ofString "_law_fits") := codeRec_of (V.X.keeps k0) (by kernel_rfl)
  refine wpAny_call (call_cellsN_ret (binds := [(Str.ofString "row", .ref l)]) (by decide) (k0 _ _ (KX _ _ (fits_ho _))) (fits_data _) (V.keeps k0).nolimit hcd (by kernel_rfl) ?_ ?_ (fun h₁ tk cells F N CA => ?_) (by kernel_rfl) (by kernel_rfl) (by kernel_rfl))
  · intro x hx
    rcases List.mem_cons.mp hx with rfl | hx
    · exact .inl (by kernel_rfl)
    · cases hx
  · rw [show List.map (fun x => x.fst) (cellsFrom 0 (sScope (tDef 8)).names []) = [Str.ofString "k"] by kernel_rfl]
    exact List.nodup_cons.mpr ⟨List.not_mem_nil, List.nodup_nil⟩
  dsimp only at F N CA ⊢
  rw [show cellsFrom (h.objs.size + 1) (sScope (tDef 8)).names [] = [(Str.ofString "k", h.objs.size + 1)] by kernel_rfl] at CA
  obtain ⟨oc, rfl, hcd'⟩ := CA.one
  obtain ⟨p, loose, mean, mg, mb, T⟩ := V.T
  have F0 := fr_base k0 z0 F
  have S1 := S.keeps F.keep
  have hzc : g₀.get? (h.objs.size + 1) = none := Heap.get?_none_of_le (Nat.le_trans z0 (Nat.le_succ _))
  have m1 := mem_rest hl hlz (seq_ne23 S hl rfl)
  obtain ⟨tt, htt, htS⟩ := S1.seg h23
  have Nr := news_tab F0 (news_rest F.keep (Nat.le_refl _)) htt
  have N0 : News g₀ h.objs.size h₁ ((h.objs.size + 1, oc) :: (l, seqObj "list" vs.toArray n) :: (restOf g₀ h ++ tt)) := news_cons (news_cons Nr (Nr _ (List.mem_append_left _ m1)).1 hlz (Nr _ (List.mem_append_left _ m1)).2.1) (N _ (.head _)).1 hzc (Nat.succ_ne_self _)
  have K1 : Keeps h h₁ := F.keep
  have hcl : l ≠ h.objs.size + 1 := fun q => absurd (Heap.lt_size hl) (by rw [q]; exact Nat.not_lt.mpr (Nat.le_succ _))
  have hdL : ∀ p ∈ restOf g₀ h ++ tt, p.1 ≠ h.objs.size + 1 := fun p hp => by
    rcases List.mem_append.mp hp with hp | hp
    · exact Nat.ne_of_lt (Nat.lt_succ_of_lt (Heap.lt_size (of_rest hp).1))
    · intro q
      obtain ⟨e1, _, _, e2⟩ := htt p hp
      rw [q, (N0 _ (.head _)).1] at e1
      rw [← Option.some.inj e1, hcd'] at e2
      cases e2
  have hrU : ∀ p ∈ restOf g₀ h, p ∈ restOf g₀ h ++ tt := fun p hp => List.mem_append_left _ hp
  replace htS : ∀ h', (∀ p ∈ restOf g₀ h ++ tt, h'.get? p.1 = some p.2) → TabS g₀ h' := fun h' hh => htS h' fun p hp => hh p (List.mem_append_right _ hp)
  clear F N Nr htt
  generalize restOf g₀ h ++ tt = rest at *
  have TR := topRead_of T
  have hvl : vs.length = ns.length := hi.length
  obtain ⟨SC, eS⟩ : ∃ SC, sScope (tDef 8) = SC := ⟨_, rfl⟩
  obtain ⟨BD, eB⟩ : ∃ BD, sBody (tDef 8) = BD := ⟨_, rfl⟩
  have eS' := eS
  have eB' := eB
  simp only [sScope, tDef, PW, PySem.Challenge.pw_dw5009_01, List.getElem?_cons_succ, List.getElem?_cons_zero, Option.getD_some] at eS'
  simp only [sBody, tDef, PW, PySem.Challenge.pw_dw5009_01, List.getElem?_cons_succ, List.getElem?_cons_zero, Option.getD_some] at eB'
  rw [eS] at F0 CA hcd' ⊢
  rw [eB]
  clear eS eB
  subst eS'
  subst eB'
  iterate 16 (first | walk1 | (dsimp only; walk1))
  rename_i h₂ tk₂ t₂ F2 N2
  by_cases c1 : ns.sum.fmod 2 = 1
  · rw [if_pos (by simpa using c1)]
    k_steps
    dsimp only
    refine hQ h₂ _ false (up_end k0 F2 fun p hp => N2 p (by simp [hrU p hp])) (htS _ fun p hp => (N2 p (by simp [hp])).1) ⟨fun q => (nomatch q), fun q => ?_⟩
    rw [Int.fmod_eq_emod_of_nonneg _ (by decide)] at c1
    omega
  · rw [if_neg (by simpa using c1)]
    iterate 3 (first | walk1 | (dsimp only; walk1))
    refine wpAny_For ?_
    iterate 18 (first | walk1 | (dsimp only; walk1))
    rename_i tk₃ h₃ tk₄ a1 a2 a3 R3 F3 N3 K3
    have hsm : Builtin.Range.small 1 ((ns.length : Int) + 1) 1 = true := small_one (by omega) (by omega) (by omega) (by omega)
    refine wpAny_pyIter_range R3 hsm ?_
    have hsz : Builtin.Range.rangeSize 1 ((ns.length : Int) + 1) 1 = ns.length := by
      refine (rangeSize_nat _ _).trans ?_
      omega
    rw [hsz]
    have F4 := F3.push (o := { cls := .type "range_iterator", data := .fields #[rawInt 1, rawInt ns.length, rawInt 1] })
    have N4 := News.push F3 N3 { cls := .type "range_iterator", data := .fields #[rawInt 1, rawInt ns.length, rawInt 1] } rfl
    have offI : ∀ p ∈ ((h.objs.size + 1, oc) :: (l, seqObj "list" vs.toArray n) :: rest), p.1 ≠ h₃.objs.size := fun p hp => Nat.ne_of_lt (Heap.lt_size (N3 p hp).1)
    have hLI : h.objs.size ≠ h₃.objs.size := by
      obtain ⟨oL, _, _, e, _⟩ := F3.ns
      exact Nat.ne_of_lt (Heap.lt_size e)
    have it4 : IsRangeIter (h₃.push { cls := .type "range_iterator", data := .fields #[rawInt 1, rawInt ns.length, rawInt 1] }) h₃.objs.size (1 + ((0 : Nat) : Int)) ((ns.length : Int) - ((0 : Nat) : Int)) 1 := by
      have := (N4 _ (.head _)).1
      simpa using this
    have nI : g₀.get? h₃.objs.size = none := (N4 _ (.head _)).2.2
    have N4' : News g₀ h.objs.size (h₃.push { cls := .type "range_iterator", data := .fields #[rawInt 1, rawInt ns.length, rawInt 1] }) ((h.objs.size + 1, oc) :: (l, seqObj "list" vs.toArray n) :: rest) := fun p hp => N4 p (List.mem_cons_of_mem _ hp)
    clear N4 F3 N3 R3
    generalize h₃.push { cls := .type "range_iterator", data := .fields #[rawInt 1, rawInt ns.length, rawInt 1] } = h₄ at *
    generalize h₃.objs.size = I at *
    have N4 := N4'
    clear N4'
    have hIc : h.objs.size + 1 ≠ I := offI _ (.head _)
    refine codeAny_forLoop (fun k s' => ∃ h' tk' i ock, s' = ⟨h', g, d, tk', os⟩ ∧ IsRangeIter h' I (1 + ((i : Nat) : Int)) ((ns.length : Int) - (i : Nat)) 1 ∧ Fr g₀ h.objs.size h' _ ∧ News g₀ h.objs.size h' ((h.objs.size + 1, ock) :: (l, seqObj "list" vs.toArray n) :: rest) ∧ (∃ v, ock.data = .cell v) ∧ i ≤ ns.length ∧ k = ns.length + 1 - i ∧
        (∀ j : Nat, 1 ≤ j → j ≤ i → (ns.take j).sum ≤ (j : Int) * (j - 1) + EG.cutSum j (ns.drop j))) ?_ (ns.length + 1)
      ⟨h₄, _, 0, oc, rfl, it4, F4, N4, ⟨_, hcd'⟩, Nat.zero_le _, rfl, fun j h1 h2 => absurd h1 (by omega)⟩
    clear hcd'
    rintro k s' ⟨h', tk', i, ock, rfl, it', F', N', ⟨v0, hcd'⟩, hile, rfl, hfit⟩
    have offI' : ∀ p ∈ ((h.objs.size + 1, ock) :: (l, seqObj "list" vs.toArray n) :: rest), p.1 ≠ I := fun p hp => by
      rcases List.mem_cons.mp hp with rfl | hp
      · exact hIc
      · exact offI p (List.mem_cons_of_mem _ hp)
    by_cases hlt : i < ns.length
    · refine wpAny_pyNext_range_item it' (by omega) fun h₅ it5 sb5 => ?_
      have F5 := F'.change sb5 (Ne.symm hLI) nI
      have N5 : News g₀ h.objs.size h₅ ((h.objs.size + 1, ock) :: (l, seqObj "list" vs.toArray n) :: rest) := fun p hp => ⟨sb5.extBut _ _ (offI' p hp) (N' p hp).1, (N' p hp).2⟩
      have N6 : News g₀ h.objs.size h₅ ((h.objs.size + 1, ock) :: (I, _) :: (l, seqObj "list" vs.toArray n) :: rest) := news_cons (news_cons (fun p hp => N5 p (List.mem_cons_of_mem _ hp)) it5 nI (Ne.symm hLI)) (N5 _ (.head _)).1 (N5 _ (.head _)).2.2 (N5 _ (.head _)).2.1
      have hcI : I ≠ h.objs.size + 1 := Ne.symm hIc
      clear F' N' N5 it' F4 N4 it4
      dsimp only
      refine wpAny_assign_Name ?_
      refine' storeX_C ?kf ?kn ?kc ?ku ?kd ?_
      (case kf => k_asm)
      (case kn => k_asm)
      (case kc => with_unfolding_all rfl)
      (case ku => exact .head (List.forall_mem_cons.mpr ⟨hcI, List.forall_mem_cons.mpr ⟨hcl, hdL⟩⟩))
      (case kd => exact hcd')
      intro h₆ ok₆ F6 N6' hd6
      clear N6 F5
      iterate 7 (first | walk1 | (dsimp only; walk1))
      have fn : ∀ h', Keeps g₀ h' → FnAt 21 h' := fun h' hk => ⟨_, _, _, _, hk _ _ (KX _ _ (le_ho _))⟩
      refine callWith_F (fn _ F6.keep) ?_
      have hk0 : (0 : Int) ≤ 1 + (i : Int) := by omega
      iterate 28 (first | walk1 | (dsimp only; walk1))
      rename_i hA FA NA
      refine LCg.ListComp_U (F₀ := FA) (cl := [(Str.ofString "k", h.objs.size + 1)]) (by with_unfolding_all rfl) (by decide) (by rfl) (by decide) (by rfl) ?_
      iterate 8 (first | walk1 | (dsimp only; walk1))
      rename_i D2 ws2 hB FB NB hI2 hC2 hL2 l2
      have hws2 : ws2.length ≤ 64 := by
        have := hI2.length
        omega
      refine LCg.CompSrc.ledger rfl FB NB (.head _) (by rw [List.size_toArray, sizeLine_eq]; omega) (fun g' => ?_)
      refine kcf_list (fun x => min x (1 + (i : Int))) hI2 (fun k' t' I' oI' C' oC' D' m' ys' h' tk' E' hk' hC' hx' F' N' off' ne' hMark' => ?_) ?_
      · walk1
        refine LCgL.ld_built F' KX T (G_min _) (by boot_by_name) (by decide) ?_
        iterate 7 (first | walk1 | (dsimp only; walk1))
        walk1
        exact ⟨rfl, _, congrArg (fun z => Value.int z _) (by split <;> omega)⟩
      · unfold KPfDone
        intro ys hys
        have hyl := hys.length
        rw [List.length_map] at hyl
        iterate 6 (first | walk1 | (dsimp only; walk1))
        · exact fn _ (Fr.keep (by assumption))
        rename_i D3 h7 tk7 F7 N7 o7 h8 tk8 t8 F8 N8
        refine wpAny_cap 400 1000 (le_gt (KX.keeps F8.keep) fun h9 tk9 k9 => ?_)
        have F9 := F8.kept k9
        have N9 : News g₀ h.objs.size h9 ((h.objs.size + 1, ok₆) :: (I, _) :: (l, seqObj "list" vs.toArray n) :: rest) := fun p hp => (news_keeps N8 k9) p (List.mem_cons_of_mem _ (List.mem_cons_of_mem _ (List.mem_cons_of_mem _ hp)))
        clear F7 N7 F8 N8
        have ecut : (ns.drop (i + 1)).map (fun x => min x (1 + (i : Int))) = (ns.drop (i + 1)).map (fun x => min x ((i + 1 : Nat) : Int)) := by
          apply List.map_congr_left; intro x _; rw [show (1 + (i : Int)) = ((i + 1 : Nat) : Int) by omega]
        have eN : (1 + (i : Int)).toNat = i + 1 := by omega
        have eP : (1 + (i : Int)) * (1 + (i : Int) - 1) = ((i + 1 : Nat) : Int) * (((i + 1 : Nat) : Int) - 1) := by rw [show (1 + (i : Int)) = ((i + 1 : Nat) : Int) by omega]
        rw [eN, eP, ecut]
        by_cases c2 : (ns.take (i + 1)).sum ≤ ((i + 1 : Nat) : Int) * (((i + 1 : Nat) : Int) - 1) + EG.cutSum (i + 1) (ns.drop (i + 1))
        · rw [decide_eq_true (show (ns.take (i + 1)).sum ≤ ((i + 1 : Nat) : Int) * (((i + 1 : Nat) : Int) - 1) + ((ns.drop (i + 1)).map (fun x => min x ((i + 1 : Nat) : Int))).sum from c2)]
          walk1
          rw [if_neg (by decide)]
          refine wpAny_execs_nil ?_
          dsimp only
          refine wpAny_execs_nil ?_
          dsimp only
          refine ⟨ns.length + 1 - (i + 1), by omega, h9, _, i + 1, ok₆, rfl, ?_, F9, fun p hp => ?_, ⟨_, hd6⟩, hlt, rfl, fun j h1 h2 => ?_⟩
          · have := (N9 _ (List.mem_cons_of_mem _ (.head _))).1
            rw [show (1 + ((i + 1 : Nat) : Int)) = 1 + (i : Int) + 1 by omega, show ((ns.length : Int) - ((i + 1 : Nat) : Int)) = (ns.length : Int) - i - 1 by omega]
            exact this
          · refine N9 p ?_
            rcases List.mem_cons.mp hp with h | h
            · simp [h]
            · exact List.mem_cons_of_mem _ (List.mem_cons_of_mem _ h)
          · by_cases hj : j = i + 1
            · rw [hj]; exact c2
            · exact hfit j h1 (by omega)
        · rw [decide_eq_false (show ¬ (ns.take (i + 1)).sum ≤ ((i + 1 : Nat) : Int) * (((i + 1 : Nat) : Int) - 1) + ((ns.drop (i + 1)).map (fun x => min x ((i + 1 : Nat) : Int))).sum from c2)]
          walk1
          rw [if_pos (by decide)]
          k_steps
          dsimp only
          refine hQ h9 _ false (up_end k0 F9 fun p hp => N9 p (by simp [hrU p hp])) (htS _ fun p hp => (N9 p (by simp [hp])).1) ⟨fun q => (nomatch q), fun q => absurd (q.2 (i + 1) (by omega) (by omega)) c2⟩
    · have hin : i = ns.length := Nat.le_antisymm hile (Nat.not_lt.mp hlt)
      refine wpAny_pyNext_range_end rfl it' (by omega) fun h₅ eb5 => wpAny_execs_nil ?_
      have F5 : Fr g₀ h.objs.size h₅ _ := ⟨F'.ns.extBut eb5 hLI, fun b o q => eb5 b o (fun qq => by rw [qq, nI] at q; cases q) (F'.keep b o q), F'.above⟩
      have N5 : News g₀ h.objs.size h₅ ((h.objs.size + 1, ock) :: (l, seqObj "list" vs.toArray n) :: rest) := fun p hp => ⟨eb5 _ _ (offI' p hp) (N' p hp).1, (N' p hp).2⟩
      clear F' N' F4 N4
      dsimp only
      k_steps
      dsimp only
      refine hQ h₅ _ true (up_end k0 F5 fun p hp => N5 p (by simp [hrU p hp])) (htS _ fun p hp => (N5 p (by simp [hp])).1) ⟨fun _ => ⟨?_, fun k h1 h2 => hfit k h1 (by omega)⟩, fun _ => rfl⟩
      rw [Int.fmod_eq_emod_of_nonneg _ (by decide)] at c1
      omega
end Mine
end
section
open PySem PySem.W PyProof.Rows PySem.W.X
namespace Mine
set_option maxRecDepth 100000
set_option maxHeartbeats 4000000
local macro_rules | `(tactic| k_is) => `(tactic| first | exact G_cmp _ | exact G_fuller _ | exact G_le _ | exact G_reduce _ | exact G_round _ | exact G_fits _ | exact G_holds _ | exact G_missing _ | exact G_sorted _ | exact G_len _ | exact G_sum _ | exact G_range _ | exact G_min _ | exact G_max _ | exact G_iter _ | exact G_next _)
theorem holds_ho (P : Params) : (myK P).lookup 59 = some (objAt 59 P) := by kernel_rfl
def fnCt' (o : Obj) : Value := match o.data with | .func fd => fd.closureTuple | _ => .none
def fnAn' (o : Obj) : Option Addr := match o.data with | .func fd => fd.annotations | _ => none
theorem holds_data (P : Params) : (objAt 59 P).data = .func (fnX (Str.ofString "_law_holds") (Str.ofString "_law_holds") (sParams (tDef 9)) (sBody (tDef 9)) (sScope (tDef 9)) [] .none .none (fnDoc (objAt 59 P)) (fnPm (objAt 59 P)) (fnAn' (objAt 59 P)) (.ref 58) (fnCt' (objAt 59 P))) := by kernel_rfl
theorem off1_all {D : Addr} : ∀ {l : List (Addr × Obj)}, LCg.Off1 D l → ∀ p ∈ l, p.1 ≠ D
  | [], _ => fun _ h => nomatch h
  | _ :: _, h => fun p hp => by
    rcases List.mem_cons.mp hp with rfl | hp
    · exact h.1
    · exact off1_all h.2 p hp
theorem allLt_all {D : Addr} : ∀ {l : List (Addr × Obj)}, AllLt D l → ∀ p ∈ l, p.1 ≠ D
  | [], _ => fun _ h => nomatch h
  | _ :: _, h => fun p hp => by
    rcases List.mem_cons.mp hp with rfl | hp
    · exact Nat.ne_of_lt h.1
    · exact allLt_all h.2 p hp
/-- how often each place stands in the ties -/
def countsOf (n : Nat) (ties : List (Int × Int)) : List Int := (List.range n).map fun (i : Nat) => EG.occ (i : Int) ties
/-- the locals of _law_holds -/
def holM (va l D1 sn : Addr) (ea eb ep : Option Value) : Str → Option Value := fun y => if y = Str.ofString "pair" then ep else if y = Str.ofString "b" then eb else if y = Str.ofString "a" then ea else
  if y = Str.ofString "seen" then some (Value.ref sn) else if y = Str.ofString "counts" then some (Value.ref D1) else List.lookup y [(Str.ofString "told", Value.ref va), (Str.ofString "row", Value.ref l)].reverse
theorem holM0 (va l D1 sn : Addr) : holM va l D1 sn none none none = fun y => if y = Str.ofString "seen" then some (Value.ref sn) else if y = Str.ofString "counts" then some (Value.ref D1) else (fun y => List.lookup y [(Str.ofString "told", Value.ref va), (Str.ofString "row", Value.ref l)].reverse) y := by
  funext y
  unfold holM
  by_cases h : y = Str.ofString "pair"
  · rw [if_pos h, h, if_neg (by decide), if_neg (by decide)]; kernel_rfl
  rw [if_neg h]
  by_cases h : y = Str.ofString "b"
  · rw [if_pos h, h, if_neg (by decide), if_neg (by decide)]; kernel_rfl
  rw [if_neg h]
  by_cases h : y = Str.ofString "a"
  · rw [if_pos h, h, if_neg (by decide), if_neg (by decide)]; kernel_rfl
  rw [if_neg h]
theorem holM1 (va l D1 sn : Addr) (ea eb ep : Option Value) (x y z : Value) : (fun q => if q = Str.ofString "pair" then some z else if q = Str.ofString "b" then some y else if q = Str.ofString "a" then some x else holM va l D1 sn ea eb ep q) = holM va l D1 sn (some x) (some y) (some z) := by
  funext q
  unfold holM
  by_cases h1 : q = Str.ofString "pair"
  · rw [if_pos h1, if_pos h1]
  · rw [if_neg h1]
    by_cases h2 : q = Str.ofString "b"
    · rw [if_pos h2, if_neg h1, if_pos h2]
    · rw [if_neg h2]
      by_cases h3 : q = Str.ofString "a"
      · rw [if_pos h3, if_neg h1, if_neg h2, if_pos h3]
      · rw [if_neg h3]; simp only [if_neg h1, if_neg h2, if_neg h3]
abbrev datP (p : Int × Int) : Dat := .tuple [.int p.1, .int p.2]
theorem PairsIn.dat {vs : List Value} {ps : List (Int × Int)} {l : List (Addr × Obj)} (x : PairsIn vs ps l) : DatAll l vs (ps.map datP) := by
  obtain ⟨h1, h2⟩ := x
  induction vs generalizing ps with
  | nil =>
    cases ps with
    | nil => exact .nil
    | cons _ _ => simp at h1
  | cons v vs ih =>
    cases ps with
    | nil => simp at h1
    | cons p ps =>
      obtain ⟨a, t, u, e, q1, q2⟩ := h2 0 (by simp)
      have q1' : v = .ref a := by simpa using q1
      subst q1'
      refine .cons (.tuple (vs := [.int p.1 t, .int p.2 u]) (n := e) q2 (.cons (.int _ _) (.cons (.int _ _) .nil))) (ih (by simpa using h1) fun i hi => ?_)
      obtain ⟨a', t', u', e', r1, r2⟩ := h2 (i + 1) (by simpa using hi)
      exact ⟨a', t', u', e', by simpa using r1, by simpa using r2⟩
theorem datP_ok (ps : List (Int × Int)) : ∀ d ∈ ps.map datP, kqdOk 8 d = true := fun d hd => by
  obtain ⟨p, _, rfl⟩ := List.mem_map.mp hd
  rfl
theorem ints_dat {vs : List Value} {ns : List Int} (x : IntsAre vs ns) : DatAll [] vs (ns.map Dat.int) := by
  induction x with
  | nil => exact .nil
  | cons n t _ ih => exact .cons (.int n t) ih
theorem ints_ok (ns : List Int) : ∀ d ∈ ns.map Dat.int, kqdOk 8 d = true := fun d hd => by
  obtain ⟨p, _, rfl⟩ := List.mem_map.mp hd
  rfl
theorem counts_step {n : Nat} {T : List (Int × Int)} {x y : Int} (hx : 0 ≤ x ∧ x < n) (hy : 0 ≤ y ∧ y < n) (hxy : x ≠ y) :
    (((countsOf n T).set x.toNat ((countsOf n T).getD x.toNat 0 + 1)).set y.toNat (((countsOf n T).set x.toNat ((countsOf n T).getD x.toNat 0 + 1)).getD y.toNat 0 + 1)) = countsOf n (T ++ [(x, y)]) := by
  have hlen : (countsOf n T).length = n := by simp [countsOf]
  have hget : ∀ j (h : j < n), (countsOf n T)[j]'(by omega) = EG.occ (j : Int) T := fun j h => by simp [countsOf]
  have hxn : x.toNat < n := by omega
  have hyn : y.toNat < n := by omega
  have hne : x.toNat ≠ y.toNat := by omega
  have e1 : (countsOf n T).getD x.toNat 0 = EG.occ x T := by
    rw [List.getD_eq_getElem?_getD, List.getElem?_eq_getElem (by omega), Option.getD_some, hget _ hxn, Int.toNat_of_nonneg hx.1]
  have e2 : ∀ z, ((countsOf n T).set x.toNat z).getD y.toNat 0 = EG.occ y T := fun z => by
    rw [List.getD_eq_getElem?_getD, List.getElem?_set_ne hne, List.getElem?_eq_getElem (by omega), Option.getD_some, hget _ hyn, Int.toNat_of_nonneg hy.1]
  rw [e1, e2]
  apply List.ext_getElem
  · simp [countsOf]
  · intro j h1 h2
    have hj : j < n := by simpa [countsOf] using h2
    have e3 : (countsOf n (T ++ [(x, y)]))[j] = EG.occ (j : Int) T + ((if x = (j : Int) then 1 else 0) + (if y = (j : Int) then 1 else 0)) := by
      simp [countsOf, EG.occ]
    rw [e3, List.getElem_set, List.getElem_set]
    by_cases c1 : y.toNat = j
    · rw [if_pos c1, if_neg (show ¬ x = (j : Int) by omega), if_pos (show y = (j : Int) by omega), show y = (j : Int) by omega]; omega
    · rw [if_neg c1, if_neg (show ¬ y = (j : Int) by omega)]
      by_cases c2 : x.toNat = j
      · rw [if_pos c2, if_pos (show x = (j : Int) by omega), show x = (j : Int) by omega]; omega
      · rw [if_neg c2, if_neg (show ¬ x = (j : Int) by omega), hget _ hj]; omega
theorem holds_call {w : World} {g : Array GenState} {d : Drawn} {os : OsState} {E : Value → Shared → Prop} {g₀ h : Heap} {tk0 : Nat} (V : Env0 w g₀) (h23 : g₀.get? 23 = none) (k0 : Keeps g₀ h) (S : TabS g₀ h) (z0 : g₀.objs.size ≤ h.objs.size)
    {v : Value} {ties : List (Int × Int)} (St : StG g₀ h v [] ties) {l : Addr} {vs : List Value} {ns : List Int} {n : Nat} (hl : h.get? l = some (seqObj "list" vs.toArray n)) (hlz : g₀.get? l = none) (hi : IntsAre vs ns) (hlen : ns.length < 64)
    (inv : EG.Inv ns [] ties) (htl : ties.length ≤ 1000)
    {Q : Value → Shared → Prop} (hQ : ∀ h' tk, UpT h h' → TabS g₀ h' → Q (.bool true) ⟨h', g, d, tk, os⟩) :
    wpAny (model PW w) (capA 370 900) (PySem.call (.ref 59) [v, .ref l]) Q E ⟨h, g, d, tk0, os⟩ := by
  w_top off
  suffices hh : (PySem.Challenge.rw_dw5009_01 = PySem.Challenge.rw_dw5009_01 ∧ myK = myK) → wpAny (model PW w) (capA 370 900) (PySem.call (.ref 59) [v, .ref l]) Q E ⟨h, g, d, tk0, os⟩ from hh ⟨rfl, rfl⟩
  k_fill
  intro _
  have KX := V.X
  obtain ⟨va, e, ra, ta, rvs, tvs, rfl, hst, zst, ⟨n1, hra, zra⟩, ⟨n2, hta, zta⟩, hp1, hp2⟩ := St
  cases hp1
  have hcd : h.CodeRec (.ref 58) (Str.ofString "_law_holds") := codeRec_of (V.X.keeps k0) (by kernel_rfl)
  have ho := k0 _ _ (KX _ _ (holds_ho _))
  have hd : ∃ doc pm an ct, (objAt 59 w.params).data = .func (fnX (Str.ofString "_law_holds") (Str.ofString "_law_holds") (sParams (tDef 9)) (sBody (tDef 9)) (sScope (tDef 9)) [] .none .none doc pm an (.ref 58) ct) := ⟨_, _, _, _, holds_data w.params⟩
  obtain ⟨doc, pm, an, ct, hd⟩ := hd
  generalize objAt 59 w.params = o at ho hd
  obtain ⟨oc, od, odata, osl⟩ := o
  dsimp only at hd
  subst hd
  refine enter_def (args := ⟨[.ref va, .ref l], []⟩) (binds := [(Str.ofString "told", .ref va), (Str.ofString "row", .ref l)]) ho hcd (V.keeps k0).nolimit (BindsTo.of_eq (by kernel_rfl)) (by decide) (by kernel_rfl) (by kernel_rfl) ⟨by kernel_rfl, by kernel_rfl, by kernel_rfl⟩ (fun L h₁ tk hL F => ?_)
  obtain ⟨p, loose, mean, mg, mb, T⟩ := V.T
  have TR := topRead_of T
  have F0 := fr_base k0 z0 F
  have S1 := S.keeps F.keep
  have hLe : h.objs.size ≤ L := Nat.le_of_eq hL.symm
  have m0 := mem_rest hl hlz (seq_ne23 S hl rfl)
  have m1 := mem_rest hst zst (seq_ne23 S hst rfl)
  have m2 := mem_rest hra zra (seq_ne23 S hra rfl)
  have m3 := mem_rest hta zta (seq_ne23 S hta rfl)
  have hmem := hp2.mem S
  have htl2 := hp2.length
  obtain ⟨tt, htt, htS⟩ := S1.seg h23
  have Nr := news_tab F0 (news_rest F.keep hLe) htt
  have hrU : ∀ p ∈ restOf g₀ h, p ∈ restOf g₀ h ++ tt := fun p hp => List.mem_append_left _ hp
  have hpin : PairsIn tvs ties (restOf g₀ h ++ tt) := ⟨htl2, fun i hi => let ⟨a, t, u, e, h1, h2⟩ := hmem i hi; ⟨a, t, u, e, h1, hrU _ h2⟩⟩
  replace htS : ∀ h', (∀ p ∈ restOf g₀ h ++ tt, h'.get? p.1 = some p.2) → TabS g₀ h' := fun h' hh => htS h' fun p hp => hh p (List.mem_append_right _ hp)
  have N0 : News g₀ L h₁ ((l, seqObj "list" vs.toArray n) :: (va, ⟨.type "tuple", none, .seq #[.ref ra, .ref ta] e, #[]⟩) :: (ra, seqObj "list" [].toArray n1) :: (ta, seqObj "list" tvs.toArray n2) :: (restOf g₀ h ++ tt)) := fun p hp => by
    simp only [List.mem_cons] at hp
    rcases hp with rfl | rfl | rfl | rfl | hp
    · exact Nr _ (hrU _ m0)
    · exact Nr _ (hrU _ m1)
    · exact Nr _ (hrU _ m2)
    · exact Nr _ (hrU _ m3)
    · exact Nr _ hp
  clear F Nr htt hmem
  generalize restOf g₀ h ++ tt = rest at *
  have hvl : vs.length = ns.length := hi.length
  dsimp only at F0 ⊢
  obtain ⟨SC, eS⟩ : ∃ SC, sScope (tDef 9) = SC := ⟨_, rfl⟩
  obtain ⟨BD, eB⟩ : ∃ BD, sBody (tDef 9) = BD := ⟨_, rfl⟩
  have eS' := eS
  have eB' := eB
  simp only [sScope, tDef, PW, PySem.Challenge.pw_dw5009_01, List.getElem?_cons_succ, List.getElem?_cons_zero, Option.getD_some] at eS'
  simp only [sBody, tDef, PW, PySem.Challenge.pw_dw5009_01, List.getElem?_cons_succ, List.getElem?_cons_zero, Option.getD_some] at eB'
  rw [eS, eB]
  clear eS eB
  subst eS'
  subst eB'
  walk1
  refine LCg.Assign_ListComp_U (F₀ := F0) (by rfl) (by with_unfolding_all rfl) (by with_unfolding_all rfl) (by decide) (by rfl) (by decide) (by rfl) (by rfl) (by rfl) ?_
  walk1
  refine LCg.CompSrc.ledger rfl F0 N0 (.head _) (by rw [List.size_toArray, sizeLine_eq]; omega) (fun g' => ?_)
  refine kcf_list (fun _ => 0) hi (fun k' t' I' oI' C' oC' D' m' ys' h' tk' E' hk' hC' hx' F' N' off' ne' hMark' => ?_) ?_
  · walk1
    walk1
    exact ⟨rfl, _, rfl⟩
  · unfold KPfDone
    intro cs hcs
    iterate 9 (first | walk1 | (dsimp only; walk1))
    refine wpAny_For ?_
    iterate 3 (first | walk1 | (dsimp only; walk1))
    rename_i D1 h6 tk6 o1 sn h7 l1 h8 F8 N8
    have mva := (N8 (va, ⟨.type "tuple", none, .seq #[.ref ra, .ref ta] e, #[]⟩) (by simp)).1
    refine item_tupleT (l := [.ref ra, .ref ta]) (j := 1) ⟨_, mva, rfl, _, rfl⟩ (by decide) (by decide) rfl rfl ?_
    have mta := (N8 (ta, seqObj "list" tvs.toArray n2) (by simp)).1
    refine wpAny_pyIter_list ⟨_, mta, rfl, _, rfl⟩ ?_
    have F9 := F8.push (o := { cls := .type "list_iterator", data := .fields #[.ref ta, .int 0 0] })
    have N9 := News.push F8 N8 { cls := .type "list_iterator", data := .fields #[.ref ta, .int 0 0] } rfl
    have offI : ∀ p ∈ ((sn, W.listOf #[] 0) :: (D1, LCg.lst cs) :: (l, seqObj "list" vs.toArray n) :: (va, ⟨.type "tuple", none, .seq #[.ref ra, .ref ta] e, #[]⟩) :: (ra, seqObj "list" [].toArray n1) :: (ta, seqObj "list" tvs.toArray n2) :: rest), p.1 ≠ h8.objs.size := fun p hp => Nat.ne_of_lt (Heap.lt_size (N8 p hp).1)
    have hLI : L ≠ h8.objs.size := by
      obtain ⟨oL, _, _, e, _⟩ := F8.ns
      exact Nat.ne_of_lt (Heap.lt_size e)
    have offs : ∀ p ∈ ((D1, LCg.lst cs) :: (l, seqObj "list" vs.toArray n) :: (va, ⟨.type "tuple", none, .seq #[.ref ra, .ref ta] e, #[]⟩) :: (ra, seqObj "list" [].toArray n1) :: (ta, seqObj "list" tvs.toArray n2) :: rest), p.1 ≠ sn := allLt_all (D := sn) l1
    have offc : ∀ p ∈ ((l, seqObj "list" vs.toArray n) :: (va, ⟨.type "tuple", none, .seq #[.ref ra, .ref ta] e, #[]⟩) :: (ra, seqObj "list" [].toArray n1) :: (ta, seqObj "list" tvs.toArray n2) :: rest), p.1 ≠ D1 := off1_all (D := D1) o1
    clear F8 N8 mva mta o1 l1
    generalize h8.push { cls := .type "list_iterator", data := .fields #[.ref ta, .int 0 0] } = h9 at *
    generalize h8.objs.size = I at *
    rw [← holM0 va l D1 sn] at F9
    have nI : g₀.get? I = none := (N9 _ (.head _)).2.2
    refine codeAny_forLoop_any (fun k s' => ∃ h' tk' i oi svs cvs b1 b2 prs ea eb ep, s' = ⟨h', g, d, tk', os⟩ ∧ Fr g₀ L h' (holM va l D1 sn ea eb ep) ∧
        News g₀ L h' ((I, oi) :: (sn, W.listOf (List.toArray svs) b1) :: (D1, W.listOf (List.toArray cvs) b2) :: (l, seqObj "list" vs.toArray n) :: (va, ⟨.type "tuple", none, .seq #[.ref ra, .ref ta] e, #[]⟩) :: (ra, seqObj "list" [].toArray n1) :: (ta, seqObj "list" tvs.toArray n2) :: (prs ++ rest)) ∧
        oi.cls = .type "list_iterator" ∧ oi.data = .fields #[.ref ta, .int ((i : Nat) : Int) 0] ∧ (∀ p ∈ prs, p.1 ≠ I ∧ p.1 ≠ sn ∧ p.1 ≠ D1) ∧ PairsIn svs ((ties.take i).map EG.norm) prs ∧ IntsAre cvs (countsOf ns.length (ties.take i)) ∧
        i ≤ ties.length ∧ k = ties.length + 1 - i) ?_ (ties.length + 1)
      ⟨h9, _, 0, _, [], cs, 0, _, [], none, none, none, rfl, F9, N9, rfl, rfl, fun _ hp => (nomatch hp), ⟨rfl, fun i hi => absurd hi (Nat.not_lt_zero _)⟩, ?_, Nat.zero_le _, rfl⟩
    rotate_left
    · have : countsOf ns.length (ties.take 0) = ns.map fun _ => 0 := by
        unfold countsOf
        apply List.ext_getElem
        · simp
        · intro i h1 h2
          simp [EG.occ]
      rw [this]
      exact hcs
    rintro k s' ⟨h', tk', i, oi, svs, cvs, b1, b2, prs, ea, eb, ep, rfl, F', N', ci, di, hprs, hsv, hcv, hile, rfl⟩
    have it' : h'.IsListIter I ta i := ⟨_, (N' _ (.head _)).1, ci, di⟩
    have hta' : h'.IsList ta tvs.toArray := ⟨_, (N' (ta, seqObj "list" tvs.toArray n2) (by simp)).1, rfl, _, rfl⟩
    have offI' : ∀ p ∈ ((sn, W.listOf svs.toArray b1) :: (D1, W.listOf cvs.toArray b2) :: (l, seqObj "list" vs.toArray n) :: (va, ⟨.type "tuple", none, .seq #[.ref ra, .ref ta] e, #[]⟩) :: (ra, seqObj "list" [].toArray n1) :: (ta, seqObj "list" tvs.toArray n2) :: (prs ++ rest)), p.1 ≠ I := fun p hp => by
      simp only [List.mem_cons, List.mem_append] at hp offI
      rcases hp with rfl | rfl | h | h | h | h | h | h
      · exact offI (sn, W.listOf #[] 0) (.inl rfl)
      · exact offI (D1, LCg.lst cs) (.inr (.inl rfl))
      · exact offI p (by simp [h])
      · exact offI p (by simp [h])
      · exact offI p (by simp [h])
      · exact offI p (by simp [h])
      · exact (hprs p h).1
      · exact offI p (by simp [h])
    by_cases hlt : i < ties.length
    · obtain ⟨pa, t, u, ee, hx, hpm⟩ := hpin.2 i (by omega)
      refine wpAny_pyNext_list_item it' hta' (by rw [List.getElem?_toArray]; exact hx) fun h₄ it4 sb4 => ?_
      dsimp only
      refine letGo_listiter it4 ?_
      obtain ⟨oI, eI, cI, dI⟩ := it4
      have F4 := F'.change sb4 (Ne.symm hLI) nI
      have N4 : News g₀ L h₄ ((I, oI) :: (pa, pairObj (ties.getD i (0, 0)) t u ee) :: (sn, W.listOf svs.toArray b1) :: (D1, W.listOf cvs.toArray b2) :: (l, seqObj "list" vs.toArray n) :: (va, ⟨.type "tuple", none, .seq #[.ref ra, .ref ta] e, #[]⟩) :: (ra, seqObj "list" [].toArray n1) :: (ta, seqObj "list" tvs.toArray n2) :: (prs ++ rest)) := by
        have q : ∀ p ∈ ((sn, W.listOf svs.toArray b1) :: (D1, W.listOf cvs.toArray b2) :: (l, seqObj "list" vs.toArray n) :: (va, ⟨.type "tuple", none, .seq #[.ref ra, .ref ta] e, #[]⟩) :: (ra, seqObj "list" [].toArray n1) :: (ta, seqObj "list" tvs.toArray n2) :: (prs ++ rest)), h₄.get? p.1 = some p.2 ∧ p.1 ≠ L ∧ g₀.get? p.1 = none :=
          fun p hp => ⟨sb4.extBut _ _ (offI' p hp) (N' p (List.mem_cons_of_mem _ hp)).1, (N' p (List.mem_cons_of_mem _ hp)).2⟩
        intro p hp
        rcases List.mem_cons.mp hp with rfl | hp
        · exact ⟨eI, Ne.symm hLI, nI⟩
        · rcases List.mem_cons.mp hp with rfl | hp
          · exact q _ (List.mem_cons_of_mem _ (List.mem_cons_of_mem _ (List.mem_cons_of_mem _ (List.mem_cons_of_mem _ (List.mem_cons_of_mem _ (List.mem_cons_of_mem _ (List.mem_append_right _ hpm)))))))
          · exact q p hp
      have hti := inv.tie (ties.getD i (0, 0)) (by rw [List.getD_eq_getElem?_getD, List.getElem?_eq_getElem hlt]; exact List.getElem_mem hlt)
      have htk : ties.take (i + 1) = ties.take i ++ [ties.getD i (0, 0)] := by
        rw [List.take_add_one, List.getD_eq_getElem?_getD, List.getElem?_eq_getElem hlt]; rfl
      have hnew : EG.norm (ties.getD i (0, 0)) ∉ (ties.take i).map EG.norm := by
        have hd := inv.dis
        rw [← List.take_append_drop (i + 1) ties, htk] at hd
        simp only [List.map_append, List.append_assoc] at hd
        have := (List.nodup_append.mp hd).2.2
        intro hm
        exact this _ hm _ (by simp) rfl
      clear F' N' it' hta' offI'
      generalize ties.getD i (0, 0) = pr at *
      obtain ⟨x, y⟩ := pr
      dsimp only at hti
      unfold holM at F4
      dsimp only [pairObj] at N4
      iterate 44 (first | walk1 | (dsimp only; walk1))
      rw [if_neg (by simpa using hti.2.2.1)]
      iterate 4 (first | walk1 | (dsimp only; walk1))
      rename_i P1 hP lP hQ2 FQ NQ
      have emin : (if y < x then y else x) = (EG.norm (x, y)).1 := by simp only [EG.norm]; split <;> omega
      refine kqd_isIn (d := Dat.tuple [.int (if y < x then y else x), .int (if y > x then y else x)]) (n₁ := prs) (n₂ := _) NQ (a := sn) (oa := W.listOf svs.toArray b1) (by simp) rfl rfl hsv.dat (fun p hp => by simp [hp]) (.tuple (vs := [_, _]) (n := 0) (.head _) (.cons (.int _ _) (.cons (.int _ _) .nil))) (fun _ h => h) (datP_ok _) rfl (Nat.le_of_ble_eq_true rfl) ?_
      have enm : Dat.tuple [.int (if y < x then y else x), .int (if y > x then y else x)] = datP (EG.norm (x, y)) := by
        simp only [EG.norm, datP, Dat.tuple.injEq, List.cons.injEq, Dat.int.injEq, and_true]
        constructor <;> split <;> omega
      have hno : Dat.tuple [.int (if y < x then y else x), .int (if y > x then y else x)] ∉ ((ties.take i).map EG.norm).map datP := by
        rw [enm]
        intro hm
        obtain ⟨q, hq, e⟩ := List.mem_map.mp hm
        simp only [datP, Dat.tuple.injEq, List.cons.injEq, Dat.int.injEq, and_true] at e
        exact hnew (by rw [← show q = EG.norm (x, y) from Prod.ext e.1 e.2]; exact hq)
      have hq : ∀ inst : Decidable (Dat.tuple [.int (if y < x then y else x), .int (if y > x then y else x)] ∈ ((ties.take i).map EG.norm).map datP), @decide _ inst = false := fun inst => @decide_eq_false _ inst hno
      rw [hq]
      walk1
      rw [if_neg (by decide)]
      iterate 12 (first | walk1 | (dsimp only; walk1))
      have hIs : I ≠ sn := fun q => offI (sn, W.listOf #[] 0) (.head _) q.symm
      have hId : I ≠ D1 := fun q => offI (D1, LCg.lst cs) (.tail _ (.head _)) q.symm
      have hDs : D1 ≠ sn := offs (D1, LCg.lst cs) (.head _)
      have hPs : P1 ≠ sn := Nat.ne_of_gt lP.2.2.1
      have hPd : P1 ≠ D1 := Nat.ne_of_gt lP.2.2.2.1
      have hPI : P1 ≠ I := Nat.ne_of_gt lP.1
      have tailS : ∀ p ∈ ((l, seqObj "list" vs.toArray n) :: (va, (⟨.type "tuple", none, .seq #[.ref ra, .ref ta] e, #[]⟩ : Obj)) :: (ra, seqObj "list" [].toArray n1) :: (ta, seqObj "list" tvs.toArray n2) :: (prs ++ rest)), p.1 ≠ sn ∧ p.1 ≠ D1 := fun p hp => by
        simp only [List.mem_cons, List.mem_append] at hp
        rcases hp with h | h | h | h | h | h
        · exact ⟨offs p (by simp [h]), offc p (by simp [h])⟩
        · exact ⟨offs p (by simp [h]), offc p (by simp [h])⟩
        · exact ⟨offs p (by simp [h]), offc p (by simp [h])⟩
        · exact ⟨offs p (by simp [h]), offc p (by simp [h])⟩
        · exact ⟨(hprs p h).2.1, (hprs p h).2.2⟩
        · exact ⟨offs p (by simp [h]), offc p (by simp [h])⟩
      have NR : News g₀ L hQ2 ((sn, W.listOf svs.toArray b1) :: (D1, W.listOf cvs.toArray b2) :: (P1, pairObj (if y < x then y else x, if y > x then y else x) _ _ 0) :: (I, oI) :: (l, seqObj "list" vs.toArray n) :: (va, ⟨.type "tuple", none, .seq #[.ref ra, .ref ta] e, #[]⟩) :: (ra, seqObj "list" [].toArray n1) :: (ta, seqObj "list" tvs.toArray n2) :: (prs ++ rest)) := fun p hp => by
        simp only [List.mem_cons] at hp
        rcases hp with rfl | rfl | rfl | rfl | h | h | h | h | h
        · exact NQ _ (by simp)
        · exact NQ _ (by simp)
        · exact NQ _ (.head _)
        · exact NQ _ (by simp)
        · exact NQ _ (by simp [h])
        · exact NQ _ (by simp [h])
        · exact NQ _ (by simp [h])
        · exact NQ _ (by simp [h])
        · exact NQ _ (by simp only [List.mem_cons]; simp [h])
      have hsvl : svs.length ≤ 1000 := by
        have := hsv.1
        rw [List.length_map, List.length_take] at this
        omega
      refine append_K FQ NR (.head (List.forall_mem_cons.mpr ⟨hDs, List.forall_mem_cons.mpr ⟨hPs, List.forall_mem_cons.mpr ⟨hIs, fun p hp => (tailS p hp).1⟩⟩⟩)) (fun hZ FZ NZ => ?_) (by rw [List.size_toArray, sizeLine_eq]; omega)
      clear FQ NQ NR
      have hcl0 : (countsOf ns.length (ties.take i)).length = ns.length := by simp [countsOf]
      iterate 11 (first | walk1 | (dsimp only; walk1))
      have hx0 := hti.1
      have hy0 := hti.2.1
      refine ksa_set FZ NZ (.tail (Ne.symm hDs) (.head (List.forall_mem_cons.mpr ⟨hPd, List.forall_mem_cons.mpr ⟨hId, fun p hp => (tailS p hp).2⟩⟩))) hcv hx0.1 (by rw [hcl0]; exact hx0.2) (by omega) (fun hY FY NY hcv1 hl1 _ => ?_)
      clear FZ NZ
      rw [hcl0] at hl1
      iterate 11 (first | walk1 | (dsimp only; walk1))
      refine ksa_set FY NY (.tail (Ne.symm hDs) (.head (List.forall_mem_cons.mpr ⟨hPd, List.forall_mem_cons.mpr ⟨hId, fun p hp => (tailS p hp).2⟩⟩))) hcv1 hy0.1 (by rw [hl1]; exact hy0.2) (by omega) (fun hX FX NX hcv2 _ _ => ?_)
      clear FY NY
      rw [counts_step hx0 hy0 hti.2.2.1, ← htk] at hcv2
      refine wpAny_execs_nil ?_
      dsimp only
      have hnorm : ((if y < x then y else x, if y > x then y else x) : Int × Int) = EG.norm (x, y) := by
        simp only [EG.norm, Prod.mk.injEq]
        constructor <;> split <;> omega
      rw [hnorm, List.push_toArray] at NX
      obtain ⟨cv, b3, b4, w1, w2, NX, hcv2⟩ : ∃ cv b3 b4 w1 w2, News g₀ L hX ((sn, W.listOf (svs ++ [Value.ref P1]).toArray b3) :: (D1, W.listOf (List.toArray cv) b4) :: (P1, pairObj (EG.norm (x, y)) w1 w2 0) :: (I, oI) :: (l, seqObj "list" vs.toArray n) :: (va, ⟨.type "tuple", none, .seq #[.ref ra, .ref ta] e, #[]⟩) :: (ra, seqObj "list" [].toArray n1) :: (ta, seqObj "list" tvs.toArray n2) :: (prs ++ rest)) ∧ IntsAre cv (countsOf ns.length (List.take (i + 1) ties)) := ⟨_, _, _, _, _, NX, hcv2⟩
      refine ⟨ties.length + 1 - (i + 1), by omega, hX, _, i + 1, oI, svs ++ [.ref P1], cv, b3, b4, (P1, pairObj (EG.norm (x, y)) w1 w2 0) :: prs, some (.int x t), some (.int y u), some (.ref P1), rfl,
        (congrArg (Fr g₀ L hX) (holM1 va l D1 sn ea eb ep (.int x t) (.int y u) (.ref P1))).mp FX, fun p hp => ?_, cI, dI, ?_, ?_, hcv2, hlt, rfl⟩
      · refine NX p ?_
        simp only [List.mem_cons, List.mem_append] at hp ⊢
        rcases hp with h | h | h | h | h | h | h | ((h | h) | h) <;> simp [h]
      · intro p hp
        rcases List.mem_cons.mp hp with rfl | hp
        · exact ⟨hPI, hPs, hPd⟩
        · exact hprs p hp
      · rw [htk, List.map_append]
        exact hsv.snoc
    · have hin : i = ties.length := Nat.le_antisymm hile (Nat.not_lt.mp hlt)
      refine wpAny_pyNext_list_end rfl it' hta' (by rw [List.getElem?_toArray]; exact List.getElem?_eq_none (by omega)) fun h₄ eb4 => wpAny_execs_nil ?_
      have F4 : Fr g₀ L h₄ (holM va l D1 sn ea eb ep) := ⟨F'.ns.extBut eb4 hLI, fun b o q => eb4 b o (fun qq => by rw [qq, nI] at q; cases q) (F'.keep b o q), F'.above⟩
      have N4 : News g₀ L h₄ ((sn, W.listOf svs.toArray b1) :: (D1, W.listOf cvs.toArray b2) :: (l, seqObj "list" vs.toArray n) :: (va, ⟨.type "tuple", none, .seq #[.ref ra, .ref ta] e, #[]⟩) :: (ra, seqObj "list" [].toArray n1) :: (ta, seqObj "list" tvs.toArray n2) :: (prs ++ rest)) :=
        fun p hp => ⟨eb4 _ _ (offI' p hp) (N' p (List.mem_cons_of_mem _ hp)).1, (N' p (List.mem_cons_of_mem _ hp)).2⟩
      have hcn : countsOf ns.length (ties.take i) = ns := by
        rw [hin, List.take_length]
        apply List.ext_getElem
        · simp [countsOf]
        · intro j h1 h2
          have := inv.cnt j h2
          simp only [EG.rem, List.map_nil, List.sum_nil, Int.add_zero] at this
          simp [countsOf, this]
      rw [hcn] at hcv
      clear F' N' it' hta' offI' F9 N9
      unfold holM at F4
      dsimp only
      iterate 7 (first | walk1 | (dsimp only; walk1))
      have mva := (N4 (va, ⟨.type "tuple", none, .seq #[.ref ra, .ref ta] e, #[]⟩) (by simp)).1
      refine item_tupleT (l := [.ref ra, .ref ta]) (j := 0) ⟨_, mva, rfl, _, rfl⟩ (by decide) (by decide) rfl rfl ?_
      iterate 3 (first | walk1 | (dsimp only; walk1))
      rename_i e1 h5 F5 N5 l5
      refine kqd_eq (xs := []) (ys := []) (n₁ := []) (n₂ := []) N5 (a := ra) (oa := seqObj "list" [].toArray n1) (by simp) rfl rfl .nil (fun _ hp => (nomatch hp)) (.head _) rfl rfl .nil (fun _ hp => (nomatch hp)) (fun _ hp => (nomatch hp)) (fun _ hp => (nomatch hp)) (Nat.le_of_ble_eq_true rfl) ?_
      have hd1 : ∀ inst : Decidable (([] : List Dat) = []), @decide _ inst = true := fun inst => @decide_eq_true _ inst rfl
      rw [hd1]
      walk1
      rw [if_pos rfl]
      iterate 4 (first | walk1 | (dsimp only; walk1))
      refine kqd_eq (n₁ := []) (n₂ := []) N5 (a := D1) (oa := W.listOf cvs.toArray b2) (by simp) rfl rfl (ints_dat hcv) (fun _ hp => (nomatch hp)) (b := l) (ob := seqObj "list" vs.toArray n) (by simp) rfl rfl (ints_dat hi) (fun _ hp => (nomatch hp)) (ints_ok _) (ints_ok _) (Nat.le_of_ble_eq_true rfl) ?_
      have hd2 : ∀ inst : Decidable ((ns.map Dat.int) = ns.map Dat.int), @decide _ inst = true := fun inst => @decide_eq_true _ inst rfl
      rw [hd2]
      exact hQ h5 _ (up_end k0 F5 fun p hp => N5 p (by simp [hrU p hp])) (htS _ fun p hp => (N5 p (by simp [hp])).1)
end Mine
end
section
open PySem PySem.W PyProof.Rows PySem.W.X
open LCg
namespace Mine
set_option maxRecDepth 100000
set_option maxHeartbeats 1000000
section
variable {prog : Program} {w : World} {A : Around} {g₀ : Heap} {L : Addr} {m : Str → Option Value} {env : Env} {scope : Scope} {cl : List (Str × Addr)} {x y : Str}
/-- (row[k], k), row in a cell -/
theorem elt_row {c D0 : Addr} {oc : Obj} {vs : List Value} {ns : List Int} {b : Nat} {k : Nat} {t : Tok} {px p2 p3 ps pt : Pos} {kk : Nat} {C : Addr} {oC : Obj} {m₂ : Str → Option Value} {s : Shared} {E' : Value → Shared → Prop} {Q' : Value → Shared → Prop}
    (hkd : scope.kind = .function) (hx : scope.names.lookup x = some .local) (hd : (x == ("__debug__" : Str)) = false) (hdy : (y == ("__debug__" : Str)) = false) (hn : (y == ("__classdict__" : Str)) = false)
    (hy : (compEnvC scope cl C env).kindOf y = some .cell ∨ (compEnvC scope cl C env).kindOf y = some .free) (hc : cl.lookup y = some c) (hm : s.heap.get? c = some oc) (ho : oc.data = .cell (some (.ref D0)))
    (hD : s.heap.get? D0 = some (W.listOf vs.toArray b)) (hi : IntsAre vs ns) (hk : k < ns.length) (h64 : ns.length < 64)
    (hC : NsObj oC m₂) (hg : s.heap.get? C = some oC) (h1 : m₂ x = some (.int (k : Int) t))
    (hQ : ∀ t1 t2 tk', Q' (.ref s.heap.objs.size) { s with heap := s.heap.push (pairObj (ns.getD k 0, (k : Int)) t1 t2 0), toks := tk' }) :
    wpAny (model prog w) A (eval (.Tuple [.Subscript (.Name y px) (.Name x p3) ps, .Name x p2] kk pt) (compEnvC scope cl C env)) Q' E' s := by
  have hns : ∀ tk, ({ s with toks := tk } : Shared).heap.Ns (compEnvC scope cl C env).locals m₂ := fun _ => hC.ns hg
  obtain ⟨tz, hz⟩ := hi.get k (ns.getD k 0) (by rw [List.getD_eq_getElem?_getD, List.getElem?_eq_getElem hk]; rfl)
  refine spliced2 rfl ?_
  have tail : wpAny (model prog w) A (eval (.Name x p3) (compEnvC scope cl C env)) (fun i s₂ => s₂.TypeIs (.ref D0) "list" ∧ wpAny (model prog w) A (getItem (.ref D0) i) (fun v₁ s₁ => wpAny (model prog w) A (eval (.Name x p2) (compEnvC scope cl C env)) (fun v₂ s₂ => wpAny (model prog w) A (newTuple [v₁, v₂]) Q' E' s₂) E' s₁) E' s₂) E' s := by
    refine wpAny_Name (wpAny_loadName_local (by simp [compEnvC, relabel, hkd]) (lookup_relabel_local hx) (hns s.toks) h1 ?_) hd
    have hl : s.heap.IsList D0 vs.toArray := ⟨_, hD, rfl, _, rfl⟩
    refine ⟨hl.typeIs, wpAny_getItem_list (x := .int (ns.getD k 0) tz) hl (by omega) (by omega) ?_ ?_⟩
    · rw [Int.toNat_natCast, List.getElem?_toArray]; exact hz
    · refine wpAny_Name (wpAny_loadName_local (by simp [compEnvC, relabel, hkd]) (lookup_relabel_local hx) (hns s.toks) h1 ?_) hd
      exact wpAny_newTuple (hQ _ _ _)
  refine wpAny_Subscript_Name slot_list_getitem.lookup ?_
  rcases hy with h | h
  · exact wpAny_Name (wpAny_loadName_cell (by simp [compEnvC, relabel, hkd]) h hc ⟨oc, hm, ho⟩ tail) hdy
  · exact wpAny_Name (wpAny_loadName_free (by simp [compEnvC, relabel, hkd]) h hc ⟨oc, hm, ho⟩ tail hn) hdy
theorem placedTake (ns : List Int) {i : Nat} (hi : i < ns.length) : (EG.placed ns).take (i + 1) = (EG.placed ns).take i ++ [(ns.getD i 0, (i : Int))] := by
  rw [List.take_add_one]
  congr 1
  simp [EG.placed, hi]
theorem comp_row {c D0 : Addr} {oc : Obj} {vs : List Value} {ns : List Int} {b : Nat} {px p2 p3 ps pt : Pos} {kk : Nat} {news : List (Addr × Obj)} {s : Shared}
    (hkd : scope.kind = .function) (hx : scope.names.lookup x = some .local) (hd : (x == ("__debug__" : Str)) = false) (hdy : (y == ("__debug__" : Str)) = false) (hn : (y == ("__classdict__" : Str)) = false)
    (hy : ∀ C, (compEnvC scope cl C env).kindOf y = some .cell ∨ (compEnvC scope cl C env).kindOf y = some .free) (hc : cl.lookup y = some c) (hm : (c, oc) ∈ news) (ho : oc.data = .cell (some (.ref D0)))
    (hD : (D0, W.listOf vs.toArray b) ∈ news) (hi : IntsAre vs ns) (h64 : ns.length < 64) {Fin : List Value → List (Addr × Obj) → Prop} (hFin : ∀ ys made, PairsIn ys (EG.placed ns) made → Fin ys (made ++ news)) :
    CompRest prog w A g₀ L m env (.Tuple [.Subscript (.Name y px) (.Name x p3) ps, .Name x p2] kk pt) x scope cl s (fun _ => True) (fun i v => ∃ t, v = .int ((0 : Int) + (i : Int)) t) Fin ns.length 0 [] news := by
  have main : ∀ (k i : Nat) (ys : List Value) (made : List (Addr × Obj)), i + k = ns.length → PairsIn ys ((EG.placed ns).take i) made →
      CompRest prog w A g₀ L m env (.Tuple [.Subscript (.Name y px) (.Name x p3) ps, .Name x p2] kk pt) x scope cl s (fun _ => True) (fun i v => ∃ t, v = .int ((0 : Int) + (i : Int)) t) Fin k i ys (made ++ news) := by
    intro k
    induction k with
    | zero =>
      intro i ys made hi' hy'
      refine CompRest.zero (hFin ys made ?_)
      have : (EG.placed ns).take i = EG.placed ns := List.take_of_length_le (by simp [EG.placed]; omega)
      rwa [this] at hy'
    | succ k ih =>
      intro i ys made hi' hy'
      refine CompRest.succ fun v I oI C oC D m₂ h tk E' hv hC hx2 F N off ne => ?_
      have hil : i < ns.length := by omega
      obtain ⟨t, rfl⟩ := hv
      rw [Int.zero_add] at hx2
      have hq := fun q (hq : q ∈ news) => (N q (List.mem_cons_of_mem _ (List.mem_cons_of_mem _ (List.mem_cons_of_mem _ (List.mem_append_right _ hq))))).1
      refine elt_row (s := { s with heap := h, toks := tk }) hkd hx hd hdy hn (hy C) hc (hq _ hm) ho (hq _ hD) hi hil h64 hC (N (C, oC) (List.mem_cons_of_mem _ (.head _))).1 hx2 fun t1 t2 tk' => ?_
      have N' : News g₀ L (h.push (pairObj (ns.getD i 0, (i : Int)) t1 t2 0)) ((h.objs.size, pairObj (ns.getD i 0, (i : Int)) t1 t2 0) :: (I, oI) :: (C, oC) :: (D, lst ys) :: (made ++ news)) := News.push F N _
      refine CompEnd.intro (F.push _) N' ((h.objs.size, pairObj (ns.getD i 0, (i : Int)) t1 t2 0) :: made ++ news) (fun p hp => ?_) ?_ trivial ?_
      · simp only [List.mem_cons, List.cons_append] at hp ⊢
        rcases hp with h | h | h | h | h <;> simp [h]
      · refine Off3.of fun p hp => ?_
        have hI := Heap.lt_size (N (I, oI) (.head _)).1
        have hCl := Heap.lt_size (N (C, oC) (List.mem_cons_of_mem _ (.head _))).1
        have hDl := Heap.lt_size (N (D, lst ys) (List.mem_cons_of_mem _ (List.mem_cons_of_mem _ (.head _)))).1
        rcases List.mem_cons.mp hp with rfl | hp
        · exact ⟨Nat.ne_of_gt hI, Nat.ne_of_gt hCl, Nat.ne_of_gt hDl⟩
        · exact Off3.mem off p hp
      · refine ih (i + 1) (ys ++ [.ref h.objs.size]) ((h.objs.size, pairObj (ns.getD i 0, (i : Int)) t1 t2 0) :: made) (by omega) ?_
        rw [placedTake ns hil]
        exact hy'.snoc
  have := main ns.length 0 [] [] (by omega) ⟨by simp, fun i hi => absurd hi (Nat.not_lt_zero _)⟩
  simpa using this
end
end Mine
end
section
open PySem PySem.W PyProof.Rows PySem.W.X
namespace Mine
set_option maxRecDepth 100000
section
variable {g₀ h h' : Heap} {L : Addr}
/-- a segment of the heap: lists and tuples made since the law's entry -/
def SegAt (g₀ h : Heap) (tl : List (Addr × Obj)) : Prop := ∀ p ∈ tl, h.get? p.1 = some p.2 ∧ g₀.get? p.1 = none ∧ ∃ xs n, p.2.data = .seq xs n
def Stands (h : Heap) (tl : List (Addr × Obj)) : Prop := ∀ p ∈ tl, h.get? p.1 = some p.2
theorem Stands.left {a b : List (Addr × Obj)} (x : Stands h (a ++ b)) : Stands h a := fun p hp => x p (List.mem_append_left _ hp)
theorem Stands.right {a b : List (Addr × Obj)} (x : Stands h (a ++ b)) : Stands h b := fun p hp => x p (List.mem_append_right _ hp)
theorem SegAt.append {a b : List (Addr × Obj)} (x : SegAt g₀ h a) (y : SegAt g₀ h b) : SegAt g₀ h (a ++ b) := fun p hp => (List.mem_append.mp hp).elim (x p) (y p)
theorem PairsG.seg' {vs : List Value} {ps : List (Int × Int)} (x : PairsG g₀ h vs ps) : ∃ tl, SegAt g₀ h tl ∧ ∀ h', Stands h' tl → PairsG g₀ h' vs ps := by
  induction x with
  | nil => exact ⟨[], fun _ hp => (nomatch hp), fun _ _ => .nil⟩
  | cons y _ ih =>
    obtain ⟨tl, t1, t2⟩ := ih
    obtain ⟨a, t, u, e, rfl, g, z⟩ := y
    refine ⟨(a, _) :: tl, fun p hp => ?_, fun h' hh => .cons ⟨a, t, u, e, rfl, hh _ (.head _), z⟩ (t2 h' fun p hp => hh p (.tail _ hp))⟩
    rcases List.mem_cons.mp hp with rfl | hp
    · exact ⟨g, z, _, _, rfl⟩
    · exact t1 p hp
theorem StG.seg {v : Value} {row ties : List (Int × Int)} (x : StG g₀ h v row ties) : ∃ tl, SegAt g₀ h tl ∧ ∀ h', Stands h' tl → StG g₀ h' v row ties := by
  obtain ⟨a, e, ra, ta, rvs, tvs, rfl, h1, z1, ⟨n1, h2, z2⟩, ⟨n2, h3, z3⟩, p1, p2⟩ := x
  obtain ⟨t1, s1, r1⟩ := p1.seg'
  obtain ⟨t2, s2, r2⟩ := p2.seg'
  refine ⟨(a, _) :: (ra, _) :: (ta, _) :: (t1 ++ t2), fun p hp => ?_, fun h' hh => ⟨a, e, ra, ta, rvs, tvs, rfl, hh _ (.head _), z1, ⟨n1, hh _ (.tail _ (.head _)), z2⟩, ⟨n2, hh _ (.tail _ (.tail _ (.head _))), z3⟩, ?_, ?_⟩⟩
  · rcases List.mem_cons.mp hp with rfl | hp
    · exact ⟨h1, z1, _, _, rfl⟩
    · rcases List.mem_cons.mp hp with rfl | hp
      · exact ⟨h2, z2, _, _, rfl⟩
      · rcases List.mem_cons.mp hp with rfl | hp
        · exact ⟨h3, z3, _, _, rfl⟩
        · exact s1.append s2 p hp
  · exact r1 h' fun p hp => hh p (.tail _ (.tail _ (.tail _ (List.mem_append_left _ hp))))
  · exact r2 h' fun p hp => hh p (.tail _ (.tail _ (.tail _ (List.mem_append_right _ hp))))
theorem StO.seg {v : Value} {st : Option (List (Int × Int) × List (Int × Int))} (x : StO g₀ h v st) : ∃ tl, SegAt g₀ h tl ∧ ∀ h', Stands h' tl → StO g₀ h' v st := by
  cases st with
  | none => exact ⟨[], fun _ hp => (nomatch hp), fun _ _ => x⟩
  | some st => exact StG.seg x
theorem SegAt.no23 {tl : List (Addr × Obj)} (x : SegAt g₀ h tl) (S : TabS g₀ h) : No23 tl := fun p hp => by
  obtain ⟨e, _, xs, n, d⟩ := x p hp
  exact seq_ne23 S e d
theorem SegAt.up {tl : List (Addr × Obj)} (x : SegAt g₀ h tl) (S : TabS g₀ h) (u : UpT h h') : SegAt g₀ h' tl := fun p hp => ⟨u _ _ (x.no23 S p hp) (x p hp).1, (x p hp).2⟩
/-- the ledger with such a segment -/
theorem news_seg {m : Str → Option Value} {l tl : List (Addr × Obj)} (F : Fr g₀ L h m) (N : News g₀ L h l) (y : SegAt g₀ h tl) : News g₀ L h (l ++ tl) := by
  obtain ⟨oL, es, ep, eL, hdL, _⟩ := F.ns
  intro p hp
  rcases List.mem_append.mp hp with hp | hp
  · exact N p hp
  · refine ⟨(y p hp).1, fun q => ?_, (y p hp).2.1⟩
    have e := (y p hp).1
    rw [q, eL] at e
    obtain ⟨_, _, d⟩ := (y p hp).2.2
    rw [← Option.some.inj e, hdL] at d
    cases d
theorem IntsV.of {vs : List Value} {ns : List Int} (x : IntsAre vs ns) : IntsV vs ns := by
  induction x with
  | nil => exact .nil
  | cons n t _ ih => exact .cons ih
theorem fr_below {m : Str → Option Value} (F : Fr g₀ L h m) : g₀.objs.size ≤ h.objs.size := by
  obtain ⟨oL, _, _, e, _⟩ := F.ns
  exact Nat.le_of_lt (Nat.lt_of_le_of_lt F.above (Heap.lt_size e))
end
end Mine
end
section
open PySem PySem.W PyProof.Rows PySem.W.X PySem.Calls
namespace Mine
set_option maxRecDepth 100000
set_option maxHeartbeats 20000000
local macro_rules | `(tactic| k_is) => `(tactic| first | exact G_cmp _ | exact G_fuller _ | exact G_le _ | exact G_reduce _ | exact G_round _ | exact G_fits _ | exact G_holds _ | exact G_missing _ | exact G_sorted _ | exact G_len _ | exact G_sum _ | exact G_range _ | exact G_min _ | exact G_max _ | exact G_iter _ | exact G_next _)
/-- the locals of law in its first loop -/
def lawM (sl sn : Addr) (sz : Value) (ex ea eb : Option Value) : Str → Option Value := fun y => if y = Str.ofString "b" then eb else if y = Str.ofString "a" then ea else if y = Str.ofString "x" then ex else
  if y = Str.ofString "seen" then some (Value.ref sn) else if y = Str.ofString "size" then some sz else if y = Str.ofString "script" then some (.ref sl) else none
theorem lawM0 (sl sn L fa : Addr) (cd sz : Value) : (fun y => if y = Str.ofString "seen" then some (Value.ref sn) else if y = Str.ofString "size" then some sz else bindL (envOfC (Str.ofString "law") (sScope (tDef 10)) L fa cd).kindOf [(Str.ofString "script", Value.ref sl)] (fun _ => none) y) = lawM sl sn sz none none none := by
  funext y
  unfold lawM
  have e : bindL (envOfC (Str.ofString "law") (sScope (tDef 10)) L fa cd).kindOf [(Str.ofString "script", Value.ref sl)] (fun _ => none) = fun y => if y = Str.ofString "script" then some (Value.ref sl) else none := by
    kernel_rfl
  rw [e]
  dsimp only
  by_cases h1 : y = Str.ofString "b"
  · rw [if_pos h1, h1]; rw [if_neg (by decide), if_neg (by decide), if_neg (by decide)]
  rw [if_neg h1]
  by_cases h2 : y = Str.ofString "a"
  · rw [if_pos h2, h2]; rw [if_neg (by decide), if_neg (by decide), if_neg (by decide)]
  rw [if_neg h2]
  by_cases h3 : y = Str.ofString "x"
  · rw [if_pos h3, h3]; rw [if_neg (by decide), if_neg (by decide), if_neg (by decide)]
  rw [if_neg h3]
theorem lawM1 (sl sn : Addr) (sz : Value) (ex ea eb : Option Value) (x y z : Value) : (fun q => if q = Str.ofString "b" then some z else if q = Str.ofString "a" then some y else if q = Str.ofString "x" then some x else lawM sl sn sz ex ea eb q) = lawM sl sn sz (some x) (some y) (some z) := by
  funext q
  unfold lawM
  by_cases h1 : q = Str.ofString "b"
  · rw [if_pos h1, if_pos h1]
  · rw [if_neg h1]
    by_cases h2 : q = Str.ofString "a"
    · rw [if_pos h2, if_neg h1, if_pos h2]
    · rw [if_neg h2]
      by_cases h3 : q = Str.ofString "x"
      · rw [if_pos h3, if_neg h1, if_neg h2, if_pos h3]
      · rw [if_neg h3]; simp only [if_neg h1, if_neg h2, if_neg h3]
theorem set_nn {ns : List Int} (h : ∀ x ∈ ns, 0 ≤ x) {i : Nat} {z : Int} (hz : 0 ≤ z) : ∀ x ∈ ns.set i z, 0 ≤ x := fun x hx => by
  rcases List.mem_or_eq_of_mem_set hx with h' | rfl
  · exact h x h'
  · exact hz
theorem getD_nn {ns : List Int} (h : ∀ x ∈ ns, 0 ≤ x) (i : Nat) : 0 ≤ ns.getD i 0 := by
  rw [List.getD_eq_getElem?_getD]
  by_cases hi : i < ns.length
  · rw [List.getElem?_eq_getElem hi]; exact h _ (List.getElem_mem hi)
  · rw [List.getElem?_eq_none (by omega)]; exact Int.le_refl _
theorem law0 : PySem.Challenge.rw_dw5009_01.Holds := by
  refine hd ?_
  k_fill
  intro w s₀ s₁ mg mb G Y fa o pm cd doc dV kV ho hd hcd hD hmg hg args vals as hpre hlay hrd hwl hlo
  have KX0 := kIn_of Y
  have KX := myK_in KX0
  have hT23 := my23 KX0
  have X := (Ground.X G).1
  have V := (Ground.X G).2
  refine Ground.open G ?_
  intro T B D TE TW
  try (refine guard_noD D (by decide +kernel) ?_; clear D)
  have hT9 : TabsAt ([(27, 23)] : List (Addr × Addr)) s₁.heap := List.forall_mem_cons.mpr ⟨⟨codeHd_of_K (c := 27) (P := 23) KX (myHd _), hT23 23 (.head _)⟩, fun _ h => nomatch h⟩
  clear hmg
  wrow_args hpre hlay hrd hwl hlo
  all_goals (
    first | refine callC_kw (enter_call ?_) | refine enter_call ?_
    w_top on
    kn_posts
    w_call any ho hd hcd hD T F
    clear hd
    kn_ghosts F T
    k_drop
    skip)
  dsimp only
  rename_i ss q1 q2 q3 q4 q5 as1 as2 sl svs as3 hL ra w1 r0 hI hrw hc1 hc2 h₁ tk₁ oc hoc CA X' T' K' F' N' l0
  refine wpAny_mono (Q := fun f s' => f = .ret (.bool true) ∧ ∃ h' tk m', s' = ⟨h', s₁.gens, s₁.drawn, tk, s₁.os⟩ ∧ Fr (ghostOf s₁.heap [(27, 23)]) s₁.heap.objs.size h' m' ∧ TabS (ghostOf s₁.heap [(27, 23)]) h') (E := fun _ _ => False) ?_ ?_ (fun _ _ h => h.elim)
  · have VV : Env0 w (ghostOf s₁.heap [(27, 23)]) := ⟨X', _, _, _, _, _, T'⟩
    have h23 : (ghostOf s₁.heap [(27, 23)]).get? 23 = none := (N' (23, tabObj #[]) (by simp)).2.2
    have hlen : ss.length ≤ 63 := by omega
    have hoc' : oc.data = .cell none := hoc.trans (by kernel_rfl)
    have F1 : Fr (ghostOf s₁.heap [(27, 23)]) s₁.heap.objs.size h₁ (bindL (envOfC (Str.ofString "law") (sScope (tDef 10)) s₁.heap.objs.size fa cd).kindOf [(Str.ofString "script", .ref sl)] fun _ => none) := F'
    clear hoc CA F'
    clear G Y pm doc ho hcd hg KX0 hT23 X V T B TE TW hT9 q1 q2 q3 q4 q5 as1 as2 as3 hL ra w1 r0 hrw hc1 hc2 hD K' codeHd l0 T' X'
    obtain ⟨hp₁, g, d, tk, os⟩ := s₁
    dsimp only at *
    generalize ghostOf hp₁ [(27, 23)] = g₀ at *
    generalize hp₁.objs.size = L at *
    w_top off
    suffices hh : (PySem.Challenge.rw_dw5009_01 = PySem.Challenge.rw_dw5009_01 ∧ myK = myK) → _ from hh ⟨rfl, rfl⟩
    k_fill
    intro _
    have KX := VV.X
    obtain ⟨p, loose, mean, mg', mb', T⟩ := VV.T
    have TR := topRead_of T
    obtain ⟨SC, eS⟩ : ∃ SC, sScope (tDef 10) = SC := ⟨_, rfl⟩
    have eS' := eS
    simp only [sScope, tDef, PW, PySem.Challenge.pw_dw5009_01, List.getElem?_cons_succ, List.getElem?_cons_zero, Option.getD_some] at eS'
    rw [eS] at F1
    clear eS
    subst eS'
    iterate 36 (first | walk1 | (dsimp only; walk1))
    rename_i tkz lz hz lz1 D0 hz2 hI0 n0 hs0 he0 he1 he2 lz2 hz3 oc1 hoc1 tkz2 sn hz4 lz4 h5 F5 N5
    have hsz : (ss.length : Int).fmod 8 = ((ss.length % 8 : Nat) : Int) := by
      rw [Int.fmod_eq_emod_of_nonneg _ (by decide)]; omega
    dsimp only
    walk1
    refine wpAny_For ?_
    iterate 24 (first | walk1 | (dsimp only; walk1))
    rename_i D1 ws1 h6 hI1 hC1 hL1 lz5 li h7 lz6 Dx wsx h8 F8 N8 hIx lx
    refine wpAny_pyIter_list ⟨_, (N8 _ (.head _)).1, rfl, _, rfl⟩ ?_
    have F9 := F8.push (o := { cls := .type "list_iterator", data := .fields #[.ref Dx, .int 0 0] })
    have N9 := News.push F8 N8 { cls := .type "list_iterator", data := .fields #[.ref Dx, .int 0 0] } rfl
    have hne : (3 + (ss.length : Int).fmod 8).toNat = 3 + ss.length % 8 := by rw [hsz]; omega
    have hN : 3 + (ss.length : Int).fmod 8 = ((3 + ss.length % 8 : Nat) : Int) := by rw [hsz]; omega
    have hrep : ∀ k : Nat, (List.replicate k [(0 : Int)]).flatten = List.replicate k 0 := fun k => by
      induction k with
      | zero => rfl
      | succ k ih => rw [List.replicate_succ, List.flatten_cons, ih]; rfl
    have hlI : IntsAre wsx (List.take (3 * (3 + ss.length % 8)) ss ++ [1, 5, 11, 2]) := by
      rw [show (3 * (3 + (ss.length : Int).fmod 8)).toNat = 3 * (3 + ss.length % 8) by rw [hsz]; omega] at hIx
      exact hIx
    have hRow : IntsAre (List.replicate (3 + (ss.length : Int).fmod 8).toNat [Value.int 0 tkz]).flatten (List.replicate (3 + ss.length % 8) 0) := by
      rw [← hrep, ← hne]; exact hI0
    have a1 : sn ≠ D0 := Nat.ne_of_gt (lz4 _ (.head _))
    have a2 : sn ≠ L + 1 := Nat.ne_of_gt (lz4 _ (List.mem_append_right _ (.head _)))
    have a3 : sn ≠ 23 := Nat.ne_of_gt (lz4 _ (List.mem_append_right _ (.tail _ (.head _))))
    have a4 : D0 ≠ L + 1 := Nat.ne_of_gt lz2.2.1
    have a5 : D0 ≠ 23 := Nat.ne_of_gt lz2.2.2
    have a6 : Dx ≠ sn := Nat.ne_of_gt lx.2.2.1
    have a7 : Dx ≠ D0 := Nat.ne_of_gt lx.2.2.2.1
    have NL : News g₀ L (h8.push { cls := .type "list_iterator", data := .fields #[.ref Dx, .int 0 0] }) ((h8.objs.size, _) :: (sn, W.listOf [].toArray 0) :: (D0, W.listOf (List.replicate (3 + (ss.length : Int).fmod 8).toNat [Value.int 0 tkz]).flatten.toArray 0) :: (Dx, W.listOf wsx.toArray 0) :: (L + 1, oc1) :: (23, tabObj #[]) :: []) := fun p hp => by
      simp only [List.mem_cons, List.not_mem_nil, or_false] at hp
      rcases hp with rfl | rfl | rfl | rfl | rfl | rfl
      · exact N9 _ (.head _)
      · exact N9 _ (by simp)
      · exact N9 _ (by simp)
      · exact N9 _ (by simp)
      · exact N9 _ (by simp)
      · exact N9 _ (by simp)
    have hLI : L < h8.objs.size := by
      obtain ⟨oL, _, _, e, _⟩ := F8.ns
      exact Heap.lt_size e
    have offI : ∀ p ∈ ((sn, W.listOf [].toArray 0) :: (D0, W.listOf (List.replicate (3 + (ss.length : Int).fmod 8).toNat [Value.int 0 tkz]).flatten.toArray 0) :: (Dx, W.listOf wsx.toArray 0) :: (L + 1, oc1) :: (23, tabObj #[]) :: []), p.1 < h8.objs.size := fun p hp => by
      simp only [List.mem_cons, List.not_mem_nil, or_false] at hp
      rcases hp with rfl | rfl | rfl | rfl | rfl
      · exact Heap.lt_size (N8 _ (by simp)).1
      · exact Heap.lt_size (N8 _ (by simp)).1
      · exact Heap.lt_size (N8 _ (by simp)).1
      · exact Heap.lt_size (N8 _ (by simp)).1
      · exact Heap.lt_size (N8 _ (by simp)).1
    clear N9 N8 F8 lx hIx
    rw [hN] at F9
    generalize h8.push { cls := .type "list_iterator", data := .fields #[.ref Dx, .int 0 0] } = h9 at *
    generalize h8.objs.size = I at *
    generalize (List.replicate (3 + (ss.length : Int).fmod 8).toNat [Value.int 0 tkz]).flatten = rvs at *
    clear hI0 hs0 he0 he1 he2 hN hne hI1 hC1 hL1 lz5 lz6 lz4 lz2 lz1
    dsimp only
    rename_i tka a_ hh1
    w_top off
    clear hoc'
    have nI : g₀.get? I = none := (NL _ (.head _)).2.2
    have hIs : I ≠ sn := Nat.ne_of_gt (offI (sn, _) (.head _))
    have hId : I ≠ D0 := Nat.ne_of_gt (offI (D0, _) (.tail _ (.head _)))
    generalize hsz0 : (3 + ss.length % 8) = sz at *
    obtain ⟨tsz, F9⟩ : ∃ tsz, Fr g₀ L h9 (lawM sl sn (.int (sz : Int) tsz) none none none) := ⟨_, (congrArg (Fr g₀ L h9) (lawM0 sl sn L fa cd (.int (sz : Int) _))).mp F9⟩
    have hsz1 : 3 ≤ sz ∧ sz ≤ 10 := by omega
    refine codeAny_forLoop (fun k s' => ∃ h' tk' i oi svs rvs ns ps b1 b2 prs ex ea eb, s' = ⟨h', g, d, tk', os⟩ ∧ Fr g₀ L h' (lawM sl sn (.int (sz : Int) tsz) ex ea eb) ∧
        News g₀ L h' ((I, oi) :: (sn, W.listOf (List.toArray svs) b1) :: (D0, W.listOf (List.toArray rvs) b2) :: (Dx, W.listOf wsx.toArray 0) :: (L + 1, oc1) :: (23, tabObj #[]) :: prs) ∧
        oi.cls = .type "list_iterator" ∧ oi.data = .fields #[.ref Dx, .int ((i : Nat) : Int) 0] ∧ (∀ p ∈ prs, p.1 ≠ I ∧ p.1 ≠ sn ∧ p.1 ≠ D0) ∧ PairsIn svs ps prs ∧ IntsAre rvs ns ∧ ns.length = sz ∧ (∀ x ∈ ns, 0 ≤ x) ∧ svs.length ≤ i ∧
        i ≤ wsx.length ∧ k = wsx.length + 1 - i) ?_ (wsx.length + 1) ?_
    rotate_left
    · refine ⟨h9, _, 0, _, [], rvs, List.replicate sz 0, [], 0, 0, [], none, none, none, rfl, ?_, NL, rfl, rfl, fun _ hp => (nomatch hp), ⟨rfl, fun i hi => absurd hi (Nat.not_lt_zero _)⟩, hRow, List.length_replicate .., fun x hx => by rw [(List.mem_replicate.mp hx).2]; exact Int.le_refl _, Nat.le_refl _, Nat.zero_le _, rfl⟩
      exact F9
    rintro k s' ⟨h', tk', i, oi, svs', rvs', ns, ps, b1, b2, prs, ex, ea, eb, rfl, F', N', ci, di, hprs, hsv, hrv, hnl, hn0, hsvl, hile, rfl⟩
    have it' : h'.IsListIter I Dx i := ⟨_, (N' _ (.head _)).1, ci, di⟩
    have hDx' : h'.IsList Dx wsx.toArray := ⟨_, (N' (Dx, W.listOf wsx.toArray 0) (by simp)).1, rfl, _, rfl⟩
    have offI' : ∀ p ∈ ((sn, W.listOf svs'.toArray b1) :: (D0, W.listOf rvs'.toArray b2) :: (Dx, W.listOf wsx.toArray 0) :: (L + 1, oc1) :: (23, tabObj #[]) :: prs), p.1 ≠ I := fun p hp => by
      simp only [List.mem_cons] at hp
      rcases hp with rfl | rfl | rfl | rfl | rfl | h
      · exact Ne.symm hIs
      · exact Ne.symm hId
      · exact Nat.ne_of_lt (offI (Dx, W.listOf wsx.toArray 0) (by simp))
      · exact Nat.ne_of_lt (offI (L + 1, oc1) (by simp))
      · exact Nat.ne_of_lt (offI (23, tabObj #[]) (by simp))
      · exact (hprs p h).1
    by_cases hlt : i < wsx.length
    · obtain ⟨x, t, hx⟩ : ∃ x t, wsx[i]? = some (Value.int x t) := by
        obtain ⟨k, t, e, _⟩ := IntsAre.at hlI i wsx[i] (List.getElem?_eq_getElem hlt)
        exact ⟨k, t, by rw [List.getElem?_eq_getElem hlt, e]⟩
      refine wpAny_pyNext_list_item it' hDx' (by rw [List.getElem?_toArray]; exact hx) fun h₄ it4 sb4 => ?_
      dsimp only
      obtain ⟨oI, eI, cI, dI⟩ := it4
      have F4 := F'.change sb4 (Nat.ne_of_gt hLI) nI
      have N4 : News g₀ L h₄ ((I, oI) :: (sn, W.listOf svs'.toArray b1) :: (D0, W.listOf rvs'.toArray b2) :: (Dx, W.listOf wsx.toArray 0) :: (L + 1, oc1) :: (23, tabObj #[]) :: prs) := by
        intro p hp
        rcases List.mem_cons.mp hp with rfl | hp
        · exact ⟨eI, Nat.ne_of_gt hLI, nI⟩
        · exact ⟨sb4.extBut _ _ (offI' p hp) (N' p (List.mem_cons_of_mem _ hp)).1, (N' p (List.mem_cons_of_mem _ hp)).2⟩
      clear F' N' it' hDx' offI'
      unfold lawM at F4
      iterate 28 (first | walk1 | (dsimp only; walk1))
      rename_i tk5 h5a h5 F5 N5
      have hA0 : 0 ≤ x.fmod sz := Int.fmod_nonneg_of_pos _ (by omega)
      have hA1 : x.fmod sz < sz := Int.fmod_lt_of_pos _ (by omega)
      have hB0 : 0 ≤ (x.fdiv sz).fmod sz := Int.fmod_nonneg_of_pos _ (by omega)
      have hB1 : (x.fdiv sz).fmod sz < sz := Int.fmod_lt_of_pos _ (by omega)
      generalize hA : x.fmod sz = pa at *
      generalize hB : (x.fdiv sz).fmod sz = pb at *
      by_cases hab : pa = pb
      · rw [if_neg (by simpa using hab)]
        iterate 4 (first | walk1 | (dsimp only; walk1))
        dsimp only
        exact ⟨wsx.length + 1 - (i + 1), by omega, h5, _, i + 1, oI, svs', rvs', ns, ps, b1, b2, prs, some _, some _, some _, rfl, (congrArg (Fr g₀ L h5) (lawM1 sl sn (.int (sz : Int) tsz) ex ea eb _ _ _)).mp F5, N5, cI, dI, hprs, hsv, hrv, hnl, hn0, Nat.le_succ_of_le hsvl, hlt, rfl⟩
      rw [if_pos (by simpa using hab)]
      iterate 26 (first | walk1 | (dsimp only; walk1))
      rename_i P1 hP FP NP lP
      have enm : Dat.tuple [.int (if pb < pa then pb else pa), .int (if pb > pa then pb else pa)] = datP (if pb < pa then pb else pa, if pb > pa then pb else pa) := rfl
      refine kqd_notIn (d := Dat.tuple [.int (if pb < pa then pb else pa), .int (if pb > pa then pb else pa)]) (n₁ := prs) (n₂ := _) NP (a := sn) (oa := W.listOf svs'.toArray b1) (by simp) rfl rfl hsv.dat (fun p hp => by simp [hp]) (.tuple (vs := [_, _]) (n := 0) (.head _) (.cons (.int _ _) (.cons (.int _ _) .nil))) (fun _ h => h) (datP_ok _) rfl (Nat.le_of_ble_eq_true rfl) ?_
      have N6 : News g₀ L hP ((I, oI) :: (sn, W.listOf svs'.toArray b1) :: (D0, W.listOf rvs'.toArray b2) :: (Dx, W.listOf wsx.toArray 0) :: (L + 1, oc1) :: (23, tabObj #[]) :: prs) := fun p hp => NP p (List.mem_cons_of_mem _ hp)
      clear NP lP
      by_cases hno : Dat.tuple [.int (if pb < pa then pb else pa), .int (if pb > pa then pb else pa)] ∈ ps.map datP
      · have hq : ∀ inst : Decidable (Dat.tuple [.int (if pb < pa then pb else pa), .int (if pb > pa then pb else pa)] ∈ ps.map datP), @decide _ inst = true := fun inst => @decide_eq_true _ inst hno
        rw [hq]
        iterate 4 (first | walk1 | (dsimp only; walk1))
        refine wpAny_execs_nil ?_
        dsimp only
        refine wpAny_execs_nil ?_
        dsimp only
        exact ⟨wsx.length + 1 - (i + 1), by omega, hP, _, i + 1, oI, svs', rvs', ns, ps, b1, b2, prs, some _, some _, some _, rfl, (congrArg (Fr g₀ L hP) (lawM1 sl sn (.int (sz : Int) tsz) ex ea eb _ _ _)).mp FP, N6, cI, dI, hprs, hsv, hrv, hnl, hn0, Nat.le_succ_of_le hsvl, hlt, rfl⟩
      have hq : ∀ inst : Decidable (Dat.tuple [.int (if pb < pa then pb else pa), .int (if pb > pa then pb else pa)] ∈ ps.map datP), @decide _ inst = false := fun inst => @decide_eq_false _ inst hno
      rw [hq]
      iterate 36 (first | walk1 | (dsimp only; walk1))
      rename_i P2 hQ FQ NQ lQ
      have hDs : D0 ≠ sn := Ne.symm a1
      have hPs : P2 ≠ sn := Nat.ne_of_gt lQ.2.1
      have hPd : P2 ≠ D0 := Nat.ne_of_gt lQ.2.2.1
      have hPI : P2 ≠ I := Nat.ne_of_gt lQ.1
      have tailS : ∀ p ∈ ((Dx, W.listOf wsx.toArray 0) :: (L + 1, oc1) :: (23, tabObj #[]) :: prs), p.1 ≠ sn ∧ p.1 ≠ D0 := fun p hp => by
        simp only [List.mem_cons] at hp
        rcases hp with rfl | rfl | rfl | h
        · exact ⟨a6, a7⟩
        · exact ⟨Ne.symm a2, Ne.symm a4⟩
        · exact ⟨Ne.symm a3, Ne.symm a5⟩
        · exact ⟨(hprs p h).2.1, (hprs p h).2.2⟩
      have NR : News g₀ L hQ ((sn, W.listOf svs'.toArray b1) :: (D0, W.listOf rvs'.toArray b2) :: (P2, pairObj (if pb < pa then pb else pa, if pb > pa then pb else pa) _ _ 0) :: (I, oI) :: (Dx, W.listOf wsx.toArray 0) :: (L + 1, oc1) :: (23, tabObj #[]) :: prs) := fun p hp => by
        simp only [List.mem_cons] at hp
        rcases hp with rfl | rfl | rfl | rfl | rfl | rfl | rfl | h
        · exact NQ _ (by simp)
        · exact NQ _ (by simp)
        · exact NQ _ (.head _)
        · exact NQ _ (by simp)
        · exact NQ _ (by simp)
        · exact NQ _ (by simp)
        · exact NQ _ (by simp)
        · exact NQ _ (by simp [h])
      have hwl : wsx.length ≤ 34 := by
        have := hlI.length
        rw [List.length_append, List.length_take] at this
        simp only [List.length_cons, List.length_nil] at this
        omega
      refine append_K FQ NR (.head (List.forall_mem_cons.mpr ⟨hDs, List.forall_mem_cons.mpr ⟨hPs, List.forall_mem_cons.mpr ⟨hIs, fun p hp => (tailS p hp).1⟩⟩⟩)) (fun hZ FZ NZ => ?_) (by rw [List.size_toArray, sizeLine_eq]; omega)
      clear FQ NQ NR lQ
      iterate 12 (first | walk1 | (dsimp only; walk1))
      refine ksa_set FZ NZ (.tail (Ne.symm hDs) (.head (List.forall_mem_cons.mpr ⟨hPd, List.forall_mem_cons.mpr ⟨hId, fun p hp => (tailS p hp).2⟩⟩))) hrv hA0 (by rw [hnl]; exact hA1) (by omega) (fun hY FY NY hrv1 hl1 _ => ?_)
      clear FZ NZ
      iterate 11 (first | walk1 | (dsimp only; walk1))
      refine ksa_set FY NY (.tail (Ne.symm hDs) (.head (List.forall_mem_cons.mpr ⟨hPd, List.forall_mem_cons.mpr ⟨hId, fun p hp => (tailS p hp).2⟩⟩))) hrv1 hB0 (by rw [hl1, hnl]; exact hB1) (by omega) (fun hX FX NX hrv2 hl2 _ => ?_)
      clear FY NY
      refine wpAny_execs_nil ?_
      dsimp only
      refine wpAny_execs_nil ?_
      dsimp only
      have hn1 := set_nn hn0 (i := pa.toNat) (show 0 ≤ ns.getD pa.toNat 0 + 1 by have := getD_nn hn0 pa.toNat; omega)
      have hn2 := set_nn hn1 (i := pb.toNat) (show 0 ≤ (ns.set pa.toNat (ns.getD pa.toNat 0 + 1)).getD pb.toNat 0 + 1 by have := getD_nn hn1 pb.toNat; omega)
      rw [List.push_toArray] at NX
      obtain ⟨cv, b3, b4, w1, w2, NX, hrv2⟩ : ∃ cv b3 b4 w1 w2, News g₀ L hX ((sn, W.listOf (svs' ++ [Value.ref P2]).toArray b3) :: (D0, W.listOf (List.toArray cv) b4) :: (P2, pairObj (if pb < pa then pb else pa, if pb > pa then pb else pa) w1 w2 0) :: (I, oI) :: (Dx, W.listOf wsx.toArray 0) :: (L + 1, oc1) :: (23, tabObj #[]) :: prs) ∧ IntsAre cv _ := ⟨_, _, _, _, _, NX, hrv2⟩
      refine ⟨wsx.length + 1 - (i + 1), by omega, hX, _, i + 1, oI, svs' ++ [.ref P2], cv, _, ps ++ [(if pb < pa then pb else pa, if pb > pa then pb else pa)], b3, b4, (P2, pairObj (if pb < pa then pb else pa, if pb > pa then pb else pa) w1 w2 0) :: prs, some _, some _, some _, rfl,
        (congrArg (Fr g₀ L hX) (lawM1 sl sn (.int (sz : Int) tsz) ex ea eb _ _ _)).mp FX, fun p hp => ?_, cI, dI, ?_, hsv.snoc, hrv2, by rw [hl2, hl1]; exact hnl, hn2, by rw [List.length_append, List.length_singleton]; omega, hlt, rfl⟩
      · refine NX p ?_
        simp only [List.mem_cons] at hp ⊢
        rcases hp with h | h | h | h | h | h | h | h <;> simp [h]
      · intro p hp
        rcases List.mem_cons.mp hp with rfl | hp
        · exact ⟨hPI, hPs, hPd⟩
        · exact hprs p hp
    · have hin : i = wsx.length := Nat.le_antisymm hile (Nat.not_lt.mp hlt)
      refine wpAny_pyNext_list_end rfl it' hDx' (by rw [List.getElem?_toArray]; exact List.getElem?_eq_none (by omega)) fun h₄ eb4 => wpAny_execs_nil ?_
      have F4 : Fr g₀ L h₄ (lawM sl sn (.int (sz : Int) tsz) ex ea eb) := ⟨F'.ns.extBut eb4 (Nat.ne_of_lt hLI), fun b o q => eb4 b o (fun qq => by rw [qq, nI] at q; cases q) (F'.keep b o q), F'.above⟩
      have N4 : News g₀ L h₄ ((D0, W.listOf rvs'.toArray b2) :: (L + 1, oc1) :: (23, tabObj #[]) :: []) := fun p hp => by
        have q : p ∈ ((sn, W.listOf svs'.toArray b1) :: (D0, W.listOf rvs'.toArray b2) :: (Dx, W.listOf wsx.toArray 0) :: (L + 1, oc1) :: (23, tabObj #[]) :: prs) := by
          simp only [List.mem_cons, List.not_mem_nil, or_false] at hp ⊢
          rcases hp with h | h | h <;> simp [h]
        exact ⟨eb4 _ _ (offI' p q) (N' p (List.mem_cons_of_mem _ q)).1, (N' p (List.mem_cons_of_mem _ q)).2⟩
      clear F' N' it' hDx' offI' eb4 ci di hprs hsv hsvl hile hlt hin F9 NL offI hLI nI hIs hId hRow hlI a1 a2 a3 a6 a7 hrep
      dsimp only
      w_top off
      clear F9
      have offD : ∀ p ∈ ((L + 1, oc1) :: (23, tabObj #[]) :: ([] : List (Addr × Obj))), p.1 ≠ D0 := fun p hp => by
        simp only [List.mem_cons, List.not_mem_nil, or_false] at hp
        rcases hp with rfl | rfl
        · exact Ne.symm a4
        · exact Ne.symm a5
      walk1
      refine wpAny_mono (Q := fun f s' => f = .next ∧ ∃ h' tk' rvs' ns' b', s' = ⟨h', g, d, tk', os⟩ ∧ Fr g₀ L h' (lawM sl sn (.int (sz : Int) tsz) ex ea eb) ∧ News g₀ L h' ((D0, W.listOf (List.toArray rvs') b') :: (L + 1, oc1) :: (23, tabObj #[]) :: []) ∧
          IntsAre rvs' ns' ∧ ns'.length = sz ∧ (∀ x ∈ ns', 0 ≤ x)) ?_ ?_ (fun _ _ x => x)
      · unfold lawM at F4
        iterate 15 (first | walk1 | (dsimp only; walk1))
        rename_i h10 tk10 t10 F10 N10
        clear F4 N4
        by_cases c2 : ss.sum.fmod 4 = 2
        · rw [if_pos (by simpa using c2)]
          iterate 12 (first | walk1 | (dsimp only; walk1))
          refine ksa_set F10 N10 (.head offD) hrv (Int.le_refl 0) (by omega) (by decide) (fun hY FY NY hrv1 hl1 _ => ?_)
          clear F10 N10
          have hn1 := set_nn hn0 (i := (0 : Int).toNat) (show 0 ≤ ns.getD (0 : Int).toNat 0 + 1 by have := getD_nn hn0 (0 : Int).toNat; omega)
          generalize ns.set (0 : Int).toNat _ = ns1 at *
          iterate 25 (first | walk1 | (dsimp only; walk1))
          rename_i hX FX NX
          refine ksa_set FX NX (.head offD) hrv1 (by omega) (by rw [hl1, hnl]; omega) (by omega) (fun hW FW NW hrv2 hl2 _ => ?_)
          clear FX NX
          have hn2 := set_nn hn1 (i := ((sz : Int) - 1).toNat) (show 0 ≤ if 0 > ns1.getD ((sz : Int) - 1).toNat 0 - 1 then 0 else ns1.getD ((sz : Int) - 1).toNat 0 - 1 by split <;> omega)
          exact wpAny_execs_nil ⟨rfl, hW, _, _, _, _, rfl, FW, NW, hrv2, by rw [hl2, hl1]; exact hnl, hn2⟩
        · rw [if_neg (by simpa using c2)]
          exact wpAny_execs_nil ⟨rfl, h10, _, rvs', ns, b2, rfl, F10, N10, hrv, hnl, hn0⟩
      rintro f s' ⟨rfl, h11, tk11, rvs1, ns1, b3, rfl, F11, N11, hrv1, hnl1, hn1⟩
      clear F4 N4 hrv hn0 hnl
      dsimp only
      walk1
      refine wpAny_mono (Q := fun f s' => f = .next ∧ ∃ h' tk' rvs' ns' b', s' = ⟨h', g, d, tk', os⟩ ∧ Fr g₀ L h' (lawM sl sn (.int (sz : Int) tsz) ex ea eb) ∧ News g₀ L h' ((D0, W.listOf (List.toArray rvs') b') :: (L + 1, oc1) :: (23, tabObj #[]) :: []) ∧
          IntsAre rvs' ns' ∧ ns'.length = sz ∧ (∀ x ∈ ns', 0 ≤ x)) ?_ ?_ (fun _ _ x => x)
      · unfold lawM at F11
        iterate 15 (first | walk1 | (dsimp only; walk1))
        rename_i h10 tk10 t10 F10 N10
        clear F11 N11
        by_cases c2 : ss.sum.fmod 4 = 3
        · rw [if_pos (by simpa using c2)]
          iterate 12 (first | walk1 | (dsimp only; walk1))
          refine ksa_set F10 N10 (.head offD) hrv1 (by decide) (by omega) (by decide) (fun hY FY NY hrv2 hl2 _ => ?_)
          clear F10 N10
          have hn2 := set_nn hn1 (i := (1 : Int).toNat) (show 0 ≤ ns1.getD (1 : Int).toNat 0 + 2 by have := getD_nn hn1 (1 : Int).toNat; omega)
          exact wpAny_execs_nil ⟨rfl, hY, _, _, _, _, rfl, FY, NY, hrv2, by rw [hl2]; exact hnl1, hn2⟩
        · rw [if_neg (by simpa using c2)]
          exact wpAny_execs_nil ⟨rfl, h10, _, rvs1, ns1, b3, rfl, F10, N10, hrv1, hnl1, hn1⟩
      rintro f s' ⟨rfl, h12, tk12, rvs2, ns2, b4, rfl, F12, N12, hrv2, hnl2, hn2⟩
      clear F11 N11 hrv1 hn1 hnl1 rvs1 ns1 b3 h11 tk11 rvs' ns ps prs b1 b2 oi i svs' rvs h₄ tk' h' I h9 h8 wsx Dx h7 li h6 ws1 D1
      dsimp only
      w_top off
      unfold lawM at F12
      iterate 4 (first | walk1 | (dsimp only; walk1))
      refine LCg.ListComp_U (F₀ := F12) (cl := [(Str.ofString "row", L + 1)]) (by with_unfolding_all rfl) (by decide) (by rfl) (by decide) (by rfl) ?_
      iterate 7 (first | walk1 | (dsimp only; walk1))
      rename_i h13 tk13 q1 q2 q3 IR F13 N13 _
      refine LCg.CompSrc.range rfl F13 N13 IR (small_one (by omega) (by omega) (by omega) (by omega)) (n := ns2.length) (by rw [rangeSize_nat]; omega) (by rw [sizeLine_eq]; omega) (fun g' => ?_)
      refine comp_row (c := L + 1) (D0 := D0) (oc := oc1) (vs := rvs2) (b := b4) rfl (by rfl) (by decide) (by decide) (by decide) (fun C => (by first | exact .inl rfl | exact .inr rfl)) rfl (by simp) hoc1 (by simp) hrv2 (by omega) (fun ys made hy => ?_)
      intro D1 h14 tk14 F14 N14 o14
      iterate 7 (first | walk1 | (dsimp only; walk1))
      rename_i le hE lE ST hT lT hS FS NS
      have S0 : TabS g₀ hS := .inl (NS (23, tabObj #[]) (by simp)).1
      have St0 : StG g₀ hS (.ref ST) (EG.placed ns2) [] :=
        ⟨ST, _, D1, le, ys, [], rfl, (NS _ (.head _)).1, (NS _ (.head _)).2.2, ⟨_, (NS (D1, LCg.lst ys) (by simp)).1, (NS (D1, LCg.lst ys) (by simp)).2.2⟩, ⟨_, (NS (le, W.listOf #[] 0) (by simp)).1, (NS (le, W.listOf #[] 0) (by simp)).2.2⟩,
          (hy.mono (fun p hp => by simp [hp])).pairsG NS, .nil⟩
      have N0 : News g₀ L hS ((D0, W.listOf (List.toArray rvs2) b4) :: (L + 1, oc1) :: []) := fun p hp => by
        simp only [List.mem_cons, List.not_mem_nil, or_false] at hp
        rcases hp with rfl | rfl
        · exact NS _ (by simp)
        · exact NS _ (by simp)
      clear NS lT lE o14 IR hy
      dsimp only
      rename_i a13
      w_top off
      clear a13 offD
      obtain ⟨sg0, hg0, hs0⟩ := St0.seg
      obtain ⟨tt0, ht0, hT0⟩ := S0.seg h23
      have n23 : No23 ((D0, W.listOf (List.toArray rvs2) b4) :: (L + 1, oc1) :: sg0) := by
        have := hg0.no23 S0
        refine No23.cons (No23.cons this ?_) a5
        intro q
        obtain ⟨_, e⟩ := S0.at23
        have e1 : hS.get? (L + 1) = some oc1 := (N0 (L + 1, oc1) (.tail _ (.head _))).1
        rw [q, e] at e1
        rw [← Option.some.inj e1] at hoc1
        cases hoc1
      have N1 : News g₀ L hS ((D0, W.listOf (List.toArray rvs2) b4) :: (L + 1, oc1) :: (sg0 ++ tt0)) := by
        have := news_tab FS (news_seg FS N0 hg0) ht0
        simpa using this
      clear N0
      have fn : ∀ h', Keeps g₀ h' → FnAt 37 h' := fun h' hk => ⟨_, _, _, _, hk _ _ (KX _ _ (reduce_ho _))⟩
      iterate 4 (first | walk1 | (dsimp only; walk1))
      refine callWith_F (fn _ FS.keep) ?_
      iterate 14 (first | walk1 | (dsimp only; walk1))
      rename_i l1 hm1 Fm1 Nm1 lm1 lp hA FA NA iA n1 sA eA fA gA lA
      refine ⟨fn _ FA.keep, ?_⟩
      have hn1 : n1 = ns2.length := by have := gA (by omega); omega
      have SA := hT0 hA (fun p hp => (NA p (by simp [hp])).1)
      have StA := hs0 hA (fun p hp => (NA p (by simp [hp])).1)
      have Ok1 : EG.Ok ns2 (List.replicate (sz : Int).toNat [(0 : Int)]).flatten.length (EG.placed ns2) [] := by
        rw [eA, hn1]; exact EG.ok_start hn2 (by omega)
      refine wpAny_cap 360 880 (reduce_run VV h23 FA.keep SA (fr_below FA) StA (NA _ (.head _)).1 (NA _ (.head _)).2.2 (IntsV.of iA) (EG.Ok ns2) Ok1 EG.ok_step (fun st1 h20 tk20 r1 run1 u1 S1 sto1 => ?_))
      have law1 := EG.run_law (EG.inv_start hn2) (by rw [eA, hn1]; simp [EG.placed]) run1
      have F20 := fr_up h23 SA FA u1
      have N20 : News g₀ L h20 ((D0, W.listOf (List.toArray rvs2) b4) :: (L + 1, oc1) :: sg0) := news_up (fun p hp => NA p (by
        simp only [List.mem_cons, List.mem_append] at hp ⊢
        rcases hp with h | h | h <;> simp [h])) n23 u1
      have hg0' : SegAt g₀ h20 sg0 := fun p hp => ⟨(N20 p (by simp [hp])).1, (N20 p (by simp [hp])).2.2, (hg0 p hp).2.2⟩
      obtain ⟨sg1, hg1, hs1⟩ := sto1.seg
      obtain ⟨tt1, ht1, hT1⟩ := S1.seg h23
      have n23' : No23 ((D0, W.listOf (List.toArray rvs2) b4) :: (L + 1, oc1) :: (sg0 ++ sg1)) := fun p hp => by
        simp only [List.mem_cons, List.mem_append] at hp
        rcases hp with h | h | h | h
        · exact n23 p (by simp [h])
        · exact n23 p (by simp [h])
        · exact n23 p (by simp [h])
        · exact hg1.no23 S1 p h
      have N21 : News g₀ L h20 ((D0, W.listOf (List.toArray rvs2) b4) :: (L + 1, oc1) :: ((sg0 ++ sg1) ++ tt1)) := by
        have := news_tab F20 (news_seg F20 N20 hg1) ht1
        simpa using this
      clear N20 NA FA
      have hsegs : SegAt g₀ h20 (sg0 ++ sg1) := hg0'.append hg1
      have hT1' : ∀ h', Stands h' ((sg0 ++ sg1) ++ tt1) → TabS g₀ h' := fun h' hh => hT1 h' hh.right
      have hs1' : ∀ h', Stands h' ((sg0 ++ sg1) ++ tt1) → StO g₀ h' r1 st1 := fun h' hh => hs1 h' hh.left.right
      have hs0' : ∀ h', Stands h' ((sg0 ++ sg1) ++ tt1) → StG g₀ h' (.ref ST) (EG.placed ns2) [] := fun h' hh => hs0 h' hh.left.left
      generalize sg0 ++ sg1 = sg at *
      walk1
      rename_i h21 F21 N21
      clear hg0 hs0 ht0 hT0 n23 fn lm1 iA sA eA fA gA lA SA StA Ok1 u1 S1 sto1 run1 St0 S0 hg0' hg1 hs1 ht1 hT1
      have hsegs' : SegAt g₀ h21 sg := fun p hp => ⟨(N21 p (by simp [hp])).1, (N21 p (by simp [hp])).2.2, (hsegs p hp).2.2⟩
      clear hsegs
      have n23 := n23'
      have hT1 := hT1'
      have hs1 := hs1'
      have hs0 := hs0'
      have hsg := hsegs'
      clear n23' hT1' hs1' hs0' hsegs'
      dsimp only
      w_top off
      clear hn1 n1 hA lp hm1 l1 tt0 sg0 sg1 hS hT hE le h14 D1 made ys g' q1 q2 q3 h13 h12 tk h5 hz4 hz3 n0 hz2 hz lz
      have fn : ∀ h', Keeps g₀ h' → FnAt 37 h' := fun h' hk => ⟨_, _, _, _, hk _ _ (KX _ _ (reduce_ho _))⟩
      iterate 4 (first | walk1 | (dsimp only; walk1))
      refine callWith_F (fn _ F21.keep) ?_
      iterate 20 (first | walk1 | (dsimp only; walk1))
      refine kba_turn (value' := PySem.Expr.Name (PySem.Str.ofString "_") ⟨0, 0, 0, 0⟩) (fun _ => rfl) ?_
      rename_i l1 hm1 lm1 l2 hm2 i2 n1 s1 e1 e2 e3 lm2 l3 ws3 hm3 F3 N3 i3 lm3
      have hz3 : ws3.toArray.size ≤ sizeLine := by
        have h1 := i3.length
        have h2 := e3 (by omega)
        rw [List.length_append, e1] at h1
        rw [List.size_toArray, sizeLine_eq]
        omega
      refine kmk_slice_ints F3 N3 (N3.isList (.head _)) .none (.int _ _) i3 (kmk_upto i3 (by omega)) (List.length_take ..) (fun lp wsp hA FA NA lA iA cA gA => ?_) (by with_unfolding_all rfl) (by intro _; with_unfolding_all rfl) hz3
      clear F3 N3 hz3
      iterate 3 (first | walk1 | (dsimp only; walk1))
      refine ⟨fn _ FA.keep, ?_⟩
      have hn1 : (List.take (sz : Int).toNat (ss ++ (List.replicate (sz : Int).toNat [(0 : Int)]).flatten)).length = ns2.length := by
        rw [List.length_append, e1] at cA
        have := e3 (by omega)
        omega
      have SA := hT1 hA (fun p hp => (NA p (by
        rcases List.mem_append.mp hp with h | h <;> simp [h])).1)
      have StA := hs0 hA (fun p hp => (NA p (by
        rcases List.mem_append.mp hp with h | h <;> simp [h])).1)
      have stoA := hs1 hA (fun p hp => (NA p (by
        rcases List.mem_append.mp hp with h | h <;> simp [h])).1)
      have Ok1 : EG.Ok ns2 (List.take (sz : Int).toNat (ss ++ (List.replicate (sz : Int).toNat [(0 : Int)]).flatten)).length (EG.placed ns2) [] := by
        rw [hn1]; exact EG.ok_start hn2 (by omega)
      refine wpAny_cap 360 880 (reduce_run VV h23 FA.keep SA (fr_below FA) StA (NA _ (.head _)).1 (NA _ (.head _)).2.2 (IntsV.of iA) (EG.Ok ns2) Ok1 EG.ok_step (fun st2 h30 tk30 r2 run2 u2 S2 sto2 => ?_))
      have law2 := EG.run_law (EG.inv_start hn2) (by rw [hn1]; simp [EG.placed]) run2
      have F30 := fr_up h23 SA FA u2
      have N30 : News g₀ L h30 ((D0, W.listOf (List.toArray rvs2) b4) :: (L + 1, oc1) :: []) := news_up (fun p hp => NA p (by
        simp only [List.mem_cons, List.not_mem_nil, or_false] at hp ⊢
        rcases hp with h | h <;> simp [h])) (fun p hp => n23 p (by
        simp only [List.mem_cons, List.not_mem_nil, or_false] at hp ⊢
        rcases hp with h | h <;> simp [h])) u2
      have sto1 := StO.sq stoA (UpT.sq u2 SA)
      obtain ⟨sg1, hg1, hs1'⟩ := sto1.seg
      obtain ⟨sg2, hg2, hs2'⟩ := sto2.seg
      obtain ⟨tt2, ht2, hT2⟩ := S2.seg h23
      have n23' : No23 ((D0, W.listOf (List.toArray rvs2) b4) :: (L + 1, oc1) :: (sg1 ++ sg2)) := fun p hp => by
        simp only [List.mem_cons, List.mem_append] at hp
        rcases hp with h | h | h | h
        · exact n23 p (by simp [h])
        · exact n23 p (by simp [h])
        · exact hg1.no23 S2 p h
        · exact hg2.no23 S2 p h
      have N31 : News g₀ L h30 ((D0, W.listOf (List.toArray rvs2) b4) :: (L + 1, oc1) :: ((sg1 ++ sg2) ++ tt2)) := by
        have := news_tab F30 (news_seg F30 (news_seg F30 N30 hg1) hg2) ht2
        simpa using this
      clear N30 NA FA
      have hT2' : ∀ h', Stands h' ((sg1 ++ sg2) ++ tt2) → TabS g₀ h' := fun h' hh => hT2 h' hh.right
      have hs1'' : ∀ h', Stands h' ((sg1 ++ sg2) ++ tt2) → StO g₀ h' r1 st1 := fun h' hh => hs1' h' hh.left.left
      have hs2'' : ∀ h', Stands h' ((sg1 ++ sg2) ++ tt2) → StO g₀ h' r2 st2 := fun h' hh => hs2' h' hh.left.right
      have hsegs : SegAt g₀ h30 (sg1 ++ sg2) := hg1.append hg2
      clear hs1 hs0 hT1 hsg n23
      generalize sg1 ++ sg2 = sg' at *
      walk1
      rename_i h31 F31 N31
      clear lA gA cA iA lm3 i3 lm2 e3 e2 e1 s1 i2 lm1 fn hn1 SA StA stoA Ok1 run2 u2 S2 sto2 sto1 hg1 hg2 hs1' hs2' ht2 hT2
      have hsegs' : SegAt g₀ h31 sg' := fun p hp => ⟨(N31 p (by simp [hp])).1, (N31 p (by simp [hp])).2.2, (hsegs p hp).2.2⟩
      clear hsegs
      dsimp only
      w_top off
      clear h30 hA wsp lp hm3 ws3 l3 n1 hm2 l2 hm1 l1 h21 sg1 sg2 tt1 sg
      have fn54 : ∀ h', Keeps g₀ h' → FnAt 54 h' := fun h' hk => ⟨_, _, _, _, hk _ _ (KX _ _ (fits_ho _))⟩
      have fn59 : ∀ h', Keeps g₀ h' → FnAt 59 h' := fun h' hk => ⟨_, _, _, _, hk _ _ (KX _ _ (holds_ho _))⟩
      iterate 5 (first | walk1 | (dsimp only; walk1))
      refine callWith_F (fn54 _ F31.keep) ?_
      iterate 10 (first | walk1 | (dsimp only; walk1))
      have mD := N31 _ (.head _)
      (show wpAny _ _ (call (Value.builtin "sorted") [Value.ref D0] [(PySem.Str.ofString "reverse", Value.bool true)]) _ _ _)
      refine ksk_rev F31 N31 ⟨_, mD.1, rfl, _, rfl⟩ hrv2 (by omega) (fun D3 vs3 ns3 c3 h32 F32 N32 l32 hI3 hl3 hp3 ho3 _ => ?_)
      iterate 1 (first | walk1 | (dsimp only; walk1))
      refine ⟨fn54 _ F32.keep, ?_⟩
      have ms : ∀ p ∈ (sg' ++ tt2), p ∈ ((D3, W.listOf (List.toArray vs3) c3) :: (D0, W.listOf (List.toArray rvs2) b4) :: (L + 1, oc1) :: (sg' ++ tt2)) := fun p hp => List.mem_cons_of_mem _ (List.mem_cons_of_mem _ (List.mem_cons_of_mem _ hp))
      have S32 := hT2' h32 (fun p hp => (N32 p (ms p hp)).1)
      have sA := hs1'' h32 (fun p hp => (N32 p (ms p hp)).1)
      have sB := hs2'' h32 (fun p hp => (N32 p (ms p hp)).1)
      refine wpAny_cap 370 900 (fits_call VV h23 F32.keep S32 (fr_below F32) (N32 _ (.head _)).1 (N32 _ (.head _)).2.2 hI3 (by omega) (fun h40 tk40 b u3 S40 hb => ?_))
      have hb' := hb.trans (EG.fits_iff hn2 hp3 (ho3.imp fun h => by simpa using h))
      have F40 := fr_up h23 S32 F32 u3
      have N40 : News g₀ L h40 ((D0, W.listOf (List.toArray rvs2) b4) :: (L + 1, oc1) :: []) := news_up (fun p hp => N32 p (by
        simp only [List.mem_cons, List.not_mem_nil, or_false] at hp ⊢
        rcases hp with h | h <;> simp [h])) (fun p hp => n23' p (by
        simp only [List.mem_cons, List.not_mem_nil, or_false] at hp ⊢
        rcases hp with h | h <;> simp [h])) u3
      have sA4 := StO.sq sA (UpT.sq u3 S32)
      have sB4 := StO.sq sB (UpT.sq u3 S32)
      obtain ⟨tt4, ht4, hT4⟩ := S40.seg h23
      clear sA sB S32 ms l32 hI3 ho3 hb N31 F31 N32 hs1'' hs2'' hT2' hsegs' fn54 mD
      cases b with
      | false =>
        have hE := fun h => Bool.false_ne_true (hb'.mpr h)
        have e1 := law1.2 hE
        have e2 := law2.2 hE
        subst e1
        subst e2
        cases sA4
        cases sB4
        have N41 : News g₀ L h40 ((D0, W.listOf (List.toArray rvs2) b4) :: (L + 1, oc1) :: tt4) := news_tab F40 N40 ht4
        clear N40
        iterate 17 (first | walk1 | (dsimp only; walk1))
        dsimp only
        exact ⟨rfl, h40, _, _, rfl, F40, hT4 h40 (fun p hp => (N41 p (by simp [hp])).1)⟩
      | true =>
        have hE := hb'.mp rfl
        obtain ⟨t1, rfl, I1⟩ := law1.1 hE
        obtain ⟨t2, rfl, I2⟩ := law2.1 hE
        have sA5 : StG g₀ h40 r1 [] t1 := sA4
        have sB5 : StG g₀ h40 r2 [] t2 := sB4
        clear sA4 sB4
        obtain ⟨sgA, hgA, hsA⟩ := sA5.seg
        obtain ⟨sgB, hgB, hsB⟩ := sB5.seg
        obtain ⟨x1, y1, ra1, ta1, _, _, rfl, m1, z1, _⟩ := id sA5
        obtain ⟨x2, y2, ra2, ta2, _, _, rfl, m2, z2, _⟩ := id sB5
        have segAB : SegAt g₀ h40 ((x1, ⟨.type "tuple", none, .seq #[.ref ra1, .ref ta1] y1, #[]⟩) :: (x2, ⟨.type "tuple", none, .seq #[.ref ra2, .ref ta2] y2, #[]⟩) :: (sgA ++ sgB)) := fun p hp => by
          rcases List.mem_cons.mp hp with rfl | hp
          · exact ⟨m1, z1, _, _, rfl⟩
          · rcases List.mem_cons.mp hp with rfl | hp
            · exact ⟨m2, z2, _, _, rfl⟩
            · exact hgA.append hgB p hp
        have N41 : News g₀ L h40 ((x1, ⟨.type "tuple", none, .seq #[.ref ra1, .ref ta1] y1, #[]⟩) :: (x2, ⟨.type "tuple", none, .seq #[.ref ra2, .ref ta2] y2, #[]⟩) :: (D0, W.listOf (List.toArray rvs2) b4) :: (L + 1, oc1) :: ((sgA ++ sgB) ++ tt4)) := fun p hp => news_tab F40 (news_seg F40 N40 segAB) ht4 p (by
          simp only [List.mem_cons, List.mem_append] at hp ⊢
          rcases hp with h | h | h | h | h | h <;> simp [h])
        clear N40
        iterate 21 (first | walk1 | (dsimp only; walk1))
        refine callWith_F (fn59 _ F40.keep) ?_
        iterate 5 (first | walk1 | (dsimp only; walk1))
        refine ⟨fn59 _ F40.keep, ?_⟩
        have S41 := hT4 h40 (fun p hp => (N41 p (by simp [hp])).1)
        have mD := N41 (D0, W.listOf (List.toArray rvs2) b4) (by simp)
        refine wpAny_cap 370 900 (holds_call VV h23 F40.keep S41 (fr_below F40) sA5 mD.1 mD.2.2 hrv2 (by omega) I1 (EG.ties_le I1 (by omega)) (fun h50 tk50 u4 S50 => ?_))
        have F50 := fr_up h23 S41 F40 u4
        have sB6 := StG.sq sB5 (UpT.sq u4 S41)
        have N50 : News g₀ L h50 ((D0, W.listOf (List.toArray rvs2) b4) :: (L + 1, oc1) :: []) := news_up (fun p hp => N41 p (by
          simp only [List.mem_cons, List.not_mem_nil, or_false] at hp ⊢
          rcases hp with h | h <;> simp [h])) (fun p hp => n23' p (by
          simp only [List.mem_cons, List.not_mem_nil, or_false] at hp ⊢
          rcases hp with h | h <;> simp [h])) u4
        obtain ⟨tt5, ht5, hT5⟩ := S50.seg h23
        have N51 : News g₀ L h50 ((D0, W.listOf (List.toArray rvs2) b4) :: (L + 1, oc1) :: tt5) := news_tab F50 N50 ht5
        clear N50 N41 F40 sA5 hgA hgB hsA hsB
        iterate 5 (first | walk1 | (dsimp only; walk1))
        refine callWith_F (fn59 _ F50.keep) ?_
        iterate 5 (first | walk1 | (dsimp only; walk1))
        refine ⟨fn59 _ F50.keep, ?_⟩
        have mE := N51 (D0, W.listOf (List.toArray rvs2) b4) (by simp)
        refine wpAny_cap 370 900 (holds_call VV h23 F50.keep S50 (fr_below F50) sB6 mE.1 mE.2.2 hrv2 (by omega) I2 (EG.ties_le I2 (by omega)) (fun h60 tk60 u5 S60 => ?_))
        exact ⟨rfl, h60, _, _, rfl, fr_up h23 S50 F50 u5, S60⟩
  · rintro _ _ ⟨rfl, h', tk, m', rfl, F, S⟩
    refine ⟨?_, ?_⟩
    · exact goodW_bool F hg (fun _ => rfl) (by first | kernel_rfl | with_unfolding_all rfl | law_fin)
    · exact ⟨S.at23, trivial⟩
end Mine
end
set_option maxRecDepth 100000 in
theorem PySem.Challenge.cw_dw5009_01_holds : PySem.Challenge.rw_dw5009_01.Holds := by
  exact Mine.law0
