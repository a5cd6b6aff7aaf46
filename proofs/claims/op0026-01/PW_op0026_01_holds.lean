import PyProof.Rows.All
import Wide.All
import OpenK.AllK
import Wide.FinOn
import KE.KRevIter
import PyProof.WalksMore
import KE.KTryDeepN
import KE.KBits
import KE.BitLaws
import KE.LcSums
import PySem.Challenge.RW_op0026_01
open PySem PySem.W PyProof.Rows
set_option Elab.async false
namespace Mine
set_option maxRecDepth 100000 in
set_option maxHeartbeats 8000000 in
open_top hd for PySem.Challenge.rw_op0026_01
end Mine
open PySem.Calls PySem.Spec
namespace Mine
open PySem.SeqAt PySem.MeetsSeq
open AutoSeq1 (wpAny_loadPart')
abbrev tupO (vs : List Value) (n : Nat) : Obj := { cls := .type "tuple", data := .seq vs.toArray n }

theorem rc_lt_int {prog : Program} {w : World} {A : Around} {E : Value → Shared → Prop} {s : Shared} {a b : Int} {t u : Tok} {Q : Value → Shared → Prop} (h : Q (.bool (decide (a < b))) s) :
    wpAny (model prog w) A (richCompare .Lt (.int a t) (.int b u)) Q E s := wpAny_lt_int h

theorem tuple_lt2 (l b : Addr) (x1 x2 y1 y2 : Int) (t1 t2 u1 u2 : Tok) (n n2 : Nat) :
    Meets (Builtin.«tuple.__lt__» ⟨[.ref l, .ref b], []⟩)
      (fun A R s => s.heap.get? l = some (tupO [.int x1 t1, .int x2 t2] n) ∧ s.heap.get? b = some (tupO [.int y1 u1, .int y2 u2] n2) ∧
        ∀ r : Bool, R (.ok (.ret (.bool r))) s) :=
  .of_wp fun prog w A R s h => by
    obtain ⟨hp, g, d, tk, os⟩ := s; obtain ⟨hl, hb, h⟩ := h
    have f2 := AutoSeq1.sub_tuple_tuple
    wp_walk using wpAny_loadPart' hl, wpAny_loadPart' hb, wpAny_eqBool_int
    cases h1 : (x1 == y1)
    · wp_walk using rc_lt_int
      exact ⟨_, rfl, h _⟩
    · wp_walk using wpAny_eqBool_int
      cases h2 : (x2 == y2)
      · wp_walk using rc_lt_int
        exact ⟨_, rfl, h _⟩
      · wp_walk
        exact ⟨_, rfl, h _⟩
theorem lt_tup {prog : Program} {w : World} {A : Around} {E : Value → Shared → Prop} {s : Shared} {l b : Addr} {x1 x2 y1 y2 : Int} {t1 t2 u1 u2 : Tok} {n n2 : Nat} {Q : Value → Shared → Prop}
    (hl : s.heap.get? l = some (tupO [.int x1 t1, .int x2 t2] n)) (hb : s.heap.get? b = some (tupO [.int y1 u1, .int y2 u2] n2)) (hu : A.units < cLine) (h : ∀ r : Bool, Q (.bool r) s) :
    wpAny (model prog w) A (compareOp .Lt (.ref l) (.ref b)) Q E s :=
  richCompare_meets_room (T := "tuple") (op := .Lt) ⟨_, hl, rfl⟩ ⟨_, hb, rfl⟩ F.slot_tuple_lt F.entry_tuple_lt (F.args_tuple_lt_2 _ _) (tuple_lt2 l b x1 x2 y1 y2 t1 t2 u1 u2 n n2) ⟨hl, hb, fun r => ⟨(by intro e; cases e), h r⟩⟩ hu
/-- the state s with another heap and another count of tokens -/
def st (s : Shared) (h : Heap) (tk : Nat) : Shared := { s with heap := h, toks := tk }
abbrev lst (its : List Value) (n : Nat) : Obj := { cls := .type "list", data := .seq its.toArray n }
theorem st_self (s : Shared) : st s s.heap s.toks = s := rfl
def up (m : Str → Option Value) (x : Str) (v : Value) : Str → Option Value := fun y => if y = x then some v else m y
theorem up_eq {m : Str → Option Value} {x : Str} {v : Value} : up m x v x = some v := if_pos rfl
theorem up_skip {m : Str → Option Value} {x y : Str} {v : Value} (h : y ≠ x) : up m x v y = m y := if_neg h
theorem up_ne {m : Str → Option Value} {x y : Str} {v w : Value} (hv : m y = some w) (h : y ≠ x) : up m x v y = some w := (if_neg h).trans hv

section
variable {prog : Program} {w : World} {A : Around} {E : Value → Shared → Prop} {s : Shared} {h : Heap} {tk : Nat} {env : Env} {g : Heap} {L : Addr} {m : Str → Option Value} {news : List (Addr × Obj)}
theorem nl {x : Str} {pos : Pos} {v : Value} {Q : Value → Shared → Prop} (F : Fr g L h m) (hv : m x = some v) (hx : env.kindOf x = some .local) (h1 : Q v (st s h tk)) (hL : env.locals = L := by rfl)
    (hk : env.scope.kind = .function := by rfl) (hd : (x == ("__debug__" : Str)) = false := by decide +kernel) : wpAny (model prog w) A (eval (.Name x pos) env) Q E (st s h tk) :=
  wpAny_Name (wpAny_loadName_local (s := st s h tk) hk hx (hL ▸ F.ns) hv h1) hd
theorem sl {x : Str} {v : Value} {Q : Unit → Shared → Prop} (F : Fr g L h m) (N : News g L h news) (hx : env.kindOf x = some .local)
    (h1 : ∀ h' tk', Fr g L h' (up m x v) → News g L h' news → Q () (st s h' tk')) (hL : env.locals = L := by rfl) (hk : env.scope.kind = .function := by rfl) : wpAny (model prog w) A (storeName env x v) Q E (st s h tk) := by
  subst hL
  exact wpAny_storeName_local (s := st s h tk) hx F.ns (fun h' hn hs => h1 h' (tk + 1) (F.set hn hs) (N.set hs)) (by rw [hk]; rfl)
theorem ci {i : Int} {k : Nat} {pos : Pos} {Q : Value → Shared → Prop} (h1 : ∀ t tk', Q (.int i t) (st s h tk')) : wpAny (model prog w) A (eval (.Constant (.int i) k pos) env) Q E (st s h tk) :=
  wpAny_Constant_int (s := st s h tk) (h1 _ (tk + 1))
theorem cs {x : Str} {k : Nat} {pos : Pos} {Q : Value → Shared → Prop} (h1 : ∀ t tk', Q (.str x t) (st s h tk')) : wpAny (model prog w) A (eval (.Constant (.str x) k pos) env) Q E (st s h tk) :=
  wpAny_Constant_str (s := st s h tk) (h1 _ (tk + 1))
variable {a b : Int} {t u : Tok}
theorem b_add {Q : Value → Shared → Prop} (h1 : ∀ t tk', Q (.int (a + b) t) (st s h tk')) : wpAny (model prog w) A (binaryOp .Add (.int a t) (.int b u)) Q E (st s h tk) := PyProof.Rows.add_int (s := st s h tk) (h1 _ (tk + 1))
theorem b_sub {Q : Value → Shared → Prop} (h1 : ∀ t tk', Q (.int (a - b) t) (st s h tk')) : wpAny (model prog w) A (binaryOp .Sub (.int a t) (.int b u)) Q E (st s h tk) := PyProof.Rows.sub_int (s := st s h tk) (h1 _ (tk + 1))
theorem b_mul {Q : Value → Shared → Prop} (h1 : ∀ t tk', Q (.int (a * b) t) (st s h tk')) (hm : IntMulOk a b) : wpAny (model prog w) A (binaryOp .Mult (.int a t) (.int b u)) Q E (st s h tk) := PyProof.Rows.mul_int (s := st s h tk) (h1 _ (tk + 1)) hm
theorem b_div {Q : Value → Shared → Prop} (hb : b ≠ 0) (hs : b.natAbs < 1073741824) (h1 : ∀ t tk', Q (.int (a.fdiv b) t) (st s h tk')) : wpAny (model prog w) A (binaryOp .FloorDiv (.int a t) (.int b u)) Q E (st s h tk) := PyProof.Rows.floordiv_int (s := st s h tk) hb (h1 _ (tk + 1)) (.inl (PyProof.noPylong_small hs))
theorem b_mod {Q : Value → Shared → Prop} (hb : b ≠ 0) (h1 : ∀ t tk', Q (.int (a.fmod b) t) (st s h tk')) : wpAny (model prog w) A (binaryOp .Mod (.int a t) (.int b u)) Q E (st s h tk) := PyProof.Rows.mod_int' (s := st s h tk) hb (h1 _ (tk + 1))
theorem b_rsh {Q : Value → Shared → Prop} (hn : 0 ≤ b) (h1 : ∀ t tk', Q (.int (a.fdiv (2 ^ b.toNat)) t) (st s h tk')) : wpAny (model prog w) A (binaryOp .RShift (.int a t) (.int b u)) Q E (st s h tk) := rshift_int (s := st s h tk) hn (h1 _ (tk + 1))
theorem c_gt {Q : Value → Shared → Prop} (h1 : Q (.bool (decide (b < a))) (st s h tk)) : wpAny (model prog w) A (compareOp .Gt (.int a t) (.int b u)) Q E (st s h tk) := PyProof.Rows.gt_int (s := st s h tk) h1
theorem c_lt {Q : Value → Shared → Prop} (h1 : Q (.bool (decide (a < b))) (st s h tk)) : wpAny (model prog w) A (compareOp .Lt (.int a t) (.int b u)) Q E (st s h tk) := PyProof.Rows.lt_int (s := st s h tk) h1
theorem c_ltT {l b : Addr} {Q : Value → Shared → Prop} {x1 x2 y1 y2 : Int} {t1 t2 u1 u2 : Tok} {n n2 : Nat} (N : News g L h news) (hl : (l, tupO [.int x1 t1, .int x2 t2] n) ∈ news) (hb : (b, tupO [.int y1 u1, .int y2 u2] n2) ∈ news)
    (hu : A.units < cLine) (h1 : ∀ r : Bool, Q (.bool r) (st s h tk)) : wpAny (model prog w) A (compareOp .Lt (.ref l) (.ref b)) Q E (st s h tk) :=
  lt_tup (s := st s h tk) (N.get hl) (N.get hb) hu h1
/-- an item of a list of the ledger -/
theorem gi {value slice : Expr} {l : Addr} {its : List Value} {n : Nat} {k : Int} {u : Tok} {x : Value} {Q : Value → Shared → Prop} (N : News g L h news) (hl : (l, lst its n) ∈ news) (h0 : 0 ≤ k) (hfit : k < 2 ^ 63) (hx : its[k.toNat]? = some x) (h1 : Q x (st s h tk))
    (hs : subscripted slice false (.ref l) (.int k u) = operate [.ref l, .int k u] (getItem (.ref l) (.int k u)) := by with_unfolding_all rfl) (hg : ∀ r, letTemporaryGo value (.ref l) r = pure () := by intro _; with_unfolding_all rfl) :
    wpAny (model prog w) A (subscriptTail value slice (.ref l) (.int k u)) Q E (st s h tk) :=
  item_listL (s := st s h tk) ⟨_, N.get hl, rfl, n, rfl⟩ h0 hfit hx h1 hs hg
/-- an object of the ledger turned -/
theorem upd_news {l : Addr} {o o' : Obj} {rest : List (Addr × Obj)} {f : Obj → Obj} (F : Fr g L h m) (N : News g L h ((l, o) :: rest)) (hoff : ∀ p ∈ rest, p.1 ≠ l) (e : f o = o') (hf : o'.isFreed = false) :
    Fr g L (h.update l f) m ∧ News g L (h.update l f) ((l, o') :: rest) :=
  news_upd (pre := []) F N (fun _ hp => nomatch hp) hoff e hf
theorem setAt {l : Addr} {its : List Value} {n : Nat} {rest : List (Addr × Obj)} {k : Int} {u : Tok} {v : Value} {Q : Unit → Shared → Prop} (F : Fr g L h m) (N : News g L h ((l, lst its n) :: rest)) (hoff : ∀ p ∈ rest, p.1 ≠ l)
    (h0 : 0 ≤ k) (hfit : k < 2 ^ 63) (hn : k < its.length) (h1 : ∀ h', Fr g L h' m → News g L h' ((l, lst (its.set k.toNat v) n) :: rest) → Q () (st s h' tk)) :
    wpAny (model prog w) A (setItem (.ref l) (.int k u) v) Q E (st s h tk) := by
  have U := upd_news (f := Obj.mapSeq (·.setIfInBounds k.toNat v)) (o' := lst (its.set k.toNat v) n) F N hoff
    (by show Obj.mk _ _ (.seq _ _) _ = _; simp) rfl
  exact ki_setAt (s := st s h tk) (N.get (.head _)) h0 hfit (by simpa using hn) (h1 _ U.1 U.2)
end

section
variable {prog : Program} {w : World} {A : Around} {E : Value → Shared → Prop} {s : Shared} {h : Heap} {tk : Nat} {env : Env} {g : Heap} {L : Addr} {m : Str → Option Value} {news : List (Addr × Obj)}
/-- nothing is raised -/
theorem noE {α : Type} {t : Sem α} {Q : α → Shared → Prop} (h1 : wpAny (model prog w) A t Q (fun _ _ => False) s) : wpAny (model prog w) A t Q E s := wpAny_mono h1 (fun _ _ x => x) fun _ _ x => x.elim
def Nx (prog : Program) (w : World) (A : Around) (env : Env) (rest : List Stmt) (Q : Flow → Shared → Prop) (E : Value → Shared → Prop) (f : Flow) (s : Shared) : Prop := match f with | .next => wpAny (model prog w) A (execs rest env) Q E s | f => Q f s
section
variable {rest : List Stmt} {Q : Flow → Shared → Prop}
theorem xc {st : Stmt} (h1 : wpAny (model prog w) A (exec st env) (Nx prog w A env rest Q E) E s) : wpAny (model prog w) A (execs (st :: rest) env) Q E s := wpAny_execs_cons (wpAny_mono h1 (fun f _ x => by cases f <;> exact x) fun _ _ x => x)
theorem nx_next (h1 : wpAny (model prog w) A (execs rest env) Q E s) : Nx prog w A env rest Q E .next s := h1
theorem nx_ret {v : Value} (h1 : Q (.ret v) s) : Nx prog w A env rest Q E (.ret v) s := h1
theorem nx_brk (h1 : Q .brk s) : Nx prog w A env rest Q E .brk s := h1
theorem nx_cont (h1 : Q .cont s) : Nx prog w A env rest Q E .cont s := h1
/-- a statement that goes on, by what holds behind it -/
theorem sq {st : Stmt} (P : Shared → Prop) (h1 : wpAny (model prog w) A (exec st env) (fun f s' => f = .next ∧ P s') E s) (h2 : ∀ s', P s' → wpAny (model prog w) A (execs rest env) Q E s') : wpAny (model prog w) A (execs (st :: rest) env) Q E s :=
  xc (wpAny_mono h1 (fun _ s' x => by obtain ⟨rfl, p⟩ := x; exact h2 s' p) fun _ _ x => x)
end
def Ib (b : Bool) (P R : Prop) : Prop := if b then P else R
theorem ib {b : Bool} {P R : Prop} (h1 : b = true → P) (h2 : b = false → R) : Ib b P R := by cases b; exact h2 rfl; exact h1 rfl
theorem ib_t {P R : Prop} (h1 : P) : Ib true P R := h1
theorem ib_f {P R : Prop} (h1 : R) : Ib false P R := h1
theorem if_ {test : Expr} {body orelse : List Stmt} {pos : Pos} {Q : Flow → Shared → Prop} (h1 : wpAny (model prog w) A (isTrue test env (eval test env)) (fun b s₂ => Ib b (wpAny (model prog w) A (execs body env) Q E s₂) (wpAny (model prog w) A (execs orelse env) Q E s₂)) E s) :
    wpAny (model prog w) A (exec (.If test body orelse pos) env) Q E s := wpAny_If h1
def Wl (I : Nat → Shared → Prop) (n : Nat) (Q : Flow → Shared → Prop) (f : Flow) (s : Shared) : Prop := match f with | .next | .cont => ∃ k, k < n ∧ I k s | .brk => Q .next s | .ret v => Q (.ret v) s
theorem wl_next {I : Nat → Shared → Prop} {n : Nat} {Q : Flow → Shared → Prop} (k : Nat) (hk : k < n) (h1 : I k s) : Wl I n Q .next s := ⟨k, hk, h1⟩
theorem wl_cont {I : Nat → Shared → Prop} {n : Nat} {Q : Flow → Shared → Prop} (k : Nat) (hk : k < n) (h1 : I k s) : Wl I n Q .cont s := ⟨k, hk, h1⟩
theorem wl_brk {I : Nat → Shared → Prop} {n : Nat} {Q : Flow → Shared → Prop} (h1 : Q .next s) : Wl I n Q .brk s := h1
theorem wl_ret {I : Nat → Shared → Prop} {n : Nat} {Q : Flow → Shared → Prop} {v : Value} (h1 : Q (.ret v) s) : Wl I n Q (.ret v) s := h1
theorem while_ {test : Expr} {body orelse : List Stmt} {pos : Pos} {Q : Flow → Shared → Prop} (I : Nat → Shared → Prop) (n : Nat) (h0 : I n s)
    (turn : ∀ n s, I n s → wpAny (model prog w) A (isTrue test env (eval test env)) (fun b s₂ =>
      Ib b (wpAny (model prog w) A (execs body env) (Wl I n Q) (fun _ _ => False) s₂) (wpAny (model prog w) A (execs orelse env) Q (fun _ _ => False) s₂)) (fun _ _ => False) s) :
    wpAny (model prog w) A (exec (.While test body orelse pos) env) Q E s := by
  refine wpAny_While (codeAny_whileLoop I (fun n s hI => ?_) n h0)
  refine wpAny_mono (turn n s hI) (fun b s₂ h₂ => ?_) fun _ _ x => x.elim
  cases b
  · exact wpAny_mono h₂ (fun _ _ x => x) fun _ _ x => x.elim
  · refine wpAny_mono h₂ (fun f _ x => ?_) fun _ _ x => x.elim
    cases f <;> exact x
/-- a def of the text is entered, left without a raise -/
theorem enter {A₀ : Around} {base h₀ : Heap} {outer : List Env} {K : Frag} {p : Program} {loose : List Str} {mean : ExcName → Option Value} {mg mb : Str → Option Value} {dp un : Nat} {gd : Option (List Code)} {cn : Str} {cs : Scope} {a : Addr} {ccd : Value} {cl : List (Str × Addr)}
    {Q : Value → Shared → Prop} {name qual : Str} {params : Arguments} {body : List Stmt} {scope : Scope} {dV kV doc pm cdv ct oc : Value} {an od : Option Addr} {osl : Array (Option Value)} {f : Addr} {args : List Value} (binds : List (Str × Value))
    (B : Below A₀ base outer h₀) (F : Fr h₀ L h m) (X₀ : K.In h₀) (N : News h₀ L h news) (T : Top p loose mean mg mb h₀) (hke : cs.kind = .function)
    (ho : K.lookup f = some ⟨oc, od, .func (fnOf name qual params body scope dV kV doc pm an cdv ct), osl⟩) (hcd : codeIn K cdv qual = true) (hroom : dp < recursionLimit)
    (hbind : BindsTo (st s h tk) (fnOf name qual params body scope dV kV doc pm an cdv ct) ⟨args, []⟩ binds) (hloc : ∀ y ∈ binds, scope.names.lookup y.1 = some .local)
    (h1 : ∀ g L' h₁ tk₁, Fr g L' h₁ (fun y => binds.reverse.lookup y) → News g L' h₁ news → Below (ktrTop dp un gd cn cs L a ccd cl outer) base (envX cn cs L a ccd cl :: outer) g → K.In g → Top p loose mean mg mb g → (∀ p ∈ news, p.1 < L') →
      wpAny (model prog w) ((ktrTop dp un gd cn cs L a ccd cl outer).deeper (envX qual scope L' f cdv [])) (execs body (envX qual scope L' f cdv []))
        (fun fl s' => ∃ h' tk' m' news', s' = st s h' tk' ∧ Fr g L' h' m' ∧ News g L' h' news' ∧ (Fr h₀ L h' m → News h₀ L h' news' → Q (match fl with | .ret v => v | _ => .none) (st s h' tk')))
        (fun _ _ => False) (st s h₁ tk₁))
    (hco : scope.isCoroutine = false) (hgen : scope.isGenerator = false) (hk : scope.kind = .function) (hcell : ∀ x ∈ scope.names, x.2 ≠ .cell) :
    wpAny (model prog w) (ktrTop dp un gd cn cs L a ccd cl outer) (call (.ref f) args) Q E (st s h tk) := by
  refine wpAny_call (callX_plain (s := st s h tk) (cl := []) (env := envX cn cs L a ccd cl) B F N T.nolimit rfl rfl hke ((X₀.keeps F.keep) _ _ ho) rfl (codeRec_of (X₀.keeps F.keep) hcd) hroom hbind hloc (fun g L' h₁ FG F' N' B' stay hlt => ?_) hcell hco hgen hk)
  refine wpAny_mono (h1 g L' h₁ (tk + binds.length) F' N' B' (X₀.keeps stay) (T.keeps stay) hlt) (fun fl s' x => ?_) fun _ _ x => x.elim
  obtain ⟨h', tk', m', news', rfl, F2, N2, k⟩ := x
  exact ⟨L', m', news', F2, N2, k⟩
end
noncomputable abbrev PV : Program := Mine.hd.view_39
noncomputable abbrev LO : List Str := looseW Mine.hd.view_39 [Str.ofString "COMPILER_FLAG_NAMES"]
section
variable {prog : Program} {w : World} {A : Around} {E : Value → Shared → Prop} {s : Shared} {h : Heap} {tk : Nat} {g : Heap} {L : Addr} {m : Str → Option Value} {news : List (Addr × Obj)}
section
variable {K : Frag} {mg mb : Str → Option Value} {cn : Str} {cs : Scope} {a : Addr} {ccd : Value} {cl : List (Str × Addr)} {p : Program} {loose : List Str} {mean : ExcName → Option Value} {x : Str} {pos : Pos} {v : Value} {Q : Value → Shared → Prop} {c : Addr} {o : Obj}
theorem nk (F : Fr g L h m) (X : K.In g) (T : Top p loose mean mg mb g) (e : nsIn K mainGlobals x = some (some v)) (h1 : Q v (st s h tk))
    (hk : cs.kind = .function) (hx : (envX cn cs L a ccd cl).kindOf x = some .globalImplicit) (hd : (x == ("__debug__" : Str)) = false) :
    wpAny (model prog w) A (eval (.Name x pos) (envX cn cs L a ccd cl)) Q E (st s h tk) := nameX_K (s := st s h tk) F X (topRead_of T) e h1 hk hx hd
theorem nb (F : Fr g L h m) (X : K.In g) (T : Top p loose mean mg mb g) (e : nsIn K mainGlobals x = some none) (hv : bootBuiltins x = some v) (hn : x ≠ "__name__") (h1 : Q v (st s h tk))
    (hk : cs.kind = .function) (hx : (envX cn cs L a ccd cl).kindOf x = some .globalImplicit) (hd : (x == ("__debug__" : Str)) = false) :
    wpAny (model prog w) A (eval (.Name x pos) (envX cn cs L a ccd cl)) Q E (st s h tk) := nameX_B (s := st s h tk) F X (topRead_of T) e hv hn h1 hk hx hd
theorem kin {P : Prop} (X : K.In g) (F : Fr g L h m) (h1 : P) : K.In (st s h tk).heap ∧ P := ⟨X.keeps F.keep, h1⟩
end
theorem news_sub {news' : List (Addr × Obj)} (N : News g L h news) (hs : ∀ p ∈ news', p ∈ news) : News g L h news' := fun p hp => N p (hs p hp)
theorem news_swap {p q : Addr × Obj} {r : List (Addr × Obj)} (N : News g L h (p :: q :: r)) : News g L h (q :: p :: r) :=
  news_sub N fun x hx => by simp only [List.mem_cons] at hx ⊢; exact hx.elim (fun e => .inr (.inl e)) fun e => e.elim .inl fun e => .inr (.inr e)
variable {l : Addr} {its : List Value} {n : Nat} {rest : List (Addr × Obj)}
/-- a method of a list of the ledger -/
theorem gm {name : Str} {id : String} {pl : Sem Bool} {Q : Value × List Value → Shared → Prop} (N : News g L h news) (hl : (l, lst its n) ∈ news) (slot : Slot "list" name id) (hty : typeOf (.builtin id) = pure (.type "method_descriptor"))
    (h1 : Q (.builtin id, [.ref l]) (st s h tk)) : wpAny (model prog w) A (getMethod (.ref l) name pl) Q E (st s h tk) :=
  getMethod_builtin (s := st s h tk) (v := .ref l) ⟨_, N.get hl, rfl⟩ PySem.F.plainAttrs_list slot hty (fun a e => by cases e; exact ⟨_, N.get hl, rfl⟩) h1
theorem len_ {Q : Value → Shared → Prop} (N : News g L h news) (hl : (l, lst its n) ∈ news) (hz : (its.length : Int) < 2 ^ 63) (h1 : ∀ t tk', Q (.int its.length t) (st s h tk')) :
    wpAny (model prog w) A (call (.builtin "len") [.ref l]) Q E (st s h tk) := by
  refine PyProof.Rows.len_list (s := st s h tk) (items := its.toArray) ⟨_, N.get hl, rfl, n, rfl⟩ (by simpa using hz) ?_
  rw [List.size_toArray]; exact h1 _ _
theorem mapSeq_lst {f : Array Value → Array Value} {its' : List Value} (e : f its.toArray = its'.toArray) : Obj.mapSeq f (lst its n) = lst its' (if its'.length == its.length then n else n + 1) := by
  show Obj.mk _ _ (.seq (f its.toArray) (if (f its.toArray).size == its.toArray.size then n else n + 1)) _ = _
  rw [e, List.size_toArray, List.size_toArray]
theorem append_ {v : Value} {Q : Value → Shared → Prop} (F : Fr g L h m) (N : News g L h ((l, lst its n) :: rest)) (hoff : ∀ p ∈ rest, p.1 ≠ l) (hz : its.length ≤ sizeLine)
    (h1 : ∀ h' n', Fr g L h' m → News g L h' ((l, lst (its ++ [v]) n') :: rest) → Q .none (st s h' tk)) : wpAny (model prog w) A (call (.builtin "list.append") [.ref l, v]) Q E (st s h tk) := by
  have U := upd_news (f := Obj.mapSeq (·.push v)) F N hoff (mapSeq_lst (its' := its ++ [v]) (by simp)) rfl
  exact call_meets (s := st s h tk) PySem.F.slot_list_append ⟨_, N.get (.head _), rfl⟩ PySem.F.entry_list_append (PySem.F.args_list_append_2 _ _) (list_append l its.toArray n v (by simpa using hz)) ⟨N.get (.head _), h1 _ _ U.1 U.2⟩
theorem pop_ {v : Value} {Q : Value → Shared → Prop} (F : Fr g L h m) (N : News g L h ((l, lst (its ++ [v]) n) :: rest)) (hoff : ∀ p ∈ rest, p.1 ≠ l) (hz : its.length + 1 ≤ sizeLine)
    (h1 : ∀ h' n', Fr g L h' m → News g L h' ((l, lst its n') :: rest) → Q v (st s h' tk)) : wpAny (model prog w) A (call (.builtin "list.pop") [.ref l]) Q E (st s h tk) := by
  have U := upd_news (f := Obj.mapSeq fun xs => xs.eraseIdxIfInBounds ((its ++ [v]).toArray.size - 1)) F N hoff (mapSeq_lst (its' := its) (by
    have e0 : (its ++ [v]).eraseIdx its.length = its := by rw [List.eraseIdx_append_of_length_le (Nat.le_refl _)]; simp
    simp [Array.eraseIdxIfInBounds, e0])) rfl
  exact call_meets (s := st s h tk) PySem.F.slot_list_pop ⟨_, N.get (.head _), rfl⟩ PySem.F.entry_list_pop (PySem.F.args_list_pop_1 _) (MeetsSeq.list_pop_last l _ n v (by simp) (by simpa using hz)) ⟨N.get (.head _), h1 _ _ U.1 U.2⟩
theorem tru_ {Q : Bool → Shared → Prop} (N : News g L h news) (hl : (l, lst its n) ∈ news) (hz : (its.length : Int) < 2 ^ 63) (h1 : ∀ tk', Q (!its.isEmpty) (st s h tk')) : wpAny (model prog w) A (truthy (.ref l)) Q E (st s h tk) := by
  refine wpAny_truthy_list (s := st s h tk) (items := its.toArray) ⟨_, N.get hl, rfl, n, rfl⟩ (by simpa using hz) ?_
  rw [List.isEmpty_toArray]; exact h1 _
theorem newT {vs : List Value} {Q : Value → Shared → Prop} (F : Fr g L h m) (N : News g L h news) (hz : vs.length ≤ sizeLine)
    (h1 : ∀ h' l', Fr g L h' m → News g L h' ((l', tupO vs 0) :: news) → (∀ p ∈ news, p.1 < l') → Q (.ref l') (st s h' tk)) : wpAny (model prog w) A (newTuple vs) Q E (st s h tk) :=
  newTuple_N (s := st s h tk) F N (fun h' F' N' => h1 h' _ F' N' fun p hp => Heap.lt_size (N p hp).1) hz
theorem newLs {vs : List Value} {Q : Value → Shared → Prop} (F : Fr g L h m) (N : News g L h news) (hz : vs.length ≤ sizeLine)
    (h1 : ∀ h' l', Fr g L h' m → News g L h' ((l', lst vs 0) :: news) → (∀ p ∈ news, p.1 < l') → Q (.ref l') (st s h' tk)) : wpAny (model prog w) A (newList vs) Q E (st s h tk) :=
  newList_N (s := st s h tk) F N (fun h' F' N' => h1 h' _ F' N' fun p hp => Heap.lt_size (N p hp).1) hz
section
variable {env : Env}
theorem atA {x : Expr} {rest : List Expr} {Q : Bool → Shared → Prop} (h1 : wpAny (model prog w) A (isTrue x env (eval x env)) (fun b s₁ => Ib b (wpAny (model prog w) A (allTrue .And rest env) Q E s₁) (Q false s₁)) E s) :
    wpAny (model prog w) A (allTrue .And (x :: rest) env) Q E s := wpAny_allTrue_And_cons h1
theorem atO {x : Expr} {rest : List Expr} {Q : Bool → Shared → Prop} (h1 : wpAny (model prog w) A (isTrue x env (eval x env)) (fun b s₁ => Ib b (Q true s₁) (wpAny (model prog w) A (allTrue .Or rest env) Q E s₁)) E s) :
    wpAny (model prog w) A (allTrue .Or (x :: rest) env) Q E s := wpAny_allTrue_Or_cons h1
/-- a statement by what holds behind it -/
theorem sqx {st : Stmt} {rest : List Stmt} {Q : Flow → Shared → Prop} (P : Shared → Prop) (h1 : wpAny (model prog w) A (exec st env) (fun f s' => f = .next ∧ P s') E s) (h2 : ∀ s', P s' → wpAny (model prog w) A (execs rest env) Q E s') :
    wpAny (model prog w) A (exec st env) (Nx prog w A env rest Q E) E s := wpAny_mono h1 (fun _ s' x => by obtain ⟨rfl, p⟩ := x; exact h2 s' p) fun _ _ x => x
def Dr (Q : Flow → Shared → Prop) (v : Value) (s : Shared) : Prop := match v with | .ref _ => False | _ => Q .next s
theorem dr_none {Q : Flow → Shared → Prop} (h1 : Q .next s) : Dr Q .none s := h1
theorem ex_call {e : Expr} {pos : Pos} {Q : Flow → Shared → Prop} (h1 : wpAny (model prog w) A (eval e env) (Dr Q) E s) (hi : interactive env = false) (hs : swapsWith e none pos.line env = pure false) :
    wpAny (model prog w) A (exec (.Expr e pos) env) Q E s := wpAny_Expr h1 hi hs
end
end
abbrev itR (x left step : Int) : Obj := { cls := .type "range_iterator", data := .fields #[rawInt x, rawInt left, rawInt step] }
abbrev rgO (a b c : Int) (t u v : Tok) : Obj := { cls := .type "range", data := .fields #[.int a t, .int b u, .int c v] }
def IsItL (l : Addr) (i : Nat) (o : Obj) : Prop := o.cls = .type "list_iterator" ∧ o.data = .fields #[.ref l, .int i 0]
def ForAt (prog : Program) (w : World) (A : Around) (env : Env) (target : Expr) (body orelse : List Stmt) (Q : Flow → Shared → Prop) (it : Value) (s : Shared) : Prop :=
  codeAny (model prog w) A (.forLoop target it body orelse env) (fun r s' => match r with | .ok f => Q f s' | .error _ => False) s
def Fl (prog : Program) (w : World) (A : Around) (env : Env) (target : Expr) (body orelse : List Stmt) (Q : Flow → Shared → Prop) (it : Value) (f : Flow) (s : Shared) : Prop := match f with
  | .next | .cont => ForAt prog w A env target body orelse Q it s
  | .brk => Q .next s
  | .ret v => Q (.ret v) s
section
variable {prog : Program} {w : World} {A : Around} {E : Value → Shared → Prop} {s : Shared} {h : Heap} {tk : Nat} {g : Heap} {L : Addr} {m : Str → Option Value} {news rest : List (Addr × Obj)} {env : Env} {target : Expr} {body orelse : List Stmt} {Q : Flow → Shared → Prop} {it : Addr}
theorem fl_next {v : Value} (h1 : ForAt prog w A env target body orelse Q v s) : Fl prog w A env target body orelse Q v .next s := h1
theorem fl_cont {v : Value} (h1 : ForAt prog w A env target body orelse Q v s) : Fl prog w A env target body orelse Q v .cont s := h1
theorem fl_brk {v : Value} (h1 : Q .next s) : Fl prog w A env target body orelse Q v .brk s := h1
theorem fl_ret {v r : Value} (h1 : Q (.ret r) s) : Fl prog w A env target body orelse Q v (.ret r) s := h1
theorem for_ {iter : Expr} {pos : Pos} (h1 : wpAny (model prog w) A (eval iter env) (fun x s₁ => wpAny (model prog w) A (pyIter x) (fun it s₂ => ForAt prog w A env target body orelse Q it s₂) (fun _ _ => False) s₁) (fun _ _ => False) s)
    (hs : ∀ x, foldedSetIterable iter env x = pure x) : wpAny (model prog w) A (exec (.For target iter body orelse pos) env) Q E s :=
  wpAny_For (wpAny_mono h1 (fun _ _ x => wpAny_mono x (fun _ _ y => codeAny_mono y fun r _ z => by cases r; exact z.elim; exact z) fun _ _ y => y.elim) fun _ _ y => y.elim) hs
/-- one turn -/
theorem for_turn {v : Value} (ht : ∀ x, letOwnedTupleGo target v x = pure ())
    (h1 : wpAny (model prog w) A (pyNext v) (fun r s₁ => match r with
      | none => wpAny (model prog w) A (execs orelse env) Q (fun _ _ => False) s₁
      | some x => wpAny (model prog w) A (assign target env x) (fun _ s₂ => wpAny (model prog w) A (execs body env) (Fl prog w A env target body orelse Q v) (fun _ _ => False) s₂) (fun _ _ => False) s₁) (fun _ _ => False) s) :
    ForAt prog w A env target body orelse Q v s := by
  refine codeAny_of_tree ?_
  show wpAny _ _ ((forTurn target v body orelse env).onRaise (fun x => do noteFrame x env; theTreesLotGoes x)) _ _ s
  refine wpAny_noted ?_
  simp only [forTurn]
  refine wpAny_bind (wpAny_standAt (wpAny_bind (wpAny_onRaise (wpAny_mono h1 (fun r s₁ h₁ => ?_) fun _ _ h' => h'.elim))))
  cases r with
  | none => exact wpAny_pure ⟨rfl, codeAny_block (wpAny_mono h₁ (fun _ _ x => x) fun _ _ x => x.elim)⟩
  | some x =>
    refine wpAny_bind (wpAny_of_eq (ht x) ?_)
    refine wpAny_bind (wpAny_mono h₁ (fun _ s₂ h₂ => wpAny_bind (wpAny_mono h₂ (fun f s₃ h₃ => ?_) fun _ _ h' => h'.elim)) fun _ _ h' => h'.elim)
    cases f with
    | next => exact wpAny_pure ⟨rfl, h₃⟩
    | cont => exact wpAny_pure ⟨rfl, h₃⟩
    | brk => exact wpAny_pure h₃
    | ret v => exact wpAny_pure h₃
theorem news_change {h' : Heap} {o o' : Obj} (F : Fr g L h m) (N : News g L h ((it, o) :: rest)) (hoff : ∀ p ∈ rest, p.1 ≠ it) (hs : Heap.SameBut it h h') (ho : h'.get? it = some o') : Fr g L h' m ∧ News g L h' ((it, o') :: rest) := by
  have D := N (it, o) (.head _)
  refine ⟨F.change hs D.2.1 D.2.2, fun p hp => ?_⟩
  rcases List.mem_cons.mp hp with rfl | hp
  · exact ⟨ho, D.2⟩
  · exact ⟨(hs.2 p.1 (hoff p hp)).trans (N p (.tail _ hp)).1, (N p (.tail _ hp)).2⟩
theorem news_ext {h' : Heap} {o : Obj} (F : Fr g L h m) (N : News g L h ((it, o) :: rest)) (hoff : ∀ p ∈ rest, p.1 ≠ it) (hs : Heap.ExtBut it h h') : Fr g L h' m ∧ News g L h' rest := by
  have D := N (it, o) (.head _)
  refine ⟨⟨F.ns.extBut hs (Ne.symm D.2.1), fun b ob e => hs b ob (fun q => ?_) (F.keep b ob e), F.above⟩, fun p hp => ⟨hs p.1 p.2 (hoff p hp) (N p (.tail _ hp)).1, (N p (.tail _ hp)).2⟩⟩
  have := D.2.2; rw [← q, e] at this; cases this
theorem forR_step {x : Str} {px : Pos} {i left step : Int} (F : Fr g L h m) (N : News g L h ((it, itR i left step) :: rest)) (hoff : ∀ p ∈ rest, p.1 ≠ it) (hleft : 0 < left)
    (hx : env.kindOf x = some .local) (hL : env.locals = L) (hk : env.scope.kind = .function)
    (h1 : ∀ h' tk' t, Fr g L h' (up m x (.int i t)) → News g L h' ((it, itR (i + step) (left - 1) step) :: rest) → wpAny (model prog w) A (execs body env) (Fl prog w A env (.Name x px) body orelse Q (.ref it)) (fun _ _ => False) (st s h' tk')) :
    ForAt prog w A env (.Name x px) body orelse Q (.ref it) (st s h tk) := by
  refine for_turn (fun _ => rfl) (wpAny_pyNext_range_item (s := st s h tk) (N.get (.head _)) hleft fun h' hit hs => ?_)
  obtain ⟨F', N'⟩ := news_change F N hoff hs hit
  exact wpAny_assign_Name (sl F' N' hx (fun h'' tk'' F'' N'' => h1 h'' tk'' _ F'' N'') hL hk)
theorem forR_end {i left step : Int} (hh : A.handled = none) (ht : ∀ x, letOwnedTupleGo target (.ref it) x = pure ()) (F : Fr g L h m) (N : News g L h ((it, itR i left step) :: rest)) (hoff : ∀ p ∈ rest, p.1 ≠ it) (hleft : left ≤ 0)
    (h1 : ∀ h', Fr g L h' m → News g L h' rest → wpAny (model prog w) A (execs orelse env) Q (fun _ _ => False) (st s h' tk)) : ForAt prog w A env target body orelse Q (.ref it) (st s h tk) := by
  refine for_turn ht (wpAny_pyNext_range_end (s := st s h tk) hh (N.get (.head _)) hleft fun h' hs => ?_)
  obtain ⟨F', N'⟩ := news_ext F N hoff hs
  exact h1 h' F' N'
theorem forL_step {x : Str} {px : Pos} {l : Addr} {i n : Nat} {its : List Value} {v : Value} {o : Obj} (F : Fr g L h m) (N : News g L h ((it, o) :: rest)) (hoff : ∀ p ∈ rest, p.1 ≠ it) (ho : IsItL l i o) (hl : (l, lst its n) ∈ rest) (hv : its[i]? = some v)
    (hx : env.kindOf x = some .local) (hL : env.locals = L) (hk : env.scope.kind = .function)
    (h1 : ∀ h' tk' o', IsItL l (i + 1) o' → Fr g L h' (up m x v) → News g L h' ((it, o') :: rest) → wpAny (model prog w) A (execs body env) (Fl prog w A env (.Name x px) body orelse Q (.ref it)) (fun _ _ => False) (st s h' tk')) :
    ForAt prog w A env (.Name x px) body orelse Q (.ref it) (st s h tk) := by
  refine for_turn (fun q => by rfl) (wpAny_pyNext_list_item (s := st s h tk) (items := its.toArray) ⟨o, N.get (.head _), ho.1, ho.2⟩ ⟨_, N.get (.tail _ hl), rfl, n, rfl⟩ (by simpa using hv) fun h' hit hs => ?_)
  obtain ⟨o', ho', hc, hd⟩ := hit
  obtain ⟨F', N'⟩ := news_change F N hoff hs ho'
  exact wpAny_assign_Name (sl F' N' hx (fun h'' tk'' F'' N'' => h1 h'' tk'' o' ⟨hc, hd⟩ F'' N'') hL hk)
theorem forL_end {l : Addr} {i n : Nat} {its : List Value} {o : Obj} (hh : A.handled = none) (ht : ∀ x, letOwnedTupleGo target (.ref it) x = pure ()) (F : Fr g L h m) (N : News g L h ((it, o) :: rest)) (hoff : ∀ p ∈ rest, p.1 ≠ it) (ho : IsItL l i o) (hl : (l, lst its n) ∈ rest) (hv : its[i]? = none)
    (h1 : ∀ h', Fr g L h' m → News g L h' rest → wpAny (model prog w) A (execs orelse env) Q (fun _ _ => False) (st s h' tk)) : ForAt prog w A env target body orelse Q (.ref it) (st s h tk) := by
  refine for_turn ht (wpAny_pyNext_list_end (s := st s h tk) (items := its.toArray) hh ⟨o, N.get (.head _), ho.1, ho.2⟩ ⟨_, N.get (.tail _ hl), rfl, n, rfl⟩ (by simpa using hv) fun h' hs => ?_)
  obtain ⟨F', N'⟩ := news_ext F N hoff hs
  exact h1 h' F' N'
/-- what a turn comes to, by an invariant -/
def Fq (prog : Program) (w : World) (A : Around) (env : Env) (target : Expr) (body orelse : List Stmt) (I : Nat → Shared → Prop) (n : Nat) (Q : Flow → Shared → Prop) (r : Option Value) (s : Shared) : Prop := match r with
  | none => wpAny (model prog w) A (execs orelse env) Q (fun _ _ => False) s
  | some v => wpAny (model prog w) A (assign target env v) (fun _ s₂ => wpAny (model prog w) A (execs body env) (Wl I n Q) (fun _ _ => False) s₂) (fun _ _ => False) s
theorem for_inv {v : Value} (I : Nat → Shared → Prop) (n : Nat) (h0 : I n s) (ht : ∀ x, letOwnedTupleGo target v x = pure ())
    (turn : ∀ n s, I n s → wpAny (model prog w) A (pyNext v) (Fq prog w A env target body orelse I n Q) (fun _ _ => False) s) : ForAt prog w A env target body orelse Q v s := by
  refine codeAny_forLoop I (fun n s hI => wpAny_mono (turn n s hI) (fun r s₁ x => ?_) fun _ _ x => x.elim) n h0 ht
  cases r with
  | none => exact wpAny_mono x (fun _ _ y => y) fun _ _ y => y.elim
  | some v => exact wpAny_mono x (fun _ _ y => wpAny_mono y (fun f _ z => by cases f <;> exact z) fun _ _ z => z.elim) fun _ _ y => y.elim
theorem fq_step {x : Str} {px : Pos} {i left step : Int} {I : Nat → Shared → Prop} {n : Nat} (F : Fr g L h m) (N : News g L h ((it, itR i left step) :: rest)) (hoff : ∀ p ∈ rest, p.1 ≠ it) (hleft : 0 < left)
    (hx : env.kindOf x = some .local) (hL : env.locals = L) (hk : env.scope.kind = .function)
    (h1 : ∀ h' tk' t, Fr g L h' (up m x (.int i t)) → News g L h' ((it, itR (i + step) (left - 1) step) :: rest) → wpAny (model prog w) A (execs body env) (Wl I n Q) (fun _ _ => False) (st s h' tk')) :
    wpAny (model prog w) A (pyNext (.ref it)) (Fq prog w A env (.Name x px) body orelse I n Q) (fun _ _ => False) (st s h tk) := by
  refine wpAny_pyNext_range_item (s := st s h tk) (N.get (.head _)) hleft fun h' hit hs => ?_
  obtain ⟨F', N'⟩ := news_change F N hoff hs hit
  exact wpAny_assign_Name (sl F' N' hx (fun h'' tk'' F'' N'' => h1 h'' tk'' _ F'' N'') hL hk)
theorem fqL_step {x : Str} {px : Pos} {l : Addr} {i k : Nat} {its : List Value} {v : Value} {o : Obj} {I : Nat → Shared → Prop} {n : Nat} (F : Fr g L h m) (N : News g L h ((it, o) :: rest)) (hoff : ∀ p ∈ rest, p.1 ≠ it) (ho : IsItL l i o) (hl : (l, lst its k) ∈ rest) (hv : its[i]? = some v)
    (hx : env.kindOf x = some .local) (hL : env.locals = L) (hk : env.scope.kind = .function)
    (h1 : ∀ h' tk' o', IsItL l (i + 1) o' → Fr g L h' (up m x v) → News g L h' ((it, o') :: rest) → wpAny (model prog w) A (execs body env) (Wl I n Q) (fun _ _ => False) (st s h' tk')) :
    wpAny (model prog w) A (pyNext (.ref it)) (Fq prog w A env (.Name x px) body orelse I n Q) (fun _ _ => False) (st s h tk) := by
  refine wpAny_pyNext_list_item (s := st s h tk) (items := its.toArray) ⟨o, N.get (.head _), ho.1, ho.2⟩ ⟨_, N.get (.tail _ hl), rfl, k, rfl⟩ (by simpa using hv) fun h' hit hs => ?_
  obtain ⟨o', ho', hc, hd⟩ := hit
  obtain ⟨F', N'⟩ := news_change F N hoff hs ho'
  exact wpAny_assign_Name (sl F' N' hx (fun h'' tk'' F'' N'' => h1 h'' tk'' o' ⟨hc, hd⟩ F'' N'') hL hk)
theorem fqL_end {l : Addr} {i k : Nat} {its : List Value} {o : Obj} {I : Nat → Shared → Prop} {n : Nat} (hh : A.handled = none) (F : Fr g L h m) (N : News g L h ((it, o) :: rest)) (hoff : ∀ p ∈ rest, p.1 ≠ it) (ho : IsItL l i o) (hl : (l, lst its k) ∈ rest) (hv : its[i]? = none)
    (h1 : ∀ h', Fr g L h' m → News g L h' rest → wpAny (model prog w) A (execs orelse env) Q (fun _ _ => False) (st s h' tk)) :
    wpAny (model prog w) A (pyNext (.ref it)) (Fq prog w A env target body orelse I n Q) (fun _ _ => False) (st s h tk) := by
  refine wpAny_pyNext_list_end (s := st s h tk) (items := its.toArray) hh ⟨o, N.get (.head _), ho.1, ho.2⟩ ⟨_, N.get (.tail _ hl), rfl, k, rfl⟩ (by simpa using hv) fun h' hs => ?_
  obtain ⟨F', N'⟩ := news_ext F N hoff hs
  exact h1 h' F' N'
theorem news_push {o : Obj} (F : Fr g L h m) (N : News g L h news) (hf : o.isFreed = false) : Fr g L (h.push o) m ∧ News g L (h.push o) ((h.objs.size, o) :: news) ∧ ∀ p ∈ news, p.1 < h.objs.size :=
  ⟨F.push _, N.push F _ hf, fun p hp => Heap.lt_size (N p hp).1⟩
theorem off_of_lt {a : Addr} (hlt : ∀ p ∈ news, p.1 < a) : ∀ p ∈ news, p.1 ≠ a := fun p hp => Nat.ne_of_lt (hlt p hp)
theorem iterL {l : Addr} {n : Nat} {its : List Value} {Q : Value → Shared → Prop} (F : Fr g L h m) (N : News g L h news) (hl : (l, lst its n) ∈ news)
    (h1 : ∀ h' it o, IsItL l 0 o → Fr g L h' m → News g L h' ((it, o) :: news) → (∀ p ∈ news, p.1 ≠ it) → Q (.ref it) (st s h' tk)) : wpAny (model prog w) A (pyIter (.ref l)) Q E (st s h tk) := by
  refine wpAny_pyIter_list (s := st s h tk) (items := its.toArray) ⟨_, N.get hl, rfl, n, rfl⟩ ?_
  obtain ⟨F', N', hlt⟩ := news_push (o := { cls := .type "list_iterator", data := .fields #[.ref l, .int 0 0] }) F N rfl
  exact h1 _ _ _ ⟨rfl, rfl⟩ F' N' (off_of_lt hlt)
theorem iterR {r : Addr} {a b c : Int} {t u v : Tok} {Q : Value → Shared → Prop} (F : Fr g L h m) (N : News g L h news) (hl : (r, rgO a b c t u v) ∈ news) (hsm : Builtin.Range.small a b c = true)
    (h1 : ∀ h' it, Fr g L h' m → News g L h' ((it, itR a (Builtin.Range.rangeSize a b c) c) :: news) → (∀ p ∈ news, p.1 ≠ it) → Q (.ref it) (st s h' tk)) : wpAny (model prog w) A (pyIter (.ref r)) Q E (st s h tk) := by
  refine wpAny_pyIter_range (s := st s h tk) (N.get hl) hsm ?_
  obtain ⟨F', N', hlt⟩ := news_push (o := itR a (Builtin.Range.rangeSize a b c) c) F N rfl
  exact h1 _ _ F' N' (off_of_lt hlt)
theorem range1 {n : Int} {t : Tok} {Q : Value → Shared → Prop} (F : Fr g L h m) (N : News g L h news)
    (h1 : ∀ h' tk' r t1 t2, Fr g L h' m → News g L h' ((r, rgO 0 n 1 t1 t t2) :: news) → (∀ p ∈ news, p.1 ≠ r) → Q (.ref r) (st s h' tk')) : wpAny (model prog w) A (call (.type "range") [.int n t]) Q E (st s h tk) := by
  refine call_range_1 (s := st s h tk) ?_
  obtain ⟨F', N', hlt⟩ := news_push (o := rgO 0 n 1 tk t (tk + 1)) F N rfl
  exact h1 _ (tk + 1 + 1) _ _ _ F' N' (off_of_lt hlt)
end
section
variable {prog : Program} {w : World} {A : Around} {E : Value → Shared → Prop} {s : Shared} {h : Heap} {tk : Nat} {g : Heap} {L : Addr} {m : Str → Option Value} {news rest : List (Addr × Obj)}
set_option maxRecDepth 100000 in
theorem rev_meets (r : Addr) (t u v : Tok) : Meets (Builtin.«range.__reversed__» ⟨[.ref r], []⟩)
    (fun _ R s => s.heap.get? r = some (rgO 0 2 1 t u v) ∧ R (.ok (.ret (Value.ref s.heap.objs.size))) { s with heap := s.heap.push (itR 1 2 (-1)) }) :=
  .of_wp fun prog w A R s h => by
    obtain ⟨hp, g, d, tk, os⟩ := s; obtain ⟨hl, h⟩ := h
    wp_walk
    exact ⟨_, rfl, h⟩
theorem sub_ri_reversed : isSubtype (.type "range_iterator") (.type "reversed") = pure false := by rw [isSubtype_type]; kernel_rfl
theorem code_rev {r : Addr} {t u v : Tok} {Q₁ : Value → Shared → Prop} (hr : s.heap.get? r = some (rgO 0 2 1 t u v)) (h1 : Q₁ (.ref s.heap.objs.size) { s with heap := s.heap.push (itR 1 2 (-1)) }) :
    codeAny (model prog w) A (.call (.builtin "reversed.__new__") ⟨[.type "reversed", .ref r], []⟩) (wants Q₁ E) s := by
  have hT : s.TypeIs (.ref r) "range" := ⟨_, hr, rfl⟩
  refine codeAny_of_tree ?_
  show wpAny _ A.in1 (do checkBuiltinCall "reversed.__new__" ⟨[.type "reversed", .ref r], []⟩; again (.builtin "reversed.__new__" ⟨[.type "reversed", .ref r], []⟩)) _ _ s
  refine wpAny_bind (wpAny_of_eq (PySem.F.newCall_reversed_1 _) (wpAny_pure ⟨plainId_quiet PySem.F.plain_reversed_new _, codeAny_builtin PySem.F.entry_reversed_new ?_⟩))
  rw [Around.under_plainId PySem.F.plain_reversed_new _]
  unfold Builtin.«reversed.__new__»
  refine wpAny_bind (wpAny_of_eq (newClass_reversed _) ?_)
  try dsimp only
  refine wpAny_bind (wpAny_of_eq (a := ()) (by first | rfl | kernel_rfl) ?_)
  refine wpAny_bind (wpAny_of_eq (a := ()) (by first | rfl | kernel_rfl) ?_)
  try dsimp only
  refine wpAny_bind (wpAny_specialOf hT PySem.F.slot_range_reversed.lookup ?_)
  try dsimp only
  refine wpAny_bind (wpAny_of_eq (PySem.F.slot_range_reversed.bind _) ?_)
  try dsimp only
  first
  | rw [if_neg (show ¬ ((Value.builtin "range.__reversed__" == Value.none) = true) from Bool.false_ne_true)]
  | (show wpAny _ _ (if (Value.builtin "range.__reversed__" == Value.none) = true then _ else _) _ _ _; rw [if_neg (show ¬ ((Value.builtin "range.__reversed__" == Value.none) = true) from Bool.false_ne_true)])
  refine wpAny_bind (wpAny_rule ?_)
  refine wpAny_bind (m := runValue (.call (.builtin "range.__reversed__") ⟨[.ref r], []⟩)) (show wpAny _ _ (call (.builtin "range.__reversed__") [.ref r]) _ _ _ from
    call_meets PySem.F.slot_range_reversed hT PySem.F.entry_range_reversed (PySem.F.args_range_reversed_1 _) (rev_meets r t u v) ⟨hr, ?_⟩)
  first
  | exact wpAny_pure h1
  | exact wpAny_bind (wpAny_pure (wpAny_pure h1))
theorem call_rev {r : Addr} {t u v : Tok} {Q : Value → Shared → Prop} (hr : s.heap.get? r = some (rgO 0 2 1 t u v)) (h1 : Q (.ref s.heap.objs.size) { s with heap := s.heap.push (itR 1 2 (-1)) }) :
    wpAny (model prog w) A (call (.type "reversed") [.ref r]) Q E s := by
  refine callType_other (U := "range_iterator") (Q₁ := fun obj s₁ => obj = .ref s.heap.objs.size ∧ s₁ = { s with heap := s.heap.push (itR 1 2 (-1)) }) (by decide +kernel) PySem.F.create_reversed ⟨_, _, PySem.F.mro_reversed⟩ PySem.F.made_reversed sub_ri_reversed (PySem.F.typeCall_reversed_1 _) (code_rev hr ⟨rfl, rfl⟩) ?_
  rintro obj s₁ ⟨rfl, rfl⟩
  exact ⟨⟨_, Heap.get?_push_size _ rfl, rfl⟩, h1⟩
theorem rev2 {r : Addr} {t u v : Tok} {Q : Value → Shared → Prop} (F : Fr g L h m) (N : News g L h news) (hr : (r, rgO 0 2 1 t u v) ∈ news)
    (h1 : ∀ h' it, Fr g L h' m → News g L h' ((it, itR 1 2 (-1)) :: news) → (∀ p ∈ news, p.1 ≠ it) → Q (.ref it) (st s h' tk)) : wpAny (model prog w) A (call (.type "reversed") [.ref r]) Q E (st s h tk) := by
  obtain ⟨F', N', hlt⟩ := news_push (o := itR 1 2 (-1)) F N rfl
  exact call_rev (s := st s h tk) (N.get hr) (h1 _ _ F' N' (off_of_lt hlt))
theorem iter_ri {it : Addr} {i left step : Int} {Q : Value → Shared → Prop} (N : News g L h news) (hr : (it, itR i left step) ∈ news) (h1 : Q (.ref it) (st s h tk)) : wpAny (model prog w) A (pyIter (.ref it)) Q E (st s h tk) := by
  have hT : (st s h tk).TypeIs (.ref it) "range_iterator" := ⟨_, N.get hr, rfl⟩
  refine wpAny_pyIter_slot hT PySem.F.slot_range_iterator_iter (wpAny_call_entry PySem.F.slot_range_iterator_iter hT PySem.F.entry_range_iterator_iter ?_ (PySem.F.args_range_iterator_iter_1 _))
  show wpAny _ _ (PySem.ret (.ref it)) _ _ _
  exact wpAny_pure ⟨_, rfl, "range_iterator", _, hT, PySem.F.slot_range_iterator_next.lookup, h1⟩
end
theorem strs_erase {k : Str} : ∀ {vs : List Value} {ys : List Str}, StrsAre vs ys → k ∈ ys → ∃ j, ∃ hj : j < vs.length, isStrOf k vs[j] = true ∧ (∀ i (hi : i < vs.length), i < j → isStrOf k vs[i] = false) ∧ StrsAre (vs.eraseIdx j) (ys.erase k)
  | _, _, .nil, h => nomatch h
  | _, _, .cons (vs := vs) (ys := ys) y t r, h => by
    by_cases e : y = k
    · subst e
      exact ⟨0, Nat.zero_lt_succ _, by simp [isStrOf], fun i _ hi => absurd hi (Nat.not_lt_zero _), by simpa using r⟩
    · obtain ⟨j, hj, h1, h2, h3⟩ := strs_erase r ((List.mem_cons.mp h).resolve_left fun q => e q.symm)
      refine ⟨j + 1, Nat.succ_lt_succ hj, by simpa using h1, fun i hi hlt => ?_, ?_⟩
      · cases i with
        | zero => simp [isStrOf, e]
        | succ i => simpa using h2 i (Nat.lt_of_succ_lt_succ hi) (Nat.lt_of_succ_lt_succ hlt)
      · rw [List.erase_cons_tail (by simpa using e), List.eraseIdx_cons_succ]
        exact .cons y t h3
theorem strs_none {k : Str} : ∀ {vs : List Value} {ys : List Str}, StrsAre vs ys → k ∉ ys → ∀ v ∈ vs, isStrOf k v = false
  | _, _, .nil, _, _, hv => nomatch hv
  | _, _, .cons y t r, h, v, hv => by
    rcases List.mem_cons.mp hv with rfl | hv
    · have : y ≠ k := fun q => h (q ▸ .head _)
      simp [isStrOf, this]
    · exact strs_none r (fun q => h (.tail _ q)) v hv
theorem strs_len : ∀ {vs : List Value} {ys : List Str}, StrsAre vs ys → vs.length = ys.length
  | _, _, .nil => rfl
  | _, _, .cons _ _ r => congrArg (· + 1) (strs_len r)
theorem strs_app : ∀ {vs ws : List Value} {ys zs : List Str}, StrsAre vs ys → StrsAre ws zs → StrsAre (vs ++ ws) (ys ++ zs)
  | _, _, _, _, .nil, h => h
  | _, _, _, _, .cons y t r, h => .cons y t (strs_app r h)
theorem strs_snoc : ∀ {vs : List Value} {ys : List Str}, StrsAre vs ys → vs ≠ [] → ∃ vs' v ys' y t, vs = vs' ++ [v] ∧ ys = ys' ++ [y] ∧ v = .str y t ∧ StrsAre vs' ys'
  | _, _, .nil, h => absurd rfl h
  | _, _, .cons (vs := vs) (ys := ys) y t r, _ => by
    cases r with
    | nil => exact ⟨[], _, [], y, t, rfl, rfl, rfl, .nil⟩
    | cons y2 t2 r2 =>
      obtain ⟨a, b, c, d, u, e1, e2, e3, e4⟩ := strs_snoc (.cons y2 t2 r2) (by simp)
      exact ⟨.str y t :: a, b, y :: c, d, u, by rw [e1]; rfl, by rw [e2]; rfl, e3, .cons y t e4⟩
section
variable {prog : Program} {w : World} {A : Around} {E : Value → Shared → Prop} {s : Shared} {h : Heap} {tk : Nat} {g : Heap} {L : Addr} {m : Str → Option Value} {news rest : List (Addr × Obj)} {l : Addr} {its : List Value} {n : Nat}
theorem remove_ {ys : List Str} {k : Str} {t : Tok} {Q : Value → Shared → Prop} (F : Fr g L h m) (N : News g L h ((l, lst its n) :: rest)) (hoff : ∀ p ∈ rest, p.1 ≠ l) (hs : StrsAre its ys) (hk : k ∈ ys) (hz : its.length ≤ sizeLine)
    (h1 : ∀ h' n' its', StrsAre its' (ys.erase k) → Fr g L h' m → News g L h' ((l, lst its' n') :: rest) → Q .none (st s h' tk)) : wpAny (model prog w) A (call (.builtin "list.remove") [.ref l, .str k t]) Q E (st s h tk) := by
  obtain ⟨j, hj, e1, e2, e3⟩ := strs_erase hs hk
  have U := upd_news (f := Obj.mapSeq fun xs => xs.eraseIdxIfInBounds j) F N hoff (mapSeq_lst (its' := its.eraseIdx j) (by simp [Array.eraseIdxIfInBounds, hj])) rfl
  exact call_meets (s := st s h tk) PySem.F.slot_list_remove ⟨_, N.get (.head _), rfl⟩ PySem.F.entry_list_remove (PySem.F.args_list_remove_2 _ _)
    (MeetsSeq.list_remove l its.toArray n (.str k t) (isStrOf k) (fun y hy => eq_isStrOf k t hs y (by simpa using hy)) j (by simpa using hj) (by simpa using e1) (fun i hi hlt => by simpa using e2 i (by simpa using hi) hlt) (by simpa using hz)) ⟨N.get (.head _), h1 _ _ _ e3 U.1 U.2⟩
theorem removeE_ {ys : List Str} {k : Str} {t : Tok} {Q : Value → Shared → Prop} (hh : A.handled = none) (N : News g L h news) (hl : (l, lst its n) ∈ news) (hs : StrsAre its ys) (hk : k ∉ ys)
    (h1 : ∀ h' tk' e, Heap.NewExc h h' e "ValueError" → E (.ref e) (st s h' tk')) : wpAny (model prog w) A (call (.builtin "list.remove") [.ref l, .str k t]) Q E (st s h tk) :=
  call_meets (s := st s h tk) PySem.F.slot_list_remove ⟨_, N.get hl, rfl⟩ PySem.F.entry_list_remove (PySem.F.args_list_remove_2 _ _)
    (MeetsSeq.list_remove_none l its.toArray n (.str k t) (isStrOf k) (fun y hy => eq_isStrOf k t hs y (by simpa using hy)) (fun i hi => strs_none hs hk _ (by simp))) ⟨N.get hl, hh, h1⟩
theorem popE_ {Q : Value → Shared → Prop} (hh : A.handled = none) (N : News g L h news) (hl : (l, lst [] n) ∈ news)
    (h1 : ∀ h' tk' e, Heap.NewExc h h' e "IndexError" → E (.ref e) (st s h' tk')) : wpAny (model prog w) A (call (.builtin "list.pop") [.ref l]) Q E (st s h tk) :=
  call_meets (s := st s h tk) PySem.F.slot_list_pop ⟨_, N.get hl, rfl⟩ PySem.F.entry_list_pop (PySem.F.args_list_pop_1 _) (AutoListH.list_pop_list_0 l #[] n rfl) ⟨N.get hl, hh, h1⟩
end
section
variable {prog : Program} {w : World} {A₀ : Around} {s : Shared} {base g h h1 : Heap} {tk : Nat} {outer : List Env} {L e : Addr} {m : Str → Option Value} {env : Env} {news : List (Addr × Obj)} {KF : Frag} {p : Program} {loose : List Str} {mean : ExcName → Option Value} {mg mb : Str → Option Value}
/-- the ground behind a catch: the outer frames' slots alone have turned -/
structure Grd (A₀ : Around) (base : Heap) (outer : List Env) (KF : Frag) (p : Program) (loose : List Str) (mean : ExcName → Option Value) (mg mb : Str → Option Value) (g : Heap) : Prop where
  B : Below A₀ base outer g
  X : KF.In g
  T : Top p loose mean mg mb g
  XB : KF.In base
  TB : Top p loose mean mg mb base
  D : KtsDicts (outer.filterMap (·.frame)) g
theorem mem_frames (hf : env.frame = some L) {b : Addr} (hm : b ∈ (env :: outer).filterMap (·.frame)) : b = L ∨ b ∈ outer.filterMap (·.frame) := by
  rw [List.filterMap_cons_some hf] at hm
  exact List.mem_cons.mp hm
theorem ground_on (env : Env) (G₀ : Grd A₀ base outer KF p loose mean mg mb g) (F : Fr g L h m) (N : News g L h news) {h5 : Heap} (hstay : ∀ b o, h.get? b = some o → b ≠ L → b ∉ outer.filterMap (·.frame) → h5.get? b = some o) (hsm : h.UpToSlots h5) :
    ∃ g', KtsTurn (outer.filterMap (·.frame)) g g' ∧ Fr g' L h5 m ∧ News g' L h5 news ∧ Grd A₀ base outer KF p loose mean mg mb g' := by
  obtain ⟨g', T', F', B'⟩ := kts_ground (name := Str.empty) (scope := env.scope) (a := 0) (cd := .none) (B := hideAll h (L :: List.filterMap (fun x : Env => x.frame) outer)) (h₅ := h5) G₀.B F
    (fun b o e nm => hideAll_get _ e nm) (fun b o e => by
      have e' := of_hideAll _ e
      have nm : b ∉ L :: outer.filterMap (·.frame) := fun q => by rw [hideAll_none _ q] at e; cases e
      exact hstay b o e' (fun q => nm (q ▸ .head _)) fun q => nm (.tail _ q)) hsm
  refine ⟨g', T', F', fun q hq => ?_, ⟨B', G₀.XB.keeps B'.stays, G₀.TB.keeps B'.stays, G₀.XB, G₀.TB, G₀.D.turn T'⟩⟩
  obtain ⟨q1, q2, q3⟩ := N q hq
  refine ⟨hstay _ _ q1 q2 fun hm => ?_, q2, T'.none_ _ q3⟩
  obtain ⟨o, _, _, ho, _⟩ := G₀.D _ hm
  rw [q3] at ho; cases ho
/-- a new exception, raised in the frame itself, however deep, is caught by its clause -/
theorem caught_own {X Tn : String} {t : Expr} {b₀ : Stmt} {suite : List Stmt} {pos : Pos} {rest : List ExceptHandler} {Q : Flow → Shared → Prop} {E : Value → Shared → Prop} (hf : env.frame = some L) (hke : env.scope.kind = .function)
    (G₀ : Grd A₀ base outer KF p loose mean mg mb g) (F : Fr g L h m) (N : News g L h news) (hx : Heap.NewExc h h1 e X)
    (hexc : isSubtype (.type Tn) (.type "BaseException") = pure true) (hnt : isSubtype (.type ((Manifest.find? Tn).elim "type" fun y => y.metatype)) (.type "tuple") = pure false) (hsub : isSubtype (.type X) (.type Tn) = pure true)
    (hname : ∀ (h' g' : Heap) (Q' : Value → Shared → Prop), Fr g' L h' m → KF.In g' → Top p loose mean mg mb g' → Q' (.type Tn) (st s h' tk) → wpAny (model prog w) ((A₀.deeper env).mark (some (.ref e))) (eval t env) Q' (fun _ _ => False) (st s h' tk))
    (k : ∀ h' g', KtsTurn (outer.filterMap (·.frame)) g g' → Fr g' L h' m → News g' L h' news → Grd A₀ base outer KF p loose mean mg mb g' →
      wpAny (model prog w) ((A₀.deeper env).mark (some (.ref e))) (execs (b₀ :: suite) env) Q (fun _ _ => False) (st s h' tk)) :
    wpAny (model prog w) (A₀.deeper env) (noteFrame (.ref e) env) (fun _ s₂ => wpAny (model prog w) (A₀.deeper env) (setFlight (.ref e) none) (fun _ s₃ =>
      wpAny (model prog w) (A₀.deeper env) (handleBy (.ref e) env (.ExceptHandler (some t) none (b₀ :: suite) pos :: rest)) Q E s₃) E s₂) E (st s h1 tk) := by
  have K' := pushX G₀.B F hf hke
  have hin : ∀ e' ∈ (env :: outer), ∀ b, e'.frame = some b → b ∈ (env :: outer).filterMap (·.frame) := fun e' he b hb => List.mem_filterMap.mpr ⟨e', he, hb⟩
  obtain ⟨ob, tp, he, hcls, hd⟩ := hx.there
  have hen : (hideAll h ((env :: outer).filterMap (·.frame))).get? e = none := by
    cases q : (hideAll h ((env :: outer).filterMap (·.frame))).get? e with
    | none => rfl
    | some o => have := of_hideAll _ q; rw [hx.new] at this; cases this
  have stay : ∀ {h5 : Heap}, (hideAll h ((env :: outer).filterMap (·.frame))).StaysIn h5 → ∀ b o, h.get? b = some o → b ≠ L → b ∉ outer.filterMap (·.frame) → h5.get? b = some o := fun hs b o e nL nm =>
    hs b o (hideAll_get _ e fun q => (mem_frames hf q).elim nL nm)
  have sm0 : h.UpToSlots h1 := Heap.UpToSlots.of_keeps hx.keeps
  unfold noteFrame
  simp only [hf]
  refine wpAny_bind (wpAny_field (s := st s h1 tk) he hd (x := .none) rfl ?_)
  rw [if_neg (by decide)]
  refine wpAny_entryW (s := st s h1 tk) (a0 := tp) K'.stack ((funFrames_hide K'.frames hin).of_keeps fun b o hb _ => ⟨o, hx.keeps b o hb, rfl⟩) hf he (fun b o eb => hx.keeps b o (of_hideAll _ eb)) hen hd (by show 1 < 6; decide) rfl fun h4 hN => ?_
  obtain ⟨k1, k2, k3, k4⟩ := hN
  refine wpAny_landsW (L := L) ⟨k1, hen, k2, k3⟩ fun h5 hfl5 sm5 => ?_
  obtain ⟨g5, T5, F5, N5, G5⟩ := ground_on env G₀ F N (stay hfl5.1) ((sm0.trans k4).trans sm5)
  obtain ⟨o5, ho5, hc5⟩ := hfl5.there
  refine wpAny_handleBy_builtin (X := X) (T := Tn) (b := true) hexc hnt hsub (wpAny_mono (hname h5 g5 _ F5 G5.X G5.T ⟨rfl, ⟨o5, ho5, hc5.trans hcls⟩, ?_⟩) (fun _ _ x => x) fun _ _ x => x.elim)
  rw [if_pos rfl]
  refine lands_againW hfl5 fun h6 hfl6 sm6 => ?_
  obtain ⟨g6, T6, F6, N6, G6⟩ := ground_on env G₀ F N (stay hfl6.1) (((sm0.trans k4).trans sm5).trans sm6)
  exact wpAny_mono (k h6 g6 T6 F6 N6 G6) (fun _ _ x => x) fun _ _ x => x.elim
end
section
variable {prog : Program} {w : World} {A A₀ : Around} {s : Shared} {base h₀ h : Heap} {tk : Nat} {outer : List Env} {L : Addr} {m : Str → Option Value} {env : Env} {news : List (Addr × Obj)} {K : Frag} {p : Program} {loose : List Str} {mean : ExcName → Option Value} {mg mb : Str → Option Value}
/-- into a call and out of it, over a ground that may turn -/
theorem ground_in (s : Shared) (G₀ : Grd A₀ base outer K p loose mean mg mb h₀) (F : Fr h₀ L h m) (N : News h₀ L h news) (hA : A.frames = some (env :: outer)) (hf : env.frame = some L) (hke : env.scope.kind = .function) :
    Grd A base (env :: outer) K p loose mean mg mb (hideAll h (news.map (·.1))) ∧ h₀.StaysIn (hideAll h (news.map (·.1))) ∧
    ∀ g' L' h' m' news', KtsTurn ((env :: outer).filterMap (·.frame)) (hideAll h (news.map (·.1))) g' → Fr g' L' h' m' → News g' L' h' news' →
      ∃ h₀', KtsTurn (outer.filterMap (·.frame)) h₀ h₀' ∧ Fr h₀' L h' m ∧ News h₀' L h' news' ∧ Grd A₀ base outer K p loose mean mg mb h₀' := by
  obtain ⟨FG, BG, stay, _⟩ := groundX (s := st s h 0) (R := fun _ _ => True) G₀.B F N hA hf hke
  obtain ⟨oL, es, ep, hL, hLd, hLk, hLf⟩ := FG.ns
  have nL₀ : h₀.get? L = none := kts_self F
  refine ⟨⟨BG, G₀.X.keeps stay, G₀.T.keeps stay, G₀.XB, G₀.TB, fun b hb => ?_⟩, stay, fun g' L' h' m' news' T' F' N' => ?_⟩
  · rcases mem_frames hf hb with rfl | hb
    · exact ⟨oL, es, ep, hL, hLd⟩
    · obtain ⟨o, es', n', ho, hd⟩ := G₀.D b hb
      exact ⟨o, es', n', stay b o ho, hd⟩
  · obtain ⟨sl, hs⟩ := T'.up hL
    obtain ⟨T1, S1⟩ := kts_turn_at (h := h') (fs := outer.filterMap (·.frame)) (g := h₀)
      (fun b hb => let ⟨o, _, _, ho, _⟩ := G₀.D b hb; ⟨o, ho⟩)
      (fun b o e nm => F'.keep b o (T'.other b o (stay b o e) fun q => (mem_frames hf q).elim (fun z => by rw [z, nL₀] at e; cases e) nm))
      (fun b o e _ => let ⟨sl', hs'⟩ := T'.up (stay b o e); ⟨sl', F'.keep _ _ hs'⟩)
    have stb : base.StaysIn (ktsHeap h' (outer.filterMap (·.frame)) h₀) := fun b o e => T1.other b o (G₀.B.stays b o e) fun hm => by rw [(G₀.B.frames.mem hm).1] at e; cases e
    refine ⟨_, T1, ⟨⟨_, es, ep, F'.keep _ _ hs, hLd, hLk, hLf⟩, S1, by rw [T1.size]; exact F.above⟩, fun q hq => ⟨(N' q hq).1, fun z => ?_, T1.none_ _ ?_⟩,
      ⟨⟨G₀.B.stack, stb, G₀.B.frames.of_keeps fun b o e _ => let ⟨sl', hs'⟩ := T1.up e; ⟨_, hs', rfl⟩⟩, G₀.XB.keeps stb, G₀.TB.keeps stb, G₀.XB, G₀.TB, G₀.D.turn T1⟩⟩
    · have := (N' q hq).2.2; rw [z, hs] at this; cases this
    · cases z : h₀.get? q.1 with
      | none => rfl
      | some o =>
        obtain ⟨sl', hs'⟩ := T'.up (stay _ _ z)
        have := (N' q hq).2.2; rw [hs'] at this; cases this
section
variable {dp un : Nat} {gd : Option (List Code)} {cn : Str} {cs : Scope} {a : Addr} {ccd : Value} {cl : List (Str × Addr)} {E : Value → Shared → Prop}
    {Q : Value → Shared → Prop} {name qual : Str} {params : Arguments} {body : List Stmt} {scope : Scope} {dV kV doc pm cdv ct oc : Value} {an od : Option Addr} {osl : Array (Option Value)} {f : Addr} {args : List Value}
/-- what a body must come to, over a ground that may turn -/
def Back (A₀ : Around) (base : Heap) (outer : List Env) (env : Env) (K : Frag) (p : Program) (loose : List Str) (mean : ExcName → Option Value) (mg mb : Str → Option Value) (h₀ : Heap) (L : Addr) (m : Str → Option Value) (s : Shared) (Q : Value → Shared → Prop) (g : Heap) (L' : Addr) (fl : Flow) (s' : Shared) : Prop :=
  ∃ g' h' tk' m' news', s' = st s h' tk' ∧ KtsTurn ((env :: outer).filterMap (·.frame)) g g' ∧ Fr g' L' h' m' ∧ News g' L' h' news' ∧
    ∀ h₀', KtsTurn (outer.filterMap (·.frame)) h₀ h₀' → Fr h₀' L h' m → News h₀' L h' news' → Grd A₀ base outer K p loose mean mg mb h₀' → Q (match fl with | .ret v => v | _ => .none) (st s h' tk')
theorem enterS (binds : List (Str × Value)) (G₀ : Grd A₀ base outer K p loose mean mg mb h₀) (F : Fr h₀ L h m) (N : News h₀ L h news) (hke : cs.kind = .function)
    (ho : K.lookup f = some ⟨oc, od, .func (fnOf name qual params body scope dV kV doc pm an cdv ct), osl⟩) (hcd : codeIn K cdv qual = true) (hroom : dp < recursionLimit)
    (hbind : BindsTo (st s h tk) (fnOf name qual params body scope dV kV doc pm an cdv ct) ⟨args, []⟩ binds) (hloc : ∀ y ∈ binds, scope.names.lookup y.1 = some .local)
    (h1 : ∀ g L' h₁ tk₁, Fr g L' h₁ (fun y => binds.reverse.lookup y) → News g L' h₁ news → Grd (ktrTop dp un gd cn cs L a ccd cl outer) base (envX cn cs L a ccd cl :: outer) K p loose mean mg mb g → (∀ p ∈ news, p.1 < L') →
      wpAny (model prog w) ((ktrTop dp un gd cn cs L a ccd cl outer).deeper (envX qual scope L' f cdv [])) (execs body (envX qual scope L' f cdv []))
        (Back A₀ base outer (envX cn cs L a ccd cl) K p loose mean mg mb h₀ L m s Q g L') (fun _ _ => False) (st s h₁ tk₁))
    (hco : scope.isCoroutine = false) (hgen : scope.isGenerator = false) (hk : scope.kind = .function) (hcell : ∀ x ∈ scope.names, x.2 ≠ .cell) :
    wpAny (model prog w) (ktrTop dp un gd cn cs L a ccd cl outer) (call (.ref f) args) Q E (st s h tk) := by
  obtain ⟨G1, stay, out⟩ := ground_in s (A := ktrTop dp un gd cn cs L a ccd cl outer) (env := envX cn cs L a ccd cl) G₀ F N rfl rfl hke
  refine wpAny_call (codeAny_call_def (s := st s h tk) (fd := fnOf name qual params body scope dV kV doc pm an cdv ct) (body := body) (binds := binds) hroom ((G₀.X.keeps F.keep) _ _ ho) rfl (G₀.T.nolimit.keeps F.keep) (codeRec_of (G₀.X.keeps F.keep) hcd) rfl hbind hcell hloc (fun h₁ hns hk₁ => ?_) hco hgen hk)
  refine wpAny_mono (h1 _ h.objs.size h₁ (tk + binds.length) ⟨hns, fun b o e => hk₁ b o (of_hideAll _ e), Nat.le_of_eq (hideAll_size _ _)⟩
    (fun q hq => ⟨hk₁ _ _ (N q hq).1, Nat.ne_of_lt (Heap.lt_size (N q hq).1), hideAll_none _ (List.mem_map_of_mem hq)⟩) G1 fun q hq => Heap.lt_size (N q hq).1) (fun fl s' x => ?_) fun _ _ x => x.elim
  obtain ⟨g', h', tk', m', news', rfl, T', F', N', k⟩ := x
  obtain ⟨h₀', T0, F0, N0, G0⟩ := out g' _ h' m' news' T' F' N'
  exact k h₀' T0 F0 N0 G0
end
end
section
variable {prog : Program} {w : World} {A₀ : Around} {s : Shared} {base g h h1 Gh : Heap} {tk : Nat} {outer : List Env} {L e : Addr} {m : Str → Option Value} {env : Env} {news : List (Addr × Obj)} {KF : Frag} {p : Program} {loose : List Str} {mean : ExcName → Option Value} {mg mb : Str → Option Value}
/-- an exception that a callee has let fly is caught by the clause of the frame -/
theorem caught_fly {X Tn : String} {t : Expr} {b₀ : Stmt} {suite : List Stmt} {pos : Pos} {rest : List ExceptHandler} {Q : Flow → Shared → Prop} {E : Value → Shared → Prop} (hf : env.frame = some L)
    (G₀ : Grd A₀ base outer KF p loose mean mg mb g) (F : Fr g L Gh m) (R : RaisedSN base Gh (env :: outer) e (.type X) news h1) (hsm : Gh.UpToSlots h1)
    (hexc : isSubtype (.type Tn) (.type "BaseException") = pure true) (hnt : isSubtype (.type ((Manifest.find? Tn).elim "type" fun y => y.metatype)) (.type "tuple") = pure false) (hsub : isSubtype (.type X) (.type Tn) = pure true)
    (hname : ∀ (h' g' : Heap) (Q' : Value → Shared → Prop), Fr g' L h' m → KF.In g' → Top p loose mean mg mb g' → Q' (.type Tn) (st s h' tk) → wpAny (model prog w) ((A₀.deeper env).mark (some (.ref e))) (eval t env) Q' (fun _ _ => False) (st s h' tk))
    (k : ∀ h' g', KtsTurn (outer.filterMap (·.frame)) g g' → Fr g' L h' m → News g' L h' news → Grd A₀ base outer KF p loose mean mg mb g' →
      wpAny (model prog w) ((A₀.deeper env).mark (some (.ref e))) (execs (b₀ :: suite) env) Q (fun _ _ => False) (st s h' tk)) :
    wpAny (model prog w) (A₀.deeper env) (noteFrame (.ref e) env) (fun _ s₂ => wpAny (model prog w) (A₀.deeper env) (setFlight (.ref e) none) (fun _ s₃ =>
      wpAny (model prog w) (A₀.deeper env) (handleBy (.ref e) env (.ExceptHandler (some t) none (b₀ :: suite) pos :: rest)) Q E s₃) E s₂) E (st s h1 tk) := by
  obtain ⟨B, a0, hB, hBG, hl, hfl⟩ := R
  have hBL : B.get? L = none := by
    obtain ⟨_, ⟨L', _, hf', hn', _⟩, _⟩ := hfl.2.2.1
    rw [hf] at hf'
    cases hf'
    exact hn'
  have ground : ∀ {h5 : Heap}, B.StaysIn h5 → Gh.UpToSlots h5 → ∃ g', KtsTurn (outer.filterMap (·.frame)) g g' ∧ Fr g' L h5 m ∧ News g' L h5 news ∧ Grd A₀ base outer KF p loose mean mg mb g' := by
    intro h5 st5 sm5
    obtain ⟨g', T', F', B'⟩ := kts_ground (name := Str.empty) (scope := env.scope) (a := 0) (cd := .none) (B := B) (h₅ := h5) G₀.B F (fun b o e nm => hBG b o e fun q => nm (by
      rcases mem_frames hf q with z | z
      · exact z ▸ .head _
      · exact .tail _ z)) st5 sm5
    refine ⟨g', T', F', fun q hq => ⟨st5 _ _ (hl q hq).1, fun z => ?_, T'.none_ _ (kts_none F.keep (hl q hq).2.1)⟩, ⟨B', G₀.XB.keeps B'.stays, G₀.TB.keeps B'.stays, G₀.XB, G₀.TB, G₀.D.turn T'⟩⟩
    have := (hl q hq).1; rw [z, hBL] at this; cases this
  refine wpAny_looks_onW (s := st s h1 tk) (Around.frames_deeper G₀.B.stack) hf hfl fun h4 hheld4 sm4 => ?_
  refine wpAny_landsW hheld4 fun h5 hfl5 sm5 => ?_
  obtain ⟨g5, T5, F5, N5, G5⟩ := ground hfl5.1 ((hsm.trans sm4).trans sm5)
  obtain ⟨o5, ho5, hc5⟩ := hfl5.there
  refine wpAny_handleBy_builtin (X := X) (T := Tn) (b := true) hexc hnt hsub (wpAny_mono (hname h5 g5 _ F5 G5.X G5.T ⟨rfl, ⟨o5, ho5, hc5⟩, ?_⟩) (fun _ _ x => x) fun _ _ x => x.elim)
  rw [if_pos rfl]
  refine lands_againW hfl5 fun h6 hfl6 sm6 => ?_
  obtain ⟨g6, T6, F6, N6, G6⟩ := ground hfl6.1 (((hsm.trans sm4).trans sm5).trans sm6)
  exact wpAny_mono (k h6 g6 T6 F6 N6 G6) (fun _ _ x => x) fun _ _ x => x.elim
end
section
variable {prog : Program} {w : World} {A₀ : Around} {s : Shared} {base h₀ h : Heap} {tk : Nat} {outer : List Env} {L : Addr} {m : Str → Option Value} {news : List (Addr × Obj)} {K : Frag} {p : Program} {loose : List Str} {mean : ExcName → Option Value} {mg mb : Str → Option Value}
  {dp un : Nat} {gd : Option (List Code)} {cn : Str} {cs : Scope} {a : Addr} {ccd : Value} {cl : List (Str × Addr)} {E : Value → Shared → Prop}
    {Q : Value → Shared → Prop} {name qual : Str} {params : Arguments} {body : List Stmt} {scope : Scope} {dV kV doc pm cdv ct oc : Value} {an od : Option Addr} {osl : Array (Option Value)} {f : Addr} {args : List Value}
/-- a def that ends by a raise of its own -/
theorem enterE (binds : List (Str × Value)) {X : String} (B : Below A₀ base outer h₀) (F : Fr h₀ L h m) (X₀ : K.In h₀) (N : News h₀ L h news) (T : Top p loose mean mg mb h₀) (hke : cs.kind = .function)
    (ho : K.lookup f = some ⟨oc, od, .func (fnOf name qual params body scope dV kV doc pm an cdv ct), osl⟩) (hcd : codeIn K cdv qual = true) (hroom : dp < recursionLimit)
    (hbind : BindsTo (st s h tk) (fnOf name qual params body scope dV kV doc pm an cdv ct) ⟨args, []⟩ binds) (hloc : ∀ y ∈ binds, scope.names.lookup y.1 = some .local)
    (hE : ∀ e Gh h' tk', RaisedSN base Gh (envX cn cs L a ccd cl :: outer) e (.type X) news h' → Fr h₀ L Gh m → Gh.UpToSlots h' → E (.ref e) (st s h' tk'))
    (h1 : ∀ g L' h₁ tk₁, Fr g L' h₁ (fun y => binds.reverse.lookup y) → News g L' h₁ news → K.In g → Top p loose mean mg mb g → 
      wpAny (model prog w) ((ktrTop dp un gd cn cs L a ccd cl outer).deeper (envX qual scope L' f cdv [])) (execs body (envX qual scope L' f cdv []))
        (fun _ _ => False) (fun e s' => ∃ e' h2 h3 tk3 m2, e = .ref e' ∧ s' = st s h3 tk3 ∧ Heap.NewExc h2 h3 e' X ∧ Fr g L' h2 m2 ∧ News g L' h2 news) (st s h₁ tk₁))
    (hco : scope.isCoroutine = false) (hgen : scope.isGenerator = false) (hk : scope.kind = .function) (hcell : ∀ x ∈ scope.names, x.2 ≠ .cell) :
    wpAny (model prog w) (ktrTop dp un gd cn cs L a ccd cl outer) (call (.ref f) args) Q E (st s h tk) := by
  refine wpAny_call (callX_plain (s := st s h tk) (cl := []) (env := envX cn cs L a ccd cl) B F N T.nolimit rfl rfl hke ((X₀.keeps F.keep) _ _ ho) rfl (codeRec_of (X₀.keeps F.keep) hcd) hroom hbind hloc (fun g L' h₁ FG F' N' B' stay _ => ?_) hcell hco hgen hk)
  refine wpAny_mono (h1 g L' h₁ (tk + binds.length) F' N' (X₀.keeps stay) (T.keeps stay)) (fun fl s' x => x.elim) fun e s' x => ?_
  obtain ⟨e', h2, h3, tk3, m2, rfl, rfl, hx, F2, N2⟩ := x
  exact leave_newS (s' := st s h3 tk3) (name := qual) (scope := scope) (a := f) (cd := cdv) B' hx F2 N2 (fun h' R _ sm => hE e' g h' tk3 R FG sm) hk
end
section
variable {prog : Program} {w : World} {A : Around} {E : Value → Shared → Prop} {s : Shared} {h : Heap} {tk : Nat} {g : Heap} {L : Addr} {m : Str → Option Value} {news rest : List (Addr × Obj)} {a b : Int} {t u : Tok} {env : Env}
theorem b_lsh {Q : Value → Shared → Prop} (hn : 0 ≤ b) (hn2 : b ≤ 1000000) (ha : a.natAbs < 2 ^ 64) (h1 : ∀ t tk', Q (.int (a * 2 ^ b.toNat) t) (st s h tk')) : wpAny (model prog w) A (binaryOp .LShift (.int a t) (.int b u)) Q E (st s h tk) :=
  lshift_int_small (s := st s h tk) hn hn2 ha (h1 _ (tk + 1))
theorem b_pow {Q : Value → Shared → Prop} (hn : 0 ≤ b) (hn2 : b ≤ 1000000) (ha : a.natAbs < 2 ^ 64) (h1 : ∀ t tk', Q (.int (a ^ b.toNat) t) (st s h tk')) : wpAny (model prog w) A (binaryOp .Pow (.int a t) (.int b u)) Q E (st s h tk) :=
  pow_int_small (s := st s h tk) hn hn2 ha (h1 _ (tk + 1))
theorem b_and {Q : Value → Shared → Prop} (h1 : ∀ t tk', Q (.int (Builtin.bitAnd a b) t) (st s h tk')) : wpAny (model prog w) A (binaryOp .BitAnd (.int a t) (.int b u)) Q E (st s h tk) := and_int (s := st s h tk) (h1 _ (tk + 1))
theorem i_xor {Q : Value → Shared → Prop} (h1 : ∀ t tk', Q (.int (Builtin.bitXor a b) t) (st s h tk')) : wpAny (model prog w) A (inplaceOp .BitXor (.int a t) (.int b u)) Q E (st s h tk) := ixor_int (s := st s h tk) (h1 _ (tk + 1))
theorem t_int {Q : Bool → Shared → Prop} (h1 : Q (a != 0) (st s h tk)) : wpAny (model prog w) A (truthy (.int a t)) Q E (st s h tk) := PyProof.Rows.truthy_int (s := st s h tk) h1
theorem ll {x : Str} {v : Value} {Q : Value → Shared → Prop} (F : Fr g L h m) (hv : m x = some v) (hx : env.kindOf x = some .local) (h1 : Q v (st s h tk)) (hL : env.locals = L := by rfl)
    (hk : env.scope.kind = .function := by rfl) : wpAny (model prog w) A (loadName env x) Q E (st s h tk) :=
  wpAny_loadName_local (s := st s h tk) hk hx (hL ▸ F.ns) hv h1
theorem hex_ {Q : Value → Shared → Prop} (hz : (baseText "0x" 16 a).length ≤ sizeLine) (h1 : ∀ t tk', Q (.str (baseText "0x" 16 a) t) (st s h tk')) : wpAny (model prog w) A (call (.builtin "hex") [.int a t]) Q E (st s h tk) :=
  P.hex_of_int (s := st s h tk) (h1 _ (tk + 1)) hz
theorem gmD {d : Addr} {o : Obj} {pl : Sem Bool} {Q : Value × List Value → Shared → Prop} (ho : h.get? d = some o) (hc : o.cls = .type "dict") (hd : o.dict = none) (h1 : Q (.builtin "dict.get", [.ref d]) (st s h tk)) : wpAny (model prog w) A (getMethod (.ref d) "get" pl) Q E (st s h tk) :=
  getMethod_builtin (s := st s h tk) (v := .ref d) ⟨_, ho, hc⟩ PySem.F.plainAttrs_dict PySem.F.slot_dict_get PySem.F.type_dict_get (fun a e => by cases e; exact ⟨_, ho, hd⟩) h1
theorem dget {d : Addr} {f : Int → Option Value} {k : Int} {dflt : Value} {Q : Value → Shared → Prop} (hm : h.MapOf (intKind prog w) d f) (hd : (d == sysModules) = false) (h1 : ∀ tk', Q ((f k).getD dflt) (st s h tk')) :
    wpAny (model prog w) A (call (.builtin "dict.get") [.ref d, .int k t, dflt]) Q E (st s h tk) :=
  call_meetsIn (s := st s h tk) PySem.F.slot_dict_get hm.typeIs PySem.F.entry_dict_get (PySem.F.args_dict_get_3 _ _ _) (meets_dict_get_default (intKind prog w) d (intKind_is prog w k t) hd dflt) ⟨f, hm, h1 (tk + 1)⟩
theorem join_ {l : Addr} {its : List Value} {n : Nat} {ys : List Str} {x : Str} {Q : Value → Shared → Prop} (N : News g L h news) (hl : (l, lst its n) ∈ news) (hi : StrsAre its ys) (hok : (ys.map (·.length)).sum + ys.length * x.length ≤ 16777216)
    (h1 : ∀ t tk', Q (.str (Txt.join x ys) t) (st s h tk')) : wpAny (model prog w) A (call (.builtin "str.join") [.str x t, .ref l]) Q E (st s h tk) :=
  join_list (s := st s h tk) (items := its.toArray) ⟨_, N.get hl, rfl, n, rfl⟩ hi hok h1
theorem split_ {x y : Str} {Q : Value → Shared → Prop} (F : Fr g L h m) (N : News g L h news) (hy : (y.length == 0) = false) (hz : x.length + 2 ≤ sizeLine)
    (h1 : ∀ h' tk' l vs, StrsAre vs (Txt.split x y) → Fr g L h' m → News g L h' ((l, lst vs 0) :: news) → (∀ p ∈ news, p.1 < l) → Q (.ref l) (st s h' tk')) : wpAny (model prog w) A (call (.builtin "str.split") [.str x t, .str y u]) Q E (st s h tk) :=
  splitN1A (s := st s h tk) F N hy (fun l h' k e hs _ _ F' N' => h1 h' k _ _ (e ▸ hs) F' N' fun p hp => Heap.lt_size (N p hp).1) hz
end
/-- what a flag is called -/
def nm (i : Nat) : Str := ([Str.ofString "OPTIMIZED", Str.ofString "NEWLOCALS", Str.ofString "VARARGS", Str.ofString "VARKEYWORDS", Str.ofString "NESTED", Str.ofString "GENERATOR", Str.ofString "NOFREE", Str.ofString "COROUTINE", Str.ofString "ITERABLE_COROUTINE", Str.ofString "ASYNC_GENERATOR"] : List Str).getD i (Str.ofString "0x400")
/-- the names of the bits of q, the first of them being bit i -/
def nms : Nat → Nat → Nat → List Str
  | 0, _, _ => []
  | fu + 1, i, q => (if q % 2 = 1 then [nm i] else []) ++ nms fu (i + 1) (q / 2)
theorem nms_zero : ∀ fu i, nms fu i 0 = []
  | 0, _ => rfl
  | fu + 1, i => by simp [nms, nms_zero fu]
section
variable {prog : Program} {w : World} {A : Around} {E : Value → Shared → Prop} {s : Shared} {h : Heap} {tk : Nat} {g : Heap} {L : Addr} {m : Str → Option Value} {news rest : List (Addr × Obj)} {env : Env} {x : Str} {pos : Pos} {v : Value}
section
variable {K : Frag} {mg mb : Str → Option Value} {p : Program} {loose : List Str} {mean : ExcName → Option Value} {Q : Value → Shared → Prop} {c : Addr} {o : Obj}
/-- a global name, in whichever block -/
theorem nkE (F : Fr g L h m) (X : K.In g) (T : Top p loose mean mg mb g) (e : nsIn K mainGlobals x = some (some v)) (h1 : Q v (st s h tk))
    (hx : env.kindOf x = some .globalImplicit) (hd : (x == ("__debug__" : Str)) = false) (hk : env.scope.kind = .function := by rfl) (hg : env.globals = mainGlobals := by rfl) :
    wpAny (model prog w) A (eval (.Name x pos) env) Q E (st s h tk) :=
  Name_function_global hk hx (loadGlobal_global (s := st s h tk) (hg ▸ (topRead_of T).g.keeps F.keep) (mg_of X (topRead_of T).g e) h1) hd
theorem nbE (F : Fr g L h m) (X : K.In g) (T : Top p loose mean mg mb g) (e : nsIn K mainGlobals x = some none) (hv : bootBuiltins x = some v) (hn : x ≠ "__name__") (h1 : Q v (st s h tk))
    (hx : env.kindOf x = some .globalImplicit) (hd : (x == ("__debug__" : Str)) = false) (hk : env.scope.kind = .function := by rfl) (hg : env.globals = mainGlobals := by rfl) (hb : env.builtins = builtinsNs := by rfl) :
    wpAny (model prog w) A (eval (.Name x pos) env) Q E (st s h tk) :=
  Name_function_global hk hx (loadGlobal_builtin (s := st s h tk) (hg ▸ (topRead_of T).g.keeps F.keep) (mg_none_of X (topRead_of T).g e) (hb ▸ (topRead_of T).b.keeps F.keep) (((topRead_of T).builtins x hn).trans hv) h1) hd
/-- a name that lies in a cell of the ledger -/
theorem nc (N : News g L h news) (hc : env.cells.lookup x = some c) (hm : (c, o) ∈ news) (hd : o.data = .cell (some v)) (h1 : Q v (st s h tk))
    (hx : env.kindOf x = some .cell) (hb : (x == ("__debug__" : Str)) = false) (hk : env.scope.kind = .function := by rfl) : wpAny (model prog w) A (eval (.Name x pos) env) Q E (st s h tk) :=
  wpAny_Name (wpAny_loadName_cell (s := st s h tk) hk hx hc ⟨o, N.get hm, hd⟩ h1) hb
/-- the name that a comprehension turns -/
theorem nlc {oC : Obj} {m₂ : Str → Option Value} (N : News g L h news) (hc : (env.locals, oC) ∈ news) (hn : LCg.NsObj oC m₂) (hv : m₂ x = some v) (hx : env.kindOf x = some .local) (h1 : Q v (st s h tk))
    (hk : env.scope.kind = .function := by rfl) (hd : (x == ("__debug__" : Str)) = false := by decide +kernel) : wpAny (model prog w) A (eval (.Name x pos) env) Q E (st s h tk) :=
  wpAny_Name (wpAny_loadName_local (s := st s h tk) hk hx (hn.ns (N.get hc)) hv h1) hd
end
theorem sc {c : Addr} {o : Obj} {v₀ : Option Value} {Q : Unit → Shared → Prop} (F : Fr g L h m) (N : News g L h ((c, o) :: rest)) (hoff : ∀ p ∈ rest, p.1 ≠ c) (hc : env.cells.lookup x = some c) (hd : o.data = .cell v₀)
    (h1 : ∀ h' o', o'.data = .cell (some v) → Fr g L h' m → News g L h' ((c, o') :: rest) → Q () (st s h' tk)) (hx : env.kindOf x = some .cell) (hk : env.scope.kind = .function := by rfl) :
    wpAny (model prog w) A (storeName env x v) Q E (st s h tk) := by
  refine wpAny_storeName_cell (s := st s h tk) hk hx hc ⟨o, N.get (.head _), hd⟩ fun h' hv hs => ?_
  obtain ⟨o', ho', hd'⟩ := hv
  have U := news_change F N hoff hs ho'
  exact h1 h' o' hd' U.1 U.2
end
section
variable {prog : Program} {w : World} {A₀ : Around} {s : Shared} {base h₀ h : Heap} {tk : Nat} {outer : List Env} {L : Addr} {m : Str → Option Value} {news : List (Addr × Obj)} {K : Frag} {p : Program} {loose : List Str} {mean : ExcName → Option Value} {mg mb : Str → Option Value}
  {dp un : Nat} {gd : Option (List Code)} {cn : Str} {cs : Scope} {a : Addr} {ccd : Value} {cl : List (Str × Addr)} {E : Value → Shared → Prop}
    {Q : Value → Shared → Prop} {name qual : Str} {params : Arguments} {body : List Stmt} {scope : Scope} {dV kV doc pm cdv ct oc : Value} {an od : Option Addr} {osl : Array (Option Value)} {f : Addr} {args : List Value}
/-- a def some of whose names lie in cells is entered -/
theorem enterC (binds : List (Str × Value)) (G₀ : Grd A₀ base outer K p loose mean mg mb h₀) (F : Fr h₀ L h m) (N : News h₀ L h news) (hke : cs.kind = .function)
    (ho : K.lookup f = some ⟨oc, od, .func (fnOf name qual params body scope dV kV doc pm an cdv ct), osl⟩) (hcd : codeIn K cdv qual = true) (hroom : dp < recursionLimit)
    (hbind : BindsTo (st s h tk) (fnOf name qual params body scope dV kV doc pm an cdv ct) ⟨args, []⟩ binds)
    (hkind : ∀ n, ∀ x ∈ binds, scope.names.lookup x.1 = some .local ∨ (scope.names.lookup x.1 = some .cell ∧ ((cellsFrom n scope.names []).lookup x.1).isSome = true))
    (hnd : ((cellsFrom 0 scope.names []).map (·.1)).Nodup)
    (h1 : ∀ g L' h₁ tk₁ cells, Fr g L' h₁ (bindL (envOfC qual scope L' f cdv).kindOf binds fun _ => none) → News g L' h₁ (cells ++ news) → CellsAre (bindC (envOfC qual scope L' f cdv).kindOf binds fun _ => none) (cellsFrom (L' + 1) scope.names []) cells →
      Grd (ktrTop dp un gd cn cs L a ccd cl outer) base (envX cn cs L a ccd cl :: outer) K p loose mean mg mb g → (∀ p ∈ news, p.1 < L') →
      wpAny (model prog w) ((ktrTop dp un gd cn cs L a ccd cl outer).deeper (envX qual scope L' f cdv (cellsFrom (L' + 1) scope.names []))) (execs body (envX qual scope L' f cdv (cellsFrom (L' + 1) scope.names [])))
        (Back A₀ base outer (envX cn cs L a ccd cl) K p loose mean mg mb h₀ L m s Q g L') (fun _ _ => False) (st s h₁ tk₁))
    (hco : scope.isCoroutine = false) (hgen : scope.isGenerator = false) (hk : scope.kind = .function) :
    wpAny (model prog w) (ktrTop dp un gd cn cs L a ccd cl outer) (call (.ref f) args) Q E (st s h tk) := by
  obtain ⟨G1, stay, out⟩ := ground_in s (A := ktrTop dp un gd cn cs L a ccd cl outer) (env := envX cn cs L a ccd cl) G₀ F N rfl rfl hke
  refine wpAny_call (codeAny_call_function (s := st s h tk) hroom ((G₀.X.keeps F.keep) _ _ ho) rfl hco hgen rfl (codeRec_of (G₀.X.keeps F.keep) hcd) (hbind _ _ _ _ ?_))
  refine wpAny_newFunctionEnv_cells hk (hkind _) fun env' he s' x => ?_
  subst he
  refine ⟨(G₀.T.nolimit.keeps F.keep).keeps x.toInCall.keep, codeAny_func ?_⟩
  obtain ⟨h₁, tk₁, rfl, _⟩ := x.done
  have hk₁ := x.toInCall.keep
  obtain ⟨cells, NC, Y⟩ := Cl.news (h₀ := h) (Nat.le_refl _) fun n c hm => ⟨x.cell n c (lookup_of_mem_nodup (cellsFrom_names scope.names 0 (h.objs.size + 1) [] [] rfl ▸ hnd) hm), x.above n c hm⟩
  refine wpAny_mono (h1 _ h.objs.size h₁ tk₁ cells ⟨x.toInCall.ns, fun b o e => hk₁ b o (of_hideAll _ e), Nat.le_of_eq (hideAll_size _ _)⟩ (fun q hq => ?_) Y G1 fun q hq => Heap.lt_size (N q hq).1) (fun fl s' x => ?_) fun _ _ x => x.elim
  · rcases List.mem_append.mp hq with hq | hq
    · refine ⟨(NC q hq).1, (NC q hq).2.1, ?_⟩
      show (hideAll h (news.map (·.1))).get? q.1 = none
      cases z : (hideAll h (news.map (·.1))).get? q.1 with
      | none => rfl
      | some o => have := of_hideAll _ z; rw [(NC q hq).2.2] at this; cases this
    · exact ⟨hk₁ _ _ (N q hq).1, Nat.ne_of_lt (Heap.lt_size (N q hq).1), hideAll_none _ (List.mem_map_of_mem hq)⟩
  · obtain ⟨g', h', tk', m', news', rfl, T', F', N', k⟩ := x
    obtain ⟨h₀', T0, F0, N0, G0⟩ := out g' _ h' m' news' T' F' N'
    exact k h₀' T0 F0 N0 G0
end
section
variable {prog : Program} {w : World} {A : Around} {E : Value → Shared → Prop} {s : Shared} {h : Heap} {tk : Nat} {g : Heap} {L : Addr} {m : Str → Option Value} {news : List (Addr × Obj)} {env : Env}
abbrev celO : Obj := { cls := .type "cell", data := .cell none }
theorem nfe {scope : Scope} {globals : Addr} {cl : List (Str × Addr)} {qual : Str} {Q : Env → Shared → Prop}
    (h1 : Q { scope, locals := s.heap.objs.size, globals, cells := cellsFrom (s.heap.objs.size + 1) scope.names cl, qual, func := none, code := env.code, frame := env.frame, builtins := env.builtins }
      { s with heap := pushCells (s.heap.push { cls := .type "dict", data := .dict #[] }) scope.names }) :
    wpAny (model prog w) A (newFunctionEnv scope globals cl [] qual none .none (some env)) Q E s := by
  simp only [newFunctionEnv, Option.isSome_some, if_true]
  refine wpAny_bind (wpAny_alloc ?_)
  refine wpAny_bind (wpAny_layCells _ (fun name kind cells => by cases hkc : kind == NameKind.cell <;> rfl) _ _ _ _ ?_)
  rw [Heap.size_push]
  exact wpAny_bind (wpAny_pure (wpAny_pure h1))
/-- what a turn of a comprehension must come to -/
def Trn (g : Heap) (L : Addr) (m : Str → Option Value) (s : Shared) (own : List (Addr × Obj)) (S : List (Addr × Obj) → Prop) (P : Value → List (Addr × Obj) → Prop) (y : Value) (s' : Shared) : Prop :=
  ∃ h' tk' news', s' = st s h' tk' ∧ Fr g L h' m ∧ News g L h' (own ++ news') ∧ (∀ p ∈ news', ∀ q ∈ own, p.1 ≠ q.1) ∧ S news' ∧ P y news'
theorem rest_inv {elt : Expr} {x : Str} {scope : Scope} {cl : List (Str × Addr)} {S : List (Addr × Obj) → Prop} {PV : Nat → Value → Prop} {Fin : List Value → List (Addr × Obj) → Prop} {n : Nat} (P : Nat → List Value → List (Addr × Obj) → Prop)
    (turn : ∀ i v ys news I oI C oC D m₂ h tk, i < n → P i ys news → PV i v → LCg.NsObj oC m₂ → m₂ x = some v → Fr g L h m → News g L h ((I, oI) :: (C, oC) :: (D, lst ys ys.length) :: news) → (∀ p ∈ news, p.1 ≠ I ∧ p.1 ≠ C ∧ p.1 ≠ D) →
      wpAny (model prog w) A (eval elt (compEnvC scope cl C env)) (Trn g L m s [(I, oI), (C, oC), (D, lst ys ys.length)] S (fun y news' => P (i + 1) (ys ++ [y]) news')) (fun _ _ => False) (st s h tk))
    (fin : ∀ ys news, P n ys news → Fin ys news) : ∀ k i ys news, k + i = n → P i ys news → LCg.CompRest prog w A g L m env elt x scope cl s S PV Fin k i ys news
  | 0, i, ys, news, hi, hP => by
    obtain rfl : i = n := by omega
    exact fin ys news hP
  | k + 1, i, ys, news, hi, hP => by
    intro v I oI C oC D m₂ h tk E' hv ho hx F N off ne
    refine wpAny_mono (turn i v ys news I oI C oC D m₂ h tk (by omega) hP hv ho hx F N off.mem) (fun y s' z => ?_) fun _ _ z => z.elim
    obtain ⟨h', tk', news', rfl, F', N', o', hS, hP'⟩ := z
    exact ⟨h', tk', news', rfl, F', N', LCg.Off3.of fun p hp => ⟨o' p hp _ (.head _), o' p hp _ (.tail _ (.head _)), o' p hp _ (.tail _ (.tail _ (.head _)))⟩, hS, rest_inv P turn fin k (i + 1) (ys ++ [y]) news' (by omega) hP'⟩
theorem off1 {D : Addr} : ∀ {l : List (Addr × Obj)}, LCg.Off1 D l → ∀ p ∈ l, p.1 ≠ D
  | [], _, _, hp => nomatch hp
  | _ :: _, z, p, hp => by
    rcases List.mem_cons.mp hp with rfl | hp
    · exact z.1
    · exact off1 z.2 p hp
theorem finE {Q : Value → Shared → Prop} {ys : List Value} (k : ∀ D h tk, Fr g L h m → News g L h ((D, lst ys ys.length) :: news) → (∀ p ∈ news, p.1 ≠ D) → Q (.ref D) (st s h tk)) : LCg.FinE g L m s Q ys news :=
  fun D h tk F N o => k D h tk F N (off1 o)
theorem finA {Q : Flow → Shared → Prop} {y : Str} {ys : List Value} (k : ∀ D h tk, Fr g L h (up m y (.ref D)) → News g L h ((D, lst ys ys.length) :: news) → (∀ p ∈ news, p.1 ≠ D) → Q .next (st s h tk)) : LCg.FinA g L m s y Q ys news :=
  fun D h tk F N o => k D h tk F N (off1 o)
theorem srcR {elt : Expr} {x : Str} {scope : Scope} {cl : List (Str × Addr)} {r : Addr} {b : Int} {t u v : Tok} {n : Nat} {Fin : Shared → List Value → List (Addr × Obj) → Prop} (P : Nat → List Value → List (Addr × Obj) → Prop) {news0 : List (Addr × Obj)}
    (F : Fr g L h m) (N : News g L h news0) (hr : (r, rgO 0 b 1 t u v) ∈ news0) (hn : Builtin.Range.rangeSize 0 b 1 = ((n : Nat) : Int)) (hsm : Builtin.Range.small 0 b 1 = true) (hsz : n ≤ sizeLine) (hsub : ∀ p ∈ news, p ∈ news0) (hP : P 0 [] news)
    (turn : ∀ i t ys news I oI C oC D m₂ h tk, i < n → P i ys news → LCg.NsObj oC m₂ → m₂ x = some (.int i t) → Fr g L h m → News g L h ((I, oI) :: (C, oC) :: (D, lst ys ys.length) :: news) → (∀ p ∈ news, p.1 ≠ I ∧ p.1 ≠ C ∧ p.1 ≠ D) →
      wpAny (model prog w) A (eval elt (compEnvC scope cl C env)) (Trn g L m s [(I, oI), (C, oC), (D, lst ys ys.length)] (fun _ => True) (fun y news' => P (i + 1) (ys ++ [y]) news')) (fun _ _ => False) (st s h tk))
    (fin : ∀ g' ys news, P n ys news → Fin (st s g' tk) ys news) (hh : A.handled = none := by rfl) :
    LCg.CompSrc prog w A g L m env elt x scope cl Fin (.ref r) (st s h tk) := by
  refine LCg.CompSrc.range (s₁ := st s h tk) (news := news) hh F (news_sub N hsub) (show IsRange h r 0 b 1 t u v from N.get hr) hsm hn hsz fun g' => ?_
  refine rest_inv (s := st s g' tk) P (fun i v ys news I oI C oC D m₂ h tk hi hP hv ho hx F N off => ?_) (fun ys news hP => fin g' ys news hP) n 0 [] news (by omega) hP
  obtain ⟨t, rfl⟩ := hv
  rw [Int.zero_add] at hx
  exact turn i t ys news I oI C oC D m₂ h tk hi hP ho hx F N off
theorem srcL {elt : Expr} {x : Str} {scope : Scope} {cl : List (Str × Addr)} {ax : Addr} {its : List Value} {k : Nat} {Fin : Shared → List Value → List (Addr × Obj) → Prop} (P : Nat → List Value → List (Addr × Obj) → Prop) {news0 : List (Addr × Obj)}
    (F : Fr g L h m) (N : News g L h news0) (hsub : ∀ p ∈ news, p ∈ news0) (hr : (ax, lst its k) ∈ news) (hsz : its.length ≤ sizeLine) (hP : P 0 [] news)
    (turn : ∀ i v ys news I oI C oC D m₂ h tk, (hi : i < its.length) → its[i]? = some v → P i ys news → LCg.NsObj oC m₂ → m₂ x = some v → Fr g L h m → News g L h ((I, oI) :: (C, oC) :: (D, lst ys ys.length) :: news) → (∀ p ∈ news, p.1 ≠ I ∧ p.1 ≠ C ∧ p.1 ≠ D) →
      wpAny (model prog w) A (eval elt (compEnvC scope cl C env)) (Trn g L m s [(I, oI), (C, oC), (D, lst ys ys.length)] (fun nw => ∃ k, (ax, lst its k) ∈ nw) (fun y news' => P (i + 1) (ys ++ [y]) news')) (fun _ _ => False) (st s h tk))
    (fin : ∀ g' ys news, P its.length ys news → Fin (st s g' tk) ys news) (hh : A.handled = none := by rfl) :
    LCg.CompSrc prog w A g L m env elt x scope cl Fin (.ref ax) (st s h tk) := by
  refine LCg.CompSrc.ledger (s₁ := st s h tk) (its := its.toArray) (news := news) hh F (news_sub N hsub) hr (by simpa using hsz) fun g' => ?_
  refine rest_inv (s := st s g' tk) P (fun i v ys news I oI C oC D m₂ h tk hi hP hv ho hx F N off => ?_) (fun ys news hP => fin g' ys news (by simpa using hP)) its.toArray.size 0 [] news (by simp) hP
  refine wpAny_mono (turn i v ys news I oI C oC D m₂ h tk (by simpa using hi) (by simpa using hv) hP ho hx F N off) (fun y s' z => ?_) fun _ _ z => z
  obtain ⟨h', tk', news', rfl, F', N', o', ⟨k', hS⟩, hP'⟩ := z
  exact ⟨h', tk', news', rfl, F', N', o', .inr ⟨_, hS, rfl, k', rfl⟩, hP'⟩
/-- a comprehension as a value -/
theorem lcE {elt iter : Expr} {x : Str} {px : Pos} {scope : Scope} {cl : List (Str × Addr)} {pos : Pos} {Q : Value → Shared → Prop} (F₀ : Fr g L h m)
    (hclos : closureFor scope env = pure cl) (hcell : ∀ y ∈ scope.names, y.2 ≠ .cell) (hkind : scope.kind = .function)
    (hnames : ∀ y ∈ scope.names, y.2 = .local → scope.names.lookup y.1 = some .local) (hx : scope.names.lookup x = some .local)
    (h1 : wpAny (model prog w) A (eval iter env) (LCg.CompSrc prog w A g L m env elt x scope cl (fun s₂ => LCg.FinE g L m s₂ Q)) E (st s h tk)) (hs : ∀ x, foldedSetIterable iter env x = pure x) :
    wpAny (model prog w) A (eval (.ListComp elt [⟨.Name x px, iter, [], 0⟩] scope pos) env) Q E (st s h tk) := LCg.ListComp_U (s := st s h tk) F₀ hclos hcell hkind hnames hx h1 hs
/-- a comprehension to a name -/
theorem lcA {elt iter : Expr} {x y : Str} {px py : Pos} {scope : Scope} {cl : List (Str × Addr)} {pos spos : Pos} {Q : Flow → Shared → Prop} (F₀ : Fr g L h m)
    (hsw : swapsWith (.ListComp elt [⟨.Name x px, iter, [], 0⟩] scope pos) (some (.Name y py)) spos.line env = pure true)
    (hclos : closureFor scope env = pure cl) (hcell : ∀ y ∈ scope.names, y.2 ≠ .cell) (hkind : scope.kind = .function)
    (hnames : ∀ y ∈ scope.names, y.2 = .local → scope.names.lookup y.1 = some .local) (hx : scope.names.lookup x = some .local) (hy : env.kindOf y = some .local)
    (h1 : wpAny (model prog w) A (eval iter env) (LCg.CompSrc prog w A g L m env elt x scope cl (fun s₂ => LCg.FinA g L m s₂ y Q)) E (st s h tk)) (hs : ∀ x, foldedSetIterable iter env x = pure x) (hL : env.locals = L := by rfl) (hk : env.scope.kind = .function := by rfl) :
    wpAny (model prog w) A (exec (.Assign [.Name y py] (.ListComp elt [⟨.Name x px, iter, [], 0⟩] scope pos) spos) env) Q E (st s h tk) :=
  LCg.Assign_ListComp_U (s := st s h tk) F₀ hL hsw hclos hcell hkind hnames hx hy (by rw [hk]; rfl) h1 hs
end
section
variable {prog : Program} {w : World} {A : Around} {E : Value → Shared → Prop} {s : Shared} {h : Heap} {tk : Nat} {g : Heap} {L : Addr} {m : Str → Option Value} {news : List (Addr × Obj)} {env : Env}
theorem off_cons {a : Addr} {o : Obj} {l : List (Addr × Obj)} {b : Addr} (h1 : @Ne Nat a b) (h2 : ∀ p ∈ l, p.1 ≠ b) : ∀ p ∈ (a, o) :: l, p.1 ≠ b := fun p hp => by
  rcases List.mem_cons.mp hp with rfl | hp
  · exact h1
  · exact h2 p hp
/-- a comprehension whose own name lies in a cell -/
theorem blkC {elt iter : Expr} {x : Str} {px : Pos} {scope : Scope} {cl : List (Str × Addr)} {pos : Pos} {I : Addr} {fp : List Addr} {n : Nat} {PV : Nat → Value → Prop} {St : Nat → Heap → Prop} {S : List (Addr × Obj) → Prop} {RR : Value → Addr → Result → Shared → Prop}
    (P : Nat → List Value → List (Addr × Obj) → Prop)
    (W : Walks prog w A I fp [I] n PV St) (hsz : n ≤ sizeLine) (hIo : ∀ i h, St i h → ∃ o, h.get? I = some o)
    (hSt : ∀ i h h' o nw, St i h → h.get? I = some o → h'.get? I = some o → (∀ b o, g.get? b = some o → h'.get? b = some o) → News g L h' nw → S nw → St i h')
    (hcl : ∀ k, cellsFrom k scope.names cl = (x, k) :: cl) (hpc : ∀ h, pushCells h scope.names = h.push celO)
    (hkind : scope.kind = .function) (hx : (relabel scope env).names.lookup x = some .cell) (hst : St 0 h) (hfp : ∀ b ∈ fp, b < h.objs.size)
    (F : Fr g L h m) (N : News g L h news) (hIL : L ≠ I) (hI₀ : g.get? I = none) (off : ∀ p ∈ news, p.1 ≠ I) (hS : S news) (hP0 : P 0 [] news)
    (turn : ∀ i v ys news oI C oC K oK D h tk, i < n → P i ys news → PV i v → oK.data = .cell (some v) → Fr g L h m → News g L h ((I, oI) :: (C, oC) :: (K, oK) :: (D, lst ys ys.length) :: news) → (∀ p ∈ news, p.1 ≠ I ∧ p.1 ≠ C ∧ p.1 ≠ K ∧ p.1 ≠ D) →
      wpAny (model prog w) A (eval elt (compEnvC scope ((x, K) :: cl) C env)) (Trn g L m s [(I, oI), (C, oC), (K, oK), (D, lst ys ys.length)] S (fun y news' => P (i + 1) (ys ++ [y]) news')) (fun _ _ => False) (st s h tk))
    (fin : ∀ D C h tk m' ys news, P n ys news → Fr g L h m → News g L h ((D, lst ys ys.length) :: news) → (∀ p ∈ news, p.1 ≠ D) → h.Ns C m' → g.get? C = none → C ≠ L → C ≠ D → (∀ p ∈ news, p.1 ≠ C) → RR (.ref D) C (.ok .next) (st s h tk)) :
    wpAny (model prog w) A (newList []) (fun acc s₃ => wpAny (model prog w) A (newFunctionEnv scope env.globals cl [] env.qual none .none (some env)) (fun cenv s₄ =>
      codeAny (model prog w) A (.compStart (.ListComp elt [⟨.Name x px, iter, [], 0⟩] scope pos) 0 (.ref I) acc { cenv with scope := relabel scope env }) (RR acc cenv.locals) s₄) E s₃) E (st s h tk) := by
  have hIf : I ∈ fp := W.sub I (List.mem_singleton.mpr rfl)
  have hIlt : I < h.objs.size := hfp I hIf
  refine wpAny_newObj_type (nfe ?_)
  obtain ⟨F1, N1, lt1⟩ := news_push (o := lst [] 0) F N rfl
  obtain ⟨F2, N2, lt2⟩ := news_push (o := { cls := .type "dict", data := .dict #[] }) F1 N1 rfl
  obtain ⟨F3, N3, lt3⟩ := news_push (o := celO) F2 N2 rfl
  obtain ⟨oC, hoC, hns⟩ := LCg.ns_obj (Heap.Ns.new (h.push (lst [] 0)) (.type "dict"))
  have hoC' : oC = { cls := .type "dict", data := .dict #[] } := by
    have := N2.get (.head _)
    rw [hoC] at this; exact Option.some.inj this
  subst hoC'
  show codeAny _ _ _ _ { (st s h tk) with heap := pushCells ((h.push (lst [] 0)).push { cls := .type "dict", data := .dict #[] }) scope.names }
  rw [hpc]
  show codeAny _ _ (.compStart _ 0 (.ref I) (.ref h.objs.size) { scope := relabel scope env, locals := (h.push (lst [] 0)).objs.size, globals := env.globals, cells := cellsFrom ((h.push (lst [] 0)).objs.size + 1) scope.names cl, qual := env.qual, func := none, code := env.code, frame := env.frame, builtins := env.builtins }) (RR (.ref h.objs.size) (h.push (lst [] 0)).objs.size) _
  rw [hcl]
  have e1 : (h.push (lst [] 0)).objs.size = h.objs.size + 1 := Heap.size_push ..
  have e2 : ((h.push (lst [] 0)).push { cls := .type "dict", data := .dict #[] }).objs.size = h.objs.size + 1 + 1 := by rw [Heap.size_push, Heap.size_push]
  rw [e1] at N2 lt2 hoC ⊢
  rw [e2] at N3 lt3
  rw [e1] at N3
  have hk3 : ∀ b o, h.get? b = some o → (((h.push (lst [] 0)).push { cls := .type "dict", data := .dict #[] }).push celO).get? b = some o := fun b o e => Heap.get?_push_of_some _ (Heap.get?_push_of_some _ (Heap.get?_push_of_some _ e))
  have hst3 : St 0 (((h.push (lst [] 0)).push { cls := .type "dict", data := .dict #[] }).push celO) := W.frame _ _ _ hst fun b _ o e => hk3 b o e
  have hg : ∀ a, h.objs.size ≤ a → g.get? a = none := fun a ha => by
    cases e : g.get? a with
    | none => rfl
    | some o => exact absurd (Heap.lt_size (F.keep a o e)) (Nat.not_lt.mpr ha)
  have hL : L < h.objs.size := F.ns.lt
  have nf : ∀ b, h.objs.size ≤ b → b ∉ fp := fun b hb hm => Nat.lt_irrefl _ (Nat.lt_of_le_of_lt hb (hfp b hm))
  generalize hD : h.objs.size = D at *
  have hIlt' : @LT.lt Nat _ I D := hIlt
  have hL' : @LT.lt Nat _ L D := hL
  have loop : ∀ s₃ : Shared, s₃ = st s (((h.push (lst [] 0)).push { cls := .type "dict", data := .dict #[] }).push celO) tk →
      codeAny (model prog w) A (.compLoop (.ListComp elt [⟨.Name x px, iter, [], 0⟩] scope pos) 0 (.ref I) (.ref D) (compEnvC scope ((x, D + 1 + 1) :: cl) (D + 1) env)) (RR (.ref D) (D + 1)) s₃ := by
    rintro s₃ rfl
    refine codeAny_compLoop_tests
      (fun k s' => ∃ h' tk i ys oK v₀ news', s' = st s h' tk ∧ i ≤ n ∧ k = n + 1 - i ∧ ys.length = i ∧ St i h' ∧ Fr g L h' m ∧ oK.data = .cell v₀ ∧ News g L h' ((D, lst ys ys.length) :: (D + 1, { cls := .type "dict", data := .dict #[] }) :: (D + 1 + 1, oK) :: news') ∧
        (∀ p ∈ news', p.1 ≠ I ∧ p.1 ≠ D + 1 ∧ p.1 ≠ D + 1 + 1 ∧ p.1 ≠ D) ∧ S news' ∧ P i ys news') ?_ (n + 1)
      ⟨_, tk, 0, [], celO, none, news, rfl, Nat.zero_le _, rfl, rfl, hst3, F3, rfl, fun p hp => N3 p ?_, fun p hp => ?_, hS, hP0⟩
    · rintro k s' ⟨h', tk', i, ys, oK, v₀, news', rfl, hi, rfl, hyl, hst', F', hK', N', off', hS', hP'⟩
      by_cases hlt : i < n
      · refine W.item i _ _ _ hlt hst' fun v h₂ tk₂ hPv hst₂ hk₂ => ?_
        have offI : ∀ p ∈ ((D, lst ys ys.length) :: (D + 1, ({ cls := .type "dict", data := .dict #[] } : Obj)) :: (D + 1 + 1, oK) :: news'), p.1 ≠ I :=
          off_cons (by omega) (off_cons (by omega) (off_cons (by omega) fun p hp => (off' p hp).1))
        have F₂ := LCg.fr_but F' hk₂ hIL hI₀
        have N₂ := LCg.news_but N' hk₂ offI
        refine wpAny_assign_Name (wpAny_storeName_cell (c := D + 1 + 1) (v₀ := v₀) (s := st s h₂ tk₂) hkind hx (by simp [compEnvC]) ⟨oK, N₂.get (.tail _ (.tail _ (.head _))), hK'⟩ fun h₃ hv₃ hs₃ => ?_)
        obtain ⟨oK', ho', hd'⟩ := hv₃
        have U := news_change F₂ (rest := (D, lst ys ys.length) :: (D + 1, { cls := .type "dict", data := .dict #[] }) :: news') (news_sub N₂ (fun p hp => by simp only [List.mem_cons] at hp ⊢; exact hp.elim (fun z => .inr (.inr (.inl z))) fun z => z.elim .inl fun z => z.elim (fun z => .inr (.inl z)) fun z => .inr (.inr (.inr z))))
          (off_cons (by omega) (off_cons (by omega) fun p hp => (off' p hp).2.2.1)) hs₃ ho'
        refine wpAny_tests_nil ?_
        simp only [if_true]
        have hst₃ : St (i + 1) h₃ := W.frame _ _ _ hst₂ fun b hb o e => hs₃.extBut b o (fun q => nf b (show @LE.le Nat _ D b by have q' : @Eq Nat b _ := q; omega) hb) e
        obtain ⟨oI, heI⟩ := hIo _ _ hst₃
        have N₃ : News g L h₃ ((I, oI) :: (D + 1, { cls := .type "dict", data := .dict #[] }) :: (D + 1 + 1, oK') :: (D, lst ys ys.length) :: news') := fun p hp => by
          rcases List.mem_cons.mp hp with rfl | hp
          · exact ⟨heI, Ne.symm hIL, hI₀⟩
          · exact U.2 p (by simp only [List.mem_cons] at hp ⊢; exact hp.elim (fun z => .inr (.inr (.inl z))) fun z => z.elim .inl fun z => z.elim (fun z => .inr (.inl z)) fun z => .inr (.inr (.inr z)))
        refine wpAny_mono (turn i v ys news' oI (D + 1) _ (D + 1 + 1) oK' D h₃ _ hlt hP' hPv hd' U.1 N₃ off') (fun y s₄ h₄ => ?_) fun _ _ e => e.elim
        obtain ⟨h₄, tk₄, news₄, rfl, F₄, N₄, o₄, hS₄, P₄⟩ := h₄
        have o4 : ∀ p ∈ news₄, p.1 ≠ I ∧ p.1 ≠ D + 1 ∧ p.1 ≠ D + 1 + 1 ∧ p.1 ≠ D := fun p hp => ⟨o₄ p hp _ (.head _), o₄ p hp _ (.tail _ (.head _)), o₄ p hp _ (.tail _ (.tail _ (.head _))), o₄ p hp _ (.tail _ (.tail _ (.tail _ (.head _))))⟩
        have N₄' : News g L h₄ news₄ := fun p hp => N₄ p (List.mem_append_right _ hp)
        have hst₄ : St (i + 1) h₄ := hSt _ _ _ _ _ hst₃ heI (N₄ (I, oI) (.head _)).1 F₄.keep N₄' hS₄
        refine append_at (s := st s h₄ tk₄) (its := ys.toArray) (n := ys.length) (hsz := by rw [List.size_toArray, hyl]; exact Nat.le_trans hi hsz) (N₄ (D, lst ys ys.length) (.tail _ (.tail _ (.tail _ (.head _))))).1 fun h₅ hs₅ hD₅ => ?_
        have U5 := news_change F₄ (rest := (D + 1, { cls := .type "dict", data := .dict #[] }) :: (D + 1 + 1, oK') :: news₄) (o := lst ys ys.length) (o' := lst (ys ++ [y]) (ys ++ [y]).length) (news_sub N₄ (fun p hp => by
            simp only [List.mem_cons, List.mem_append, List.not_mem_nil, or_false] at hp ⊢
            exact hp.elim (fun z => .inl (.inr (.inr (.inr z)))) fun z => z.elim (fun z => .inl (.inr (.inl z))) fun z => z.elim (fun z => .inl (.inr (.inr (.inl z)))) fun z => .inr z))
          (off_cons (by omega) (off_cons (by omega) fun p hp => (o4 p hp).2.2.2)) hs₅ (hD₅.trans (congrArg some (LCg.lst_snoc ys y)))
        refine ⟨n + 1 - (i + 1), by omega, h₅, tk₄, i + 1, ys ++ [y], oK', _, news₄, rfl, hlt, rfl, by rw [List.length_append, List.length_singleton, hyl], W.frame _ _ _ hst₄ fun b hb o e => hs₅.extBut b o (fun q => nf b (show @LE.le Nat _ D b by have q' : @Eq Nat b _ := q; omega) hb) e, U5.1, hd', U5.2, o4, hS₄, P₄⟩
      · obtain rfl : i = n := Nat.le_antisymm hi (Nat.not_lt.mp hlt)
        refine W.done _ _ _ hst' fun h₂ tk₂ hk₂ => ?_
        have offI : ∀ p ∈ ((D, lst ys ys.length) :: (D + 1, ({ cls := .type "dict", data := .dict #[] } : Obj)) :: (D + 1 + 1, oK) :: news'), p.1 ≠ I :=
          off_cons (by omega) (off_cons (by omega) (off_cons (by omega) fun p hp => (off' p hp).1))
        have F₂ := LCg.fr_but F' hk₂ hIL hI₀
        have N₂ := LCg.news_but N' hk₂ offI
        refine fin D (D + 1) h₂ tk₂ _ ys news' hP' F₂ (news_sub N₂ fun p hp => ?_) (fun p hp => (off' p hp).2.2.2) (hns.ns (N₂.get (.tail _ (.head _)))) (hg _ (show @LE.le Nat _ D (D + 1) by omega)) (show @Ne Nat (D + 1) L by omega) (show @Ne Nat (D + 1) D by omega) fun p hp => (off' p hp).2.1
        simp only [List.mem_cons] at hp ⊢
        exact hp.elim .inl fun z => .inr (.inr (.inr z))
    · simp only [List.mem_cons] at hp ⊢
      exact hp.elim (fun z => .inr (.inr (.inl z))) fun z => z.elim (fun z => .inr (.inl z)) fun z => z.elim .inl fun z => .inr (.inr (.inr z))
    · have z : @LT.lt Nat _ p.1 D := lt1 p hp
      exact ⟨off p hp, show @Ne Nat p.1 (D + 1) by omega, show @Ne Nat p.1 (D + 1 + 1) by omega, show @Ne Nat p.1 D by omega⟩
  exact codeAny_compStart_list (loop _ rfl) (W.self 0 _ _ _ hst3 (loop _ rfl))
def CSrc (prog : Program) (w : World) (A : Around) (env : Env) (elt iter : Expr) (x : Str) (px : Pos) (scope : Scope) (cl : List (Str × Addr)) (pos : Pos) (Q : Value → Shared → Prop) (E : Value → Shared → Prop) (xv : Value) (s₁ : Shared) : Prop :=
  wpAny (model prog w) A (pyIter xv) (fun it s₂ => wpAny (model prog w) A (newList []) (fun acc s₃ => wpAny (model prog w) A (newFunctionEnv scope env.globals cl [] env.qual none .none (some env)) (fun cenv s₄ =>
    codeAny (model prog w) A (.compStart (.ListComp elt [⟨.Name x px, iter, [], 0⟩] scope pos) 0 it acc { cenv with scope := relabel scope env }) (compPost (model prog w) A E none Q acc cenv.locals) s₄) E s₃) E s₂) E s₁
theorem lcC {elt iter : Expr} {x : Str} {px : Pos} {scope : Scope} {cl : List (Str × Addr)} {pos : Pos} {Q : Value → Shared → Prop}
    (hclos : closureFor scope env = pure cl) (hkind : scope.kind = .function) (hnames : ∀ y ∈ scope.names, y.2 = .local → scope.names.lookup y.1 = some .local)
    (h1 : wpAny (model prog w) A (eval iter env) (CSrc prog w A env elt iter x px scope cl pos Q E) E (st s h tk)) (hs : ∀ x, foldedSetIterable iter env x = pure x) :
    wpAny (model prog w) A (eval (.ListComp elt [⟨.Name x px, iter, [], 0⟩] scope pos) env) Q E (st s h tk) := by
  rw [eval_ListComp]
  exact wpAny_comprehension_free (use := none) rfl hs hclos hkind hnames h1
theorem csrcR {elt iter : Expr} {x : Str} {px : Pos} {scope : Scope} {cl : List (Str × Addr)} {pos : Pos} {r : Addr} {b : Int} {t u v : Tok} {n : Nat} {Q : Value → Shared → Prop} (P : Nat → List Value → List (Addr × Obj) → Prop) {news0 : List (Addr × Obj)}
    (F : Fr g L h m) (N : News g L h news0) (hr : (r, rgO 0 b 1 t u v) ∈ news0) (hn : Builtin.Range.rangeSize 0 b 1 = ((n : Nat) : Int)) (hsm : Builtin.Range.small 0 b 1 = true) (hsz : n ≤ sizeLine) (hsub : ∀ p ∈ news, p ∈ news0) (hP : P 0 [] news)
    (hcl : ∀ k, cellsFrom k scope.names cl = (x, k) :: cl) (hpc : ∀ h, pushCells h scope.names = h.push celO)
    (hkind : scope.kind = .function) (hx : (relabel scope env).names.lookup x = some .cell)
    (turn : ∀ i t ys news I oI C oC K oK D h tk, i < n → P i ys news → oK.data = .cell (some (.int i t)) → Fr g L h m → News g L h ((I, oI) :: (C, oC) :: (K, oK) :: (D, lst ys ys.length) :: news) → (∀ p ∈ news, p.1 ≠ I ∧ p.1 ≠ C ∧ p.1 ≠ K ∧ p.1 ≠ D) →
      wpAny (model prog w) A (eval elt (compEnvC scope ((x, K) :: cl) C env)) (Trn g L m s [(I, oI), (C, oC), (K, oK), (D, lst ys ys.length)] (fun _ => True) (fun y news' => P (i + 1) (ys ++ [y]) news')) (fun _ _ => False) (st s h tk))
    (fin : ∀ ys news D h tk, P n ys news → Fr g L h m → News g L h ((D, lst ys ys.length) :: news) → (∀ p ∈ news, p.1 ≠ D) → Q (.ref D) (st s h tk)) (hh : A.handled = none := by rfl) :
    CSrc prog w A env elt iter x px scope cl pos Q E (.ref r) (st s h tk) := by
  refine wpAny_pyIter_range (s := st s h tk) (show IsRange h r 0 b 1 t u v from N.get hr) hsm ?_
  obtain ⟨F', N', lt'⟩ := news_push (o := itR 0 (Builtin.Range.rangeSize 0 b 1) 1) F (news_sub N hsub) rfl
  have z : (h.push (itR 0 (Builtin.Range.rangeSize 0 b 1) 1)).get? h.objs.size = some (itR (0 + ((0 : Nat) : Int) * 1) ((n : Int) - ((0 : Nat) : Int)) 1) := by
    rw [hn]; simpa using Heap.get?_push_size h rfl
  refine blkC (s := s) (tk := tk) (h := h.push (itR 0 (Builtin.Range.rangeSize 0 b 1) 1)) (RR := compPost (model prog w) A E none Q) (news := news) P (LCg.range_walks hh 0 n) hsz (fun i h st => ⟨_, st⟩) LCg.range_st hcl hpc hkind hx z (fun b hb => ?_)
    F' (news_sub N' fun p hp => .tail _ hp) (Nat.ne_of_lt F.ns.lt) (next_is_new F) (fun p hp => Nat.ne_of_lt (lt' p hp)) trivial hP (fun i v ys news oI C oC K oK D h tk hi hP hv hd F N off => ?_) ?_
  · rw [List.mem_singleton.mp hb]
    show h.objs.size < (h.push _).objs.size
    rw [Heap.size_push]; exact Nat.lt_succ_self _
  · obtain ⟨t, rfl⟩ := hv
    rw [Int.zero_add] at hd
    exact turn i t ys news _ oI C oC K oK D h tk hi hP hd F N off
  · intro D C h tk m' ys news hP F N offD hn hC₀ hCL hCD offC
    refine ⟨m', hn, fun h'' hs'' => fin ys news D h'' tk hP (F.change hs'' hCL hC₀) (fun p hp => ⟨hs''.extBut _ _ ?_ (N p hp).1, (N p hp).2⟩) offD⟩
    rcases List.mem_cons.mp hp with rfl | hp
    · exact Ne.symm hCD
    · exact offC p hp
theorem csrcL {elt iter : Expr} {x : Str} {px : Pos} {scope : Scope} {cl : List (Str × Addr)} {pos : Pos} {ax : Addr} {its : List Value} {k : Nat} {Q : Value → Shared → Prop} (P : Nat → List Value → List (Addr × Obj) → Prop) {news0 : List (Addr × Obj)}
    (F : Fr g L h m) (N : News g L h news0) (hsub : ∀ p ∈ news, p ∈ news0) (hr : (ax, lst its k) ∈ news) (hsz : its.length ≤ sizeLine) (hP : P 0 [] news)
    (hcl : ∀ k, cellsFrom k scope.names cl = (x, k) :: cl) (hpc : ∀ h, pushCells h scope.names = h.push celO)
    (hkind : scope.kind = .function) (hx : (relabel scope env).names.lookup x = some .cell)
    (turn : ∀ i v ys news I oI C oC K oK D h tk, i < its.length → its[i]? = some v → P i ys news → oK.data = .cell (some v) → Fr g L h m → News g L h ((I, oI) :: (C, oC) :: (K, oK) :: (D, lst ys ys.length) :: news) → (∀ p ∈ news, p.1 ≠ I ∧ p.1 ≠ C ∧ p.1 ≠ K ∧ p.1 ≠ D) →
      wpAny (model prog w) A (eval elt (compEnvC scope ((x, K) :: cl) C env)) (Trn g L m s [(I, oI), (C, oC), (K, oK), (D, lst ys ys.length)] (fun nw => ∃ k, (ax, lst its k) ∈ nw) (fun y news' => P (i + 1) (ys ++ [y]) news')) (fun _ _ => False) (st s h tk))
    (fin : ∀ ys news D h tk, P its.length ys news → Fr g L h m → News g L h ((D, lst ys ys.length) :: news) → (∀ p ∈ news, p.1 ≠ D) → Q (.ref D) (st s h tk)) (hh : A.handled = none := by rfl) :
    CSrc prog w A env elt iter x px scope cl pos Q E (.ref ax) (st s h tk) := by
  have hm := hsub _ hr
  have hlt : ax < h.objs.size := Heap.lt_size (N _ hm).1
  refine wpAny_pyIter_list (s := st s h tk) (items := its.toArray) ⟨_, N.get hm, rfl, k, rfl⟩ ?_
  obtain ⟨F', N', lt'⟩ := news_push (o := { cls := .type "list_iterator", data := .fields #[.ref ax, .int 0 0] }) F (news_sub N hsub) rfl
  refine blkC (s := s) (tk := tk) (h := h.push { cls := .type "list_iterator", data := .fields #[.ref ax, .int 0 0] }) (RR := compPost (model prog w) A E none Q) (news := news) (S := fun nw => ∃ k, (ax, lst its k) ∈ nw) (n := its.toArray.size) P (Walks.list hh h.objs.size ax (Nat.ne_of_lt hlt) its.toArray) (by simpa using hsz)
    (fun i h st => by obtain ⟨o, e, _⟩ := st.1; exact ⟨o, e⟩) ?_ hcl hpc hkind hx ⟨⟨_, Heap.get?_push_size _ rfl, rfl, rfl⟩, ⟨_, N'.get (.tail _ hr), rfl, k, rfl⟩⟩ (fun b hb => ?_)
    F' (news_sub N' fun p hp => .tail _ hp) (Nat.ne_of_lt F.ns.lt) (next_is_new F) (fun p hp => Nat.ne_of_lt (lt' p hp)) ⟨k, hr⟩ hP (fun i v ys news oI C oC K oK D h tk hi hP hv hd F N off => ?_) ?_
  · intro i h h' o nw st e e' k N S
    obtain ⟨k', S⟩ := S
    exact LCg.list_st i h h' o nw st e e' k N (.inr ⟨_, S, rfl, k', rfl⟩)
  · show b < (h.push _).objs.size
    rw [Heap.size_push]
    rcases List.mem_cons.mp hb with rfl | hb
    · exact Nat.lt_succ_self _
    · rw [List.mem_singleton.mp hb]; exact Nat.lt_succ_of_lt hlt
  · exact turn i v ys news _ oI C oC K oK D h tk (by simpa using hi) (by simpa using hv) hP hd F N off
  · intro D C h tk m' ys news hP F N offD hn hC₀ hCL hCD offC
    refine ⟨m', hn, fun h'' hs'' => fin ys news D h'' tk (by simpa using hP) (F.change hs'' hCL hC₀) (fun p hp => ⟨hs''.extBut _ _ ?_ (N p hp).1, (N p hp).2⟩) offD⟩
    rcases List.mem_cons.mp hp with rfl | hp
    · exact Ne.symm hCD
    · exact offC p hp
end
theorem ibt {P R : Prop} {b : Bool} (hb : b = true) (h1 : P) : Ib b P R := by subst hb; exact h1
theorem ibf {P R : Prop} {b : Bool} (hb : b = false) (h1 : R) : Ib b P R := by subst hb; exact h1
theorem fold_rep (v : Value) : ∀ (k : Nat) (a : Array Value), List.foldl (fun x1 x2 => x1 ++ x2) a (List.replicate k #[v]) = a ++ (List.replicate k v).toArray
  | 0, a => by simp
  | k + 1, a => by rw [List.replicate_succ, List.foldl_cons, fold_rep v k, Array.append_assoc]; congr 1; simp [List.replicate_succ]
theorem strs_rep {y : Str} {t : Tok} : ∀ k, StrsAre (List.replicate k (.str y t)) (List.replicate k y)
  | 0 => .nil
  | k + 1 => .cons _ _ (strs_rep k)
theorem strs_get : ∀ {vs : List Value} {ys : List Str}, StrsAre vs ys → ∀ (j : Nat) (y : Str), ys[j]? = some y → ∃ t, vs[j]? = some (Value.str y t)
  | _, _, .nil, _, _, h => nomatch h
  | _, _, .cons _ t r, 0, y, h => by cases h; exact ⟨t, rfl⟩
  | _, _, .cons _ _ r, j + 1, y, h => strs_get r j y h
theorem strs_count {k : Str} : ∀ {vs : List Value} {ys : List Str}, StrsAre vs ys → vs.countP (isStrOf k) = ys.count k
  | _, _, .nil => rfl
  | _, _, .cons y t r => by
    rw [List.countP_cons, List.count_cons, strs_count r]
    rfl
section
variable {prog : Program} {w : World} {A : Around} {E : Value → Shared → Prop} {s : Shared} {h : Heap} {tk : Nat} {g : Heap} {L : Addr} {m : Str → Option Value} {news rest : List (Addr × Obj)} {env : Env} {l b : Addr} {its its2 : List Value} {n n2 : Nat} {Q : Value → Shared → Prop}
theorem mulL {v : Value} {x : Int} {u : Tok} (F : Fr g L h m) (N : News g L h news) (hl : (l, lst [v] n) ∈ news) (hlo : -1000 ≤ x) (hhi : x ≤ 1000)
    (h1 : ∀ h' l', Fr g L h' m → News g L h' ((l', lst (List.replicate x.toNat v) 0) :: news) → (∀ p ∈ news, p.1 < l') → Q (.ref l') (st s h' tk)) : wpAny (model prog w) A (binaryOp .Mult (.ref l) (.int x u)) Q E (st s h tk) := by
  refine mul_list (s := st s h tk) F N (N.get hl) (by omega) (by omega) (by rw [List.size_toArray]; show 1 * _ ≤ _; omega) fun h' F' N' => ?_
  refine h1 h' _ F' ?_ fun p hp => Heap.lt_size (N p hp).1
  rw [if_neg (by simp), fold_rep, Array.empty_append] at N'
  exact N'
theorem addL (F : Fr g L h m) (N : News g L h news) (hl : (l, lst its n) ∈ news) (hb : (b, lst its2 n2) ∈ news) (hz : its.length + its2.length ≤ sizeLine)
    (h1 : ∀ h' l', Fr g L h' m → News g L h' ((l', lst (its ++ its2) 0) :: news) → (∀ p ∈ news, p.1 < l') → Q (.ref l') (st s h' tk)) : wpAny (model prog w) A (binaryOp .Add (.ref l) (.ref b)) Q E (st s h tk) :=
  add_lists (s := st s h tk) F N ⟨_, N.get hl, rfl, n, rfl⟩ ⟨_, N.get hb, rfl, n2, rfl⟩ (fun h' F' N' => h1 h' _ F' N' fun p hp => Heap.lt_size (N p hp).1) hz
theorem cntS {ys : List Str} {k : Str} {t : Tok} (N : News g L h news) (hl : (l, lst its n) ∈ news) (hi : StrsAre its ys) (h1 : ∀ t tk', Q (.int (ys.count k : Nat) t) (st s h tk')) : wpAny (model prog w) A (call (.builtin "list.count") [.ref l, .str k t]) Q E (st s h tk) := by
  refine call_meets (s := st s h tk) PySem.F.slot_list_count ⟨_, N.get hl, rfl⟩ PySem.F.entry_list_count (PySem.F.args_list_count_2 _ _) (SeqAt.list_countAt l its.toArray n none #[] (.str k t) (isStrOf k)) ⟨N.get hl, fun y hy => (eq_isStrOf k t hi y (by simpa using hy)).at _ _, ?_⟩
  rw [show its.toArray.toList = its from rfl, strs_count hi]
  exact h1 _ (tk + 1)
theorem idxS {ys : List Str} {k : Str} {t : Tok} {j : Nat} (N : News g L h news) (hl : (l, lst its n) ∈ news) (hi : StrsAre its ys) (hj : ys[j]? = some k) (hno : ∀ i, i < j → ys[i]? ≠ some k) (hz : j < 1000)
    (h1 : ∀ t tk', Q (.int (j : Nat) t) (st s h tk')) : wpAny (model prog w) A (call (.builtin "list.index") [.ref l, .str k t]) Q E (st s h tk) := by
  obtain ⟨tj, hvj⟩ := strs_get hi j k hj
  obtain ⟨hjl, hvj⟩ := List.getElem?_eq_some_iff.mp hvj
  refine call_meets (s := st s h tk) PySem.F.slot_list_index ⟨_, N.get hl, rfl⟩ PySem.F.entry_list_index (PySem.F.args_list_index_2 _ _)
    (MeetsSeq.list_index l its.toArray n (.str k t) (isStrOf k) (fun y hy => eq_isStrOf k t hi y (by simpa using hy)) j (by simpa using hjl) (by omega) (by simp only [List.getElem_toArray]; rw [hvj]; exact isStrOf_self k tj) ?_) ⟨N.get hl, h1 _ (tk + 1)⟩
  intro i hi' hij
  have hil : i < its.length := by simpa using hi'
  have hyl : i < ys.length := strs_len hi ▸ hil
  obtain ⟨ti, hvi⟩ := strs_get hi i ys[i] (List.getElem?_eq_getElem hyl)
  obtain ⟨_, hvi⟩ := List.getElem?_eq_some_iff.mp hvi
  simp only [List.getElem_toArray]
  rw [hvi]
  have := hno i hij
  rw [List.getElem?_eq_getElem hyl] at this
  show (ys[i] == k) = false
  exact beq_eq_false_iff_ne.mpr fun e => this (by rw [e])
theorem all_true {k : Nat} : (List.range k).all (fun _ => true) = true := by simp
/-- two lists of the same texts -/
theorem strs_eqAt {A : Around} {s : Shared} : ∀ {vs ws : List Value} {ys : List Str}, StrsAre vs ys → StrsAre ws ys → ∀ j (h1 : j < vs.length) (h2 : j < ws.length), SeqAt.EqAt A s vs[j] ws[j] true
  | _, _, _, .nil, _, _, h1, _ => nomatch h1
  | _, _, _, .cons y t r, .cons _ u r', 0, _, _ => by have := SeqAt.EqAt.str_str (A := A) (s := s) y t y u; rw [beq_self_eq_true] at this; exact this
  | _, _, _, .cons _ _ r, .cons _ _ r', j + 1, h1, h2 => strs_eqAt r r' j (by simpa using h1) (by simpa using h2)
theorem ne_same {ys : List Str} (N : News g L h news) (hl : (l, lst its n) ∈ news) (hb : (b, lst its2 n2) ∈ news) (hi : StrsAre its ys) (hj : StrsAre its2 ys) (hu : A.units < cLine) (h1 : Q (.bool false) (st s h tk)) :
    wpAny (model prog w) A (compareOp .NotEq (.ref l) (.ref b)) Q E (st s h tk) := by
  have z := SeqAt.RcNeAt.lists (A := A) (s := st s h tk) (l := l) (b := b) (items := its.toArray) (items2 := its2.toArray) (e := fun _ => true) ⟨_, N.get hl, rfl, n, rfl⟩ ⟨_, N.get hb, rfl, n2, rfl⟩ (by simp [strs_len hi, strs_len hj]) hu
    (fun j h1 h2 => by simp only [List.getElem_toArray]; exact strs_eqAt hi hj j (by simpa using h1) (by simpa using h2)) prog w E Q
  rw [all_true] at z
  exact z h1
theorem eq_nil (N : News g L h news) (hl : (l, lst its n) ∈ news) (hb : (b, lst [] n2) ∈ news) (hu : A.units < cLine) (h1 : Q (.bool its.isEmpty) (st s h tk)) :
    wpAny (model prog w) A (compareOp .Eq (.ref l) (.ref b)) Q E (st s h tk) := by
  cases its with
  | nil => exact SeqAt.RcAt.lists (A := A) (s := st s h tk) (l := l) (b := b) (items := #[]) (items2 := #[]) (e := fun _ => true) ⟨_, N.get hl, rfl, n, rfl⟩ ⟨_, N.get hb, rfl, n2, rfl⟩ rfl hu (fun j h1 h2 => nomatch h1) prog w E Q h1
  | cons x r => exact SeqAt.RcAt.lists_lengths (A := A) (s := st s h tk) (l := l) (b := b) (items := (x :: r).toArray) (items2 := #[]) ⟨_, N.get hl, rfl, n, rfl⟩ ⟨_, N.get hb, rfl, n2, rfl⟩ (by simp) hu prog w E Q h1
end
section
variable {prog : Program} {w : World} {A : Around} {E : Value → Shared → Prop} {s : Shared} {h : Heap} {tk : Nat} {g : Heap} {L : Addr} {m : Str → Option Value} {news rest : List (Addr × Obj)} {env : Env} {l b : Addr} {its its2 : List Value} {n n2 : Nat} {Q : Value → Shared → Prop}
theorem slc {lower upper step : Option Expr} {p : Pos}
    (h1 : wpAny (model prog w) A (evalPart lower env) (fun l s₁ => wpAny (model prog w) A (evalPart upper env) (fun u s₂ => wpAny (model prog w) A (evalPart step env) (fun st s₃ =>
      Q (.ref s₃.heap.objs.size) { s₃ with heap := s₃.heap.push { cls := .type "slice", data := .fields #[l, u, st] } }) E s₂) E s₁) E (st s h tk)) :
    wpAny (model prog w) A (eval (.Slice lower upper step p) env) Q E (st s h tk) := wpAny_Slice h1
theorem ep_none {s : Shared} (h1 : Q .none s) : wpAny (model prog w) A (evalPart none env) Q E s := wpAny_pure h1
theorem ep_some {s : Shared} {e : Expr} (h1 : wpAny (model prog w) A (eval e env) Q E s) : wpAny (model prog w) A (evalPart (some e) env) Q E s := h1
theorem sliceL {value slice : Expr} {vl vu vk : Value} {lo hi stp : Option Int} {ops : List Value} (F : Fr g L h m) (N : News g L h news) (hl : (l, lst its n) ∈ news) (pl : IsPart vl lo) (pu : IsPart vu hi) (pk : IsPart vk stp) (h0 : stp ≠ some 0) (hz : its.length ≤ sizeLine)
    (hs : subscripted slice false (.ref l) (.ref (st s h tk).heap.objs.size) = operate ops (getItem (.ref l) (.ref (st s h tk).heap.objs.size))) (ht : ∀ r, letTemporaryGo value (.ref l) r = pure ())
    (h1 : ∀ h' l', Fr g L h' m → News g L h' ((l', lst (slicePick its.toArray lo hi stp).toList 0) :: news) → (∀ p ∈ news, p.1 < l') → Q (.ref l') (st s h' tk)) :
    wpAny (model prog w) A (subscriptTail value slice (.ref l) (.ref (st s h tk).heap.objs.size)) Q E { st s h tk with heap := (st s h tk).heap.push { cls := .type "slice", data := .fields #[vl, vu, vk] } } :=
  kmk_slice3_lit (s := st s h tk) F N ⟨_, N.get hl, rfl, n, rfl⟩ pl pu pk h0 rfl (fun D h' F' N' l1 => h1 h' D F' N' l1) hs ht (by simpa using hz)
theorem asgT {elts : List Expr} {k : Nat} {tpos pos : Pos} {value : Expr} {Q : Flow → Shared → Prop}
    (h1 : wpAny (model prog w) A (eval value env) (fun v s₁ => wpAny (model prog w) A (assign (.Tuple elts k tpos) env v) (fun _ => Q .next) E s₁) E (st s h tk))
    (hs : swapsWithSole [.Tuple elts k tpos] value pos.line env = pure false) (hw : swappedStores [.Tuple elts k tpos] value env = pure none) :
    wpAny (model prog w) A (exec (.Assign [.Tuple elts k tpos] value pos) env) Q E (st s h tk) := Assign_Tuple h1 hs hw
theorem unpk {x y : Str} {px py tpos : Pos} {k : Nat} {vx vy : Value} {Q : Unit → Shared → Prop} (F : Fr g L h m) (N : News g L h news) (hl : (l, tupO [vx, vy] n) ∈ news) (hh : A.handled = none)
    (h1 : ∀ h', Fr g L h' m → News g L h' news → wpAny (model prog w) A (storeName env x vx) (fun _ s₁ => wpAny (model prog w) A (storeName env y vy) Q E s₁) E (st s h' tk)) :
    wpAny (model prog w) A (assign (.Tuple [.Name x px, .Name y py] k tpos) env (.ref l)) Q E (st s h tk) := by
  refine unpackN_ (s := st s h tk) (items := #[vx, vy]) F N ⟨_, N.get hl, rfl, n, rfl⟩ hh rfl rfl fun h' F' N' => ?_
  refine assignInOrder_cons ?_
  refine wpAny_assign_Name (wpAny_mono (h1 h' F' N') (fun _ s₁ z => ?_) fun _ _ z => z)
  refine assignInOrder_cons ?_
  exact wpAny_assign_Name (wpAny_mono z (fun _ s₂ y => assignInOrder_nil y) fun _ _ z => z)
/-- a pair among the pairs of a list -/
theorem notInT {a c : Int} {ta tc : Tok} {q : Addr} {nq : Nat} (e : Value → Bool) (N : News g L h news) (hl : (l, lst its n) ∈ news) (hq : (q, tupO [.int a ta, .int c tc] nq) ∈ news) (hu : A.units < cLine - 1)
    (he : ∀ v ∈ its, ∃ r x y t u k, v = .ref r ∧ r ≠ q ∧ (r, tupO [.int x t, .int y u] k) ∈ news ∧ e v = (x == a && y == c)) (h1 : Q (.bool (!its.any e)) (st s h tk)) :
    wpAny (model prog w) A (compareOp .NotIn (.ref q) (.ref l)) Q E (st s h tk) := by
  refine SeqAt.notIn_listAt (s := st s h tk) (items := its.toArray) e ⟨_, N.get hl, rfl, n, rfl⟩ (fun v hv => ?_) (by simpa using h1)
  obtain ⟨r, x, y, t, u, k, rfl, hrq, hr, ev⟩ := he v (by simpa using hv)
  have z := SeqAt.RcAt.tuples (A := A.in1) (s := st s h tk) (l := r) (b := q) (items := #[.int x t, .int y u]) (items2 := #[.int a ta, .int c tc]) (e := fun j => if j = 0 then x == a else y == c) ⟨_, N.get hr, rfl, k, rfl⟩ ⟨_, N.get hq, rfl, nq, rfl⟩ (by show A.units + 1 < cLine; omega) (fun j h1 h2 => by
    have h1' : j < 2 := h1
    rcases (show j = 0 ∨ j = 1 by omega) with rfl | rfl
    · exact SeqAt.EqAt.int_int x t a ta
    · exact SeqAt.EqAt.int_int y u c tc)
  refine SeqAt.EqAt.of_refs hrq ?_
  have e2 : ((List.range (min #[Value.int x t, Value.int y u].size #[Value.int a ta, Value.int c tc].size)).all (fun j => if j = 0 then x == a else y == c) && #[Value.int x t, Value.int y u].size == #[Value.int a ta, Value.int c tc].size) = (x == a && y == c) := by
    show ((List.range 2).all (fun j => if j = 0 then x == a else y == c) && true) = _
    simp [List.range_succ]
  rw [ev, ← e2]
  exact z
end
def PairIn (news : List (Addr × Obj)) (v : Value) : Prop := ∃ a r k t1 t2 n, v = .ref a ∧ (a, tupO [.int r t1, .int k t2] n) ∈ news

theorem swap_perm {l : List Value} {i j : Nat} {x : Value} (hi : i < l.length) (hj : j < l.length) (hne : i ≠ j) : ((l.set i l[j]).set j x).Perm (l.set i x) := by
  rw [List.perm_iff_count]
  intro a
  have h2 : j < (l.set i l[j]).length := by simpa using hj
  rw [List.count_set (h := h2), List.count_set (h := hi), List.count_set (h := hi), List.getElem_set_ne hne]
  have h3 : (if (l[i] == a) = true then 1 else 0) ≤ List.count a l := by
    split
    · rename_i q
      exact List.count_pos_iff.mpr ((beq_iff_eq.mp q) ▸ List.getElem_mem hi)
    · omega
  omega
local macro_rules | `(tactic| walk_at "lk") => `(tactic| first | with_reducible assumption | with_reducible exact up_eq | (with_reducible refine Eq.trans (up_skip (by decide +kernel)) ?_; walk_at "lk") | ((fail_if_success (with_reducible show up _ _ _ _ = _)); with_unfolding_all rfl))
local macro_rules | `(tactic| walk_at "mm") => `(tactic| first | assumption | exact List.Mem.head _ | (refine List.Mem.tail _ ?_; walk_at "mm"))
local macro_rules | `(tactic| walk_at "pm") => `(tactic| (intro p hp; (repeat' (rcases List.mem_cons.mp hp with hp | hp)) <;> first | (subst hp; walk_at "mm") | walk_at "mm"))
local macro_rules | `(tactic| walk_at "Z") => `(tactic| first
  | with_reducible refine xc ?_
  | with_reducible refine nx_next ?_
  | with_reducible refine nx_ret ?_
  | with_reducible refine nx_brk ?_
  | with_reducible refine nx_cont ?_
  | with_reducible refine wpAny_execs_nil ?_
  | (with_reducible refine wpAny_Assign_Name ?_ ?hs; (case hs => with_unfolding_all rfl))
  | (with_reducible refine wpAny_Assign_Subscript ?_ ?hs; (case hs => with_unfolding_all rfl))
  | with_reducible refine Subscript_ ?_
  | with_reducible refine wpAny_BinOp ?_
  | with_reducible refine wpAny_Break ?_
  | with_reducible refine wpAny_Continue ?_
  | with_reducible refine wpAny_Return_some ?_
  | (with_reducible refine wpAny_isTrue_Compare1 ?_ ?hm; (case hm => with_unfolding_all rfl))
  | (with_reducible refine wpAny_Compare1 ?_ ?hm; (case hm => with_unfolding_all rfl))
  | with_reducible refine wpAny_isTrue_BoolOp ?_
  | with_reducible refine atA ?_
  | with_reducible refine atO ?_
  | with_reducible refine wpAny_allTrue_And_nil ?_
  | with_reducible refine wpAny_allTrue_Or_nil ?_
  | with_reducible refine wpAny_isTrue_Not ?_
  | with_reducible refine wpAny_truthy_bool ?_
  | ((with_reducible show wpAny _ _ (PySem.isTrue (Expr.Name _ _) _ _) _ _ _); refine wpAny_isTrue_value ?_ (by with_unfolding_all rfl))
  | ((with_reducible show wpAny _ _ (PySem.isTrue (Expr.Constant _ _ _) _ _) _ _ _); refine wpAny_isTrue_value ?_ (by with_unfolding_all rfl))
  | (with_reducible refine wpAny_Constant_bool ?_)
  | (with_reducible refine wpAny_Constant_none ?_)
  | ((with_reducible show wpAny _ _ (PySem.isTrue (Expr.BinOp _ _ _ _) _ _) _ _ _); refine wpAny_isTrue_value ?_ (by with_unfolding_all rfl))
  | ((with_reducible show wpAny _ _ (eval (Expr.Name _ _) _) _ _ _); first
    | refine nl (by assumption) (by walk_at "lk") (by kernel_rfl) ?_
    | refine' nlc (by assumption) (by walk_at "mm") (by assumption) (by assumption) (by kernel_rfl) ?_
    | (refine' nc (by assumption) (by with_unfolding_all rfl) (by walk_at "mm") (by assumption) ?_ ?hx ?hd; (case hx => kernel_rfl); (case hd => decide +kernel))
    | (refine' nk (by assumption) (by assumption) (by assumption) ?e ?_ rfl ?hx ?hd; (case e => k_is); (case hx => kernel_rfl); (case hd => decide +kernel))
    | (refine' nb (by assumption) (by assumption) (by assumption) ?e ?hv ?hn ?_ rfl ?hx ?hd; (case e => k_is); (case hv => boot_by_name); (case hn => decide +kernel); (case hx => kernel_rfl); (case hd => decide +kernel))
    | (refine' nkE (by assumption) (by assumption) (by assumption) ?e ?_ ?hx ?hd; (case e => k_is); (case hx => kernel_rfl); (case hd => decide +kernel))
    | (refine' nbE (by assumption) (by assumption) (by assumption) ?e ?hv ?hn ?_ ?hx ?hd; (case e => k_is); (case hv => boot_by_name); (case hn => decide +kernel); (case hx => kernel_rfl); (case hd => decide +kernel)))
  | (with_reducible refine ci ?_; intro t tk)
  | (with_reducible refine cs ?_; intro t tk)
  | (with_reducible refine b_sub ?_; intro t tk)
  | (with_reducible refine b_add ?_; intro t tk)
  | (with_reducible refine b_div (by decide) (by decide) ?_; intro t tk)
  | (with_reducible refine b_mod (by decide) ?_; intro t tk)
  | (with_reducible refine b_mul ?_ (IntMulOk.of_left (by decide +kernel)); intro t tk)
  | (with_reducible refine b_and ?_; intro t tk)
  | (with_reducible refine i_xor ?_; intro t tk)
  | (with_reducible refine t_int ?_)
  | (with_reducible refine wpAny_AugAssign_Name ?_)
  | ((with_reducible show wpAny _ _ (loadName _ _) _ _ _); refine ll (by assumption) (by walk_at "lk") (by kernel_rfl) ?_)
  | (with_reducible refine GM.join ?_)
  | (with_reducible refine GM.split ?_)
  | (with_reducible refine c_gt ?_)
  | (with_reducible refine c_lt ?_)
  | (with_reducible refine b_rsh (by decide) ?_; intro t tk)
  | ((with_reducible show wpAny _ _ (eval (Expr.Call (Expr.Attribute _ _ _) _ [] _) _) _ _ _); refine' MethodCall_ ?_ ?he; rotate_left; (case he => with_unfolding_all rfl))
  | ((with_reducible show wpAny _ _ (eval (Expr.Call (Expr.Name _ _) _ [] _) _) _ _ _); (with_reducible refine Call_ ?_ ?he); (case he => with_unfolding_all rfl))
  | ((with_reducible show wpAny _ _ (callWith _ (Value.builtin _) _ _ _) _ _ _); (with_reducible refine PyProof.Rows.callWith_builtin1 ?_ ?he ?hp); (case he => with_unfolding_all rfl); (case hp => with_unfolding_all rfl))
  | ((with_reducible show wpAny _ _ (callWith _ (Value.type _) _ _ _) _ _ _); (with_reducible refine PyProof.Rows.callWith_type1 ?_ ?he ?hp); (case he => with_unfolding_all rfl); (case hp => with_unfolding_all rfl))
  | (with_reducible refine callWith_method0 ?_)
  | ((with_reducible show wpAny _ _ (callWith _ (Value.builtin _) (_ :: _) _ _) _ _ _); (with_reducible refine callWith_method1 ?_ ?he ?hp); (case he => with_unfolding_all rfl); (case hp => with_unfolding_all rfl))
  | ((with_reducible show wpAny _ _ (callWith _ (Value.ref _) _ _ _) _ _ _); refine' callWith_K (by assumption) ?hk ?_ ?he ?hp; (case hk => k_is); (case he => with_unfolding_all rfl); (case hp => with_unfolding_all rfl))
  | (with_reducible refine args_nil ?_)
  | (with_reducible refine args_cons ?_ ?he; (case he => with_unfolding_all rfl))
  | ((with_reducible show Frag.In _ _ ∧ _); refine kin (by assumption) (by assumption) ?_)
  | (with_reducible refine ex_call ?_ ?h2 ?h3; (case h2 => with_unfolding_all rfl); (case h3 => with_unfolding_all rfl))
  | (with_reducible refine dr_none ?_)
  | (with_reducible refine slc ?_)
  | (with_reducible refine ep_none ?_)
  | (with_reducible refine ep_some ?_)
  | (with_reducible refine asgT ?_ ?hs ?hw; (case hs => with_unfolding_all rfl); (case hw => with_unfolding_all rfl))
  | (with_reducible refine Tuple_ ?_)
  | (with_reducible refine List_ ?_))
local macro_rules | `(tactic| walk_at "S") => `(tactic| first
  | walk_at "Z"
  | ((with_reducible show wpAny _ _ (storeName _ _ _) _ _ _); refine sl (by assumption) (by assumption) (by kernel_rfl) ?_; intro h tk F N))
set_option maxRecDepth 100000 in
set_option maxHeartbeats 8000000 in
theorem siftdown_call {w : World} {mean : ExcName → Option Value} {mg mb : Str → Option Value} {dp un : Nat} {gd : Option (List Code)} {cn : Str} {cs : Scope} {a : Addr} {ccd : Value} {cl : List (Str × Addr)} {outer : List Env} {A₀ : Around} {base h₀ : Heap} {L : Addr} {m : Str → Option Value} {l : Addr} {its : List Value} {n : Nat} {rest : List (Addr × Obj)} {sp pos : Nat} {t1 t2 : Tok} {s : Shared} {h : Heap} {tk : Nat} {Q E : Value → Shared → Prop}
  (B : Below A₀ base outer h₀) (F : Fr h₀ L h m) (X : (Mine.hd.heap_39 w.params).In h₀) (T : Top PV LO mean mg mb h₀)
  (N : News h₀ L h ((l, lst its n) :: rest)) (hoff : ∀ p ∈ rest, p.1 ≠ l) (hit : ∀ v ∈ its, PairIn rest v) (hk : cs.kind = .function) (hpos : pos < its.length) (hlen : its.length ≤ 1000)
  (hd : dp + 3 < recursionLimit) (hu : un + 100 < cLine)
  (ret : ∀ (its' : List Value) h' tk', its'.Perm its → Fr h₀ L h' m → News h₀ L h' ((l, lst its' n) :: rest) → Q .none (st s h' tk')) :
  wpAny (model Challenge.rw_op0026_01.row.prog w) (ktrTop dp un gd cn cs L a ccd cl outer) (call (.ref 57) [.ref l, .int sp t1, .int pos t2]) Q E (st s h tk) := by
  revert X; k_fill; intro X
  refine' enter [(Str.ofString "heap", .ref l), (Str.ofString "startpos", .int sp t1), (Str.ofString "pos", .int pos t2)] B F X N T hk ?k6 ?k7 (by omega) (BindsTo.of_eq ?k9) (locs ?kB) ?_ ?c2 ?c3 ?c4 ?c5
  case k6 => k_is
  case k7 => k_is
  case k9 => rfl
  case kB => kernel_rfl
  case c2 => rfl
  case c3 => rfl
  case c4 => rfl
  case c5 => decide
  clear F N B X T
  intro g L' h tk F N B X T hlt
  obtain ⟨newi, hnew⟩ : ∃ v, its[((pos : Int)).toNat]? = some v := ⟨_, List.getElem?_eq_getElem (by simpa using hpos)⟩
  iterate 5 walk_at "S"
  refine gi N (.head _) (by omega) (by omega) hnew ?_
  iterate 2 walk_at "S"
  refine sq (fun s' => ∃ h tk m its' p t, s' = st s h tk ∧ Fr g L' h m ∧ News g L' h ((l, lst its' n) :: rest) ∧ m (Str.ofString "heap") = some (.ref l) ∧ m (Str.ofString "pos") = some (.int (p : Nat) t) ∧ m (Str.ofString "newitem") = some newi ∧
    its'.length = its.length ∧ p < its'.length ∧ (its'.set p newi).Perm its) ?_ ?_
  · refine while_ (fun k s' => ∃ h tk m its' p t, s' = st s h tk ∧ k = p ∧ Fr g L' h m ∧ News g L' h ((l, lst its' n) :: rest) ∧ m (Str.ofString "heap") = some (.ref l) ∧ m (Str.ofString "startpos") = some (.int sp t1) ∧ m (Str.ofString "pos") = some (.int (p : Nat) t) ∧ m (Str.ofString "newitem") = some newi ∧
      its'.length = its.length ∧ p < its'.length ∧ (its'.set p newi).Perm its ∧ (∀ v ∈ its', PairIn rest v)) pos ?_ ?_
    · refine ⟨_, _, _, its, pos, t2, rfl, rfl, (by assumption), (by assumption), (by walk_at "lk"), (by walk_at "lk"), (by walk_at "lk"), (by walk_at "lk"), rfl, hpos, ?_, hit⟩
      obtain ⟨hp, e⟩ := List.getElem?_eq_some_iff.mp (show its[pos]? = some newi by simpa using hnew)
      rw [← e, List.set_getElem_self]
    · have hnp : PairIn rest newi := hit _ (List.mem_of_getElem? hnew)
      clear hnew hit
      rename_i F0 N0
      clear F0 N0 F N
      rintro k s' ⟨h, tk, m', its', p, t, rfl, rfl, F, N, q1, q2, q3, q4, hl', hp', hperm, hit⟩
      iterate 5 walk_at "S"
      refine ib (fun hlt => ?_) (fun hlt => ?_)
      · have hlt : sp < k := by simpa using hlt
        obtain ⟨pp, hpp, hlp⟩ : ∃ pp : Nat, ((k : Int) - 1).fdiv (2 ^ (1 : Int).toNat) = (pp : Int) ∧ pp < k := ⟨((k : Int) - 1).toNat / 2, by
          rw [Int.fdiv_eq_ediv_of_nonneg _ (by decide)]; show ((k : Int) - 1) / 2 = _; omega, by omega⟩
        repeat walk_at "S"
        rw [hpp]
        have hx : its'[((pp : Nat) : Int).toNat]? = some its'[pp] := by simp
        obtain ⟨b1, r1, k1, u1, u2, nn1, e1, hm1⟩ := hit its'[pp] (List.getElem_mem (by omega))
        obtain ⟨b2, r2, k2, v1, v2, nn2, e2, hm2⟩ := hnp
        subst e2
        rw [e1] at hx
        refine gi (by assumption) (.head _) (by omega) (by omega) hx ?_
        repeat walk_at "S"
        refine if_ ?_
        repeat walk_at "S"
        refine c_ltT (by assumption) (.tail _ hm2) (.tail _ hm1) (by show un + 3 < cLine; omega) ?_
        intro r
        repeat walk_at "S"
        refine ib (fun _ => ?_) (fun _ => ?_)
        · repeat walk_at "S"
          refine setAt (by assumption) (by assumption) hoff (by omega) (by omega) (by omega) ?_
          intro h F N
          repeat walk_at "S"
          refine wl_cont pp hlp ⟨_, _, _, _, pp, _, rfl, rfl, (by assumption), (by assumption), (by walk_at "lk"), (by walk_at "lk"), (by rw [← hpp]; walk_at "lk"), (by walk_at "lk"), ?_, ?_, ?_, ?_⟩
          · simpa using hl'
          · simp; omega
          · refine List.Perm.trans ?_ hperm
            have e3 : (k : Int).toNat = k := by simp
            rw [e3, ← e1]
            exact swap_perm hp' (by omega) (by omega)
          · intro v hv
            rcases List.mem_or_eq_of_mem_set hv with q | q
            · exact hit v q
            · exact q ▸ e1 ▸ hit _ (List.getElem_mem (by omega))
        · repeat walk_at "S"
          exact wl_brk ⟨rfl, _, _, _, its', k, t, rfl, (by assumption), (by assumption), (by walk_at "lk"), (by walk_at "lk"), (by walk_at "lk"), hl', hp', hperm⟩
      · repeat walk_at "S"
        exact ⟨rfl, _, _, _, its', k, t, rfl, (by assumption), (by assumption), q1, q3, q4, hl', hp', hperm⟩
  · rename_i F0 N0
    clear F0 N0 F N
    rintro s' ⟨h, tk, m', its', p, t, rfl, F, N, q1, q3, q4, hl', hp', hperm⟩
    repeat walk_at "S"
    refine setAt (by assumption) (by assumption) hoff (by omega) (by omega) (by omega) ?_
    intro h F N
    repeat walk_at "S"
    refine ⟨_, _, _, _, rfl, (by assumption), (by assumption), fun F N => ret _ _ _ ?_ F N⟩
    simpa using hperm
set_option maxRecDepth 100000 in
set_option maxHeartbeats 8000000 in
theorem siftup_call {w : World} {mean : ExcName → Option Value} {mg mb : Str → Option Value} {dp un : Nat} {gd : Option (List Code)} {cn : Str} {cs : Scope} {a : Addr} {ccd : Value} {cl : List (Str × Addr)} {outer : List Env} {A₀ : Around} {base h₀ : Heap} {L : Addr} {m : Str → Option Value} {l : Addr} {its : List Value} {n : Nat} {rest : List (Addr × Obj)} {pos : Nat} {t2 : Tok} {s : Shared} {h : Heap} {tk : Nat} {Q E : Value → Shared → Prop}
  (B : Below A₀ base outer h₀) (F : Fr h₀ L h m) (X : (Mine.hd.heap_39 w.params).In h₀) (T : Top PV LO mean mg mb h₀)
  (N : News h₀ L h ((l, lst its n) :: rest)) (hoff : ∀ p ∈ rest, p.1 ≠ l) (hit : ∀ v ∈ its, PairIn rest v) (hk : cs.kind = .function) (hpos : pos < its.length) (hlen : its.length ≤ 1000)
  (hd : dp + 5 < recursionLimit) (hu : un + 200 < cLine)
  (ret : ∀ (its' : List Value) h' tk', its'.Perm its → Fr h₀ L h' m → News h₀ L h' ((l, lst its' n) :: rest) → Q .none (st s h' tk')) :
  wpAny (model Challenge.rw_op0026_01.row.prog w) (ktrTop dp un gd cn cs L a ccd cl outer) (call (.ref 64) [.ref l, .int pos t2]) Q E (st s h tk) := by
  revert X; k_fill; intro X
  refine' enter [(Str.ofString "heap", .ref l), (Str.ofString "pos", .int pos t2)] B F X N T hk ?k6 ?k7 (by omega) (BindsTo.of_eq ?k9) (locs ?kB) ?_ ?c2 ?c3 ?c4 ?c5
  case k6 => k_is
  case k7 => k_is
  case k9 => rfl
  case kB => kernel_rfl
  case c2 => rfl
  case c3 => rfl
  case c4 => rfl
  case c5 => decide
  clear F N B X T
  intro g L' h tk F N B X T hlt
  obtain ⟨newi, hnew⟩ : ∃ v, its[((pos : Int)).toNat]? = some v := ⟨_, List.getElem?_eq_getElem (by simpa using hpos)⟩
  repeat walk_at "S"
  refine len_ N (.head _) (by omega) ?_
  intro te tk
  repeat walk_at "S"
  refine gi (by assumption) (.head _) (by omega) (by omega) hnew ?_
  repeat walk_at "S"
  refine sqx (fun s' => ∃ h tk m its' p t, s' = st s h tk ∧ Fr g L' h m ∧ News g L' h ((l, lst its' n) :: rest) ∧ m (Str.ofString "heap") = some (.ref l) ∧ m (Str.ofString "startpos") = some (.int pos t2) ∧ m (Str.ofString "pos") = some (.int (p : Nat) t) ∧ m (Str.ofString "newitem") = some newi ∧
    its'.length = its.length ∧ p < its'.length ∧ (its'.set p newi).Perm its ∧ (∀ v ∈ its', PairIn rest v)) ?_ ?_
  · refine while_ (fun k s' => ∃ h tk m its' p t tc, s' = st s h tk ∧ k = its.length - p ∧ Fr g L' h m ∧ News g L' h ((l, lst its' n) :: rest) ∧ m (Str.ofString "heap") = some (.ref l) ∧ m (Str.ofString "startpos") = some (.int pos t2) ∧ m (Str.ofString "endpos") = some (.int its.length te) ∧ m (Str.ofString "pos") = some (.int (p : Nat) t) ∧
      m (Str.ofString "childpos") = some (.int (2 * (p : Int) + 1) tc) ∧ m (Str.ofString "newitem") = some newi ∧
      its'.length = its.length ∧ p < its'.length ∧ (its'.set p newi).Perm its ∧ (∀ v ∈ its', PairIn rest v)) (its.length - pos) ?_ ?_
    · refine ⟨_, _, _, its, pos, t2, _, rfl, rfl, (by assumption), (by assumption), (by walk_at "lk"), (by walk_at "lk"), (by walk_at "lk"), (by walk_at "lk"), (by walk_at "lk"), (by walk_at "lk"), rfl, hpos, ?_, hit⟩
      obtain ⟨hp, e⟩ := List.getElem?_eq_some_iff.mp (show its[pos]? = some newi by simpa using hnew)
      rw [← e, List.set_getElem_self]
    · rintro k s' ⟨h, tk, m', its', p, t, tc, rfl, rfl, F, N, q1, q2, q2', q3, q3', q4, hl', hp', hperm, hit⟩
      repeat walk_at "S"
      refine ib (fun hlt => ?_) (fun hlt => ?_)
      · have hlt : 2 * p + 1 < its.length := by have := of_decide_eq_true hlt; omega
        repeat walk_at "S"
        refine sqx (fun s' => ∃ h tk m c tc, s' = st s h tk ∧ Fr g L' h m ∧ News g L' h ((l, lst its' n) :: rest) ∧ m (Str.ofString "heap") = some (.ref l) ∧ m (Str.ofString "startpos") = some (.int pos t2) ∧ m (Str.ofString "endpos") = some (.int its.length te) ∧ m (Str.ofString "pos") = some (.int (p : Nat) t) ∧
          m (Str.ofString "childpos") = some (.int (c : Nat) tc) ∧ m (Str.ofString "newitem") = some newi ∧ p < c ∧ c < its.length) ?_ ?_
        · refine if_ ?_
          repeat walk_at "S"
          have hx1 : its'[((2 * (p : Int) + 1)).toNat]? = some its'[2 * p + 1] := by
            have : (2 * (p : Int) + 1).toNat = 2 * p + 1 := by omega
            rw [this]; simp
          obtain ⟨b1, r1, k1, u1, u2, nn1, e1, hm1⟩ := hit its'[2 * p + 1] (List.getElem_mem (by omega))
          rw [e1] at hx1
          refine ib (fun hr => ?_) (fun hr => ?_)
          · have hr : 2 * p + 2 < its.length := by have := of_decide_eq_true hr; omega
            have hx2 : its'[((2 * (p : Int) + 1 + 1)).toNat]? = some its'[2 * p + 2] := by
              have : (2 * (p : Int) + 1 + 1).toNat = 2 * p + 2 := by omega
              rw [this]; simp
            obtain ⟨b2, r2, k2, v1, v2, nn2, e2, hm2⟩ := hit its'[2 * p + 2] (List.getElem_mem (by omega))
            rw [e2] at hx2
            repeat walk_at "S"
            refine gi (by assumption) (.head _) (by omega) (by omega) hx1 ?_
            repeat walk_at "S"
            refine gi (by assumption) (.head _) (by omega) (by omega) hx2 ?_
            repeat walk_at "S"
            refine c_ltT (by assumption) (.tail _ hm1) (.tail _ hm2) (by show un + 3 < cLine; omega) ?_
            intro r
            repeat walk_at "S"
            refine ib (fun _ => ?_) (fun _ => ?_)
            · repeat walk_at "S"
              refine ib_t ?_
              repeat walk_at "S"
              exact ⟨rfl, _, _, _, 2 * p + 2, _, rfl, (by assumption), (by assumption), (by walk_at "lk"), (by walk_at "lk"), (by walk_at "lk"), (by walk_at "lk"), (by rw [show ((2 * p + 2 : Nat) : Int) = 2 * (p : Int) + 1 + 1 by omega]; walk_at "lk"), (by walk_at "lk"), by omega, by omega⟩
            · refine ib_f ?_
              repeat walk_at "S"
              exact ⟨rfl, _, _, _, 2 * p + 1, _, rfl, (by assumption), (by assumption), (by walk_at "lk"), (by walk_at "lk"), (by walk_at "lk"), (by walk_at "lk"), (by rw [show ((2 * p + 1 : Nat) : Int) = 2 * (p : Int) + 1 by omega]; walk_at "lk"), (by walk_at "lk"), by omega, by omega⟩
          · refine ib_f ?_
            repeat walk_at "S"
            exact ⟨rfl, _, _, _, 2 * p + 1, _, rfl, (by assumption), (by assumption), (by walk_at "lk"), (by walk_at "lk"), (by walk_at "lk"), (by walk_at "lk"), (by rw [show ((2 * p + 1 : Nat) : Int) = 2 * (p : Int) + 1 by omega]; walk_at "lk"), (by walk_at "lk"), by omega, by omega⟩
        · rintro s' ⟨h, tk, m, c, tc, rfl, F, N, q1, q2, q2', q3, q3', q4, hpc, hcl⟩
          have hx : its'[((c : Nat) : Int).toNat]? = some its'[c] := by simp
          repeat walk_at "S"
          refine gi (by assumption) (.head _) (by omega) (by omega) hx ?_
          repeat walk_at "S"
          refine setAt (by assumption) (by assumption) hoff (by omega) (by omega) (by omega) ?_
          intro h F N
          repeat walk_at "S"
          refine wl_next (its.length - c) (by omega) ⟨_, _, _, _, c, _, _, rfl, rfl, (by assumption), (by assumption), (by walk_at "lk"), (by walk_at "lk"), (by walk_at "lk"), (by walk_at "lk"), (by walk_at "lk"), (by walk_at "lk"), ?_, ?_, ?_, ?_⟩
          · simpa using hl'
          · simp; omega
          · refine List.Perm.trans ?_ hperm
            have e3 : (p : Int).toNat = p := by simp
            rw [e3]
            exact swap_perm hp' (by omega) (by omega)
          · intro v hv
            rcases List.mem_or_eq_of_mem_set hv with q | q
            · exact hit v q
            · exact q ▸ hit _ (List.getElem_mem (by omega))
      · repeat walk_at "S"
        exact ⟨rfl, _, _, _, its', p, t, rfl, (by assumption), (by assumption), q1, q2, q3, q4, hl', hp', hperm, hit⟩
  · rintro s' ⟨h, tk, m', its', p, t, rfl, F, N, q1, q2, q3, q4, hl', hp', hperm, hit'⟩
    repeat walk_at "S"
    refine setAt (by assumption) (by assumption) hoff (by omega) (by omega) (by omega) ?_
    intro h F N
    repeat walk_at "S"
    refine siftdown_call B F X T N hoff ?_ rfl (by simpa using hp') (by simp; omega) (by show dp + 1 + 3 < _; omega) (by show un + 3 + 100 < _; omega) ?_
    · intro v hv
      rcases List.mem_or_eq_of_mem_set hv with q | q
      · exact hit' v q
      · exact q ▸ hit _ (List.mem_of_getElem? hnew)
    intro its'' h tk hp2 F N
    repeat walk_at "S"
    refine ⟨_, _, _, _, rfl, (by assumption), (by assumption), fun F N => ret _ _ _ ?_ F N⟩
    exact hp2.trans (by simpa using hperm)
theorem PairIn.mono {news : List (Addr × Obj)} {v : Value} {p : Addr × Obj} (x : PairIn news v) : PairIn (p :: news) v := let ⟨a, r, k, t1, t2, n, e, hm⟩ := x; ⟨a, r, k, t1, t2, n, e, .tail _ hm⟩
set_option maxRecDepth 100000 in
set_option maxHeartbeats 8000000 in
theorem push_call {w : World} {mean : ExcName → Option Value} {mg mb : Str → Option Value} {dp un : Nat} {gd : Option (List Code)} {cn : Str} {cs : Scope} {a : Addr} {ccd : Value} {cl : List (Str × Addr)} {outer : List Env} {A₀ : Around} {base h₀ : Heap} {L : Addr} {m : Str → Option Value} {l : Addr} {its : List Value} {n : Nat} {rest : List (Addr × Obj)} {v : Value} {s : Shared} {h : Heap} {tk : Nat} {Q E : Value → Shared → Prop}
  (B : Below A₀ base outer h₀) (F : Fr h₀ L h m) (X : (Mine.hd.heap_39 w.params).In h₀) (T : Top PV LO mean mg mb h₀)
  (N : News h₀ L h ((l, lst its n) :: rest)) (hoff : ∀ p ∈ rest, p.1 ≠ l) (hit : ∀ v ∈ its, PairIn rest v) (hv : PairIn rest v) (hk : cs.kind = .function) (hlen : its.length ≤ 900)
  (hd : dp + 5 < recursionLimit) (hu : un + 200 < cLine)
  (ret : ∀ (its' : List Value) h' tk' n', its'.Perm (its ++ [v]) → Fr h₀ L h' m → News h₀ L h' ((l, lst its' n') :: rest) → Q .none (st s h' tk')) :
  wpAny (model Challenge.rw_op0026_01.row.prog w) (ktrTop dp un gd cn cs L a ccd cl outer) (call (.ref 36) [.ref l, v]) Q E (st s h tk) := by
  revert X; k_fill; intro X
  refine' enter [(Str.ofString "heap", .ref l), (Str.ofString "item", v)] B F X N T hk ?k6 ?k7 (by omega) (BindsTo.of_eq ?k9) (locs ?kB) ?_ ?c2 ?c3 ?c4 ?c5
  case k6 => k_is
  case k7 => k_is
  case k9 => rfl
  case kB => kernel_rfl
  case c2 => rfl
  case c3 => rfl
  case c4 => rfl
  case c5 => decide
  clear F N B X T
  intro g L' h tk F N B X T hlt
  repeat walk_at "S"
  refine gm N (.head _) PySem.F.slot_list_append PySem.F.type_list_append ?_
  repeat walk_at "S"
  refine append_ F N hoff (by rw [sizeLine_eq]; omega) ?_
  intro h n' F N
  repeat walk_at "S"
  refine len_ N (.head _) (by simp; omega) ?_
  intro t tk
  repeat walk_at "S"
  rw [show (((its ++ [v]).length : Nat) : Int) - 1 = ((its.length : Nat) : Int) by simp]
  refine siftdown_call (sp := 0) B F X T N hoff ?_ rfl (by simp) (by simp; omega) (by show dp + 1 + 3 < _; omega) (by show un + 3 + 100 < _; omega) ?_
  · intro x hx
    rcases List.mem_append.mp hx with q | q
    · exact hit x q
    · exact (List.mem_singleton.mp q) ▸ hv
  intro its'' h tk hp2 F N
  repeat walk_at "S"
  exact ⟨_, _, _, _, rfl, F, N, fun F N => ret _ _ _ _ hp2 F N⟩
set_option maxRecDepth 100000 in
set_option maxHeartbeats 8000000 in
theorem heapify_call {w : World} {mean : ExcName → Option Value} {mg mb : Str → Option Value} {dp un : Nat} {gd : Option (List Code)} {cn : Str} {cs : Scope} {a : Addr} {ccd : Value} {cl : List (Str × Addr)} {outer : List Env} {A₀ : Around} {base h₀ : Heap} {L : Addr} {m : Str → Option Value} {l : Addr} {its : List Value} {n : Nat} {rest : List (Addr × Obj)} {s : Shared} {h : Heap} {tk : Nat} {Q E : Value → Shared → Prop}
  (B : Below A₀ base outer h₀) (F : Fr h₀ L h m) (X : (Mine.hd.heap_39 w.params).In h₀) (T : Top PV LO mean mg mb h₀)
  (N : News h₀ L h ((l, lst its n) :: rest)) (hoff : ∀ p ∈ rest, p.1 ≠ l) (hit : ∀ v ∈ its, PairIn rest v) (hk : cs.kind = .function) (hlen : its.length = 4)
  (hd : dp + 7 < recursionLimit) (hu : un + 300 < cLine)
  (ret : ∀ (its' : List Value) h' tk', its'.Perm its → Fr h₀ L h' m → News h₀ L h' ((l, lst its' n) :: rest) → Q .none (st s h' tk')) :
  wpAny (model Challenge.rw_op0026_01.row.prog w) (ktrTop dp un gd cn cs L a ccd cl outer) (call (.ref 50) [.ref l]) Q E (st s h tk) := by
  revert X; k_fill; intro X
  refine' enter [(Str.ofString "x", .ref l)] B F X N T hk ?k6 ?k7 (by omega) (BindsTo.of_eq ?k9) (locs ?kB) ?_ ?c2 ?c3 ?c4 ?c5
  case k6 => k_is
  case k7 => k_is
  case k9 => rfl
  case kB => kernel_rfl
  case c2 => rfl
  case c3 => rfl
  case c4 => rfl
  case c5 => decide
  clear F N B X T
  intro g L' h tk F N B X T hlt
  repeat walk_at "S"
  refine len_ N (.head _) (by omega) ?_
  intro t tk
  rw [hlen]
  repeat walk_at "S"
  refine for_ ?_ (by intro _; with_unfolding_all rfl)
  repeat walk_at "S"
  refine range1 (by assumption) (by assumption) ?_
  intro h tk r t1 t2 F N hoffr
  repeat walk_at "S"
  refine rev2 F N (.head _) ?_
  intro h it F N hoffi
  repeat walk_at "S"
  refine iter_ri N (.head _) ?_
  replace N := news_sub (news' := (it, itR 1 2 (-1)) :: (l, lst its n) :: rest) N fun p hp => by
    rcases List.mem_cons.mp hp with q | q
    · exact q ▸ .head _
    · exact .tail _ (.tail _ q)
  have hoi : ∀ {o : Obj} (p), p ∈ (l, o) :: rest → p.1 ≠ it := fun p hp => by
    rcases List.mem_cons.mp hp with rfl | q
    · exact hoffi (l, lst its n) (.tail _ (.head _))
    · exact hoffi p (.tail _ (.tail _ q))
  have hol : ∀ {o : Obj} (p), p ∈ (it, o) :: rest → p.1 ≠ l := fun p hp => by
    rcases List.mem_cons.mp hp with rfl | q
    · exact (hoffi (l, lst its n) (.tail _ (.head _))).symm
    · exact hoff p q
  refine forR_step F N hoi (by decide) (by kernel_rfl) rfl rfl ?_
  intro h tk ti F N
  repeat walk_at "S"
  refine siftup_call (pos := 1) B F X T (news_swap N) hol (fun v hv => (hit v hv).mono) rfl (by omega) (by omega) (by show dp + 1 + 5 < _; omega) (by show un + 3 + 200 < _; omega) ?_
  intro its1 h tk hp1 F N
  have hl1 := hp1.length_eq
  repeat walk_at "S"
  refine fl_next ?_
  refine forR_step F (news_swap N) hoi (by decide) (by kernel_rfl) rfl rfl ?_
  intro h tk ti F N
  repeat walk_at "S"
  refine siftup_call (pos := 0) B F X T (news_swap N) hol (fun v hv => (hit v (hp1.mem_iff.mp hv)).mono) rfl (by omega) (by omega) (by show dp + 1 + 5 < _; omega) (by show un + 3 + 200 < _; omega) ?_
  intro its2 h tk hp2 F N
  repeat walk_at "S"
  refine fl_next ?_
  refine forR_end rfl (fun _ => rfl) F (news_swap N) hoi (by decide) ?_
  intro h F N
  repeat walk_at "S"
  exact ⟨_, _, _, _, rfl, F, N, fun F N => ret _ _ _ (hp2.trans hp1) F N⟩
set_option maxRecDepth 100000 in
set_option maxHeartbeats 8000000 in
theorem pop_call {w : World} {mean : ExcName → Option Value} {mg mb : Str → Option Value} {dp un : Nat} {gd : Option (List Code)} {cn : Str} {cs : Scope} {a : Addr} {ccd : Value} {cl : List (Str × Addr)} {outer : List Env} {A₀ : Around} {base h₀ : Heap} {L : Addr} {m : Str → Option Value} {l : Addr} {its : List Value} {n : Nat} {rest : List (Addr × Obj)} {s : Shared} {h : Heap} {tk : Nat} {Q E : Value → Shared → Prop}
  (B : Below A₀ base outer h₀) (F : Fr h₀ L h m) (X : (Mine.hd.heap_39 w.params).In h₀) (T : Top PV LO mean mg mb h₀)
  (N : News h₀ L h ((l, lst its n) :: rest)) (hoff : ∀ p ∈ rest, p.1 ≠ l) (hit : ∀ v ∈ its, PairIn rest v) (hk : cs.kind = .function) (hne : its ≠ []) (hlen : its.length ≤ 900)
  (hd : dp + 7 < recursionLimit) (hu : un + 300 < cLine)
  (ret : ∀ v (its' : List Value) h' tk' n', (v :: its').Perm its → Fr h₀ L h' m → News h₀ L h' ((l, lst its' n') :: rest) → Q v (st s h' tk')) :
  wpAny (model Challenge.rw_op0026_01.row.prog w) (ktrTop dp un gd cn cs L a ccd cl outer) (call (.ref 43) [.ref l]) Q E (st s h tk) := by
  revert X; k_fill; intro X
  obtain ⟨its0, last, rfl⟩ : ∃ xs x, its = xs ++ [x] := ⟨its.dropLast, its.getLast hne, (List.dropLast_concat_getLast hne).symm⟩
  refine' enter [(Str.ofString "heap", .ref l)] B F X N T hk ?k6 ?k7 (by omega) (BindsTo.of_eq ?k9) (locs ?kB) ?_ ?c2 ?c3 ?c4 ?c5
  case k6 => k_is
  case k7 => k_is
  case k9 => rfl
  case kB => kernel_rfl
  case c2 => rfl
  case c3 => rfl
  case c4 => rfl
  case c5 => decide
  clear F N B X T
  intro g L' h tk F N B X T hlt
  have hz : its0.length + 1 ≤ 900 := by simpa using hlen
  repeat walk_at "S"
  refine gm N (.head _) PySem.F.slot_list_pop PySem.F.type_list_pop ?_
  repeat walk_at "S"
  refine pop_ F N hoff (by rw [sizeLine_eq]; omega) ?_
  intro h n' F N
  repeat walk_at "S"
  refine if_ ?_
  repeat walk_at "S"
  refine tru_ (by assumption) (.head _) (by omega) ?_
  intro tk
  refine ib (fun hb => ?_) (fun hb => ?_)
  · obtain ⟨v0, r0, rfl⟩ : ∃ v0 r0, its0 = v0 :: r0 := by cases its0 with | nil => simp at hb | cons a b => exact ⟨a, b, rfl⟩
    repeat walk_at "S"
    refine gi (by assumption) (.head _) (by decide) (by decide) (x := v0) rfl ?_
    repeat walk_at "S"
    refine setAt (by assumption) (by assumption) hoff (by decide) (by decide) (by simp) ?_
    intro h F N
    repeat walk_at "S"
    refine siftup_call (pos := 0) B F X T N hoff ?_ rfl (by simp) (by simp at hz ⊢; omega) (by show dp + 1 + 5 < _; omega) (by show un + 3 + 200 < _; omega) ?_
    · intro v hv
      simp only [Int.toNat_zero, List.set_cons_zero, List.mem_cons] at hv
      exact hit v (by simp only [List.cons_append, List.mem_cons, List.mem_append, List.not_mem_nil, or_false]; rcases hv with q | q <;> simp [q])
    intro its1 h tk hp1 F N
    repeat walk_at "S"
    refine ⟨_, _, _, _, rfl, F, N, fun F N => ret _ _ _ _ _ ?_ F N⟩
    refine (List.Perm.cons v0 hp1).trans ?_
    refine List.Perm.cons v0 ?_
    simp only [Int.toNat_zero, List.set_cons_zero]
    exact (List.perm_append_comm (l₁ := [last]) (l₂ := r0))
  · obtain rfl : its0 = [] := by simpa using hb
    repeat walk_at "S"
    exact ⟨_, _, _, _, rfl, (by assumption), (by assumption), fun F N => ret _ _ _ _ _ (List.Perm.refl _) F N⟩
theorem offc {d x : Addr} {o : Obj} {rest : List (Addr × Obj)} (h1 : x ≠ d) (h2 : ∀ p ∈ rest, p.1 ≠ d) : ∀ p ∈ (x, o) :: rest, p.1 ≠ d := fun p hp => by
  rcases List.mem_cons.mp hp with rfl | q
  · exact h1
  · exact h2 p q
def uldR : List Str → List Str → List Str → List Str × List Str
  | [], ts, ms => (ms, ts)
  | x :: r, ts, ms => if x ∈ ts then uldR r (ts.erase x) ms else uldR r ts (ms ++ [x])
def Hd (prog : Program) (w : World) (A : Around) (env : Env) (hs : List ExceptHandler) (Q : Flow → Shared → Prop) (E : Value → Shared → Prop) (e : Value) (s : Shared) : Prop :=
  wpAny (model prog w) A (noteFrame e env) (fun _ s₂ => wpAny (model prog w) A (setFlight e none) (fun _ s₃ => wpAny (model prog w) A (handleBy e env hs) Q E s₃) E s₂) E s
theorem try_ {prog : Program} {w : World} {A : Around} {env : Env} {body orelse : List Stmt} {h₀ : ExceptHandler} {hs : List ExceptHandler} {pos : Pos} {Q : Flow → Shared → Prop} {E : Value → Shared → Prop} {s : Shared}
    (h1 : wpAny (model prog w) A (execs body env) (Nx prog w A env orelse Q E) (Hd prog w A env (h₀ :: hs) Q E) s) : wpAny (model prog w) A (exec (.Try body (h₀ :: hs) orelse [] pos) env) Q E s :=
  wpAny_Try_except (wpAny_mono h1 (fun f _ x => by cases f <;> exact x) fun _ _ x => x)
set_option maxRecDepth 100000 in
set_option maxHeartbeats 8000000 in
theorem uld_call {w : World} {mean : ExcName → Option Value} {mg mb : Str → Option Value} {dp un : Nat} {gd : Option (List Code)} {cn : Str} {cs : Scope} {a : Addr} {ccd : Value} {cl : List (Str × Addr)} {outer : List Env} {A₀ : Around} {base h₀ : Heap} {L : Addr} {m : Str → Option Value} {e b : Addr} {xs ys : List Value} {ss ts : List Str} {n1 n2 : Nat} {rest : List (Addr × Obj)} {s : Shared} {h : Heap} {tk : Nat} {Q E : Value → Shared → Prop}
  (G : Grd A₀ base outer (Mine.hd.heap_39 w.params) PV LO mean mg mb h₀) (F : Fr h₀ L h m)
  (N : News h₀ L h ((e, lst xs n1) :: (b, lst ys n2) :: rest)) (heb : e ≠ b) (hoe : ∀ p ∈ rest, p.1 ≠ e) (hob : ∀ p ∈ rest, p.1 ≠ b) (hxs : StrsAre xs ss) (hys : StrsAre ys ts) (hk : cs.kind = .function) (hlx : xs.length ≤ 1000) (hly : ys.length ≤ 1000)
  (hd : dp + 3 < recursionLimit) (hu : un + 100 < cLine)
  (ret : ∀ h₀' t mi (ms ys' : List Value) n1' n2' n3' h' tk', KtsTurn (outer.filterMap (·.frame)) h₀ h₀' → StrsAre ms (uldR ss.reverse ts []).1 → StrsAre ys' (uldR ss.reverse ts []).2 → Fr h₀' L h' m →
    News h₀' L h' ((t, tupO [.ref mi, .ref b] 0) :: (mi, lst ms n3') :: (e, lst [] n1') :: (b, lst ys' n2') :: rest) → Grd A₀ base outer (Mine.hd.heap_39 w.params) PV LO mean mg mb h₀' → Q (.ref t) (st s h' tk')) :
  wpAny (model Challenge.rw_op0026_01.row.prog w) (ktrTop dp un gd cn cs L a ccd cl outer) (call (.ref 21) [.ref e, .ref b]) Q E (st s h tk) := by
  have X := G.X
  revert X; k_fill; intro X
  refine' enterS [(Str.ofString "expected", .ref e), (Str.ofString "actual", .ref b)] G F N hk ?k6 ?k7 (by omega) (BindsTo.of_eq ?k9) (locs ?kB) ?_ ?c2 ?c3 ?c4 ?c5
  case k6 => k_is
  case k7 => k_is
  case k9 => rfl
  case kB => kernel_rfl
  case c2 => rfl
  case c3 => rfl
  case c4 => rfl
  case c5 => decide
  clear F N X
  intro g L' h tk F N G1 hlt
  have X := G1.X
  have T := G1.T
  repeat walk_at "S"
  refine newLs F N (by decide) ?_
  intro h mi F N hlm
  have hmi : ∀ p ∈ (e, lst xs n1) :: (b, lst ys n2) :: rest, p.1 ≠ mi := off_of_lt hlm
  have hme : e ≠ mi := hmi _ (.head _)
  have hmb : b ≠ mi := hmi _ (.tail _ (.head _))
  have hmr : ∀ p ∈ rest, p.1 ≠ mi := fun p hp => hmi p (.tail _ (.tail _ hp))
  repeat walk_at "S"
  refine sqx (fun s' => ∃ g' h tk m' ys' ms n1' n2' n3', s' = st s h tk ∧ KtsTurn ((envX cn cs L a ccd cl :: outer).filterMap (·.frame)) g g' ∧ Fr g' L' h m' ∧
    News g' L' h ((mi, lst ms n3') :: (e, lst [] n1') :: (b, lst ys' n2') :: rest) ∧ StrsAre ms (uldR ss.reverse ts []).1 ∧ StrsAre ys' (uldR ss.reverse ts []).2 ∧ m' (Str.ofString "actual") = some (.ref b) ∧ m' (Str.ofString "missing") = some (.ref mi)) ?_ ?_
  · refine while_ (fun k s' => ∃ g' h tk m' xs' ys' ms n1' n2' n3' ss' ts' us, s' = st s h tk ∧ k = xs'.length ∧ KtsTurn ((envX cn cs L a ccd cl :: outer).filterMap (·.frame)) g g' ∧
      Grd (ktrTop dp un gd cn cs L a ccd cl outer) base (envX cn cs L a ccd cl :: outer) (Mine.hd.heap_39 w.params) PV LO mean mg mb g' ∧ Fr g' L' h m' ∧
      News g' L' h ((mi, lst ms n3') :: (e, lst xs' n1') :: (b, lst ys' n2') :: rest) ∧ StrsAre xs' ss' ∧ StrsAre ys' ts' ∧ StrsAre ms us ∧ uldR ss'.reverse ts' us = uldR ss.reverse ts [] ∧
      m' (Str.ofString "expected") = some (.ref e) ∧ m' (Str.ofString "actual") = some (.ref b) ∧ m' (Str.ofString "missing") = some (.ref mi) ∧ ms.length + xs'.length ≤ 1000 ∧ ys'.length ≤ 1000) xs.length ?_ ?_
    · exact ⟨g, _, _, _, xs, ys, [], _, _, _, ss, ts, [], rfl, rfl, .refl, G1, (by assumption), (by assumption), hxs, hys, .nil, rfl, (by walk_at "lk"), (by walk_at "lk"), (by walk_at "lk"), by simpa using hlx, hly⟩
    · clear hlt X T
      rintro k s' ⟨g', h, tk, m', xs', ys', ms, n1', n2', n3', ss', ts', us, rfl, rfl, TT, GG, F, N, sx, sy, sm, hr, q1, q2, q3, hz1, hz2⟩
      have X := GG.X
      have T := GG.T
      repeat walk_at "S"
      refine tru_ N (.tail _ (.head _)) (by omega) ?_
      intro tk
      refine ib (fun hb => ?_) (fun hb => ?_)
      · obtain ⟨xs0, v, ss0, y, ty, rfl, rfl, rfl, sx0⟩ := strs_snoc sx (by intro q; rw [q] at hb; simp at hb)
        have hz3 : ms.length + (xs0.length + 1) ≤ 1000 := by simpa using hz1
        rw [List.reverse_append, List.reverse_singleton, List.singleton_append] at hr
        repeat walk_at "S"
        refine gm N (.tail _ (.head _)) PySem.F.slot_list_pop PySem.F.type_list_pop ?_
        repeat walk_at "S"
        refine pop_ F (news_swap N) (offc hme.symm (offc heb.symm hoe)) (by rw [sizeLine_eq]; omega) ?_
        intro h n1'' F N
        repeat walk_at "S"
        refine try_ ?_
        by_cases hy : y ∈ ts'
        · repeat walk_at "S"
          refine gm (by assumption) (.tail _ (.tail _ (.head _))) PySem.F.slot_list_remove PySem.F.type_list_remove ?_
          repeat walk_at "S"
          refine remove_ (n := n2') (its := ys') (rest := (e, lst xs0 n1'') :: (mi, lst ms n3') :: rest) (by assumption) (news_sub (by assumption) (by walk_at "pm")) (offc heb (offc hmb.symm hob)) sy hy (by rw [sizeLine_eq]; omega) ?_
          intro h n2'' ys'' sy'' F N
          repeat walk_at "S"
          refine wl_next xs0.length (by simp) ⟨g', _, _, _, xs0, ys'', ms, _, _, _, ss0, ts'.erase y, us, rfl, rfl, TT, GG, F, news_sub N (by walk_at "pm"), sx0, sy'', sm, ?_, (by walk_at "lk"), (by walk_at "lk"), (by walk_at "lk"), by omega, ?_⟩
          · rw [← hr, uldR, if_pos hy]
          · rw [strs_len sy'', List.length_erase_of_mem hy, ← strs_len sy]; omega
        · repeat walk_at "S"
          refine gm (by assumption) (.tail _ (.tail _ (.head _))) PySem.F.slot_list_remove PySem.F.type_list_remove ?_
          repeat walk_at "S"
          refine removeE_ rfl (by assumption) (.tail _ (.tail _ (.head _))) sy hy ?_
          intro h1 tk1 ex hx
          refine caught_own (Tn := "ValueError") rfl rfl GG (by assumption) (by assumption) hx ?s1 ?s2 ?s3 ?_ ?_
          case s1 => exact isSubtype_of_subB (by decide +kernel)
          case s2 => exact isSubtype_of_subB (by decide +kernel)
          case s3 => exact isSubtype_of_subB (by decide +kernel)
          · intro h' g2 Q' F' X' T' hq
            refine' nb F' X' T' ?e ?hv ?hn hq rfl ?hx ?hd
            case e => k_is
            case hv => boot_by_name
            case hn => decide +kernel
            case hx => kernel_rfl
            case hd => decide +kernel
          · intro h g2 T2 F N G2
            have X := G2.X
            have T := G2.T
            repeat walk_at "S"
            refine gm N (.tail _ (.head _)) PySem.F.slot_list_append PySem.F.type_list_append ?_
            repeat walk_at "S"
            refine append_ (n := n3') (its := ms) (rest := (e, lst xs0 n1'') :: (b, lst ys' n2') :: rest) F (news_sub N (by walk_at "pm")) (offc hme (offc hmb hmr)) (by rw [sizeLine_eq]; omega) ?_
            intro h n3'' F N
            repeat walk_at "S"
            refine wl_next xs0.length (by simp) ⟨g2, _, _, _, xs0, ys', ms ++ [.str y ty], _, _, _, ss0, ts', us ++ [y], rfl, rfl, TT.trans T2, G2, F, N, sx0, sy, strs_app sm (.cons y ty .nil), ?_, (by walk_at "lk"), (by walk_at "lk"), (by walk_at "lk"), by simp; omega, hz2⟩
            rw [← hr, uldR, if_neg hy]
      · obtain rfl : xs' = [] := by simpa using hb
        cases sx
        repeat walk_at "S"
        have e1 : (uldR ss.reverse ts []).1 = us := by rw [← hr]; rfl
        have e2 : (uldR ss.reverse ts []).2 = ts' := by rw [← hr]; rfl
        exact ⟨rfl, g', _, _, _, ys', ms, _, _, _, rfl, TT, F, N, e1 ▸ sm, e2 ▸ sy, q2, q3⟩
  · rintro s' ⟨g', h, tk, m', ys', ms, n1', n2', n3', rfl, TT, F, N, sm, sy, q2, q3⟩
    repeat walk_at "S"
    refine newT F N (by show 2 ≤ sizeLine; decide) ?_
    intro h t F N _
    repeat walk_at "S"
    exact ⟨g', _, _, _, _, rfl, TT, F, N, fun h₀' T0 F0 N0 G0 => ret h₀' _ _ _ _ _ _ _ _ _ T0 sm sy F0 N0 G0⟩
set_option maxRecDepth 100000 in
set_option maxHeartbeats 8000000 in
theorem pop_raise {w : World} {mean : ExcName → Option Value} {mg mb : Str → Option Value} {dp un : Nat} {gd : Option (List Code)} {cn : Str} {cs : Scope} {a : Addr} {ccd : Value} {cl : List (Str × Addr)} {outer : List Env} {A₀ : Around} {base h₀ : Heap} {L : Addr} {m : Str → Option Value} {l : Addr} {n : Nat} {news : List (Addr × Obj)} {s : Shared} {h : Heap} {tk : Nat} {Q E : Value → Shared → Prop}
  (B : Below A₀ base outer h₀) (F : Fr h₀ L h m) (X : (Mine.hd.heap_39 w.params).In h₀) (T : Top PV LO mean mg mb h₀)
  (N : News h₀ L h news) (hl : (l, lst [] n) ∈ news) (hk : cs.kind = .function) (hd : dp + 7 < recursionLimit)
  (hE : ∀ e Gh h' tk', RaisedSN base Gh (envX cn cs L a ccd cl :: outer) e (.type "IndexError") news h' → Fr h₀ L Gh m → Gh.UpToSlots h' → E (.ref e) (st s h' tk')) :
  wpAny (model Challenge.rw_op0026_01.row.prog w) (ktrTop dp un gd cn cs L a ccd cl outer) (call (.ref 43) [.ref l]) Q E (st s h tk) := by
  revert X; k_fill; intro X
  refine' enterE [(Str.ofString "heap", .ref l)] B F X N T hk ?k6 ?k7 (by omega) (BindsTo.of_eq ?k9) (locs ?kB) hE ?_ ?c2 ?c3 ?c4 ?c5
  case k6 => k_is
  case k7 => k_is
  case k9 => rfl
  case kB => kernel_rfl
  case c2 => rfl
  case c3 => rfl
  case c4 => rfl
  case c5 => decide
  clear F N B X T
  intro g L' h tk F N X T
  repeat walk_at "S"
  refine gm N hl PySem.F.slot_list_pop PySem.F.type_list_pop ?_
  repeat walk_at "S"
  refine popE_ rfl N hl ?_
  intro h3 tk3 e hx
  exact ⟨e, h, h3, tk3, _, rfl, rfl, hx, F, N⟩
/-- the list of as many things of one kind, told off a bag -/
theorem uld_rep (w : Str) : ∀ (n : Nat) (ys ms : List Str), (uldR (List.replicate n w) ys ms).1 = ms ++ List.replicate (n - ys.count w) w ∧
    (∀ a, (uldR (List.replicate n w) ys ms).2.count a = ys.count a - (if a = w then n else 0)) ∧ (uldR (List.replicate n w) ys ms).2.length + min n (ys.count w) = ys.length
  | 0, ys, ms => by simp [uldR]
  | n + 1, ys, ms => by
    rw [List.replicate_succ, uldR]
    by_cases hw : w ∈ ys
    · rw [if_pos hw]
      obtain ⟨h1, h2, h3⟩ := uld_rep w n (ys.erase w) ms
      have hc : 0 < ys.count w := List.count_pos_iff.mpr hw
      have hl : 0 < ys.length := List.length_pos_of_mem hw
      rw [List.count_erase_self] at h1 h3
      rw [List.length_erase_of_mem hw] at h3
      refine ⟨?_, fun a => ?_, ?_⟩
      · rw [h1]; congr 2; omega
      · rw [h2 a]
        by_cases ha : a = w
        · subst ha; rw [List.count_erase_self, if_pos rfl, if_pos rfl]; omega
        · rw [List.count_erase_of_ne ha, if_neg ha, if_neg ha]
      · omega
    · rw [if_neg hw]
      obtain ⟨h1, h2, h3⟩ := uld_rep w n ys (ms ++ [w])
      have hc : ys.count w = 0 := List.count_eq_zero.mpr hw
      rw [hc] at h1 h3 ⊢
      refine ⟨?_, fun a => ?_, ?_⟩
      · rw [h1, List.append_assoc]; congr 1
      · rw [h2 a]
        by_cases ha : a = w
        · subst ha; rw [hc]; simp
        · rw [if_neg ha, if_neg ha]
      · omega
/-- two bags with the same things: nothing is missing and nothing left -/
theorem uld_same : ∀ (xs ys : List Str), (∀ a, xs.count a = ys.count a) → uldR xs ys [] = ([], [])
  | [], ys, h => by
    cases ys with
    | nil => rfl
    | cons y r => have := h y; simp at this
  | x :: r, ys, h => by
    have hx : x ∈ ys := List.count_pos_iff.mp (by rw [← h x]; simp)
    rw [uldR, if_pos hx]
    refine uld_same r (ys.erase x) fun a => ?_
    by_cases ha : a = x
    · subst ha; rw [List.count_erase_self, ← h a]; simp
    · rw [List.count_erase_of_ne ha, ← h a, List.count_cons_of_ne (Ne.symm ha)]
/-- a bag and the exchanges that came to it -/
inductive Fire (ns : List Str) (gs : Nat → List Str) (ys0 : List Str) : List Str → List Str → Prop
  | start : Fire ns gs ys0 ys0 []
  | step {ys ds ys' : List Str} {k : Nat} {w : Str} : Fire ns gs ys0 ys ds → k < 4 → ns[k]? = some w → (gs k).length + 1 ≤ ys.count w → (∀ a, ys'.count a = ys.count a - (if a = w then (gs k).length + 1 else 0) + (gs k).count a) →
      ys'.length + 1 = ys.length → Fire ns gs ys0 ys' (ds ++ [w])
theorem Fire.len {ns : List Str} {gs : Nat → List Str} {ys0 ys ds : List Str} (x : Fire ns gs ys0 ys ds) : ys.length + ds.length = ys0.length := by
  induction x with
  | start => rfl
  | step _ _ _ _ _ hl ih => rw [List.length_append, List.length_singleton]; omega
section
variable {prog : Program} {w : World} {A : Around} {E : Value → Shared → Prop} {s : Shared} {h : Heap} {tk : Nat} {g : Heap} {L : Addr} {news : List (Addr × Obj)}
theorem giN {value slice : Expr} {l : Addr} {its : List Value} {n : Nat} {k : Nat} {u : Tok} {x : Value} {Q : Value → Shared → Prop} (N : News g L h news) (hl : (l, lst its n) ∈ news) (hfit : k < 1000) (hx : its[k]? = some x) (h1 : Q x (st s h tk))
    (hs : subscripted slice false (.ref l) (.int (k : Nat) u) = operate [.ref l, .int (k : Nat) u] (getItem (.ref l) (.int (k : Nat) u)) := by with_unfolding_all rfl) (hg : ∀ r, letTemporaryGo value (.ref l) r = pure () := by intro _; with_unfolding_all rfl) :
    wpAny (model prog w) A (subscriptTail value slice (.ref l) (.int (k : Nat) u)) Q E (st s h tk) :=
  gi N hl (by omega) (by omega) (by rw [Int.toNat_natCast]; exact hx) h1 hs hg
end
theorem nodup_lt : ∀ (n : Nat) (l : List Nat), l.Nodup → (∀ k ∈ l, k < n) → l.length ≤ n
  | 0, l, _, h => by
    cases l with
    | nil => exact Nat.le_refl _
    | cons a r => exact absurd (h a (.head _)) (by omega)
  | n + 1, l, hd, h => by
    by_cases hn : n ∈ l
    · have := nodup_lt n (l.erase n) (hd.erase n) fun k hk => by
        have h1 := h k (List.mem_of_mem_erase hk)
        have h2 : k ≠ n := fun e => (hd.mem_erase_iff.mp hk).1 e
        omega
      rw [List.length_erase_of_mem hn] at this; omega
    · have := nodup_lt n l hd fun k hk => by
        have h1 := h k hk
        have h2 : k ≠ n := fun e => hn (e ▸ hk)
        omega
      omega
/-- the pair of a kind -/
def HK (rk : Nat → Int) (nw : List (Addr × Obj)) (k : Nat) (v : Value) : Prop := ∃ r t u n, v = .ref r ∧ (r, tupO [.int (rk k) t, .int (k : Nat) u] n) ∈ nw
inductive HP (rk : Nat → Int) (nw : List (Addr × Obj)) : List Value → List Nat → Prop
  | nil : HP rk nw [] []
  | cons {v : Value} {k : Nat} {vs : List Value} {ks : List Nat} : HK rk nw k v → HP rk nw vs ks → HP rk nw (v :: vs) (k :: ks)
section
variable {rk : Nat → Int} {nw nw' : List (Addr × Obj)}
theorem HK.mono {k : Nat} {v : Value} (x : HK rk nw k v) (hs : ∀ p ∈ nw, p ∈ nw') : HK rk nw' k v := let ⟨r, t, u, n, e, hm⟩ := x; ⟨r, t, u, n, e, hs _ hm⟩
theorem HP.mono (hs : ∀ p ∈ nw, p ∈ nw') : ∀ {vs : List Value} {ks : List Nat}, HP rk nw vs ks → HP rk nw' vs ks
  | _, _, .nil => .nil
  | _, _, .cons h r => .cons (h.mono hs) (r.mono hs)
theorem HP.snoc {v : Value} {k : Nat} (h : HK rk nw k v) : ∀ {vs : List Value} {ks : List Nat}, HP rk nw vs ks → HP rk nw (vs ++ [v]) (ks ++ [k])
  | _, _, .nil => .cons h .nil
  | _, _, .cons h' r => .cons h' (r.snoc h)
theorem HP.len : ∀ {vs : List Value} {ks : List Nat}, HP rk nw vs ks → vs.length = ks.length
  | _, _, .nil => rfl
  | _, _, .cons _ r => by rw [List.length_cons, List.length_cons, r.len]
theorem HP.pairs : ∀ {vs : List Value} {ks : List Nat}, HP rk nw vs ks → ∀ v ∈ vs, PairIn nw v
  | _, _, .cons h r, v, hm => by
    rcases List.mem_cons.mp hm with rfl | hm
    · obtain ⟨r, t, u, n, e, hm⟩ := h; exact ⟨r, rk _, _, t, u, n, e, hm⟩
    · exact r.pairs v hm
theorem HP.find : ∀ {vs : List Value} {ks : List Nat}, HP rk nw vs ks → ∀ v ∈ vs, ∃ k ∈ ks, HK rk nw k v
  | _, _, .cons h r, v, hm => by
    rcases List.mem_cons.mp hm with rfl | hm
    · exact ⟨_, .head _, h⟩
    · obtain ⟨k, h1, h2⟩ := r.find v hm; exact ⟨k, .tail _ h1, h2⟩
open Classical in
/-- whether the pair of a kind is on the heap -/
theorem HP.any {j : Nat} : ∀ {vs : List Value} {ks : List Nat}, HP rk nw vs ks → (∀ v ∈ vs, ∀ k, HK rk nw k v → HK rk nw j v → k = j) → vs.any (fun v => decide (HK rk nw j v)) = decide (j ∈ ks)
  | _, _, .nil, _ => by simp
  | _, _, .cons (v := v) (k := k) h r, hq => by
    rw [List.any_cons, r.any fun v hv => hq v (.tail _ hv)]
    by_cases e : HK rk nw j v
    · have := hq v (.head _) k h e
      subst this
      simp [e]
    · have : j ≠ k := fun z => e (z ▸ h)
      simp [e, this]
theorem HK.uniq {g : Heap} {L : Addr} {h : Heap} (N : News g L h nw) {k j : Nat} {v : Value} (x : HK rk nw k v) (y : HK rk nw j v) : k = j := by
  obtain ⟨r, t, u, n, e, hm⟩ := x
  obtain ⟨r', t', u', n', e', hm'⟩ := y
  rw [e] at e'; cases e'
  have h1 := N.get hm
  have h2 := N.get hm'
  rw [h1] at h2
  have h3 := Option.some.inj h2
  have h4 : (Data.seq #[Value.int (rk k) t, Value.int (k : Nat) u] n) = .seq #[Value.int (rk j) t', Value.int (j : Nat) u'] n' := congrArg Obj.data h3
  injection h4 with h5 h6
  have h7 : (#[Value.int (rk k) t, Value.int (k : Nat) u] : Array Value)[1]? = (#[Value.int (rk j) t', Value.int (j : Nat) u'] : Array Value)[1]? := by rw [h5]
  have h8 : Value.int (k : Nat) u = Value.int (j : Nat) u' := Option.some.inj h7
  injection h8 with h9 h10
  exact Int.ofNat.inj h9
theorem HP.perm {vs vs' : List Value} (p : vs.Perm vs') : ∀ {ks : List Nat}, HP rk nw vs ks → ∃ ks', ks.Perm ks' ∧ HP rk nw vs' ks' := by
  induction p with
  | nil => intro ks x; exact ⟨ks, .refl _, x⟩
  | cons x _ ih =>
    intro ks h
    cases h with
    | cons h r =>
      obtain ⟨ks', p', r'⟩ := ih r
      exact ⟨_, p'.cons _, .cons h r'⟩
  | swap x y l =>
    intro ks h
    cases h with
    | cons h r =>
      cases r with
      | cons h' r => exact ⟨_, .swap _ _ _, .cons h' (.cons h r)⟩
  | trans _ _ ih1 ih2 =>
    intro ks h
    obtain ⟨k1, p1, r1⟩ := ih1 h
    obtain ⟨k2, p2, r2⟩ := ih2 r1
    exact ⟨k2, p1.trans p2, r2⟩
end
theorem map22 {prog : Program} {w : World} {h : Heap} (X : (Mine.hd.heap_39 w.params).In h) : ∃ f, h.MapOf (intKind prog w) 22 f ∧ (∃ o, h.get? 22 = some o ∧ o.cls = .type "dict" ∧ o.dict = none) ∧ ∀ i, i < 11 → ∀ t, ∃ t', (f (2 ^ i)).getD (.str (baseText "0x" 16 (2 ^ i)) t) = .str (nm i) t' := by
  obtain ⟨o, ho⟩ : ∃ o, (Mine.hd.heap_39 w.params).lookup 22 = some o := ⟨_, rfl⟩
  have hh := X 22 o ho
  cases ho
  refine ⟨_, ⟨_, _, _, hh, ⟨rfl, rfl, rfl⟩, rfl, ?_, fun k => rfl⟩, ⟨_, hh, rfl, rfl⟩, ?_⟩
  · intro e he
    simp only [List.mem_toArray, List.mem_cons, List.not_mem_nil, or_false] at he
    rcases he with rfl | rfl | rfl | rfl | rfl | rfl | rfl | rfl | rfl | rfl <;> exact ⟨_, intKind_is _ _ _ _, by rfl⟩
  · intro i hi t
    have : i = 0 ∨ i = 1 ∨ i = 2 ∨ i = 3 ∨ i = 4 ∨ i = 5 ∨ i = 6 ∨ i = 7 ∨ i = 8 ∨ i = 9 ∨ i = 10 := by omega
    rcases this with rfl | rfl | rfl | rfl | rfl | rfl | rfl | rfl | rfl | rfl | rfl <;> exact ⟨_, by rfl⟩
theorem nms_len : ∀ fu i q, (nms fu i q).length ≤ fu
  | 0, _, _ => Nat.le_refl _
  | fu + 1, i, q => by
    have := nms_len fu (i + 1) (q / 2)
    simp only [nms, List.length_append]
    split <;> simp <;> omega
theorem nm_len (i : Nat) : (nm i).length ≤ 18 := by
  by_cases hi : i < 10
  · have : i = 0 ∨ i = 1 ∨ i = 2 ∨ i = 3 ∨ i = 4 ∨ i = 5 ∨ i = 6 ∨ i = 7 ∨ i = 8 ∨ i = 9 := by omega
    rcases this with rfl | rfl | rfl | rfl | rfl | rfl | rfl | rfl | rfl | rfl <;> decide +kernel
  · have e : nm i = Str.ofString "0x400" := by
      unfold nm
      rw [List.getD_eq_getElem?_getD, List.getElem?_eq_none (by show 10 ≤ i; omega)]; rfl
    rw [e]; decide +kernel
theorem nms_mem : ∀ fu i q x, x ∈ nms fu i q → x.length ≤ 18
  | 0, _, _, _, h => nomatch h
  | fu + 1, i, q, x, h => by
    rcases List.mem_append.mp h with h | h
    · split at h
      · exact (List.mem_singleton.mp h) ▸ nm_len i
      · exact nomatch h
    · exact nms_mem fu _ _ x h
theorem nms_sum (fu i q : Nat) : ((nms fu i q).map (·.length)).sum ≤ fu * 18 := by
  have := StrLaws.sumLen_le (B := 18) (nms fu i q) (nms_mem fu i q)
  have := nms_len fu i q
  omega
theorem bit_and (q i : Nat) : Builtin.bitAnd ((q : Int) * 2 ^ i) (1 * 2 ^ i) = ((q % 2 : Nat) : Int) * 2 ^ i := by
  rw [Int.one_mul, kbt_bit, Int.mul_ediv_cancel _ (Int.ne_of_gt (kbt_pos i))]
  rfl
theorem bit_xor {q i : Nat} (hq : q % 2 = 1) : Builtin.bitXor ((q : Int) * 2 ^ i) (1 * 2 ^ i) = ((q / 2 : Nat) : Int) * 2 ^ (i + 1) := by
  rw [bitXor_and, bit_and, hq, Int.pow_succ]
  have e : (q : Int) = 2 * ((q / 2 : Nat) : Int) + 1 := by omega
  rw [e]
  generalize (2 : Int) ^ i = p
  generalize ((q / 2 : Nat) : Int) = r
  have e2 : (((2 * r + 1).toNat / 2 : Nat) : Int) = (((2 * r + 1).toNat / 2 : Nat) : Int) := rfl
  rw [show (((1 : Nat) : Int)) = 1 from rfl, Int.add_mul, Int.one_mul, Int.mul_comm 2 r, Int.mul_assoc, Int.mul_comm p 2]
  omega
theorem two_pos (i : Nat) : (2 : Int) ^ i ≠ 0 := Int.ne_of_gt (kbt_pos i)
theorem hex_len {i : Nat} (hi : i < 11) : (baseText "0x" 16 (1 * 2 ^ i)).length ≤ sizeLine := by
  have h5 : (baseText "0x" 16 (1 * 2 ^ i)).length ≤ 10 := by
    have : i = 0 ∨ i = 1 ∨ i = 2 ∨ i = 3 ∨ i = 4 ∨ i = 5 ∨ i = 6 ∨ i = 7 ∨ i = 8 ∨ i = 9 ∨ i = 10 := by omega
    rcases this with rfl | rfl | rfl | rfl | rfl | rfl | rfl | rfl | rfl | rfl | rfl <;> decide +kernel
  rw [sizeLine_eq]; omega
set_option maxRecDepth 100000 in
set_option maxHeartbeats 8000000 in
theorem pretty_call {w : World} {mean : ExcName → Option Value} {mg mb : Str → Option Value} {dp un : Nat} {gd : Option (List Code)} {cn : Str} {cs : Scope} {a : Addr} {ccd : Value} {cl : List (Str × Addr)} {outer : List Env} {A₀ : Around} {base h₀ : Heap} {L : Addr} {m : Str → Option Value} {news : List (Addr × Obj)} {q : Nat} {t1 : Tok} {s : Shared} {h : Heap} {tk : Nat} {Q E : Value → Shared → Prop}
  (B : Below A₀ base outer h₀) (F : Fr h₀ L h m) (X : (Mine.hd.heap_39 w.params).In h₀) (T : Top PV LO mean mg mb h₀)
  (N : News h₀ L h news) (hk : cs.kind = .function) (hq : 0 < q) (hq2 : q < 2048) (hd : dp + 3 < recursionLimit) (hu : un + 100 < cLine)
  (ret : ∀ t h' tk', Fr h₀ L h' m → News h₀ L h' news → Q (.str (Txt.join (Str.ofString ", ") (nms 11 0 q)) t) (st s h' tk')) :
  wpAny (model Challenge.rw_op0026_01.row.prog w) (ktrTop dp un gd cn cs L a ccd cl outer) (call (.ref 29) [.int q t1]) Q E (st s h tk) := by
  revert X; k_fill; intro X
  refine' enter [(Str.ofString "flags", .int q t1)] B F X N T hk ?k6 ?k7 (by omega) (BindsTo.of_eq ?k9) (locs ?kB) ?_ ?c2 ?c3 ?c4 ?c5
  case k6 => k_is
  case k7 => k_is
  case k9 => rfl
  case kB => kernel_rfl
  case c2 => rfl
  case c3 => rfl
  case c4 => rfl
  case c5 => decide
  clear F N B X T
  intro g L' h tk F N B X T hlt
  repeat walk_at "S"
  refine newLs F N (by decide) ?_
  intro h nl F N hln
  repeat walk_at "S"
  refine sqx (fun s' => ∃ h tk m' vs n' t, s' = st s h tk ∧ Fr g L' h m' ∧ News g L' h ((nl, lst vs n') :: news) ∧ StrsAre vs (nms 11 0 q) ∧ m' (Str.ofString "names") = some (.ref nl) ∧ t = t1) ?_ ?_
  · refine for_ ?_ (by intro _; with_unfolding_all rfl)
    repeat walk_at "S"
    refine range1 (by assumption) (by assumption) ?_
    intro h tk r t1' t2 F N hoffr
    refine iterR F N (.head _) (by decide +kernel) ?_
    intro h it F N hoffi
    have hnn : ∀ p ∈ news, p.1 ≠ nl := off_of_lt hln
    have hin : nl ≠ it := hoffi (nl, lst [] 0) (.tail _ (.head _))
    have hni : ∀ p ∈ news, p.1 ≠ it := fun p hp => hoffi p (.tail _ (.tail _ hp))
    obtain ⟨f22, hf1, ⟨o22, ho22, hc22, hd22⟩, hf2⟩ := map22 (prog := Challenge.rw_op0026_01.row.prog) X
    refine for_inv (fun k s' => ∃ i c h tk m' vs n' ys tf, s' = st s h tk ∧ k = 11 - i ∧ i ≤ 11 ∧ 0 < c ∧ c < 2 ^ (11 - i) ∧ Fr g L' h m' ∧ News g L' h ((it, itR (i : Nat) (32 - (i : Nat)) 1) :: (nl, lst vs n') :: news) ∧ StrsAre vs ys ∧ ys.length ≤ i ∧
      ys ++ nms (11 - i) i c = nms 11 0 q ∧ m' (Str.ofString "names") = some (.ref nl) ∧ m' (Str.ofString "flags") = some (.int ((c : Nat) * 2 ^ i) tf)) 11 ?_ (fun _ => rfl) ?_
    · exact ⟨0, q, _, _, _, [], 0, [], t1, rfl, rfl, by omega, hq, hq2, F, news_sub N (by walk_at "pm"), .nil, by simp, rfl, (by walk_at "lk"), by rw [Int.pow_zero, Int.mul_one]; walk_at "lk"⟩
    · rintro k s' ⟨i, c, h, tk, m', vs, n', ys, tf, rfl, rfl, hi, hc0, hc1, F, N, sv, hyl, hyn, q1, q2⟩
      have hi2 : i < 11 := by
        rcases Nat.lt_or_ge i 11 with z | z
        · exact z
        · have : 11 - i = 0 := by omega
          rw [this] at hc1; omega
      obtain ⟨fu, hfu⟩ : ∃ fu, 11 - i = fu + 1 := ⟨10 - i, by omega⟩
      have hfu2 : 11 - (i + 1) = fu := by omega
      rw [hfu] at hc1 hyn
      rw [nms] at hyn
      have hvl := strs_len sv
      have hin1 : ((i + 1 : Nat) : Int) = (i : Int) + 1 := Int.natCast_succ i
      have hin2 : 32 - ((i : Int) + 1) = 32 - (i : Int) - 1 := by omega
      refine fq_step F N (offc hin hni) (by omega) (by kernel_rfl) rfl rfl ?_
      intro h tk t F N
      repeat walk_at "S"
      refine b_lsh (by omega) (by omega) (by decide) ?_
      intro t2 tk
      repeat walk_at "S"
      refine if_ ?_
      repeat walk_at "S"
      have hti : ((i : Int)).toNat = i := by omega
      rw [hti, bit_and]
      by_cases hc2 : c % 2 = 1
      · rw [if_pos hc2] at hyn
        rw [hc2]
        refine ibt (by rw [bne_iff_ne]; have := two_pos i; omega) ?_
        repeat walk_at "S"
        refine gm (by assumption) (.tail _ (.head _)) PySem.F.slot_list_append PySem.F.type_list_append ?_
        repeat walk_at "S"
        rename_i F N _ _
        have X' := X.keeps F.keep
        obtain ⟨f22, hf1, ⟨o22, ho22, hc22, hd22⟩, hf2⟩ := map22 (prog := Challenge.rw_op0026_01.row.prog) X'
        refine gmD ho22 hc22 hd22 ?_
        repeat walk_at "S"
        rw [hti]
        refine hex_ (hex_len hi2) ?_
        intro t3 tk
        repeat walk_at "S"
        refine dget hf1 (by decide +kernel) ?_
        intro tk
        rw [Int.one_mul]
        obtain ⟨t4, e4⟩ := hf2 i hi2 t3
        rw [e4]
        repeat walk_at "S"
        refine append_ (rest := (it, itR (↑i + 1) (32 - ↑i - 1) 1) :: news) F (news_sub N (by walk_at "pm")) (offc (Ne.symm hin) hnn) (by rw [sizeLine_eq]; omega) ?_
        intro h n2 F N
        repeat walk_at "S"
        rename_i F N
        rw [hti, bit_xor hc2] at F
        refine if_ ?_
        repeat walk_at "S"
        have hpw := two_pos (i + 1)
        by_cases hz : c / 2 = 0
        · rw [hz, nms_zero, List.append_nil] at hyn
          refine ibt (by rw [hz]; simp) ?_
          repeat walk_at "S"
          refine wl_brk ⟨rfl, _, _, _, _, _, _, rfl, F, news_sub N (by walk_at "pm"), hyn ▸ strs_app sv (.cons _ _ .nil), by walk_at "lk", rfl⟩
        · refine ibf ?_ ?_
          · rw [Bool.not_eq_false', bne_iff_ne]
            exact Int.mul_ne_zero (by omega) hpw
          repeat walk_at "S"
          refine wl_next (11 - (i + 1)) (by omega) ⟨i + 1, c / 2, _, _, _, _, _, ys ++ [nm i], _, rfl, rfl, by omega, by omega, ?_, F, by rw [hin1, hin2]; exact news_sub N (by walk_at "pm"), strs_app sv (.cons _ _ .nil), by simp; omega, ?_, by walk_at "lk", by walk_at "lk"⟩
          · rw [hfu2]; rw [Nat.pow_succ] at hc1; omega
          · rw [hfu2, List.append_assoc]; exact hyn
      · rw [if_neg hc2, List.nil_append] at hyn
        have hc3 : c % 2 = 0 := by omega
        rw [hc3]
        refine ibf (by simp) ?_
        rename_i F N _ _
        repeat walk_at "S"
        refine wl_next (11 - (i + 1)) (by omega) ⟨i + 1, c / 2, _, _, _, _, _, ys, tf, rfl, rfl, by omega, by omega, ?_, F, by rw [hin1, hin2]; exact news_sub N (by walk_at "pm"), sv, by omega, ?_, by walk_at "lk", ?_⟩
        · rw [hfu2]; rw [Nat.pow_succ] at hc1; omega
        · rw [hfu2]; exact hyn
        · rw [show (((c / 2 : Nat) : Int)) * 2 ^ (i + 1) = (c : Int) * 2 ^ i from ?_]
          · walk_at "lk"
          · rw [Int.pow_succ, Int.mul_comm (2 ^ i) 2, ← Int.mul_assoc]; congr 1; omega
  · rintro _ ⟨h, tk, m', vs, n', t, rfl, F, N, sv, q1, -⟩
    repeat walk_at "S"
    refine join_ N (.head _) sv (by have := nms_sum 11 0 q; have := nms_len 11 0 q; show _ + _ * 2 ≤ _; omega) ?_
    intro t tk
    repeat walk_at "S"
    exact ⟨_, _, _, _, rfl, F, news_sub N (by walk_at "pm"), fun F N => ret _ _ _ F N⟩
theorem st_st {s : Shared} {h h' : Heap} {tk tk' : Nat} : st (st s h tk) h' tk' = st s h' tk' := rfl
set_option maxRecDepth 100000 in
set_option maxHeartbeats 8000000 in
theorem exch_call {w : World} {mean : ExcName → Option Value} {mg mb : Str → Option Value} {dp un : Nat} {gd : Option (List Code)} {cn : Str} {cs : Scope} {a : Addr} {ccd : Value} {cl : List (Str × Addr)} {outer : List Env} {A₀ : Around} {base h₀ : Heap} {L : Addr} {m : Str → Option Value} {rest : List (Addr × Obj)} {bl nl gl rl : Addr} {bv nv gv rv : List Value} {bn nn gn rn : Nat} {ys0 ns : List Str} {gs : Nat → List Str} {rk : Nat → Int} {s : Shared} {h : Heap} {tk : Nat} {Q E : Value → Shared → Prop}
  (G : Grd A₀ base outer (Mine.hd.heap_39 w.params) PV LO mean mg mb h₀) (F : Fr h₀ L h m) (N : News h₀ L h rest)
  (hbl : (bl, lst bv bn) ∈ rest) (hbv : StrsAre bv ys0) (hnl : (nl, lst nv nn) ∈ rest) (hnv : StrsAre nv ns) (hgl : (gl, lst gv gn) ∈ rest) (hgv : ∀ k, k < 4 → ∃ p v n, gv[k]? = some (.ref p) ∧ (p, lst v n) ∈ rest ∧ StrsAre v (gs k))
  (hrl : (rl, lst rv rn) ∈ rest) (hrv : ∀ k, k < 4 → ∃ t, rv[k]? = some (.int (rk k) t)) (hns : ns.length = 4) (hnd : ns.Nodup) (hgs : ∀ k, k < 4 → (gs k).length ≤ 4 ∧ ∀ x ∈ gs k, x ∈ ns) (hy0 : ys0.length ≤ 16) (hk : cs.kind = .function)
  (hd : dp + 20 < recursionLimit) (hu : un + 500 < cLine)
  (ret : ∀ h₀' t bl' dl bv' dv bn' dn (ys ds : List Str) h' tk', KtsTurn (outer.filterMap (·.frame)) h₀ h₀' → Fire ns gs ys0 ys ds → (∀ k w, k < 4 → ns[k]? = some w → ys.count w < (gs k).length + 1) → StrsAre bv' ys → StrsAre dv ds → Fr h₀' L h' m →
    News h₀' L h' ((t, tupO [.ref bl', .ref dl] 0) :: (bl', lst bv' bn') :: (dl, lst dv dn) :: rest) → (∀ p ∈ rest, p.1 ≠ dl) → bl' ≠ dl → Grd A₀ base outer (Mine.hd.heap_39 w.params) PV LO mean mg mb h₀' → Q (.ref t) (st s h' tk')) :
  wpAny (model Challenge.rw_op0026_01.row.prog w) (ktrTop dp un gd cn cs L a ccd cl outer) (call (.ref 69) [.ref bl, .ref nl, .ref gl, .ref rl]) Q E (st s h tk) := by
  have X := G.X
  revert X; k_fill; intro X
  refine' enterC [(Str.ofString "bag", .ref bl), (Str.ofString "names", .ref nl), (Str.ofString "gives", .ref gl), (Str.ofString "ranks", .ref rl)] G F N hk ?k6 ?k7 (by omega) (BindsTo.of_eq ?k9) ?kB ?kC ?_ ?c2 ?c3 ?c4
  case k6 => k_is
  case k7 => k_is
  case k9 => rfl
  case kB =>
    intro n x hx
    simp only [List.mem_cons, List.not_mem_nil, or_false] at hx
    rcases hx with rfl | rfl | rfl | rfl
    · exact .inl (by kernel_rfl)
    · exact .inl (by kernel_rfl)
    · exact .inl (by kernel_rfl)
    · exact .inr ⟨by kernel_rfl, by with_unfolding_all rfl⟩
  case kC => decide
  case c2 => rfl
  case c3 => rfl
  case c4 => rfl
  clear X
  intro g L' h tk cells F N C G hlt
  have F' : Fr g L' h (up (up (up (fun _ => none) (Str.ofString "bag") (.ref bl)) (Str.ofString "names") (.ref nl)) (Str.ofString "gives") (.ref gl)) := F
  have C' : CellsAre (fun _ => some (.ref rl)) [(Str.ofString "ranks", L' + 1)] cells := by
    have e : ∃ c, cells = [(L' + 1, c)] ∧ c.data = .cell (some (.ref rl)) := C.one
    obtain ⟨c, rfl, hc⟩ := e
    exact .cons hc .nil
  obtain ⟨oR, rfl, hoR⟩ := C'.one
  have N' : News g L' h ((L' + 1, oR) :: rest) := N
  clear F N C C'
  generalize hcl : cellsFrom (L' + 1) _ [] = cls
  have hcl2 : cls = [(Str.ofString "ranks", L' + 1)] := hcl.symm
  subst hcl2
  clear hcl
  have F := F'; have N := N'; clear F' N'
  have B := G.B; have X := G.X; have T := G.T
  have hRin : (L' + 1, oR) ∈ (L' + 1, oR) :: rest := .head _
  repeat walk_at "S"
  refine' lcA F ?sw ?clos ?cel rfl ?nam ?x1 ?y1 ?_ ?fs
  case sw => with_unfolding_all rfl
  case clos => with_unfolding_all rfl
  case cel => decide
  case nam => decide
  case x1 => kernel_rfl
  case y1 => kernel_rfl
  case fs => intro _; with_unfolding_all rfl
  repeat walk_at "S"
  refine range1 (by assumption) (by assumption) ?_
  intro h tk r t1 t2 F N hoff
  refine srcR (n := 4) (news := (L' + 1, oR) :: rest) (fun i ys nw => (∀ p ∈ (L' + 1, oR) :: rest, p ∈ nw) ∧ HP rk nw ys (List.range i)) F N (.head _) (by decide +kernel) (by decide +kernel) (by rw [sizeLine_eq]; omega) (fun p hp => .tail _ hp) ⟨fun p hp => hp, .nil⟩ ?_ ?_
  · intro i t ys nw I oI C oC D m₂ h tk hi hP hC hm F N hoff
    obtain ⟨hP1, hP2⟩ := hP
    have hR1 := hP1 _ hRin
    have hR2 := hP1 _ (.tail _ hrl)
    obtain ⟨tr, hrk⟩ := hrv i hi
    repeat walk_at "S"
    refine giN N (by walk_at "mm") (by omega) hrk ?_
    repeat walk_at "S"
    refine newT F N (show 2 ≤ _ by rw [sizeLine_eq]; omega) ?_
    intro h tp F N hlt2
    refine ⟨h, tk, (tp, tupO [.int (rk i) tr, .int i t] 0) :: nw, rfl, F, news_sub N (by walk_at "pm"), ?_, trivial, fun p hp => .tail _ (hP1 p hp), ?_⟩
    · intro p hp q hq
      rcases List.mem_cons.mp hp with rfl | hp
      · have : q.1 < tp := hlt2 q (List.mem_append_left nw hq)
        exact Nat.ne_of_gt this
      · obtain ⟨o1, o2, o3⟩ := hoff p hp
        simp only [List.mem_cons, List.not_mem_nil, or_false] at hq
        rcases hq with rfl | rfl | rfl
        · exact o1
        · exact o2
        · exact o3
    · rw [List.range_succ]
      exact (hP2.mono fun p hp => .tail _ hp).snoc ⟨tp, tr, t, 0, rfl, .head _⟩
  · rintro g' hv nw ⟨hP1, hP2⟩
    refine finA ?_
    intro hl h tk F N hoff
    rw [st_st]
    repeat walk_at "S"
    refine heapify_call (ret := ?_) B F X T N hoff hP2.pairs rfl (by rw [hP2.len]; rfl) (by show dp + 1 + 7 < _; omega) (by show un + 3 + 300 < _; omega)
    intro hv' h tk pm F N
    obtain ⟨ks0, pk, hP3⟩ := hP2.perm pm.symm
    repeat walk_at "S"
    refine newLs F N (by decide) ?_
    intro h dl F N hdl
    have hdh : dl ≠ hl := Nat.ne_of_gt (hdl (hl, _) (.head _))
    repeat walk_at "S"
    refine while_ (fun n s' => ∃ g' h tk m' bl bv bn hv hn dv dn tl ys ds ks, s' = st s h tk ∧ n = 5 * ys.length + ks.length ∧ KtsTurn ((envX cn cs L a ccd cl :: outer).filterMap (·.frame)) g g' ∧
      Grd (ktrTop dp un gd cn cs L a ccd cl outer) base (envX cn cs L a ccd cl :: outer) (Mine.hd.heap_39 w.params) PV LO mean mg mb g' ∧ Fr g' L' h m' ∧ News g' L' h ((hl, lst hv hn) :: (dl, lst dv dn) :: tl) ∧ (∀ p ∈ tl, p.1 ≠ hl) ∧ (∀ p ∈ tl, p.1 ≠ dl) ∧
      (∀ p ∈ (L' + 1, oR) :: rest, p ∈ tl) ∧ (bl, lst bv bn) ∈ tl ∧ StrsAre bv ys ∧ StrsAre dv ds ∧ Fire ns gs ys0 ys ds ∧ HP rk tl hv ks ∧ ks.Nodup ∧ (∀ k ∈ ks, k < 4) ∧ (∀ k w, k < 4 → k ∉ ks → ns[k]? = some w → ys.count w < (gs k).length + 1) ∧
      m' (Str.ofString "bag") = some (.ref bl) ∧ m' (Str.ofString "names") = some (.ref nl) ∧ m' (Str.ofString "gives") = some (.ref gl) ∧ m' (Str.ofString "heap") = some (.ref hl) ∧ m' (Str.ofString "deals") = some (.ref dl)) (5 * ys0.length + 4) ?_ ?_
    · refine ⟨g, _, _, _, bl, bv, bn, hv', _, [], 0, nw, ys0, [], ks0, rfl, by rw [← pk.length_eq]; rfl, .refl, G, (by assumption), news_sub (news := (dl, lst [] 0) :: (hl, lst hv' hv.length) :: nw) (by assumption) (by walk_at "pm"), hoff, fun p hp => Nat.ne_of_lt (hdl p (.tail _ hp)), hP1, hP1 _ (.tail _ hbl), hbv, .nil, .start, hP3, ?_, ?_, ?_, by walk_at "lk", by walk_at "lk", by walk_at "lk", by walk_at "lk", by walk_at "lk"⟩
      · exact (pk.nodup_iff.mp (List.nodup_range))
      · intro k hk; exact List.mem_range.mp (pk.mem_iff.mpr hk)
      · intro k w hk hn; exact absurd (pk.mem_iff.mp (List.mem_range.mpr hk)) hn
    · rintro n _ ⟨g', h, tk, m', bl, bv, bn, hv, hn, dv, dn, tl, ys, ds, ks, rfl, rfl, hT, G, F, N, ho1, ho2, hin, hbl, hbv, hdv, hfi, hhp, hnd2, hlt4, hstk, q1, q2, q3, q4, q5⟩
      have B := G.B; have X := G.X; have T := G.T
      repeat walk_at "S"
      refine ib_t ?_
      repeat walk_at "S"
      by_cases hks : ks = []
      · subst hks
        obtain rfl : hv = [] := List.eq_nil_of_length_eq_zero hhp.len
        refine try_ ?_
        repeat walk_at "S"
        refine pop_raise B F X T N (.head _) rfl (by show dp + 1 + 7 < _; omega) ?_
        intro ex Gh h1 tk1 R F1 U1
        refine caught_fly (Tn := "IndexError") rfl G F1 R U1 ?s1 ?s2 ?s3 ?_ ?_
        case s1 => exact isSubtype_of_subB (by decide +kernel)
        case s2 => exact isSubtype_of_subB (by decide +kernel)
        case s3 => exact isSubtype_of_subB (by decide +kernel)
        · intro h' g2 Q' F' X' T' hq
          refine' nb F' X' T' ?e ?hv ?hn hq rfl ?hx ?hd
          case e => k_is
          case hv => boot_by_name
          case hn => decide +kernel
          case hx => kernel_rfl
          case hd => decide +kernel
        · intro h g2 T2 F N G2
          have X := G2.X
          have T := G2.T
          repeat walk_at "S"
          refine newT F N (show 2 ≤ _ by rw [sizeLine_eq]; omega) ?_
          intro h tp F N _
          repeat walk_at "S"
          refine wl_ret ?_
          refine ⟨g2, h, _, _, (tp, tupO [.ref bl, .ref dl] 0) :: (bl, lst bv bn) :: (dl, lst dv dn) :: rest, rfl, hT.trans T2, F, news_sub N ?_, fun h₀' T0 F0 N0 G0 => ret h₀' tp bl dl bv dv bn dn ys ds _ _ T0 hfi (fun k w hk hw => hstk k w hk (by simp) hw) hbv hdv F0 N0 (fun p hp => ho2 p (hin p (.tail _ hp))) (ho2 _ hbl) G0⟩
          intro p hp
          simp only [List.mem_cons] at hp
          rcases hp with rfl | rfl | rfl | hp
          · walk_at "mm"
          · walk_at "mm"
          · walk_at "mm"
          · exact .tail _ (.tail _ (.tail _ (hin p (.tail _ hp))))
      · have hvne : hv ≠ [] := fun e => hks (List.eq_nil_of_length_eq_zero (by rw [← hhp.len, e]; rfl))
        have hkl : ks.length ≤ 4 := nodup_lt 4 ks hnd2 hlt4
        refine sqx (fun s' => ∃ h tk hv' hn' k ks' u t, s' = st s h tk ∧ Fr g' L' h (up (up m' (Str.ofString "rank") (.int (rk k) t)) (Str.ofString "k") (.int (k : Nat) u)) ∧ News g' L' h ((hl, lst hv' hn') :: (dl, lst dv dn) :: tl) ∧ HP rk tl hv' ks' ∧ ks.Perm (k :: ks')) ?_ ?_
        · refine try_ ?_
          repeat walk_at "S"
          refine pop_call (rest := (dl, lst dv dn) :: tl) (ret := ?_) B F X T N (offc hdh ho1) (fun v hv => (hhp.pairs v hv).mono) rfl hvne (by rw [hhp.len]; omega) (by show dp + 1 + 7 < _; omega) (by show un + 3 + 300 < _; omega)
          intro v hv' h tk hn' pm F N
          obtain ⟨ks1, pk1, hp1⟩ := hhp.perm pm.symm
          cases hp1 with
          | @cons _ k _ ks' hk1 hp1 =>
          obtain ⟨r1, t1, u1, n1, rfl, hm1⟩ := hk1
          refine unpk F N (.tail _ (.tail _ hm1)) rfl ?_
          intro h F N
          repeat walk_at "S"
          exact ⟨rfl, _, _, hv', hn', k, ks', u1, t1, rfl, (by assumption), (by assumption), hp1, pk1⟩
        · rintro _ ⟨h, tk, hv', hn', k, ks', u1, t1, rfl, F, N, hhp', pk⟩
          have hk4 : k < 4 := hlt4 k (pk.mem_iff.mpr (.head _))
          obtain ⟨gp, gkv, gkn, hgk1, hgk2, hgk3⟩ := hgv k hk4
          obtain ⟨wk, hwk⟩ : ∃ wk, ns[k]? = some wk := ⟨_, List.getElem?_eq_getElem (by omega)⟩
          obtain ⟨tw, hwv⟩ := strs_get hnv k wk hwk
          have i1 := hin _ (.tail _ hnl)
          have i2 := hin _ (.tail _ hgl)
          have i3 := hin _ (.tail _ hgk2)
          have i4 := hin _ (.head _)
          have i5 := hin _ (.tail _ hrl)
          have hgl4 := (hgs k hk4).1
          have hgkl := strs_len hgk3
          have hfl := hfi.len
          have hbl2 := strs_len hbv
          repeat walk_at "S"
          refine giN (by assumption) (by walk_at "mm") (by omega) hwv ?_
          repeat walk_at "S"
          refine newLs (by assumption) (by assumption) (show 1 ≤ _ by rw [sizeLine_eq]; omega) ?_
          intro h l1 F N hl1
          repeat walk_at "S"
          refine giN (by assumption) (by walk_at "mm") (by omega) hgk1 ?_
          repeat walk_at "S"
          refine len_ (by assumption) (by walk_at "mm") (by omega) ?_
          intro t tk
          repeat walk_at "S"
          refine mulL (by assumption) (by assumption) (by walk_at "mm") (by omega) (by omega) ?_
          intro h nd F N hnd1
          have e1 : ((gkv.length : Int) + 1).toNat = (gs k).length + 1 := by omega
          rw [e1] at N
          repeat walk_at "S"
          refine giN (by assumption) (by walk_at "mm") (by omega) hwv ?_
          repeat walk_at "S"
          refine newLs (by assumption) (by assumption) (show 1 ≤ _ by rw [sizeLine_eq]; omega) ?_
          intro h l2 F N hl2
          repeat walk_at "S"
          refine len_ (by assumption) (by walk_at "mm") (by rw [List.length_replicate]; omega) ?_
          intro t tk
          repeat walk_at "S"
          refine gm (by assumption) (by walk_at "mm") PySem.F.slot_list_count PySem.F.type_list_count ?_
          repeat walk_at "S"
          refine giN (by assumption) (by walk_at "mm") (by omega) hwv ?_
          repeat walk_at "S"
          refine cntS (by assumption) (by walk_at "mm") hbv ?_
          intro t tk
          have hcy : ys.count wk ≤ ys.length := List.count_le_length
          repeat walk_at "S"
          rw [List.length_replicate]
          refine mulL (by assumption) (by assumption) (by walk_at "mm") (by omega) (by omega) ?_
          intro h lk F N hlk
          have e2 : (((gs k).length + 1 : Nat) - (ys.count wk : Nat) : Int).toNat = (gs k).length + 1 - ys.count wk := by omega
          rw [e2] at N
          repeat walk_at "S"
          refine sliceL (by assumption) (by assumption) (by walk_at "mm") .none .none .none (by decide) (by rw [sizeLine_eq]; omega) (by with_unfolding_all rfl) (by intro _; with_unfolding_all rfl) ?_
          intro h bc F N hbc
          rw [slicePick_all] at N
          repeat walk_at "S"
          refine uld_call (rest := (lk, lst (List.replicate ((gs k).length + 1 - List.count wk ys) (Value.str wk tw)) 0) :: (hl, lst hv' hn') :: (dl, lst dv dn) :: tl) (ss := List.replicate ((gs k).length + 1) wk) (ts := ys) (ret := ?_) G F (news_sub N (by walk_at "pm"))
            (Nat.ne_of_lt (hbc (nd, _) (by walk_at "mm"))) ?_ ?_ (strs_rep _) hbv rfl (by rw [List.length_replicate]; omega) (by omega) (by show dp + 1 + 3 < _; omega) (by show un + 3 + 100 < _; omega)
          · intro p hp
            rcases List.mem_cons.mp hp with rfl | hp
            · exact Nat.ne_of_gt (hlk (nd, _) (by walk_at "mm"))
            · exact Nat.ne_of_lt (hnd1 p (.tail _ hp))
          · intro p hp
            refine Nat.ne_of_lt (hbc p ?_)
            rcases List.mem_cons.mp hp with rfl | hp
            · walk_at "mm"
            · exact .tail _ (.tail _ (.tail _ (.tail _ hp)))
          rw [List.reverse_replicate]
          obtain ⟨ur1, ur2, ur3⟩ := uld_rep wk ((gs k).length + 1) ys []
          rw [ur1, List.nil_append]
          generalize hlf : (uldR (List.replicate ((gs k).length + 1) wk) ys []).2 = lf at ur2 ur3 ⊢
          intro g'' tp mi ms lfv n1 n2 n3 h tk hT2 hms hlfv F N G
          have B := G.B; have X := G.X; have T := G.T
          refine unpk F N (.head _) rfl ?_
          intro h F N
          repeat walk_at "S"
          refine if_ ?_
          repeat walk_at "S"
          refine ne_same (by assumption) (by walk_at "mm") (by walk_at "mm") hms (strs_rep _) (by show un + 3 < _; omega) ?_
          repeat walk_at "S"
          refine ib_f ?_
          repeat walk_at "S"
          have hdl2 := strs_len hdv
          refine len_ (by assumption) (by walk_at "mm") (by omega) ?_
          intro t tk
          repeat walk_at "S"
          refine ibf (by rw [decide_eq_false_iff_not]; omega) ?_
          repeat walk_at "S"
          refine ib_f ?_
          repeat walk_at "S"
          refine if_ ?_
          repeat walk_at "S"
          refine newLs (by assumption) (by assumption) (by decide) ?_
          intro h el F N hel
          refine eq_nil (by assumption) (by walk_at "mm") (.head _) (by show un + 3 < _; omega) ?_
          repeat walk_at "S"
          have hml := strs_len hms
          rw [List.length_replicate] at hml
          by_cases hfire : (gs k).length + 1 ≤ ys.count wk
          · obtain rfl : ms = [] := List.eq_nil_of_length_eq_zero (by omega)
            refine ib_t ?_
            repeat walk_at "S"
            refine giN (by assumption) (by walk_at "mm") (by omega) hgk1 ?_
            repeat walk_at "S"
            have hlfl := strs_len hlfv
            refine addL (by assumption) (by assumption) (by walk_at "mm") (by walk_at "mm") (by rw [sizeLine_eq]; omega) ?_
            intro h nb F N hnb
            repeat walk_at "S"
            refine gm (by assumption) (by walk_at "mm") PySem.F.slot_list_append PySem.F.type_list_append ?_
            repeat walk_at "S"
            refine giN (by assumption) (by walk_at "mm") (by omega) hwv ?_
            repeat walk_at "S"
            rename_i F N
            refine append_ (n := dn) (its := dv) (rest := (hl, lst hv' hn') :: (nb, lst (lfv ++ gkv) 0) :: tl) F (news_sub N (by walk_at "pm")) (offc (Ne.symm hdh) (offc (Nat.ne_of_gt (hnb (dl, lst dv dn) (by walk_at "mm"))) ho2)) (by rw [sizeLine_eq]; omega) ?_
            intro h dn2 F N
            have hoh : ∀ p ∈ (nb, lst (lfv ++ gkv) 0) :: tl, p.1 ≠ hl := offc (Nat.ne_of_gt (hnb (hl, lst hv' hn') (by walk_at "mm"))) ho1
            have hod : ∀ p ∈ (nb, lst (lfv ++ gkv) 0) :: tl, p.1 ≠ dl := offc (Nat.ne_of_gt (hnb (dl, lst dv dn) (by walk_at "mm"))) ho2
            repeat walk_at "S"
            refine for_ ?_ (by intro _; with_unfolding_all rfl)
            repeat walk_at "S"
            refine giN (by assumption) (by walk_at "mm") (by omega) hwv ?_
            repeat walk_at "S"
            refine newLs (by assumption) (by assumption) (show 1 ≤ _ by rw [sizeLine_eq]; omega) ?_
            intro h l3 F N hl3
            repeat walk_at "S"
            refine giN (by assumption) (by walk_at "mm") (by omega) hgk1 ?_
            repeat walk_at "S"
            refine addL (by assumption) (by assumption) (by walk_at "mm") (by walk_at "mm") (by rw [sizeLine_eq]; show 1 + _ ≤ _; omega) ?_
            intro h fl F N hfl2
            refine iterL F N (.head _) ?_
            intro h it oit hoit F N hoffi
            have hws : StrsAre ([Value.str wk tw] ++ gkv) ([wk] ++ gs k) := strs_app (.cons _ _ .nil) hgk3
            have hwl := strs_len hws
            have hfire' : Fire ns gs ys0 (lf ++ gs k) (ds ++ [wk]) := .step hfi hk4 hwk hfire (fun a => by rw [List.count_append, ur2 a]) (by rw [List.length_append]; omega)
            have hlen' : (lf ++ gs k).length + 1 = ys.length := by rw [List.length_append]; omega
            have fli : fl ≠ it := hoffi (fl, _) (.head _)
            have dli : dl ≠ it := hoffi (dl, lst (dv ++ [Value.str wk tw]) dn2) (.tail _ (.tail _ (.head _)))
            have hli : hl ≠ it := hoffi (hl, lst hv' hn') (.tail _ (.tail _ (.tail _ (.head _))))
            have hfh : fl ≠ hl := Nat.ne_of_gt (hfl2 (hl, lst hv' hn') (.tail _ (.tail _ (.head _))))
            refine for_inv (fun n s' => ∃ i h tk m'' hv hn tl3 ks3 o, s' = st s h tk ∧ n = ([wk] ++ gs k).length - i ∧ i ≤ ([wk] ++ gs k).length ∧ IsItL fl i o ∧ Fr g'' L' h m'' ∧
              News g'' L' h ((it, o) :: (fl, lst ([Value.str wk tw] ++ gkv) 0) :: (hl, lst hv hn) :: (dl, lst (dv ++ [Value.str wk tw]) dn2) :: tl3) ∧
              (∀ p ∈ tl3, p.1 ≠ it) ∧ (∀ p ∈ tl3, p.1 ≠ hl) ∧ (∀ p ∈ tl3, p.1 ≠ dl) ∧ (∀ p ∈ (nb, lst (lfv ++ gkv) 0) :: tl, p ∈ tl3) ∧ HP rk tl3 hv ks3 ∧ ks3.Nodup ∧ (∀ j ∈ ks3, j < 4) ∧ (∀ j ∈ ks', j ∈ ks3) ∧
              (∀ x j, x ∈ ([wk] ++ gs k).take i → ns[j]? = some x → j ∈ ks3) ∧
              m'' (Str.ofString "bag") = some (.ref nb) ∧ m'' (Str.ofString "names") = some (.ref nl) ∧ m'' (Str.ofString "gives") = some (.ref gl) ∧ m'' (Str.ofString "heap") = some (.ref hl) ∧ m'' (Str.ofString "deals") = some (.ref dl)) ([wk] ++ gs k).length ?_ (fun _ => rfl) ?_
            · refine ⟨0, _, _, _, hv', hn', (nb, lst (lfv ++ gkv) 0) :: tl, ks', oit, rfl, rfl, by omega, hoit, F, news_sub N (by walk_at "pm"), fun p hp => hoffi p (.tail _ (.tail _ (.tail _ (.tail _ hp)))), hoh, hod, fun p hp => hp, hhp'.mono fun p hp => .tail _ hp,
                (List.nodup_cons.mp (pk.nodup_iff.mp hnd2)).2, fun j hj => hlt4 j (pk.mem_iff.mpr (.tail _ hj)), fun j hj => hj, fun x j hx => by simp at hx, by walk_at "lk", by walk_at "lk", by walk_at "lk", by walk_at "lk", by walk_at "lk"⟩
            · rintro n _ ⟨i, h, tk, m'', hv3, hn3, tl3, ks3, o3, rfl, rfl, hi, ho3, F, N, of1, of2, of3, hsub, hhp3, hnd3, hl43, hks3, hwd, r1, r2, r3, r4, r5⟩
              have hoff3 : ∀ p ∈ (fl, lst ([Value.str wk tw] ++ gkv) 0) :: (hl, lst hv3 hn3) :: (dl, lst (dv ++ [Value.str wk tw]) dn2) :: tl3, p.1 ≠ it := offc fli (offc hli (offc dli of1))
              rcases Nat.lt_or_ge i ([wk] ++ gs k).length with hlti | hge
              · obtain ⟨x, hx⟩ : ∃ x, ([wk] ++ gs k)[i]? = some x := ⟨_, List.getElem?_eq_getElem hlti⟩
                obtain ⟨tx, hxv⟩ := strs_get hws i x hx
                have hxn : x ∈ ns := by
                  rcases List.mem_append.mp (List.mem_of_getElem? hx) with z | z
                  · rw [List.mem_singleton.mp z]; exact List.mem_of_getElem? hwk
                  · exact (hgs k hk4).2 x z
                obtain ⟨j, hj⟩ := List.mem_iff_getElem?.mp hxn
                have hj4 : j < 4 := by have := (List.getElem?_eq_some_iff.mp hj).1; omega
                have hjno : ∀ i', i' < j → ns[i']? ≠ some x := fun i' hi' e => by
                  have := (List.getElem?_inj (i := i') (j := j) (by omega) hnd).mp (e.trans hj.symm)
                  omega
                obtain ⟨trj, hrj⟩ := hrv j hj4
                have htk : ([wk] ++ gs k).take (i + 1) = ([wk] ++ gs k).take i ++ [x] := by rw [List.take_add_one, hx]; rfl
                have j1 := hsub _ (.tail _ i1)
                have j4 := hsub _ (.tail _ i4)
                have j5 := hsub _ (.tail _ i5)
                refine fqL_step F N hoff3 ho3 (.head _) hxv (by kernel_rfl) rfl rfl ?_
                intro h tk o3' ho3' F N
                repeat walk_at "S"
                refine gm (by assumption) (by walk_at "mm") PySem.F.slot_list_index PySem.F.type_list_index ?_
                repeat walk_at "S"
                refine idxS (by assumption) (by walk_at "mm") hnv hj hjno (by omega) ?_
                intro t tk
                repeat walk_at "S"
                refine giN (by assumption) (by walk_at "mm") (by omega) hrj ?_
                repeat walk_at "S"
                refine gm (by assumption) (by walk_at "mm") PySem.F.slot_list_index PySem.F.type_list_index ?_
                repeat walk_at "S"
                refine idxS (by assumption) (by walk_at "mm") hnv hj hjno (by omega) ?_
                intro t tk
                repeat walk_at "S"
                refine newT (by assumption) (by assumption) (show 2 ≤ _ by rw [sizeLine_eq]; omega) ?_
                intro h q F N hq
                repeat walk_at "S"
                refine if_ ?_
                repeat walk_at "S"
                rename_i F N
                have Ntl : News g'' L' _ tl3 := news_sub N fun p hp => .tail _ (.tail _ (.tail _ (.tail _ (.tail _ hp))))
                refine notInT (fun v => @decide (HK rk tl3 j v) (Classical.propDecidable _)) N (by walk_at "mm") (.head _) (by show un + 3 < cLine - 1; omega) ?_ ?_
                · intro v hv
                  obtain ⟨kk, hkk, hK⟩ := hhp3.find v hv
                  have hK' := hK
                  obtain ⟨r, t', u', n', rfl, hm⟩ := hK
                  refine ⟨r, rk kk, kk, t', u', n', rfl, Nat.ne_of_lt (hq (r, _) (by walk_at "mm")), (by walk_at "mm"), ?_⟩
                  by_cases e : kk = j
                  · subst e; simp [hK']
                  · have : ¬ HK rk tl3 j (.ref r) := fun y => e (HK.uniq Ntl hK' y)
                    have e' : ((kk : Int) == (j : Int)) = false := by rw [beq_eq_false_iff_ne]; omega
                    simp [this, e']
                rw [HP.any hhp3 fun v _ kk x y => HK.uniq Ntl x y]
                repeat walk_at "S"
                by_cases hjk : j ∈ ks3
                · refine ibf (by simp [hjk]) ?_
                  repeat walk_at "S"
                  refine wl_next (([wk] ++ gs k).length - (i + 1)) (by omega) ⟨i + 1, _, _, _, hv3, hn3, tl3, ks3, o3', rfl, rfl, hlti, ho3', F, news_sub N (by walk_at "pm"), of1, of2, of3, hsub, hhp3, hnd3, hl43, hks3, ?_, by walk_at "lk", by walk_at "lk", by walk_at "lk", by walk_at "lk", by walk_at "lk"⟩
                  intro y jj hy hjj
                  rw [htk] at hy
                  rcases List.mem_append.mp hy with hy | hy
                  · exact hwd y jj hy hjj
                  · rw [List.mem_singleton.mp hy] at hjj
                    have := (List.getElem?_inj (i := jj) (j := j) (List.getElem?_eq_some_iff.mp hjj).1 hnd).mp (hjj.trans hj.symm)
                    rw [this]; exact hjk
                · refine ibt (by simp [hjk]) ?_
                  repeat walk_at "S"
                  refine push_call (rest := (q, tupO [.int (rk j) trj, .int (j : Nat) t] 0) :: (it, o3') :: (fl, lst ([Value.str wk tw] ++ gkv) 0) :: (dl, lst (dv ++ [Value.str wk tw]) dn2) :: tl3) (its := hv3) (n := hn3) (ret := ?_) B F X T (news_sub N (by walk_at "pm"))
                    (offc (Nat.ne_of_gt (hq (hl, lst hv3 hn3) (by walk_at "mm"))) (offc (Ne.symm hli) (offc hfh (offc hdh of2)))) (fun v hv => ((((hhp3.pairs v hv).mono).mono).mono).mono) ⟨q, rk j, j, trj, t, 0, rfl, .head _⟩ rfl (by rw [hhp3.len]; have := nodup_lt 4 ks3 hnd3 hl43; omega) (by show dp + 1 + 5 < _; omega) (by show un + 3 + 200 < _; omega)
                  intro its' h tk n' pm F N
                  obtain ⟨ks4, pk4, hp4⟩ := ((hhp3.mono (nw' := (q, tupO [.int (rk j) trj, .int (j : Nat) t] 0) :: tl3) fun p hp => List.Mem.tail _ hp).snoc (k := j) (v := .ref q) ⟨q, trj, t, 0, rfl, .head _⟩).perm pm.symm
                  have hm4 : ∀ z, z ∈ ks4 ↔ z ∈ ks3 ∨ z = j := fun z => by rw [← pk4.mem_iff]; simp
                  repeat walk_at "S"
                  refine wl_next (([wk] ++ gs k).length - (i + 1)) (by omega) ⟨i + 1, _, _, _, its', n', (q, tupO [.int (rk j) trj, .int (j : Nat) t] 0) :: tl3, ks4, o3', rfl, rfl, hlti, ho3', F, news_sub N (by walk_at "pm"), offc (Nat.ne_of_gt (hq (it, o3') (.head _))) of1, offc (Nat.ne_of_gt (hq (hl, lst hv3 hn3) (by walk_at "mm"))) of2, offc (Nat.ne_of_gt (hq (dl, lst (dv ++ [Value.str wk tw]) dn2) (by walk_at "mm"))) of3, fun p hp => .tail _ (hsub p hp), hp4, ?_, ?_, ?_, ?_, by walk_at "lk", by walk_at "lk", by walk_at "lk", by walk_at "lk", by walk_at "lk"⟩
                  · refine pk4.nodup_iff.mp (List.nodup_append.mpr ⟨hnd3, by simp, fun a ha b hb e => hjk ?_⟩)
                    rw [List.mem_singleton.mp hb] at e; rw [← e]; exact ha
                  · exact fun z hz => ((hm4 z).mp hz).elim (hl43 z) fun e => e ▸ hj4
                  · exact fun z hz => (hm4 z).mpr (.inl (hks3 z hz))
                  · intro y jj hy hjj
                    rw [htk] at hy
                    rcases List.mem_append.mp hy with hy | hy
                    · exact (hm4 jj).mpr (.inl (hwd y jj hy hjj))
                    · rw [List.mem_singleton.mp hy] at hjj
                      have := (List.getElem?_inj (i := jj) (j := j) (List.getElem?_eq_some_iff.mp hjj).1 hnd).mp (hjj.trans hj.symm)
                      exact (hm4 jj).mpr (.inr this)
              · refine fqL_end rfl F N hoff3 ho3 (.head _) (List.getElem?_eq_none (by rw [hwl]; omega)) ?_
                intro h F N
                repeat walk_at "S"
                have hk3l : ks3.length ≤ 4 := nodup_lt 4 ks3 hnd3 hl43
                have hkpos : 0 < ks.length := List.length_pos_iff.mpr hks
                refine wl_next (5 * (lf ++ gs k).length + ks3.length) (by omega) ⟨g'', _, _, _, nb, lfv ++ gkv, 0, hv3, hn3, dv ++ [Value.str wk tw], dn2, tl3, lf ++ gs k, ds ++ [wk], ks3, rfl, rfl, hT.trans hT2, G, F, news_sub N (by walk_at "pm"), of2, of3, fun p hp => hsub p (.tail _ (hin p hp)), hsub _ (.head _), strs_app hlfv hgk3, strs_app hdv (.cons _ _ .nil), hfire', hhp3, hnd3, hl43, ?_, r1, r2, r3, r4, r5⟩
                have hall : ∀ x jj, x ∈ [wk] ++ gs k → ns[jj]? = some x → jj ∈ ks3 := fun x jj hx => hwd x jj (by rw [List.take_of_length_le hge]; exact hx)
                intro jj v hjj hjn hv
                have hvw : v ≠ wk := fun e => hjn (hall v jj (by rw [e]; simp) hv)
                have hvg : v ∉ gs k := fun e => hjn (hall v jj (List.mem_append_right _ e) hv)
                rw [List.count_append, ur2 v, if_neg hvw, List.count_eq_zero.mpr hvg]
                have hjk : jj ≠ k := fun e => hvw (by rw [e, hwk] at hv; exact (Option.some.inj hv).symm)
                have := hstk jj v hjj (fun hm => (List.mem_cons.mp (pk.mem_iff.mp hm)).elim hjk fun z => hjn (hks3 jj z)) hv
                omega
          · refine ibf (by cases ms with
              | nil => rw [List.length_nil] at hml; omega
              | cons _ _ => rfl) ?_
            repeat walk_at "S"
            refine wl_next (5 * ys.length + ks'.length) (by have := pk.length_eq; rw [List.length_cons] at this; omega) ⟨g'', _, _, _, bl, bv, bn, hv', hn', dv, dn, tl, ys, ds, ks', rfl, rfl, hT.trans hT2, G, (by assumption), news_sub (news := (el, lst [] 0) :: (tp, tupO [Value.ref mi, Value.ref bc] 0) :: (mi, lst ms n3) :: (nd, lst [] n1) :: (bc, lst lfv n2) :: (lk, lst (List.replicate ((gs k).length + 1 - List.count wk ys) (Value.str wk tw)) 0) :: (hl, lst hv' hn') :: (dl, lst dv dn) :: tl) (by assumption) (by walk_at "pm"), ho1, ho2, hin, hbl, hbv, hdv, hfi, hhp', ?_, ?_, ?_, by walk_at "lk", by walk_at "lk", by walk_at "lk", by walk_at "lk", by walk_at "lk"⟩
            · exact (List.nodup_cons.mp (pk.nodup_iff.mp hnd2)).2
            · exact fun j hj => hlt4 j (pk.mem_iff.mpr (.tail _ hj))
            · intro j v hj hjn hv
              by_cases hjk : j = k
              · subst hjk
                rw [hwk] at hv; cases hv
                omega
              · exact hstk j v hj (fun hm => (List.mem_cons.mp (pk.mem_iff.mp hm)).elim hjk hjn) hv
/-- the bit k of a number -/
def bt (nu : Nat → Nat) (j k : Nat) : Nat := nu j / 2 ^ k % 2
def ned (nu : Nat → Nat) (k : Nat) : Nat := 1 + (bt nu k 0 + bt nu k 1 + bt nu k 2 + bt nu k 3)
def cme (th nu c : Nat → Nat) (k : Nat) : Nat := th k + (c 0 * bt nu 0 k + c 1 * bt nu 1 k + c 2 * bt nu 2 k + c 3 * bt nu 3 k)
def phi (th nu c : Nat → Nat) (k : Nat) : Nat := cme th nu c k / ned nu k
def il (f : Nat → Nat) (n : Nat) : List Int := (List.range n).map fun k => (f k : Int)
theorem bt_lt (nu : Nat → Nat) (j k : Nat) : bt nu j k < 2 := Nat.mod_lt _ (by decide)
theorem ned_le (nu : Nat → Nat) (k : Nat) : ned nu k ≤ 5 := by
  have := bt_lt nu k 0; have := bt_lt nu k 1; have := bt_lt nu k 2; have := bt_lt nu k 3
  unfold ned; omega
theorem ned_pos (nu : Nat → Nat) (k : Nat) : 1 ≤ ned nu k := by unfold ned; omega
theorem il_get {f : Nat → Nat} {n i : Nat} (hi : i < n) : (il f n)[i]? = some (f i : Int) := by
  simp [il, hi]
theorem il_succ (f : Nat → Nat) (n : Nat) : il f (n + 1) = il f n ++ [(f n : Int)] := by simp [il, List.range_succ]
theorem il_sum (f : Nat → Nat) : (il f 4).sum = ((f 0 + f 1 + f 2 + f 3 : Nat) : Int) := by
  simp [il, List.range_succ]; omega
theorem il_eq {f g : Nat → Nat} : il f 4 = il g 4 ↔ ∀ k, k < 4 → f k = g k := by
  constructor
  · intro e k hk
    have h1 := il_get (f := f) hk
    rw [e, il_get hk] at h1
    have := Option.some.inj h1
    omega
  · intro h
    simp only [il]
    refine List.map_congr_left fun k hk => ?_
    rw [h k (List.mem_range.mp hk)]
theorem ints_snoc {vs : List Value} {f : Nat → Nat} {n : Nat} {v : Int} {t : Tok} (h : IntsAre vs (il f n)) (e : v = (f n : Int)) : IntsAre (vs ++ [.int v t]) (il f (n + 1)) := by
  subst e; rw [il_succ]; exact h.append (.cons _ t .nil)
theorem pow_cast (j : Nat) : (2 : Int) ^ ((j : Nat) : Int).toNat = ((2 ^ j : Nat) : Int) := by
  rw [Int.toNat_natCast]; exact (Int.natCast_pow 2 j).symm
theorem fdiv_cast (a b : Nat) : ((a : Nat) : Int).fdiv (b : Nat) = ((a / b : Nat) : Int) := by
  rw [Int.fdiv_eq_ediv_of_nonneg _ (by omega)]; rfl
theorem fmod_cast (a b : Nat) : ((a : Nat) : Int).fmod (b : Nat) = ((a % b : Nat) : Int) := by
  rw [Int.fmod_eq_emod_of_nonneg _ (by omega)]; rfl
theorem fmod_two (a : Nat) : ((a : Nat) : Int).fmod 2 = ((a % 2 : Nat) : Int) := fmod_cast a 2
theorem cme_mono {th nu c d : Nat → Nat} (h : ∀ k, k < 4 → c k ≤ d k) (k : Nat) : cme th nu c k ≤ cme th nu d k := by
  have h0 := Nat.mul_le_mul_right (bt nu 0 k) (h 0 (by decide))
  have h1 := Nat.mul_le_mul_right (bt nu 1 k) (h 1 (by decide))
  have h2 := Nat.mul_le_mul_right (bt nu 2 k) (h 2 (by decide))
  have h3 := Nat.mul_le_mul_right (bt nu 3 k) (h 3 (by decide))
  unfold cme; omega
theorem phi_mono {th nu c d : Nat → Nat} (h : ∀ k, k < 4 → c k ≤ d k) (k : Nat) : phi th nu c k ≤ phi th nu d k := Nat.div_le_div_right (cme_mono h k)
theorem cme_congr {th nu c d : Nat → Nat} (h : ∀ k, k < 4 → c k = d k) (k : Nat) : cme th nu c k = cme th nu d k := by
  unfold cme; rw [h 0 (by decide), h 1 (by decide), h 2 (by decide), h 3 (by decide)]
theorem two_small {j : Nat} (hj : j < 4) : ((2 ^ j : Nat) : Int) ≠ 0 ∧ (((2 ^ j : Nat) : Int)).natAbs < 1073741824 := by
  rcases (show j = 0 ∨ j = 1 ∨ j = 2 ∨ j = 3 by omega) with rfl | rfl | rfl | rfl <;> decide
theorem bit_ok (a : Int) {nu : Nat → Nat} {j k : Nat} : IntMulOk a ((bt nu j k : Nat) : Int) := by
  refine IntMulOk.of_right ?_
  rcases (show bt nu j k = 0 ∨ bt nu j k = 1 by have := bt_lt nu j k; omega) with e | e <;> rw [e] <;> decide +kernel
section
variable {prog : Program} {w : World} {A : Around} {E : Value → Shared → Prop} {s : Shared} {h : Heap} {tk : Nat} {g : Heap} {L : Addr} {m : Str → Option Value} {news : List (Addr × Obj)} {l b : Addr} {its its2 : List Value} {n n2 : Nat} {Q : Value → Shared → Prop}
theorem sum_ {ns : List Int} (F : Fr g L h m) (N : News g L h news) (hl : (l, lst its n) ∈ news) (hi : IntsAre its ns) (h1 : ∀ h' tk' t', Fr g L h' m → News g L h' news → Q (.int ns.sum t') (st s h' tk')) (hh : A.handled = none := by rfl) :
    wpAny (model prog w) A (call (.builtin "sum") [.ref l]) Q E (st s h tk) :=
  LSm.sum_ints (s := st s h tk) F N hh ⟨_, N.get hl, rfl, n, rfl⟩ hi fun h' tk' t' F' N' => h1 h' tk' t' F' N'
theorem eqI {ns ms : List Int} (N : News g L h news) (hl : (l, lst its n) ∈ news) (hb : (b, lst its2 n2) ∈ news) (hi : IntsAre its ns) (hj : IntsAre its2 ms) (hu : A.units + 64 < cLine) (h1 : Q (.bool (decide (ns = ms))) (st s h tk)) :
    wpAny (model prog w) A (compareOp .Eq (.ref l) (.ref b)) Q E (st s h tk) :=
  ke_eq_ints (s := st s h tk) ⟨_, N.get hl, rfl, n, rfl⟩ ⟨_, N.get hb, rfl, n2, rfl⟩ hi hj hu h1
end
theorem st_sty {s : Shared} {h h' : Heap} {tk tk' : Nat} : st (st s h tk) h' tk' = st s h' tk' := rfl
theorem cells5 {cm : Str → Option Value} {n1 n2 n3 n4 n5 : Str} {c1 c2 c3 c4 c5 : Addr} {v1 v2 v3 v4 v5 : Option Value} {cells : List (Addr × Obj)} (x : CellsAre cm [(n5, c5), (n4, c4), (n3, c3), (n2, c2), (n1, c1)] cells) (e1 : cm n1 = v1) (e2 : cm n2 = v2) (e3 : cm n3 = v3) (e4 : cm n4 = v4) (e5 : cm n5 = v5) :
    ∃ o1 o2 o3 o4 o5, cells = [(c5, o5), (c4, o4), (c3, o3), (c2, o2), (c1, o1)] ∧ o1.data = .cell v1 ∧ o2.data = .cell v2 ∧ o3.data = .cell v3 ∧ o4.data = .cell v4 ∧ o5.data = .cell v5 := by
  subst e1 e2 e3 e4 e5
  cases x with
  | cons h5 x => cases x with
    | cons h4 x => cases x with
      | cons h3 x => cases x with
        | cons h2 x => cases x with
          | cons h1 x => cases x; exact ⟨_, _, _, _, _, rfl, h1, h2, h3, h4, h5⟩
set_option maxRecDepth 100000 in
set_option maxHeartbeats 8000000 in
theorem reck_call {w : World} {mean : ExcName → Option Value} {mg mb : Str → Option Value} {dp un : Nat} {gd : Option (List Code)} {cn : Str} {cs : Scope} {a : Addr} {ccd : Value} {cl : List (Str × Addr)} {outer : List Env} {A₀ : Around} {base h₀ : Heap} {L : Addr} {m : Str → Option Value} {rest : List (Addr × Obj)} {tl nl : Addr} {tv nv : List Value} {tn nn : Nat} {th nu f : Nat → Nat} {s : Shared} {h : Heap} {tk : Nat} {Q E : Value → Shared → Prop}
  (G : Grd A₀ base outer (Mine.hd.heap_39 w.params) PV LO mean mg mb h₀) (F : Fr h₀ L h m) (N : News h₀ L h rest)
  (htl : (tl, lst tv tn) ∈ rest) (htv : IntsAre tv (il th 4)) (hnl : (nl, lst nv nn) ∈ rest) (hnv : IntsAre nv (il nu 4)) (hth : ∀ k, k < 4 → th k < 100) (hnu : ∀ k, k < 4 → nu k < 16) (hf16 : ∀ k, k < 4 → f k ≤ 1000)
  (hfix : ∀ k, k < 4 → f k = phi th nu f k) (hlst : ∀ c : Nat → Nat, (∀ k, k < 4 → c k = phi th nu c k) → ∀ k, k < 4 → f k ≤ c k) (hk : cs.kind = .function)
  (hd : dp + 20 < recursionLimit) (hu : un + 500 < cLine)
  (ret : ∀ h₀' t cl rl cv rv cn rn h' tk', KtsTurn (outer.filterMap (·.frame)) h₀ h₀' → IntsAre cv (il f 4) → IntsAre rv (il (fun k => cme th nu f k % ned nu k) 4) → Fr h₀' L h' m →
    News h₀' L h' ((t, tupO [.ref cl, .ref rl] 0) :: (cl, lst cv cn) :: (rl, lst rv rn) :: rest) → Grd A₀ base outer (Mine.hd.heap_39 w.params) PV LO mean mg mb h₀' → Q (.ref t) (st s h' tk')) :
  wpAny (model Challenge.rw_op0026_01.row.prog w) (ktrTop dp un gd cn cs L a ccd cl outer) (call (.ref 74) [.ref tl, .ref nl]) Q E (st s h tk) := by
  have X := G.X
  revert X; k_fill; intro X
  refine' enterC [(Str.ofString "things", .ref tl), (Str.ofString "numbers", .ref nl)] G F N hk ?k6 ?k7 (by omega) (BindsTo.of_eq ?k9) ?kB ?kC ?_ ?c2 ?c3 ?c4
  case k6 => k_is
  case k7 => k_is
  case k9 => rfl
  case kB =>
    intro n x hx
    simp only [List.mem_cons, List.not_mem_nil, or_false] at hx
    rcases hx with rfl | rfl
    · exact .inr ⟨by kernel_rfl, by with_unfolding_all rfl⟩
    · exact .inr ⟨by kernel_rfl, by with_unfolding_all rfl⟩
  case kC => decide
  case c2 => rfl
  case c3 => rfl
  case c4 => rfl
  clear X
  intro g L' h tk cells F N C G hlt
  have F' : Fr g L' h (fun _ => none) := F
  obtain ⟨a1, ha1⟩ : ∃ a1, a1 = L' + 1 := ⟨_, rfl⟩
  obtain ⟨a2, ha2⟩ : ∃ a2, a2 = L' + 1 + 1 := ⟨_, rfl⟩
  obtain ⟨a3, ha3⟩ : ∃ a3, a3 = L' + 1 + 1 + 1 := ⟨_, rfl⟩
  obtain ⟨a4, ha4⟩ : ∃ a4, a4 = L' + 1 + 1 + 1 + 1 := ⟨_, rfl⟩
  obtain ⟨a5, ha5⟩ : ∃ a5, a5 = L' + 1 + 1 + 1 + 1 + 1 := ⟨_, rfl⟩
  have C' : ∃ o1 o2 o3 o4 o5, cells = [(a5, o5), (a4, o4), (a3, o3), (a2, o2), (a1, o1)] ∧ o1.data = .cell (some (.ref tl)) ∧ o2.data = .cell (some (.ref nl)) ∧ o3.data = .cell none ∧ o4.data = .cell none ∧ o5.data = .cell none := by
    subst ha1 ha2 ha3 ha4 ha5
    exact cells5 C rfl rfl rfl rfl rfl
  obtain ⟨o1, o2, o3, o4, o5, rfl, d1, d2, d3, d4, d5⟩ := C'
  have N' : News g L' h ((a5, o5) :: (a4, o4) :: (a3, o3) :: (a2, o2) :: (a1, o1) :: rest) := N
  clear F N C
  generalize hcl : cellsFrom (L' + 1) _ [] = cls
  have hcl2 : cls = [(Str.ofString "come", a5), (Str.ofString "counts", a4), (Str.ofString "needs", a3), (Str.ofString "numbers", a2), (Str.ofString "things", a1)] := by
    subst ha1 ha2 ha3 ha4 ha5; exact hcl.symm
  subst hcl2
  clear hcl
  have F := F'; have N := N'; clear F' N'
  have B := G.B; have X := G.X; have T := G.T
  have hlr : ∀ p ∈ rest, @LT.lt Nat _ p.1 L' := hlt
  have e1 : @Eq Nat a1 (L' + 1) := ha1
  have e2 : @Eq Nat a2 (L' + 1 + 1) := ha2
  have e3 : @Eq Nat a3 (L' + 1 + 1 + 1) := ha3
  have e4 : @Eq Nat a4 (L' + 1 + 1 + 1 + 1) := ha4
  have e5 : @Eq Nat a5 (L' + 1 + 1 + 1 + 1 + 1) := ha5
  clear ha1 ha2 ha3 ha4 ha5
  repeat walk_at "Z"
  refine' lcC ?clos rfl ?nam ?_ ?fs
  case clos => with_unfolding_all rfl
  case nam => decide
  case fs => intro _; with_unfolding_all rfl
  repeat walk_at "Z"
  refine csrcL (news := (a5, o5) :: (a4, o4) :: (a3, o3) :: (a2, o2) :: (a1, o1) :: rest) (its := nv) (fun i ys nw => nw = (a5, o5) :: (a4, o4) :: (a3, o3) :: (a2, o2) :: (a1, o1) :: rest ∧ IntsAre ys (il (ned nu) i)) F N (fun p hp => hp) (by walk_at "mm") (by rw [hnv.length, sizeLine_eq]; show 4 ≤ _; omega) ⟨rfl, .nil⟩ (fun _ => rfl) (fun _ => rfl) rfl rfl ?_ ?_
  · rintro i v ys _ I oI C oC K oK D h tk hi hv ⟨rfl, hys⟩ hK F N hoff
    have hi4 : i < 4 := by rw [hnv.length] at hi; exact hi
    obtain ⟨ti, hvi⟩ := hnv.get i _ (il_get hi4)
    rw [hvi] at hv; cases hv
    repeat walk_at "Z"
    refine' lcE F ?clos ?cel rfl ?nam ?x1 ?_ ?fs
    case clos => with_unfolding_all rfl
    case cel => decide
    case nam => decide
    case x1 => kernel_rfl
    case fs => intro _; with_unfolding_all rfl
    repeat walk_at "Z"
    refine range1 (by assumption) (by assumption) ?_
    intro h tk r t1 t2 F N _
    refine srcR (n := 4) (news := (I, oI) :: (C, oC) :: (K, oK) :: (D, lst ys ys.length) :: (a5, o5) :: (a4, o4) :: (a3, o3) :: (a2, o2) :: (a1, o1) :: rest) (fun j zs nw => nw = (I, oI) :: (C, oC) :: (K, oK) :: (D, lst ys ys.length) :: (a5, o5) :: (a4, o4) :: (a3, o3) :: (a2, o2) :: (a1, o1) :: rest ∧ IntsAre zs (il (bt nu i) j)) F N (.head _) (by decide +kernel) (by decide +kernel) (by rw [sizeLine_eq]; omega) (fun p hp => .tail _ hp) ⟨rfl, .nil⟩ ?_ ?_
    · rintro j tj zs _ I2 oI2 C2 oC2 D2 m₂ h tk hj ⟨rfl, hzs⟩ hC2 hm2 F N hoff2
      repeat walk_at "Z"
      refine b_pow (by omega) (by omega) (by decide) ?_
      intro t tk
      repeat walk_at "Z"
      obtain ⟨p1, p2⟩ := two_small hj
      rw [pow_cast]
      refine b_div p1 p2 ?_
      intro t tk
      rw [fdiv_cast]
      repeat walk_at "Z"
      refine ⟨h, _, _, rfl, F, N, ?_, trivial, rfl, ints_snoc hzs (fmod_cast _ 2)⟩
      intro p hp q hq
      obtain ⟨q1, q2, q3⟩ := hoff2 p hp
      simp only [List.mem_cons, List.not_mem_nil, or_false] at hq
      rcases hq with rfl | rfl | rfl
      · exact q1
      · exact q2
      · exact q3
    · rintro g' zs _ ⟨rfl, hzs⟩
      refine finE ?_
      intro D2 h tk F N hoff2
      rw [st_sty]
      repeat walk_at "Z"
      refine sum_ F N (.head _) hzs ?_
      intro h tk t F N
      rw [il_sum]
      repeat walk_at "Z"
      refine ⟨h, _, _, rfl, F, news_sub N (fun p hp => .tail _ hp), ?_, ⟨nn, by walk_at "mm"⟩, rfl, ints_snoc hys (by unfold ned; omega)⟩
      intro p hp q hq
      obtain ⟨q1, q2, q3, q4⟩ := hoff p hp
      simp only [List.mem_cons, List.not_mem_nil, or_false] at hq
      rcases hq with rfl | rfl | rfl | rfl
      · exact q1
      · exact q2
      · exact q3
      · exact q4
  · rintro ev _ eD h tk ⟨rfl, hev⟩ F N hoff
    repeat walk_at "Z"
    have hev4 : IntsAre ev (il (ned nu) 4) := by rw [hnv.length] at hev; exact hev
    refine sc (rest := (eD, lst ev ev.length) :: (a5, o5) :: (a4, o4) :: (a2, o2) :: (a1, o1) :: rest) F (news_sub N (by walk_at "pm")) ?_ (by with_unfolding_all rfl) d3 ?_ (by kernel_rfl)
    · exact offc (Ne.symm (hoff (a3, o3) (by walk_at "mm"))) (offc (show @Ne Nat a5 a3 by omega) (offc (show @Ne Nat a4 a3 by omega) (offc (show @Ne Nat a2 a3 by omega) (offc (show @Ne Nat a1 a3 by omega) fun p hp => by
        have := hlr p hp
        exact show @Ne Nat p.1 a3 by omega))))
    intro h o3' d3' F N
    repeat walk_at "Z"
    refine newLs (by assumption) (by assumption) (show 4 ≤ _ by rw [sizeLine_eq]; omega) ?_
    intro h cD F N hcD
    repeat walk_at "Z"
    have h4 : ∀ p ∈ (a3, o3') :: (eD, lst ev ev.length) :: (a2, o2) :: (a1, o1) :: rest, p.1 ≠ a4 := offc (show @Ne Nat a3 a4 by omega) (offc (Ne.symm (hoff (a4, o4) (by walk_at "mm"))) (offc (show @Ne Nat a2 a4 by omega) (offc (show @Ne Nat a1 a4 by omega) fun p hp => by
        have := hlr p hp
        exact show @Ne Nat p.1 a4 by omega)))
    have h5 : ∀ p ∈ (a3, o3') :: (eD, lst ev ev.length) :: (a2, o2) :: (a1, o1) :: rest, p.1 ≠ a5 := offc (show @Ne Nat a3 a5 by omega) (offc (Ne.symm (hoff (a5, o5) (by walk_at "mm"))) (offc (show @Ne Nat a2 a5 by omega) (offc (show @Ne Nat a1 a5 by omega) fun p hp => by
        have := hlr p hp
        exact show @Ne Nat p.1 a5 by omega)))
    have h45 : a4 ≠ a5 := show @Ne Nat a4 a5 by omega
    refine sc (rest := (cD, lst _ 0) :: (a5, o5) :: (a3, o3') :: (eD, lst ev ev.length) :: (a2, o2) :: (a1, o1) :: rest) F (news_sub N (by walk_at "pm")) (offc (Nat.ne_of_gt (hcD (a4, o4) (by walk_at "mm"))) (offc (Ne.symm h45) h4)) (by with_unfolding_all rfl) d4 ?_ (by kernel_rfl)
    intro h o4' d4' F N
    repeat walk_at "Z"
    refine while_ (fun n s' => ∃ h tk m' c cD cv cn o4 o5 v5, s' = st s h tk ∧ n = (f 0 + f 1 + f 2 + f 3) - (c 0 + c 1 + c 2 + c 3) ∧ Fr g L' h m' ∧ News g L' h ((a4, o4) :: (a5, o5) :: (cD, lst cv cn) :: (a3, o3') :: (eD, lst ev ev.length) :: (a2, o2) :: (a1, o1) :: rest) ∧
      o4.data = .cell (some (.ref cD)) ∧ o5.data = .cell v5 ∧ cD ≠ a4 ∧ cD ≠ a5 ∧ IntsAre cv (il c 4) ∧ (∀ k, k < 4 → c k ≤ f k) ∧ (∀ k, k < 4 → c k ≤ phi th nu c k)) (f 0 + f 1 + f 2 + f 3) ?_ ?_
    · exact ⟨_, _, _, fun _ => 0, cD, _, _, o4', o5, none, rfl, rfl, F, news_sub N (by walk_at "pm"), d4', d5, Nat.ne_of_gt (hcD (a4, o4) (by walk_at "mm")), Nat.ne_of_gt (hcD (a5, o5) (by walk_at "mm")), .cons 0 _ (.cons 0 _ (.cons 0 _ (.cons 0 _ .nil))), fun k _ => Nat.zero_le _, fun k _ => Nat.zero_le _⟩
    · rintro n _ ⟨h, tk, m', c, cD, cv, cn', o4, o5, v5, rfl, rfl, F, N, d4, d5, c4, c5, hcv, hcf, hcp⟩
      repeat walk_at "Z"
      refine ib_t ?_
      repeat walk_at "Z"
      refine' lcC ?clos rfl ?nam ?_ ?fs
      case clos => with_unfolding_all rfl
      case nam => decide
      case fs => intro _; with_unfolding_all rfl
      repeat walk_at "Z"
      refine range1 (by assumption) (by assumption) ?_
      intro h tk r t1 t2 F N _
      refine csrcR (n := 4) (news := (a4, o4) :: (a5, o5) :: (cD, lst cv cn') :: (a3, o3') :: (eD, lst ev ev.length) :: (a2, o2) :: (a1, o1) :: rest) (fun i ys nw => nw = (a4, o4) :: (a5, o5) :: (cD, lst cv cn') :: (a3, o3') :: (eD, lst ev ev.length) :: (a2, o2) :: (a1, o1) :: rest ∧ IntsAre ys (il (cme th nu c) i)) F N (.head _) (by decide +kernel) (by decide +kernel) (by rw [sizeLine_eq]; omega) (fun p hp => .tail _ hp) ⟨rfl, .nil⟩ (fun _ => rfl) (fun _ => rfl) rfl rfl ?_ ?_
      · rintro i ti ys _ I oI C oC K oK D h tk hi ⟨rfl, hys⟩ hK F N hoffK
        obtain ⟨tt, hti⟩ := htv.get i _ (il_get hi)
        repeat walk_at "Z"
        refine giN N (by walk_at "mm") (by omega) hti ?_
        repeat walk_at "Z"
        refine' lcE F ?clos ?cel rfl ?nam ?x1 ?_ ?fs
        case clos => with_unfolding_all rfl
        case cel => decide
        case nam => decide
        case x1 => kernel_rfl
        case fs => intro _; with_unfolding_all rfl
        repeat walk_at "Z"
        refine range1 (by assumption) (by assumption) ?_
        intro h tk r t1 t2 F N _
        refine srcR (n := 4) (news := (I, oI) :: (C, oC) :: (K, oK) :: (D, lst ys ys.length) :: (a4, o4) :: (a5, o5) :: (cD, lst cv cn') :: (a3, o3') :: (eD, lst ev ev.length) :: (a2, o2) :: (a1, o1) :: rest) (fun j zs nw => nw = (I, oI) :: (C, oC) :: (K, oK) :: (D, lst ys ys.length) :: (a4, o4) :: (a5, o5) :: (cD, lst cv cn') :: (a3, o3') :: (eD, lst ev ev.length) :: (a2, o2) :: (a1, o1) :: rest ∧ IntsAre zs (il (fun j => c j * bt nu j i) j)) F N (.head _) (by decide +kernel) (by decide +kernel) (by rw [sizeLine_eq]; omega) (fun p hp => .tail _ hp) ⟨rfl, .nil⟩ ?_ ?_
        · rintro j tj zs _ I2 oI2 C2 oC2 D2 m₂ h tk hj ⟨rfl, hzs⟩ hC2 hm2 F N hoff2
          obtain ⟨tc, htc⟩ := hcv.get j _ (il_get hj)
          obtain ⟨tn', htn⟩ := hnv.get j _ (il_get hj)
          repeat walk_at "Z"
          refine giN N (by walk_at "mm") (by omega) htc ?_
          repeat walk_at "Z"
          refine giN N (by walk_at "mm") (by omega) htn ?_
          repeat walk_at "Z"
          refine b_pow (by omega) (by omega) (by decide) ?_
          intro t tk
          repeat walk_at "Z"
          obtain ⟨p1, p2⟩ := two_small hi
          rw [pow_cast]
          refine b_div p1 p2 ?_
          intro t tk
          rw [fdiv_cast]
          repeat walk_at "Z"
          rw [fmod_two]
          refine b_mul ?_ (show IntMulOk _ (((nu j / 2 ^ i % 2 : Nat)) : Int) from bit_ok _)
          intro t tk
          refine ⟨h, _, _, rfl, F, N, ?_, trivial, rfl, ints_snoc hzs (Int.natCast_mul _ _).symm⟩
          intro p hp q hq
          obtain ⟨q1, q2, q3⟩ := hoff2 p hp
          simp only [List.mem_cons, List.not_mem_nil, or_false] at hq
          rcases hq with rfl | rfl | rfl
          · exact q1
          · exact q2
          · exact q3
        · rintro g' zs _ ⟨rfl, hzs⟩
          refine finE ?_
          intro D2 h tk F N hoff2
          rw [st_sty]
          repeat walk_at "Z"
          refine sum_ F N (.head _) hzs ?_
          intro h tk t F N
          rw [il_sum]
          repeat walk_at "Z"
          refine ⟨h, _, _, rfl, F, news_sub N (fun p hp => .tail _ hp), ?_, trivial, rfl, ints_snoc hys (Int.natCast_add _ _).symm⟩
          intro p hp q hq
          obtain ⟨q1, q2, q3, q4⟩ := hoffK p hp
          simp only [List.mem_cons, List.not_mem_nil, or_false] at hq
          rcases hq with rfl | rfl | rfl | rfl
          · exact q1
          · exact q2
          · exact q3
          · exact q4
      · rintro mv _ mD h tk ⟨rfl, hmv⟩ F N hoffm
        repeat walk_at "Z"
        refine sc (rest := (mD, lst mv mv.length) :: (a4, o4) :: (cD, lst cv cn') :: (a3, o3') :: (eD, lst ev ev.length) :: (a2, o2) :: (a1, o1) :: rest) F (news_sub N (by walk_at "pm")) (offc (Ne.symm (hoffm (a5, o5) (by walk_at "mm"))) (offc h45 (offc c5 h5))) (by with_unfolding_all rfl) d5 ?_ (by kernel_rfl)
        intro h o5' d5' F N
        repeat walk_at "Z"
        refine' lcA F ?sw ?clos ?cel rfl ?nam ?x1 ?y1 ?_ ?fs
        case sw => with_unfolding_all rfl
        case clos => with_unfolding_all rfl
        case cel => decide
        case nam => decide
        case x1 => kernel_rfl
        case y1 => kernel_rfl
        case fs => intro _; with_unfolding_all rfl
        repeat walk_at "Z"
        refine range1 (by assumption) (by assumption) ?_
        intro h tk r t1 t2 F N _
        refine srcR (n := 4) (news := (a5, o5') :: (mD, lst mv mv.length) :: (a4, o4) :: (cD, lst cv cn') :: (a3, o3') :: (eD, lst ev ev.length) :: (a2, o2) :: (a1, o1) :: rest) (fun j zs nw => nw = (a5, o5') :: (mD, lst mv mv.length) :: (a4, o4) :: (cD, lst cv cn') :: (a3, o3') :: (eD, lst ev ev.length) :: (a2, o2) :: (a1, o1) :: rest ∧ IntsAre zs (il (phi th nu c) j)) F N (.head _) (by decide +kernel) (by decide +kernel) (by rw [sizeLine_eq]; omega) (fun p hp => .tail _ hp) ⟨rfl, .nil⟩ ?_ ?_
        · rintro j tj zs _ I2 oI2 C2 oC2 D2 m₂ h tk hj ⟨rfl, hzs⟩ hC2 hm2 F N hoff2
          obtain ⟨tc, htc⟩ := hmv.get j _ (il_get hj)
          obtain ⟨tn', htn⟩ := hev4.get j _ (il_get hj)
          repeat walk_at "Z"
          refine giN N (by walk_at "mm") (by omega) htc ?_
          repeat walk_at "Z"
          refine giN N (by walk_at "mm") (by omega) htn ?_
          repeat walk_at "Z"
          have := ned_pos nu j; have := ned_le nu j
          refine b_div (by omega) (by omega) ?_
          intro t tk
          rw [fdiv_cast]
          refine ⟨h, _, _, rfl, F, N, ?_, trivial, rfl, ints_snoc hzs rfl⟩
          intro p hp q hq
          obtain ⟨q1, q2, q3⟩ := hoff2 p hp
          simp only [List.mem_cons, List.not_mem_nil, or_false] at hq
          rcases hq with rfl | rfl | rfl
          · exact q1
          · exact q2
          · exact q3
        · rintro g' av _ ⟨rfl, hav⟩
          refine finA ?_
          intro aD h tk F N hoffa
          rw [st_sty]
          repeat walk_at "Z"
          refine if_ ?_
          repeat walk_at "Z"
          refine eqI N (.head _) (by walk_at "mm") hav hcv (by show un + 3 + 64 < _; omega) ?_
          repeat walk_at "Z"
          by_cases heq : il (phi th nu c) 4 = il c 4
          · have hc := il_eq.mp heq
            have hcf' : ∀ k, k < 4 → c k = f k := fun k hk => Nat.le_antisymm (hcf k hk) (hlst c (fun k hk => (hc k hk).symm) k hk)
            refine ibt (decide_eq_true heq) ?_
            repeat walk_at "Z"
            refine' lcE F ?clos ?cel rfl ?nam ?x1 ?_ ?fs
            case clos => with_unfolding_all rfl
            case cel => decide
            case nam => decide
            case x1 => kernel_rfl
            case fs => intro _; with_unfolding_all rfl
            repeat walk_at "Z"
            refine range1 (by assumption) (by assumption) ?_
            intro h tk r t1 t2 F N _
            refine srcR (n := 4) (news := (a5, o5') :: (mD, lst mv mv.length) :: (a4, o4) :: (cD, lst cv cn') :: (a3, o3') :: (eD, lst ev ev.length) :: (a2, o2) :: (a1, o1) :: rest) (fun j zs nw => nw = (a5, o5') :: (mD, lst mv mv.length) :: (a4, o4) :: (cD, lst cv cn') :: (a3, o3') :: (eD, lst ev ev.length) :: (a2, o2) :: (a1, o1) :: rest ∧ IntsAre zs (il (fun k => cme th nu c k % ned nu k) j)) F N (.head _) (by decide +kernel) (by decide +kernel) (by rw [sizeLine_eq]; omega) (fun p hp => .tail _ (.tail _ hp)) ⟨rfl, .nil⟩ ?_ ?_
            · rintro j tj zs _ I2 oI2 C2 oC2 D2 m₂ h tk hj ⟨rfl, hzs⟩ hC2 hm2 F N hoff2
              obtain ⟨tc, htc⟩ := hmv.get j _ (il_get hj)
              obtain ⟨tn', htn⟩ := hev4.get j _ (il_get hj)
              repeat walk_at "Z"
              refine giN N (by walk_at "mm") (by omega) htc ?_
              repeat walk_at "Z"
              refine giN N (by walk_at "mm") (by omega) htn ?_
              repeat walk_at "Z"
              have := ned_pos nu j
              refine b_mod (by omega) ?_
              intro t tk
              rw [fmod_cast]
              refine ⟨h, _, _, rfl, F, N, ?_, trivial, rfl, ints_snoc hzs rfl⟩
              intro p hp q hq
              obtain ⟨q1, q2, q3⟩ := hoff2 p hp
              simp only [List.mem_cons, List.not_mem_nil, or_false] at hq
              rcases hq with rfl | rfl | rfl
              · exact q1
              · exact q2
              · exact q3
            · rintro g' rv _ ⟨rfl, hrv⟩
              refine finE ?_
              intro rD h tk F N hoffr
              rw [st_sty]
              repeat walk_at "Z"
              refine newT F N (show 2 ≤ _ by rw [sizeLine_eq]; omega) ?_
              intro h tp F N _
              repeat walk_at "Z"
              refine wl_ret ?_
              refine ⟨g, h, _, _, (tp, tupO [.ref cD, .ref rD] 0) :: (cD, lst cv cn') :: (rD, lst rv rv.length) :: rest, rfl, .refl, F, news_sub N ?_, fun h₀' T0 F0 N0 G0 => ret h₀' tp cD rD cv rv cn' rv.length _ _ T0 (il_eq.mpr hcf' ▸ hcv) ?_ F0 N0 G0⟩
              · intro p hp
                simp only [List.mem_cons] at hp
                rcases hp with rfl | rfl | rfl | hp
                · walk_at "mm"
                · walk_at "mm"
                · walk_at "mm"
                · exact .tail _ (.tail _ (.tail _ (.tail _ (.tail _ (.tail _ (.tail _ (.tail _ (.tail _ (.tail _ hp)))))))))
              · have e : il (fun k => cme th nu c k % ned nu k) 4 = il (fun k => cme th nu f k % ned nu k) 4 := il_eq.mpr fun k _ => by show _ % _ = _ % _; rw [cme_congr hcf' k]
                rw [← e]; exact hrv
          · refine ibf (decide_eq_false heq) ?_
            repeat walk_at "Z"
            refine sc (rest := (aD, lst av av.length) :: (a5, o5') :: (a3, o3') :: (eD, lst ev ev.length) :: (a2, o2) :: (a1, o1) :: rest) F (news_sub N (by walk_at "pm")) (offc (Ne.symm (hoffa (a4, o4) (by walk_at "mm"))) (offc (Ne.symm h45) h4)) (by with_unfolding_all rfl) d4 ?_ (by kernel_rfl)
            intro h o4' d4' F N
            repeat walk_at "Z"
            have hcp2 : ∀ k, k < 4 → phi th nu c k ≤ f k := fun k hk => by rw [hfix k hk]; exact phi_mono hcf k
            refine wl_next ((f 0 + f 1 + f 2 + f 3) - (phi th nu c 0 + phi th nu c 1 + phi th nu c 2 + phi th nu c 3)) ?_ ⟨h, _, _, phi th nu c, aD, av, av.length, o4', o5', _, rfl, rfl, F, news_sub N (by walk_at "pm"), d4', d5', Ne.symm (hoffa (a4, o4) (by walk_at "mm")), Ne.symm (hoffa (a5, o5') (by walk_at "mm")), hav, hcp2, fun k _ => phi_mono hcp k⟩
            have hne : ¬ ∀ k, k < 4 → phi th nu c k = c k := fun h => heq (il_eq.mpr h)
            have g0 := hcp 0 (by decide); have g1 := hcp 1 (by decide); have g2 := hcp 2 (by decide); have g3 := hcp 3 (by decide)
            have k0 := hcp2 0 (by decide); have k1 := hcp2 1 (by decide); have k2 := hcp2 2 (by decide); have k3 := hcp2 3 (by decide)
            have : ¬ (phi th nu c 0 = c 0 ∧ phi th nu c 1 = c 1 ∧ phi th nu c 2 = c 2 ∧ phi th nu c 3 = c 3) := fun z => hne fun k hk => by
              rcases (show k = 0 ∨ k = 1 ∨ k = 2 ∨ k = 3 by omega) with rfl | rfl | rfl | rfl
              · exact z.1
              · exact z.2.1
              · exact z.2.2.1
              · exact z.2.2.2
            omega
theorem cme_upd {th nu c c' : Nat → Nat} {k : Nat} (hk : k < 4) (h : ∀ j, j < 4 → c' j = c j + if j = k then 1 else 0) (j : Nat) : cme th nu c' j = cme th nu c j + bt nu k j := by
  unfold cme
  rw [h 0 (by decide), h 1 (by decide), h 2 (by decide), h 3 (by decide)]
  rcases (show k = 0 ∨ k = 1 ∨ k = 2 ∨ k = 3 by omega) with rfl | rfl | rfl | rfl <;> simp [Nat.add_mul] <;> omega
section
variable {ns : List Str} {gs : Nat → List Str} {ys0 ys ds : List Str} {nf : Nat → Str} {th nu : Nat → Nat}
theorem nf_inj (hn : ∀ k, k < 4 → ns[k]? = some (nf k)) (hnd : ns.Nodup) {j k : Nat} (hj : j < 4) (hk : k < 4) (e : nf j = nf k) : j = k :=
  (List.getElem?_inj (List.getElem?_eq_some_iff.mp (hn j hj)).1 hnd).mp (by rw [hn j hj, hn k hk, e])
/-- what an exchange does to the counts -/
theorem Fire.count (x : Fire ns gs ys0 ys ds) (hn : ∀ k, k < 4 → ns[k]? = some (nf k)) (hnd : ns.Nodup) (hg : ∀ k j, k < 4 → j < 4 → (gs k).count (nf j) = bt nu k j) (hl : ∀ k, k < 4 → (gs k).length + 1 = ned nu k) (h0 : ∀ j, j < 4 → ys0.count (nf j) = th j) :
    ∀ j, j < 4 → ys.count (nf j) + ds.count (nf j) * ned nu j = cme th nu (fun k => ds.count (nf k)) j := by
  induction x with
  | start => intro j hj; rw [h0 j hj]; simp [cme]
  | @step ys ds ys' k w _ hk hw hc hcnt _ ih =>
    intro j hj
    have hwk : w = nf k := by rw [hn k hk] at hw; exact (Option.some.inj hw).symm
    subst hwk
    have hupd : ∀ j, j < 4 → (ds ++ [nf k]).count (nf j) = ds.count (nf j) + if j = k then 1 else 0 := fun j hj => by
      rw [List.count_append]
      congr 1
      by_cases e : j = k
      · subst e; simp
      · rw [if_neg e]
        exact List.count_eq_zero.mpr fun hm => e (nf_inj hn hnd hj hk (List.mem_singleton.mp hm))
    rw [cme_upd (c := fun k => ds.count (nf k)) hk (fun j hj => hupd j hj) j, ← ih j hj, hcnt, hg k j hk hj, hupd j hj]
    by_cases e : j = k
    · subst e
      rw [if_pos rfl, if_pos rfl, Nat.add_mul, hl j hj]
      rw [hl j hj] at hc
      omega
    · have : nf j ≠ nf k := fun z => e (nf_inj hn hnd hj hk z)
      rw [if_neg this, if_neg e, Nat.add_zero, Nat.sub_zero]
      omega
/-- there are no more exchanges than any fixed point tells -/
theorem Fire.under (x : Fire ns gs ys0 ys ds) (hn : ∀ k, k < 4 → ns[k]? = some (nf k)) (hnd : ns.Nodup) (hg : ∀ k j, k < 4 → j < 4 → (gs k).count (nf j) = bt nu k j) (hl : ∀ k, k < 4 → (gs k).length + 1 = ned nu k) (h0 : ∀ j, j < 4 → ys0.count (nf j) = th j)
    {d : Nat → Nat} (hd : ∀ k, k < 4 → d k = phi th nu d k) : ∀ j, j < 4 → ds.count (nf j) ≤ d j := by
  induction x with
  | start => intro j hj; simp
  | @step ys ds ys' k w x hk hw hc hcnt _ ih =>
    intro j hj
    have hwk : w = nf k := by rw [hn k hk] at hw; exact (Option.some.inj hw).symm
    subst hwk
    rw [List.count_append]
    by_cases e : j = k
    · subst e
      have h1 := x.count hn hnd hg hl h0 j hj
      have h2 := cme_mono (th := th) (nu := nu) ih j
      rw [hl j hj] at hc
      have h3 : (ds.count (nf j) + 1) * ned nu j ≤ cme th nu d j := by rw [Nat.add_mul]; omega
      have h4 : ds.count (nf j) + 1 ≤ phi th nu d j := (Nat.le_div_iff_mul_le (ned_pos nu j)).mpr h3
      rw [← hd j hj] at h4
      simpa using h4
    · have : [nf k].count (nf j) = 0 := List.count_eq_zero.mpr fun hm => e (nf_inj hn hnd hj hk (List.mem_singleton.mp hm))
      rw [this]; exact ih j hj
theorem Fire.fix (x : Fire ns gs ys0 ys ds) (hn : ∀ k, k < 4 → ns[k]? = some (nf k)) (hnd : ns.Nodup) (hg : ∀ k j, k < 4 → j < 4 → (gs k).count (nf j) = bt nu k j) (hl : ∀ k, k < 4 → (gs k).length + 1 = ned nu k) (h0 : ∀ j, j < 4 → ys0.count (nf j) = th j)
    (hs : ∀ k w, k < 4 → ns[k]? = some w → ys.count w < (gs k).length + 1) : ∀ j, j < 4 → ds.count (nf j) = phi th nu (fun k => ds.count (nf k)) j ∧ ys.count (nf j) = cme th nu (fun k => ds.count (nf k)) j % ned nu j := by
  intro j hj
  have h1 := x.count hn hnd hg hl h0 j hj
  have h2 := hs j (nf j) hj (hn j hj)
  rw [hl j hj] at h2
  have hp := ned_pos nu j
  unfold phi
  rw [← h1]
  constructor
  · rw [Nat.add_mul_div_right _ _ hp, Nat.div_eq_of_lt h2, Nat.zero_add]
  · rw [Nat.add_mul_mod_self_right, Nat.mod_eq_of_lt h2]
/-- other things than those of the kinds never lie in the bag -/
theorem Fire.mem (x : Fire ns gs ys0 ys ds) (h0 : ∀ y ∈ ys0, y ∈ ns) (hg : ∀ k, k < 4 → ∀ y ∈ gs k, y ∈ ns) : (∀ y ∈ ys, y ∈ ns) ∧ ∀ y ∈ ds, y ∈ ns := by
  induction x with
  | start => exact ⟨h0, fun y hy => nomatch hy⟩
  | @step ys ds ys' k w _ hk hw hc hcnt _ ih =>
    refine ⟨fun y hy => ?_, fun y hy => ?_⟩
    · have h1 := List.count_pos_iff.mpr hy
      rw [hcnt y] at h1
      by_cases h2 : y ∈ gs k
      · exact hg k hk y h2
      · rw [List.count_eq_zero.mpr h2] at h1
        exact ih.1 y (List.count_pos_iff.mp (by omega))
    · rcases List.mem_append.mp hy with hy | hy
      · exact ih.2 y hy
      · rw [List.mem_singleton.mp hy]; exact List.mem_of_getElem? hw
end
/-- a bag with so many things of each kind -/
def bagOf (nf : Nat → Str) (c : Nat → Nat) (n : Nat) : List Str := (List.range n).flatMap fun k => List.replicate (c k) (nf k)
theorem bagOf_succ (nf : Nat → Str) (c : Nat → Nat) (n : Nat) : bagOf nf c (n + 1) = bagOf nf c n ++ List.replicate (c n) (nf n) := by simp [bagOf, List.range_succ]
theorem bagOf_mem {nf : Nat → Str} {c : Nat → Nat} : ∀ {n : Nat} {y : Str}, y ∈ bagOf nf c n → ∃ k, k < n ∧ y = nf k
  | 0, y, h => by simp [bagOf] at h
  | n + 1, y, h => by
    rw [bagOf_succ] at h
    rcases List.mem_append.mp h with h | h
    · obtain ⟨k, hk, e⟩ := bagOf_mem h; exact ⟨k, by omega, e⟩
    · exact ⟨n, by omega, (List.mem_replicate.mp h).2⟩
theorem bagOf_count {nf : Nat → Str} {c : Nat → Nat} (hinj : ∀ j k, j < 4 → k < 4 → nf j = nf k → j = k) : ∀ n, n ≤ 4 → ∀ j, j < 4 → (bagOf nf c n).count (nf j) = if j < n then c j else 0
  | 0, _, j, _ => by simp [bagOf]
  | n + 1, hn, j, hj => by
    rw [bagOf_succ, List.count_append, bagOf_count hinj n (by omega) j hj, List.count_replicate]
    by_cases e : j = n
    · subst e; simp
    · have : ¬ nf n = nf j := fun z => e (hinj n j (by omega) hj z).symm
      simp only [beq_iff_eq, this, if_false, Nat.add_zero]
      by_cases hjn : j < n
      · rw [if_pos hjn, if_pos (by omega)]
      · rw [if_neg hjn, if_neg (by omega)]
theorem bagOf_len (nf : Nat → Str) (c : Nat → Nat) : (bagOf nf c 4).length = c 0 + c 1 + c 2 + c 3 := by
  simp [bagOf, List.range_succ]; omega
/-- equal counts of the kinds, and nothing else -/
theorem same_of {ns : List Str} {nf : Nat → Str} {c : Nat → Nat} {xs : List Str} (hns : ns.length = 4) (hn : ∀ k, k < 4 → ns[k]? = some (nf k)) (hnd : ns.Nodup) (hx : ∀ y ∈ xs, y ∈ ns) (hc : ∀ j, j < 4 → xs.count (nf j) = c j) : ∀ a, xs.count a = (bagOf nf c 4).count a := by
  intro a
  by_cases ha : a ∈ ns
  · obtain ⟨j, hj⟩ := List.mem_iff_getElem?.mp ha
    have hj4 : j < 4 := by have := (List.getElem?_eq_some_iff.mp hj).1; omega
    have : a = nf j := by rw [hn j hj4] at hj; exact (Option.some.inj hj).symm
    subst this
    rw [hc j hj4, bagOf_count (fun j k hj hk e => nf_inj hn hnd hj hk e) 4 (by decide) j hj4, if_pos hj4]
  · rw [List.count_eq_zero.mpr fun h => ha (hx a h), List.count_eq_zero.mpr fun h => ?_]
    obtain ⟨k, hk, e⟩ := bagOf_mem h
    exact ha (e ▸ List.mem_of_getElem? (hn k hk))
/-- the names by their letters' numbers -/
def nmC (i : Nat) : Str := ([⟨#[79, 80, 84, 73, 77, 73, 90, 69, 68]⟩, ⟨#[78, 69, 87, 76, 79, 67, 65, 76, 83]⟩, ⟨#[86, 65, 82, 65, 82, 71, 83]⟩, ⟨#[86, 65, 82, 75, 69, 89, 87, 79, 82, 68, 83]⟩, ⟨#[78, 69, 83, 84, 69, 68]⟩, ⟨#[71, 69, 78, 69, 82, 65, 84, 79, 82]⟩, ⟨#[78, 79, 70, 82, 69, 69]⟩, ⟨#[67, 79, 82, 79, 85, 84, 73, 78, 69]⟩, ⟨#[73, 84, 69, 82, 65, 66, 76, 69, 95, 67, 79, 82, 79, 85, 84, 73, 78, 69]⟩, ⟨#[65, 83, 89, 78, 67, 95, 71, 69, 78, 69, 82, 65, 84, 79, 82]⟩] : List Str).getD i ⟨#[48, 120, 52, 48, 48]⟩
def nmsC : Nat → Nat → Nat → List Str
  | 0, _, _ => []
  | fu + 1, i, q => (if q % 2 = 1 then [nmC i] else []) ++ nmsC fu (i + 1) (q / 2)
theorem nm_lits : ([Str.ofString "OPTIMIZED", Str.ofString "NEWLOCALS", Str.ofString "VARARGS", Str.ofString "VARKEYWORDS", Str.ofString "NESTED", Str.ofString "GENERATOR", Str.ofString "NOFREE", Str.ofString "COROUTINE", Str.ofString "ITERABLE_COROUTINE", Str.ofString "ASYNC_GENERATOR"] : List Str) = [⟨#[79, 80, 84, 73, 77, 73, 90, 69, 68]⟩, ⟨#[78, 69, 87, 76, 79, 67, 65, 76, 83]⟩, ⟨#[86, 65, 82, 65, 82, 71, 83]⟩, ⟨#[86, 65, 82, 75, 69, 89, 87, 79, 82, 68, 83]⟩, ⟨#[78, 69, 83, 84, 69, 68]⟩, ⟨#[71, 69, 78, 69, 82, 65, 84, 79, 82]⟩, ⟨#[78, 79, 70, 82, 69, 69]⟩, ⟨#[67, 79, 82, 79, 85, 84, 73, 78, 69]⟩, ⟨#[73, 84, 69, 82, 65, 66, 76, 69, 95, 67, 79, 82, 79, 85, 84, 73, 78, 69]⟩, ⟨#[65, 83, 89, 78, 67, 95, 71, 69, 78, 69, 82, 65, 84, 79, 82]⟩] := by decide +kernel
theorem nm_eq (i : Nat) : nm i = nmC i := by
  unfold nm nmC
  rw [nm_lits, show Str.ofString "0x400" = ⟨#[48, 120, 52, 48, 48]⟩ by decide +kernel]
theorem nms_eq : ∀ fu i q, nms fu i q = nmsC fu i q
  | 0, _, _ => rfl
  | fu + 1, i, q => by rw [nms, nmsC, nm_eq, nms_eq fu]
theorem split_C0 : ∀ q ∈ [1, 3, 5, 7, 9, 11, 13, 15], Txt.split (Txt.join ⟨#[44, 32]⟩ (nmsC 11 0 q)) ⟨#[44, 32]⟩ = nmsC 11 0 q := by decide +kernel
theorem split_C1 : ∀ q ∈ [2, 6, 10, 14, 18, 22, 26, 30], Txt.split (Txt.join ⟨#[44, 32]⟩ (nmsC 11 0 q)) ⟨#[44, 32]⟩ = nmsC 11 0 q := by decide +kernel
theorem split_C2 : ∀ q ∈ [4, 12, 20, 28, 36, 44, 52, 60], Txt.split (Txt.join ⟨#[44, 32]⟩ (nmsC 11 0 q)) ⟨#[44, 32]⟩ = nmsC 11 0 q := by decide +kernel
theorem split_C3 : ∀ q ∈ [8, 24, 40, 56, 72, 88, 104, 120], Txt.split (Txt.join ⟨#[44, 32]⟩ (nmsC 11 0 q)) ⟨#[44, 32]⟩ = nmsC 11 0 q := by decide +kernel
theorem split_C4 : ∀ q ∈ [16, 48, 80, 112, 144, 176, 208, 240], Txt.split (Txt.join ⟨#[44, 32]⟩ (nmsC 11 0 q)) ⟨#[44, 32]⟩ = nmsC 11 0 q := by decide +kernel
theorem split_C5 : ∀ q ∈ [32, 96, 160, 224, 288, 352, 416, 480], Txt.split (Txt.join ⟨#[44, 32]⟩ (nmsC 11 0 q)) ⟨#[44, 32]⟩ = nmsC 11 0 q := by decide +kernel
theorem split_C6 : ∀ q ∈ [64, 192, 320, 448, 576, 704, 832, 960], Txt.split (Txt.join ⟨#[44, 32]⟩ (nmsC 11 0 q)) ⟨#[44, 32]⟩ = nmsC 11 0 q := by decide +kernel
theorem split_C7 : ∀ q ∈ [128, 384, 640, 896, 1152, 1408, 1664, 1920], Txt.split (Txt.join ⟨#[44, 32]⟩ (nmsC 11 0 q)) ⟨#[44, 32]⟩ = nmsC 11 0 q := by decide +kernel
theorem split_C8 : ∀ q ∈ [256, 768, 1280, 1792], Txt.split (Txt.join ⟨#[44, 32]⟩ (nmsC 11 0 q)) ⟨#[44, 32]⟩ = nmsC 11 0 q := by decide +kernel
theorem split_C9 : ∀ q ∈ [512, 1536], Txt.split (Txt.join ⟨#[44, 32]⟩ (nmsC 11 0 q)) ⟨#[44, 32]⟩ = nmsC 11 0 q := by decide +kernel
theorem split_C10 : ∀ q ∈ [1024], Txt.split (Txt.join ⟨#[44, 32]⟩ (nmsC 11 0 q)) ⟨#[44, 32]⟩ = nmsC 11 0 q := by decide +kernel
theorem split_q : ∀ f, f < 8 → ∀ n, n < 16 → 0 < n → n * 2 ^ f ∈ [1, 3, 5, 7, 9, 11, 13, 15] ++ [2, 6, 10, 14, 18, 22, 26, 30] ++ [4, 12, 20, 28, 36, 44, 52, 60] ++ [8, 24, 40, 56, 72, 88, 104, 120] ++ [16, 48, 80, 112, 144, 176, 208, 240] ++ [32, 96, 160, 224, 288, 352, 416, 480] ++ [64, 192, 320, 448, 576, 704, 832, 960] ++ [128, 384, 640, 896, 1152, 1408, 1664, 1920] ++ [256, 768, 1280, 1792] ++ [512, 1536] ++ [1024] := by decide +kernel
theorem nms_win : ∀ f, f < 8 → ∀ n, n < 16 → nmsC 11 0 (n * 2 ^ f) = nmsC 4 f n := by decide +kernel
theorem split_all (f : Nat) (hf : f < 8) (n : Nat) (hn : n < 16) (h0 : 0 < n) : Txt.split (Txt.join (Str.ofString ", ") (nms 11 0 (n * 2 ^ f))) (Str.ofString ", ") = nms 4 f n := by
  rw [nms_eq, nms_eq, show Str.ofString ", " = ⟨#[44, 32]⟩ by decide +kernel, ← nms_win f hf n hn]
  have h := split_q f hf n hn h0
  rw [List.mem_append, List.mem_append, List.mem_append, List.mem_append, List.mem_append, List.mem_append, List.mem_append, List.mem_append, List.mem_append, List.mem_append] at h
  rcases h with ((((((((((h | h) | h) | h) | h) | h) | h) | h) | h) | h) | h)
  · exact split_C0 _ h
  · exact split_C1 _ h
  · exact split_C2 _ h
  · exact split_C3 _ h
  · exact split_C4 _ h
  · exact split_C5 _ h
  · exact split_C6 _ h
  · exact split_C7 _ h
  · exact split_C8 _ h
  · exact split_C9 _ h
  · exact split_C10 _ h
theorem nms_cnt : ∀ f, f < 8 → ∀ n, n < 16 → (∀ j, j < 4 → (nms 4 f n).count (nm (f + j)) = n / 2 ^ j % 2) ∧ (nms 4 f n).length + 1 = 1 + (n / 2 ^ 0 % 2 + n / 2 ^ 1 % 2 + n / 2 ^ 2 % 2 + n / 2 ^ 3 % 2) := by decide +kernel
theorem nms_in : ∀ f, f < 8 → ∀ n, n < 16 → ∀ y ∈ nms 4 f n, y ∈ [nm f, nm (f + 1), nm (f + 2), nm (f + 3)] := by decide +kernel
theorem nm_nodup : ∀ f, f < 8 → [nm f, nm (f + 1), nm (f + 2), nm (f + 3)].Nodup := by decide +kernel
theorem join_len : ∀ f, f < 8 → ∀ n, n < 16 → (Txt.join (Str.ofString ", ") (nms 11 0 (n * 2 ^ f))).length ≤ 300 := by decide +kernel
section
variable {prog : Program} {w : World} {A : Around} {E : Value → Shared → Prop} {s : Shared} {h : Heap} {tk : Nat} {g : Heap} {L : Addr} {m : Str → Option Value} {news rest : List (Addr × Obj)} {env : Env} {l b : Addr} {its its2 : List Value} {n n2 : Nat} {Q : Value → Shared → Prop}
/-- a slice of a list of the ground -/
theorem sliceB {value slice : Expr} {vl vu vk : Value} {lo hi stp : Option Int} {ops : List Value} (F : Fr g L h m) (N : News g L h news) (hl : g.IsList l its.toArray) (pl : IsPart vl lo) (pu : IsPart vu hi) (pk : IsPart vk stp) (h0 : stp ≠ some 0) (hz : its.length ≤ sizeLine)
    (hs : subscripted slice false (.ref l) (.ref (st s h tk).heap.objs.size) = operate ops (getItem (.ref l) (.ref (st s h tk).heap.objs.size))) (ht : ∀ r, letTemporaryGo value (.ref l) r = pure ())
    (h1 : ∀ h' l', Fr g L h' m → News g L h' ((l', lst (slicePick its.toArray lo hi stp).toList 0) :: news) → (∀ p ∈ news, p.1 < l') → Q (.ref l') (st s h' tk)) :
    wpAny (model prog w) A (subscriptTail value slice (.ref l) (.ref (st s h tk).heap.objs.size)) Q E { st s h tk with heap := (st s h tk).heap.push { cls := .type "slice", data := .fields #[vl, vu, vk] } } :=
  kmk_slice3_lit (s := st s h tk) F N (F.lst hl) pl pu pk h0 rfl (fun D h' F' N' l1 => h1 h' D F' N' l1) hs ht (by simpa using hz)
theorem extend_ (F : Fr g L h m) (N : News g L h ((l, lst its n) :: rest)) (hoff : ∀ p ∈ rest, p.1 ≠ l) (hb : (b, lst its2 n2) ∈ rest) (hz : its.length + its2.length ≤ 1000)
    (h1 : ∀ h' n', Fr g L h' m → News g L h' ((l, lst (its ++ its2) n') :: rest) → Q .none (st s h' tk)) : wpAny (model prog w) A (call (.builtin "list.extend") [.ref l, .ref b]) Q E (st s h tk) := by
  have U := upd_news (f := Obj.mapSeq (· ++ its2.toArray)) F N hoff (mapSeq_lst (its' := its ++ its2) (by simp)) rfl
  exact call_meets (s := st s h tk) PySem.F.slot_list_extend ⟨_, N.get (.head _), rfl⟩ PySem.F.entry_list_extend (PySem.F.args_list_extend_2 _ _)
    (PySem.AutoSeq1.list_extend_list_list_0 l its.toArray n b its2.toArray n2 (by simp [Builtin.List.listTooLong]; intro _; rw [sizeLine_eq]; omega) (by rw [sizeLine_eq]; simp; omega) (by rw [sizeLine_eq]; simp; omega)) ⟨N.get (.head _), N.get (.tail _ hb), h1 _ _ U.1 U.2⟩
/-- two pairs of empty lists -/
theorem eq_nils {p q a1 a2 b1 b2 : Addr} {np nq k1 k2 k3 k4 : Nat} (N : News g L h news) (hp : (p, tupO [.ref a1, .ref a2] np) ∈ news) (hq : (q, tupO [.ref b1, .ref b2] nq) ∈ news) (h1 : (a1, lst [] k1) ∈ news) (h2 : (a2, lst [] k2) ∈ news) (h3 : (b1, lst [] k3) ∈ news) (h4 : (b2, lst [] k4) ∈ news)
    (n1 : a1 ≠ b1) (n2 : a2 ≠ b2) (hu : A.units + 5 < cLine) (hQ : Q (.bool true) (st s h tk)) : wpAny (model prog w) A (compareOp .Eq (.ref p) (.ref q)) Q E (st s h tk) := by
  have nil : ∀ {a b : Addr} {i j : Nat}, (a, lst [] i) ∈ news → (b, lst [] j) ∈ news → SeqAt.RcAt A.in1 (st s h tk) (.ref a) (.ref b) true := fun ha hb =>
    SeqAt.RcAt.lists (A := A.in1) (s := st s h tk) (items := #[]) (items2 := #[]) (e := fun _ => true) ⟨_, N.get ha, rfl, _, rfl⟩ ⟨_, N.get hb, rfl, _, rfl⟩ rfl (by show A.units + 1 < cLine; omega) (fun j h1 h2 => nomatch h1)
  exact SeqAt.RcAt.tuples (A := A) (s := st s h tk) (l := p) (b := q) (items := #[.ref a1, .ref a2]) (items2 := #[.ref b1, .ref b2]) (e := fun _ => true) ⟨_, N.get hp, rfl, np, rfl⟩ ⟨_, N.get hq, rfl, nq, rfl⟩ (by omega) (fun j z1 z2 => by
    have z1' : j < 2 := z1
    rcases (show j = 0 ∨ j = 1 by omega) with rfl | rfl
    · exact .of_refs n1 (nil h1 h3)
    · exact .of_refs n2 (nil h2 h4)) prog w E Q hQ
theorem newLsS {vs : List Value} {ys : List Str} (F : Fr g L h m) (N : News g L h news) (hs : StrsAre vs ys) (hz : ys.length ≤ 1000)
    (h1 : ∀ h' l' vs, StrsAre vs ys → Fr g L h' m → News g L h' ((l', lst vs 0) :: news) → (∀ p ∈ news, p.1 < l') → Q (.ref l') (st s h' tk)) : wpAny (model prog w) A (newList vs) Q E (st s h tk) :=
  newLs F N (by rw [strs_len hs, sizeLine_eq]; omega) fun h' l' F' N' hlt => h1 h' l' vs hs F' N' hlt
theorem isN {a : Addr} (h1 : Q (.bool false) (st s h tk)) : wpAny (model prog w) A (compareOp .Is (.ref a) .none) Q E (st s h tk) := is_ref_none (s := st s h tk) h1
theorem andE {x y : Expr} {pos : Pos} (h1 : wpAny (model prog w) A (eval x env) (fun v s₁ => v = .bool true ∧ wpAny (model prog w) A (eval y env) Q E s₁) E s) : wpAny (model prog w) A (eval (.BoolOp .And [x, y] pos) env) Q E s := by
  refine wpAny_And2 (wpAny_mono h1 (fun v s₁ z => ?_) fun _ _ z => z)
  obtain ⟨rfl, z⟩ := z
  exact wpAny_truthy_bool z
end
theorem fqR_end {prog : Program} {w : World} {A : Around} {s : Shared} {h : Heap} {tk : Nat} {g : Heap} {L : Addr} {m : Str → Option Value} {rest : List (Addr × Obj)} {env : Env} {target : Expr} {body orelse : List Stmt} {Q : Flow → Shared → Prop} {it : Addr} {i left step : Int} {I : Nat → Shared → Prop} {n : Nat} (hh : A.handled = none) (F : Fr g L h m) (N : News g L h ((it, itR i left step) :: rest)) (hoff : ∀ p ∈ rest, p.1 ≠ it) (hleft : left ≤ 0)
    (h1 : ∀ h', Fr g L h' m → News g L h' rest → wpAny (model prog w) A (execs orelse env) Q (fun _ _ => False) (st s h' tk)) :
    wpAny (model prog w) A (pyNext (.ref it)) (Fq prog w A env target body orelse I n Q) (fun _ _ => False) (st s h tk) := by
  refine wpAny_pyNext_range_end (s := st s h tk) hh (N.get (.head _)) hleft fun h' hs => ?_
  obtain ⟨F', N'⟩ := news_ext F N hoff hs
  exact h1 h' F' N'
theorem kind_get {f i : Nat} (hi : i < 4) : ([nm f, nm (f + 1), nm (f + 2), nm (f + 3)] : List Str)[i]? = some (nm (f + i)) := by
  rcases (show i = 0 ∨ i = 1 ∨ i = 2 ∨ i = 3 by omega) with rfl | rfl | rfl | rfl <;> rfl
theorem strs_drop : ∀ {vs : List Value} {ys : List Str} (k : Nat), StrsAre vs ys → StrsAre (vs.drop k) (ys.drop k)
  | _, _, 0, h => h
  | _, _, _ + 1, .nil => .nil
  | _, _, k + 1, .cons _ _ r => strs_drop k r
theorem strs_take : ∀ {vs : List Value} {ys : List Str} (k : Nat), StrsAre vs ys → StrsAre (vs.take k) (ys.take k)
  | _, _, 0, _ => .nil
  | _, _, _ + 1, .nil => .nil
  | _, _, k + 1, .cons y t r => .cons y t (strs_take k r)
theorem strs_run {vs : List Value} {ys : List Str} (h : StrsAre vs ys) (a b : Nat) (hb : b ≤ vs.length) (hab : a ≤ b) : StrsAre (slicePick vs.toArray (some (a : Int)) (some (b : Int)) none).toList ((ys.drop a).take (b - a)) := by
  rw [slicePick_run vs.toArray a b (by simpa using hb) hab]
  exact strs_take _ (strs_drop _ h)
def thF (ds : List Int) (k : Nat) : Nat := (((k : Int) + 2 + (pickNums ds (some (k : Int)) none (some 4)).sum).fmod 5).toNat
def nuF (ds : List Int) (k : Nat) : Nat := (1 + (5 * (k : Int) + 1 + (pickNums ds (some (k : Int)) none (some 5)).sum).fmod 15).toNat
def rkF (ds : List Int) (k : Nat) : Int := ((k : Int) * (ds.sum + 1)).fmod 5
theorem fmod_in (x : Int) {n : Int} (hn : 0 < n) : 0 ≤ x.fmod n ∧ x.fmod n < n := ⟨Int.fmod_nonneg_of_pos x hn, Int.fmod_lt_of_pos x hn⟩
theorem thF_eq (ds : List Int) (k : Nat) : ((k : Int) + 2 + (pickNums ds (some (k : Int)) none (some 4)).sum).fmod 5 = (thF ds k : Int) := by
  have := fmod_in ((k : Int) + 2 + (pickNums ds (some (k : Int)) none (some 4)).sum) (n := 5) (by decide)
  unfold thF; omega
theorem thF_lt (ds : List Int) (k : Nat) : thF ds k < 5 := by
  have := fmod_in ((k : Int) + 2 + (pickNums ds (some (k : Int)) none (some 4)).sum) (n := 5) (by decide)
  unfold thF; omega
theorem nuF_eq (ds : List Int) (k : Nat) : 1 + (5 * (k : Int) + 1 + (pickNums ds (some (k : Int)) none (some 5)).sum).fmod 15 = (nuF ds k : Int) := by
  have := fmod_in (5 * (k : Int) + 1 + (pickNums ds (some (k : Int)) none (some 5)).sum) (n := 15) (by decide)
  unfold nuF; omega
theorem nuF_in (ds : List Int) (k : Nat) : 0 < nuF ds k ∧ nuF ds k < 16 := by
  have := fmod_in (5 * (k : Int) + 1 + (pickNums ds (some (k : Int)) none (some 5)).sum) (n := 15) (by decide)
  unfold nuF; omega
theorem names_run : ∀ f, f < 8 → ((([Str.ofString "OPTIMIZED", Str.ofString "NEWLOCALS", Str.ofString "VARARGS", Str.ofString "VARKEYWORDS", Str.ofString "NESTED", Str.ofString "GENERATOR", Str.ofString "NOFREE", Str.ofString "COROUTINE"] ++ [Str.ofString "ITERABLE_COROUTINE", Str.ofString "ASYNC_GENERATOR", Str.ofString "0x400"]).drop f).take (f + 4 - f)) = [nm f, nm (f + 1), nm (f + 2), nm (f + 3)] := by decide +kernel
theorem bagOf_le {nf : Nat → Str} {c : Nat → Nat} {b : Nat} (hc : ∀ k, k < 4 → c k ≤ b) : ∀ n, n ≤ 4 → (bagOf nf c n).length ≤ n * b
  | 0, _ => by simp [bagOf]
  | n + 1, h => by
    rw [bagOf_succ, List.length_append, List.length_replicate, Nat.add_mul]
    have := bagOf_le (nf := nf) hc n (by omega)
    have := hc n (by omega)
    omega
/-- what the four kinds give -/
theorem kinds_ok {f : Nat} {nu : Nat → Nat} (hf : f < 8) (hnu : ∀ k, k < 4 → 0 < nu k ∧ nu k < 16) : ∀ k, k < 4 → (nms 4 f (nu k)).length ≤ 4 ∧ ∀ x ∈ nms 4 f (nu k), x ∈ [nm f, nm (f + 1), nm (f + 2), nm (f + 3)] := fun k hk => by
  have h1 := (nms_cnt f hf (nu k) (hnu k hk).2).2
  have := Nat.mod_lt (nu k / 2 ^ 0) (show 0 < 2 by decide)
  have := Nat.mod_lt (nu k / 2 ^ 1) (show 0 < 2 by decide)
  have := Nat.mod_lt (nu k / 2 ^ 2) (show 0 < 2 by decide)
  have := Nat.mod_lt (nu k / 2 ^ 3) (show 0 < 2 by decide)
  exact ⟨by omega, nms_in f hf (nu k) (hnu k hk).2⟩
section
variable {f : Nat} {th nu : Nat → Nat} {ys ds : List Str} (hf : f < 8) (hnu : ∀ k, k < 4 → 0 < nu k ∧ nu k < 16)
include hf hnu
theorem kinds_fix (x : Fire [nm f, nm (f + 1), nm (f + 2), nm (f + 3)] (fun k => nms 4 f (nu k)) (bagOf (fun k => nm (f + k)) th 4) ys ds)
    (hs : ∀ k w, k < 4 → ([nm f, nm (f + 1), nm (f + 2), nm (f + 3)] : List Str)[k]? = some w → ys.count w < (nms 4 f (nu k)).length + 1) :
    (∀ j, j < 4 → ds.count (nm (f + j)) = phi th nu (fun k => ds.count (nm (f + k))) j ∧ ys.count (nm (f + j)) = cme th nu (fun k => ds.count (nm (f + k))) j % ned nu j) ∧
    (∀ c : Nat → Nat, (∀ k, k < 4 → c k = phi th nu c k) → ∀ j, j < 4 → ds.count (nm (f + j)) ≤ c j) ∧
    (∀ y ∈ ys, y ∈ [nm f, nm (f + 1), nm (f + 2), nm (f + 3)]) ∧ ∀ y ∈ ds, y ∈ [nm f, nm (f + 1), nm (f + 2), nm (f + 3)] := by
  have hn : ∀ k, k < 4 → ([nm f, nm (f + 1), nm (f + 2), nm (f + 3)] : List Str)[k]? = some ((fun k => nm (f + k)) k) := fun k hk => kind_get hk
  have hnd := nm_nodup f hf
  have hg : ∀ k j, k < 4 → j < 4 → (nms 4 f (nu k)).count (nm (f + j)) = bt nu k j := fun k j hk hj => (nms_cnt f hf (nu k) (hnu k hk).2).1 j hj
  have hl : ∀ k, k < 4 → (nms 4 f (nu k)).length + 1 = ned nu k := fun k hk => (nms_cnt f hf (nu k) (hnu k hk).2).2
  have h0 : ∀ j, j < 4 → (bagOf (fun k => nm (f + k)) th 4).count (nm (f + j)) = th j := fun j hj => by
    have := bagOf_count (c := th) (fun j k hj hk e => nf_inj hn hnd hj hk e) 4 (by decide) j hj
    rw [if_pos hj] at this
    exact this
  refine ⟨x.fix hn hnd hg hl h0 hs, fun c hc => x.under hn hnd hg hl h0 hc, x.mem (fun y hy => ?_) fun k hk => (kinds_ok hf hnu k hk).2⟩
  obtain ⟨k, hk, rfl⟩ := bagOf_mem hy
  exact List.mem_of_getElem? (kind_get hk)
end
theorem uld_done {f : Nat} {c : Nat → Nat} {ds : List Str} (hf : f < 8) (hm : ∀ y ∈ ds, y ∈ [nm f, nm (f + 1), nm (f + 2), nm (f + 3)]) (hc : ∀ j, j < 4 → ds.count (nm (f + j)) = c j) : uldR ds.reverse (bagOf (fun k => nm (f + k)) c 4) [] = ([], []) :=
  uld_same _ _ fun a => by
    rw [List.count_reverse]
    exact same_of (ns := [nm f, nm (f + 1), nm (f + 2), nm (f + 3)]) rfl (fun k hk => kind_get hk) (nm_nodup f hf) hm hc a
set_option maxRecDepth 100000 in
set_option maxHeartbeats 8000000 in
theorem z1 : PySem.Challenge.rw_op0026_01.Holds := by
  refine Mine.hd ?_
  k_go0
  rename_i w s₀ s mg mb G Y fa o pm doc ho hg KX X V GL T B TE TW aM oM M cdA cdB hcd xs hs hlay0 hL1 hr1 hl2 w6 w5 sl sv w2 hL ra w1 r0 hI hr hc1 hc2 K0 hD h tk F oFi oDr dFi dDr N X0
  clear G Y V GL X B TE TW M ho hcd hs hlay0 hL1 hr1 hl2 ra w1 r0 hr hc2 hD X0
  have dFi' : oFi.data = .cell none := dFi
  have dDr' : oDr.data = .cell none := dDr
  clear dFi dDr
  have F' : Fr s.heap s.heap.objs.size h (up (fun _ => none) (Str.ofString "script") (.ref sl)) := F
  clear F
  have G : Grd callerA s.heap [] (Mine.hd.heap_39 w.params) PV LO (ExcName.means s₀.heap) mg mb s.heap := ⟨K0, KX, T, KX, T, fun _ hb => nomatch hb⟩
  dsimp only
  generalize hLe : s.heap.objs.size = L at *
  refine noE ?_
  show wpAny _ (ktrTop (1 + claimMargin + 1) 7 (some []) _ _ L fa (.ref cdA) [(Str.ofString "first", L + 1 + 1), (Str.ofString "drawn", L + 1)] []) (execs _ (envX _ _ L fa (.ref cdA) [(Str.ofString "first", L + 1 + 1), (Str.ofString "drawn", L + 1)])) _ _ (st s h tk)
  have hdp : 1 + claimMargin + 1 + 40 < recursionLimit := by decide +kernel
  have hun : 7 + 1000 < cLine := by decide +kernel
  have F := F'; clear F'
  have B := G.B; have X := G.X; have T := G.T
  have hxl : xs.length ≤ 63 := by omega
  have e1 : ∀ p ∈ [(L + 1 + 1, oFi)], p.1 ≠ L + 1 := fun p hp => by rw [List.mem_singleton.mp hp]; exact show @Ne Nat (L + 1 + 1) (L + 1) by omega
  repeat walk_at "Z"
  refine sliceB F N hL .none (.int _ _) .none (by decide) (by rw [hI.length, sizeLine_eq]; omega) (by with_unfolding_all rfl) (by intro _; with_unfolding_all rfl) ?_
  intro h dD F N hdD
  have hdv := hI.pick none (some 24) none
  have hdl := length_pickNums_le hI none (some 24) none
  generalize (slicePick sv.toArray none (some 24) none).toList = dv at N hdv
  generalize pickNums xs none (some 24) none = ds at hdv hdl
  have hdvl := hdv.length
  have ne12 : L + 1 + 1 ≠ L + 1 := show @Ne Nat (L + 1 + 1) (L + 1) by omega
  have hd1 : dD ≠ L + 1 := Nat.ne_of_gt (hdD (L + 1, oDr) (by walk_at "mm"))
  have hd2 : dD ≠ L + 1 + 1 := Nat.ne_of_gt (hdD (L + 1 + 1, oFi) (by walk_at "mm"))
  refine sc (rest := [(dD, lst dv 0), (L + 1 + 1, oFi)]) F (news_sub N (by walk_at "pm")) (offc hd1 (offc ne12 fun p hp => nomatch hp)) (by with_unfolding_all rfl) dDr' ?_ (by kernel_rfl)
  intro h oD dD' F N
  repeat walk_at "Z"
  refine len_ N (by walk_at "mm") (by omega) ?_
  intro t tk
  repeat walk_at "Z"
  rw [show ((dv.length : Nat) : Int).fmod 8 = ((dv.length % 8 : Nat) : Int) from fmod_cast _ 8]
  have hf8 : dv.length % 8 < 8 := Nat.mod_lt _ (by decide)
  generalize dv.length % 8 = f at hf8 ⊢
  refine sc (rest := [(L + 1, oD), (dD, lst dv 0)]) F (news_sub N (by walk_at "pm")) (offc (Ne.symm ne12) (offc hd2 fun p hp => nomatch hp)) (by with_unfolding_all rfl) dFi' ?_ (by kernel_rfl)
  intro h oF dF' F N
  clear dFi' dDr'
  repeat walk_at "Z"
  refine newLsS F N (.cons _ _ (.cons _ _ (.cons _ _ (.cons _ _ (.cons _ _ (.cons _ _ (.cons _ _ (.cons _ _ .nil)))))))) (by decide) ?_
  intro h nD n1v hn1 F N hnD
  repeat walk_at "S"
  refine newLsS (by assumption) (by assumption) (.cons _ _ (.cons _ _ (.cons _ _ .nil))) (by decide) ?_
  intro h nE n2v hn2 F N hnE
  have hn12 := strs_app hn1 hn2
  have hl12 := strs_len hn12
  repeat walk_at "S"
  refine addL F N (by walk_at "mm") (by walk_at "mm") (by rw [← List.length_append, hl12]; decide) ?_
  intro h nB F N hnB
  generalize n1v ++ n2v = n3v at N hn12 hl12
  repeat walk_at "Z"
  rw [show (f : Int) + 4 = ((f + 4 : Nat) : Int) from rfl]
  refine kba_turn (value' := PySem.Expr.Name (Str.ofString "x") ⟨0, 0, 0, 0⟩) (fun _ => rfl) ?_
  refine sliceL F N (.head _) (.int _ _) (.int _ _) .none (by decide) (by rw [hl12]; decide) (by with_unfolding_all rfl) (by intro _; with_unfolding_all rfl) ?_
  intro h nA F N hnA
  have hl12' : n3v.length = 11 := hl12
  have hnv := strs_run hn12 f (f + 4) (by omega) (by omega)
  rw [names_run f hf8] at hnv
  generalize (slicePick n3v.toArray (some (f : Int)) (some ((f + 4 : Nat) : Int)) none).toList = nv at N hnv
  have hnA1 := hnA (L + 1, oD) (by walk_at "mm")
  have hnA2 := hnA (L + 1 + 1, oF) (by walk_at "mm")
  have hnA3 := hnA (dD, lst dv 0) (by walk_at "mm")
  have N := news_sub (news' := [(nA, lst nv 0), (L + 1 + 1, oF), (L + 1, oD), (dD, lst dv 0)]) N (by walk_at "pm")
  clear hnA hn12 hl12 hl12' hn1 hn2 hnD hnE hnB
  repeat walk_at "S"
  refine' lcA (by assumption) ?sw ?clos ?cel rfl ?nam ?x1 ?y1 ?_ ?fs
  case sw => with_unfolding_all rfl
  case clos => with_unfolding_all rfl
  case cel => decide
  case nam => decide
  case x1 => kernel_rfl
  case y1 => kernel_rfl
  case fs => intro _; with_unfolding_all rfl
  repeat walk_at "Z"
  refine range1 (by assumption) (by assumption) ?_
  intro h tk r t1 t2 F N hoff
  refine srcR (n := 4) (news := [(nA, lst nv 0), (L + 1 + 1, oF), (L + 1, oD), (dD, lst dv 0)]) (fun i ys nw => nw = [(nA, lst nv 0), (L + 1 + 1, oF), (L + 1, oD), (dD, lst dv 0)] ∧ IntsAre ys (il (thF ds) i)) F N (.head _) (by decide +kernel) (by decide +kernel) (by rw [sizeLine_eq]; omega) (fun p hp => .tail _ hp) ⟨rfl, .nil⟩ ?_ ?_
  · rintro i ti ys _ I oI C oC D m₂ h tk hi ⟨rfl, hys⟩ hC hm F N hoff
    repeat walk_at "Z"
    refine sliceL F N (by walk_at "mm") (.int _ _) .none (.int _ _) (by decide) (by rw [hdvl, sizeLine_eq]; omega) (by with_unfolding_all rfl) (by intro _; with_unfolding_all rfl) ?_
    intro h l F N hl
    repeat walk_at "Z"
    refine sum_ F N (.head _) (hdv.pick _ _ _) ?_
    intro h tk t F N
    repeat walk_at "Z"
    refine ⟨h, _, _, rfl, F, news_sub N (fun p hp => .tail _ hp), ?_, trivial, rfl, ints_snoc hys (thF_eq ds i)⟩
    intro p hp q hq
    obtain ⟨q1, q2, q3⟩ := hoff p hp
    simp only [List.mem_cons, List.not_mem_nil, or_false] at hq
    rcases hq with rfl | rfl | rfl
    · exact q1
    · exact q2
    · exact q3
  rintro g' tv _ ⟨rfl, htv⟩
  refine finA ?_
  intro tD h tk F N hoffT
  rw [st_st]
  have htl := htv.length
  have hTn : ∀ p ∈ [(nA, lst nv 0), (L + 1 + 1, oF), (L + 1, oD), (dD, lst dv 0)], p.1 ≠ tD := hoffT
  obtain ⟨nw, hnw⟩ : ∃ nw, nw = (tD, lst tv tv.length) :: [(nA, lst nv 0), (L + 1 + 1, oF), (L + 1, oD), (dD, lst dv 0)] := ⟨_, rfl⟩
  rw [← hnw] at N
  have mT : (tD, lst tv tv.length) ∈ nw := by rw [hnw]; walk_at "mm"
  have mA : (nA, lst nv 0) ∈ nw := by rw [hnw]; walk_at "mm"
  have mF : (L + 1 + 1, oF) ∈ nw := by rw [hnw]; walk_at "mm"
  have mD : (L + 1, oD) ∈ nw := by rw [hnw]; walk_at "mm"
  have md : (dD, lst dv 0) ∈ nw := by rw [hnw]; walk_at "mm"
  clear hnw hTn hoffT hnA1 hnA2 hnA3 hoff hd1 hd2
  repeat walk_at "Z"
  refine' lcA (by assumption) ?sw ?clos ?cel rfl ?nam ?x1 ?y1 ?_ ?fs
  case sw => with_unfolding_all rfl
  case clos => with_unfolding_all rfl
  case cel => decide
  case nam => decide
  case x1 => kernel_rfl
  case y1 => kernel_rfl
  case fs => intro _; with_unfolding_all rfl
  repeat walk_at "Z"
  refine range1 (by assumption) (by assumption) ?_
  intro h tk r t1 t2 F N hoff
  refine srcR (n := 4) (news := nw) (fun i ys nw' => nw' = nw ∧ IntsAre ys (il (nuF ds) i)) F N (.head _) (by decide +kernel) (by decide +kernel) (by rw [sizeLine_eq]; omega) (fun p hp => .tail _ hp) ⟨rfl, .nil⟩ ?_ ?_
  · rintro i ti ys _ I oI C oC D m₂ h tk hi ⟨rfl, hys⟩ hC hm F N hoff
    repeat walk_at "Z"
    refine sliceL F N (by walk_at "mm") (.int _ _) .none (.int _ _) (by decide) (by rw [hdvl, sizeLine_eq]; omega) (by with_unfolding_all rfl) (by intro _; with_unfolding_all rfl) ?_
    intro h l F N hl
    repeat walk_at "Z"
    refine sum_ F N (.head _) (hdv.pick _ _ _) ?_
    intro h tk t F N
    repeat walk_at "Z"
    refine ⟨h, _, _, rfl, F, news_sub N (fun p hp => .tail _ hp), ?_, trivial, rfl, ints_snoc hys (nuF_eq ds i)⟩
    intro p hp q hq
    obtain ⟨q1, q2, q3⟩ := hoff p hp
    simp only [List.mem_cons, List.not_mem_nil, or_false] at hq
    rcases hq with rfl | rfl | rfl
    · exact q1
    · exact q2
    · exact q3
  rintro g' uv nw ⟨rfl, huv⟩
  refine finA ?_
  intro uD h tk F N hoffU
  rw [st_st]
  repeat walk_at "Z"
  refine' lcA (by assumption) ?sw ?clos ?cel rfl ?nam ?x1 ?y1 ?_ ?fs
  case sw => with_unfolding_all rfl
  case clos => with_unfolding_all rfl
  case cel => decide
  case nam => decide
  case x1 => kernel_rfl
  case y1 => kernel_rfl
  case fs => intro _; with_unfolding_all rfl
  repeat walk_at "Z"
  refine srcL (news := (uD, lst uv uv.length) :: nw) (its := uv) (fun i ys nw' => (∀ p ∈ (uD, lst uv uv.length) :: nw, p ∈ nw') ∧ ys.length = i ∧ ∀ j, j < i → ∃ p v, ys[j]? = some (.ref p) ∧ (p, lst v 0) ∈ nw' ∧ StrsAre v (nms 4 f (nuF ds j))) F N (fun p hp => hp) (.head _) (by rw [huv.length, sizeLine_eq]; show 4 ≤ _; omega) ⟨fun p hp => hp, rfl, fun j hj => absurd hj (Nat.not_lt_zero _)⟩ ?_ ?_
  · rintro i v ys nw' I oI C oC D m₂ h tk hi hv ⟨hP1, hP2, hP3⟩ hC hm F N hoff
    have hi4 : i < 4 := by rw [huv.length] at hi; exact hi
    obtain ⟨ti, hvi⟩ := huv.get i _ (il_get hi4)
    rw [hvi] at hv; cases hv
    have mF2 := hP1 _ (.tail _ mF)
    have hnu := nuF_in ds i
    repeat walk_at "Z"
    refine b_pow (by omega) (by omega) (by decide) ?_
    intro t tk
    repeat walk_at "Z"
    refine b_mul ?_ (IntMulOk.of_left (PySem.intBits_le_64 (by omega) (by omega)))
    intro t tk
    rw [pow_cast, ← Int.natCast_mul]
    have hp7 : 2 ^ f ≤ 2 ^ 7 := Nat.pow_le_pow_right (by decide) (by omega)
    have hq0 : 0 < nuF ds i * 2 ^ f := Nat.mul_pos hnu.1 (Nat.pow_pos (by decide))
    have hq1 : nuF ds i * 2 ^ f < 2048 := Nat.lt_of_le_of_lt (Nat.mul_le_mul (show nuF ds i ≤ 15 by omega) hp7) (by decide)
    repeat walk_at "Z"
    refine pretty_call (ret := ?_) B F X T N rfl hq0 hq1 (by omega) (by decide +kernel)
    intro t h tk F N
    repeat walk_at "Z"
    have hjl := join_len f hf8 (nuF ds i) hnu.2
    refine split_ F N (by decide) (by rw [sizeLine_eq]; omega) ?_
    intro h tk l vs hvs F N hl
    rw [split_all f hf8 (nuF ds i) hnu.2 hnu.1] at hvs
    refine ⟨h, tk, (l, lst vs 0) :: nw', rfl, F, news_sub N (by walk_at "pm"), ?_, ⟨_, .tail _ (hP1 _ (.head _))⟩, fun p hp => .tail _ (hP1 p hp), by simp [hP2], ?_⟩
    · intro p hp q hq
      rcases List.mem_cons.mp hp with rfl | hp
      · exact Nat.ne_of_gt (hl q (List.mem_append_left nw' hq))
      · obtain ⟨q1, q2, q3⟩ := hoff p hp
        simp only [List.mem_cons, List.not_mem_nil, or_false] at hq
        rcases hq with rfl | rfl | rfl
        · exact q1
        · exact q2
        · exact q3
    · intro j hj
      rcases Nat.lt_or_ge j i with hji | hji
      · obtain ⟨p, v, e1, e2, e3⟩ := hP3 j hji
        exact ⟨p, v, by rw [List.getElem?_append_left (by omega)]; exact e1, .tail _ e2, e3⟩
      · obtain rfl : j = i := by omega
        exact ⟨l, vs, by rw [List.getElem?_append_right (by omega)]; simp [hP2], .head _, hvs⟩
  rintro g' gv nw2 ⟨hP1, hP2, hP3⟩
  refine finA ?_
  intro gD h tk F N hoffG
  rw [st_st]
  have hul : uv.length = 4 := huv.length
  rw [hul] at hP2 hP3
  have mU2 := hP1 _ (.head _)
  have mT2 := hP1 _ (.tail _ mT)
  have mA2 := hP1 _ (.tail _ mA)
  have mF2 := hP1 _ (.tail _ mF)
  have mD2 := hP1 _ (.tail _ mD)
  have md2 := hP1 _ (.tail _ md)
  clear hP1 mT mA mF mD md hoffU hoff
  repeat walk_at "Z"
  refine' lcA (by assumption) ?sw ?clos ?cel rfl ?nam ?x1 ?y1 ?_ ?fs
  case sw => with_unfolding_all rfl
  case clos => with_unfolding_all rfl
  case cel => decide
  case nam => decide
  case x1 => kernel_rfl
  case y1 => kernel_rfl
  case fs => intro _; with_unfolding_all rfl
  repeat walk_at "Z"
  refine range1 (by assumption) (by assumption) ?_
  intro h tk r t1 t2 F N hoff
  refine srcR (n := 4) (news := (gD, lst gv gv.length) :: nw2) (fun i ys nw' => nw' = (gD, lst gv gv.length) :: nw2 ∧ ys.length = i ∧ ∀ j, j < i → ∃ t, ys[j]? = some (.int (rkF ds j) t)) F N (.head _) (by decide +kernel) (by decide +kernel) (by rw [sizeLine_eq]; omega) (fun p hp => .tail _ hp) ⟨rfl, rfl, fun j hj => absurd hj (Nat.not_lt_zero _)⟩ ?_ ?_
  · rintro i ti ys _ I oI C oC D m₂ h tk hi ⟨rfl, hy1, hy2⟩ hC hm F N hoff
    repeat walk_at "Z"
    refine sum_ F N (by walk_at "mm") hdv ?_
    intro h tk t F N
    repeat walk_at "Z"
    refine b_mul ?_ (IntMulOk.of_left (PySem.intBits_le_64 (by omega) (by omega)))
    intro t tk
    repeat walk_at "Z"
    refine ⟨h, _, _, rfl, F, N, ?_, trivial, rfl, by simp [hy1], ?_⟩
    · intro p hp q hq
      obtain ⟨q1, q2, q3⟩ := hoff p hp
      simp only [List.mem_cons, List.not_mem_nil, or_false] at hq
      rcases hq with rfl | rfl | rfl
      · exact q1
      · exact q2
      · exact q3
    · intro j hj
      rcases Nat.lt_or_ge j i with hji | hji
      · obtain ⟨t, e⟩ := hy2 j hji
        exact ⟨t, by rw [List.getElem?_append_left (by omega)]; exact e⟩
      · obtain rfl : j = i := by omega
        exact ⟨_, by rw [List.getElem?_append_right (by omega), hy1, Nat.sub_self]; rfl⟩
  rintro g' rv _ ⟨rfl, hr1, hr2⟩
  refine finA ?_
  intro rD h tk F N hoffR
  rw [st_st]
  clear hoff
  repeat walk_at "Z"
  refine newLs F N (by decide) ?_
  intro h bD F N hbD
  obtain ⟨nw3, hnw3⟩ : ∃ nw, nw = (rD, lst rv rv.length) :: (gD, lst gv gv.length) :: nw2 := ⟨_, rfl⟩
  rw [← hnw3] at N hbD
  have mR : (rD, lst rv rv.length) ∈ nw3 := by rw [hnw3]; walk_at "mm"
  have mG : (gD, lst gv gv.length) ∈ nw3 := by rw [hnw3]; walk_at "mm"
  have hs3 : ∀ p ∈ nw2, p ∈ nw3 := fun p hp => by rw [hnw3]; walk_at "mm"
  have mU := hs3 _ mU2
  have mT := hs3 _ mT2
  have mA := hs3 _ mA2
  have hP4 : ∀ j, j < 4 → ∃ p v n, gv[j]? = some (.ref p) ∧ (p, lst v n) ∈ nw3 ∧ StrsAre v ((fun k => nms 4 f (nuF ds k)) j) := fun j hj => by
    obtain ⟨p, v, e1, e2, e3⟩ := hP3 j hj
    exact ⟨p, v, 0, e1, hs3 _ e2, e3⟩
  clear hnw3 hs3 hP3 mU2 mT2 mA2 mF2 mD2 md2 hoffR
  repeat walk_at "S"
  refine for_ ?_ (by intro _; with_unfolding_all rfl)
  repeat walk_at "S"
  refine range1 (by assumption) (by assumption) ?_
  intro h tk r t1 t2 F N hoffr
  refine iterR F N (.head _) (by decide +kernel) ?_
  intro h it F N hoffi
  rw [show Builtin.Range.rangeSize 0 4 1 = 4 from by decide +kernel] at N
  have hbi : bD ≠ it := hoffi (bD, lst [] 0) (by walk_at "mm")
  have h3i : ∀ p ∈ nw3, p.1 ≠ it := fun p hp => hoffi p (by walk_at "mm")
  have h3b : ∀ p ∈ nw3, p.1 ≠ bD := fun p hp => Nat.ne_of_lt (hbD p hp)
  refine for_inv (fun n s' => ∃ i h tk m' bv bn, s' = st s h tk ∧ n = 4 - i ∧ i ≤ 4 ∧ Fr s.heap L h m' ∧ News s.heap L h ((it, itR ((i : Nat) : Int) (4 - ((i : Nat) : Int)) 1) :: (bD, lst bv bn) :: nw3) ∧ StrsAre bv (bagOf (fun k => nm (f + k)) (thF ds) i) ∧
    m' (Str.ofString "bag") = some (.ref bD) ∧ m' (Str.ofString "names") = some (.ref nA) ∧ m' (Str.ofString "things") = some (.ref tD) ∧ m' (Str.ofString "numbers") = some (.ref uD) ∧ m' (Str.ofString "gives") = some (.ref gD) ∧ m' (Str.ofString "ranks") = some (.ref rD)) 4 ?_ (fun _ => rfl) ?_
  · exact ⟨0, _, _, _, [], 0, rfl, rfl, by omega, F, news_sub N (by walk_at "pm"), .nil, by walk_at "lk", by walk_at "lk", by walk_at "lk", by walk_at "lk", by walk_at "lk", by walk_at "lk"⟩
  rintro n _ ⟨i, h, tk, m', bv, bn, rfl, rfl, hi, F, N, hbv, q1, q2, q3, q4, q5, q6⟩
  rcases Nat.lt_or_ge i 4 with hi4 | hi4
  · obtain ⟨tn, hnk⟩ := strs_get hnv i _ (kind_get hi4)
    obtain ⟨tt, htk⟩ := htv.get i _ (il_get hi4)
    have hth := thF_lt ds i
    have hbl : bv.length ≤ 16 := by
      rw [strs_len hbv]
      have := bagOf_le (nf := fun k => nm (f + k)) (c := thF ds) (b := 4) (fun k _ => by have := thF_lt ds k; omega) i (by omega)
      omega
    refine fq_step F N (offc hbi h3i) (by omega) (by kernel_rfl) rfl rfl ?_
    intro h tk t F N
    rw [show ((i : Nat) : Int) + 1 = ((i + 1 : Nat) : Int) from rfl, show (4 - ((i : Nat) : Int) - 1) = 4 - ((i + 1 : Nat) : Int) by omega] at N
    repeat walk_at "S"
    refine gm (by assumption) (by walk_at "mm") PySem.F.slot_list_extend PySem.F.type_list_extend ?_
    repeat walk_at "S"
    refine giN (by assumption) (by walk_at "mm") (by omega) hnk ?_
    repeat walk_at "S"
    refine newLs (by assumption) (by assumption) (show 1 ≤ _ by rw [sizeLine_eq]; omega) ?_
    intro h l1 F N hl1
    repeat walk_at "S"
    refine giN (by assumption) (by walk_at "mm") (by omega) htk ?_
    repeat walk_at "S"
    refine mulL (by assumption) (by assumption) (by walk_at "mm") (by omega) (by omega) ?_
    intro h l2 F N hl2
    rw [Int.toNat_natCast] at N
    repeat walk_at "S"
    refine extend_ (rest := (l2, lst (List.replicate (thF ds i) (.str (nm (f + i)) tn)) 0) :: (it, itR ((i + 1 : Nat) : Int) (4 - ((i + 1 : Nat) : Int)) 1) :: nw3) F (news_sub N (by walk_at "pm")) (offc (Nat.ne_of_gt (hl2 (bD, lst bv bn) (by walk_at "mm"))) (offc (Ne.symm hbi) h3b)) (.head _) (by rw [List.length_replicate]; omega) ?_
    intro h bn' F N
    repeat walk_at "S"
    refine wl_next (4 - (i + 1)) (by omega) ⟨i + 1, _, _, _, _, bn', rfl, rfl, hi4, F, news_sub N (by walk_at "pm"), ?_, by walk_at "lk", by walk_at "lk", by walk_at "lk", by walk_at "lk", by walk_at "lk", by walk_at "lk"⟩
    rw [bagOf_succ]
    exact strs_app hbv (strs_rep _)
  obtain rfl : i = 4 := by omega
  refine fqR_end rfl F N (offc hbi h3i) (by omega) ?_
  intro h F N
  clear hbi h3i hoffi hoffr hbD
  repeat walk_at "S"
  have hb16 : (bagOf (fun k => nm (f + k)) (thF ds) 4).length ≤ 16 := bagOf_le (c := thF ds) (b := 4) (fun k _ => by have := thF_lt ds k; omega) 4 (by decide)
  have hnu : ∀ k, k < 4 → 0 < nuF ds k ∧ nuF ds k < 16 := fun k _ => nuF_in ds k
  refine exch_call (rest := (bD, lst bv bn) :: nw3) (rk := rkF ds) (gs := fun k => nms 4 f (nuF ds k)) (ns := [nm f, nm (f + 1), nm (f + 2), nm (f + 3)]) (ret := ?_) G F N (.head _) hbv (.tail _ mA) hnv (.tail _ mG) ?hgv (.tail _ mR) ?hrv rfl (nm_nodup f hf8) (kinds_ok hf8 hnu) hb16 rfl (by omega) (by omega)
  case hgv =>
    intro k hk
    obtain ⟨p, v, n, e1, e2, e3⟩ := hP4 k hk
    exact ⟨p, v, n, e1, .tail _ e2, e3⟩
  case hrv => exact hr2
  intro g1 tP bl dl bv2 dv2 bn2 dn2 ys dds h tk hT hfi hstk hbv2 hdv2 F N hodl hbd G
  have B := G.B; have X := G.X; have T := G.T
  obtain ⟨hfix, hlst, hmy, hmd⟩ := kinds_fix hf8 hnu hfi hstk
  have hlen := hfi.len
  have hodl2 : ∀ p ∈ nw3, p.1 ≠ dl := fun p hp => hodl p (.tail _ hp)
  clear hodl
  refine unpk F N (.head _) rfl ?_
  intro h F N
  repeat walk_at "S"
  refine if_ ?_
  repeat walk_at "S"
  refine isN ?_
  repeat walk_at "S"
  refine ib_f ?_
  repeat walk_at "S"
  have hd16 : ∀ k, dds.count (nm (f + k)) ≤ 16 := fun k => by
    have := List.count_le_length (a := nm (f + k)) (l := dds)
    omega
  refine reck_call (rest := (tP, tupO [.ref bl, .ref dl] 0) :: (bl, lst bv2 bn2) :: (dl, lst dv2 dn2) :: (bD, lst bv bn) :: nw3) (f := fun k => dds.count (nm (f + k))) (th := thF ds) (nu := nuF ds) (ret := ?_) G (by assumption) (by assumption) (by walk_at "mm") htv (by walk_at "mm") huv
    (fun k _ => Nat.lt_of_lt_of_le (thF_lt ds k) (by decide)) (fun k hk => (hnu k hk).2) (fun k _ => Nat.le_trans (hd16 k) (by decide)) (fun k hk => (hfix k hk).1) hlst rfl (by omega) (by omega)
  intro g2 tQ cl rl cv rv2 cn rn h tk hT2 hcv hrv2 F N G
  have B := G.B; have X := G.X; have T := G.T
  refine unpk F N (.head _) rfl ?_
  intro h F N
  repeat walk_at "S"
  refine newLs (by assumption) (by assumption) (by decide) ?_
  intro h eD F N heD
  repeat walk_at "S"
  refine newLs (by assumption) (by assumption) (by decide) ?_
  intro h zD F N hzD
  obtain ⟨nw4, hnw4⟩ : ∃ nw, nw = (tQ, tupO [.ref cl, .ref rl] 0) :: (cl, lst cv cn) :: (rl, lst rv2 rn) :: (tP, tupO [.ref bl, .ref dl] 0) :: (bl, lst bv2 bn2) :: (dl, lst dv2 dn2) :: (bD, lst bv bn) :: nw3 := ⟨_, rfl⟩
  rw [← hnw4] at N heD hzD
  have mc : (cl, lst cv cn) ∈ nw4 := by rw [hnw4]; walk_at "mm"
  have mr : (rl, lst rv2 rn) ∈ nw4 := by rw [hnw4]; walk_at "mm"
  have mb : (bl, lst bv2 bn2) ∈ nw4 := by rw [hnw4]; walk_at "mm"
  have md : (dl, lst dv2 dn2) ∈ nw4 := by rw [hnw4]; walk_at "mm"
  have mA4 : (nA, lst nv 0) ∈ nw4 := by rw [hnw4]; walk_at "mm"
  clear hnw4 hodl2
  have hez : eD ≠ zD := Nat.ne_of_lt (hzD (eD, lst [] 0) (.head _))
  have h4e : ∀ p ∈ nw4, p.1 ≠ eD := fun p hp => Nat.ne_of_lt (heD p hp)
  have h4z : ∀ p ∈ nw4, p.1 ≠ zD := fun p hp => Nat.ne_of_lt (hzD p (.tail _ hp))
  clear heD hzD
  repeat walk_at "S"
  refine for_ ?_ (by intro _; with_unfolding_all rfl)
  repeat walk_at "S"
  refine range1 (by assumption) (by assumption) ?_
  intro h tk r t1 t2 F N hoffr
  refine iterR F N (.head _) (by decide +kernel) ?_
  intro h it F N hoffi
  rw [show Builtin.Range.rangeSize 0 4 1 = 4 from by decide +kernel] at N
  have hei : eD ≠ it := hoffi (eD, lst [] 0) (by walk_at "mm")
  have hzi : zD ≠ it := hoffi (zD, lst [] 0) (by walk_at "mm")
  have h4i : ∀ p ∈ nw4, p.1 ≠ it := fun p hp => hoffi p (by walk_at "mm")
  clear hoffi hoffr
  generalize hcf : (fun k => dds.count (nm (f + k))) = cf at hcv
  generalize hrf : (fun k => cme (thF ds) (nuF ds) (fun k => dds.count (nm (f + k))) k % ned (nuF ds) k) = rf at hrv2
  have hcf16 : ∀ k, k < 4 → cf k ≤ 16 := fun k _ => by rw [← hcf]; exact hd16 k
  have hrf16 : ∀ k, k < 4 → rf k ≤ 16 := fun k _ => by
    rw [← hrf]
    have h1 := ned_pos (nuF ds) k
    have h2 := ned_le (nuF ds) k
    exact Nat.le_trans (Nat.le_of_lt (Nat.mod_lt _ h1)) (Nat.le_trans h2 (by decide))
  refine for_inv (fun n s' => ∃ i h tk m' ev en zv zn, s' = st s h tk ∧ n = 4 - i ∧ i ≤ 4 ∧ Fr g2 L h m' ∧ News g2 L h ((it, itR ((i : Nat) : Int) (4 - ((i : Nat) : Int)) 1) :: (eD, lst ev en) :: (zD, lst zv zn) :: nw4) ∧ StrsAre ev (bagOf (fun k => nm (f + k)) cf i) ∧ StrsAre zv (bagOf (fun k => nm (f + k)) rf i) ∧
    m' (Str.ofString "bag") = some (.ref bl) ∧ m' (Str.ofString "names") = some (.ref nA) ∧ m' (Str.ofString "deals") = some (.ref dl) ∧ m' (Str.ofString "counts") = some (.ref cl) ∧ m' (Str.ofString "rests") = some (.ref rl) ∧ m' (Str.ofString "due") = some (.ref eD) ∧ m' (Str.ofString "rest") = some (.ref zD)) 4 ?_ (fun _ => rfl) ?_
  · exact ⟨0, _, _, _, [], 0, [], 0, rfl, rfl, by omega, F, news_sub N (by walk_at "pm"), .nil, .nil, by walk_at "lk", by walk_at "lk", by walk_at "lk", by walk_at "lk", by walk_at "lk", by walk_at "lk", by walk_at "lk"⟩
  rintro n _ ⟨i, h, tk, m', ev, en, zv, zn, rfl, rfl, hi, F, N, hev, hzv, q1, q2, q3, q4, q5, q6, q7⟩
  rcases Nat.lt_or_ge i 4 with hi4 | hi4
  · obtain ⟨tn, hnk⟩ := strs_get hnv i _ (kind_get hi4)
    obtain ⟨tt, htk⟩ := hcv.get i _ (il_get hi4)
    obtain ⟨tu, huk⟩ := hrv2.get i _ (il_get hi4)
    have hci := hcf16 i hi4
    have hri := hrf16 i hi4
    have hel : ev.length ≤ 64 := by
      rw [strs_len hev]
      have := bagOf_le (nf := fun k => nm (f + k)) (c := cf) (b := 16) hcf16 i (by omega)
      omega
    have hzl : zv.length ≤ 64 := by
      rw [strs_len hzv]
      have := bagOf_le (nf := fun k => nm (f + k)) (c := rf) (b := 16) hrf16 i (by omega)
      omega
    refine fq_step F N (offc hei (offc hzi h4i)) (by omega) (by kernel_rfl) rfl rfl ?_
    intro h tk t F N
    rw [show ((i : Nat) : Int) + 1 = ((i + 1 : Nat) : Int) from rfl, show (4 - ((i : Nat) : Int) - 1) = 4 - ((i + 1 : Nat) : Int) by omega] at N
    repeat walk_at "S"
    refine gm (by assumption) (by walk_at "mm") PySem.F.slot_list_extend PySem.F.type_list_extend ?_
    repeat walk_at "S"
    refine giN (by assumption) (by walk_at "mm") (by omega) hnk ?_
    repeat walk_at "S"
    refine newLs (by assumption) (by assumption) (show 1 ≤ _ by rw [sizeLine_eq]; omega) ?_
    intro h l1 F N hl1
    repeat walk_at "S"
    refine giN (by assumption) (by walk_at "mm") (by omega) htk ?_
    repeat walk_at "S"
    refine mulL (by assumption) (by assumption) (by walk_at "mm") (by omega) (by omega) ?_
    intro h l2 F N hl2
    rw [Int.toNat_natCast] at N
    repeat walk_at "S"
    refine extend_ (rest := (l2, lst (List.replicate (cf i) (.str (nm (f + i)) tn)) 0) :: (it, itR ((i + 1 : Nat) : Int) (4 - ((i + 1 : Nat) : Int)) 1) :: (zD, lst zv zn) :: nw4) F (news_sub N (by walk_at "pm")) (offc (Nat.ne_of_gt (hl2 (eD, lst ev en) (by walk_at "mm"))) (offc (Ne.symm hei) (offc (Ne.symm hez) h4e))) (.head _) (by rw [List.length_replicate]; omega) ?_
    intro h en' F N
    have N := news_sub (news' := (it, itR ((i + 1 : Nat) : Int) (4 - ((i + 1 : Nat) : Int)) 1) :: (eD, lst (ev ++ List.replicate (cf i) (.str (nm (f + i)) tn)) en') :: (zD, lst zv zn) :: nw4) N (by walk_at "pm")
    repeat walk_at "S"
    refine gm (by assumption) (by walk_at "mm") PySem.F.slot_list_extend PySem.F.type_list_extend ?_
    repeat walk_at "S"
    refine giN (by assumption) (by walk_at "mm") (by omega) hnk ?_
    repeat walk_at "S"
    refine newLs (by assumption) (by assumption) (show 1 ≤ _ by rw [sizeLine_eq]; omega) ?_
    intro h l3 F N hl3
    repeat walk_at "S"
    refine giN (by assumption) (by walk_at "mm") (by omega) huk ?_
    repeat walk_at "S"
    refine mulL (by assumption) (by assumption) (by walk_at "mm") (by omega) (by omega) ?_
    intro h l4 F N hl4
    rw [Int.toNat_natCast] at N
    repeat walk_at "S"
    refine extend_ (rest := (l4, lst (List.replicate (rf i) (.str (nm (f + i)) tn)) 0) :: (it, itR ((i + 1 : Nat) : Int) (4 - ((i + 1 : Nat) : Int)) 1) :: (eD, lst (ev ++ List.replicate (cf i) (.str (nm (f + i)) tn)) en') :: nw4) F (news_sub N (by walk_at "pm")) (offc (Nat.ne_of_gt (hl4 (zD, lst zv zn) (by walk_at "mm"))) (offc (Ne.symm hzi) (offc hez h4z))) (.head _) (by rw [List.length_replicate]; omega) ?_
    intro h zn' F N
    repeat walk_at "S"
    refine wl_next (4 - (i + 1)) (by omega) ⟨i + 1, _, _, _, _, en', _, zn', rfl, rfl, hi4, F, news_sub N (by walk_at "pm"), ?_, ?_, by walk_at "lk", by walk_at "lk", by walk_at "lk", by walk_at "lk", by walk_at "lk", by walk_at "lk", by walk_at "lk"⟩
    · rw [bagOf_succ]
      exact strs_app hev (strs_rep _)
    · rw [bagOf_succ]
      exact strs_app hzv (strs_rep _)
  obtain rfl : i = 4 := by omega
  refine fqR_end rfl F N (offc hei (offc hzi h4i)) (by omega) ?_
  intro h F N
  repeat walk_at "S"
  refine andE ?_
  repeat walk_at "S"
  have c1 : ∀ j, j < 4 → dds.count (nm (f + j)) = cf j := fun j _ => by rw [← hcf]
  have c2 : ∀ j, j < 4 → ys.count (nm (f + j)) = rf j := fun j hj => by rw [← hrf]; exact (hfix j hj).2
  have hel : ev.length ≤ 64 := by
    rw [strs_len hev]
    exact bagOf_le (nf := fun k => nm (f + k)) (c := cf) (b := 16) hcf16 4 (by decide)
  have hzl : zv.length ≤ 64 := by
    rw [strs_len hzv]
    exact bagOf_le (nf := fun k => nm (f + k)) (c := rf) (b := 16) hrf16 4 (by decide)
  have hdl2 := strs_len hdv2
  have hbl2 := strs_len hbv2
  refine uld_call (rest := [(bl, lst bv2 bn2), (zD, lst zv zn)]) (xs := dv2) (ys := ev) (n1 := dn2) (n2 := en) (ss := dds) (ts := bagOf (fun k => nm (f + k)) cf 4) (ret := ?_) G F (news_sub N (fun p hp => by
    rcases List.mem_cons.mp hp with rfl | hp
    · exact .tail _ (.tail _ md)
    rcases List.mem_cons.mp hp with rfl | hp
    · exact .head _
    rcases List.mem_cons.mp hp with rfl | hp
    · exact .tail _ (.tail _ mb)
    rcases List.mem_cons.mp hp with rfl | hp
    · exact .tail _ (.head _)
    · exact nomatch hp)) (h4e _ md) (offc hbd (offc (Ne.symm (h4z _ md)) fun p hp => nomatch hp)) (offc (h4e _ mb) (offc (Ne.symm hez) fun p hp => nomatch hp)) hdv2 hev rfl (by omega) (by omega) (by omega) (by omega)
  rw [uld_done hf8 hmd c1]
  intro g3 t1 m1 ms ys' n1 n2 n3 h tk hT3 hms hys F N G
  cases hms
  cases hys
  have B := G.B; have X := G.X; have T := G.T
  repeat walk_at "S"
  refine newLs (by assumption) (by assumption) (by decide) ?_
  intro h a1 F N ha1
  repeat walk_at "S"
  refine newLs (by assumption) (by assumption) (by decide) ?_
  intro h a2 F N ha2
  repeat walk_at "S"
  refine newT (by assumption) (by assumption) (show 2 ≤ _ by rw [sizeLine_eq]; omega) ?_
  intro h q1 F N hq1
  repeat walk_at "S"
  refine eq_nils N (by walk_at "mm") (.head _) (by walk_at "mm") (by walk_at "mm") (.tail _ (.tail _ (.head _))) (.tail _ (.head _)) (Nat.ne_of_lt (ha1 (m1, lst [] n3) (by walk_at "mm"))) (Nat.ne_of_lt (ha2 (eD, lst [] n2) (by walk_at "mm"))) (by show 7 + 5 < _; omega) ?_
  refine ⟨rfl, ?_⟩
  repeat walk_at "S"
  refine uld_call (rest := []) (xs := bv2) (ys := zv) (n1 := bn2) (n2 := zn) (ss := ys) (ts := bagOf (fun k => nm (f + k)) rf 4) (ret := ?_) G F (news_sub N (fun p hp => by
    rcases List.mem_cons.mp hp with rfl | hp
    · walk_at "mm"
    rcases List.mem_cons.mp hp with rfl | hp
    · walk_at "mm"
    · exact nomatch hp)) (h4z _ mb) (fun p hp => nomatch hp) (fun p hp => nomatch hp) hbv2 hzv rfl (by omega) (by omega) (by omega) (by omega)
  rw [uld_done hf8 hmy c2]
  intro g4 t2 m2 ms2 ys2 n4 n5 n6 h tk hT4 hms2 hys2 F N G
  cases hms2
  cases hys2
  have B := G.B; have X := G.X; have T := G.T
  repeat walk_at "S"
  refine newLs (by assumption) (by assumption) (by decide) ?_
  intro h a3 F N ha3
  repeat walk_at "S"
  refine newLs (by assumption) (by assumption) (by decide) ?_
  intro h a4 F N ha4
  repeat walk_at "S"
  refine newT (by assumption) (by assumption) (show 2 ≤ _ by rw [sizeLine_eq]; omega) ?_
  intro h q2 F N hq2
  repeat walk_at "S"
  refine eq_nils N (by walk_at "mm") (.head _) (by walk_at "mm") (by walk_at "mm") (.tail _ (.tail _ (.head _))) (.tail _ (.head _)) (Nat.ne_of_lt (ha3 (m2, lst [] n6) (by walk_at "mm"))) (Nat.ne_of_lt (ha4 (zD, lst [] n5) (by walk_at "mm"))) (by show 7 + 5 < _; omega) ?_
  repeat walk_at "S"
  exact ⟨.inl ⟨.bool true, .bool true, [], rfl, fun _ => by kernel_rfl, .bool true, by kernel_rfl, fun _ => ⟨List.nodup_nil, fun _ z => nomatch z⟩⟩, fun b o e => F.keep b o (B.stays b o e), rfl, hg⟩
end Mine
theorem PySem.Challenge.cw_op0026_01_holds : PySem.Challenge.rw_op0026_01.Holds := by
  exact Mine.z1
