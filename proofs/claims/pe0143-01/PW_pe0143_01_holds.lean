import PyProof.Rows.All
import Wide.All
import OpenK.AllK
import Wide.FinOn
import PySem.Challenge.RW_pe0143_01
set_option Elab.async false
set_option linter.all false
section
open PySem PySem.W PyProof.Rows
namespace Mine
set_option maxRecDepth 100000 in
/-- the text's statements but the four that name the file anew, written out -/
noncomputable def keptBody : List Stmt := by
  refine (?f : (l : List Stmt) → (view Challenge.pw_pe0143_01 [1, 2, 3, 4, 5, 7, 8, 10, 11, 12, 14, 15, 16, 17, 18, 19, 20, 21, 22, 23]).main.body = l → List Stmt) [_, _, _, _, _, _, _, _, _, _, _, _, _, _, _, _, _, _, _, _] rfl
  case f => exact fun l _ => l
noncomputable def kept : Program := { Challenge.rw_pe0143_01.row.prog with main := { Challenge.rw_pe0143_01.row.prog.main with body := keptBody } }
-- the looks at the law, each a lemma of its own, so that no step of the kernel's is long
set_option maxRecDepth 100000 in
set_option maxHeartbeats 8000000 in
theorem wellSaid : Challenge.rw_pe0143_01.wellSaid = true := by
  delta OpenLaw.wellSaid OpenRow.wellSaid OpenRow.partSaid looksOpen
  repeat' (with_reducible refine look_both ?_ ?_)
  all_goals (as_aux_lemma => kernel_rfl)
theorem headAll {d : DefRec} {kwd : List (Str × Expr)} (H : Hook) (said : Challenge.rw_pe0143_01.row.wellSaid = true)
    (hdef : defOf kept Challenge.rw_pe0143_01.row.name = some (d, kwd)) (hp : Challenge.rw_pe0143_01.row.prog.theDef Challenge.rw_pe0143_01.row.name = some (d.params, d.body, d.scope)) (hk : kwWritten? d.params.kwonlyargs d.params.kw_defaults = some kwd)
    (hl : LeftO Challenge.rw_pe0143_01.row.prog kept [] (fun s => xlAt kept [] s && recOk (RowW.records Challenge.rw_pe0143_01.row.toRowW) s) (Hook.obs H) (Hook.val H) 1274)
    (hw : Challenge.rw_pe0143_01.row.toRowW.promised) (hc : WalkO kept [] (XL kept []) (Hook.says H) Challenge.rw_pe0143_01.row.toRowW d kwd (fun f vs => PySem.call f vs)) : Challenge.rw_pe0143_01.row.Holds :=
  holds_open (q := kept) (loose := []) (XP := XL kept []) (Yf := Hook.obs H) (Ya := Hook.val H) (YP := Hook.says H) (N := 1274) hl (Hook.of H) (Hook.keeps H) (fun s e => xl_of s (Bool.and_eq_true_iff.mp e).1) XL.keeps hdef hp hk (fun s e => recFacts_of (Bool.and_eq_true_iff.mp e).2) (by rfl) said (by decide +kernel) ⟨rfl, rfl, rfl, rfl, rfl, by decide +kernel⟩ hw hc
-- the head at once and without twins: the twins' proofs take 9 MB of object
set_option hygiene false in
local macro_rules | `(tactic| o_law) => `(tactic| refine holds_law wellSaid fun said => ?_)
set_option hygiene false in
local macro_rules | `(tactic| o_head $H) => `(tactic| refine headAll $H said (by rfl) (by rfl) (by rfl) (fun w => by kernel_rfl) ?hw ?hc)
set_option maxRecDepth 100000 in
set_option maxHeartbeats 8000000 in
open_top hd for PySem.Challenge.rw_pe0143_01
end Mine
end
section
open PySem PySem.W PyProof.Rows
set_option maxRecDepth 100000
namespace Mine
noncomputable abbrev Led := List (Addr × Obj)
noncomputable abbrev TopR (mg mb : Str → Option Value) (h : Heap) : Prop := TopRead kept (looseW kept []) mg mb h
/-- a call of the text's own def at f gives back R t; the caller's frame and ledger stand -/
noncomputable def SpecV (w : World) (mg mb : Str → Option Value) (f : Addr) (dep : Nat) (vs : List Value) (Pre : Led → Prop) (R : Tok → Value) : Prop :=
  ∀ (dp un : Nat) (gd : Option (List Code)) (cn : Str) (cs : Scope) (a : Addr) (ccd : Value) (cl : List (Str × Addr)) (outer : List Env) (A₀ : Around) (base h₀ : Heap) (L : Addr) (m : Str → Option Value) (news : Led) (s : Shared) (Q E : Value → Shared → Prop),
    Below A₀ base outer h₀ → Fr h₀ L s.heap m → (hd.heap_1 w.params).In h₀ → News h₀ L s.heap news → TopR mg mb h₀ → cs.kind = .function → Pre news → dp + dep < recursionLimit → un + 8 * dep + 100 < cLine →
    (∀ t h' tk', Fr h₀ L h' m → News h₀ L h' news → Q (R t) { s with heap := h', toks := tk' }) →
    wpAny (model Challenge.rw_pe0143_01.row.prog w) (ktrTop dp un gd cn cs L a ccd cl outer) (call (.ref f) vs) Q E s
/-- a call of the text's own def at f gives back r and the new objects tl, told by Out -/
noncomputable def SpecO (w : World) (mg mb : Str → Option Value) (f : Addr) (dep : Nat) (vs : List Value) (Pre : Led → Prop) (Out : Led → Value → Prop) : Prop :=
  ∀ (dp un : Nat) (gd : Option (List Code)) (cn : Str) (cs : Scope) (a : Addr) (ccd : Value) (cl : List (Str × Addr)) (outer : List Env) (A₀ : Around) (base h₀ : Heap) (L : Addr) (m : Str → Option Value) (news : Led) (s : Shared) (Q E : Value → Shared → Prop),
    Below A₀ base outer h₀ → Fr h₀ L s.heap m → (hd.heap_1 w.params).In h₀ → News h₀ L s.heap news → TopR mg mb h₀ → cs.kind = .function → Pre news → dp + dep < recursionLimit → un + 8 * dep + 100 < cLine →
    (∀ r tl h' tk', Fr h₀ L h' m → News h₀ L h' (tl ++ news) → (∀ q ∈ tl, ∀ p ∈ news, p.1 < q.1) → Out tl r → Q r { s with heap := h', toks := tk' }) →
    wpAny (model Challenge.rw_pe0143_01.row.prog w) (ktrTop dp un gd cn cs L a ccd cl outer) (call (.ref f) vs) Q E s
section
variable {w : World} {mg mb : Str → Option Value} {f : Addr} {dep : Nat} {vs : List Value} {Pre : Led → Prop} {dp un : Nat} {gd : Option (List Code)} {cn : Str} {cs : Scope} {a : Addr} {ccd : Value} {cl : List (Str × Addr)} {outer : List Env} {A₀ : Around} {base h₀ : Heap} {L : Addr} {m : Str → Option Value} {news : Led} {s : Shared} {Q E : Value → Shared → Prop}
theorem SpecV.use {R : Tok → Value} (S : SpecV w mg mb f dep vs Pre R) (B : Below A₀ base outer h₀) (F : Fr h₀ L s.heap m) (X : (hd.heap_1 w.params).In h₀) (N : News h₀ L s.heap news) (T : TopR mg mb h₀) (hk : cs.kind = .function) (hp : Pre news) (hd : dp + dep < recursionLimit) (hu : un + 8 * dep + 100 < cLine)
    (ret : ∀ t h' tk', Fr h₀ L h' m → News h₀ L h' news → Q (R t) { s with heap := h', toks := tk' }) :
    wpAny (model Challenge.rw_pe0143_01.row.prog w) (ktrTop dp un gd cn cs L a ccd cl outer) (call (.ref f) vs) Q E s := S _ _ _ _ _ _ _ _ _ _ _ _ _ _ _ _ _ _ B F X N T hk hp hd hu ret
theorem SpecO.use {Out : Led → Value → Prop} (S : SpecO w mg mb f dep vs Pre Out) (B : Below A₀ base outer h₀) (F : Fr h₀ L s.heap m) (X : (hd.heap_1 w.params).In h₀) (N : News h₀ L s.heap news) (T : TopR mg mb h₀) (hk : cs.kind = .function) (hp : Pre news) (hd : dp + dep < recursionLimit) (hu : un + 8 * dep + 100 < cLine)
    (ret : ∀ r tl h' tk', Fr h₀ L h' m → News h₀ L h' (tl ++ news) → (∀ q ∈ tl, ∀ p ∈ news, p.1 < q.1) → Out tl r → Q r { s with heap := h', toks := tk' }) :
    wpAny (model Challenge.rw_pe0143_01.row.prog w) (ktrTop dp un gd cn cs L a ccd cl outer) (call (.ref f) vs) Q E s := S _ _ _ _ _ _ _ _ _ _ _ _ _ _ _ _ _ _ B F X N T hk hp hd hu ret
end
section
variable {prog : Program} {w : World} {A A₀ : Around} {s : Shared} {K : Frag} {L : Addr} {h₀ base : Heap} {m mg mb : Str → Option Value} {news : Led} {p : Program} {loose : List Str}
/-- entering a def of the text's own, over the reading part of the top alone -/
theorem enterR {env : Env} {outer : List Env} {R : Result → Shared → Prop} {name qual : Str} {params : Arguments} {body : List Stmt} {scope : Scope} {dV kV doc pm cdv ct oc : Value} {an od : Option Addr} {osl : Array (Option Value)} {f : Addr} {args : Args} {binds : List (Str × Value)}
    (B : Below A₀ base outer h₀) (F : Fr h₀ L s.heap m) (X₀ : K.In h₀) (N : News h₀ L s.heap news) (T : TopRead p loose mg mb h₀) (hA : A.frames = some (env :: outer)) (hf : env.frame = some L) (hke : env.scope.kind = .function)
    (ho : K.lookup f = some ⟨oc, od, .func (fnOf name qual params body scope dV kV doc pm an cdv ct), osl⟩) (hcd : codeIn K cdv qual = true) (hroom : A.depth < recursionLimit)
    (hbind : BindsTo s (fnOf name qual params body scope dV kV doc pm an cdv ct) args binds) (hloc : ∀ y ∈ binds, scope.names.lookup y.1 = some .local)
    (h : ∀ g L' h₁, Fr h₀ L g m → Fr g L' h₁ (fun y => binds.reverse.lookup y) → News g L' h₁ news → Below A base (env :: outer) g → K.In g → TopRead p loose mg mb g →
      wpAny (model prog w) (A.deeper (envOf qual scope L' f cdv)) (execs body (envOf qual scope L' f cdv))
        (fun fl s' => LeaveK h₀ L m g R (match fl with | .ret v => v | _ => .none) s')
        (fun e s' => wpAny (model prog w) (A.deeper (envOf qual scope L' f cdv)) (leaving (envOf qual scope L' f cdv) e) (fun _ s'' => R (.error e) s'') (fun e' s'' => R (.error e') s'') s')
        { s with heap := h₁, toks := s.toks + binds.length })
    (hco : scope.isCoroutine = false) (hgen : scope.isGenerator = false) (hk : scope.kind = .function)
    (hcell : ∀ x ∈ scope.names, x.2 ≠ .cell) : codeAny (model prog w) A (.call (.ref f) args) R s :=
  callX_plain (cl := []) B F N T.nolimit hA hf hke ((X₀.keeps F.keep) _ _ ho) rfl (codeRec_of (X₀.keeps F.keep) hcd) hroom hbind hloc (fun g L' h₁ FG F' N' B' st _ => h g L' h₁ FG F' N' B' (X₀.keeps st) (T.keeps st)) hcell hco hgen hk
theorem news_dup {h : Heap} {a : Addr} {o : Obj} (N : News h₀ L h news) (hm : (a, o) ∈ news) : News h₀ L h ((a, o) :: news) := fun p hp => by
  rcases List.mem_cons.mp hp with rfl | hp
  · exact N _ hm
  · exact N _ hp
theorem news_sub {h : Heap} {news' : Led} (N : News h₀ L h news') (hs : ∀ p ∈ news, p ∈ news') : News h₀ L h news := fun p hp => N p (hs p hp)
theorem retV {h' : Heap} {tk' : Nat} {Q : Value → Shared → Prop} {R : Tok → Value} {v : Value} (hret : ∀ t h' tk', Fr h₀ L h' m → News h₀ L h' news → Q (R t) { s with heap := h', toks := tk' }) (e : ∃ t, v = R t) (F : Fr h₀ L h' m) (N : News h₀ L h' news) :
    Q v { s with heap := h', toks := tk' } := by
  obtain ⟨t, rfl⟩ := e
  exact hret t h' tk' F N
end
/-- a mark: the walk goes no further here -/
noncomputable def Stop (P : Prop) : Prop := P
theorem stopAt {P : Prop} (h : Stop P) : P := h
theorem eInt {x y : Int} {t : Tok} (h : x = y) : ∃ t', Value.int x t = Value.int y t' := ⟨t, by rw [h]⟩
theorem eStr {x y : Str} {t : Tok} (h : x = y) : ∃ t', Value.str x t = Value.str y t' := ⟨t, by rw [h]⟩
theorem eBool {x y : Bool} (h : x = y) : ∃ _t : Tok, Value.bool x = Value.bool y := ⟨0, by rw [h]⟩
end Mine
end
section
open PySem PySem.W PyProof.Rows
set_option maxRecDepth 100000
namespace Mine
theorem sub_cons {a : Addr × Obj} {l r : Led} (h : a ∈ r) (t : ∀ p ∈ l, p ∈ r) : ∀ p ∈ a :: l, p ∈ r := List.forall_mem_cons.mpr ⟨h, t⟩
theorem sub_nil {r : Led} : ∀ p ∈ ([] : Led), p ∈ r := List.forall_mem_nil _
theorem sub_app {l₁ l₂ r : Led} (h : ∀ p ∈ l₁, p ∈ r) (t : ∀ p ∈ l₂, p ∈ r) : ∀ p ∈ l₁ ++ l₂, p ∈ r := fun p hp => (List.mem_append.mp hp).elim (h p) (t p)
theorem c6b {n : Nat} (h : n < 6) : ((n : Nat) : Int) < 6 := Int.ofNat_lt.mpr h
theorem c4b {n : Nat} (h : n < 4) : ((n : Nat) : Int) < 4 := Int.ofNat_lt.mpr h
theorem c78 {n : Nat} (h : n = 7 ∨ n = 8) : ((n : Nat) : Int) = 7 ∨ ((n : Nat) : Int) = 8 := h.imp (congrArg Int.ofNat) (congrArg Int.ofNat)
theorem turnLess {n i : Nat} (h : i < n) : n + 1 - (i + 1) < n + 1 - i := by omega
end Mine
end
section
open PySem PySem.W PyProof.Rows
set_option maxRecDepth 100000
namespace Mine
local macro_rules | `(tactic| walk_at "call builtin:str.lower") => `(tactic| (k_here; (with_reducible show wpAny _ _ (call (Value.builtin "str.lower") [Value.str _ _]) _ _ _); (refine SCL.lower (by kopn_len) ?_); intro _))
noncomputable def subc (a b : Str) : Int := if a == b then 0 else if Txt.lower a == Txt.lower b then 1 else 2
set_option maxHeartbeats 8000000 in
theorem subst_spec (w : World) (mg mb : Str → Option Value) (a b : Str) (ta tb : Tok) (ha : a.length ≤ 40) (hb : b.length ≤ 40) :
  SpecV w mg mb 21 1 [.str a ta, .str b tb] (fun _ => True) (fun t => .int (subc a b) t) := by
  unfold SpecV
  k_fill
  intro dp un gd cn cs ad ccd cl outer A₀ base h₀ L m news s Q E B F X N T hk hpre hdp hun hret
  refine wpAny_call ?_
  k_dflt (((refine' enterR ?k1 ?k2 ?k3 ?k4 ?k5 ?kA ?kF ?kK ?k6 ?k7 ?k8 ?k9 ?kB ?_ ?c2 ?c3 ?c4 ?c5; (case kA => exact rfl); (case kF => exact rfl); (case kK => assumption); (case k1 => k_asm); (case k2 => k_asm); (case k3 => k_asm); (case k4 => k_asm); (case k5 => k_asm); (case k6 => k_is); (case k7 => k_is); (case k8 => ktr_room); (case k9 => exact BindsTo.of_eq rfl); (case c5 => decide); (case kB => exact locs rfl); (case c2 => exact rfl); (case c3 => exact rfl); (case c4 => exact rfl); k_whole; intro g' L' h' FG' F' N' B' X' T'; (try dsimp only); (try k_lift B'); (try k_fold))))
  k_steps
  all_goals (refine retV hret (eInt ?_) (by k_asm) (by (first | k_asm | (refine' news_sub ?nn ?ns; (case nn => assumption); (case ns => kcj_all)))); unfold subc; simp_all)
noncomputable abbrev tup2 (a b : Value) : Obj := { cls := .type "tuple", data := .seq #[a, b] }
noncomputable abbrev tup3 (a b c : Value) : Obj := { cls := .type "tuple", data := .seq #[a, b, c] }
set_option maxHeartbeats 8000000 in
theorem share_spec (w : World) (mg mb : Str → Option Value) (y : Int) (ty : Tok) :
  SpecO w mg mb 70 1 [.int y ty] (fun _ => True) (fun tl r => ∃ D t1 t2 t3, tl = [(D, tup3 (.int ((y.fdiv 4).fmod 6) t1) (.int ((y.fdiv 24).fmod 6) t2) (.int ((y.fdiv 144).fmod 2) t3))] ∧ r = .ref D) := by
  unfold SpecO
  k_fill
  intro dp un gd cn cs ad ccd cl outer A₀ base h₀ L m news s Q E B F X N T hk hpre hdp hun hret
  refine wpAny_call ?_
  k_dflt (((refine' enterR ?k1 ?k2 ?k3 ?k4 ?k5 ?kA ?kF ?kK ?k6 ?k7 ?k8 ?k9 ?kB ?_ ?c2 ?c3 ?c4 ?c5; (case kA => exact rfl); (case kF => exact rfl); (case kK => assumption); (case k1 => k_asm); (case k2 => k_asm); (case k3 => k_asm); (case k4 => k_asm); (case k5 => k_asm); (case k6 => k_is); (case k7 => k_is); (case k8 => ktr_room); (case k9 => exact BindsTo.of_eq rfl); (case c5 => decide); (case kB => exact locs rfl); (case c2 => exact rfl); (case c3 => exact rfl); (case c4 => exact rfl); k_whole; intro g' L' h' FG' F' N' B' X' T'; (try dsimp only); (try k_lift B'); (try k_fold))))
  k_steps
  all_goals (refine hret _ [_] _ _ (by k_asm) (by k_asm) ?_ ⟨_, _, _, _, rfl, rfl⟩; intro q hq p hp; rw [List.mem_singleton.mp hq]; (first | (rename ∀ p ∈ news, p.1 < _ => l1); exact l1 p hp))
/-- what _law_start leaves -/
noncomputable def startLed (l d0 d1 d2 d3 e0 e1 e2 e3 : Addr) (k : Nat → Tok) : Led := [(l, W.listOf #[.ref d0, .ref d1, .ref d2, .ref d3] 0), (d3, tup2 (.int 3 (k 12)) (.ref e3)), (e3, tup3 (.int 1 (k 13)) (.int 2 (k 14)) (.int 0 (k 15))), (d2, tup2 (.int 2 (k 8)) (.ref e2)), (e2, tup3 (.int 2 (k 9)) (.int 4 (k 10)) (.int 1 (k 11))), (d1, tup2 (.int 1 (k 4)) (.ref e1)), (e1, tup3 (.int 5 (k 5)) (.int 0 (k 6)) (.int 0 (k 7))), (d0, tup2 (.int 0 (k 0)) (.ref e0)), (e0, tup3 (.int 1 (k 1)) (.int 4 (k 2)) (.int 0 (k 3)))]
set_option maxHeartbeats 8000000 in
theorem start_spec (w : World) (mg mb : Str → Option Value) :
  SpecO w mg mb 63 1 [] (fun _ => True) (fun tl r => ∃ l d0 d1 d2 d3 e0 e1 e2 e3 k, tl = startLed l d0 d1 d2 d3 e0 e1 e2 e3 k ∧ r = .ref l) := by
  unfold SpecO
  k_fill
  intro dp un gd cn cs ad ccd cl outer A₀ base h₀ L m news s Q E B F X N T hk hpre hdp hun hret
  refine wpAny_call ?_
  k_dflt (((refine' enterR ?k1 ?k2 ?k3 ?k4 ?k5 ?kA ?kF ?kK ?k6 ?k7 ?k8 ?k9 ?kB ?_ ?c2 ?c3 ?c4 ?c5; (case kA => exact rfl); (case kF => exact rfl); (case kK => assumption); (case k1 => k_asm); (case k2 => k_asm); (case k3 => k_asm); (case k4 => k_asm); (case k5 => k_asm); (case k6 => k_is); (case k7 => k_is); (case k8 => ktr_room); (case k9 => exact BindsTo.of_eq rfl); (case c5 => decide); (case kB => exact locs rfl); (case c2 => exact rfl); (case c3 => exact rfl); (case c4 => exact rfl); k_whole; intro g' L' h' FG' F' N' B' X' T'; (try dsimp only); (try k_lift B'); (try k_fold))))
  k_steps
  refine hret _ (startLed _ _ _ _ _ _ _ _ _ fun i => _ + i) _ _ (by k_asm) (by assumption) ?_ ⟨_, _, _, _, _, _, _, _, _, _, rfl, rfl⟩
  intro q hq p hp
  rename ∀ p ∈ news, p.1 < _ => l1
  have h0 := ltN (l1 p hp)
  simp only [startLed, List.mem_cons, List.not_mem_nil, or_false] at hq
  rcases hq with rfl | rfl | rfl | rfl | rfl | rfl | rfl | rfl | rfl <;> (refine ltN ?_; dsimp only; omega)
end Mine
end
section
open PySem PySem.W PyProof.Rows
set_option maxRecDepth 100000
namespace Mine

theorem if_abs (x : Int) : (if x < 0 then -x else x) = (x.natAbs : Int) := by split <;> omega
theorem if_max (a b : Int) : (if b > a then b else a) = max a b := by rw [Int.max_def]; split <;> split <;> omega
theorem if_min (a b : Int) : (if b < a then b else a) = min a b := by rw [Int.min_def]; split <;> split <;> omega
noncomputable def fits (p q n p2 q2 n2 k : Int) : Bool := if n ≠ n2 then false else if p2 - p < 0 ∨ q2 - q < 0 then false else (p2 - p == 0 || k != 1) && (q2 - q == 0 || k != 0)
noncomputable def distD (p q n p2 q2 n2 : Int) : Int :=
  if (p2 - p) * (q2 - q) < 0 then 2 * min ((p2 - p).natAbs + (q2 - q).natAbs + (if n ≠ n2 then 1 else 0) : Int) (max ((p2 - p).natAbs : Int) ((q2 - q).natAbs : Int) + 3) else 2 * ((p2 - p).natAbs + (q2 - q).natAbs + (if n ≠ n2 then 1 else 0))
set_option maxHeartbeats 8000000 in
theorem fits_spec (w : World) (mg mb : Str → Option Value) (t u : Addr) (p q n p2 q2 n2 : Int) (tp tq tn up uq un : Tok) (hp : 0 ≤ p) (hp2 : p < 6) (hq : 0 ≤ q) (hq2 : q < 6) (hp3 : 0 ≤ p2) (hp4 : p2 < 6) (hq3 : 0 ≤ q2) (hq4 : q2 < 6) (k : Int) (tk : Tok) :
  SpecV w mg mb 94 1 [.ref t, .ref u, .int k tk] (fun news => (t, tup3 (.int p tp) (.int q tq) (.int n tn)) ∈ news ∧ (u, tup3 (.int p2 up) (.int q2 uq) (.int n2 un)) ∈ news) (fun _ => .bool (fits p q n p2 q2 n2 k)) := by
  unfold SpecV
  k_fill
  intro dp un gd cn cs ad ccd cl outer A₀ base h₀ L m news s Q E B F X N T hk hpre hdp hun hret
  obtain ⟨hpre1, hpre2⟩ := hpre
  have N1 := news_dup (news_dup N hpre1) (List.mem_cons_of_mem _ hpre2)
  clear N hpre1 hpre2
  refine wpAny_call ?_
  k_dflt (((refine' enterR ?k1 ?k2 ?k3 ?k4 ?k5 ?kA ?kF ?kK ?k6 ?k7 ?k8 ?k9 ?kB ?_ ?c2 ?c3 ?c4 ?c5; (case kA => exact rfl); (case kF => exact rfl); (case kK => assumption); (case k1 => k_asm); (case k2 => k_asm); (case k3 => k_asm); (case k4 => k_asm); (case k5 => k_asm); (case k6 => k_is); (case k7 => k_is); (case k8 => ktr_room); (case k9 => exact BindsTo.of_eq rfl); (case c5 => decide); (case kB => exact locs rfl); (case c2 => exact rfl); (case c3 => exact rfl); (case c4 => exact rfl); k_whole; intro g' L' h' FG' F' N' B' X' T'; (try dsimp only); (try k_lift B'); (try k_fold))))
  (repeat' (first | (k_unfold; (try dsimp only)) | (walk1 <;> (try dsimp only)) | (dsimp only; walk1) | (leave1; try dsimp only)))
  all_goals (refine retV hret (eBool ?_) (by k_asm) (by (first | k_asm | (refine' news_sub ?nn ?ns; (case nn => assumption); (case ns => kcj_all)))); unfold fits; cb_eq)
set_option maxHeartbeats 8000000 in
theorem dist_spec (w : World) (mg mb : Str → Option Value) (t u : Addr) (p q n p2 q2 n2 : Int) (tp tq tn up uq un : Tok) (hp : 0 ≤ p) (hp2 : p < 6) (hq : 0 ≤ q) (hq2 : q < 6) (hp3 : 0 ≤ p2) (hp4 : p2 < 6) (hq3 : 0 ≤ q2) (hq4 : q2 < 6) :
  SpecV w mg mb 101 1 [.ref t, .ref u] (fun news => (t, tup3 (.int p tp) (.int q tq) (.int n tn)) ∈ news ∧ (u, tup3 (.int p2 up) (.int q2 uq) (.int n2 un)) ∈ news) (fun t => .int (distD p q n p2 q2 n2) t) := by
  unfold SpecV
  k_fill
  intro dp un gd cn cs ad ccd cl outer A₀ base h₀ L m news s Q E B F X N T hk hpre hdp hun hret
  obtain ⟨hpre1, hpre2⟩ := hpre
  have N1 := news_dup (news_dup N hpre1) (List.mem_cons_of_mem _ hpre2)
  clear N hpre1 hpre2
  refine wpAny_call ?_
  k_dflt (((refine' enterR ?k1 ?k2 ?k3 ?k4 ?k5 ?kA ?kF ?kK ?k6 ?k7 ?k8 ?k9 ?kB ?_ ?c2 ?c3 ?c4 ?c5; (case kA => exact rfl); (case kF => exact rfl); (case kK => assumption); (case k1 => k_asm); (case k2 => k_asm); (case k3 => k_asm); (case k4 => k_asm); (case k5 => k_asm); (case k6 => k_is); (case k7 => k_is); (case k8 => ktr_room); (case k9 => exact BindsTo.of_eq rfl); (case c5 => decide); (case kB => exact locs rfl); (case c2 => exact rfl); (case c3 => exact rfl); (case c4 => exact rfl); k_whole; intro g' L' h' FG' F' N' B' X' T'; (try dsimp only); (try k_lift B'); (try k_fold))))
  (repeat' (first | (k_unfold; (try dsimp only)) | (walk1 <;> (try dsimp only)) | (dsimp only; walk1) | (leave1; try dsimp only)))
  all_goals (refine retV hret (eInt ?_) (by k_asm) (by (first | k_asm | (refine' news_sub ?nn ?ns; (case nn => assumption); (case ns => kcj_all)))); simp only [if_abs, if_max, if_min]; unfold distD; first | (rw [if_pos (by assumption), if_pos (by assumption)]; done) | (rw [if_neg (by assumption), if_pos (by assumption)]; done) | (rw [if_pos (by assumption), if_neg (by assumption)]; done) | (rw [if_neg (by assumption), if_neg (by assumption)]; done) | ((rename n = n2 => hq9); subst hq9; (first | (rw [if_pos (by assumption), if_neg (by simp)]; done) | (rw [if_neg (by assumption), if_neg (by simp)]; done))))
end Mine
end
section
open PySem PySem.W PyProof.Rows
set_option maxRecDepth 100000
namespace Mine

section
variable {prog : Program} {w : World} {A : Around} {E : Value → Shared → Prop} {s : Shared} {h₀ : Heap} {L : Addr} {m : Str → Option Value} {news : Led}
/-- the front of a tuple, t[:b], by the model's own reading of a slice -/
theorem slice_front {sl : Addr} {b n : Nat} {u : Tok} {Q : Int × Int × Nat → Shared → Prop} (hs : s.heap.IsSliceOf sl .none (.int b u) .none) (hb : b ≤ n) (h : Q (0, 1, b) s) :
    wpAny (model prog w) A (Builtin.Slice.sliceApplied (.ref sl) (pure (n : Int))) Q E s := by
  obtain ⟨os, hos, hcs, hds⟩ := id hs
  unfold Builtin.Slice.sliceApplied Builtin.Slice.sliceFields
  refine wpAny_bind (wpAny_bind (wpAny_field hos hds (x := .none) rfl (wpAny_bind (wpAny_field hos hds (x := .int b u) rfl (wpAny_bind (wpAny_field hos hds (x := .none) rfl (wpAny_pure ?_)))))))
  refine wpAny_bind (slicePart_none ?_)
  show wpAny _ _ (if ((1 : Int) == 0) = true then _ else _) _ _ s
  rw [if_neg (by decide)]
  refine wpAny_bind (slicePart_none (wpAny_bind (slicePart_int (wpAny_bind (wpAny_pure ?_)))))
  have e1 : Builtin.Slice.sliceAdjust none (some (b : Int)) 1 (n : Int) = (0, (b : Int)) := by
    unfold Builtin.Slice.sliceAdjust
    have h1 : ¬ ((1 : Int) < 0) := by omega
    have h2 : ¬ ((b : Int) < 0) := by omega
    simp only [h1, h2, if_false]
    congr 1
    omega
  have e2 : Builtin.Slice.slicePlaces 0 (b : Int) 1 = b := by
    unfold Builtin.Slice.slicePlaces
    have h1 : (1 : Int) > 0 := by omega
    simp only [h1, if_true, Int.ediv_one]
    split <;> omega
  show wpAny _ _ (match Builtin.Slice.sliceAdjust none (some (b : Int)) 1 (n : Int) with | (lo, hi) => pure (lo, (1 : Int), Builtin.Slice.slicePlaces lo hi 1)) _ _ s
  rw [e1]
  show wpAny _ _ (pure ((0 : Int), (1 : Int), Builtin.Slice.slicePlaces 0 (b : Int) 1)) _ _ s
  rw [e2]
  exact wpAny_pure h
theorem pick_front (xs : Array Value) (b : Nat) (_hb : b ≤ xs.size) : ((List.range b).filterMap fun (k : Nat) => xs[((0 : Int) + (k : Int) * 1).toNat]?).toArray = (xs.toList.take b).toArray := by
  have e : (fun (k : Nat) => xs[((0 : Int) + (k : Int) * 1).toNat]?) = fun k => xs[0 + k]? := by
    funext k
    have : ((0 : Int) + (k : Int) * 1).toNat = 0 + k := by omega
    rw [this]
  rw [e]
  have := pick_run xs 0 b
  rw [List.filterMap_map] at this
  have e2 : ((fun x => xs[x]?) ∘ fun x => 0 + x) = fun k => xs[0 + k]? := rfl
  rw [e2] at this
  rw [this, List.drop_zero]
theorem item_front {t sl : Addr} {items : Array Value} {b : Nat} {u : Tok} {Q : Value → Shared → Prop} (ht : IsTup s.heap t items) (hs : s.heap.IsSliceOf sl .none (.int b u) .none) (hb : b < items.size)
    (h : Q (.ref s.heap.objs.size) { s with heap := s.heap.push { cls := .type "tuple", data := .seq (items.toList.take b).toArray } })
    (hsz : items.size ≤ sizeLine) : wpAny (model prog w) A (getItem (.ref t) (.ref sl)) Q E s := by
  have hdrop : sizeOk (.seq (items.toList.take b).toArray) := by
    show (items.toList.take b).toArray.size ≤ sizeLine
    rw [List.size_toArray, List.length_take, Array.length_toList]
    omega
  obtain ⟨os, hos, hcs, hds⟩ := id hs
  have hTs : s.TypeIs (.ref sl) "slice" := ⟨os, hos, hcs⟩
  unfold getItem
  try with_reducible refine wpAny_holding ?_
  first | refine wpAny_bind (wpAny_pure ?_) | skip
  refine wpAny_bind (wpAny_sequenceKey ht.typeIs (by decide) ?_)
  refine wpAny_bind (wpAny_callSpecial?_slot (name := Str.ofString "__getitem__") ht.typeIs slot_tuple_getitem
    (wpAny_call_entry slot_tuple_getitem ht.typeIs entry_tuple_getitem ?_ (args_tuple_getitem _ _)))
  show wpAny _ _ (Builtin.Tuple.tupleItemsOf (.ref t) >>= _) _ _ s
  refine wpAny_bind (tupleItemsOf_ ht ?_)
  refine wpAny_bind (wpAny_typeOf hTs ?_)
  rw [if_pos (by decide)]
  refine wpAny_bind (slice_front hs (Nat.le_of_lt hb) ?_)
  have hno : ¬ (((0 : Int) == 0 && (1 : Int) == 1 && b == items.size) = true) := by
    have : (b == items.size) = false := by rw [beq_eq_false_iff_ne]; omega
    rw [this]; simp
  show wpAny _ _ (if ((0 : Int) == 0 && (1 : Int) == 1 && b == items.size) = true then _ else _) _ _ s
  rw [if_neg hno, pick_front items b (Nat.le_of_lt hb)]
  first
    | exact wpAny_bind (m := Builtin.Tuple.tupleExact _) (wpAny_newObj_type (wpAny_pure ⟨_, rfl, wpAny_pure h⟩) hdrop)
    | exact wpAny_bind (m := Builtin.Tuple.tupleExact _) (wpAny_newObj_type (wpAny_bind (wpAny_pure (wpAny_pure ⟨_, rfl, wpAny_pure h⟩))) hdrop)
    | exact wpAny_bind (wpAny_bind (m := Builtin.Tuple.tupleExact _) (wpAny_newObj_type (wpAny_pure (wpAny_pure ⟨_, rfl, wpAny_pure h⟩)) hdrop))
    | exact wpAny_bind (wpAny_bind (m := Builtin.Tuple.tupleExact _) (wpAny_newObj_type (wpAny_pure ⟨_, rfl, wpAny_pure h⟩) hdrop))
theorem front_tup {value slice : Expr} {t : Addr} {o : Obj} {its zs : List Value} (b : Nat) {k : Int} {u : Tok} {Q : Value → Shared → Prop} (hk : k = (b : Int))
    (F : Fr h₀ L s.heap m) (N : News h₀ L s.heap news) (hm : (t, o) ∈ news) (ho : o = { cls := .type "tuple", data := .seq its.toArray }) (hb : b < its.length) (hz : its.take b = zs)
    (h : ∀ D h', Fr h₀ L h' m → News h₀ L h' ((D, { cls := .type "tuple", data := .seq zs.toArray }) :: news) → (∀ p ∈ news, p.1 < D) → Q (.ref D) { s with heap := h' })
    (hs : subscripted slice false (.ref t) (.ref s.heap.objs.size) = operate [.ref s.heap.objs.size, .ref t] (getItem (.ref t) (.ref s.heap.objs.size)))
    (hg : ∀ r, letTemporaryGo value (.ref t) r = pure ()) (hsz : its.length ≤ sizeLine) :
    wpAny (model prog w) A (subscriptTail value slice (.ref t) (.ref s.heap.objs.size)) Q E { s with heap := s.heap.push { cls := .type "slice", data := .fields #[.none, .int k u, .none] } } := by
  subst ho hz hk
  have ht : IsTup s.heap t its.toArray := News.isTup N hm
  have ht' : IsTup (s.heap.push { cls := .type "slice", data := .fields #[.none, .int b u, .none] }) t its.toArray := ht.keeps fun _ _ e => Heap.get?_push_of_some _ e
  refine subscriptTail_ops (s := { s with heap := s.heap.push { cls := .type "slice", data := .fields #[.none, .int b u, .none] } }) ht'.typeIs slot_tuple_getitem.lookup
    (item_front ht' (Heap.IsSliceOf.new ..) (by simpa using hb) ?_ (by simpa using hsz)) hs hg
  have N1 := News.push (F.push { cls := .type "slice", data := .fields #[.none, .int b u, .none] }) (N.grown fun _ _ e => Heap.get?_push_of_some _ e) { cls := .type "tuple", data := .seq (its.take b).toArray }
  rw [Heap.size_push] at N1
  show Q (.ref (s.heap.push _).objs.size) _
  rw [Heap.size_push]
  exact h _ _ ((F.push _).push _) N1 fun p hp => Nat.lt_succ_of_lt (Heap.lt_size (N p hp).1)
end
local macro_rules | `(tactic| walk_at "subscriptTail Name Slice ref ref") => `(tactic| (refine stopAt ?_))
theorem shaped_si {x : Str} {n : Int} (h : PyData.strOk x = true) : PySem.SeqAt.shaped (PyData.tuple [PyData.str x, PyData.int n]) = true := by
  simp [PySem.SeqAt.shaped, PyData.canLay0, PyData.canLayAll0, PyData.depth, PyData.depthAll, h]
set_option maxHeartbeats 8000000 in
theorem fstd_spec (w : World) (mg mb : Str → Option Value) (t : Addr) (x y : Str) (n : Int) (tx tn ty : Tok) (hx : x.length ≤ 20) (hy : y.length ≤ 20) (hn : n = 7 ∨ n = 8) (hxo : PyData.strOk x = true) :
  SpecV w mg mb 42 1 [.ref t] (fun news => (t, tup3 (.str x tx) (.int n tn) (.str y ty)) ∈ news) (fun t => .str (x ++ Str.ofString ":" ++ Str.ofString (toString n) ++ Str.ofString "(" ++ y ++ Str.ofString ")") t) := by
  unfold SpecV
  k_fill
  intro dp un gd cn cs ad ccd cl outer A₀ base h₀ L m news s Q E B F X N T hk hpre hdp hun hret
  have N1 := news_dup N hpre
  clear N hpre
  refine wpAny_call ?_
  k_dflt (((refine' enterR ?k1 ?k2 ?k3 ?k4 ?k5 ?kA ?kF ?kK ?k6 ?k7 ?k8 ?k9 ?kB ?_ ?c2 ?c3 ?c4 ?c5; (case kA => exact rfl); (case kF => exact rfl); (case kK => assumption); (case k1 => k_asm); (case k2 => k_asm); (case k3 => k_asm); (case k4 => k_asm); (case k5 => k_asm); (case k6 => k_is); (case k7 => k_is); (case k8 => ktr_room); (case k9 => exact BindsTo.of_eq rfl); (case c5 => decide); (case kB => exact locs rfl); (case c2 => exact rfl); (case c3 => exact rfl); (case c4 => exact rfl); k_whole; intro g' L' h' FG' F' N' B' X' T'; (try dsimp only); (try k_lift B'); (try k_fold))))
  k_steps
  unfold Stop
  refine' front_tup 2 ?k ?F ?N ?m ?o ?b ?z ?_ ?s ?g ?y
  (case k => exact rfl); (case F => k_asm); (case N => k_asm); (case m => k_mem); (case o => exact rfl); (case b => exact Nat.le_of_ble_eq_true rfl); (case z => exact rfl); (case s => with_unfolding_all rfl); (case g => intro _; with_unfolding_all rfl); (case y => exact Nat.le_of_ble_eq_true rfl)
  k_whole
  intro D' h' F' N' l1
  (try dsimp only [List.take] at N')
  (try k_lt l1)
  k_steps
  k_dflt (refine' eq_dataH ?ra ?rb ?sa ?sb ?u ?_)
  (case ra => ked_read)
  (case rb => ked_read)
  (case sa => exact shaped_si hxo)
  (case sb => exact shaped_si (by decide +kernel))
  (case u => ktr_units)
  have e0 : (PyData.tuple [PyData.str x, PyData.int n]).eqv (PyData.tuple [PyData.str (Str.ofString "~"), PyData.int 0]) = false := by
    have : (n == 0) = false := by rcases hn with rfl | rfl <;> rfl
    simp [PyData.eqv, PyData.eqvAll, this]
  rw [e0]
  k_steps
  exact retV hret ⟨_, rfl⟩ (by k_asm) (by (first | k_asm | (refine' news_sub ?nn ?ns; (case nn => assumption); (case ns => kcj_all))))
/-- the text of a caller, with dots behind the file and ahead of the name -/
noncomputable def ctext (p q n : Int) (x y : Str) : Str := (Txt.mul (Str.ofString "a") p ++ x) ++ Str.ofString ":" ++ Str.ofString (toString n) ++ Str.ofString "(" ++ (y ++ Txt.mul (Str.ofString "b") q) ++ Str.ofString ")"
local macro_rules | `(tactic| walk_at "call ref") => `(tactic| (refine stopAt ?_))
set_option maxHeartbeats 8000000 in
theorem text_spec (w : World) (mg mb : Str → Option Value) (t : Addr) (x y : Str) (p q n : Int) (tp tq tn tx ty : Tok) (hx : x.length ≤ 5) (hy : y.length ≤ 5) (hp : 0 ≤ p) (hp2 : p < 6) (hq : 0 ≤ q) (hq2 : q < 6) (hn : n = 7 ∨ n = 8) (hxo : PyData.strOk (Txt.mul (Str.ofString "a") p ++ x) = true) :
  SpecV w mg mb 87 2 [.ref t, .str x tx, .str y ty] (fun news => (t, tup3 (.int p tp) (.int q tq) (.int n tn)) ∈ news) (fun t => .str (ctext p q n x y) t) := by
  unfold SpecV
  k_fill
  intro dp un gd cn cs ad ccd cl outer A₀ base h₀ L m news s Q E B F X N T hk hpre hdp hun hret
  have N1 := news_dup N hpre
  clear N hpre
  refine wpAny_call ?_
  k_dflt (((refine' enterR ?k1 ?k2 ?k3 ?k4 ?k5 ?kA ?kF ?kK ?k6 ?k7 ?k8 ?k9 ?kB ?_ ?c2 ?c3 ?c4 ?c5; (case kA => exact rfl); (case kF => exact rfl); (case kK => assumption); (case k1 => k_asm); (case k2 => k_asm); (case k3 => k_asm); (case k4 => k_asm); (case k5 => k_asm); (case k6 => k_is); (case k7 => k_is); (case k8 => ktr_room); (case k9 => exact BindsTo.of_eq rfl); (case c5 => decide); (case kB => exact locs rfl); (case c2 => exact rfl); (case c3 => exact rfl); (case c4 => exact rfl); k_whole; intro g' L' h' FG' F' N' B' X' T'; (try dsimp only); (try k_lift B'); (try k_fold))))
  k_steps
  unfold Stop
  refine' SpecV.use (fstd_spec _ _ _ _ _ _ _ _ _ _ ?a1 ?a2 ?a3 ?a4) ?B ?F ?X ?N ?T ?hk ?hp ?hd ?hu ?_
  (case B => k_asm); (case F => k_asm); (case X => k_asm); (case N => k_asm); (case T => k_asm); (case hk => first | exact rfl | assumption); (case hp => k_mem); (case a1 => kopn_len); (case a2 => kopn_len); (case a3 => omega); (case a4 => assumption); (case hd => ktr_room); (case hu => ktr_units)
  k_whole
  intro t9 h9 tk9 F9 N9
  (try dsimp only)
  (try k_fold)
  k_steps
  exact retV hret ⟨_, rfl⟩ (by k_asm) (by (first | k_asm | (refine' news_sub ?nn ?ns; (case nn => assumption); (case ns => kcj_all))))
end Mine
end
section
open PySem PySem.W PyProof.Rows
set_option maxRecDepth 100000
namespace Mine
section
variable {prog : Program} {w : World} {A : Around} {E : Value → Shared → Prop} {s : Shared} {env : Env} {h₀ : Heap} {L : Addr}
theorem cutAt {α : Type} {t : Sem α} {R Q : α → Shared → Prop} (h1 : wpAny (model prog w) A t R E s) (h2 : ∀ v s', R v s' → Q v s') : wpAny (model prog w) A t Q E s := wpAny_mono h1 h2 fun _ _ e => e
/-- the state at a leaf: the frame m, the ledger news -/
noncomputable def Here (h₀ : Heap) (L : Addr) (m : Str → Option Value) (news : Led) (s s₂ : Shared) : Prop := ∃ h' tk', s₂ = { s with heap := h', toks := tk' } ∧ Fr h₀ L h' m ∧ News h₀ L h' news
noncomputable def LeafB (h₀ : Heap) (L : Addr) (m : Str → Option Value) (news : Led) (s : Shared) (c b : Bool) (s₂ : Shared) : Prop := b = c ∧ Here h₀ L m news s s₂
noncomputable def LeafI (h₀ : Heap) (L : Addr) (x : Str) (m : Str → Option Value) (news : Led) (s : Shared) (k : Int) (f : Flow) (s₂ : Shared) : Prop := f = .next ∧ ∃ t, Here h₀ L (fun y => if y = x then some (.int k t) else m y) news s s₂
noncomputable def LeafS (h₀ : Heap) (L : Addr) (x : Str) (m : Str → Option Value) (news : Led) (s : Shared) (v : Str) (f : Flow) (s₂ : Shared) : Prop := f = .next ∧ ∃ t, Here h₀ L (fun y => if y = x then some (.str v t) else m y) news s s₂
theorem LeafS.mk {x : Str} {m : Str → Option Value} {news : Led} {v v' : Str} {t : Tok} {h' : Heap} {tk' : Nat} (F : Fr h₀ L h' (fun y => if y = x then some (.str v t) else m y)) (N : News h₀ L h' news) (e : v = v') : LeafS h₀ L x m news s v' .next { s with heap := h', toks := tk' } := by
  subst e
  exact ⟨rfl, t, h', tk', rfl, F, N⟩
theorem LeafB.mk {m : Str → Option Value} {news : Led} {c b : Bool} {h' : Heap} {tk' : Nat} (F : Fr h₀ L h' m) (N : News h₀ L h' news) (e : b = c) : LeafB h₀ L m news s c b { s with heap := h', toks := tk' } := ⟨e, h', tk', rfl, F, N⟩
theorem LeafI.mk {x : Str} {m : Str → Option Value} {news : Led} {k k' : Int} {t t' : Tok} {h' : Heap} {tk' : Nat} (F : Fr h₀ L h' (fun y => if y = x then some (.int k' t) else if y = x then some (.int k t') else m y)) (N : News h₀ L h' news) : LeafI h₀ L x m news s k' .next { s with heap := h', toks := tk' } := by
  refine ⟨rfl, t, h', tk', rfl, ?_, N⟩
  have e : (fun y => if y = x then some (Value.int k' t) else if y = x then some (.int k t') else m y) = fun y => if y = x then some (Value.int k' t) else m y := by
    funext y; by_cases h : y = x <;> simp [h]
  rw [e] at F
  exact F
theorem cutS {t : Sem Flow} {m : Str → Option Value} {news : Led} {Q : Flow → Shared → Prop} (x v : Str) (F : Fr h₀ L s.heap m) (N : News h₀ L s.heap news) (h1 : wpAny (model prog w) A t (LeafS h₀ L x m news s v) E s)
    (h2 : ∀ t h' tk', Fr h₀ L h' (fun y => if y = x then some (.str v t) else m y) → News h₀ L h' news → Q .next { s with heap := h', toks := tk' }) : wpAny (model prog w) A t Q E s := by
  let _ := F
  let _ := N
  refine wpAny_mono h1 ?_ fun _ _ e => e
  rintro fl s₁ ⟨rfl, t3, h3, tk3, rfl, F3, N3⟩
  exact h2 _ _ _ F3 N3
/-- a for over range(n): J tells what holds of the frame and of the ledger behind i turns -/
theorem range_inv {x : Str} {body : List Stmt} {Q : Flow → Shared → Prop} {r : Addr} {b₀ : Int} {t₀ u₀ v₀ : Tok} {n : Nat} {m₀ : Str → Option Value} {news : Led} (J : Nat → (Str → Option Value) → Led → Prop)
    (hh : A.handled = none) (hr : IsRange s.heap r 0 b₀ 1 t₀ u₀ v₀) (hb : b₀ = (n : Int)) (hz : n < 2 ^ 60) (F : Fr h₀ env.locals s.heap m₀) (N : News h₀ env.locals s.heap news) (hj : J 0 m₀ news)
    (turn : ∀ i t m₁ news₁ h tk own, i < n → news₁.map (·.1) = news.map (·.1) → OwnOff own (news.map (·.1)) → J i m₁ news₁ → Fr h₀ env.locals h (fun y => if y = x then some (.int (i : Nat) t) else m₁ y) → News h₀ env.locals h (news₁ ++ own) →
      wpAny (model prog w) A (execs body env) (InvPostN h₀ env.locals (J (i + 1)) own (news.map (·.1)) { s with heap := h, toks := tk } Q) E { s with heap := h, toks := tk })
    (done : ∀ m₁ news₁ h tk, J n m₁ news₁ → Fr h₀ env.locals h m₁ → News h₀ env.locals h news₁ → Q .next { s with heap := h, toks := tk }) :
    wpAny (model prog w) A (pyIter (.ref r)) (fun it s₂ => LoopAtV prog w A h₀ env x body Q E it s₂) E s := by
  subst hb
  have hsmall : Builtin.Range.small 0 (n : Int) 1 = true := small_one (by omega) (by omega) (by omega) (by omega)
  have hn : Builtin.Range.rangeSize 0 (n : Int) 1 = (n : Int) := by
    unfold Builtin.Range.rangeSize
    rw [if_pos (by decide)]
    split <;> omega
  refine wpAny_pyIter_range hr hsmall ?_
  have W : Walks prog w A s.heap.objs.size [s.heap.objs.size] [s.heap.objs.size] n (fun i v => i < n ∧ ∃ t, v = .int (0 + i * 1) t)
      (fun i h => IsRangeIter h s.heap.objs.size (0 + (i : Nat) * 1) ((n : Int) - (i : Nat)) 1) := (Walks.range hh _ 0 1 n).bound
  refine loop_invN J W ?_ ?_ ?_ ?_ (by show IsRangeIter _ _ _ _ _; rw [hn]; simpa using Heap.get?_push_size _ rfl) (F.push _) (fun p hp => ⟨Heap.get?_push_of_some _ (N p hp).1, (N p hp).2⟩) hj ?_ ?_
  · intro hm
    exact absurd F.ns.lt ((List.mem_singleton.mp hm) ▸ Nat.lt_irrefl _)
  · intro b hb
    rw [List.mem_singleton.mp hb]
    exact next_is_new F
  · intro p hp hI
    exact absurd (Heap.lt_size (N p hp).1) ((List.mem_singleton.mp hI) ▸ Nat.lt_irrefl _)
  · intro p hp hI
    exact absurd (Heap.lt_size (N p hp).1) ((List.mem_singleton.mp hI) ▸ Nat.lt_irrefl _)
  · rintro i v m₁ nx h tk own hi ⟨_, t, rfl⟩ ha hoff hJ F₁ N₁
    have e1 : (0 : Int) + (i : Int) * 1 = (i : Int) := by omega
    rw [e1] at F₁
    exact turn i t m₁ nx h tk own hi ha hoff hJ F₁ N₁
  · intro m₁ nx h tk hJ F₁ N₁
    exact done m₁ nx h tk hJ F₁ N₁
theorem fr_name {h : Heap} {m : Str → Option Value} {x : Str} {v : Value} (F : Fr h₀ L h m) (hv : m x = some v) : Fr h₀ L h (fun y => if y = x then some v else m y) := by
  have e : (fun y => if y = x then some v else m y) = m := by
    funext y
    by_cases h : y = x
    · rw [if_pos h, h, hv]
    · rw [if_neg h]
  rw [e]
  exact F
/-- a while that moves one int x of the frame by f: the test tells c k -/
theorem whileInt {test : Expr} {body : List Stmt} {pos : Pos} {m : Str → Option Value} {news : Led} {Q : Flow → Shared → Prop} (x : Str) (c : Int → Bool) (P : Int → Prop) (μ : Int → Nat) (f : Int → Int) {k₀ : Int} {t₀ : Tok}
    (hP : P k₀) (hf : ∀ k, P k → c k = true → P (f k) ∧ μ (f k) < μ k) (F : Fr h₀ L s.heap (fun y => if y = x then some (.int k₀ t₀) else m y)) (N : News h₀ L s.heap news)
    (htest : ∀ k t h tk, P k → Fr h₀ L h (fun y => if y = x then some (.int k t) else m y) → News h₀ L h news →
      wpAny (model prog w) A (isTrue test env (eval test env)) (LeafB h₀ L (fun y => if y = x then some (.int k t) else m y) news s (c k)) E { s with heap := h, toks := tk })
    (hbody : ∀ k t h tk, P k → c k = true → Fr h₀ L h (fun y => if y = x then some (.int k t) else m y) → News h₀ L h news →
      wpAny (model prog w) A (execs body env) (LeafI h₀ L x m news s (f k)) E { s with heap := h, toks := tk })
    (hE : PassesOwn (model prog w) A env E)
    (done : ∀ k t h tk, P k → c k = false → Fr h₀ L h (fun y => if y = x then some (.int k t) else m y) → News h₀ L h news → Q .next { s with heap := h, toks := tk }) :
    wpAny (model prog w) A (exec (.While test body [] pos) env) Q E s := by
  refine While_inv2 (fun n m₁ news₁ => news₁ = news ∧ ∃ k t, P k ∧ n = μ k ∧ m₁ = fun y => if y = x then some (.int k t) else m y) (n₀ := μ k₀) F N ⟨rfl, k₀, t₀, hP, rfl, rfl⟩ ?_ hE
  · rintro n m₁ news₁ h₁ tk₁ F₁ N₁ ⟨rfl, k, t, hPk, rfl, rfl⟩
    refine wpAny_mono (htest k t h₁ tk₁ hPk F₁ N₁) (fun b s₂ hb => ?_) fun _ _ e => e
    obtain ⟨rfl, h', tk', rfl, F', N'⟩ := hb
    cases hc : c k with
    | false =>
      rw [if_neg (by simp)]
      exact done k t h' tk' hPk hc F' N'
    | true =>
      rw [if_pos rfl]
      refine wpAny_mono (hbody k t h' tk' hPk hc F' N') (fun fl s₃ h₃ => ?_) fun _ _ e => e
      obtain ⟨rfl, t', h'', tk'', rfl, F'', N''⟩ := h₃
      exact ⟨h'', tk'', _, _, μ (f k), rfl, F'', N'', (hf k hPk hc).2, rfl, f k, t', (hf k hPk hc).1, rfl, rfl⟩
end
end Mine
end
section
open PySem PySem.W PyProof.Rows
namespace Mine
/-- the signs of a text -/
noncomputable abbrev sg (x : Str) : List Nat := x.cps.toList
noncomputable abbrev ofL (l : List Nat) : Str := ⟨l.toArray⟩
theorem sg_ofL (l : List Nat) : sg (ofL l) = l := rfl
theorem ofL_sg (x : Str) : ofL (sg x) = x := by cases x; simp [sg, ofL]
theorem len_sg (x : Str) : x.length = (sg x).length := by simp [sg, Str.length]
theorem len_ofL (l : List Nat) : (ofL l).length = l.length := by simp [ofL, Str.length]
theorem eq_sg {x y : Str} : x = y ↔ sg x = sg y := ⟨fun h => h ▸ rfl, fun h => by rw [← ofL_sg x, ← ofL_sg y, h]⟩
theorem beq_sg (x y : Str) : (x == y) = decide (sg x = sg y) := by
  rw [Bool.eq_iff_iff, beq_iff_eq, decide_eq_true_eq]; exact eq_sg
theorem toNat_back (l : Nat) {k : Int} (h : k ≤ 0) : (k + l).toNat = l - (-k).toNat := by
  obtain ⟨n, rfl⟩ : ∃ n : Nat, k = -(n : Int) := ⟨(-k).toNat, by rw [Int.toNat_of_nonneg (Int.neg_nonneg_of_nonpos h), Int.neg_neg]⟩
  rw [Int.neg_neg, Int.toNat_natCast, Int.add_comm, ← Int.sub_eq_add_neg, Int.toNat_sub]
theorem slice_from {x : Str} {k : Int} (h0 : 0 ≤ k) (h1 : k ≤ x.length) : Txt.slice x (some k) none = ofL ((sg x).drop k.toNat) := by
  rw [slice_from_eq (b := (x.length : Int)) h0 h1 rfl]
  unfold ofL
  rw [List.take_of_length_le]
  simp only [sg, List.length_drop]
  obtain ⟨n, rfl⟩ := Int.eq_ofNat_of_zero_le h0
  exact Nat.le_of_eq (by rw [Int.toNat_natCast, Int.toNat_sub]; rfl)
theorem slice_to_neg {x : Str} {k : Int} (h0 : k < 0) (h1 : -(x.length : Int) ≤ k) : Txt.slice x none (some k) = ofL ((sg x).take (x.length - (-k).toNat)) := by
  have h := beq_iff_eq.mp (slice_closes_to_neg (x := x) (j := k) (k := k + x.length) h0 h1 rfl)
  rw [h]
  unfold ofL
  have e : (k + x.length - 0).toNat = x.length - (-k).toNat := by rw [Int.sub_zero]; exact toNat_back _ (Int.le_of_lt h0)
  rw [e]
  simp [sg]
theorem slice_to_neg_len {x : Str} {k : Int} (h0 : k < 0) (h1 : -(x.length : Int) ≤ k) : (Txt.slice x none (some k)).length = x.length - (-k).toNat := by
  rw [slice_to_neg h0 h1]
  have h2 : (ofL ((sg x).take (x.length - (-k).toNat))).length = ((sg x).take (x.length - (-k).toNat)).length := len_ofL _
  rw [h2, List.length_take, ← len_sg, Nat.min_eq_left (Nat.sub_le _ _)]
theorem slice_from_len {x : Str} {k : Int} (h0 : 0 ≤ k) (h1 : k ≤ x.length) : (Txt.slice x (some k) none).length = x.length - k.toNat := by
  rw [slice_from h0 h1]
  have h2 : (ofL ((sg x).drop k.toNat)).length = ((sg x).drop k.toNat).length := len_ofL _
  rw [h2, List.length_drop, ← len_sg]
theorem slice_none (x : Str) : Txt.slice x none none = x := by
  unfold Txt.slice
  have : (Builtin.Str.strSliceIndices none none 1 x.length).length = x.length := by
    simp [Builtin.Str.strSliceIndices, sliceRange]
    split <;> omega
  simp [this]
theorem slice_back0 {x : Str} {n : Nat} (hn : n = 0) : Txt.slice x none none = ofL ((sg x).take (x.length - n)) := by
  subst hn
  have h := len_sg x
  rw [slice_none, Nat.sub_zero, List.take_of_length_le (by omega), ofL_sg]
theorem slice_back {x : Str} {k : Int} {n : Nat} (hk : k = -(n : Int)) (hn : n ≠ 0) (h1 : n ≤ x.length) : Txt.slice x none (some k) = ofL ((sg x).take (x.length - n)) := by
  rw [slice_to_neg (by omega) (by omega)]
  congr 3
  omega
theorem item_pos {x : Str} {k : Int} (h0 : 0 ≤ k) (h1 : k < x.length) : Txt.item x k = ofL [(sg x).getD k.toNat 0] := by
  unfold Txt.item Txt.charAt seqIndex?
  have h2 : ¬ k < 0 := by omega
  simp [h2, h0, h1, ofL, sg, List.getD]
theorem item_neg {x : Str} {k : Int} (h0 : k < 0) (h1 : -(x.length : Int) ≤ k) : Txt.item x k = ofL [(sg x).getD (x.length - (-k).toNat) 0] := by
  unfold Txt.item Txt.charAt seqIndex?
  have h2 : 0 ≤ k + x.length := by have := Int.add_le_add_right h1 (x.length : Int); rwa [Int.add_left_neg] at this
  have h3 : k + x.length < x.length := by have := Int.add_lt_add_right h0 (x.length : Int); rwa [Int.zero_add] at this
  have e : (k + x.length).toNat = x.length - (-k).toNat := toNat_back _ (Int.le_of_lt h0)
  simp only [h0, if_true]
  have h4 : (decide (0 ≤ k + (x.length : Int)) && decide (k + (x.length : Int) < x.length)) = true := by simp only [h2, h3, decide_true, Bool.and_true]
  rw [if_pos h4, e]
  simp [ofL, sg, List.getD]
/-- how many signs two texts share at their heads -/
noncomputable def lcp : List Nat → List Nat → Nat
  | x :: xs, y :: ys => if x = y then lcp xs ys + 1 else 0
  | _, _ => 0
theorem lcp_le : ∀ a b : List Nat, lcp a b ≤ a.length ∧ lcp a b ≤ b.length
  | [], _ => by simp [lcp]
  | _ :: _, [] => by simp [lcp]
  | x :: xs, y :: ys => by
    unfold lcp
    have := lcp_le xs ys
    split <;> simp <;> omega
theorem lcp_eq : ∀ (a b : List Nat) (k : Nat), k < lcp a b → a.getD k 0 = b.getD k 0
  | [], _, k, h => by simp [lcp] at h
  | _ :: _, [], k, h => by simp [lcp] at h
  | x :: xs, y :: ys, k, h => by
    unfold lcp at h
    split at h
    · rename_i e
      cases k with
      | zero => simp [e]
      | succ k => simpa using lcp_eq xs ys k (by omega)
    · omega
theorem lcp_stop : ∀ (a b : List Nat), lcp a b < a.length → lcp a b < b.length → a.getD (lcp a b) 0 ≠ b.getD (lcp a b) 0
  | [], _, h, _ => by simp at h
  | _ :: _, [], _, h => by simp at h
  | x :: xs, y :: ys, h1, h2 => by
    unfold lcp at h1 h2 ⊢
    split
    · rename_i e
      rw [if_pos e] at h1 h2
      simp at h1 h2
      simpa using lcp_stop xs ys h1 h2
    · rename_i e
      simpa using e
end Mine
end
section
open PySem PySem.W PyProof.Rows
namespace Mine
/-- what a change of one sign for another costs: letters of another size do not come here -/
noncomputable def cost (x y : Nat) : Int := if x = y then 0 else 2
noncomputable abbrev big : Int := 9223372036854775807
/-- distance, result, minimum and the row behind i turns of the inner loop -/
noncomputable def inn (a : List Nat) (bc : Nat) (d0 : Int) (row0 : List Int) : Nat → Int × Int × Int × List Int
  | 0 => (d0, d0, big, row0)
  | i + 1 =>
    let p := inn a bc d0 row0 i
    let d' := p.2.2.2.getD i 0
    let r' := min (min p.2.1 d' + 2) (p.1 + cost bc (a.getD i 0))
    (d', r', (if r' < p.2.2.1 then r' else p.2.2.1), p.2.2.2.set i r')
/-- result and row behind j turns of the outer loop -/
noncomputable def outS (a b : List Nat) (row0 : List Int) : Nat → Int × List Int
  | 0 => (0, row0)
  | j + 1 =>
    let p := outS a b row0 j
    let q := inn a (b.getD j 0) (j * 2) p.2 a.length
    (q.2.1, q.2.2.2)
noncomputable def mnS (a b : List Nat) (row0 : List Int) (j : Nat) : Int := (inn a (b.getD j 0) (j * 2) (outS a b row0 j).2 a.length).2.2.1
noncomputable def row0 (n : Nat) : List Int := List.map (fun (i : Nat) => (2 : Int) + (i : Int) * 2) (List.range n)
noncomputable def early (a b : List Nat) (mc : Int) : Bool := (List.range b.length).any fun j => decide (mc < mnS a b (row0 a.length) j)
/-- the answer for two texts, neither empty, the first one no longer than the second -/
noncomputable def dpS (a b : List Nat) (mc : Int) : Int :=
  if mc < ((b.length : Int) - a.length) * 2 then mc + 1 else if early a b mc then mc + 1 else (outS a b (row0 a.length) b.length).1
noncomputable def coreS (a b : List Nat) (mc : Int) : Int :=
  if a = [] ∨ b = [] then 2 * ((a.length : Int) + b.length) else if b.length < a.length then dpS b a mc else dpS a b mc
noncomputable def strip1 (a b : List Nat) : List Nat × List Nat := (a.drop (lcp a b), b.drop (lcp a b))
noncomputable def strip2 (a b : List Nat) : List Nat × List Nat := (a.take (a.length - lcp a.reverse b.reverse), b.take (b.length - lcp a.reverse b.reverse))
noncomputable def levS (a b : List Nat) (mc : Int) : Int := if a = b then 0 else coreS (strip2 (strip1 a b).1 (strip1 a b).2).1 (strip2 (strip1 a b).1 (strip1 a b).2).2 mc
theorem row0_len (n : Nat) : (row0 n).length = n := by simp [row0]
theorem inn_len (a : List Nat) (bc : Nat) (d0 : Int) (r : List Int) : ∀ i, (inn a bc d0 r i).2.2.2.length = r.length
  | 0 => rfl
  | i + 1 => by simp [inn, inn_len a bc d0 r i]
theorem outS_len (a b : List Nat) (r : List Int) : ∀ j, (outS a b r j).2.length = r.length
  | 0 => rfl
  | j + 1 => by simp [outS, inn_len, outS_len a b r j]
end Mine
end
section
open PySem PySem.W PyProof.Rows
set_option maxRecDepth 100000
namespace Mine

noncomputable def fnBody (i : Nat) : List Stmt := match Challenge.pw_pe0143_01.main.body[i]? with | some (.FunctionDef _ _ b _ _ _ _ _ _ _) => b | _ => []
noncomputable def fnScope (i : Nat) : Scope := match Challenge.pw_pe0143_01.main.body[i]? with | some (.FunctionDef _ _ _ _ _ _ sc _ _ _) => sc | _ => default
/-- the signs that come here -/
noncomputable def okc (c : Nat) : Prop := c = 97 ∨ c = 98 ∨ c = 58 ∨ c = 55 ∨ c = 56 ∨ c = 40 ∨ c = 41
theorem lower_ok {c : Nat} (h : okc c) : Txt.lower (ofL [c]) = ofL [c] := by
  rcases h with rfl | rfl | rfl | rfl | rfl | rfl | rfl <;> decide +kernel
theorem subc_ok {x y : Nat} (hx : okc x) (hy : okc y) : subc (ofL [x]) (ofL [y]) = cost x y := by
  unfold subc cost
  rw [lower_ok hx, lower_ok hy]
  by_cases h : x = y
  · subst h; simp
  · have : (ofL [x] == ofL [y]) = false := by rw [beq_sg]; simpa using h
    simp [this, h]
theorem okc_getD {l : List Nat} (h : ∀ c ∈ l, okc c) {i : Nat} (hi : i < l.length) : okc (l.getD i 0) := by
  rw [List.getD_eq_getElem?_getD, List.getElem?_eq_getElem hi]
  exact h _ (List.getElem_mem hi)
theorem inn_next {la : List Nat} {bc : Nat} {d0 d r mn res : Int} {rowI rowK : List Int} {i : Nat} (hin : inn la bc d0 rowI i = (d, r, mn, rowK)) (hr : res = min (min r (rowK.getD i 0) + 2) (d + cost bc (la.getD i 0))) :
    inn la bc d0 rowI (i + 1) = (rowK.getD i 0, res, (if res < mn then res else mn), rowK.set i res) := by
  rw [hr]
  simp only [inn, hin]
theorem mnS_eq {a b : List Nat} {row : List Int} {j : Nat} {r d r5 mn : Int} {rowI rowK : List Int} (ho : outS a b row j = (r, rowI)) (hin : inn a (b.getD j 0) (j * 2) rowI a.length = (d, r5, mn, rowK)) : mnS a b row j = mn := by
  unfold mnS
  rw [ho, hin]
theorem outS_next {a b : List Nat} {row : List Int} {j : Nat} {r d r5 mn : Int} {rowI rowK : List Int} (ho : outS a b row j = (r, rowI)) (hin : inn a (b.getD j 0) (j * 2) rowI a.length = (d, r5, mn, rowK)) : outS a b row (j + 1) = (r5, rowK) := by
  simp only [outS, ho, hin]
theorem dpS_far {a b : List Nat} {mc : Int} (h : mc < ((b.length : Int) - a.length) * 2) : dpS a b mc = mc + 1 := by
  unfold dpS; rw [if_pos h]
theorem dpS_early {a b : List Nat} {mc : Int} {j : Nat} (h : ¬ mc < ((b.length : Int) - a.length) * 2) (hj : j < b.length) (hm : mc < mnS a b (row0 a.length) j) : dpS a b mc = mc + 1 := by
  unfold dpS
  rw [if_neg h, if_pos]
  unfold early
  rw [List.any_eq_true]
  exact ⟨j, List.mem_range.mpr hj, decide_eq_true hm⟩
theorem dpS_full {a b : List Nat} {mc r : Int} {rowI : List Int} (h : ¬ mc < ((b.length : Int) - a.length) * 2) (hm : ∀ i, i < b.length → mnS a b (row0 a.length) i ≤ mc) (ho : outS a b (row0 a.length) b.length = (r, rowI)) : dpS a b mc = r := by
  unfold dpS
  rw [if_neg h, if_neg, ho]
  unfold early
  rw [List.any_eq_true]
  rintro ⟨j, hj, hd⟩
  have := hm j (List.mem_range.mp hj)
  have := of_decide_eq_true hd
  omega
theorem small_two {n : Nat} (h : n ≤ 40) : Builtin.Range.small 2 (2 * ((n : Int) + 1)) 2 = true :=
  (by decide +kernel : ∀ n : Nat, n < 41 → Builtin.Range.small 2 (2 * ((n : Int) + 1)) 2 = true) n (by omega)
theorem ints_step {c : Int} : ∀ (vs : List Value) (a : Int) (n : Nat), vs.length = n → (∀ (j : Nat) (v : Value), vs[j]? = some v → ∃ t, v = .int (a + j * c) t) → IntsAre vs (List.map (fun (i : Nat) => a + (i : Int) * c) (List.range n))
  | [], a, n, e, _ => by subst e; exact IntsAre.nil
  | v :: r, a, n, e, h => by
    subst e
    rw [List.length_cons, List.range_succ_eq_map, List.map_cons, List.map_map]
    obtain ⟨t, rfl⟩ := h 0 v rfl
    refine IntsAre.cons _ _ ?_
    have := ints_step (c := c) r (a + c) r.length rfl (fun j v hj => by
      obtain ⟨t', ht'⟩ := h (j + 1) v hj
      refine ⟨t', ht'.trans ?_⟩
      congr 1
      rw [Int.natCast_succ, Int.add_mul, Int.one_mul]; omega)
    have e2 : ((fun (i : Nat) => a + (i : Int) * c) ∘ Nat.succ) = fun (i : Nat) => a + c + (i : Int) * c := by
      funext i
      show a + ((i + 1 : Nat) : Int) * c = _
      rw [Int.natCast_succ, Int.add_mul, Int.one_mul]; omega
    rw [e2]
    exact this
section
variable {prog : Program} {w : World} {A : Around} {E : Value → Shared → Prop} {s : Shared} {h₀ : Heap} {L r : Addr} {m : Str → Option Value} {news : Led} {a b c : Int} {t₀ u₀ v₀ : Tok} {Q : Value → Shared → Prop}
theorem list_range2 (n : Nat) (hh : A.handled = none) (F : Fr h₀ L s.heap m) (N : News h₀ L s.heap news) (hr : IsRange s.heap r a b c t₀ u₀ v₀) (hsmall : Builtin.Range.small a b c = true) (hn : Builtin.Range.rangeSize a b c = (n : Int)) (hz : n ≤ 2 ^ 24)
    (h : ∀ D us cc h' tk, Fr h₀ L h' m → News h₀ L h' ((D, W.listOf (List.toArray us) cc) :: news) → (∀ p ∈ news, p.1 < D) → IntsAre us (List.map (fun (i : Nat) => a + (i : Int) * c) (List.range n)) → Q (.ref D) { s with heap := h', toks := tk }) :
    wpAny (model prog w) A (call (.type "list") [.ref r]) Q E s := by
  refine call_list_range hh hr hsmall hn hz fun h' tk acc cc hk hD hI => ?_
  have hD' : h'.get? s.heap.objs.size = some (W.listOf (List.toArray acc.toList) cc) := by
    rw [Array.toArray_toList]
    exact hD
  exact h _ acc.toList cc h' tk (F.keeps hk) (news_pushed F N hk hD' rfl) (fun p hp => Heap.lt_size (N p hp).1) (ints_step _ _ _ (by rw [Array.length_toList]; exact hI.1) fun j v hj => hI.2 j v (by rw [← hj, Array.getElem?_toList]))
end
theorem len_ofL' (l : List Nat) : (ofL l).length = l.length := len_ofL l
local macro_rules | `(tactic| walk_at "call ref") => `(tactic| (refine stopAt ?_))
local macro_rules | `(tactic| walk_at "exec For Name Call cons nil") => `(tactic| (refine stopAt ?_))
local macro_rules | `(tactic| walk_at "pyIter ref") => `(tactic| (refine stopAt ?_))
set_option maxHeartbeats 8000000 in
theorem lev_dp (w : World) (mg mb : Str → Option Value) (la lb : List Nat) (mc : Int) (hla : la.length ≤ 40) (hlb : lb.length ≤ 40) (hoa : ∀ c ∈ la, okc c) (hob : ∀ c ∈ lb, okc c) (hpa : la ≠ []) (hle : la.length ≤ lb.length) (t3 t4 tc : Tok) (m₁ : Str → Option Value)
    (dp un : Nat) (gd : Option (List Code)) (cn : Str) (cs : Scope) (ad : Addr) (ccd : Value) (cl : List (Str × Addr)) (outer : List Env) (base g' : Heap) (L L' : Addr) (news : Led) (s : Shared) (Q : Flow → Shared → Prop) (E : Value → Shared → Prop)
    (B : Below (ktrTop dp un gd cn cs L ad ccd cl outer) base (envX cn cs L ad ccd cl :: outer) g') (F : Fr g' L' s.heap (fun y => if y = Str.ofString "b" then some (Value.str (ofL lb) t4) else if y = Str.ofString "a" then some (Value.str (ofL la) t3) else if y = Str.ofString "max_cost" then some (.int mc tc) else m₁ y))
    (X : (hd.heap_1 w.params).In g') (N : News g' L' s.heap news) (T : TopR mg mb g') (hdp : dp + 2 < recursionLimit) (hun : un + 8 * 2 + 100 < cLine)
    (hE : PassesOwn (model Challenge.rw_pe0143_01.row.prog w) ((ktrTop dp un gd cn cs L ad ccd cl outer).deeper (envOf (Str.ofString "_levenshtein_distance") (fnScope 5) L' 28 (.ref 27))) (envOf (Str.ofString "_levenshtein_distance") (fnScope 5) L' 28 (.ref 27)) E)
    (hret : ∀ t h' tk' m', Fr g' L' h' m' → News g' L' h' news → Q (.ret (.int (dpS la lb mc) t)) { s with heap := h', toks := tk' }) :
    wpAny (model Challenge.rw_pe0143_01.row.prog w) ((ktrTop dp un gd cn cs L ad ccd cl outer).deeper (envOf (Str.ofString "_levenshtein_distance") (fnScope 5) L' 28 (.ref 27))) (execs ((fnBody 5).drop 12) (envOf (Str.ofString "_levenshtein_distance") (fnScope 5) L' 28 (.ref 27))) Q E s := by
  obtain ⟨sc, hsc⟩ : ∃ sc, sc = fnScope 5 := ⟨_, rfl⟩
  rw [← hsc] at hE ⊢
  conv at hsc => rhs; whnf
  subst hsc
  revert X
  k_fill
  intro X
  have eA := len_ofL' la
  have eB := len_ofL' lb
  refine wpAny_execs_cons ?_
  k_steps
  · have h1 : mc < (((ofL lb).length : Int) - (ofL la).length) * 2 := by assumption
    rw [eA, eB] at h1
    rw [← dpS_far h1]
    exact hret _ _ _ _ (by k_asm) (by k_asm)
  have hfar : ¬ mc < ((lb.length : Int) - la.length) * 2 := by
    rw [← eA, ← eB]; assumption
  (rename IsRange _ _ _ _ _ _ _ _ => R9)
  have hsm : Builtin.Range.small 2 (2 * (((ofL la).length : Int) + 1)) 2 = true := by
    rw [eA]
    exact small_two (by omega)
  have hrs : Builtin.Range.rangeSize 2 (2 * (((ofL la).length : Int) + 1)) 2 = ((la.length : Nat) : Int) := by
    rw [eA]
    unfold Builtin.Range.rangeSize
    rw [if_pos (by decide)]
    split <;> omega
  refine list_range2 la.length rfl (by k_asm) (by k_asm) R9 hsm hrs (by omega) ?_
  intro D us cc h5 tk5 F5 N5 hD5 I5
  k_steps
  unfold Stop
  (rename Fr _ _ _ _ => lF')
  with_unfolding_all refine' For_invVF lF' ?k1 ?k2 ?_ ?k3 ?k4
  case k1 => exact rfl
  case k2 => exact rfl
  case k3 => intro _; with_unfolding_all rfl
  case k4 => exact hE
  k_steps
  unfold Stop
  (rename IsRange _ _ _ _ _ _ _ _ => R10)
  (rename Fr _ _ _ _ => F6)
  (rename News _ _ _ _ => N6)
  refine range_inv (n := lb.length) (fun j m nx => ∃ (r : Int) (t : Tok) (us' : List Value) (cc' : Nat) (rowI : List Int) (m₂ : Str → Option Value), nx = (D, W.listOf us'.toArray cc') :: news ∧ IntsAre us' rowI ∧ outS la lb (row0 la.length) j = (r, rowI) ∧ (∀ i, i < j → mnS la lb (row0 la.length) i ≤ mc) ∧
      m = fun y => if y = Str.ofString "result" then some (Value.int r t) else if y = Str.ofString "row" then some (.ref D) else if y = Str.ofString "b" then some (Value.str (ofL lb) t4) else if y = Str.ofString "a" then some (Value.str (ofL la) t3) else if y = Str.ofString "max_cost" then some (.int mc tc) else m₂ y)
    rfl R10 (by rw [eB]) (by omega) F6 N6 ?_ ?_ ?_
  · exact ⟨_, _, _, _, _, _, rfl, I5, rfl, fun i hi => absurd hi (Nat.not_lt_zero i), rfl⟩
  · clear R9 R10 F6 N6 I5
    rintro j t m₃ nx h tk own hjn hadr hoff ⟨r, t', us', cc', rowI, m₂, rfl, I6, ho, hmn, rfl⟩ F7 N7
    have eb : Txt.item (ofL lb) ((j : Nat) : Int) = ofL [lb.getD j 0] := by
      rw [item_pos (by omega) (by rw [eB]; omega), Int.toNat_natCast]
    simp only [List.cons_append] at N7
    show wpAny _ _ _ _ _ _
    (try k_fold)
    k_steps
    unfold Stop
    (rename Fr _ _ _ _ => F8)
    rw [eb] at F8
    with_unfolding_all refine' For_invVF F8 ?k1 ?k2 ?_ ?k3 ?k4
    case k1 => exact rfl
    case k2 => exact rfl
    case k3 => intro _; with_unfolding_all rfl
    case k4 => exact hE
    k_steps
    unfold Stop
    (rename IsRange _ _ _ _ _ _ _ _ => R11)
    (rename Fr _ _ _ _ => F9)
    (rename News _ _ _ _ => N9)
    refine range_inv (n := la.length) (fun i m nx => ∃ (d r mn : Int) (td tr tm tb ti : Tok) (us' : List Value) (cc' : Nat) (rowK : List Int) (m₂ : Str → Option Value), nx = (D, W.listOf us'.toArray cc') :: (news ++ own) ∧ IntsAre us' rowK ∧ inn la (lb.getD j 0) (j * 2) rowI i = (d, r, mn, rowK) ∧
      m = fun y => if y = Str.ofString "distance" then some (Value.int d td) else if y = Str.ofString "result" then some (Value.int r tr) else if y = Str.ofString "minimum" then some (Value.int mn tm) else if y = Str.ofString "row" then some (.ref D) else if y = Str.ofString "bchar" then some (Value.str (ofL [lb.getD j 0]) tb) else if y = Str.ofString "bindex" then some (Value.int (j : Nat) ti) else if y = Str.ofString "b" then some (Value.str (ofL lb) t4) else if y = Str.ofString "a" then some (Value.str (ofL la) t3) else if y = Str.ofString "max_cost" then some (.int mc tc) else m₂ y)
      rfl R11 (by rw [eA]) (by omega) (fr_name (x := Str.ofString "distance") (fr_name (x := Str.ofString "result") (fr_name (x := Str.ofString "minimum") (fr_name (x := Str.ofString "row") (fr_name (x := Str.ofString "bchar") (fr_name (x := Str.ofString "bindex") (fr_name (x := Str.ofString "b") (fr_name (x := Str.ofString "a") (fr_name (x := Str.ofString "max_cost") F9 rfl) rfl) rfl) rfl) rfl) rfl) rfl) rfl) rfl) N9 ?_ ?_ ?_
    · exact ⟨_, _, _, _, _, _, _, _, _, _, _, _, rfl, I6, rfl, rfl⟩
    · clear R11 F9 N9
      rintro i t5 m₄ nx h5 tk5 own5 hi hadr5 hoff5 ⟨d, r5, mn, td, tr, tm, tb, ti, us5, cc5, rowK, m₅, rfl, I7, hin, rfl⟩ F10 N10
      simp only [List.cons_append] at N10
      have ea : Txt.item (ofL la) ((i : Nat) : Int) = ofL [la.getD i 0] := by
        rw [item_pos (by omega) (by rw [eA]; omega), Int.toNat_natCast]
      have hlk : rowK.length = la.length := by
        have h1 := congrArg (fun p => p.2.2.2.length) hin
        have h2 := congrArg (fun p => p.2.length) ho
        simp only [inn_len, outS_len, row0_len] at h1 h2
        omega
      have hne : ∀ p ∈ news ++ own ++ own5, p.1 ≠ D := by
        intro p hp
        rcases List.mem_append.mp hp with hp | hp
        · rcases List.mem_append.mp hp with hp | hp
          · exact Nat.ne_of_lt (hD5 p hp)
          · exact hoff p hp D (List.mem_cons_self ..)
        · exact hoff5 p hp D (List.mem_cons_self ..)
      have hcs : subc (ofL [lb.getD j 0]) (Txt.item (ofL la) ((i : Nat) : Int)) = cost (lb.getD j 0) (la.getD i 0) := by
        rw [ea]; exact subc_ok (okc_getD hob hjn) (okc_getD hoa hi)
      show wpAny _ _ _ _ _ _
      (try k_fold)
      k_steps
      unfold Stop
      refine' SpecV.use (subst_spec _ _ _ _ _ _ _ ?a1 ?a2) ?B ?F ?X ?N ?T ?hk ?hp ?hd ?hu ?_
      (case B => k_asm); (case F => k_asm); (case X => k_asm); (case N => k_asm); (case T => k_asm); (case hk => first | exact rfl | assumption); (case hp => exact True.intro); (case a1 => kopn_len); (case a2 => kopn_len); (case hd => ktr_room); (case hu => ktr_units)
      k_whole
      intro t9 h9 tk9 F9 N9
      (try dsimp only)
      (try k_fold)
      k_steps
      refine ksa_set (by k_asm) (by k_asm) (Upd.head hne) I7 (by omega) (by omega) (by omega) ?_
      intro h6 F11 N11 I8 _ _
      rw [hcs, Int.toNat_natCast] at F11 N11 I8
      obtain ⟨res, hres⟩ : ∃ res, res = (if d + cost (lb.getD j 0) (la.getD i 0) < (if rowK.getD i 0 < r5 then rowK.getD i 0 else r5) + 2 then d + cost (lb.getD j 0) (la.getD i 0) else (if rowK.getD i 0 < r5 then rowK.getD i 0 else r5) + 2) := ⟨_, rfl⟩
      rw [← hres] at F11 N11 I8
      have hin2 := inn_next (res := res) hin (by rw [hres, if_min, if_min])
      dsimp only
      show wpAny _ _ _ _ _ _
      (try k_fold)
      k_steps
      · (rename Fr _ _ _ _ => F12)
        (rename News _ _ _ _ => N12)
        have h1 : res < mn := by assumption
        rw [if_pos h1] at hin2
        refine InvEndN.intro (fr_name (x := Str.ofString "distance") (fr_name (x := Str.ofString "result") (fr_name (x := Str.ofString "minimum") (fr_name (x := Str.ofString "row") (fr_name (x := Str.ofString "bchar") (fr_name (x := Str.ofString "bindex") (fr_name (x := Str.ofString "b") (fr_name (x := Str.ofString "a") (fr_name (x := Str.ofString "max_cost") F12 rfl) rfl) rfl) rfl) rfl) rfl) rfl) rfl) rfl) N12 ⟨_, _, _, _, _, _, _, _, _, cc5, _, _, rfl, I8, hin2, rfl⟩ rfl ?_ ?_
        · intro p hp; rcases List.mem_cons.mp hp with rfl | hp
          · exact List.mem_cons_self ..
          · exact List.mem_cons_of_mem _ (List.mem_append_left _ hp)
        · intro p hp; exact List.mem_cons_of_mem _ (List.mem_append_right _ hp)
      · (rename Fr _ _ _ _ => F12)
        (rename News _ _ _ _ => N12)
        have h1 : ¬ res < mn := by assumption
        rw [if_neg h1] at hin2
        refine InvEndN.intro (fr_name (x := Str.ofString "distance") (fr_name (x := Str.ofString "result") (fr_name (x := Str.ofString "minimum") (fr_name (x := Str.ofString "row") (fr_name (x := Str.ofString "bchar") (fr_name (x := Str.ofString "bindex") (fr_name (x := Str.ofString "b") (fr_name (x := Str.ofString "a") (fr_name (x := Str.ofString "max_cost") F12 rfl) rfl) rfl) rfl) rfl) rfl) rfl) rfl) rfl) N12 ⟨_, _, _, _, _, _, _, _, _, cc5, _, _, rfl, I8, hin2, rfl⟩ rfl ?_ ?_
        · intro p hp; rcases List.mem_cons.mp hp with rfl | hp
          · exact List.mem_cons_self ..
          · exact List.mem_cons_of_mem _ (List.mem_append_left _ hp)
        · intro p hp; exact List.mem_cons_of_mem _ (List.mem_append_right _ hp)
    · rintro m₄ nx h5 tk5 ⟨d, r5, mn, td, tr, tm, tb, ti, us5, cc5, rowK, m₅, rfl, I7, hin, rfl⟩ F10 N10
      have hmj := mnS_eq ho hin
      show wpAny _ _ _ _ _ _
      (try k_fold)
      k_steps
      · have h1 : mc < mn := by assumption
        rw [← dpS_early (a := la) (b := lb) (j := j) hfar hjn (by rw [hmj]; exact h1)]
        exact hret _ _ _ _ F10 (news_sub N10 fun p hp => List.mem_cons_of_mem _ (List.mem_append_left _ hp))
      · have h1 : ¬ mc < mn := by assumption
        refine InvEndN.intro (fr_name (x := Str.ofString "result") (fr_name (x := Str.ofString "row") (fr_name (x := Str.ofString "b") (fr_name (x := Str.ofString "a") (fr_name (x := Str.ofString "max_cost") F10 rfl) rfl) rfl) rfl) rfl) N10 ⟨_, _, _, cc5, _, _, rfl, I7, outS_next ho hin, ?_, rfl⟩ rfl ?_ ?_
        · intro i hi
          by_cases hij : i < j
          · exact hmn i hij
          · have : i = j := by omega
            subst this
            rw [hmj]; omega
        · intro p hp; rcases List.mem_cons.mp hp with rfl | hp
          · exact List.mem_cons_self ..
          · exact List.mem_cons_of_mem _ (List.mem_append_left _ hp)
        · intro p hp; exact List.mem_cons_of_mem _ (List.mem_append_right _ hp)
  · rintro m₃ nx h tk ⟨r, t', us', cc', rowI, m₂, rfl, I6, ho, hmn, rfl⟩ F7 N7
    show wpAny _ _ _ _ _ _
    (try k_fold)
    k_steps
    rw [← dpS_full hfar hmn ho]
    exact hret _ _ _ _ F7 (news_sub N7 fun p hp => List.mem_cons_of_mem _ hp)
end Mine
end
section
open PySem PySem.W PyProof.Rows
set_option maxRecDepth 100000
namespace Mine

section
variable {prog : Program} {w : World} {A : Around} {E : Value → Shared → Prop} {s : Shared} {h₀ : Heap} {L : Addr}
noncomputable def LeafAB (h₀ : Heap) (L : Addr) (mc : Int) (tc : Tok) (news : Led) (s : Shared) (va vb : Str) (f : Flow) (s₂ : Shared) : Prop :=
  f = .next ∧ ∃ (t t' : Tok) (m : Str → Option Value), Here h₀ L (fun y => if y = Str.ofString "b" then some (.str vb t) else if y = Str.ofString "a" then some (.str va t') else if y = Str.ofString "max_cost" then some (.int mc tc) else m y) news s s₂
theorem LeafAB.mk {mc : Int} {tc t t' : Tok} {m : Str → Option Value} {news : Led} {va vb : Str} {h' : Heap} {tk' : Nat} (F : Fr h₀ L h' (fun y => if y = Str.ofString "b" then some (.str vb t) else if y = Str.ofString "a" then some (.str va t') else if y = Str.ofString "max_cost" then some (.int mc tc) else m y)) (N : News h₀ L h' news) :
    LeafAB h₀ L mc tc news s va vb .next { s with heap := h', toks := tk' } := ⟨rfl, t, t', m, h', tk', rfl, F, N⟩
theorem cutAB {t : Sem Flow} {m : Str → Option Value} {news : Led} {Q : Flow → Shared → Prop} {mc : Int} {tc : Tok} (va vb : Str) (F : Fr h₀ L s.heap m) (N : News h₀ L s.heap news) (h1 : wpAny (model prog w) A t (LeafAB h₀ L mc tc news s va vb) E s)
    (h2 : ∀ (t t' : Tok) (m : Str → Option Value) h' tk', Fr h₀ L h' (fun y => if y = Str.ofString "b" then some (.str vb t) else if y = Str.ofString "a" then some (.str va t') else if y = Str.ofString "max_cost" then some (.int mc tc) else m y) → News h₀ L h' news → Q .next { s with heap := h', toks := tk' }) : wpAny (model prog w) A t Q E s := by
  let _ := F
  let _ := N
  refine wpAny_mono h1 ?_ fun _ _ e => e
  rintro fl s₁ ⟨rfl, t3, t4, m, h3, tk3, rfl, F3, N3⟩
  exact h2 _ _ _ _ _ F3 N3
end
local macro_rules | `(tactic| walk_at "exec If BoolOp") => `(tactic| (refine stopAt ?_))
local macro_rules | `(tactic| walk_at "exec If Compare") => `(tactic| (refine stopAt ?_))
set_option maxHeartbeats 8000000 in
theorem lev_tail (w : World) (mg mb : Str → Option Value) (la lb : List Nat) (mc : Int) (hla : la.length ≤ 40) (hlb : lb.length ≤ 40) (hoa : ∀ c ∈ la, okc c) (hob : ∀ c ∈ lb, okc c)  (t3 t4 tc : Tok) (m₁ : Str → Option Value)
    (dp un : Nat) (gd : Option (List Code)) (cn : Str) (cs : Scope) (ad : Addr) (ccd : Value) (cl : List (Str × Addr)) (outer : List Env) (base g' : Heap) (L L' : Addr) (news : Led) (s : Shared) (Q : Flow → Shared → Prop) (E : Value → Shared → Prop)
    (B : Below (ktrTop dp un gd cn cs L ad ccd cl outer) base (envX cn cs L ad ccd cl :: outer) g') (F : Fr g' L' s.heap (fun y => if y = Str.ofString "b" then some (Value.str (ofL lb) t4) else if y = Str.ofString "a" then some (Value.str (ofL la) t3) else if y = Str.ofString "max_cost" then some (.int mc tc) else m₁ y))
    (X : (hd.heap_1 w.params).In g') (N : News g' L' s.heap news) (T : TopR mg mb g') (hdp : dp + 2 < recursionLimit) (hun : un + 8 * 2 + 100 < cLine)
    (hE : PassesOwn (model Challenge.rw_pe0143_01.row.prog w) ((ktrTop dp un gd cn cs L ad ccd cl outer).deeper (envOf (Str.ofString "_levenshtein_distance") (fnScope 5) L' 28 (.ref 27))) (envOf (Str.ofString "_levenshtein_distance") (fnScope 5) L' 28 (.ref 27)) E)
    (hret : ∀ t h' tk' m', Fr g' L' h' m' → News g' L' h' news → Q (.ret (.int (coreS la lb mc) t)) { s with heap := h', toks := tk' }) :
    wpAny (model Challenge.rw_pe0143_01.row.prog w) ((ktrTop dp un gd cn cs L ad ccd cl outer).deeper (envOf (Str.ofString "_levenshtein_distance") (fnScope 5) L' 28 (.ref 27))) (execs ((fnBody 5).drop 9) (envOf (Str.ofString "_levenshtein_distance") (fnScope 5) L' 28 (.ref 27))) Q E s := by
  obtain ⟨sc, hsc⟩ : ∃ sc, sc = fnScope 5 := ⟨_, rfl⟩
  rw [← hsc] at hE ⊢
  conv at hsc => rhs; whnf
  subst hsc
  revert X
  k_fill
  intro X
  have eA := len_ofL' la
  have eB := len_ofL' lb
  refine wpAny_execs_cons ?_
  refine wpAny_If ?_
  k_steps
  rotate_left
  · have h1 : ((ofL lb).length : Int) = 0 := by assumption
    have e1 : coreS la lb mc = 2 * ((la.length : Int) + lb.length) := by
      unfold coreS; rw [if_pos (Or.inr (List.eq_nil_of_length_eq_zero (by omega)))]
    rw [eA, eB, ← e1]
    exact hret _ _ _ _ (by k_asm) (by k_asm)
  · have h1 : ((ofL la).length : Int) = 0 := by assumption
    have e1 : coreS la lb mc = 2 * ((la.length : Int) + lb.length) := by
      unfold coreS; rw [if_pos (Or.inl (List.eq_nil_of_length_eq_zero (by omega)))]
    rw [eA, eB, ← e1]
    exact hret _ _ _ _ (by k_asm) (by k_asm)
  unfold Stop
  have hna : la ≠ [] := by
    intro h; subst h; rename ((ofL []).length : Int) ≠ 0 => h1; exact h1 rfl
  have hnb : lb ≠ [] := by
    intro h; subst h; rename ((ofL []).length : Int) ≠ 0 => h1; exact h1 rfl
  refine wpAny_If ?_
  k_steps
  unfold Stop
  refine cutAB (mc := mc) (tc := tc) (if lb.length < la.length then ofL lb else ofL la) (if lb.length < la.length then ofL la else ofL lb) (by k_asm) (by k_asm) ?_ ?_
  · refine wpAny_If ?_
    k_steps
    · have h1 : lb.length < la.length := by omega
      (rename Fr _ _ _ _ => F9)
      (rename News _ _ _ _ => N9)
      rw [if_pos h1, if_pos h1]
      refine LeafAB.mk (fr_name (x := Str.ofString "b") (fr_name (x := Str.ofString "a") (fr_name (x := Str.ofString "max_cost") F9 rfl) rfl) rfl) (news_sub N9 fun p hp => ?_)
      first | exact hp | exact List.mem_cons_of_mem _ hp
    · have h1 : ¬ lb.length < la.length := by omega
      (rename Fr _ _ _ _ => F9)
      (rename News _ _ _ _ => N9)
      rw [if_neg h1, if_neg h1]
      exact LeafAB.mk F9 N9
  intro t5 t6 m₂ h5 tk5 F5 N5
  dsimp only
  by_cases h1 : lb.length < la.length
  · rw [if_pos h1, if_pos h1] at F5
    refine lev_dp w mg mb lb la mc hlb hla hob hoa hnb (by omega) _ _ _ _ dp un gd cn cs ad ccd cl outer base g' L L' news _ Q E B F5 X N5 T hdp hun hE ?_
    have e1 : coreS la lb mc = dpS lb la mc := by unfold coreS; rw [if_neg (by simp [hna, hnb]), if_pos h1]
    rw [← e1]
    exact fun t h' tk' m' F' N' => hret t h' tk' m' F' N'
  · rw [if_neg h1, if_neg h1] at F5
    refine lev_dp w mg mb la lb mc hla hlb hoa hob hna (by omega) _ _ _ _ dp un gd cn cs ad ccd cl outer base g' L L' news _ Q E B F5 X N5 T hdp hun hE ?_
    have e1 : coreS la lb mc = dpS la lb mc := by unfold coreS; rw [if_neg (by simp [hna, hnb]), if_neg h1]
    rw [← e1]
    exact fun t h' tk' m' F' N' => hret t h' tk' m' F' N'
end Mine
end
section
open PySem PySem.W PyProof.Rows
set_option maxRecDepth 100000
namespace Mine

theorem cutN {n : Nat} {k : Int} (h : 0 ≤ k) : (((n - k.toNat : Nat) : Int) ≠ 0 ↔ k < n) := by
  obtain ⟨j, rfl⟩ := Int.eq_ofNat_of_zero_le h
  rw [Int.toNat_natCast]
  omega
theorem km1 {k : Int} (h : k ≤ 0) : k - 1 < 0 := by omega
theorem lenk {n : Nat} {k : Int} (h : -k < n) : -(n : Int) ≤ k - 1 := by omega
theorem tl1 {n : Nat} {k : Int} (h : -k < n) (h0 : k ≤ 0) : (-k).toNat < n := by
  have := Int.toNat_of_nonneg (Int.neg_nonneg_of_nonpos h0)
  rw [← this] at h
  exact Int.ofNat_lt.mp h
theorem tl2 {n : Nat} {k : Int} (h0 : k ≤ 0) : n - (-(k - 1)).toNat = n - 1 - (-k).toNat := by
  obtain ⟨j, rfl⟩ : ∃ j : Nat, k = -(j : Int) := ⟨(-k).toNat, by rw [Int.toNat_of_nonneg (Int.neg_nonneg_of_nonpos h0), Int.neg_neg]⟩
  have e : -(-(j : Int) - 1) = ((j + 1 : Nat) : Int) := by rw [Int.neg_sub, Int.sub_neg, Int.add_comm]; rfl
  rw [e, Int.neg_neg, Int.toNat_natCast, Int.toNat_natCast, Nat.sub_sub, Nat.add_comm]
theorem test1 {a b : Str} {k : Int} (h0 : 0 ≤ k) (h1 : k ≤ (lcp (sg a) (sg b) : Nat)) :
    (((Txt.slice a (some k) none).length : Int) ≠ 0 ↔ k < a.length) ∧ (((Txt.slice b (some k) none).length : Int) ≠ 0 ↔ k < b.length) ∧
    (k < a.length → k < b.length → ((Txt.item a k == Txt.item b k) = decide (k < (lcp (sg a) (sg b) : Nat)))) ∧ lcp (sg a) (sg b) ≤ a.length ∧ lcp (sg a) (sg b) ≤ b.length := by
  have hl := lcp_le (sg a) (sg b)
  rw [← len_sg a, ← len_sg b] at hl
  refine ⟨?_, ?_, fun ha hb => ?_, hl⟩
  · rw [slice_from_len h0 (Int.le_trans h1 (Int.ofNat_le.mpr hl.1))]; exact cutN h0
  · rw [slice_from_len h0 (Int.le_trans h1 (Int.ofNat_le.mpr hl.2))]; exact cutN h0
  · have e1 : ∀ u v : Nat, (ofL [u] == ofL [v]) = decide (u = v) := fun u v => by rw [beq_sg, decide_eq_decide]; simp
    rw [item_pos h0 ha, item_pos h0 hb, e1, decide_eq_decide]
    constructor
    · intro e
      by_cases hk : k < (lcp (sg a) (sg b) : Nat)
      · exact hk
      · exfalso
        have ek : k.toNat = lcp (sg a) (sg b) := by omega
        rw [ek] at e
        refine lcp_stop (sg a) (sg b) ?_ ?_ e
        · rw [← len_sg]; omega
        · rw [← len_sg]; omega
    · intro hk
      exact lcp_eq (sg a) (sg b) k.toNat (by omega)
theorem test2 {a b : Str} {k : Int} (h0 : k ≤ 0) (h1 : -(lcp (sg a).reverse (sg b).reverse : Nat) ≤ k) :
    (k = 0 → ((((Txt.slice a none none).length : Int) ≠ 0 ↔ -k < a.length) ∧ (((Txt.slice b none none).length : Int) ≠ 0 ↔ -k < b.length))) ∧
    (k ≠ 0 → ((((Txt.slice a none (some k)).length : Int) ≠ 0 ↔ -k < a.length) ∧ (((Txt.slice b none (some k)).length : Int) ≠ 0 ↔ -k < b.length))) ∧
    (-k < a.length → -k < b.length → ((Txt.item a (k - 1) == Txt.item b (k - 1)) = decide (-(lcp (sg a).reverse (sg b).reverse : Nat) < k))) ∧
    lcp (sg a).reverse (sg b).reverse ≤ a.length ∧ lcp (sg a).reverse (sg b).reverse ≤ b.length := by
  have hl := lcp_le (sg a).reverse (sg b).reverse
  rw [List.length_reverse, List.length_reverse, ← len_sg a, ← len_sg b] at hl
  refine ⟨fun hk => ?_, fun hk => ?_, fun ha hb => ?_, hl⟩
  · subst hk
    rw [slice_none, slice_none]
    exact ⟨cutN (n := a.length) (k := 0) (Int.le_refl 0), cutN (n := b.length) (k := 0) (Int.le_refl 0)⟩
  · rw [slice_to_neg_len (x := a) (Int.lt_iff_le_and_ne.mpr ⟨h0, hk⟩) (Int.le_trans (Int.neg_le_neg (Int.ofNat_le.mpr hl.1)) h1), slice_to_neg_len (x := b) (Int.lt_iff_le_and_ne.mpr ⟨h0, hk⟩) (Int.le_trans (Int.neg_le_neg (Int.ofNat_le.mpr hl.2)) h1)]
    exact ⟨cutN (Int.neg_nonneg_of_nonpos h0), cutN (Int.neg_nonneg_of_nonpos h0)⟩
  · have e1 : ∀ u v : Nat, (ofL [u] == ofL [v]) = decide (u = v) := fun u v => by rw [beq_sg, decide_eq_decide]; simp
    rw [item_neg (x := a) (km1 h0) (lenk ha), item_neg (x := b) (km1 h0) (lenk hb), e1, decide_eq_decide]
    have r1 : ∀ (x : Str), -k < x.length → (sg x).getD (x.length - (-(k - 1)).toNat) 0 = (sg x).reverse.getD (-k).toNat 0 := by
      intro x hx
      have hx' := len_sg x
      rw [List.getD_eq_getElem?_getD, List.getD_eq_getElem?_getD, List.getElem?_reverse (tl1 (hx' ▸ hx) h0)]
      congr 2
      rw [hx']; exact tl2 h0
    rw [r1 a ha, r1 b hb]
    constructor
    · intro e
      by_cases hk : -(lcp (sg a).reverse (sg b).reverse : Nat) < k
      · exact hk
      · exfalso
        have ek : (-k).toNat = lcp (sg a).reverse (sg b).reverse := by omega
        rw [ek] at e
        refine lcp_stop _ _ ?_ ?_ e
        · rw [List.length_reverse, ← len_sg]; omega
        · rw [List.length_reverse, ← len_sg]; omega
    · intro hk
      exact lcp_eq _ _ (-k).toNat (by omega)
local macro_rules | `(tactic| walk_at "subscriptTail Name Slice str ref") => `(tactic| (k_here; (with_reducible rename Fr _ _ _ _ => F'); (with_reducible rename News _ _ _ _ => N'); (refine slice_strN_nn_len (hsz := ?hsz) (s := ⟨_, _, _, _, _⟩) F' N' ?_); (case hsz => kopn_len); intro _ _ _ _ _ _))
local macro_rules | `(tactic| walk_at "exec While BoolOp") => `(tactic| (refine stopAt ?_))
local macro_rules | `(tactic| walk_at "subscriptTail Name Name str int") => `(tactic| (refine stopAt ?_))
local macro_rules | `(tactic| walk_at "subscriptTail Name BinOp str int") => `(tactic| (refine stopAt ?_))
theorem fitsk {n : Nat} {k : Int} (hn : n ≤ 40) (h1 : -(n : Int) ≤ k) (h2 : k < n) : fitsSsize k = true := fitsSsize_of (N := 9223372036854775808) (by omega) (by omega) (Int.le_refl _)
theorem negle {n : Nat} {k : Int} (h : 0 ≤ k) : -(n : Int) ≤ k := by omega
theorem km1n {n : Nat} {k : Int} (h : k ≤ 0) : k - 1 < (n : Int) := by omega
theorem nlt {n j : Nat} {k : Int} (h : -(j : Int) < k) (hj : j ≤ n) : -k < (n : Int) := by omega
set_option maxHeartbeats 8000000 in
theorem lev_spec (w : World) (mg mb : Str → Option Value) (a b : Str) (ta tb : Tok) (mc : Int) (tc : Tok) (ha : a.length ≤ 40) (hb : b.length ≤ 40) (hoa : ∀ c ∈ sg a, okc c) (hob : ∀ c ∈ sg b, okc c) :
  SpecV w mg mb 28 2 [.str a ta, .str b tb, .int mc tc] (fun _ => True) (fun t => .int (levS (sg a) (sg b) mc) t) := by
  unfold SpecV
  k_fill
  intro dp un gd cn cs ad ccd cl outer A₀ base h₀ L m news s Q E B F X N T hk hpre hdp hun hret
  refine wpAny_call ?_
  k_dflt (((refine' enterR ?k1 ?k2 ?k3 ?k4 ?k5 ?kA ?kF ?kK ?k6 ?k7 ?k8 ?k9 ?kB ?_ ?c2 ?c3 ?c4 ?c5; (case kA => exact rfl); (case kF => exact rfl); (case kK => assumption); (case k1 => k_asm); (case k2 => k_asm); (case k3 => k_asm); (case k4 => k_asm); (case k5 => k_asm); (case k6 => k_is); (case k7 => k_is); (case k8 => ktr_room); (case k9 => exact BindsTo.of_eq rfl); (case c5 => decide); (case kB => exact locs rfl); (case c2 => exact rfl); (case c3 => exact rfl); (case c4 => exact rfl); k_whole; intro g' L' h' FG' F' N' B' X' T'; (try dsimp only); (try k_lift B'); (try k_fold))))
  k_steps
  · have h1 : (a == b) = true := by assumption
    rw [beq_sg, decide_eq_true_eq] at h1
    exact retV hret (eInt (by unfold levS; rw [if_pos h1])) (by k_asm) (by (first | k_asm | (refine' news_sub ?nn ?ns; (case nn => assumption); (case ns => kcj_all))))
  unfold Stop
  have hab : sg a ≠ sg b := by
    have h1 : (a == b) = false := by assumption
    rw [beq_sg, decide_eq_false_iff_not] at h1
    exact h1
  rename Fr _ _ _ _ => Fp
  obtain ⟨m₀, t0, F0⟩ : ∃ (m₀ : Str → Option Value) (t0 : Tok), Fr _ _ _ (fun y => if y = Str.ofString "pre" then some (Value.int 0 t0) else if y = Str.ofString "a" then some (Value.str a ta) else if y = Str.ofString "b" then some (.str b tb) else if y = Str.ofString "max_cost" then some (.int mc tc) else m₀ y) :=
    ⟨_, _, fr_name (fr_name (fr_name (fr_name Fp rfl) rfl) rfl) rfl⟩
  clear Fp
  refine' whileInt (Str.ofString "pre") (fun k => decide (k < (lcp (sg a) (sg b) : Nat))) (fun k => 0 ≤ k ∧ k ≤ (lcp (sg a) (sg b) : Nat)) (fun k => (lcp (sg a) (sg b) - k).toNat) (fun k => k + 1) ?hP ?hf ?F ?N ?ht ?hb ?hE ?done
  case F => exact F0
  case N => k_asm
  case hP => omega
  case hf => intro k hk hc; have := of_decide_eq_true hc; omega
  case hE => first | passes_own | with_unfolding_all passes_own
  case ht =>
    intro k t h tk hP F9 N9
    k_steps
    all_goals first
      | (refine LeafB.mk (by k_asm) (by k_asm) ?_
         have ht := test1 (a := a) (b := b) hP.1 hP.2
         symm; rw [decide_eq_false_iff_not]; intro hk; rename (_ : Int) = 0 => h0
         first | exact ht.2.1.mpr (Int.lt_of_lt_of_le hk (Int.ofNat_le.mpr ht.2.2.2.2)) h0 | exact ht.1.mpr (Int.lt_of_lt_of_le hk (Int.ofNat_le.mpr ht.2.2.2.1)) h0)
      | skip
    unfold Stop
    have ht := test1 (a := a) (b := b) hP.1 hP.2
    have hA := ht.1.mp (by assumption)
    have hB := ht.2.1.mp (by assumption)
    have hAB := ht.2.2.1 hA hB
    clear ht
    refine item_str (fitsk ha (negle hP.1) hA) (negle hP.1) hA ?_
    intro _
    k_steps
    unfold Stop
    refine item_str (fitsk hb (negle hP.1) hB) (negle hP.1) hB ?_
    intro _
    k_steps
    all_goals refine LeafB.mk (by k_asm) (by k_asm) ?_
    all_goals (rw [← hAB]; symm; assumption)
  case hb =>
    intro k t h tk hP hc F9 N9
    k_steps
    exact LeafI.mk (by k_asm) (by k_asm)
  case done =>
    intro k t h tk hP hc F9 N9
    clear F0
    dsimp only
    have hk : k = (lcp (sg a) (sg b) : Nat) := by have := of_decide_eq_false hc; omega
    clear hP hc
    subst hk
    have hl := lcp_le (sg a) (sg b)
    rw [← len_sg, ← len_sg] at hl
    k_steps
    unfold Stop
    obtain ⟨A1, eA⟩ : ∃ A1, A1 = Txt.slice a (some ((lcp (sg a) (sg b) : Nat) : Int)) none := ⟨_, rfl⟩
    obtain ⟨B1, eB⟩ : ∃ B1, B1 = Txt.slice b (some ((lcp (sg a) (sg b) : Nat) : Int)) none := ⟨_, rfl⟩
    rename Fr _ _ _ _ => Fp
    obtain ⟨m₁, t0, t1, t2, F0⟩ : ∃ (m₁ : Str → Option Value) (t0 t1 t2 : Tok), Fr _ _ _ (fun y => if y = Str.ofString "post" then some (Value.int 0 t0) else if y = Str.ofString "a" then some (Value.str A1 t1) else if y = Str.ofString "b" then some (.str B1 t2) else if y = Str.ofString "max_cost" then some (.int mc tc) else m₁ y) := by
      rw [eA, eB]
      exact ⟨_, _, _, _, fr_name (fr_name (fr_name (fr_name Fp rfl) rfl) rfl) rfl⟩
    have hA1 : A1.length ≤ 40 := by rw [eA]; omega
    have hB1 : B1.length ≤ 40 := by rw [eB]; omega
    clear Fp
    refine' whileInt (Str.ofString "post") (fun k => decide (-(lcp (sg A1).reverse (sg B1).reverse : Nat) < k)) (fun k => k ≤ 0 ∧ -(lcp (sg A1).reverse (sg B1).reverse : Nat) ≤ k) (fun k => (k + lcp (sg A1).reverse (sg B1).reverse).toNat) (fun k => k - 1) ?hP ?hf ?F ?N ?ht ?hb ?hE ?done
    case F => exact F0
    case N => k_asm
    case hP => omega
    case hf => intro k hk hc; have := of_decide_eq_true hc; omega
    case hE => first | passes_own | with_unfolding_all passes_own
    case ht =>
      intro k t h tk hP F9 N9
      k_steps
      all_goals first
        | (refine LeafB.mk (by k_asm) (by k_asm) ?_
           have ht := test2 (a := A1) (b := B1) hP.1 hP.2
           first
           | exact absurd (by assumption) (by assumption : ¬ k = 0)
           | (have h1 := ht.1 (by assumption); symm; rw [decide_eq_false_iff_not]; intro hk; rename (_ : Int) = 0 => h0; first | exact h1.1.mpr (nlt hk ht.2.2.2.1) h0 | exact h1.2.mpr (nlt hk ht.2.2.2.2) h0)
           | (have h1 := ht.2.1 (by assumption); symm; rw [decide_eq_false_iff_not]; intro hk; rename (_ : Int) = 0 => h0; first | exact h1.1.mpr (nlt hk ht.2.2.2.1) h0 | exact h1.2.mpr (nlt hk ht.2.2.2.2) h0))
        | (unfold Stop
           first
           | exact absurd (by assumption) (by assumption : ¬ k = 0)
           | (have ht := test2 (a := A1) (b := B1) hP.1 hP.2
              have h1 := ht.1 (by assumption)
              have hA := h1.1.mp (by assumption)
              have hB := h1.2.mp (by assumption)
              have hAB := ht.2.2.1 hA hB
              clear ht h1
              refine item_str (fitsk hA1 (lenk hA) (km1n hP.1)) (lenk hA) (km1n hP.1) ?_
              intro _
              k_steps
              unfold Stop
              refine item_str (fitsk hB1 (lenk hB) (km1n hP.1)) (lenk hB) (km1n hP.1) ?_
              intro _
              k_steps
              all_goals refine LeafB.mk (by k_asm) (by k_asm) ?_
              all_goals (rw [← hAB]; symm; assumption))
           | (have ht := test2 (a := A1) (b := B1) hP.1 hP.2
              have h1 := ht.2.1 (by assumption)
              have hA := h1.1.mp (by assumption)
              have hB := h1.2.mp (by assumption)
              have hAB := ht.2.2.1 hA hB
              clear ht h1
              refine item_str (fitsk hA1 (lenk hA) (km1n hP.1)) (lenk hA) (km1n hP.1) ?_
              intro _
              k_steps
              unfold Stop
              refine item_str (fitsk hB1 (lenk hB) (km1n hP.1)) (lenk hB) (km1n hP.1) ?_
              intro _
              k_steps
              all_goals refine LeafB.mk (by k_asm) (by k_asm) ?_
              all_goals (rw [← hAB]; symm; assumption)))
    case hb =>
      intro k t h tk hP hc F9 N9
      k_steps
      exact LeafI.mk (by k_asm) (by k_asm)
    case done =>
      intro k t h tk hP hc F9 N9
      clear F0
      dsimp only
      obtain ⟨j, hj⟩ : ∃ j, j = lcp (sg A1).reverse (sg B1).reverse := ⟨_, rfl⟩
      have hk : k = -(j : Int) := by have := of_decide_eq_false hc; omega
      have hj2 := lcp_le (sg A1).reverse (sg B1).reverse
      rw [List.length_reverse, List.length_reverse, ← len_sg A1, ← len_sg B1, ← hj] at hj2
      clear hP hc
      refine wpAny_execs_cons ?_
      refine cutS (Str.ofString "a") (ofL ((sg A1).take (A1.length - j))) (by k_asm) (by k_asm) ?_ ?_
      · k_steps
        all_goals (refine LeafS.mk (by k_asm) (by k_asm) ?_; first | exact slice_back0 (by omega) | exact slice_back hk (by omega) hj2.1)
      intro t3 h3 tk3 F3 N3
      dsimp only
      refine wpAny_execs_cons ?_
      refine cutS (Str.ofString "b") (ofL ((sg B1).take (B1.length - j))) (by k_asm) (by k_asm) ?_ ?_
      · k_steps
        all_goals (refine LeafS.mk (by k_asm) (by k_asm) ?_; first | exact slice_back0 (by omega) | exact slice_back hk (by omega) hj2.2)
      intro t4 h4 tk4 F4 N4
      dsimp only
      have sA : sg A1 = (sg a).drop (lcp (sg a) (sg b)) := by
        rw [eA, slice_from (by omega) (by omega), Int.toNat_natCast]
      have sB : sg B1 = (sg b).drop (lcp (sg a) (sg b)) := by
        rw [eB, slice_from (by omega) (by omega), Int.toNat_natCast]
      have ev : coreS ((sg A1).take (A1.length - j)) ((sg B1).take (B1.length - j)) mc = levS (sg a) (sg b) mc := by
        unfold levS strip2 strip1
        rw [if_neg hab, hj, len_sg A1, len_sg B1, sA, sB]
      have lA := len_sg A1
      have lB := len_sg B1
      refine lev_tail w mg mb ((sg A1).take (A1.length - j)) ((sg B1).take (B1.length - j)) mc (by rw [List.length_take]; omega) (by rw [List.length_take]; omega)
        (fun c hc => hoa c (by have := List.mem_of_mem_take hc; rw [sA] at this; exact List.mem_of_mem_drop this)) (fun c hc => hob c (by have := List.mem_of_mem_take hc; rw [sB] at this; exact List.mem_of_mem_drop this))
        _ _ _ _ _ _ _ _ _ _ _ _ _ _ _ _ _ news _ _ _ (by assumption) (fr_name (x := Str.ofString "b") (fr_name (x := Str.ofString "a") (fr_name (x := Str.ofString "max_cost") F4 rfl) rfl) rfl) (by assumption) N4 (by assumption) hdp hun ?_ ?_
      · first | passes_own | with_unfolding_all passes_own
      · rw [ev]
        intro t5 h5 tk5 m5 F5 N5
        k_steps
        exact retV hret ⟨_, rfl⟩ (by k_asm) (by (first | k_asm | (refine' news_sub ?nn ?ns; (case nn => assumption); (case ns => kcj_all))))
end Mine
end
section
open PySem PySem.W PyProof.Rows
set_option maxRecDepth 100000
namespace Mine
section
variable {prog : Program} {w : World} {A : Around} {E : Value → Shared → Prop} {s : Shared} {env : Env} {h₀ : Heap} {x : Str} {body : List Stmt} {Q : Flow → Shared → Prop}
/-- a for over a list of the ledger's, the ledger kept: J tells what holds of the frame behind i turns -/
theorem list_inv {l : Addr} {vs : List Value} {nn : Nat} {m₀ : Str → Option Value} {news : Led} (J : Nat → (Str → Option Value) → Prop)
    (hh : A.handled = none) (hl : (l, W.listOf vs.toArray nn) ∈ news) (F : Fr h₀ env.locals s.heap m₀) (N : News h₀ env.locals s.heap news) (hj : J 0 m₀)
    (turn : ∀ i v m₁ h tk own, vs[i]? = some v → J i m₁ → Fr h₀ env.locals h (fun y => if y = x then some v else m₁ y) → News h₀ env.locals h (own ++ news) →
      wpAny (model prog w) A (execs body env) (InvPost h₀ env.locals (J (i + 1)) (own ++ news) { s with heap := h, toks := tk } Q) E { s with heap := h, toks := tk })
    (done : ∀ m₁ h tk, J vs.length m₁ → Fr h₀ env.locals h m₁ → News h₀ env.locals h news → Q .next { s with heap := h, toks := tk }) :
    wpAny (model prog w) A (pyIter (.ref l)) (fun it s₂ => LoopAtV prog w A h₀ env x body Q E it s₂) E s := by
  have hol : s.heap.get? l = some (W.listOf vs.toArray nn) := (N _ hl).1
  have hls : s.heap.IsList l vs.toArray := ⟨_, hol, rfl, nn, rfl⟩
  have hne : l ≠ s.heap.objs.size := Nat.ne_of_lt (Heap.lt_size hol)
  refine wpAny_pyIter_list hls ?_
  have W := Walks.list (prog := prog) (w := w) hh s.heap.objs.size l hne vs.toArray
  have hlen : vs.toArray.size = vs.length := by simp
  rw [hlen] at W
  let J' : Nat → (Str → Option Value) → Led → Prop := fun i m₁ news₁ => news₁ = news ∧ J i m₁
  refine ⟨_, _, _, vs.length, _, _, m₀, news, J', rfl, W, ?_, ?_, ?_, ⟨⟨_, Heap.get?_push_size _ rfl, rfl, rfl⟩, hls.at fun o e => Heap.get?_push_of_some _ e⟩, F.push _, (fun p hp => ⟨Heap.get?_push_of_some _ (N p hp).1, (N p hp).2⟩), ⟨rfl, hj⟩, ?_, ?_⟩
  · intro hm
    rcases List.mem_cons.mp hm with e | hm
    · exact absurd F.ns.lt (e ▸ Nat.lt_irrefl _)
    · exact (N _ hl).2.1 (List.mem_singleton.mp hm).symm
  · intro b hb
    rw [List.mem_singleton.mp hb]
    exact next_is_new F
  · intro p hp hI
    exact absurd (Heap.lt_size (N p hp).1) ((List.mem_singleton.mp hI) ▸ Nat.lt_irrefl _)
  · rintro i v m₁ news₁ s₁ own ⟨hh', tk', rfl⟩ hin hP ⟨rfl, hJ⟩ hoff _ _ _ _ F₁ N₁
    refine wpAny_mono (turn i v m₁ hh' tk' own (by simpa using hP) hJ F₁ N₁) (fun f s₂ p => ?_) fun _ _ e => e
    have fin : InvEnd h₀ env.locals (J (i + 1)) (own ++ news₁) { s with heap := hh', toks := tk' } s₂ → LoopStepU h₀ env.locals [s.heap.objs.size] own (J' (i + 1)) { s with heap := hh', toks := tk' } .next s₂ := by
      rintro ⟨h', tk, m', news', e, F', N', hn, hm⟩
      exact ⟨rfl, h', tk, m', news₁, e, F', fun p hp => N' p (hn p hp), hoff, rfl, hm⟩
    cases f with
    | ret v => exact .ret p
    | brk => exact .brk p
    | next => exact .next (fin p)
    | cont => exact .cont (fin p)
  · rintro h' tk m' news' F' N' _ ⟨rfl, hJ⟩
    exact done m' h' tk hJ F' N'
end
open Builtin Builtin.Str in
/-- where y is first found in x from i on and ahead of j -/
noncomputable def find4 (x y : Str) (i j : Int) : Int := match occurrences x y (fromIndex x.length i) (min (fromIndex x.length j) x.length) 1 with | k :: _ => (k : Int) | [] => -1
section
variable {prog : Program} {w : World} {A : Around} {E : Value → Shared → Prop} {s : Shared}
open Builtin Builtin.Str in
theorem gives_find4 (x y : Str) (i j : Int) (t u v v' : Tok) : Gives («str.find» ⟨[.str x t, .str y u, .int i v, .int j v'], []⟩) (.int (find4 x y i j)) := by
  unfold find4
  show Gives (match occurrences x y (fromIndex x.length i) (min (fromIndex x.length j) x.length) 1 with | k :: _ => retInt k | [] => (do rule "str.find.not-found"; retInt (-1))) _
  cases occurrences x y (fromIndex x.length i) (min (fromIndex x.length j) x.length) 1 with
  | nil => exact .rule (.of_eq rfl)
  | cons k _ => exact .of_eq rfl
theorem call_find4 {x y : Str} {i j : Int} {t u v v' : Tok} {Q : Value → Shared → Prop} (hq : Q (.int (find4 x y i j) s.toks) { s with toks := s.toks + 1 }) : wpAny (model prog w) A (call (.builtin "str.find") [.str x t, .str y u, .int i v, .int j v']) Q E s :=
  call_gives F.slot_str_find (typeIs_str _ _ _) F.entry_str_find (F.args_str_find_4 _ _ _ _) (gives_find4 x y i j t u v v') hq
end
end Mine
end
section
open PySem PySem.W PyProof.Rows
set_option maxRecDepth 100000
namespace Mine

noncomputable def fpos (got : Str) (e : Int) : List Str → Int → Option Int
  | [], p => some p
  | w :: r, p => if find4 got w p e < 0 then none else fpos got e r (find4 got w p e + w.length)
theorem fpos_app (got : Str) (e : Int) : ∀ (a b : List Str) (p : Int), fpos got e (a ++ b) p = (fpos got e a p).bind (fpos got e b)
  | [], _, _ => rfl
  | w :: r, b, p => by
    show (if _ then _ else _) = (if _ then _ else _ : Option Int).bind _
    split
    · rfl
    · exact fpos_app got e r b _
theorem strs_get : ∀ {vs : List Value} {us : List Str}, StrsAre vs us → ∀ {i : Nat} {v : Value}, vs[i]? = some v → ∃ u t, us[i]? = some u ∧ v = .str u t
  | _, _, .nil, i, v, h => by simp at h
  | _, _, .cons u t r, 0, v, h => ⟨u, t, rfl, by simpa using h.symm⟩
  | _, _, .cons u t r, i + 1, v, h => by
    obtain ⟨u', t', h1, h2⟩ := strs_get r (i := i) (v := v) (by simpa using h)
    exact ⟨u', t', by simpa using h1, h2⟩
local macro_rules | `(tactic| walk_at "call builtin:str.find") => `(tactic| (k_here; (with_reducible show wpAny _ _ (call (Value.builtin "str.find") [Value.str _ _, Value.str _ _, Value.int _ _, Value.int _ _]) _ _ _); refine call_find4 ?_))
local macro_rules | `(tactic| walk_at "exec For Name Name cons nil") => `(tactic| (refine stopAt ?_))
local macro_rules | `(tactic| walk_at "pyIter ref") => `(tactic| (refine stopAt ?_))
set_option maxHeartbeats 8000000 in
theorem ell_loop (w : World) (mg mb : Str → Option Value) (got : Str) (hg : got.length ≤ 40) (us : List Str) (hus : ∀ u ∈ us, u.length ≤ 40) (vs : List Value) (cc : Nat) (hvs : StrsAre vs us) (p₀ e : Int) (tp te tg : Tok) (D : Addr) (m₁ : Str → Option Value)
    (dp un : Nat) (gd : Option (List Code)) (cn : Str) (cs : Scope) (ad : Addr) (ccd : Value) (cl : List (Str × Addr)) (outer : List Env) (base g' : Heap) (L L' : Addr) (news : Led) (s : Shared) (Q : Flow → Shared → Prop) (E : Value → Shared → Prop)
    (B : Below (ktrTop dp un gd cn cs L ad ccd cl outer) base (envX cn cs L ad ccd cl :: outer) g') (F : Fr g' L' s.heap (fun y => if y = Str.ofString "startpos" then some (Value.int p₀ tp) else if y = Str.ofString "endpos" then some (Value.int e te) else if y = Str.ofString "got" then some (.str got tg) else if y = Str.ofString "ws" then some (.ref D) else m₁ y))
    (X : (hd.heap_1 w.params).In g') (N : News g' L' s.heap news) (hD : (D, W.listOf vs.toArray cc) ∈ news) (T : TopR mg mb g') (hdp : dp + 1 < recursionLimit) (hun : un + 8 * 1 + 100 < cLine)
    (hE : PassesOwn (model Challenge.rw_pe0143_01.row.prog w) ((ktrTop dp un gd cn cs L ad ccd cl outer).deeper (envOf (Str.ofString "_ellipsis_match") (fnScope 8) L' 35 (.ref 34))) (envOf (Str.ofString "_ellipsis_match") (fnScope 8) L' 35 (.ref 34)) E)
    (hret : ∀ h' tk' m', Fr g' L' h' m' → News g' L' h' news → Q (.ret (.bool (fpos got e us p₀).isSome)) { s with heap := h', toks := tk' }) :
    wpAny (model Challenge.rw_pe0143_01.row.prog w) ((ktrTop dp un gd cn cs L ad ccd cl outer).deeper (envOf (Str.ofString "_ellipsis_match") (fnScope 8) L' 35 (.ref 34))) (execs ((fnBody 8).drop 9) (envOf (Str.ofString "_ellipsis_match") (fnScope 8) L' 35 (.ref 34))) Q E s := by
  obtain ⟨sc, hsc⟩ : ∃ sc, sc = fnScope 8 := ⟨_, rfl⟩
  rw [← hsc] at hE ⊢
  conv at hsc => rhs; whnf
  subst hsc
  revert X
  k_fill
  intro X
  refine wpAny_execs_cons ?_
  with_unfolding_all refine' For_invVF F ?k1 ?k2 ?_ ?k3 ?k4
  case k1 => exact rfl
  case k2 => exact rfl
  case k3 => intro _; with_unfolding_all rfl
  case k4 => exact hE
  k_steps
  unfold Stop
  refine list_inv (fun i m => ∃ (p : Int) (t : Tok) (m₂ : Str → Option Value), fpos got e (us.take i) p₀ = some p ∧ m = fun y => if y = Str.ofString "startpos" then some (Value.int p t) else if y = Str.ofString "endpos" then some (Value.int e te) else if y = Str.ofString "got" then some (.str got tg) else if y = Str.ofString "ws" then some (.ref D) else m₂ y) rfl hD F N ⟨p₀, tp, m₁, rfl, rfl⟩ ?_ ?_
  · rintro i v m₃ h tk own hi ⟨p, t, m₂, hp, rfl⟩ F2 N2
    obtain ⟨u, tu, hu, rfl⟩ := strs_get hvs hi
    have hul := hus u (List.mem_of_getElem? hu)
    have htk : us.take (i + 1) = us.take i ++ [u] := by simp [List.take_add_one, hu]
    k_steps
    · have h1 : find4 got u p e < 0 := by assumption
      have e1 : (fpos got e us p₀).isSome = false := by
        have e2 : us = us.take i ++ u :: us.drop (i + 1) := by
          have e3 := List.take_append_drop (i + 1) us
          rw [htk, List.append_assoc] at e3
          exact e3.symm
        rw [e2, fpos_app, hp]
        show (fpos got e (u :: _) p).isSome = false
        unfold fpos
        rw [if_pos h1]
        rfl
      rw [← e1]
      exact hret _ _ _ (by k_asm) (news_sub (by assumption) fun p hp => List.mem_append_right _ hp)
    · have h1 : ¬ find4 got u p e < 0 := by assumption
      (rename Fr _ _ _ _ => F9)
      (rename News _ _ _ _ => N9)
      refine InvEnd.intro (fr_name (x := Str.ofString "startpos") (fr_name (x := Str.ofString "endpos") (fr_name (x := Str.ofString "got") (fr_name (x := Str.ofString "ws") F9 rfl) rfl) rfl) rfl) N9 (fun p hp => hp) ⟨_, _, _, ?_, rfl⟩
      rw [htk, fpos_app, hp]
      show fpos got e [u] p = _
      unfold fpos
      rw [if_neg h1]
      rfl
  · rintro m₃ h tk ⟨p, t, m₂, hp, rfl⟩ F2 N2
    have hl : us.take vs.length = us := by rw [hvs.length]; exact List.take_length
    rw [hl] at hp
    k_steps
    have e1 : (fpos got e us p₀).isSome = true := by rw [hp]; rfl
    rw [← e1]
    exact hret _ _ _ F2 N2
end Mine
end
section
open PySem PySem.W PyProof.Rows
set_option maxRecDepth 100000
namespace Mine

local macro_rules | `(tactic| walk_at "call builtin:str.split") => `(tactic| (refine stopAt ?_))
local macro_rules | `(tactic| walk_at "execs cons") => `(tactic| ((with_reducible show wpAny _ _ (execs (Stmt.For _ _ _ _ _ :: _) _) _ _ _); refine stopAt ?_))
/-- what is left to be sought behind the two ends -/
noncomputable def ellS (w0 : Str) (mid : List Str) (wl got : Str) : Bool :=
  if w0.length ≠ 0 ∧ Txt.startswith got w0 = false then false
  else if Txt.endswith got wl = false then false
  else if (got.length : Int) - wl.length < (w0.length : Int) then false
  else (fpos got ((got.length : Int) - wl.length) (if w0.length ≠ 0 then mid else w0 :: mid) w0.length).isSome
theorem ellS_ns {w0 wl got : Str} {mid : List Str} (h : (w0.length : Int) ≠ 0) (hs : Txt.startswith got w0 = false) : false = ellS w0 mid wl got := by
  unfold ellS; rw [if_pos ⟨by omega, hs⟩]
theorem ellS_ne {w0 wl got : Str} {mid : List Str} (he : Txt.endswith got wl = false) : false = ellS w0 mid wl got := by
  unfold ellS; split
  · rfl
  · first | rfl | rw [if_pos he]
theorem ellS_cross {w0 wl got : Str} {mid : List Str} (hc : (got.length : Int) - wl.length < (w0.length : Int)) : false = ellS w0 mid wl got := by
  unfold ellS; split
  · rfl
  · split
    · rfl
    · first | rfl | rw [if_pos hc]
theorem ellS_go1 {w0 wl got : Str} {mid : List Str} (h : (w0.length : Int) ≠ 0) (hs : Txt.startswith got w0 = true) (he : Txt.endswith got wl = true) (hc : ¬ (got.length : Int) - wl.length < (w0.length : Int)) :
    (fpos got ((got.length : Int) - wl.length) mid w0.length).isSome = ellS w0 mid wl got := by
  have h1 : w0.length ≠ 0 := by omega
  unfold ellS; rw [if_neg (by simp [hs]), if_neg (by simp [he]), if_neg hc, if_pos h1]
theorem ellS_go0 {w0 wl got : Str} {mid : List Str} (h : (w0.length : Int) = 0) (he : Txt.endswith got wl = true) (hc : ¬ (got.length : Int) - wl.length < 0) :
    (fpos got ((got.length : Int) - wl.length) (w0 :: mid) 0).isSome = ellS w0 mid wl got := by
  have h1 : w0.length = 0 := by omega
  unfold ellS; rw [if_neg (by simp [h1]), if_neg (by simp [he]), if_neg (by rw [h1]; exact hc), if_neg (by simp [h1]), h1]
  rfl
set_option maxHeartbeats 8000000 in
theorem ell2_spec (w : World) (mg mb : Str → Option Value) (want got w0 w1 : Str) (ta tb : Tok) (ha : want.length ≤ 40) (hb : got.length ≤ 40) (hw0 : w0.length ≤ 40) (hw1 : w1.length ≤ 40) (h1n : w1.length ≠ 0)
    (hin : (Builtin.Str.occurrences want (Str.ofString "...") 0 want.length 1).isEmpty = false) (hsp : Txt.split want (Str.ofString "...") = [w0, w1]) :
  SpecV w mg mb 35 1 [.str want ta, .str got tb] (fun _ => True) (fun _ => .bool (ellS w0 [] w1 got)) := by
  unfold SpecV
  k_fill
  intro dp un gd cn cs ad ccd cl outer A₀ base h₀ L m news s Q E B F X N T hk hpre hdp hun hret
  refine wpAny_call ?_
  k_dflt (((refine' enterR ?k1 ?k2 ?k3 ?k4 ?k5 ?kA ?kF ?kK ?k6 ?k7 ?k8 ?k9 ?kB ?_ ?c2 ?c3 ?c4 ?c5; (case kA => exact rfl); (case kF => exact rfl); (case kK => assumption); (case k1 => k_asm); (case k2 => k_asm); (case k3 => k_asm); (case k4 => k_asm); (case k5 => k_asm); (case k6 => k_is); (case k7 => k_is); (case k8 => ktr_room); (case k9 => exact BindsTo.of_eq rfl); (case c5 => decide); (case kB => exact locs rfl); (case c2 => exact rfl); (case c3 => exact rfl); (case c4 => exact rfl); k_whole; intro g' L' h' FG' F' N' B' X' T'; (try dsimp only); (try k_lift B'); (try k_fold))))
  k_steps
  unfold Stop
  refine KSpl.split1 (by k_asm) (by k_asm) (by rfl) ?_ (by rw [sizeLine_eq]; omega)
  intro D l h5 k5 e5 a5 F5 N5 l5
  rw [hsp] at e5
  obtain ⟨t0, l0, rfl, e6⟩ := KSpl.cons_of e5
  obtain ⟨t1, l1, rfl, e7⟩ := KSpl.cons_of e6
  obtain rfl := KSpl.nil_of e7
  simp only [strValues, List.map_cons, List.map_nil] at N5
  k_steps
  all_goals first
    | (exfalso; omega)
    | exact retV hret (eBool (ellS_ns (by assumption) (by assumption))) (by k_asm) (by (first | k_asm | (refine' news_sub ?nn ?ns; (case nn => assumption); (case ns => kcj_all))))
    | exact retV hret (eBool (ellS_ne (by assumption))) (by k_asm) (by (first | k_asm | (refine' news_sub ?nn ?ns; (case nn => assumption); (case ns => kcj_all))))
    | exact retV hret (eBool (ellS_cross (by omega))) (by k_asm) (by (first | k_asm | (refine' news_sub ?nn ?ns; (case nn => assumption); (case ns => kcj_all))))
    | skip
  · unfold Stop
    (rename Fr _ _ _ _ => F9)
    (rename News _ _ _ _ => N9)
    refine ell_loop w mg mb got hb [] (fun u hu => by simp at hu) [] _ (.nil) (w0.length : Int) ((got.length : Int) - w1.length) _ _ _ D _ _ _ _ _ _ _ _ _ _ _ _ _ _ _ _ _ _ (by assumption) (fr_name (x := Str.ofString "startpos") (fr_name (x := Str.ofString "endpos") (fr_name (x := Str.ofString "got") (fr_name (x := Str.ofString "ws") F9 rfl) rfl) rfl) rfl) (by assumption) N9 (List.mem_cons_of_mem _ (List.mem_cons_self ..)) (by assumption) hdp hun ?_ ?_
    · first | passes_own | with_unfolding_all passes_own
    · intro h7 tk7 m7 F7 N7
      k_steps
      exact retV hret (eBool (ellS_go1 (by assumption) (by assumption) (by assumption) (by assumption))) (by k_asm) (by (first | k_asm | (refine' news_sub ?nn ?ns; (case nn => assumption); (case ns => kcj_all))))
  · unfold Stop
    (rename Fr _ _ _ _ => F9)
    (rename News _ _ _ _ => N9)
    refine ell_loop w mg mb got hb [w0] (fun u hu => by simp at hu; rw [hu]; exact hw0) [.str w0 t0] _ (.cons _ _ .nil) 0 ((got.length : Int) - w1.length) _ _ _ D _ _ _ _ _ _ _ _ _ _ _ _ _ _ _ _ _ _ (by assumption) (fr_name (x := Str.ofString "startpos") (fr_name (x := Str.ofString "endpos") (fr_name (x := Str.ofString "got") (fr_name (x := Str.ofString "ws") F9 rfl) rfl) rfl) rfl) (by assumption) N9 (List.mem_cons_of_mem _ (List.mem_cons_self ..)) (by assumption) hdp hun ?_ ?_
    · first | passes_own | with_unfolding_all passes_own
    · intro h7 tk7 m7 F7 N7
      k_steps
      exact retV hret (eBool (ellS_go0 (by assumption) (by assumption) (by assumption))) (by k_asm) (by (first | k_asm | (refine' news_sub ?nn ?ns; (case nn => assumption); (case ns => kcj_all))))
set_option maxHeartbeats 8000000 in
theorem ell3_spec (w : World) (mg mb : Str → Option Value) (want got w0 w1 w2 : Str) (ta tb : Tok) (ha : want.length ≤ 40) (hb : got.length ≤ 40) (hw0 : w0.length ≤ 40) (hw1 : w1.length ≤ 40) (hw2 : w2.length ≤ 40) (h1n : w2.length ≠ 0)
    (hin : (Builtin.Str.occurrences want (Str.ofString "...") 0 want.length 1).isEmpty = false) (hsp : Txt.split want (Str.ofString "...") = [w0, w1, w2]) :
  SpecV w mg mb 35 1 [.str want ta, .str got tb] (fun _ => True) (fun _ => .bool (ellS w0 [w1] w2 got)) := by
  unfold SpecV
  k_fill
  intro dp un gd cn cs ad ccd cl outer A₀ base h₀ L m news s Q E B F X N T hk hpre hdp hun hret
  refine wpAny_call ?_
  k_dflt (((refine' enterR ?k1 ?k2 ?k3 ?k4 ?k5 ?kA ?kF ?kK ?k6 ?k7 ?k8 ?k9 ?kB ?_ ?c2 ?c3 ?c4 ?c5; (case kA => exact rfl); (case kF => exact rfl); (case kK => assumption); (case k1 => k_asm); (case k2 => k_asm); (case k3 => k_asm); (case k4 => k_asm); (case k5 => k_asm); (case k6 => k_is); (case k7 => k_is); (case k8 => ktr_room); (case k9 => exact BindsTo.of_eq rfl); (case c5 => decide); (case kB => exact locs rfl); (case c2 => exact rfl); (case c3 => exact rfl); (case c4 => exact rfl); k_whole; intro g' L' h' FG' F' N' B' X' T'; (try dsimp only); (try k_lift B'); (try k_fold))))
  k_steps
  unfold Stop
  refine KSpl.split1 (by k_asm) (by k_asm) (by rfl) ?_ (by rw [sizeLine_eq]; omega)
  intro D l h5 k5 e5 a5 F5 N5 l5
  rw [hsp] at e5
  obtain ⟨t0, l0, rfl, e6⟩ := KSpl.cons_of e5
  obtain ⟨t1, l1, rfl, e7⟩ := KSpl.cons_of e6
  obtain ⟨t2, l2, rfl, e8⟩ := KSpl.cons_of e7
  obtain rfl := KSpl.nil_of e8
  simp only [strValues, List.map_cons, List.map_nil] at N5
  k_steps
  all_goals first
    | (exfalso; omega)
    | exact retV hret (eBool (ellS_ns (by assumption) (by assumption))) (by k_asm) (by (first | k_asm | (refine' news_sub ?nn ?ns; (case nn => assumption); (case ns => kcj_all))))
    | exact retV hret (eBool (ellS_ne (by assumption))) (by k_asm) (by (first | k_asm | (refine' news_sub ?nn ?ns; (case nn => assumption); (case ns => kcj_all))))
    | exact retV hret (eBool (ellS_cross (by omega))) (by k_asm) (by (first | k_asm | (refine' news_sub ?nn ?ns; (case nn => assumption); (case ns => kcj_all))))
    | skip
  · unfold Stop
    (rename Fr _ _ _ _ => F9)
    (rename News _ _ _ _ => N9)
    refine ell_loop w mg mb got hb [w1] (fun u hu => by simp at hu; rw [hu]; exact hw1) [.str w1 t1] _ (.cons _ _ .nil) (w0.length : Int) ((got.length : Int) - w2.length) _ _ _ D _ _ _ _ _ _ _ _ _ _ _ _ _ _ _ _ _ _ (by assumption) (fr_name (x := Str.ofString "startpos") (fr_name (x := Str.ofString "endpos") (fr_name (x := Str.ofString "got") (fr_name (x := Str.ofString "ws") F9 rfl) rfl) rfl) rfl) (by assumption) N9 (List.mem_cons_of_mem _ (List.mem_cons_self ..)) (by assumption) hdp hun ?_ ?_
    · first | passes_own | with_unfolding_all passes_own
    · intro h7 tk7 m7 F7 N7
      k_steps
      exact retV hret (eBool (ellS_go1 (by assumption) (by assumption) (by assumption) (by assumption))) (by k_asm) (by (first | k_asm | (refine' news_sub ?nn ?ns; (case nn => assumption); (case ns => kcj_all))))
  · unfold Stop
    (rename Fr _ _ _ _ => F9)
    (rename News _ _ _ _ => N9)
    refine ell_loop w mg mb got hb [w0, w1] (fun u hu => by simp at hu; rcases hu with rfl | rfl <;> assumption) [.str w0 t0, .str w1 t1] _ (.cons _ _ (.cons _ _ .nil)) 0 ((got.length : Int) - w2.length) _ _ _ D _ _ _ _ _ _ _ _ _ _ _ _ _ _ _ _ _ _ (by assumption) (fr_name (x := Str.ofString "startpos") (fr_name (x := Str.ofString "endpos") (fr_name (x := Str.ofString "got") (fr_name (x := Str.ofString "ws") F9 rfl) rfl) rfl) rfl) (by assumption) N9 (List.mem_cons_of_mem _ (List.mem_cons_self ..)) (by assumption) hdp hun ?_ ?_
    · first | passes_own | with_unfolding_all passes_own
    · intro h7 tk7 m7 F7 N7
      k_steps
      exact retV hret (eBool (ellS_go0 (by assumption) (by assumption) (by assumption))) (by k_asm) (by (first | k_asm | (refine' news_sub ?nn ?ns; (case nn => assumption); (case ns => kcj_all))))
end Mine
end
section
open PySem PySem.W PyProof.Rows
set_option maxRecDepth 100000
namespace Mine
section
variable {prog : Program} {w : World} {A : Around} {E : Value → Shared → Prop} {s : Shared}
theorem nextT_item {it t : Addr} {i : Nat} {items} {x : Value} {Q : Value → Shared → Prop} (hit : s.heap.IsTupleIter it t i) (ht : s.heap.IsTuple t items) (hx : items[i]? = some x)
    (hQ : ∀ h', h'.IsTupleIter it t (i + 1) → Heap.SameBut it s.heap h' → Q x { s with heap := h' }) : wpAny (model prog w) A (Builtin.SmallTypes.nextOf (.ref it)) Q E s := by
  obtain ⟨o, ho, hc, hd⟩ := id hit
  obtain ⟨ol, hol, _, nl, hdl⟩ := ht
  unfold Builtin.SmallTypes.nextOf
  refine wpAny_bind (wpAny_callSpecial?_slot (name := Str.ofString "__next__") hit.typeIs F.slot_tuple_iterator_next
    (wpAny_call_entry F.slot_tuple_iterator_next hit.typeIs F.entry_tuple_iterator_next ?_ (F.args_tuple_iterator_next_1 _)))
  show wpAny _ _ (field (.ref it) 0 >>= _) _ _ s
  refine wpAny_bind (wpAny_field ho hd (x := .ref t) rfl ?_)
  show wpAny _ _ (if (Value.ref t == Value.none) = true then _ else _) _ _ s
  rw [if_neg (show ¬ ((Value.ref t == Value.none) = true) from Bool.false_ne_true)]
  show wpAny _ _ (field (.ref it) 1 >>= _) _ _ s
  refine wpAny_bind (wpAny_field ho hd (x := .int i 0) rfl ?_)
  show wpAny _ _ (seqItems? (.ref t) >>= _) _ _ s
  refine wpAny_bind (wpAny_seqItems hol hdl ?_)
  simp only [Int.toNat_natCast, hx]
  refine wpAny_bind (wpAny_setField ho hd (by simp) (wpAny_pure ⟨x, rfl, wpAny_pure (hQ _ ?_ (Heap.SameBut.update ..))⟩))
  exact ⟨_, Heap.get?_update_self _ ho (Obj.isFreed_of_fields (Obj.data_mapFields hd _)), (Obj.cls_mapFields ..).trans hc, by rw [Obj.data_mapFields hd]; simp [rawInt]⟩
theorem nextT_end {it t : Addr} {i : Nat} {items} {Q : Value → Shared → Prop} (hh : A.handled = none) (hit : s.heap.IsTupleIter it t i) (ht : s.heap.IsTuple t items) (hx : items[i]? = none)
    (hE : ∀ h' e, Heap.ExtBut it s.heap h' → (∃ o, h'.get? e = some o ∧ o.cls = .type "StopIteration") → E (.ref e) { s with heap := h' }) : wpAny (model prog w) A (Builtin.SmallTypes.nextOf (.ref it)) Q E s := by
  obtain ⟨o, ho, hc, hd⟩ := id hit
  obtain ⟨ol, hol, _, nl, hdl⟩ := ht
  unfold Builtin.SmallTypes.nextOf
  refine wpAny_bind (wpAny_callSpecial?_slot (name := Str.ofString "__next__") hit.typeIs F.slot_tuple_iterator_next
    (wpAny_call_entry F.slot_tuple_iterator_next hit.typeIs F.entry_tuple_iterator_next ?_ (F.args_tuple_iterator_next_1 _)))
  show wpAny _ _ (field (.ref it) 0 >>= _) _ _ s
  refine wpAny_bind (wpAny_field ho hd (x := .ref t) rfl ?_)
  show wpAny _ _ (if (Value.ref t == Value.none) = true then _ else _) _ _ s
  rw [if_neg (show ¬ ((Value.ref t == Value.none) = true) from Bool.false_ne_true)]
  show wpAny _ _ (field (.ref it) 1 >>= _) _ _ s
  refine wpAny_bind (wpAny_field ho hd (x := .int i 0) rfl ?_)
  show wpAny _ _ (seqItems? (.ref t) >>= _) _ _ s
  refine wpAny_bind (wpAny_seqItems hol hdl ?_)
  simp only [Int.toNat_natCast, hx]
  refine wpAny_bind (wpAny_rule (wpAny_bind (wpAny_setField ho hd (by simp) ?_)))
  show wpAny _ _ (newExc (.type "StopIteration") [] >>= _) _ _ _
  refine wpAny_bind ?_
  simp only [newExc, newTuple]
  refine wpAny_bind (wpAny_newObj_type ?_ (by size_fits))
  refine wpAny_bind (m := firstArgMember _ _) (wpAny_of_eq (a := Value.none) (by first | rfl | (simp only [firstArgMember]; rfl)) ?_)
  refine wpAny_newObj_type ?_ (by size_fits)
  simp only [raiseNew]
  refine wpAny_bind (wpAny_handled ?_)
  first | rw [show A.in1.handled = none from hh] | rw [hh]
  refine wpAny_bind (wpAny_pure (wpAny_throw ?_))
  exact hE _ _ (((Heap.SameBut.update ..).extBut.push _).push _) ⟨_, Heap.get?_push_size _ rfl, rfl⟩
end
theorem tupAt {h h' : Heap} {a t : Addr} {i : Nat} (x : h.IsTupleIter a t i) (k : ∀ o, h.get? a = some o → h'.get? a = some o) : h'.IsTupleIter a t i := let ⟨o, ho, r⟩ := x; ⟨o, k o ho, r⟩
theorem tupAt' {h h' : Heap} {a : Addr} {it : Array Value} (x : h.IsTuple a it) (k : ∀ o, h.get? a = some o → h'.get? a = some o) : h'.IsTuple a it := let ⟨o, ho, r⟩ := x; ⟨o, k o ho, r⟩
theorem drawsTup {prog : Program} {w : World} {A : Around} (hh : A.handled = none) (it l : Addr) (hne : l ≠ it) (items : Array Value) :
    Draws prog w A it [it, l] items.size (fun i v => items[i]? = some v) (fun i h => h.IsTupleIter it l i ∧ h.IsTuple l items) where
  live := fun _ _ st => let ⟨o, ho, _⟩ := st.1; ⟨o, ho⟩
  frame := fun _ _ _ st hk => ⟨tupAt st.1 fun o e => hk it (by simp) o e, tupAt' st.2 fun o e => hk l (by simp) o e⟩
  item := fun i s Q E hi st hQ => nextT_item st.1 st.2 (x := items[i]) (by simp [hi]) fun h' hit' hs' => hQ _ h' s.toks (by simp [hi]) ⟨hit', st.2.extBut hs'.extBut hne⟩ hs'
  done := fun s Q E st hE => nextT_end hh st.1 st.2 (by simp) hE
section
variable {prog : Program} {w : World} {A : Around} {E : Value → Shared → Prop} {s : Shared} {z TI TO i1 i2 : Addr} {fp1 fp2 : List Addr} {n : Nat} {P1 P2 : Nat → Value → Prop} {S1 S2 : Nat → Heap → Prop}
/-- the places that a zip of two drawers writes are apart from what each drawer reads -/
structure ZA (z TI TO i1 i2 : Addr) (fp1 fp2 : List Addr) : Prop where
  TIz : TI ≠ z
  TOz : TO ≠ z
  TITO : TI ≠ TO
  TIi1 : TI ≠ i1
  TIi2 : TI ≠ i2
  i1z : i1 ≠ z
  i2z : i2 ≠ z
  i1TO : i1 ≠ TO
  i2TO : i2 ≠ TO
  f1 : ∀ b ∈ fp1, b ≠ z ∧ b ≠ TO ∧ b ≠ i2
  f2 : ∀ b ∈ fp2, b ≠ z ∧ b ≠ TO ∧ b ≠ i1
theorem zipD_item {i : Nat} {a b : Value} {Q : Value → Shared → Prop} (D1 : Draws prog w A.in1 i1 fp1 n P1 S1) (D2 : Draws prog w A.in1 i2 fp2 n P2 S2) (Z : ZA z TI TO i1 i2 fp1 fp2) (hlt : i < n)
    (hz : IsZip s.heap z TI TO .none) (hTI : IsPair s.heap TI (.ref i1) (.ref i2)) (hTO : IsPair s.heap TO a b) (h1 : S1 i s.heap) (h2 : S2 i s.heap)
    (hQ : ∀ x y h' tk, P1 i x → P2 i y → IsZip h' z TI TO (rawInt s.heap.objs.size) → IsPair h' TO x y → S1 (i + 1) h' → S2 (i + 1) h' → IsPair h' s.heap.objs.size x y →
      (∀ c o, c ≠ z → c ≠ TO → c ≠ i1 → c ≠ i2 → s.heap.get? c = some o → h'.get? c = some o) → Q (.ref s.heap.objs.size) { s with heap := h', toks := tk }) :
    wpAny (model prog w) A.in1 (Builtin.«zip.__next__» ⟨[.ref z], []⟩) (fun fin s' => ∃ v, fin = .done (.ret v) ∧ Q v s') E s := by
  show wpAny _ _ (field (.ref z) 2 >>= _) _ _ _
  refine wpAny_bind (wpAny_field hz rfl (x := .bool false) rfl ?_)
  show wpAny _ _ (field (.ref z) 3 >>= _) _ _ _
  refine wpAny_bind (wpAny_field hz rfl (x := .ref TI) rfl ?_)
  refine wpAny_bind (wpAny_seqItems hTI rfl ?_)
  show wpAny _ _ (Builtin.SmallTypes.ownedTupleIsFree (.ref z) >>= _) _ _ _
  refine wpAny_bind ?_
  unfold Builtin.SmallTypes.ownedTupleIsFree
  refine wpAny_bind (wpAny_field hz rfl (x := .none) rfl (wpAny_pure ?_))
  simp only [if_true]
  refine wpAny_bind (wpAny_rule ?_)
  refine wpAny_bind (wpAny_field hz rfl (x := .ref TO) rfl ?_)
  refine wpAny_bind (wpAny_setField_rec hz (by simp) fun h₁ hz₁ hs₁ => ?_)
  replace hz₁ : IsZip h₁ z TI TO .ellipsis := hz₁
  refine wpAny_bind ?_
  simp only [List.zipIdx_cons, List.zipIdx_nil, List.forIn_cons, List.forIn_nil]
  refine wpAny_bind (wpAny_bind (wpAny_onRaise ?_))
  show wpAny _ _ (Builtin.SmallTypes.nextOf (.ref i1) >>= _) _ _ _
  refine wpAny_bind (D1.item i _ _ _ hlt (D1.frame _ _ _ h1 fun b hb o e => hs₁.extBut _ _ (Z.f1 b hb).1 e) fun x h₂ tk₂ hx h1₂ hs₂ => wpAny_pure ?_)
  replace hs₂ : Heap.SameBut i1 h₁ h₂ := hs₂
  have hTO₂ : IsPair h₂ TO a b := hs₂.extBut _ _ Z.i1TO.symm (hs₁.extBut _ _ Z.TOz hTO)
  refine wpAny_bind (wpAny_seqItems hTO₂ rfl ?_)
  refine wpAny_bind (wpAny_updateSeq_pair hTO₂ fun h₃ hTO₃ hs₃ => ?_)
  replace hTO₃ : IsPair h₃ TO x b := hTO₃
  replace hs₃ : Heap.SameBut TO h₂ h₃ := hs₃
  refine wpAny_bind (wpAny_letGo (wpAny_pure ?_))
  refine wpAny_bind (wpAny_bind (wpAny_onRaise ?_))
  show wpAny _ _ (Builtin.SmallTypes.nextOf (.ref i2) >>= _) _ _ _
  refine wpAny_bind (D2.item i _ _ _ hlt (D2.frame _ _ _ h2 fun b hb o e => hs₃.extBut _ _ (Z.f2 b hb).2.1 (hs₂.extBut _ _ (Z.f2 b hb).2.2 (hs₁.extBut _ _ (Z.f2 b hb).1 e))) fun y h₄ tk₄ hy h2₄ hs₄ => wpAny_pure ?_)
  replace hs₄ : Heap.SameBut i2 h₃ h₄ := hs₄
  have hTO₄ : IsPair h₄ TO x b := hs₄.extBut _ _ Z.i2TO.symm hTO₃
  refine wpAny_bind (wpAny_seqItems hTO₄ rfl ?_)
  refine wpAny_bind (wpAny_updateSeq_pair hTO₄ fun h₅ hTO₅ hs₅ => ?_)
  replace hTO₅ : IsPair h₅ TO x y := hTO₅
  replace hs₅ : Heap.SameBut TO h₄ h₅ := hs₅
  refine wpAny_bind (wpAny_letGo (wpAny_pure (wpAny_pure ?_)))
  refine wpAny_bind (wpAny_seqItems hTO₅ rfl ?_)
  refine wpAny_bind (wpAny_newTuple ?_)
  have hsz : h₅.objs.size = s.heap.objs.size := by rw [hs₅.1, hs₄.1, hs₃.1, hs₂.1, hs₁.1]
  have hz₅ : IsZip h₅ z TI TO .ellipsis := hs₅.extBut _ _ Z.TOz.symm (hs₄.extBut _ _ Z.i2z.symm (hs₃.extBut _ _ Z.TOz.symm (hs₂.extBut _ _ Z.i1z.symm hz₁)))
  have hk₅ : ∀ c o, c ≠ z → c ≠ TO → c ≠ i1 → c ≠ i2 → s.heap.get? c = some o → h₅.get? c = some o := fun c o c1 c2 c3 c4 e =>
    hs₅.extBut _ _ c2 (hs₄.extBut _ _ c4 (hs₃.extBut _ _ c2 (hs₂.extBut _ _ c3 (hs₁.extBut _ _ c1 e))))
  have h1₅ : S1 (i + 1) h₅ := D1.frame _ _ _ h1₂ fun b hb o e => hs₅.extBut _ _ (Z.f1 b hb).2.1 (hs₄.extBut _ _ (Z.f1 b hb).2.2 (hs₃.extBut _ _ (Z.f1 b hb).2.1 e))
  have h2₅ : S2 (i + 1) h₅ := D2.frame _ _ _ h2₄ fun b hb o e => hs₅.extBut _ _ (Z.f2 b hb).2.1 e
  have hzlt : z < h₅.objs.size := Heap.lt_size hz₅
  show wpAny _ _ (Builtin.SmallTypes.ownedTupleHandOut (.ref z) (.ref h₅.objs.size) >>= _) _ _ _
  refine wpAny_bind ?_
  unfold Builtin.SmallTypes.ownedTupleHandOut
  have hz₆ : IsZip (h₅.push { cls := .type "tuple", data := .seq #[x, y] }) z TI TO .ellipsis := Heap.get?_push_of_some _ hz₅
  refine wpAny_bind (wpAny_setField_rec hz₆ (by simp) fun h₇ hz₇ hs₇ => ?_)
  replace hz₇ : IsZip h₇ z TI TO (rawInt h₅.objs.size) := hz₇
  refine wpAny_setField_rec hz₇ (by simp) fun h₈ hz₈ hs₈ => ?_
  replace hz₈ : IsZip h₈ z TI TO (rawInt h₅.objs.size) := hz₈
  have up : ∀ c o, c ≠ z → h₅.get? c = some o → h₈.get? c = some o := fun c o c1 e => hs₈.extBut _ _ c1 (hs₇.extBut _ _ c1 (Heap.get?_push_of_some _ e))
  have hT₈ : IsPair h₈ h₅.objs.size x y := hs₈.extBut _ _ (Nat.ne_of_gt hzlt) (hs₇.extBut _ _ (Nat.ne_of_gt hzlt) (Heap.get?_push_size _ rfl))
  rw [hsz] at hz₈ hT₈
  refine wpAny_pure ⟨_, rfl, ?_⟩
  show Q (.ref h₅.objs.size) _
  rw [hsz]
  exact hQ x y h₈ _ hx hy hz₈ (up _ _ Z.TOz hTO₅) (D1.frame _ _ _ h1₅ fun b hb o e => up b o (Z.f1 b hb).1 e) (D2.frame _ _ _ h2₅ fun b hb o e => up b o (Z.f2 b hb).1 e) hT₈ fun c o c1 c2 c3 c4 e => up c o c1 (hk₅ c o c1 c2 c3 c4 e)
theorem zipD_end {Q : Fin → Shared → Prop} (D1 : Draws prog w A.in1 i1 fp1 n P1 S1) (Z : ZA z TI TO i1 i2 fp1 fp2)
    (hz : IsZip s.heap z TI TO .none) (hTI : IsPair s.heap TI (.ref i1) (.ref i2)) (h1 : S1 n s.heap)
    (hE : ∀ h' e, (∀ c o, c ≠ z → c ≠ TO → c ≠ i1 → c ≠ i2 → s.heap.get? c = some o → h'.get? c = some o) → (∃ o, h'.get? e = some o ∧ o.cls = .type "StopIteration") → E (.ref e) { s with heap := h' }) :
    wpAny (model prog w) A.in1 (Builtin.«zip.__next__» ⟨[.ref z], []⟩) Q E s := by
  show wpAny _ _ (field (.ref z) 2 >>= _) _ _ _
  refine wpAny_bind (wpAny_field hz rfl (x := .bool false) rfl ?_)
  show wpAny _ _ (field (.ref z) 3 >>= _) _ _ _
  refine wpAny_bind (wpAny_field hz rfl (x := .ref TI) rfl ?_)
  refine wpAny_bind (wpAny_seqItems hTI rfl ?_)
  show wpAny _ _ (Builtin.SmallTypes.ownedTupleIsFree (.ref z) >>= _) _ _ _
  refine wpAny_bind ?_
  unfold Builtin.SmallTypes.ownedTupleIsFree
  refine wpAny_bind (wpAny_field hz rfl (x := .none) rfl (wpAny_pure ?_))
  simp only [if_true]
  refine wpAny_bind (wpAny_rule ?_)
  refine wpAny_bind (wpAny_field hz rfl (x := .ref TO) rfl ?_)
  refine wpAny_bind (wpAny_setField_rec hz (by simp) fun h₁ hz₁ hs₁ => ?_)
  replace hz₁ : IsZip h₁ z TI TO .ellipsis := hz₁
  refine wpAny_bind ?_
  simp only [List.zipIdx_cons, List.zipIdx_nil, List.forIn_cons, List.forIn_nil]
  refine wpAny_bind (wpAny_bind (wpAny_onRaise ?_))
  show wpAny _ _ (Builtin.SmallTypes.nextOf (.ref i1) >>= _) _ _ _
  refine wpAny_bind (D1.done _ _ _ (D1.frame _ _ _ h1 fun b hb o e => hs₁.extBut _ _ (Z.f1 b hb).1 e) fun h₂ e hs₂ he => ?_)
  obtain ⟨oe, hoe, hce⟩ := he
  have hz₂ : IsZip h₂ z TI TO .ellipsis := hs₂ _ _ Z.i1z.symm hz₁
  have hez : e ≠ z := fun x => by subst x; rw [hz₂] at hoe; cases hoe; simp at hce
  refine wpAny_setField_rec hz₂ (by simp) fun h₃ _ hs₃ => hE h₃ e (fun c o c1 _ c3 _ x => hs₃.extBut _ _ c1 (hs₂ _ _ c3 (hs₁.extBut _ _ c1 x))) ⟨oe, hs₃.extBut _ _ hez hoe, hce⟩
theorem zipD_walk {fp1 fp2 : List Addr} (D1 : Draws prog w A.in1 i1 fp1 n P1 S1) (D2 : Draws prog w A.in1 i2 fp2 n P2 S2) (Z : ZA z TI TO i1 i2 fp1 fp2) :
    WalksT prog w A z (z :: TI :: TO :: i1 :: i2 :: (fp1 ++ fp2)) [z, TO, i1, i2] n (fun i vals => ∃ x y, P1 i x ∧ P2 i y ∧ vals = #[x, y])
      (fun i h => IsZip h z TI TO .none ∧ IsPair h TI (.ref i1) (.ref i2) ∧ (∃ a b, IsPair h TO a b) ∧ S1 i h ∧ S2 i h)
      (fun i T h => IsZip h z TI TO (rawInt T) ∧ IsPair h TI (.ref i1) (.ref i2) ∧ (∃ a b, IsPair h TO a b) ∧ S1 (i + 1) h ∧ S2 (i + 1) h ∧ T ≠ z ∧ T ≠ TO ∧ T ≠ i1 ∧ T ≠ i2) where
  sub := fun c hc => by simp at hc ⊢; rcases hc with rfl | rfl | rfl | rfl <;> simp
  frame := fun i h h' hst hk => by
    obtain ⟨hz, hTI, ⟨a, b, hTO⟩, h1, h2⟩ := hst
    exact ⟨hk z (by simp) _ hz, hk TI (by simp) _ hTI, ⟨a, b, hk TO (by simp) _ hTO⟩, D1.frame _ _ _ h1 fun b hb o e => hk b (by simp [hb]) o e, D2.frame _ _ _ h2 fun b hb o e => hk b (by simp [hb]) o e⟩
  item := fun i s Q E hi hst hQ => by
    obtain ⟨hz, hTI, ⟨a, b, hTO⟩, h1, h2⟩ := hst
    have hT : s.TypeIs (.ref z) "zip" := ⟨_, hz, rfl⟩
    have lt : ∀ {c o}, s.heap.get? c = some o → s.heap.objs.size ≠ c := fun e => Nat.ne_of_gt (Heap.lt_size e)
    unfold pyNext
    exact wpAny_bind (wpAny_attempt (wpAny_callSpecial?_slot (name := Str.ofString "__next__") hT F.slot_zip_next
      (wpAny_call_entry F.slot_zip_next hT F.entry_zip_next
        (zipD_item D1 D2 Z hi hz hTI hTO h1 h2 fun x y h' tk hx hy a1 a2 a3 a4 a5 hk => wpAny_pure (hQ s.heap.objs.size #[x, y] h' tk ⟨x, y, hx, hy, rfl⟩ (Nat.le_refl _) ⟨_, a5, rfl, _, rfl⟩
          ⟨a1, hk _ _ Z.TIz Z.TITO Z.TIi1 Z.TIi2 hTI, ⟨_, _, a2⟩, a3, a4, lt hz, lt hTO, (by obtain ⟨_, e⟩ := D1.live _ _ h1; exact lt e), (by obtain ⟨_, e⟩ := D2.live _ _ h2; exact lt e)⟩
          fun c o hc e => hk c o (fun x => hc (by simp [x])) (fun x => hc (by simp [x])) (fun x => hc (by simp [x])) (fun x => hc (by simp [x])) e)) (F.args_zip_next_1 _))))
  go := fun elts k pos i T s Q E hm hQ => by
    obtain ⟨hz, hTI, ⟨a, b, hTO⟩, h1, h2, _⟩ := hm
    refine wpAny_letOwnedTupleGo_zip hz fun h' hz' hs' => hQ h' ⟨hz', hs'.extBut _ _ Z.TIz hTI, ⟨a, b, hs'.extBut _ _ Z.TOz hTO⟩, D1.frame _ _ _ h1 fun b hb o e => hs'.extBut _ _ (Z.f1 b hb).1 e, D2.frame _ _ _ h2 fun b hb o e => hs'.extBut _ _ (Z.f2 b hb).1 e⟩ fun c o hc e => hs'.extBut _ _ (fun x => hc (by simp [x])) e
  apart := fun i T h hm hT => by
    obtain ⟨_, _, _, _, _, t1, t2, t3, t4⟩ := hm
    simp at hT
    rcases hT with rfl | rfl | rfl | rfl
    · exact t1 rfl
    · exact t2 rfl
    · exact t3 rfl
    · exact t4 rfl
  done := fun s Q E hst hQ => by
    obtain ⟨hz, hTI, ⟨a, b, hTO⟩, h1, h2⟩ := hst
    have hT : s.TypeIs (.ref z) "zip" := ⟨_, hz, rfl⟩
    unfold pyNext
    refine wpAny_bind (wpAny_attempt (wpAny_callSpecial?_slot (name := Str.ofString "__next__") hT F.slot_zip_next
      (wpAny_call_entry F.slot_zip_next hT F.entry_zip_next (zipD_end D1 Z hz hTI h1 fun h' e hk he => ?_) (F.args_zip_next_1 _))))
    obtain ⟨o, ho, hc⟩ := he
    refine wpAny_bind (wpAny_isInstance (T := "StopIteration") (b := true) ⟨o, ho, hc⟩ isSubtype_stop ?_)
    exact wpAny_pure (hQ _ _ fun c o hc e => hk c o (fun x => hc (by simp [x])) (fun x => hc (by simp [x])) (fun x => hc (by simp [x])) (fun x => hc (by simp [x])) e)
  self := fun i s Q E hst hQ => wpAny_pyIter_zip hst.1 hQ
end
noncomputable abbrev zH1 (h : Heap) (l1 : Addr) : Heap := h.push { cls := .type "tuple_iterator", data := .fields #[.ref l1, .int 0 0] }
noncomputable abbrev zH2 (h : Heap) (l1 l2 : Addr) : Heap := (zH1 h l1).push { cls := .type "tuple_iterator", data := .fields #[.ref l2, .int 0 0] }
noncomputable abbrev zH3 (h : Heap) (l1 l2 : Addr) : Heap := (zH2 h l1 l2).push { cls := .type "tuple", data := .seq #[.ref h.objs.size, .ref (zH1 h l1).objs.size] }
noncomputable abbrev zH4 (h : Heap) (l1 l2 : Addr) : Heap := (zH3 h l1 l2).push { cls := .type "tuple", data := .seq #[.none, .none] }
noncomputable abbrev zH5 (h : Heap) (l1 l2 : Addr) : Heap := (zH4 h l1 l2).push { cls := .type "zip", data := .fields #[.none, .bool false, .bool false, .ref (zH2 h l1 l2).objs.size, .ref (zH3 h l1 l2).objs.size] }
theorem meets_zipT (l1 l2 : Addr) (xs ys : Array Value) :
    Meets (Builtin.«zip.__new__» ⟨[.type "zip", .ref l1, .ref l2], []⟩) (fun _ R s => s.heap.IsTuple l1 xs ∧ s.heap.IsTuple l2 ys ∧ R (.ok (.ret (.ref (zH4 s.heap l1 l2).objs.size))) { s with heap := zH5 s.heap l1 l2 }) :=
  .of_wp fun prog w A R s h => by
    obtain ⟨hp, g, d, tk, os⟩ := s; obtain ⟨hl1, hl2, h⟩ := h
    have hsub := sub_zip
    have hL1 : Heap.IsTuple (Shared.heap ⟨hp, g, d, tk, os⟩) l1 xs := hl1
    have hL2 : Heap.IsTuple (Shared.heap ⟨hp.push { cls := .type "tuple_iterator", data := .fields #[.ref l1, .int 0 0] }, g, d, tk, os⟩) l2 ys := Heap.IsTuple.push hl2 _
    wp_walk using wpAny_pyIter_tuple hL1, wpAny_pyIter_tuple hL2
    exact ⟨_, rfl, h⟩
section
variable {prog : Program} {w : World} {A : Around} {E : Value → Shared → Prop} {s : Shared}
theorem call_zipT {l1 l2 : Addr} {xs ys : Array Value} {Q : Value → Shared → Prop} (hl1 : s.heap.IsTuple l1 xs) (hl2 : s.heap.IsTuple l2 ys)
    (h : ∀ h', IsZip h' (s.heap.objs.size + 4) (s.heap.objs.size + 2) (s.heap.objs.size + 3) .none → IsPair h' (s.heap.objs.size + 2) (.ref s.heap.objs.size) (.ref (s.heap.objs.size + 1)) →
      IsPair h' (s.heap.objs.size + 3) .none .none → h'.IsTupleIter s.heap.objs.size l1 0 → h'.IsTupleIter (s.heap.objs.size + 1) l2 0 → h'.objs.size = s.heap.objs.size + 5 →
      (∀ c o, s.heap.get? c = some o → h'.get? c = some o) → Q (.ref (s.heap.objs.size + 4)) { s with heap := h' }) :
    wpAny (model prog w) A (call (.type "zip") [.ref l1, .ref l2]) Q E s := by
  refine callType_new F.called_zip (by decide) (F.typeCall_zip_2 _ _) (F.newCall_zip_2 _ _) (fun obj => F.args_object_init_3 obj _ _) F.entry_zip_new
    (meets_zipT l1 l2 xs ys) ⟨hl1, hl2, ?_⟩
  have z1 : (zH1 s.heap l1).objs.size = s.heap.objs.size + 1 := Heap.size_push ..
  have z2 : (zH2 s.heap l1 l2).objs.size = s.heap.objs.size + 2 := by rw [Heap.size_push, z1]
  have z3 : (zH3 s.heap l1 l2).objs.size = s.heap.objs.size + 3 := by rw [Heap.size_push, z2]
  have z4 : (zH4 s.heap l1 l2).objs.size = s.heap.objs.size + 4 := by rw [Heap.size_push, z3]
  have z5 : (zH5 s.heap l1 l2).objs.size = s.heap.objs.size + 5 := by rw [Heap.size_push, z4]
  have g5 : (zH5 s.heap l1 l2).get? (zH4 s.heap l1 l2).objs.size = some _ := Heap.get?_push_size _ rfl
  have g4 : (zH5 s.heap l1 l2).get? (zH3 s.heap l1 l2).objs.size = some _ := Heap.get?_push_of_some _ (Heap.get?_push_size _ rfl)
  have g3 : (zH5 s.heap l1 l2).get? (zH2 s.heap l1 l2).objs.size = some _ := Heap.get?_push_of_some _ (Heap.get?_push_of_some _ (Heap.get?_push_size _ rfl))
  have g2 : (zH5 s.heap l1 l2).get? (zH1 s.heap l1).objs.size = some _ := Heap.get?_push_of_some _ (Heap.get?_push_of_some _ (Heap.get?_push_of_some _ (Heap.get?_push_size _ rfl)))
  have g1 : (zH5 s.heap l1 l2).get? s.heap.objs.size = some _ := Heap.get?_push_of_some _ (Heap.get?_push_of_some _ (Heap.get?_push_of_some _ (Heap.get?_push_of_some _ (Heap.get?_push_size _ rfl))))
  show _ ∧ _
  rw [z2, z3, z4] at g5
  rw [z1, z2] at g3
  rw [z3] at g4
  rw [z1] at g2
  rw [z4]
  exact ⟨⟨_, g5, rfl⟩, h _ g5 g3 g4 ⟨_, g1, rfl, rfl⟩ ⟨_, g2, rfl, rfl⟩ z5 fun c o x =>
    Heap.get?_push_of_some _ (Heap.get?_push_of_some _ (Heap.get?_push_of_some _ (Heap.get?_push_of_some _ (Heap.get?_push_of_some _ x))))⟩
end
end Mine
end
section
open PySem PySem.W PyProof.Rows
set_option maxRecDepth 100000
namespace Mine
theorem ltA {a b : Addr} (h : a < b) : Nat.lt a b := h
theorem zaNew {I t1 t2 : Nat} (h1 : t1 < I) (h2 : t2 < I) : ZA (I + 4) (I + 2) (I + 3) I (I + 1) [I, t1] [I + 1, t2] := by
  refine ⟨?_, ?_, ?_, ?_, ?_, ?_, ?_, ?_, ?_, ?_, ?_⟩
  iterate 9 (show (_ : Nat) ≠ _; omega)
  · intro b hb
    have hb' : b = I ∨ b = t1 := by simpa using hb
    rcases hb' with rfl | rfl <;> exact ⟨by show (_ : Nat) ≠ _; omega, by show (_ : Nat) ≠ _; omega, by show (_ : Nat) ≠ _; omega⟩
  · intro b hb
    have hb' : b = I + 1 ∨ b = t2 := by simpa using hb
    rcases hb' with rfl | rfl <;> exact ⟨by show (_ : Nat) ≠ _; omega, by show (_ : Nat) ≠ _; omega, by show (_ : Nat) ≠ _; omega⟩
theorem zaLt {I t1 t2 n b : Nat} (h1 : t1 < I) (h2 : t2 < I) (hn : I + 5 ≤ n) (hb : b ∈ ((I + 4) :: (I + 2) :: (I + 3) :: I :: (I + 1) :: ([I, t1] ++ [I + 1, t2]))) : b < n := by
  simp at hb
  omega
theorem zaWr {c I : Nat} (h : c < I) : c ∉ [I + 4, I + 3, I, I + 1] := by
  simp; omega
theorem zaW5 {b I n : Nat} (h : b < I) (hn : I + 5 ≤ n) : b ∉ (n :: [I + 4, I + 3, I, I + 1]) := by
  simp; omega
theorem zaBig {P I : Nat} (h : P < I) (k : Nat) : I + k ≠ P := by omega
noncomputable abbrev oTup (acc : Array Value) : Obj := { cls := .type "tuple", data := .seq acc }
/-- a generator at a that is still whole: its n values are told by Fy, and what its walk writes is none of the frame's, the base's or the ledger's -/
noncomputable def GenT (prog : Program) (w : World) (A : Around) (h₀ : Heap) (L : Addr) (news : List (Addr × Obj)) (a : Addr) (n : Nat) (Fy : Nat → Value → Prop) (s : Shared) : Prop :=
  ∃ fp wr g St, WalksS prog w A.in4 a fp wr (GenOnlyQ g) n Fy St ∧ St 0 s ∧ (∀ i s', St i s' → s'.TypeIs (.ref a) "generator") ∧ a ∈ fp ∧ (∀ b ∈ fp, b < s.heap.objs.size) ∧
    (L ∉ wr ∧ (∀ b o, h₀.get? b = some o → b ∉ wr) ∧ ∀ p ∈ news, p.1 ∉ wr)
section
variable {prog : Program} {w : World} {A : Around} {E : Value → Shared → Prop} {s : Shared} {h₀ : Heap} {L : Addr} {m : Str → Option Value} {news : List (Addr × Obj)}
theorem tupGen {a : Addr} {n : Nat} {Fy : Nat → Value → Prop} {Q : Value → Shared → Prop} (F : Fr h₀ L s.heap m) (N : News h₀ L s.heap news) (G : AllBare s.gens) (X : GenT prog w A h₀ L news a n Fy s) (hn : n ≤ 64)
    (hQ : ∀ D acc h' tk' g', Fr h₀ L h' m → News h₀ L h' ((D, oTup acc) :: news) → (∀ p ∈ news, p.1 < D) → AllBare g' → ItemsOf Fy acc n → Q (.ref D) { s with heap := h', toks := tk', gens := g' }) :
    wpAny (model prog w) A (call (.type "tuple") [.ref a]) Q E s := by
  obtain ⟨fp, wr, g, St, W, hst, hT, hI, hfp, hL, hb, hnw⟩ := X
  refine call_tuple_gen (hsz := Nat.le_trans hn (by rw [sizeLine_eq]; omega)) W.in4_3 hT hst hfp hI fun s' acc hm hacc => ?_
  obtain ⟨hp', g', d', tk', os'⟩ := s'
  obtain ⟨hk, hg, hdr, hos, htk⟩ := hm
  simp only at hk hg hdr hos htk
  subst hdr hos
  have F₁ : Fr h₀ L hp' m := ⟨F.ns.at' fun o e => hk _ o hL e, fun b o e => hk b o (hb b o e) (F.keep b o e), F.above⟩
  have N₁ : News h₀ L hp' news := fun p hp => ⟨hk _ _ (hnw p hp) (N p hp).1, (N p hp).2⟩
  exact hQ hp'.objs.size acc _ tk' g' (F₁.push _) (News.push F₁ N₁ (oTup acc)) (fun p hp => Heap.lt_size (N₁ p hp).1) (G.moved hg) hacc
theorem keepsUpd {P : Addr} {o : Obj} {g : Obj → List (Addr × Obj)} (U : UpdF P o news g) : (P, o) ∈ news ∧ ∀ o', (P, o') ∈ g o' ∧ ∀ p ∈ g o', p = (P, o') ∨ (p ∈ news ∧ p.1 ≠ P) := by
  obtain ⟨pre, post, rfl, hg, h1, h2⟩ := U.split
  refine ⟨by simp, fun o' => ?_⟩
  rw [hg]
  refine ⟨by simp, fun p hp => ?_⟩
  rcases List.mem_append.mp hp with hp | hp
  · exact .inr ⟨by simp [hp], h1 p hp⟩
  · rcases List.mem_cons.mp hp with rfl | hp
    · exact .inl rfl
    · exact .inr ⟨by simp [hp], h2 p hp⟩
theorem genZip {env : Env} {iter : Expr} {pa pb pt pi pj pe : Pos} {kt : Nat} {scope : Scope} {pos : Pos} {Q : Value → Shared → Prop} {xa xb : Str} {t1 t2 c P bm : Addr} {ob : Obj} {mg : Str → Option Value} {x0 x1 x2 y0 y1 y2 : Int} {k0 k1 k2 k3 k4 k5 : Tok} {ps : Array Value} {g : Obj → List (Addr × Obj)}
    (F : Fr h₀ L s.heap m) (N : News h₀ L s.heap news) (G : AllBare s.gens) (U : UpdF P (tabObj ps) news g) (ht : TriplesOk ps.toList) (C : CodeHd h₀ c P) (hcode : env.code = .ref c) (B : BMod h₀ env.globals mg bm ob) (hlim : h₀.NoLimit)
    (hm1 : (t1, oTup #[.int x0 k0, .int x1 k1, .int x2 k2]) ∈ news) (hm2 : (t2, oTup #[.int y0 k3, .int y1 k4, .int y2 k5]) ∈ news)
    (hh : A.handled = none) (hco : scope.isCoroutine = false) (hclos : closureFor scope env = pure []) (hcell : ∀ y ∈ scope.names, y.2 ≠ .cell) (h0 : scope.names.lookup (".0" : Str) = some NameKind.local)
    (hxa : scope.names.lookup xa = some .local) (hxb : scope.names.lookup xb = some .local) (hab : xa ≠ xb) (hda : (xa == ("__debug__" : Str)) = false) (hdb : (xb == ("__debug__" : Str)) = false) (hkind : scope.kind = .function) (hroom : A.depth < recursionLimit)
    (hs : ∀ x, genFold iter env x = pure x)
    (hiter : ∀ Qz : Value → Shared → Prop, (∀ tk, wpAny (model prog w) A (call (.type "zip") [.ref t1, .ref t2]) Qz E { s with toks := tk }) → wpAny (model prog w) A (eval iter env) Qz E s)
    (hQ : ∀ a h' tk' g' ps', Fr h₀ L h' m → News h₀ L h' (g (tabObj ps')) → TriplesOk ps'.toList → AllBare g' →
      GenT prog w A h₀ L (g (tabObj ps')) a 3 (fun j y => ∃ i, (passing (fun _ => true) 3 0)[j]? = some i ∧ ∃ t, y = .int (match i with | 0 => x0 + y0 | 1 => x1 + y1 | _ => x2 + y2) t) { s with heap := h', toks := tk', gens := g' } → Q (.ref a) { s with heap := h', toks := tk', gens := g' }) :
    wpAny (model prog w) A (eval (.GeneratorExp (.BinOp (.Name xa pi) .Add (.Name xb pj) pe) [⟨.Tuple [.Name xa pa, .Name xb pb] kt pt, iter, [], 0⟩] scope pos) env) Q E s := by
  have hK := keepsUpd U
  refine wpAny_GeneratorExp_walksQTD hh hco hclos hcell h0 hxa hxb hab hkind hroom (hiter _ fun tk0 => ?_) hs
  have ht1 : s.heap.IsTuple t1 #[.int x0 k0, .int x1 k1, .int x2 k2] := ⟨_, (N _ hm1).1, rfl, 0, rfl⟩
  have ht2 : s.heap.IsTuple t2 #[.int y0 k3, .int y1 k4, .int y2 k5] := ⟨_, (N _ hm2).1, rfl, 0, rfl⟩
  refine call_zipT (s := { s with toks := tk0 }) ht1 ht2 fun h₂ hz hTI hTO hi1 hi2 hsz₂ hk₂ => ?_
  have hne1 : t1 < s.heap.objs.size := Heap.lt_size (N _ hm1).1
  have hne2 : t2 < s.heap.objs.size := Heap.lt_size (N _ hm2).1
  dsimp only at hz hTI hTO hi1 hi2 hsz₂ hk₂ ⊢
  have hI : ∃ I₀, I₀ = s.heap.objs.size := ⟨_, rfl⟩
  obtain ⟨I₀, hI⟩ := hI
  rw [← hI] at hz hTI hTO hi1 hi2 hsz₂ hne1 hne2 ⊢
  refine wpAny_pyIter_zip hz ?_
  have hlim₁ : s.heap.NoLimit := hlim.keeps F.keep
  have hlim₂ : h₂.NoLimit := hlim₁.keeps hk₂
  have F₂ : Fr h₀ L h₂ m := F.keeps hk₂
  have hLI : L < I₀ := hI ▸ F.ns.lt
  have hP₂ : h₂.get? P = some (tabObj ps) := hk₂ _ _ (N _ hK.1).1
  have hltP : P < I₀ := hI ▸ Heap.lt_size (N _ hK.1).1
  have hPL : P ≠ L := (N _ hK.1).2.1
  have hP₀ : h₀.get? P = none := (N _ hK.1).2.2
  have C₂ : CodeHd h₂ c P := C.keeps F₂.keep
  have M₂ : BMod h₂ env.globals mg bm ob := B.keeps F₂.keep
  have hcP : cStatics ≠ P := fun e => by
    obtain ⟨_, hns, _⟩ := hlim₂
    obtain ⟨o, es, ep, ho, hd, _⟩ := hns
    rw [e, hP₂] at ho; cases ho; cases hd
  have hcI : cStatics < I₀ := by
    obtain ⟨_, hns, _⟩ := hlim₁
    exact hI ▸ hns.lt
  have ht1P : t1 ≠ P := fun e => by
    have e1 := (N _ hm1).1
    have e2 := (N _ hK.1).1
    simp only [e] at e1
    rw [e2] at e1; cases e1
  have ht2P : t2 ≠ P := fun e => by
    have e1 := (N _ hm2).1
    have e2 := (N _ hK.1).1
    simp only [e] at e1
    rw [e2] at e1; cases e1
  refine ⟨hlim₂, ?_⟩
  have go : ∀ (code : Value) (h₃ : Heap) (tk₃ : Nat) (ps' : Array Value), Heap.ExtBut P h₂ h₃ → h₃.get? P = some (tabObj ps') → TriplesOk ps'.toList → h₂.objs.size ≤ h₃.objs.size →
      wpAny (model prog w) A (builtinsFor env.globals env.builtins) (fun bi s₄ =>
        ∃ I fp wr n₀ Pt St₀ Mid pz F, Value.ref (I₀ + 4) = .ref I ∧ (∀ A' : Around, A'.handled = none → WalksU prog w A' I fp wr n₀ Pt St₀ Mid) ∧ (∀ i vals, Pt i vals → ∃ va vb, vals = #[va, vb]) ∧ St₀ 0 s₄.heap ∧ (∀ b ∈ fp, b < s₄.heap.objs.size) ∧ s₄.heap.NoLimit ∧ cStatics ∉ wr ∧
          (∀ href : Heap, (∀ b o, s₄.heap.get? b = some o → href.get? b = some o) →
            QuietGenTD prog w (genEnv scope [] s₄.heap.objs.size code bi env) xa xb [] (.BinOp (.Name xa pi) .Add (.Name xb pj) pe) (List.range s₄.heap.objs.size) wr Pt pz F href (A.depth + 1) (A.units + 8)) ∧
          (∀ a h₅ tk gs, gs.bare = true → s₄.heap.objs.size < a → h₅.objs.size = a + 1 → (∀ b o, s₄.heap.get? b = some o → h₅.get? b = some o) →
            WalksS prog w A.in4 a (a :: s₄.heap.objs.size :: List.range s₄.heap.objs.size) (s₄.heap.objs.size :: wr) (GenOnlyQ s₄.gens.size) (passing pz n₀ 0).length
              (fun j y => ∃ i, (passing pz n₀ 0)[j]? = some i ∧ F i y) (GenAt prog w A.in4 a s₄.gens.size s₄.heap.objs.size (List.range s₄.heap.objs.size) wr pz n₀ F) →
            GenAt prog w A.in4 a s₄.gens.size s₄.heap.objs.size (List.range s₄.heap.objs.size) wr pz n₀ F 0 { s₄ with gens := s₄.gens.push gs, toks := tk, heap := h₅ } →
            Q (.ref a) { s₄ with gens := s₄.gens.push gs, toks := tk, heap := h₅ })) E { s with heap := h₃, toks := tk₃ } := by
    intro code h₃ tk₃ ps' hx₃ hP₃ ht₃ hsz₃
    have M₃ : BMod h₃ env.globals mg bm ob := M₂.extBut (C₂.tab hP₂) hx₃
    refine wpAny_builtinsFor M₃.ns M₃.name M₃.ne M₃.obj M₃.cls M₃.dict M₃.data ?_
    have up : ∀ b o, b ≠ P → h₂.get? b = some o → h₃.get? b = some o := fun b o hb e => hx₃ b o hb e
    have big : ∀ k, I₀ + k ≠ P := zaBig hltP
    have D1 : ∀ A' : Around, A'.handled = none → Draws prog w A'.in1 I₀ [I₀, t1] 3 (fun i v => (#[Value.int x0 k0, .int x1 k1, .int x2 k2] : Array Value)[i]? = some v) (fun i h => h.IsTupleIter I₀ t1 i ∧ h.IsTuple t1 #[.int x0 k0, .int x1 k1, .int x2 k2]) := fun A' hA => drawsTup (A := A'.in1) hA I₀ t1 (Nat.ne_of_lt hne1) #[Value.int x0 k0, .int x1 k1, .int x2 k2]
    have D2 : ∀ A' : Around, A'.handled = none → Draws prog w A'.in1 (I₀ + 1) [I₀ + 1, t2] 3 (fun i v => (#[Value.int y0 k3, .int y1 k4, .int y2 k5] : Array Value)[i]? = some v) (fun i h => h.IsTupleIter (I₀ + 1) t2 i ∧ h.IsTuple t2 #[.int y0 k3, .int y1 k4, .int y2 k5]) := fun A' hA => drawsTup (A := A'.in1) hA (I₀ + 1) t2 (Nat.ne_of_lt (Nat.lt_succ_of_lt hne2)) #[Value.int y0 k3, .int y1 k4, .int y2 k5]
    have Z : ZA (I₀ + 4) (I₀ + 2) (I₀ + 3) I₀ (I₀ + 1) [I₀, t1] [I₀ + 1, t2] := zaNew hne1 hne2
    have hszI : I₀ + 5 ≤ h₃.objs.size := hsz₂ ▸ hsz₃
    refine ⟨I₀ + 4, _, _, 3, _, _, _, fun _ => true, fun i y => ∃ t, y = .int (match i with | 0 => x0 + y0 | 1 => x1 + y1 | _ => x2 + y2) t, rfl, (fun A' hA => (zipD_walk (D1 A' hA) (D2 A' hA) Z).toU), ?_, ?_, ?_, hlim₂.extBut hx₃ hcP, ?_, ?_, ?_⟩
    · rintro i vals ⟨x, y, _, _, rfl⟩; exact ⟨x, y, rfl⟩
    · exact ⟨up _ _ (big 4) hz, up _ _ (big 2) hTI, ⟨_, _, up _ _ (big 3) hTO⟩, ⟨tupAt hi1 fun o e => up _ o (big 0) e, tupAt' ht1 fun o e => up _ o ht1P (hk₂ _ _ e)⟩, ⟨tupAt hi2 fun o e => up _ o (big 1) e, tupAt' ht2 fun o e => up _ o ht2P (hk₂ _ _ e)⟩⟩
    · intro b hb
      show b < h₃.objs.size
      exact zaLt hne1 hne2 hszI hb
    · exact zaWr hcI
    · intro href _
      refine ⟨fun A' E' i va vb s₂ m₂ _ _ _ _ _ _ _ _ => ?_, fun A' E' i va vb s₂ m₂ _ _ _ hPt _ hn hma hmb _ => ?_⟩
      · simp only [List.forIn_nil]
        exact wpAny_pure ⟨rfl, _, _, rfl, fun _ _ e => e⟩
      · obtain ⟨x, y, hx, hy, he⟩ := hPt
        have e1 : va = x := by injection he with he; injection he
        have e2 : vb = y := by injection he with he; injection he with _ he; injection he
        subst e1 e2
        refine wpAny_BinOp (wpAny_Name (wpAny_loadName_local hkind hxa hn hma ?_) hda)
        refine wpAny_Name (wpAny_loadName_local hkind hxb hn hmb ?_) hdb
        rcases i with _ | _ | _ | i
        · cases hx; cases hy
          exact add_int ⟨⟨_, rfl⟩, _, _, rfl, fun _ _ e => e⟩
        · cases hx; cases hy
          exact add_int ⟨⟨_, rfl⟩, _, _, rfl, fun _ _ e => e⟩
        · cases hx; cases hy
          exact add_int ⟨⟨_, rfl⟩, _, _, rfl, fun _ _ e => e⟩
        · simp at hx
    · intro a h₅ tk gs hgb hag hsz₅ hk₅ W hat
      have F₅ : Fr h₀ L h₅ m := ⟨F₂.ns.at' fun o e => hk₅ _ _ (up _ o (Ne.symm hPL) e), fun b o e => hk₅ _ _ (up b o (fun q => by rw [q, hP₀] at e; cases e) (F₂.keep b o e)), F.above⟩
      have N₅ : News h₀ L h₅ (g (tabObj ps')) := fun p hp => by
        rcases (hK.2 (tabObj ps')).2 p hp with rfl | ⟨hp, hne⟩
        · exact ⟨hk₅ _ _ hP₃, hPL, hP₀⟩
        · exact ⟨hk₅ _ _ (up _ _ hne (hk₂ _ _ (N p hp).1)), (N p hp).2⟩
      have low : ∀ p ∈ g (tabObj ps'), p.1 < I₀ := fun p hp => by
        rcases (hK.2 (tabObj ps')).2 p hp with rfl | ⟨hp, _⟩
        · exact hltP
        · exact hI ▸ Heap.lt_size (N p hp).1
      have hw : ∀ b, b < I₀ → b ∉ (h₃.objs.size :: [I₀ + 4, I₀ + 3, I₀, I₀ + 1]) := fun b hb => zaW5 hb hszI
      refine hQ a h₅ tk _ ps' F₅ N₅ ht₃ (G.push hgb) ⟨_, _, _, _, W, hat, (fun i s' st => st.1.typeIs), List.mem_cons_self, ?_, hw _ hLI, fun b o e => hw _ (Nat.lt_trans (Nat.lt_of_lt_of_le (Heap.lt_size e) F.above) hLI), fun p hp => hw _ (low p hp)⟩
      intro b hb
      show b < h₅.objs.size
      rw [hsz₅]
      rcases List.mem_cons.mp hb with rfl | hb
      · exact Nat.lt_succ_self _
      · rcases List.mem_cons.mp hb with rfl | hb
        · exact Nat.lt_succ_of_lt hag
        · exact Nat.lt_succ_of_lt (Nat.lt_trans (List.mem_range.mp hb) hag)
  cases hf : codeAmong pos ps.toList with
  | some c' => exact wpAny_genexprCode_hit hcode (C₂.code hP₂ ht) hf (go c' h₂ tk0 ps (Heap.ExtBut.refl _ _) hP₂ ht (Nat.le_refl _))
  | none =>
    refine wpAny_genexprCodeX hcode (C₂.code hP₂ ht) (C₂.tab hP₂) hf fun c' h₃ tk₃ hx₃ hge hlt hcode₃ _ htab₃ _ => ?_
    have ht₃ : TriplesOk (ps ++ #[rawInt pos.line, rawInt pos.col, .ref c']).toList := by
      obtain ⟨_, _, _, _, _, _, _, _, _, op, _, _, _, _, _, _, _, e1, e2, e3, _⟩ := hcode₃
      exact e3
    exact go (.ref c') h₃ tk₃ _ hx₃ htab₃.2 ht₃ (Nat.le_trans hge (Nat.le_of_lt hlt))
end
end Mine
end
section
open PySem PySem.W PyProof.Rows
set_option maxRecDepth 100000
namespace Mine
theorem code55 (P : Params) : codeHdIn (hd.heap_1 P) 55 51 = true := by first | rfl | kernel_rfl
theorem tab55 (P : Params) : tabIn (hd.heap_1 P) "add_callers" = some (55, 51) := by first | rfl | kernel_rfl
theorem noTabs39 (P : Params) : noTabs (hd.heap_1 P) = true := by first | rfl | decide +kernel
/-- the table of nested code of add_callers, which its generator expression grows -/
noncomputable abbrev tabA : Addr := 51
noncomputable def SpecG (w : World) (mg mb : Str → Option Value) (f : Addr) (dep : Nat) (vs : List Value) (Pre : Led → Prop) (Out : Led → Value → Prop) : Prop :=
  ∀ (dp un : Nat) (gd : Option (List Code)) (cn : Str) (cs : Scope) (a : Addr) (ccd : Value) (cl : List (Str × Addr)) (outer : List Env) (A₀ : Around) (base h₀ : Heap) (L : Addr) (m : Str → Option Value) (news : Led) (s : Shared) (Q E : Value → Shared → Prop) (ps : Array Value) (bm : Addr) (ob : Obj),
    Below A₀ base outer h₀ → Fr h₀ L s.heap m → (hd.heap_1 w.params).In h₀ → News h₀ L s.heap ((tabA, tabObj ps) :: news) → TopR mg mb h₀ → BMod h₀ mainGlobals mg bm ob → cs.kind = .function → Pre news → (∀ p ∈ news, p.1 ≠ tabA) → TriplesOk ps.toList → AllBare s.gens → dp + dep < recursionLimit → un + 8 * dep + 100 < cLine →
    (∀ r tl h' tk' g' ps', Fr h₀ L h' m → News h₀ L h' (tl ++ (tabA, tabObj ps') :: news) → (∀ q ∈ tl, q.1 ≠ tabA ∧ ∀ p ∈ news, p.1 < q.1) → TriplesOk ps'.toList → AllBare g' → Out tl r → Q r { s with heap := h', toks := tk', gens := g' }) →
    wpAny (model Challenge.rw_pe0143_01.row.prog w) (ktrTop dp un gd cn cs L a ccd cl outer) (call (.ref f) vs) Q E s
section
variable {prog : Program} {w : World} {A : Around} {E : Value → Shared → Prop} {s : Shared} {env : Env} {h₀ : Heap} {target : Expr} {body : List Stmt} {Q : Flow → Shared → Prop}
/-- the turn's end: the frame, the ledger and the generators may have changed -/
noncomputable def GEnd (h₀ : Heap) (L : Addr) (wr : List Addr) (own : Led) (J : (Str → Option Value) → Led → Prop) (s : Shared) (f : Flow) (s' : Shared) : Prop :=
  f = .next ∧ ∃ h' tk g' m' news', s' = { s with heap := h', toks := tk, gens := g' } ∧ AllBare g' ∧ Fr h₀ L h' m' ∧ News h₀ L h' (own ++ news') ∧ (∀ p ∈ news', p.1 ∉ wr) ∧ J m' news'
noncomputable def TurnsG (prog : Program) (w : World) (A : Around) (h₀ : Heap) (env : Env) (target : Expr) (body : List Stmt) (Q : Flow → Shared → Prop) (E : Value → Shared → Prop) (it : Value) (s₀ : Shared) : Prop :=
  ∃ (I : Addr) (fp wr : List Addr) (n : Nat) (P Md : Nat → Value → Heap → Prop) (St : Nat → Heap → Prop) (m : Str → Option Value) (news : Led) (J : Nat → (Str → Option Value) → Led → Prop),
    it = .ref I ∧ KTurns prog w A target I fp wr n P Md St ∧ env.locals ∉ fp ∧ (∀ b ∈ wr, h₀.get? b = none) ∧ (∀ p ∈ news, p.1 ∉ wr) ∧ St 0 s₀.heap ∧ Fr h₀ env.locals s₀.heap m ∧ News h₀ env.locals s₀.heap news ∧ AllBare s₀.gens ∧ J 0 m news ∧
    (∀ i v m₁ news₁ h₁ tk₁ g₁ own, i < n → P i v h₁ → J i m₁ news₁ → (∀ p ∈ news₁, p.1 ∉ wr) → (∀ p ∈ own, p.1 ∈ fp) → (∀ b ∈ fp, h₀.get? b = none → ∀ o, h₁.get? b = some o → (b, o) ∈ own) → St (i + 1) h₁ →
      Fr h₀ env.locals h₁ m₁ → News h₀ env.locals h₁ (own ++ news₁) → AllBare g₁ →
      wpAny (model prog w) A (assign target env v) (fun _ s₂ => wpAny (model prog w) A (execs body env) (GEnd h₀ env.locals wr own (J (i + 1)) { s₀ with heap := h₁, toks := tk₁, gens := g₁ }) E s₂) E { s₀ with heap := h₁, toks := tk₁, gens := g₁ }) ∧
    (∀ h' tk g' m' news', Fr h₀ env.locals h' m' → News h₀ env.locals h' news' → AllBare g' → J n m' news' → Q .next { s₀ with heap := h', toks := tk, gens := g' })
theorem forG {iter : Expr} {pos : Pos} {m₀ : Str → Option Value} (_F : Fr h₀ env.locals s.heap m₀)
    (h : wpAny (model prog w) A (eval iter env) (fun xv s₁ => wpAny (model prog w) A (pyIter xv) (fun it s₂ => TurnsG prog w A h₀ env target body Q E it s₂) E s₁) E s)
    (hs : ∀ x, foldedSetIterable iter env x = pure x := by intro _; rfl) (hE : PassesOwn (model prog w) A env E := by passes_own) :
    wpAny (model prog w) A (exec (.For target iter body [] pos) env) Q E s := by
  refine wpAny_For (wpAny_mono h (fun xv s₁ h₁ => wpAny_mono h₁ (fun it s₀ h₂ => ?_) fun _ _ e => e) fun _ _ e => e) hs
  obtain ⟨I, fp, wr, n, P, Md, St, m, news, J, rfl, W, hLf, hwr, hnw, hst, F, N, hg, h0, step, hQ⟩ := h₂
  have hLw : env.locals ∉ wr := fun h => hLf (W.sub _ h)
  have old : ∀ b o, h₀.get? b = some o → b ∉ wr := fun b o e hb => by rw [hwr b hb] at e; cases e
  refine codeAny_forLoop_any (R := fun r s' => match r with | .ok f => Q f s' | .error e => cameBackBy (model prog w) A env E e s')
    (fun k s' => ∃ h' tk g' m' news' i, s' = { s₀ with heap := h', toks := tk, gens := g' } ∧ AllBare g' ∧ St i h' ∧ Fr h₀ env.locals h' m' ∧ News h₀ env.locals h' news' ∧ (∀ p ∈ news', p.1 ∉ wr) ∧ J i m' news' ∧ i ≤ n ∧ k = n + 1 - i) ?_ (n + 1)
    ⟨s₀.heap, s₀.toks, s₀.gens, m, news, 0, rfl, hg, hst, F, N, hnw, h0, Nat.zero_le _, rfl⟩
  rintro k s' ⟨h', tk, g', m', news', i, rfl, hg', hst', F', N', hnw', hJ, hi, rfl⟩
  have next : ∀ h₁ : Heap, (∀ b o, b ∉ wr → h'.get? b = some o → h₁.get? b = some o) → Fr h₀ env.locals h₁ m' ∧ News h₀ env.locals h₁ news' := fun h₁ hk₁ =>
    ⟨⟨F'.ns.at' fun o e => hk₁ _ o hLw e, fun b o e => hk₁ b o (old b o e) (F'.keep b o e), F'.above⟩, fun p hp => ⟨hk₁ _ _ (hnw' p hp) (N' p hp).1, (N' p hp).2⟩⟩
  by_cases hlt : i < n
  · refine W.item i _ _ _ hlt hst' fun v h₁ tk₁ hMd hk₁ => ?_
    refine W.go i v _ _ _ hMd fun h₂ hP hst₂ hk₂ => ?_
    obtain ⟨F₂, N₂⟩ := next h₂ fun b o hb x => hk₂ b o hb (hk₁ b o hb x)
    have Nown : News h₀ env.locals h₂ (PyProof.Rows.ownOf h₀ fp h₂) := news_ownOf hLf
    refine wpAny_mono (step i v m' news' h₂ tk₁ g' (PyProof.Rows.ownOf h₀ fp h₂) hlt hP hJ hnw' ownOf_sub (fun b hb hn o e => mem_ownOf hb hn e) hst₂ F₂ (Nown.append N₂) hg') (fun _ s₂ h₂' => wpAny_passesOwn hE (wpAny_mono h₂' (fun f s₃ h₃ => ?_) fun _ _ e => e)) hE
    obtain ⟨rfl, h₃', tk₃, g₃, m₂, news₂, rfl, hg₃, F₃, N₃, ha₃, hJ₃⟩ := h₃
    refine ⟨n + 1 - (i + 1), turnLess (by assumption), h₃', tk₃, g₃, m₂, news₂, i + 1, rfl, hg₃, ?_, F₃, N₃.right, ha₃, hJ₃, hlt, rfl⟩
    refine W.frame _ _ _ hst₂ fun b hb o e => ?_
    cases hn : h₀.get? b with
    | some o₀ =>
      have : o₀ = o := by have q := F₂.keep b o₀ hn; rw [e] at q; exact (Option.some.inj q).symm
      exact this ▸ F₃.keep b o₀ hn
    | none => exact (N₃ _ (List.mem_append_left _ (mem_ownOf hb hn e))).1
  · have hin : i = n := by omega
    subst hin
    refine W.done _ _ _ hst' fun h₁ tk₁ hk₁ => wpAny_execs_nil ?_
    obtain ⟨F₁, N₁⟩ := next h₁ hk₁
    exact hQ h₁ tk₁ g' m' news' F₁ N₁ hg' hJ
/-- the end of the one turn over a dict of one entry, and what comes behind the loop -/
noncomputable def GItem (h₀ : Heap) (L : Addr) (s : Shared) (q : Addr × Obj) (dq : Addr × Obj) (Q : Flow → Shared → Prop) (f : Flow) (s' : Shared) : Prop :=
  f = .next ∧ ∃ h' tk g' m' news', s' = { s with heap := h', toks := tk, gens := g' } ∧ AllBare g' ∧ Fr h₀ L h' m' ∧ News h₀ L h' (q :: news') ∧ dq ∈ news' ∧ (∀ p ∈ news', p.1 ≠ q.1) ∧
    ∀ h'' tk'' g'', Fr h₀ L h'' m' → News h₀ L h'' news' → AllBare g'' → Q .next { s with heap := h'', toks := tk'', gens := g'' }
theorem GItem.intro {L : Addr} {q dq : Addr × Obj} {h' : Heap} {tk : Nat} {g' : Array GenState} {m' : Str → Option Value} {news' : Led} (G : AllBare g') (F : Fr h₀ L h' m') (N : News h₀ L h' (q :: news')) (hd : dq ∈ news') (off : ∀ p ∈ news', p.1 ≠ q.1)
    (h : ∀ h'' tk'' g'', Fr h₀ L h'' m' → News h₀ L h'' news' → AllBare g'' → Q .next { s with heap := h'', toks := tk'', gens := g'' }) : GItem h₀ L s q dq Q .next { s with heap := h', toks := tk, gens := g' } :=
  ⟨rfl, h', tk, g', m', news', rfl, G, F, N, hd, off, h⟩
theorem itemsG1 {elts : List Expr} {kk : Nat} {pos : Pos} {d vw : Addr} {od : Obj} {k : Int} {x : Value} {m₀ : Str → Option Value} {news : Led}
    (hh : A.handled = none) (F : Fr h₀ env.locals s.heap m₀) (N : News h₀ env.locals s.heap news) (hvw : ∃ ov, s.heap.get? vw = some ov ∧ ov.cls = .type "dict_items" ∧ ov.data = .fields #[.ref d]) (hm : (d, od) ∈ news) (hd : od.IsDictOf (intKind prog w) [(k, x)]) (G : AllBare s.gens)
    (turn : ∀ I T t h tk g₁ o', (∀ p ∈ news, p.1 < I) → IsTup h T #[.int k t, x] → Fr h₀ env.locals h m₀ → News h₀ env.locals h ((I, o') :: news) → AllBare g₁ →
      wpAny (model prog w) A (assign (.Tuple elts kk pos) env (.ref T)) (fun _ s₂ => wpAny (model prog w) A (execs body env) (GItem h₀ env.locals s (I, o') (d, od) Q) E s₂) E { s with heap := h, toks := tk, gens := g₁ }) :
    wpAny (model prog w) A (pyIter (.ref vw)) (fun it s₂ => TurnsG prog w A h₀ env (.Tuple elts kk pos) body Q E it s₂) E s := by
  have hax := N _ hm
  obtain ⟨ep, hat⟩ := (kda_dict N hm hd).dictAt
  have hne : d ≠ s.heap.objs.size := Nat.ne_of_lt hat.lt_size
  refine wpAny_pyIter_items hvw hat ?_
  have low : ∀ p ∈ news, p.1 < s.heap.objs.size := fun p hp => Heap.lt_size (N p hp).1
  have hLs : env.locals < s.heap.objs.size := F.ns.lt
  generalize hI : s.heap.objs.size = I at *
  let J : Nat → (Str → Option Value) → Led → Prop := fun i m₁ news₁ => match i with
    | 0 => m₁ = m₀ ∧ news₁ = news
    | _ => ∀ h'' tk'' g'', Fr h₀ env.locals h'' m₁ → News h₀ env.locals h'' news₁ → AllBare g'' → Q .next { s with heap := h'', toks := tk'', gens := g'' }
  refine ⟨I, _, _, _, _, _, _, m₀, news, J, rfl, kti_itemsTurns (knd := intKind prog w) hh I d hne [(k, x)] ep, ?_, ?_, ?_, ⟨⟨.none, .none, by rw [← hI]; exact Heap.get?_push_size _ rfl⟩, hat.push _⟩, F.push _, (fun p hp => ⟨Heap.get?_push_of_some _ (N p hp).1, (N p hp).2⟩), G, ⟨rfl, rfl⟩, ?_, ?_⟩
  · intro hm'
    have hb' : env.locals = I ∨ env.locals = d := by simpa using hm'
    rcases hb' with e | e
    · exact Nat.ne_of_lt hLs e
    · exact hax.2.1 e.symm
  · intro b hb
    rw [List.mem_singleton.mp hb, ← hI]
    exact next_is_new F
  · intro p hp hI'
    exact Nat.ne_of_lt (low p hp) (List.mem_singleton.mp hI')
  · rintro i v m₁ news₁ h₁ tk₁ g₁ own hin ⟨T, key, k', x', rfl, hx, hkey, hT⟩ hJ hoff hown hall hst F₁ N₁ hg₁
    have hi0 : i = 0 := by simpa using hin
    subst hi0
    obtain ⟨rfl, rfl⟩ := hJ
    have hx' : k' = k ∧ x' = x := by simpa [eq_comm] using hx
    obtain ⟨rfl, rfl⟩ := hx'
    obtain ⟨t, rfl⟩ := Value.isInt_shape hkey
    obtain ⟨⟨ok, ov, he⟩, _⟩ := hst
    have hdn : h₁.get? d = some od := (N₁ _ (List.mem_append_right _ hm)).1
    have hIn : h₀.get? I = none := by rw [← hI]; exact next_is_new F
    have N₂ : ∀ oI, h₁.get? I = some oI → News h₀ env.locals h₁ ((I, oI) :: news₁) := fun oI e p hp => by
      rcases List.mem_cons.mp hp with rfl | hp
      · exact ⟨e, Nat.ne_of_gt hLs, hIn⟩
      · exact N₁ p (List.mem_append_right _ hp)
    refine wpAny_mono (turn I T t h₁ tk₁ g₁ _ low hT F₁ (N₂ _ he) hg₁) (fun _ s₂ h₂ => wpAny_mono h₂ (fun f s₃ h₃ => ?_) fun _ _ e => e) fun _ _ e => e
    obtain ⟨rfl, h', tk, g', m', news', rfl, hg', F', N', hdm, hoff', hk⟩ := h₃
    refine ⟨rfl, h', tk, g', m', news', rfl, hg', F', fun p hp => ?_, fun p hp q => hoff' p hp (List.mem_singleton.mp q), hk⟩
    rcases List.mem_append.mp hp with hp | hp
    · have hb' : p.1 = I ∨ p.1 = d := by simpa using hown p hp
      have e1 := (N₁ p (List.mem_append_left _ hp)).1
      obtain ⟨pa, po⟩ := p
      simp only at hb' e1
      rcases hb' with e | e
      · subst e
        rw [he] at e1
        cases e1
        exact N' _ (List.mem_cons_self ..)
      · subst e
        rw [hdn] at e1
        cases e1
        exact N' _ (List.mem_cons_of_mem _ hdm)
    · exact N' p (List.mem_cons_of_mem _ hp)
  · intro h' tk g' m' news' F' N' hg' hJ
    exact hJ h' tk g' F' N' hg'
end
end Mine
end
section
open PySem PySem.W PyProof.Rows
set_option maxRecDepth 100000
namespace Mine
theorem accOf {acc : Array Value} {a b c : Int} (h : ItemsOf (fun j y => ∃ i, (passing (fun _ => true) 3 0)[j]? = some i ∧ ∃ t, y = .int (match i with | 0 => a | 1 => b | _ => c) t) acc 3) : ∃ t0 t1 t2, acc = #[.int a t0, .int b t1, .int c t2] := by
  obtain ⟨hs, hv⟩ := h
  have e0 : acc[0]? = some acc[0] := by simp [hs]
  have e1 : acc[1]? = some acc[1] := by simp [hs]
  have e2 : acc[2]? = some acc[2] := by simp [hs]
  have hp : passing (fun _ => true) 3 0 = [0, 1, 2] := by decide
  obtain ⟨i0, p0, t0, v0⟩ := hv 0 _ e0
  obtain ⟨i1, p1, t1, v1⟩ := hv 1 _ e1
  obtain ⟨i2, p2, t2, v2⟩ := hv 2 _ e2
  rw [hp] at p0 p1 p2
  cases p0; cases p1; cases p2
  refine ⟨t0, t1, t2, ?_⟩
  apply Array.ext
  · simp [hs]
  · intro i hi _
    rw [hs] at hi
    match i, hi with
    | 0, _ => exact v0
    | 1, _ => exact v1
    | 2, _ => exact v2
local macro_rules | `(tactic| walk_at "GItem") => `(tactic| ((refine' GItem.intro ?G ?F ?N ?d ?o ?_); (case G => assumption); (case F => k_asm); (case N => k_asm); (case d => k_mem); (case o => k_all); intro h'' tk'' g'' F'' N'' G''))
theorem news_swap {h₀ h : Heap} {L : Addr} {a b : Addr × Obj} {r : Led} (N : News h₀ L h (a :: b :: r)) : News h₀ L h (b :: a :: r) := fun p hp => N p (by simp only [List.mem_cons] at hp ⊢; rcases hp with h | h | h; exact .inr (.inl h); exact .inl h; exact .inr (.inr h))
theorem endW {h₀ : Heap} {L : Addr} {q : Addr × Obj} {rest : (Str → Option Value) → Led → Prop} {s₁ : Shared} {h' : Heap} {tk : Nat} {m' : Str → Option Value} {news' : Led} (F : Fr h₀ L h' m') (N : News h₀ L h' (q :: news')) (off : ∀ p ∈ news', p.1 ≠ q.1) (r : rest m' news') :
    UnrEndW h₀ L s₁ [q] rest { s₁ with heap := h', toks := tk } := ⟨h', tk, m', news', rfl, F, N, fun p hp x hx => by rw [List.mem_singleton.mp hx]; exact off p hp, r⟩
local macro_rules | `(tactic| walk_at "UnrEndW") => `(tactic| (refine' endW ?F ?N ?o (And.intro ?s ?_); (case F => k_asm); (case N => k_asm); (case o => k_all); (case s => exact And.intro (by k_mem) True.intro)))
local macro_rules | `(tactic| walk_at "eval GeneratorExp") => `(tactic| (refine stopAt ?_))
local macro_rules | `(tactic| walk_at "call type:zip") => `(tactic| (refine stopAt ?_))
local macro_rules | `(tactic| walk_at "call type:tuple") => `(tactic| (refine stopAt ?_))

local macro_rules | `(tactic| walk_at "exec For Tuple Call cons nil") => `(tactic| (refine stopAt ?_))
set_option maxHeartbeats 8000000 in
theorem addc_spec0 (w : World) (mg mb : Str → Option Value) (d sd c e0 e1 e2 e3 : Addr) (o so : Obj) (x0 x1 x2 y0 y1 y2 : Int) (k0 k1 k2 k3 k4 k5 : Tok) (lo : (d == sysModules) = false) (slo : (sd == sysModules) = false)
    (hd0 : o.IsDictOf (intKind Challenge.rw_pe0143_01.row.prog w) [(0, .ref e0), (1, .ref e1), (2, .ref e2), (3, .ref e3)]) (hs0 : so.IsDictOf (intKind Challenge.rw_pe0143_01.row.prog w) [(0, .ref c)]) :
  SpecG w mg mb 56 2 [.ref d, .ref sd] (fun news => (d, o) ∈ news ∧ (sd, so) ∈ news ∧ (e0, oTup #[.int y0 k3, .int y1 k4, .int y2 k5]) ∈ news ∧ (c, oTup #[.int x0 k0, .int x1 k1, .int x2 k2]) ∈ news) (fun tl r => ∃ T D t0 t1 t2 o', tl = [(T, oTup #[.int (x0 + y0) t0, .int (x1 + y1) t1, .int (x2 + y2) t2]), (D, o')] ∧ r = .ref D ∧ o'.IsDictOf (intKind Challenge.rw_pe0143_01.row.prog w) [(0, .ref T), (1, .ref e1), (2, .ref e2), (3, .ref e3)] ∧ (D == sysModules) = false) := by
  unfold SpecG
  k_fill
  intro dp un gd cn cs ad ccd cl outer A₀ base h₀ L m news s Q E ps bm ob B F X N T BM hk hpre hnt htr hgb hdp hun hret
  obtain ⟨hp1, hp2, hp3, hp4⟩ := hpre
  have N1 : News h₀ L s.heap ((d, o) :: (sd, so) :: (e0, oTup #[.int y0 k3, .int y1 k4, .int y2 k5]) :: (c, oTup #[.int x0 k0, .int x1 k1, .int x2 k2]) :: (tabA, tabObj ps) :: news) := fun p hp => N p (by
    simp only [List.mem_cons] at hp ⊢
    rcases hp with rfl | rfl | rfl | rfl | rfl | hp
    · exact .inr hp1
    · exact .inr hp2
    · exact .inr hp3
    · exact .inr hp4
    · exact .inl rfl
    · exact .inr hp)
  have hn1 : d ≠ tabA := hnt _ hp1
  have hn2 : sd ≠ tabA := hnt _ hp2
  have hn3 : e0 ≠ tabA := hnt _ hp3
  have hn4 : c ≠ tabA := hnt _ hp4
  clear N hp1 hp2 hp3 hp4
  refine wpAny_call ?_
  k_dflt (((refine' enterR ?k1 ?k2 ?k3 ?k4 ?k5 ?kA ?kF ?kK ?k6 ?k7 ?k8 ?k9 ?kB ?_ ?c2 ?c3 ?c4 ?c5; (case kA => exact rfl); (case kF => exact rfl); (case kK => assumption); (case k1 => k_asm); (case k2 => k_asm); (case k3 => k_asm); (case k4 => k_asm); (case k5 => k_asm); (case k6 => k_is); (case k7 => k_is); (case k8 => ktr_room); (case k9 => exact BindsTo.of_eq rfl); (case c5 => decide); (case kB => exact locs rfl); (case c2 => exact rfl); (case c3 => exact rfl); (case c4 => exact rfl); k_whole; intro g' L' h' FG' F' N' B' X' T'; (try dsimp only); (try k_lift B'); (try k_fold))))
  k_steps
  unfold Stop
  (rename d < _ ∧ _ => ldA)
  (rename (_ == sysModules) = false => loA)
  (rename Fr _ _ _ _ => lF'); (rename News _ _ _ _ => lN')
  with_unfolding_all ((refine' For_turns lF' ?_); k_whole; (refine MethodCall_ ?_); (refine ld lF' (by rfl) ?_); (refine kdl_method (knd := PySem.intKind _ _) PySem.F.slot_dict_items PySem.F.type_dict_items lN' (by k_mem) (by k_asm) ?_); (refine callWith_method0 ?_); (refine kta_callItems (knd := PySem.intKind _ _) lF' lN' (by k_mem) (by k_asm) (by k_asm) ?_); intro h' hv' F' N'; (refine kta_items (knd := PySem.intKind _ _) (enc := PyData.int) (xs := [Itm.pair (fun t => Value.int 0 t) (Value.ref e0), Itm.pair (fun t => Value.int 1 t) (Value.ref e1), Itm.pair (fun t => Value.int 2 t) (Value.ref e2), Itm.pair (fun t => Value.int 3 t) (Value.ref e3)]) (by rfl) F' N' hv' (by k_mem) (by k_asm) (fun _ _ h => Value.isInt_shape h) (by rfl) ?_))
  clear lF' lN'
  intro i' l1
  (try k_lt l1)
  k_steps
  unfold Stop
  (rename Fr _ _ _ _ => lF'); (rename News _ _ _ _ => lN')
  with_unfolding_all ((refine' forG lF' ?_); k_whole; (refine MethodCall_ ?_); (refine ld lF' (by rfl) ?_); (refine kdl_method (knd := PySem.intKind _ _) PySem.F.slot_dict_items PySem.F.type_dict_items lN' (by k_mem) (by k_asm) ?_); (refine callWith_method0 ?_); (refine kta_callItems (knd := PySem.intKind _ _) lF' lN' (by k_mem) (by k_asm) (by k_asm) ?_); intro h' hv' F' N'; (refine itemsG1 (k := 0) (x := Value.ref c) (by rfl) F' N' hv' (by k_mem) (by k_asm) hgb ?_))
  clear lF' lN'
  intro I7 T7 t7 h7 tk7 g7 o7 l7 hT7 F7 N7 hgb7
  have hnI : I7 ≠ tabA := Nat.ne_of_gt (l7 (tabA, tabObj ps) (by k_mem))
  (try k_lt l7)
  k_steps
  unfold Stop
  (rename Fr _ _ _ _ => F9)
  (rename News _ _ _ _ => N9)
  show wpAny _ _ _ _ _ _
  refine' genZip (t1 := c) (t2 := e0) (P := tabA) (c := 55) F9 N9 hgb7 ?U htr ?C ?cd ?B ?lim ?m1 ?m2 ?hh ?hco ?hclos ?hcell ?h0 ?hxa ?hxb ?hab ?hda ?hdb ?hkind ?hroom ?hs ?hiter ?_
  (case U => exact UpdF.tail hnI (UpdF.tail (by first | assumption | exact Nat.ne_of_gt (by assumption) | k_ne) (UpdF.tail hn1 (UpdF.tail hn2 (UpdF.tail hn3 (UpdF.tail hn4 (UpdF.head hnt)))))))
  (case C => exact codeHd_of_K (by assumption) (code55 _))
  (case cd => exact rfl)
  (case B => exact BM.keeps (Fr.keep (by assumption)))
  (case lim => exact TopRead.nolimit (by assumption))
  (case m1 => k_mem)
  (case m2 => k_mem)
  (case hh => exact rfl)
  (case hco => exact rfl)
  (case hclos => with_unfolding_all rfl)
  (case hcell => decide)
  (case h0 => with_unfolding_all rfl)
  (case hxa => with_unfolding_all rfl)
  (case hxb => with_unfolding_all rfl)
  (case hab => decide)
  (case hda => decide)
  (case hdb => decide)
  (case hkind => with_unfolding_all rfl)
  (case hroom => ktr_room)
  (case hs => intro _; rfl)
  (case hiter =>
    intro Qz hz
    k_steps
    unfold Stop
    exact hz _)
  intro a8 h8 tk8 g8 ps8 F8 N8 htr8 hgb8 hGT8
  k_steps
  unfold Stop
  refine tupGen F8 N8 hgb8 hGT8 (by decide) ?_
  intro D9 acc9 h9 tk9 g9 F9' N9' l9 hgb9 hacc9
  obtain ⟨t90, t91, t92, rfl⟩ := accOf hacc9
  clear hacc9 hGT8
  (try k_lt l9)
  k_steps
  dsimp only
  (rename News _ _ _ _ => N10)
  refine' GItem.intro hgb9 ?F ?N ?d ?o ?_
  (case F => k_asm)
  (case N => exact news_swap N10)
  (case d => simp only [List.mem_cons, true_or, or_true])
  (case o =>
    intro p hp
    simp only [List.mem_cons] at hp
    rcases hp with rfl | rfl | rfl | rfl | rfl | rfl | rfl | hp
    · exact Nat.ne_of_gt l9.1
    · exact Nat.ne_of_lt l7.1
    · exact Nat.ne_of_lt l7.2.1
    · exact Nat.ne_of_lt l7.2.2.1
    · exact Nat.ne_of_lt l7.2.2.2.1
    · exact Nat.ne_of_lt l7.2.2.2.2.1
    · exact Nat.ne_of_lt l7.2.2.2.2.2.1
    · exact Nat.ne_of_lt (kst_ltOf l7.2.2.2.2.2.2 p hp))
  clear N10
  intro h10 tk10 g10 F10 N10 hgb10
  k_steps
  (rename News _ _ _ _ => N11)
  (rename Obj.IsDictOf _ _ [(0, Value.ref _), (1, Value.ref _), (2, Value.ref _), (3, Value.ref _)] => hdA)
  refine' hret _ [(D9, _), (_, _)] _ _ _ ps8 ?F ?N ?l htr8 hgb10 ⟨D9, _, t90, t91, t92, _, rfl, rfl, hdA, loA⟩
  (case F => k_asm)
  (case N => exact news_sub N11 (fun p hp => by
    simp only [List.cons_append, List.nil_append, List.mem_cons] at hp ⊢
    rcases hp with h | h | h | h
    · exact .inl h
    · exact .inr (.inl h)
    · exact .inr (.inr (.inr (.inr (.inr (.inr (.inl h))))))
    · exact .inr (.inr (.inr (.inr (.inr (.inr (.inr h))))))))
  (case l =>
    intro q hq
    rcases List.mem_cons.mp hq with rfl | hq
    · exact ⟨Nat.ne_of_gt l9.2.2.2.2.2.2.1, kst_ltOf l9.2.2.2.2.2.2.2⟩
    · rw [List.mem_singleton.mp hq]
      exact ⟨Nat.ne_of_gt ldA.2.2.2.2.1, kst_ltOf ldA.2.2.2.2.2⟩)

local macro_rules | `(tactic| walk_at "exec For Tuple Call cons nil") => `(tactic| (refine stopAt ?_))
set_option maxHeartbeats 8000000 in
theorem addc_spec1 (w : World) (mg mb : Str → Option Value) (d sd c e0 e1 e2 e3 : Addr) (o so : Obj) (x0 x1 x2 y0 y1 y2 : Int) (k0 k1 k2 k3 k4 k5 : Tok) (lo : (d == sysModules) = false) (slo : (sd == sysModules) = false)
    (hd0 : o.IsDictOf (intKind Challenge.rw_pe0143_01.row.prog w) [(0, .ref e0), (1, .ref e1), (2, .ref e2), (3, .ref e3)]) (hs0 : so.IsDictOf (intKind Challenge.rw_pe0143_01.row.prog w) [(1, .ref c)]) :
  SpecG w mg mb 56 2 [.ref d, .ref sd] (fun news => (d, o) ∈ news ∧ (sd, so) ∈ news ∧ (e1, oTup #[.int y0 k3, .int y1 k4, .int y2 k5]) ∈ news ∧ (c, oTup #[.int x0 k0, .int x1 k1, .int x2 k2]) ∈ news) (fun tl r => ∃ T D t0 t1 t2 o', tl = [(T, oTup #[.int (x0 + y0) t0, .int (x1 + y1) t1, .int (x2 + y2) t2]), (D, o')] ∧ r = .ref D ∧ o'.IsDictOf (intKind Challenge.rw_pe0143_01.row.prog w) [(0, .ref e0), (1, .ref T), (2, .ref e2), (3, .ref e3)] ∧ (D == sysModules) = false) := by
  unfold SpecG
  k_fill
  intro dp un gd cn cs ad ccd cl outer A₀ base h₀ L m news s Q E ps bm ob B F X N T BM hk hpre hnt htr hgb hdp hun hret
  obtain ⟨hp1, hp2, hp3, hp4⟩ := hpre
  have N1 : News h₀ L s.heap ((d, o) :: (sd, so) :: (e1, oTup #[.int y0 k3, .int y1 k4, .int y2 k5]) :: (c, oTup #[.int x0 k0, .int x1 k1, .int x2 k2]) :: (tabA, tabObj ps) :: news) := fun p hp => N p (by
    simp only [List.mem_cons] at hp ⊢
    rcases hp with rfl | rfl | rfl | rfl | rfl | hp
    · exact .inr hp1
    · exact .inr hp2
    · exact .inr hp3
    · exact .inr hp4
    · exact .inl rfl
    · exact .inr hp)
  have hn1 : d ≠ tabA := hnt _ hp1
  have hn2 : sd ≠ tabA := hnt _ hp2
  have hn3 : e1 ≠ tabA := hnt _ hp3
  have hn4 : c ≠ tabA := hnt _ hp4
  clear N hp1 hp2 hp3 hp4
  refine wpAny_call ?_
  k_dflt (((refine' enterR ?k1 ?k2 ?k3 ?k4 ?k5 ?kA ?kF ?kK ?k6 ?k7 ?k8 ?k9 ?kB ?_ ?c2 ?c3 ?c4 ?c5; (case kA => exact rfl); (case kF => exact rfl); (case kK => assumption); (case k1 => k_asm); (case k2 => k_asm); (case k3 => k_asm); (case k4 => k_asm); (case k5 => k_asm); (case k6 => k_is); (case k7 => k_is); (case k8 => ktr_room); (case k9 => exact BindsTo.of_eq rfl); (case c5 => decide); (case kB => exact locs rfl); (case c2 => exact rfl); (case c3 => exact rfl); (case c4 => exact rfl); k_whole; intro g' L' h' FG' F' N' B' X' T'; (try dsimp only); (try k_lift B'); (try k_fold))))
  k_steps
  unfold Stop
  (rename d < _ ∧ _ => ldA)
  (rename (_ == sysModules) = false => loA)
  (rename Fr _ _ _ _ => lF'); (rename News _ _ _ _ => lN')
  with_unfolding_all ((refine' For_turns lF' ?_); k_whole; (refine MethodCall_ ?_); (refine ld lF' (by rfl) ?_); (refine kdl_method (knd := PySem.intKind _ _) PySem.F.slot_dict_items PySem.F.type_dict_items lN' (by k_mem) (by k_asm) ?_); (refine callWith_method0 ?_); (refine kta_callItems (knd := PySem.intKind _ _) lF' lN' (by k_mem) (by k_asm) (by k_asm) ?_); intro h' hv' F' N'; (refine kta_items (knd := PySem.intKind _ _) (enc := PyData.int) (xs := [Itm.pair (fun t => Value.int 0 t) (Value.ref e0), Itm.pair (fun t => Value.int 1 t) (Value.ref e1), Itm.pair (fun t => Value.int 2 t) (Value.ref e2), Itm.pair (fun t => Value.int 3 t) (Value.ref e3)]) (by rfl) F' N' hv' (by k_mem) (by k_asm) (fun _ _ h => Value.isInt_shape h) (by rfl) ?_))
  clear lF' lN'
  intro i' l1
  (try k_lt l1)
  k_steps
  unfold Stop
  (rename Fr _ _ _ _ => lF'); (rename News _ _ _ _ => lN')
  with_unfolding_all ((refine' forG lF' ?_); k_whole; (refine MethodCall_ ?_); (refine ld lF' (by rfl) ?_); (refine kdl_method (knd := PySem.intKind _ _) PySem.F.slot_dict_items PySem.F.type_dict_items lN' (by k_mem) (by k_asm) ?_); (refine callWith_method0 ?_); (refine kta_callItems (knd := PySem.intKind _ _) lF' lN' (by k_mem) (by k_asm) (by k_asm) ?_); intro h' hv' F' N'; (refine itemsG1 (k := 1) (x := Value.ref c) (by rfl) F' N' hv' (by k_mem) (by k_asm) hgb ?_))
  clear lF' lN'
  intro I7 T7 t7 h7 tk7 g7 o7 l7 hT7 F7 N7 hgb7
  have hnI : I7 ≠ tabA := Nat.ne_of_gt (l7 (tabA, tabObj ps) (by k_mem))
  (try k_lt l7)
  k_steps
  unfold Stop
  (rename Fr _ _ _ _ => F9)
  (rename News _ _ _ _ => N9)
  show wpAny _ _ _ _ _ _
  refine' genZip (t1 := c) (t2 := e1) (P := tabA) (c := 55) F9 N9 hgb7 ?U htr ?C ?cd ?B ?lim ?m1 ?m2 ?hh ?hco ?hclos ?hcell ?h0 ?hxa ?hxb ?hab ?hda ?hdb ?hkind ?hroom ?hs ?hiter ?_
  (case U => exact UpdF.tail hnI (UpdF.tail (by first | assumption | exact Nat.ne_of_gt (by assumption) | k_ne) (UpdF.tail hn1 (UpdF.tail hn2 (UpdF.tail hn3 (UpdF.tail hn4 (UpdF.head hnt)))))))
  (case C => exact codeHd_of_K (by assumption) (code55 _))
  (case cd => exact rfl)
  (case B => exact BM.keeps (Fr.keep (by assumption)))
  (case lim => exact TopRead.nolimit (by assumption))
  (case m1 => k_mem)
  (case m2 => k_mem)
  (case hh => exact rfl)
  (case hco => exact rfl)
  (case hclos => with_unfolding_all rfl)
  (case hcell => decide)
  (case h0 => with_unfolding_all rfl)
  (case hxa => with_unfolding_all rfl)
  (case hxb => with_unfolding_all rfl)
  (case hab => decide)
  (case hda => decide)
  (case hdb => decide)
  (case hkind => with_unfolding_all rfl)
  (case hroom => ktr_room)
  (case hs => intro _; rfl)
  (case hiter =>
    intro Qz hz
    k_steps
    unfold Stop
    exact hz _)
  intro a8 h8 tk8 g8 ps8 F8 N8 htr8 hgb8 hGT8
  k_steps
  unfold Stop
  refine tupGen F8 N8 hgb8 hGT8 (by decide) ?_
  intro D9 acc9 h9 tk9 g9 F9' N9' l9 hgb9 hacc9
  obtain ⟨t90, t91, t92, rfl⟩ := accOf hacc9
  clear hacc9 hGT8
  (try k_lt l9)
  k_steps
  dsimp only
  (rename News _ _ _ _ => N10)
  refine' GItem.intro hgb9 ?F ?N ?d ?o ?_
  (case F => k_asm)
  (case N => exact news_swap N10)
  (case d => simp only [List.mem_cons, true_or, or_true])
  (case o =>
    intro p hp
    simp only [List.mem_cons] at hp
    rcases hp with rfl | rfl | rfl | rfl | rfl | rfl | rfl | hp
    · exact Nat.ne_of_gt l9.1
    · exact Nat.ne_of_lt l7.1
    · exact Nat.ne_of_lt l7.2.1
    · exact Nat.ne_of_lt l7.2.2.1
    · exact Nat.ne_of_lt l7.2.2.2.1
    · exact Nat.ne_of_lt l7.2.2.2.2.1
    · exact Nat.ne_of_lt l7.2.2.2.2.2.1
    · exact Nat.ne_of_lt (kst_ltOf l7.2.2.2.2.2.2 p hp))
  clear N10
  intro h10 tk10 g10 F10 N10 hgb10
  k_steps
  (rename News _ _ _ _ => N11)
  (rename Obj.IsDictOf _ _ [(0, Value.ref _), (1, Value.ref _), (2, Value.ref _), (3, Value.ref _)] => hdA)
  refine' hret _ [(D9, _), (_, _)] _ _ _ ps8 ?F ?N ?l htr8 hgb10 ⟨D9, _, t90, t91, t92, _, rfl, rfl, hdA, loA⟩
  (case F => k_asm)
  (case N => exact news_sub N11 (fun p hp => by
    simp only [List.cons_append, List.nil_append, List.mem_cons] at hp ⊢
    rcases hp with h | h | h | h
    · exact .inl h
    · exact .inr (.inl h)
    · exact .inr (.inr (.inr (.inr (.inr (.inr (.inl h))))))
    · exact .inr (.inr (.inr (.inr (.inr (.inr (.inr h))))))))
  (case l =>
    intro q hq
    rcases List.mem_cons.mp hq with rfl | hq
    · exact ⟨Nat.ne_of_gt l9.2.2.2.2.2.2.1, kst_ltOf l9.2.2.2.2.2.2.2⟩
    · rw [List.mem_singleton.mp hq]
      exact ⟨Nat.ne_of_gt ldA.2.2.2.2.1, kst_ltOf ldA.2.2.2.2.2⟩)

local macro_rules | `(tactic| walk_at "exec For Tuple Call cons nil") => `(tactic| (refine stopAt ?_))
set_option maxHeartbeats 8000000 in
theorem addc_spec2 (w : World) (mg mb : Str → Option Value) (d sd c e0 e1 e2 e3 : Addr) (o so : Obj) (x0 x1 x2 y0 y1 y2 : Int) (k0 k1 k2 k3 k4 k5 : Tok) (lo : (d == sysModules) = false) (slo : (sd == sysModules) = false)
    (hd0 : o.IsDictOf (intKind Challenge.rw_pe0143_01.row.prog w) [(0, .ref e0), (1, .ref e1), (2, .ref e2), (3, .ref e3)]) (hs0 : so.IsDictOf (intKind Challenge.rw_pe0143_01.row.prog w) [(2, .ref c)]) :
  SpecG w mg mb 56 2 [.ref d, .ref sd] (fun news => (d, o) ∈ news ∧ (sd, so) ∈ news ∧ (e2, oTup #[.int y0 k3, .int y1 k4, .int y2 k5]) ∈ news ∧ (c, oTup #[.int x0 k0, .int x1 k1, .int x2 k2]) ∈ news) (fun tl r => ∃ T D t0 t1 t2 o', tl = [(T, oTup #[.int (x0 + y0) t0, .int (x1 + y1) t1, .int (x2 + y2) t2]), (D, o')] ∧ r = .ref D ∧ o'.IsDictOf (intKind Challenge.rw_pe0143_01.row.prog w) [(0, .ref e0), (1, .ref e1), (2, .ref T), (3, .ref e3)] ∧ (D == sysModules) = false) := by
  unfold SpecG
  k_fill
  intro dp un gd cn cs ad ccd cl outer A₀ base h₀ L m news s Q E ps bm ob B F X N T BM hk hpre hnt htr hgb hdp hun hret
  obtain ⟨hp1, hp2, hp3, hp4⟩ := hpre
  have N1 : News h₀ L s.heap ((d, o) :: (sd, so) :: (e2, oTup #[.int y0 k3, .int y1 k4, .int y2 k5]) :: (c, oTup #[.int x0 k0, .int x1 k1, .int x2 k2]) :: (tabA, tabObj ps) :: news) := fun p hp => N p (by
    simp only [List.mem_cons] at hp ⊢
    rcases hp with rfl | rfl | rfl | rfl | rfl | hp
    · exact .inr hp1
    · exact .inr hp2
    · exact .inr hp3
    · exact .inr hp4
    · exact .inl rfl
    · exact .inr hp)
  have hn1 : d ≠ tabA := hnt _ hp1
  have hn2 : sd ≠ tabA := hnt _ hp2
  have hn3 : e2 ≠ tabA := hnt _ hp3
  have hn4 : c ≠ tabA := hnt _ hp4
  clear N hp1 hp2 hp3 hp4
  refine wpAny_call ?_
  k_dflt (((refine' enterR ?k1 ?k2 ?k3 ?k4 ?k5 ?kA ?kF ?kK ?k6 ?k7 ?k8 ?k9 ?kB ?_ ?c2 ?c3 ?c4 ?c5; (case kA => exact rfl); (case kF => exact rfl); (case kK => assumption); (case k1 => k_asm); (case k2 => k_asm); (case k3 => k_asm); (case k4 => k_asm); (case k5 => k_asm); (case k6 => k_is); (case k7 => k_is); (case k8 => ktr_room); (case k9 => exact BindsTo.of_eq rfl); (case c5 => decide); (case kB => exact locs rfl); (case c2 => exact rfl); (case c3 => exact rfl); (case c4 => exact rfl); k_whole; intro g' L' h' FG' F' N' B' X' T'; (try dsimp only); (try k_lift B'); (try k_fold))))
  k_steps
  unfold Stop
  (rename d < _ ∧ _ => ldA)
  (rename (_ == sysModules) = false => loA)
  (rename Fr _ _ _ _ => lF'); (rename News _ _ _ _ => lN')
  with_unfolding_all ((refine' For_turns lF' ?_); k_whole; (refine MethodCall_ ?_); (refine ld lF' (by rfl) ?_); (refine kdl_method (knd := PySem.intKind _ _) PySem.F.slot_dict_items PySem.F.type_dict_items lN' (by k_mem) (by k_asm) ?_); (refine callWith_method0 ?_); (refine kta_callItems (knd := PySem.intKind _ _) lF' lN' (by k_mem) (by k_asm) (by k_asm) ?_); intro h' hv' F' N'; (refine kta_items (knd := PySem.intKind _ _) (enc := PyData.int) (xs := [Itm.pair (fun t => Value.int 0 t) (Value.ref e0), Itm.pair (fun t => Value.int 1 t) (Value.ref e1), Itm.pair (fun t => Value.int 2 t) (Value.ref e2), Itm.pair (fun t => Value.int 3 t) (Value.ref e3)]) (by rfl) F' N' hv' (by k_mem) (by k_asm) (fun _ _ h => Value.isInt_shape h) (by rfl) ?_))
  clear lF' lN'
  intro i' l1
  (try k_lt l1)
  k_steps
  unfold Stop
  (rename Fr _ _ _ _ => lF'); (rename News _ _ _ _ => lN')
  with_unfolding_all ((refine' forG lF' ?_); k_whole; (refine MethodCall_ ?_); (refine ld lF' (by rfl) ?_); (refine kdl_method (knd := PySem.intKind _ _) PySem.F.slot_dict_items PySem.F.type_dict_items lN' (by k_mem) (by k_asm) ?_); (refine callWith_method0 ?_); (refine kta_callItems (knd := PySem.intKind _ _) lF' lN' (by k_mem) (by k_asm) (by k_asm) ?_); intro h' hv' F' N'; (refine itemsG1 (k := 2) (x := Value.ref c) (by rfl) F' N' hv' (by k_mem) (by k_asm) hgb ?_))
  clear lF' lN'
  intro I7 T7 t7 h7 tk7 g7 o7 l7 hT7 F7 N7 hgb7
  have hnI : I7 ≠ tabA := Nat.ne_of_gt (l7 (tabA, tabObj ps) (by k_mem))
  (try k_lt l7)
  k_steps
  unfold Stop
  (rename Fr _ _ _ _ => F9)
  (rename News _ _ _ _ => N9)
  show wpAny _ _ _ _ _ _
  refine' genZip (t1 := c) (t2 := e2) (P := tabA) (c := 55) F9 N9 hgb7 ?U htr ?C ?cd ?B ?lim ?m1 ?m2 ?hh ?hco ?hclos ?hcell ?h0 ?hxa ?hxb ?hab ?hda ?hdb ?hkind ?hroom ?hs ?hiter ?_
  (case U => exact UpdF.tail hnI (UpdF.tail (by first | assumption | exact Nat.ne_of_gt (by assumption) | k_ne) (UpdF.tail hn1 (UpdF.tail hn2 (UpdF.tail hn3 (UpdF.tail hn4 (UpdF.head hnt)))))))
  (case C => exact codeHd_of_K (by assumption) (code55 _))
  (case cd => exact rfl)
  (case B => exact BM.keeps (Fr.keep (by assumption)))
  (case lim => exact TopRead.nolimit (by assumption))
  (case m1 => k_mem)
  (case m2 => k_mem)
  (case hh => exact rfl)
  (case hco => exact rfl)
  (case hclos => with_unfolding_all rfl)
  (case hcell => decide)
  (case h0 => with_unfolding_all rfl)
  (case hxa => with_unfolding_all rfl)
  (case hxb => with_unfolding_all rfl)
  (case hab => decide)
  (case hda => decide)
  (case hdb => decide)
  (case hkind => with_unfolding_all rfl)
  (case hroom => ktr_room)
  (case hs => intro _; rfl)
  (case hiter =>
    intro Qz hz
    k_steps
    unfold Stop
    exact hz _)
  intro a8 h8 tk8 g8 ps8 F8 N8 htr8 hgb8 hGT8
  k_steps
  unfold Stop
  refine tupGen F8 N8 hgb8 hGT8 (by decide) ?_
  intro D9 acc9 h9 tk9 g9 F9' N9' l9 hgb9 hacc9
  obtain ⟨t90, t91, t92, rfl⟩ := accOf hacc9
  clear hacc9 hGT8
  (try k_lt l9)
  k_steps
  dsimp only
  (rename News _ _ _ _ => N10)
  refine' GItem.intro hgb9 ?F ?N ?d ?o ?_
  (case F => k_asm)
  (case N => exact news_swap N10)
  (case d => simp only [List.mem_cons, true_or, or_true])
  (case o =>
    intro p hp
    simp only [List.mem_cons] at hp
    rcases hp with rfl | rfl | rfl | rfl | rfl | rfl | rfl | hp
    · exact Nat.ne_of_gt l9.1
    · exact Nat.ne_of_lt l7.1
    · exact Nat.ne_of_lt l7.2.1
    · exact Nat.ne_of_lt l7.2.2.1
    · exact Nat.ne_of_lt l7.2.2.2.1
    · exact Nat.ne_of_lt l7.2.2.2.2.1
    · exact Nat.ne_of_lt l7.2.2.2.2.2.1
    · exact Nat.ne_of_lt (kst_ltOf l7.2.2.2.2.2.2 p hp))
  clear N10
  intro h10 tk10 g10 F10 N10 hgb10
  k_steps
  (rename News _ _ _ _ => N11)
  (rename Obj.IsDictOf _ _ [(0, Value.ref _), (1, Value.ref _), (2, Value.ref _), (3, Value.ref _)] => hdA)
  refine' hret _ [(D9, _), (_, _)] _ _ _ ps8 ?F ?N ?l htr8 hgb10 ⟨D9, _, t90, t91, t92, _, rfl, rfl, hdA, loA⟩
  (case F => k_asm)
  (case N => exact news_sub N11 (fun p hp => by
    simp only [List.cons_append, List.nil_append, List.mem_cons] at hp ⊢
    rcases hp with h | h | h | h
    · exact .inl h
    · exact .inr (.inl h)
    · exact .inr (.inr (.inr (.inr (.inr (.inr (.inl h))))))
    · exact .inr (.inr (.inr (.inr (.inr (.inr (.inr h))))))))
  (case l =>
    intro q hq
    rcases List.mem_cons.mp hq with rfl | hq
    · exact ⟨Nat.ne_of_gt l9.2.2.2.2.2.2.1, kst_ltOf l9.2.2.2.2.2.2.2⟩
    · rw [List.mem_singleton.mp hq]
      exact ⟨Nat.ne_of_gt ldA.2.2.2.2.1, kst_ltOf ldA.2.2.2.2.2⟩)

local macro_rules | `(tactic| walk_at "exec For Tuple Call cons nil") => `(tactic| (refine stopAt ?_))
set_option maxHeartbeats 8000000 in
theorem addc_spec3 (w : World) (mg mb : Str → Option Value) (d sd c e0 e1 e2 e3 : Addr) (o so : Obj) (x0 x1 x2 y0 y1 y2 : Int) (k0 k1 k2 k3 k4 k5 : Tok) (lo : (d == sysModules) = false) (slo : (sd == sysModules) = false)
    (hd0 : o.IsDictOf (intKind Challenge.rw_pe0143_01.row.prog w) [(0, .ref e0), (1, .ref e1), (2, .ref e2), (3, .ref e3)]) (hs0 : so.IsDictOf (intKind Challenge.rw_pe0143_01.row.prog w) [(3, .ref c)]) :
  SpecG w mg mb 56 2 [.ref d, .ref sd] (fun news => (d, o) ∈ news ∧ (sd, so) ∈ news ∧ (e3, oTup #[.int y0 k3, .int y1 k4, .int y2 k5]) ∈ news ∧ (c, oTup #[.int x0 k0, .int x1 k1, .int x2 k2]) ∈ news) (fun tl r => ∃ T D t0 t1 t2 o', tl = [(T, oTup #[.int (x0 + y0) t0, .int (x1 + y1) t1, .int (x2 + y2) t2]), (D, o')] ∧ r = .ref D ∧ o'.IsDictOf (intKind Challenge.rw_pe0143_01.row.prog w) [(0, .ref e0), (1, .ref e1), (2, .ref e2), (3, .ref T)] ∧ (D == sysModules) = false) := by
  unfold SpecG
  k_fill
  intro dp un gd cn cs ad ccd cl outer A₀ base h₀ L m news s Q E ps bm ob B F X N T BM hk hpre hnt htr hgb hdp hun hret
  obtain ⟨hp1, hp2, hp3, hp4⟩ := hpre
  have N1 : News h₀ L s.heap ((d, o) :: (sd, so) :: (e3, oTup #[.int y0 k3, .int y1 k4, .int y2 k5]) :: (c, oTup #[.int x0 k0, .int x1 k1, .int x2 k2]) :: (tabA, tabObj ps) :: news) := fun p hp => N p (by
    simp only [List.mem_cons] at hp ⊢
    rcases hp with rfl | rfl | rfl | rfl | rfl | hp
    · exact .inr hp1
    · exact .inr hp2
    · exact .inr hp3
    · exact .inr hp4
    · exact .inl rfl
    · exact .inr hp)
  have hn1 : d ≠ tabA := hnt _ hp1
  have hn2 : sd ≠ tabA := hnt _ hp2
  have hn3 : e3 ≠ tabA := hnt _ hp3
  have hn4 : c ≠ tabA := hnt _ hp4
  clear N hp1 hp2 hp3 hp4
  refine wpAny_call ?_
  k_dflt (((refine' enterR ?k1 ?k2 ?k3 ?k4 ?k5 ?kA ?kF ?kK ?k6 ?k7 ?k8 ?k9 ?kB ?_ ?c2 ?c3 ?c4 ?c5; (case kA => exact rfl); (case kF => exact rfl); (case kK => assumption); (case k1 => k_asm); (case k2 => k_asm); (case k3 => k_asm); (case k4 => k_asm); (case k5 => k_asm); (case k6 => k_is); (case k7 => k_is); (case k8 => ktr_room); (case k9 => exact BindsTo.of_eq rfl); (case c5 => decide); (case kB => exact locs rfl); (case c2 => exact rfl); (case c3 => exact rfl); (case c4 => exact rfl); k_whole; intro g' L' h' FG' F' N' B' X' T'; (try dsimp only); (try k_lift B'); (try k_fold))))
  k_steps
  unfold Stop
  (rename d < _ ∧ _ => ldA)
  (rename (_ == sysModules) = false => loA)
  (rename Fr _ _ _ _ => lF'); (rename News _ _ _ _ => lN')
  with_unfolding_all ((refine' For_turns lF' ?_); k_whole; (refine MethodCall_ ?_); (refine ld lF' (by rfl) ?_); (refine kdl_method (knd := PySem.intKind _ _) PySem.F.slot_dict_items PySem.F.type_dict_items lN' (by k_mem) (by k_asm) ?_); (refine callWith_method0 ?_); (refine kta_callItems (knd := PySem.intKind _ _) lF' lN' (by k_mem) (by k_asm) (by k_asm) ?_); intro h' hv' F' N'; (refine kta_items (knd := PySem.intKind _ _) (enc := PyData.int) (xs := [Itm.pair (fun t => Value.int 0 t) (Value.ref e0), Itm.pair (fun t => Value.int 1 t) (Value.ref e1), Itm.pair (fun t => Value.int 2 t) (Value.ref e2), Itm.pair (fun t => Value.int 3 t) (Value.ref e3)]) (by rfl) F' N' hv' (by k_mem) (by k_asm) (fun _ _ h => Value.isInt_shape h) (by rfl) ?_))
  clear lF' lN'
  intro i' l1
  (try k_lt l1)
  k_steps
  unfold Stop
  (rename Fr _ _ _ _ => lF'); (rename News _ _ _ _ => lN')
  with_unfolding_all ((refine' forG lF' ?_); k_whole; (refine MethodCall_ ?_); (refine ld lF' (by rfl) ?_); (refine kdl_method (knd := PySem.intKind _ _) PySem.F.slot_dict_items PySem.F.type_dict_items lN' (by k_mem) (by k_asm) ?_); (refine callWith_method0 ?_); (refine kta_callItems (knd := PySem.intKind _ _) lF' lN' (by k_mem) (by k_asm) (by k_asm) ?_); intro h' hv' F' N'; (refine itemsG1 (k := 3) (x := Value.ref c) (by rfl) F' N' hv' (by k_mem) (by k_asm) hgb ?_))
  clear lF' lN'
  intro I7 T7 t7 h7 tk7 g7 o7 l7 hT7 F7 N7 hgb7
  have hnI : I7 ≠ tabA := Nat.ne_of_gt (l7 (tabA, tabObj ps) (by k_mem))
  (try k_lt l7)
  k_steps
  unfold Stop
  (rename Fr _ _ _ _ => F9)
  (rename News _ _ _ _ => N9)
  show wpAny _ _ _ _ _ _
  refine' genZip (t1 := c) (t2 := e3) (P := tabA) (c := 55) F9 N9 hgb7 ?U htr ?C ?cd ?B ?lim ?m1 ?m2 ?hh ?hco ?hclos ?hcell ?h0 ?hxa ?hxb ?hab ?hda ?hdb ?hkind ?hroom ?hs ?hiter ?_
  (case U => exact UpdF.tail hnI (UpdF.tail (by first | assumption | exact Nat.ne_of_gt (by assumption) | k_ne) (UpdF.tail hn1 (UpdF.tail hn2 (UpdF.tail hn3 (UpdF.tail hn4 (UpdF.head hnt)))))))
  (case C => exact codeHd_of_K (by assumption) (code55 _))
  (case cd => exact rfl)
  (case B => exact BM.keeps (Fr.keep (by assumption)))
  (case lim => exact TopRead.nolimit (by assumption))
  (case m1 => k_mem)
  (case m2 => k_mem)
  (case hh => exact rfl)
  (case hco => exact rfl)
  (case hclos => with_unfolding_all rfl)
  (case hcell => decide)
  (case h0 => with_unfolding_all rfl)
  (case hxa => with_unfolding_all rfl)
  (case hxb => with_unfolding_all rfl)
  (case hab => decide)
  (case hda => decide)
  (case hdb => decide)
  (case hkind => with_unfolding_all rfl)
  (case hroom => ktr_room)
  (case hs => intro _; rfl)
  (case hiter =>
    intro Qz hz
    k_steps
    unfold Stop
    exact hz _)
  intro a8 h8 tk8 g8 ps8 F8 N8 htr8 hgb8 hGT8
  k_steps
  unfold Stop
  refine tupGen F8 N8 hgb8 hGT8 (by decide) ?_
  intro D9 acc9 h9 tk9 g9 F9' N9' l9 hgb9 hacc9
  obtain ⟨t90, t91, t92, rfl⟩ := accOf hacc9
  clear hacc9 hGT8
  (try k_lt l9)
  k_steps
  dsimp only
  (rename News _ _ _ _ => N10)
  refine' GItem.intro hgb9 ?F ?N ?d ?o ?_
  (case F => k_asm)
  (case N => exact news_swap N10)
  (case d => simp only [List.mem_cons, true_or, or_true])
  (case o =>
    intro p hp
    simp only [List.mem_cons] at hp
    rcases hp with rfl | rfl | rfl | rfl | rfl | rfl | rfl | hp
    · exact Nat.ne_of_gt l9.1
    · exact Nat.ne_of_lt l7.1
    · exact Nat.ne_of_lt l7.2.1
    · exact Nat.ne_of_lt l7.2.2.1
    · exact Nat.ne_of_lt l7.2.2.2.1
    · exact Nat.ne_of_lt l7.2.2.2.2.1
    · exact Nat.ne_of_lt l7.2.2.2.2.2.1
    · exact Nat.ne_of_lt (kst_ltOf l7.2.2.2.2.2.2 p hp))
  clear N10
  intro h10 tk10 g10 F10 N10 hgb10
  k_steps
  (rename News _ _ _ _ => N11)
  (rename Obj.IsDictOf _ _ [(0, Value.ref _), (1, Value.ref _), (2, Value.ref _), (3, Value.ref _)] => hdA)
  refine' hret _ [(D9, _), (_, _)] _ _ _ ps8 ?F ?N ?l htr8 hgb10 ⟨D9, _, t90, t91, t92, _, rfl, rfl, hdA, loA⟩
  (case F => k_asm)
  (case N => exact news_sub N11 (fun p hp => by
    simp only [List.cons_append, List.nil_append, List.mem_cons] at hp ⊢
    rcases hp with h | h | h | h
    · exact .inl h
    · exact .inr (.inl h)
    · exact .inr (.inr (.inr (.inr (.inr (.inr (.inl h))))))
    · exact .inr (.inr (.inr (.inr (.inr (.inr (.inr h))))))))
  (case l =>
    intro q hq
    rcases List.mem_cons.mp hq with rfl | hq
    · exact ⟨Nat.ne_of_gt l9.2.2.2.2.2.2.1, kst_ltOf l9.2.2.2.2.2.2.2⟩
    · rw [List.mem_singleton.mp hq]
      exact ⟨Nat.ne_of_gt ldA.2.2.2.2.1, kst_ltOf ldA.2.2.2.2.2⟩)

noncomputable abbrev kv4 (e : Nat → Addr) : List (Int × Value) := [(0, .ref (e 0)), (1, .ref (e 1)), (2, .ref (e 2)), (3, .ref (e 3))]
noncomputable abbrev upd (e : Nat → Addr) (k : Nat) (T : Addr) : Nat → Addr := fun i => if i = k then T else e i
theorem addc_spec (w : World) (mg mb : Str → Option Value) (k : Nat) (hk : k < 4) (e : Nat → Addr) (d sd c : Addr) (o so : Obj) (x0 x1 x2 y0 y1 y2 : Int) (k0 k1 k2 k3 k4 k5 : Tok) (lo : (d == sysModules) = false) (slo : (sd == sysModules) = false)
    (hd0 : o.IsDictOf (intKind Challenge.rw_pe0143_01.row.prog w) (kv4 e)) (hs0 : so.IsDictOf (intKind Challenge.rw_pe0143_01.row.prog w) [((k : Int), .ref c)]) :
  SpecG w mg mb 56 2 [.ref d, .ref sd] (fun news => (d, o) ∈ news ∧ (sd, so) ∈ news ∧ (e k, oTup #[.int y0 k3, .int y1 k4, .int y2 k5]) ∈ news ∧ (c, oTup #[.int x0 k0, .int x1 k1, .int x2 k2]) ∈ news)
    (fun tl r => ∃ T D t0 t1 t2 o', tl = [(T, oTup #[.int (x0 + y0) t0, .int (x1 + y1) t1, .int (x2 + y2) t2]), (D, o')] ∧ r = .ref D ∧ o'.IsDictOf (intKind Challenge.rw_pe0143_01.row.prog w) (kv4 (upd e k T)) ∧ (D == sysModules) = false) := by
  match k, hk with
  | 0, _ => exact addc_spec0 w mg mb d sd c (e 0) (e 1) (e 2) (e 3) o so x0 x1 x2 y0 y1 y2 k0 k1 k2 k3 k4 k5 lo slo hd0 hs0
  | 1, _ => exact addc_spec1 w mg mb d sd c (e 0) (e 1) (e 2) (e 3) o so x0 x1 x2 y0 y1 y2 k0 k1 k2 k3 k4 k5 lo slo hd0 hs0
  | 2, _ => exact addc_spec2 w mg mb d sd c (e 0) (e 1) (e 2) (e 3) o so x0 x1 x2 y0 y1 y2 k0 k1 k2 k3 k4 k5 lo slo hd0 hs0
  | 3, _ => exact addc_spec3 w mg mb d sd c (e 0) (e 1) (e 2) (e 3) o so x0 x1 x2 y0 y1 y2 k0 k1 k2 k3 k4 k5 lo slo hd0 hs0
end Mine
end
section
open PySem PySem.W PyProof.Rows
set_option maxRecDepth 100000
namespace Mine

section
variable {w : World} {mg mb : Str → Option Value} {f : Addr} {dep : Nat} {vs : List Value} {Pre : Led → Prop} {dp un : Nat} {gd : Option (List Code)} {cn : Str} {cs : Scope} {a : Addr} {ccd : Value} {cl : List (Str × Addr)} {outer : List Env} {A₀ : Around} {base h₀ : Heap} {L : Addr} {m : Str → Option Value} {news : Led} {s : Shared} {Q E : Value → Shared → Prop} {ps : Array Value} {bm : Addr} {ob : Obj}
theorem SpecG.use {Out : Led → Value → Prop} (S : SpecG w mg mb f dep vs Pre Out) (B : Below A₀ base outer h₀) (F : Fr h₀ L s.heap m) (X : (hd.heap_1 w.params).In h₀) (N : News h₀ L s.heap ((tabA, tabObj ps) :: news)) (T : TopR mg mb h₀) (BM : BMod h₀ mainGlobals mg bm ob) (hk : cs.kind = .function) (hp : Pre news) (hn : ∀ p ∈ news, p.1 ≠ tabA) (ht : TriplesOk ps.toList) (hg : AllBare s.gens) (hd : dp + dep < recursionLimit) (hu : un + 8 * dep + 100 < cLine)
    (ret : ∀ r tl h' tk' g' ps', Fr h₀ L h' m → News h₀ L h' (tl ++ (tabA, tabObj ps') :: news) → (∀ q ∈ tl, q.1 ≠ tabA ∧ ∀ p ∈ news, p.1 < q.1) → TriplesOk ps'.toList → AllBare g' → Out tl r → Q r { s with heap := h', toks := tk', gens := g' }) :
    wpAny (model Challenge.rw_pe0143_01.row.prog w) (ktrTop dp un gd cn cs L a ccd cl outer) (call (.ref f) vs) Q E s := S _ _ _ _ _ _ _ _ _ _ _ _ _ _ _ _ _ _ _ _ _ B F X N T BM hk hp hn ht hg hd hu ret
end
theorem newsCut {h₀ h : Heap} {L : Addr} {x1 x2 x3 x4 x5 x6 : Addr × Obj} {news : Led} (N : News h₀ L h (x1 :: x2 :: x3 :: x4 :: x5 :: x6 :: news)) : News h₀ L h ([x1, x2, x3] ++ x4 :: news) := news_sub N (fun p hp => by
    simp only [List.cons_append, List.nil_append, List.mem_cons] at hp ⊢
    rcases hp with h | h | h | h | h
    · exact .inl h
    · exact .inr (.inl h)
    · exact .inr (.inr (.inl h))
    · exact .inr (.inr (.inr (.inl h)))
    · exact .inr (.inr (.inr (.inr (.inr (.inr h))))))
local macro_rules | `(tactic| walk_at "call ref") => `(tactic| (refine stopAt ?_))
set_option maxHeartbeats 8000000 in
theorem addf_spec (w : World) (mg mb : Str → Option Value) (k : Nat) (hk4 : k < 4) (e : Nat → Addr) (tg sr d sd c : Addr) (o so : Obj) (a0 a1 a2 a3 b0 b1 b2 b3 x0 x1 x2 y0 y1 y2 : Int) (j0 j1 j2 j3 j4 j5 j6 j7 k0 k1 k2 k3 k4 k5 : Tok) (lo : (d == sysModules) = false) (slo : (sd == sysModules) = false)
    (hd0 : o.IsDictOf (intKind Challenge.rw_pe0143_01.row.prog w) (kv4 e)) (hs0 : so.IsDictOf (intKind Challenge.rw_pe0143_01.row.prog w) [((k : Int), .ref c)]) :
  SpecG w mg mb 49 4 [.ref tg, .ref sr] (fun news => (tg, oTup #[.int a0 j0, .int a1 j1, .int a2 j2, .int a3 j3, .ref d]) ∈ news ∧ (sr, oTup #[.int b0 j4, .int b1 j5, .int b2 j6, .int b3 j7, .ref sd]) ∈ news ∧ (d, o) ∈ news ∧ (sd, so) ∈ news ∧ (e k, oTup #[.int y0 k3, .int y1 k4, .int y2 k5]) ∈ news ∧ (c, oTup #[.int x0 k0, .int x1 k1, .int x2 k2]) ∈ news)
    (fun tl r => ∃ R T D t0 t1 t2 t3 t4 t5 t6 o', tl = [(R, oTup #[.int (b0 + a0) t3, .int (b1 + a1) t4, .int (b2 + a2) t5, .int (b3 + a3) t6, .ref D]), (T, oTup #[.int (x0 + y0) t0, .int (x1 + y1) t1, .int (x2 + y2) t2]), (D, o')] ∧ r = .ref R ∧ o'.IsDictOf (intKind Challenge.rw_pe0143_01.row.prog w) (kv4 (upd e k T)) ∧ (D == sysModules) = false) := by
  unfold SpecG
  k_fill
  intro dp un gd cn cs ad ccd cl outer A₀ base h₀ L m news s Q E ps bm ob B F X N T BM hk hpre hnt htr hgb hdp hun hret
  obtain ⟨hp1, hp2, hp3, hp4, hp5, hp6⟩ := hpre
  have N1 : News h₀ L s.heap ((tabA, tabObj ps) :: (tg, oTup #[.int a0 j0, .int a1 j1, .int a2 j2, .int a3 j3, .ref d]) :: (sr, oTup #[.int b0 j4, .int b1 j5, .int b2 j6, .int b3 j7, .ref sd]) :: news) := fun p hp => N p (by
    simp only [List.mem_cons] at hp ⊢
    rcases hp with rfl | rfl | rfl | hp
    · exact .inl rfl
    · exact .inr hp1
    · exact .inr hp2
    · exact .inr hp)
  clear N
  refine wpAny_call ?_
  k_dflt (((refine' enterR ?k1 ?k2 ?k3 ?k4 ?k5 ?kA ?kF ?kK ?k6 ?k7 ?k8 ?k9 ?kB ?_ ?c2 ?c3 ?c4 ?c5; (case kA => exact rfl); (case kF => exact rfl); (case kK => assumption); (case k1 => k_asm); (case k2 => k_asm); (case k3 => k_asm); (case k4 => k_asm); (case k5 => k_asm); (case k6 => k_is); (case k7 => k_is); (case k8 => ktr_room); (case k9 => exact BindsTo.of_eq rfl); (case c5 => decide); (case kB => exact locs rfl); (case c2 => exact rfl); (case c3 => exact rfl); (case c4 => exact rfl); k_whole; intro g' L' h' FG' F' N' B' X' T'; (try dsimp only); (try k_lift B'); (try k_fold))))
  k_steps
  unfold Stop
  (rename Fr _ _ _ _ => F9)
  (rename News _ _ _ _ => N9)
  refine' SpecG.use (addc_spec w mg mb k hk4 e d sd c o so x0 x1 x2 y0 y1 y2 k0 k1 k2 k3 k4 k5 lo slo hd0 hs0) ?B F9 ?X N9 ?T ?BM ?hk ?hp ?hn htr hgb ?hd ?hu ?_
  (case B => k_asm)
  (case X => k_asm)
  (case T => k_asm)
  (case BM => exact BM.keeps (Fr.keep (by assumption)))
  (case hk => rfl)
  (case hp => exact ⟨by simp [hp3], by simp [hp4], by simp [hp5], by simp [hp6]⟩)
  (case hn =>
    intro p hp
    simp only [List.mem_cons] at hp
    rcases hp with rfl | rfl | hp
    · exact hnt _ hp1
    · exact hnt _ hp2
    · exact hnt _ hp)
  (case hd => ktr_room)
  (case hu => ktr_units)
  intro r6 tl6 h6 tk6 g6 ps6 F6 N6 hlt6 htr6 hgb6 hout
  obtain ⟨T6, D6, t0, t1, t2, o6, rfl, rfl, hd6, lo6⟩ := hout
  simp only [List.cons_append, List.nil_append] at N6
  clear N9 F9
  k_steps
  (rename News _ _ _ _ => N11)
  (rename T6 < _ ∧ _ => l11)
  refine' hret _ _ _ _ _ ps6 ?F (newsCut N11) ?l htr6 hgb6 ⟨_, T6, D6, t0, t1, t2, _, _, _, _, o6, rfl, rfl, hd6, lo6⟩
  (case F => k_asm)
  (case l =>
    intro q hq
    simp only [List.mem_cons, List.not_mem_nil, or_false] at hq
    rcases hq with rfl | rfl | rfl
    · exact ⟨Nat.ne_of_gt l11.2.2.1, kst_ltOf l11.2.2.2.2.2⟩
    · exact ⟨(hlt6 _ (by simp)).1, fun p hp => (hlt6 (T6, _) (by simp)).2 p (by simp [hp])⟩
    · exact ⟨(hlt6 (D6, o6) (by simp)).1, fun p hp => (hlt6 (D6, o6) (by simp)).2 p (by simp [hp])⟩)
end Mine
end
section
open PySem PySem.W PyProof.Rows
set_option maxRecDepth 100000
namespace Mine
/-- what a dict holds once the first i pairs are stored -/
noncomputable def upto (ks : Nat → Int) (vs : Nat → Value) : Nat → List (Int × Value)
  | 0 => []
  | i + 1 => stored (upto ks vs i) (ks i) (vs i)
theorem upto_len (ks : Nat → Int) (vs : Nat → Value) : ∀ i, (upto ks vs i).length ≤ i
  | 0 => Nat.le_refl _
  | i + 1 => Nat.le_trans (stored_length_le _ _ _) (Nat.succ_le_succ (upto_len ks vs i))
section
variable {prog : Program} {w : World} {A : Around} {E : Value → Shared → Prop} {R : Result → Shared → Prop} {s : Shared}
theorem dcLoop {kx vx target iter : Expr} {scope : Scope} {pos : Pos} {it : Value} {D : Addr} {env : Env} (I : Nat → Shared → Prop)
    (turn : ∀ n s, I n s → wpAny (model prog w) A (pyNext it) (fun r s₁ => match r with
      | none => R (.ok .next) s₁
      | some v => wpAny (model prog w) A (letOwnedTupleGo target it v) (fun _ s₂ => wpAny (model prog w) A (assign target env v) (fun _ s₃ => wpAny (model prog w) A (eval kx env) (fun kv s₄ => wpAny (model prog w) A (eval vx env) (fun vv s₅ =>
              wpAny (model prog w) A (dictSet D kv vv) (fun _ s₆ => ∃ m, m < n ∧ I m s₆) (notedBy (model prog w) A env fun e s' => R (.error e) s') s₅) (notedBy (model prog w) A env fun e s' => R (.error e) s') s₄) (notedBy (model prog w) A env fun e s' => R (.error e) s') s₃)
            (notedBy (model prog w) A env fun e s' => R (.error e) s') s₂) (notedBy (model prog w) A env fun e s' => R (.error e) s') s₁) (notedBy (model prog w) A env fun e s' => R (.error e) s') s)
    (n : Nat) (h : I n s) : codeAny (model prog w) A (.compLoop (.DictComp kx vx [⟨target, iter, [], 0⟩] scope pos) 0 it (.ref D) env) R s := by
  refine codeAny_loop rfl I (fun n s hI => ?_) n h
  show wpAny _ A ((compTurn (.DictComp kx vx [⟨target, iter, [], 0⟩] scope pos) 0 it (.ref D) env).onRaise (fun x => do noteFrame x env; theTreesLotGoes x)) _ _ s
  refine wpAny_noted ?_
  rw [compTurn_dict]
  refine wpAny_bind (wpAny_standAt (wpAny_bind (wpAny_mono (turn n s hI) (fun r s₁ h₁ => ?_) fun _ _ h' => h')))
  cases r with
  | none => exact wpAny_pure h₁
  | some v =>
    refine wpAny_bind (wpAny_mono h₁ (fun _ s₂ h₂ => wpAny_bind (wpAny_mono h₂ (fun _ s₃ h₃ => ?_) fun _ _ h' => h')) fun _ _ h' => h')
    simp only [List.forIn_nil]
    refine wpAny_bind (wpAny_pure ?_)
    simp only [if_true]
    exact wpAny_bind (wpAny_bind (wpAny_mono h₃ (fun kv s₄ h₄ => wpAny_bind (wpAny_holding (wpAny_mono h₄ (fun vv s₅ h₅ => wpAny_bind (wpAny_standAt (wpAny_holding (wpAny_mono h₅ (fun _ s₆ h₆ => wpAny_pure ⟨rfl, h₆⟩) fun _ _ h' => h')))) fun _ _ h' => h'))) fun _ _ h' => h'))
theorem dcWalk {iter : Expr} {xa xb : Str} {pa pb pt pk pv : Pos} {kt : Nat} {scope : Scope} {pos : Pos} {I D : Addr} {fp wr : List Addr} {n : Nat} {ks : Nat → Int} {tks : Nat → Tok} {vs : Nat → Value} {St : Nat → Heap → Prop} {Mid : Nat → Addr → Heap → Prop}
    {cenv : Env} {m : Str → Option Value} (W : WalksU prog w A I fp wr n (fun j v => v = #[.int (ks j) (tks j), vs j]) St Mid) (hh : A.handled = none)
    (hxa : cenv.kindOf xa = some .local) (hxb : cenv.kindOf xb = some .local) (hab : xa ≠ xb) (hda : (xa == ("__debug__" : Str)) = false) (hdb : (xb == ("__debug__" : Str)) = false) (hk0 : cenv.scope.kind = .function) (hp : (cenv.scope.kind == .class || (cenv.scope.kind == .module && cenv.locals != cenv.globals)) = false)
    (hDC : D ≠ cenv.locals) (hDf : D ∉ fp) (hCf : cenv.locals ∉ fp) (hst : St 0 s.heap) (hacc : s.heap.DictOf (intKind prog w) D []) (hn : s.heap.Ns cenv.locals m) (hsz : n ≤ sizeLine)
    (hR : ∀ h' tk m', h'.Ns cenv.locals m' → h'.DictOf (intKind prog w) D (upto ks vs n) → (∀ b o, b ≠ cenv.locals → b ∉ wr → b ≠ D → s.heap.get? b = some o → h'.get? b = some o) → R (.ok .next) { s with heap := h', toks := tk }) :
    codeAny (model prog w) A (.compLoop (.DictComp (.Name xa pk) (.Name xb pv) [⟨.Tuple [.Name xa pa, .Name xb pb] kt pt, iter, [], 0⟩] scope pos) 0 (.ref I) (.ref D) cenv) R s := by
  have hCw : cenv.locals ∉ wr := fun h => hCf (W.sub _ h)
  have hDw : D ∉ wr := fun h => hDf (W.sub _ h)
  refine dcLoop (fun k s' => ∃ h' tk m' i, s' = { s with heap := h', toks := tk } ∧ St i h' ∧ h'.DictOf (intKind prog w) D (upto ks vs i) ∧ h'.Ns cenv.locals m' ∧ i ≤ n ∧ k = n + 1 - i ∧
      ∀ b o, b ≠ cenv.locals → b ∉ wr → b ≠ D → s.heap.get? b = some o → h'.get? b = some o) ?_ (n + 1)
    ⟨s.heap, s.toks, m, 0, rfl, hst, hacc, hn, Nat.zero_le _, rfl, fun _ _ _ _ _ e => e⟩
  rintro k s' ⟨H, tk, m', i, rfl, hst', hacc', hn', hi, rfl, hk⟩
  by_cases hlt : i < n
  · refine W.item i _ _ _ hlt hst' fun T vals h₁ tk₁ hPv hT₁ hmid hk₁ => ?_
    subst hPv
    refine W.go _ _ _ i T _ _ _ hmid fun h₁' hst₁ hk₁' => ?_
    have hT₁' : h₁'.IsTuple T #[.int (ks i) (tks i), vs i] := tupAt' hT₁ fun o e => hk₁' _ o (W.apart i T _ hmid) e
    refine wpAny_assign_Tuple hh hT₁' rfl rfl fun h₁'' hx₁ => ?_
    replace hx₁ : Heap.ExtBut h₁'.objs.size h₁' h₁'' := hx₁
    have old₁ : ∀ b o, h₁'.get? b = some o → h₁''.get? b = some o := fun b o e => hx₁ b o (Nat.ne_of_lt (Heap.lt_size e)) e
    show wpAny _ _ (do holding [vs i] (assign (.Name xa pa) cenv (.int (ks i) (tks i))); do holding [] (assign (.Name xb pb) cenv (vs i)); pure ()) _ _ _
    refine wpAny_bind (wpAny_holding (wpAny_assign_Name (wpAny_storeName_local hxa (hn'.at' fun o e => old₁ _ o (hk₁' _ o hCw (hk₁ _ o hCw e))) (fun h₂a hn₂a hs₂a => ?_) hp)))
    replace hs₂a : Heap.SameBut cenv.locals h₁'' h₂a := hs₂a
    refine wpAny_bind (wpAny_holding (wpAny_assign_Name (wpAny_storeName_local hxb hn₂a (fun h₂ hn₂ hs₂ => wpAny_pure ?_) hp)))
    replace hs₂ : Heap.SameBut cenv.locals h₂a h₂ := hs₂
    have up₂ : ∀ b o, b ≠ cenv.locals → b ∉ wr → H.get? b = some o → h₂.get? b = some o := fun b o hbC hbw e => hs₂.extBut b o hbC (hs₂a.extBut b o hbC (old₁ b o (hk₁' b o hbw (hk₁ b o hbw e))))
    have hst₂ : St (i + 1) h₂ := W.frame _ _ _ hst₁ fun b hb o e => hs₂.extBut b o (fun h => hCf (h ▸ hb)) (hs₂a.extBut b o (fun h => hCf (h ▸ hb)) (old₁ b o e))
    refine wpAny_Name (wpAny_loadName_local hk0 hxa hn₂ (v := .int (ks i) (tks i)) (by simp [hab]) ?_) hda
    refine wpAny_Name (wpAny_loadName_local hk0 hxb hn₂ (v := vs i) (by simp) ?_) hdb
    have hacc₂ : h₂.DictOf (intKind prog w) D (upto ks vs i) := hacc'.at fun o e => up₂ D o hDC hDw e
    refine wpAny_dictSet_pairs (hsz := Nat.le_trans (upto_len _ _ _) (Nat.le_trans hi hsz)) (intKind_is _ _ _ _) hacc₂ fun h₆ hl₆ hs₆ => ?_
    refine ⟨n + 1 - (i + 1), turnLess (by assumption), h₆, _, _, i + 1, rfl, W.frame _ _ h₆ hst₂ fun b hb o e => hs₆.extBut b o (fun h => hDf (h ▸ hb)) e, hl₆, hn₂.sameBut hs₆ (Ne.symm hDC), hlt, rfl,
      fun b o hbC hbf hbD e => hs₆.extBut b o hbD (up₂ b o hbC hbf (hk b o hbC hbf hbD e))⟩
  · have hin : i = n := by omega
    subst hin
    refine W.done _ _ _ hst' fun h₁ tk₁ hk₁ => ?_
    exact hR h₁ tk₁ m' (hn'.at' fun o e => hk₁ _ o hCw e) (hacc'.at fun o e => hk₁ _ o hDw e) fun b o hbC hbf hbD e => hk₁ b o hbf (hk b o hbC hbf hbD e)
end
section
variable {prog : Program} {w : World} {A : Around} {E : Value → Shared → Prop} {s : Shared} {h₀ : Heap} {L : Addr} {env : Env}
theorem assignDC {iter : Expr} {xa xb y : Str} {pa pb pt pk pv py pos spos : Pos} {kt : Nat} {scope : Scope} {Q : Flow → Shared → Prop}
    (hsw : swapsWith (.DictComp (.Name xa pk) (.Name xb pv) [⟨.Tuple [.Name xa pa, .Name xb pb] kt pt, iter, [], 0⟩] scope pos) (some (.Name y py)) spos.line env = pure true) (hL : env.locals = L)
    (hh : A.handled = none) (hclos : closureFor scope env = pure []) (hcell : ∀ z ∈ scope.names, z.2 ≠ .cell) (hkind : scope.kind = .function)
    (hnames : ∀ z ∈ scope.names, z.2 = .local → scope.names.lookup z.1 = some .local) (hxa : scope.names.lookup xa = some .local) (hxb : scope.names.lookup xb = some .local) (hab : xa ≠ xb) (hda : (xa == ("__debug__" : Str)) = false) (hdb : (xb == ("__debug__" : Str)) = false)
    (hy : env.kindOf y = some .local) (hp : (env.scope.kind == .class || (env.scope.kind == .module && env.locals != env.globals)) = false) (hlim : h₀.NoLimit)
    (h : wpAny (model prog w) A (eval iter env) (fun xv s₁ => ∃ (ax : Addr) (nn : Nat) (items : Array Value) (Ts : Nat → Addr) (ks : Nat → Int) (tks : Nat → Tok) (vs : Nat → Value) (m : Str → Option Value) (news : List (Addr × Obj)), xv = .ref ax ∧ (ax, W.listOf items nn) ∈ news ∧ items.size ≤ 64 ∧
      (∀ j, j < items.size → items[j]? = some (.ref (Ts j)) ∧ (Ts j, oTup #[.int (ks j) (tks j), vs j]) ∈ news) ∧ Fr h₀ L s₁.heap m ∧ News h₀ L s₁.heap news ∧
      ∀ D o h' tk, Fr h₀ L h' (fun z => if z = y then some (.ref D) else m z) → News h₀ L h' ((D, o) :: news) → (∀ p ∈ news, p.1 < D) → o.IsDictOf (intKind prog w) (upto ks vs items.size) → (D == sysModules) = false → Q .next { s₁ with heap := h', toks := tk }) E s)
    (hs : ∀ x, foldedSetIterable iter env x = pure x) :
    wpAny (model prog w) A (exec (.Assign [.Name y py] (.DictComp (.Name xa pk) (.Name xb pv) [⟨.Tuple [.Name xa pa, .Name xb pb] kt pt, iter, [], 0⟩] scope pos) spos) env) Q E s := by
  subst hL
  rw [exec_Assign_Name_used _ _ _ _ hsw]
  refine wpAny_bind (wpAny_standAt (wpAny_bind ?_))
  show wpAny _ A (do let _ ← comprehension (.DictComp (.Name xa pk) (.Name xb pv) [⟨.Tuple [.Name xa pa, .Name xb pb] kt pt, iter, [], 0⟩] scope pos) scope env _ newDict false (eval iter env) (some (assign (.Name y py) env))) _ _ s
  refine wpAny_bind (wpAny_mono (wpAny_comprehension_free (use := some (assign (.Name y py) env)) (Q := fun _ s' => Q .next s') rfl hs hclos hkind hnames
    (wpAny_mono h (fun xv s₁ h₁ => ?_) fun _ _ e => e)) (fun _ s' hq => wpAny_pure (wpAny_pure hq)) fun _ _ e => e)
  obtain ⟨ax, nn, items, Ts, ks, tks, vs, m, news, rfl, hax, hsz, hit, F, N, hQ⟩ := h₁
  have hl : s₁.heap.IsList ax items := ⟨_, (N _ hax).1, rfl, nn, rfl⟩
  have hlt : ax < s₁.heap.objs.size := Heap.lt_size (N _ hax).1
  have low : ∀ p ∈ news, p.1 < s₁.heap.objs.size := fun p hp => Heap.lt_size (N p hp).1
  have hLs : env.locals < s₁.heap.objs.size := F.ns.lt
  refine wpAny_pyIter_list hl ?_
  have W : WalksU prog w A s₁.heap.objs.size _ _ items.size (fun j v => v = #[.int (ks j) (tks j), vs j]) _ _ := WalksU.listOfTuples hh s₁.heap.objs.size ax (Nat.ne_of_lt hlt) items Ts (fun j => #[.int (ks j) (tks j), vs j]) (fun j hj => (hit j hj).1) (fun j hj => Nat.ne_of_lt (low _ (hit j hj).2))
  generalize hI : s₁.heap.objs.size = I at *
  generalize hH0 : s₁.heap.push { cls := .type "list_iterator", data := .fields #[.ref ax, .int 0 0] } = H0
  have hsz0 : H0.objs.size = I + 1 := by rw [← hH0, Heap.size_push, hI]
  have k0 : ∀ b o, s₁.heap.get? b = some o → H0.get? b = some o := fun b o e => by rw [← hH0]; exact Heap.get?_push_of_some _ e
  have hst0 : H0.IsListIter I ax 0 := ⟨_, by rw [← hH0, ← hI]; exact Heap.get?_push_size _ rfl, rfl, rfl⟩
  refine wpAny_newObj_type (wpAny_newFunctionEnv hcell (by intro y hy; simp at hy) (fun h₁ hns₁ hsb₁ => ?_) hkind)
  dsimp only at hns₁ hsb₁ ⊢
  have hnew : (H0.push { cls := .type "dict", dict := none, data := .dict #[] }).DictOf (intKind prog w) H0.objs.size [] := Heap.DictOf.new H0
  generalize hH2 : H0.push { cls := .type "dict", dict := none, data := .dict #[] } = H2 at hns₁ hsb₁ hnew ⊢
  have hC : H2.objs.size = I + 2 := by rw [← hH2, Heap.size_push, hsz0]
  have old : ∀ b o, s₁.heap.get? b = some o → h₁.get? b = some o := fun b o e => hsb₁.extBut b o (by rw [hC]; exact Nat.ne_of_lt (Nat.lt_trans (hI ▸ Heap.lt_size e) (Nat.lt_add_of_pos_right (by decide)))) (Heap.get?_push_of_some _ (hH2 ▸ Heap.get?_push_of_some _ (k0 b o e)))
  have hIt : h₁.IsListIter I ax 0 := hst0.at fun o e => hsb₁.extBut _ o (by rw [hC]; exact Nat.ne_of_lt (Nat.lt_add_of_pos_right (by decide))) (Heap.get?_push_of_some _ (hH2 ▸ Heap.get?_push_of_some _ e))
  have hacc : h₁.DictOf (intKind prog w) (I + 1) [] := (hsz0 ▸ hnew).at fun o e => hsb₁.extBut _ _ (by rw [hC]; exact Nat.ne_of_lt (Nat.lt_succ_self _)) (Heap.get?_push_of_some _ e)
  have hst₁ : (fun (j : Nat) (h : Heap) => h.IsListIter I ax j ∧ h.IsList ax items ∧ ∀ k, k < items.size → h.IsTuple (Ts k) #[.int (ks k) (tks k), vs k]) 0 h₁ := ⟨hIt, hl.at fun o e => old _ o e, fun k hk => ⟨_, old _ _ (N _ (hit k hk).2).1, rfl, 0, rfl⟩⟩
  have hfp : ∀ b ∈ (I :: ax :: (List.range items.size).map Ts), b ≤ I := fun b hb => by
    rcases List.mem_cons.mp hb with rfl | hb
    · exact Nat.le_refl _
    · rcases List.mem_cons.mp hb with rfl | hb
      · exact Nat.le_of_lt hlt
      · obtain ⟨k, hk, rfl⟩ := List.mem_map.mp hb
        exact Nat.le_of_lt (low _ (hit k (List.mem_range.mp hk)).2)
  rw [hsz0]
  have loop : ∀ s₃ : Shared, s₃ = { s₁ with heap := h₁, toks := s₁.toks + ([] : List (Str × Value)).length } →
      codeAny (model prog w) A (.compLoop (.DictComp (.Name xa pk) (.Name xb pv) [⟨.Tuple [.Name xa pa, .Name xb pb] kt pt, iter, [], 0⟩] scope pos) 0 (.ref I) (.ref (I + 1)) (compEnvC scope [] H2.objs.size env))
        (compPost (model prog w) A E (some (assign (.Name y py) env)) (fun _ s' => Q .next s') (.ref (I + 1)) H2.objs.size) s₃ := by
    rintro s₃ rfl
    refine dcWalk (cenv := compEnvC scope [] H2.objs.size env) W hh (lookup_relabel_local hxa) (lookup_relabel_local hxb) hab hda hdb hkind (by simp [compEnvC, relabel, hkind]) ?_ ?_ ?_ hst₁ hacc hns₁ (Nat.le_trans hsz (by rw [sizeLine_eq]; omega)) ?_
    · show I + 1 ≠ H2.objs.size
      rw [hC]; exact Nat.ne_of_lt (Nat.lt_succ_self _)
    · intro hm; exact Nat.not_succ_le_self _ (hfp _ hm)
    · intro hm
      have := hfp _ hm
      change H2.objs.size ≤ I at this
      rw [hC] at this
      exact Nat.not_succ_le_self _ (Nat.le_trans (Nat.le_succ _) this)
    · intro h' tk m' hn ha hk
      have up : ∀ b o, s₁.heap.get? b = some o → h'.get? b = some o := fun b o e => by
        have hb : b < I := hI ▸ Heap.lt_size e
        refine hk b o ?_ ?_ ?_ (old b o e)
        · show b ≠ H2.objs.size
          rw [hC]; exact Nat.ne_of_lt (Nat.lt_trans hb (Nat.lt_add_of_pos_right (by decide)))
        · intro hm; exact Nat.ne_of_lt hb (List.mem_singleton.mp hm)
        · exact Nat.ne_of_lt (Nat.lt_succ_of_lt hb)
      have hLC : env.locals ≠ H2.objs.size := by rw [hC]; exact Nat.ne_of_lt (Nat.lt_trans hLs (Nat.lt_add_of_pos_right (by decide)))
      have hLD : env.locals ≠ I + 1 := Nat.ne_of_lt (Nat.lt_succ_of_lt hLs)
      show wpAny _ A (assign (.Name y py) env (.ref (I + 1))) _ _ _
      refine wpAny_assign_Name (wpAny_storeName_local hy (F.ns.at' fun o e => up _ o e) (fun h₂ hn₂ hs₂ => ?_) hp)
      replace hs₂ : Heap.SameBut env.locals h' h₂ := hs₂
      refine ⟨m', hn.sameBut hs₂ (Ne.symm hLC), fun h₃ hs₃ => ?_⟩
      replace hs₃ : Heap.SameBut H2.objs.size h₂ h₃ := hs₃
      have keep : ∀ b o, b ≠ env.locals → s₁.heap.get? b = some o → h₃.get? b = some o := fun b o hb e =>
        hs₃.extBut b o (by rw [hC]; exact Nat.ne_of_lt (Nat.lt_trans (hI ▸ Heap.lt_size e) (Nat.lt_add_of_pos_right (by decide)))) (hs₂.extBut b o hb (up b o e))
      have hD3 : h₃.DictOf (intKind prog w) (I + 1) (upto ks vs items.size) := (ha.extBut hs₂.extBut (Ne.symm hLD)).extBut hs₃.extBut (by rw [hC]; exact Nat.ne_of_lt (Nat.lt_succ_self _))
      obtain ⟨oD, hoD, hdD⟩ := Heap.dictOf_iff.mp hD3
      refine hQ (I + 1) oD h₃ _ ⟨hn₂.sameBut hs₃ hLC, fun b o e => keep b o (Nat.ne_of_lt (Nat.lt_of_lt_of_le (Heap.lt_size e) F.above)) (F.keep b o e), F.above⟩ (fun p hp => ?_) (fun p hp => Nat.lt_succ_of_lt (low p hp)) hdD ?_
      · rcases List.mem_cons.mp hp with rfl | hp
        · refine ⟨hoD, Ne.symm hLD, ?_⟩
          cases e : h₀.get? (I + 1) with
          | none => rfl
          | some o' => exact absurd (Nat.lt_of_lt_of_le (Heap.lt_size (F.keep _ _ e)) (Nat.le_of_eq hI)) (Nat.not_lt.mpr (Nat.le_succ _))
        · exact ⟨keep _ _ (N p hp).2.1 (N p hp).1, (N p hp).2⟩
      · exact beq_eq_false_iff_ne.mpr (Nat.ne_of_gt (Nat.lt_trans (modules_low hlim) (Nat.lt_succ_of_lt (Nat.lt_of_le_of_lt F.above hLs))))
  exact codeAny_compStart_dict (loop _ rfl) (W.self 0 _ _ _ hst₁ (loop _ rfl))
end
end Mine
end
section
open PySem PySem.W PyProof.Rows
set_option maxRecDepth 100000
namespace Mine
section
variable {prog : Program} {w : World} {A : Around} {E : Value → Shared → Prop} {s : Shared} {env : Env} {h₀ : Heap} {body : List Stmt} {Q : Flow → Shared → Prop}
/-- the end of a turn over a list: q is the iterator's entry, lq the list's -/
noncomputable def GTurn (h₀ : Heap) (L : Addr) (J : (Str → Option Value) → Led → Prop) (q lq : Addr × Obj) (s : Shared) (f : Flow) (s' : Shared) : Prop :=
  f = .next ∧ ∃ h' tk g' m' news', s' = { s with heap := h', toks := tk, gens := g' } ∧ AllBare g' ∧ Fr h₀ L h' m' ∧ News h₀ L h' (q :: news') ∧ lq ∈ news' ∧ (∀ p ∈ news', p.1 ≠ q.1) ∧ J m' news'
theorem GTurn.intro {L : Addr} {J : (Str → Option Value) → Led → Prop} {q lq : Addr × Obj} {h' : Heap} {tk : Nat} {g' : Array GenState} {m' : Str → Option Value} {news' : Led} (G : AllBare g') (F : Fr h₀ L h' m') (N : News h₀ L h' (q :: news')) (hd : lq ∈ news') (off : ∀ p ∈ news', p.1 ≠ q.1) (hJ : J m' news') :
    GTurn h₀ L J q lq s .next { s with heap := h', toks := tk, gens := g' } := ⟨rfl, h', tk, g', m', news', rfl, G, F, N, hd, off, hJ⟩
theorem listG {x : Str} {px : Pos} {l : Addr} {vs : List Value} {nn : Nat} {m₀ : Str → Option Value} {news : Led} (J : Nat → (Str → Option Value) → Led → Prop)
    (hh : A.handled = none) (hx : env.kindOf x = some .local) (hp : (env.scope.kind == .class || (env.scope.kind == .module && env.locals != env.globals)) = false)
    (hl : (l, W.listOf vs.toArray nn) ∈ news) (F : Fr h₀ env.locals s.heap m₀) (N : News h₀ env.locals s.heap news) (G : AllBare s.gens) (hj : J 0 m₀ news) (hJl : ∀ i m₁ news₁, J i m₁ news₁ → (l, W.listOf vs.toArray nn) ∈ news₁)
    (turn : ∀ i v m₁ news₁ h tk g₁ I oI, vs[i]? = some v → J i m₁ news₁ → AllBare g₁ → Fr h₀ env.locals h (fun y => if y = x then some v else m₁ y) → News h₀ env.locals h ((I, oI) :: news₁) → (∀ p ∈ news₁, p.1 ≠ I) →
      wpAny (model prog w) A (execs body env) (GTurn h₀ env.locals (J (i + 1)) (I, oI) (l, W.listOf vs.toArray nn) s) E { s with heap := h, toks := tk, gens := g₁ })
    (done : ∀ m₁ news₁ h tk g₁, J vs.length m₁ news₁ → Fr h₀ env.locals h m₁ → News h₀ env.locals h news₁ → AllBare g₁ → Q .next { s with heap := h, toks := tk, gens := g₁ }) :
    wpAny (model prog w) A (pyIter (.ref l)) (fun it s₂ => TurnsG prog w A h₀ env (.Name x px) body Q E it s₂) E s := by
  have hol : s.heap.get? l = some (W.listOf vs.toArray nn) := (N _ hl).1
  have hls : s.heap.IsList l vs.toArray := ⟨_, hol, rfl, nn, rfl⟩
  have hne : l ≠ s.heap.objs.size := Nat.ne_of_lt (Heap.lt_size hol)
  refine wpAny_pyIter_list hls ?_
  have low : ∀ p ∈ news, p.1 < s.heap.objs.size := fun p hp => Heap.lt_size (N p hp).1
  have hLs : env.locals < s.heap.objs.size := F.ns.lt
  have hIn : h₀.get? s.heap.objs.size = none := next_is_new F
  have W := Walks.list (prog := prog) (w := w) hh s.heap.objs.size l hne vs.toArray
  have hlen : vs.toArray.size = vs.length := by simp
  rw [hlen] at W
  have K := KTurns.ofWalks (target := .Name x px) W fun i v s' Q' E' _ h => wpAny_of_eq (rfl : letOwnedTupleGo (.Name x px) (.ref s.heap.objs.size) v = pure ()) h
  let J' : Nat → (Str → Option Value) → Led → Prop := J
  refine ⟨_, _, _, vs.length, _, _, _, m₀, news, J', rfl, K, ?_, ?_, ?_, ⟨⟨_, Heap.get?_push_size _ rfl, rfl, rfl⟩, hls.at fun o e => Heap.get?_push_of_some _ e⟩, F.push _, (fun p hp => ⟨Heap.get?_push_of_some _ (N p hp).1, (N p hp).2⟩), G, hj, ?_, ?_⟩
  · intro hm
    rcases List.mem_cons.mp hm with e | hm
    · exact absurd hLs (e ▸ Nat.lt_irrefl _)
    · exact (N _ hl).2.1 (List.mem_singleton.mp hm).symm
  · intro b hb
    rw [List.mem_singleton.mp hb]
    exact hIn
  · intro p hp hI
    exact absurd (low p hp) ((List.mem_singleton.mp hI) ▸ Nat.lt_irrefl _)
  · rintro i v m₁ news₁ h₁ tk₁ g₁ own hin hP hJ hoff hown hall hst F₁ N₁ hg₁
    obtain ⟨⟨oI, hoI, hcI, hdI⟩, hlI⟩ := hst
    refine wpAny_assign_Name (wpAny_storeName_local hx F₁.ns (fun h₂ hn₂ hs₂ => ?_) hp)
    replace hs₂ : Heap.SameBut env.locals h₁ h₂ := hs₂
    have N₂ : News h₀ env.locals h₁ ((s.heap.objs.size, oI) :: news₁) := fun p hp => by
      rcases List.mem_cons.mp hp with rfl | hp
      · exact ⟨hoI, Nat.ne_of_gt hLs, hIn⟩
      · exact N₁ p (List.mem_append_right _ hp)
    have hoff' : ∀ p ∈ news₁, p.1 ≠ s.heap.objs.size := fun p hp q => hoff p hp (List.mem_singleton.mpr q)
    refine wpAny_mono (turn i v m₁ news₁ h₂ _ g₁ s.heap.objs.size oI (by simpa using hP) hJ hg₁ (F₁.set hn₂ hs₂) (N₂.set hs₂) hoff') (fun f s₃ h₃ => ?_) fun _ _ e => e
    obtain ⟨rfl, h', tk, g', m', news', rfl, hg', F', N', hdm, hoff₃, hJ₃⟩ := h₃
    refine ⟨rfl, h', tk, g', m', news', rfl, hg', F', fun p hp => ?_, fun p hp q => hoff₃ p hp (List.mem_singleton.mp q), hJ₃⟩
    rcases List.mem_append.mp hp with hp | hp
    · have hb' : p.1 = s.heap.objs.size ∨ p.1 = l := by simpa using hown p hp
      have e1 := (N₁ p (List.mem_append_left _ hp)).1
      obtain ⟨pa, po⟩ := p
      simp only at hb' e1
      rcases hb' with e | e
      · subst e
        rw [hoI] at e1
        cases e1
        exact N' _ (List.mem_cons_self ..)
      · subst e
        have e2 := (N₁ _ (List.mem_append_right _ (hJl _ _ _ hJ))).1
        simp only at e2
        rw [e2] at e1
        cases e1
        exact N' _ (List.mem_cons_of_mem _ hdm)
    · exact N' p (List.mem_cons_of_mem _ hp)
  · intro h' tk g' m' news' F' N' hg' hJ
    exact done m' news' h' tk g' hJ F' N' hg'
end
end Mine
end
section
open PySem PySem.W PyProof.Rows
set_option maxRecDepth 100000
namespace Mine

section
variable {w : World} {mg mb : Str → Option Value} {f : Addr} {dep : Nat} {vs : List Value} {Pre : Led → Prop} {dp un : Nat} {gd : Option (List Code)} {cn : Str} {cs : Scope} {a : Addr} {ccd : Value} {cl : List (Str × Addr)} {outer : List Env} {A₀ : Around} {base h₀ : Heap} {L : Addr} {m : Str → Option Value} {news : Led} {s : Shared} {Q E : Value → Shared → Prop} {ps : Array Value} {bm : Addr} {ob : Obj} {g : Obj → Led}
theorem SpecG.useU {Out : Led → Value → Prop} (S : SpecG w mg mb f dep vs Pre Out) (B : Below A₀ base outer h₀) (F : Fr h₀ L s.heap m) (X : (hd.heap_1 w.params).In h₀) (N : News h₀ L s.heap news) (U : UpdF tabA (tabObj ps) news g) (T : TopR mg mb h₀) (BM : BMod h₀ mainGlobals mg bm ob) (hk : cs.kind = .function)
    (hp : ∀ rest, (∀ p ∈ news, p.1 ≠ tabA → p ∈ rest) → Pre rest) (ht : TriplesOk ps.toList) (hg : AllBare s.gens) (hd : dp + dep < recursionLimit) (hu : un + 8 * dep + 100 < cLine)
    (ret : ∀ r tl h' tk' g' ps', Fr h₀ L h' m → News h₀ L h' (tl ++ g (tabObj ps')) → (∀ q ∈ tl, q.1 ≠ tabA ∧ ∀ p ∈ news, p.1 ≠ tabA → p.1 < q.1) → TriplesOk ps'.toList → AllBare g' → Out tl r → Q r { s with heap := h', toks := tk', gens := g' }) :
    wpAny (model Challenge.rw_pe0143_01.row.prog w) (ktrTop dp un gd cn cs L a ccd cl outer) (call (.ref f) vs) Q E s := by
  obtain ⟨pre, post, rfl, hgo, h1, h2⟩ := U.split
  refine S.use (news := pre ++ post) B F X (fun p hp => N p (by simp only [List.mem_cons, List.mem_append] at hp ⊢; rcases hp with h | h | h; exact .inr (.inl h); exact .inl h; exact .inr (.inr h))) T BM hk (hp _ fun p hp hne => ?_) (fun p hp => ?_) ht hg hd hu ?_
  · simp only [List.mem_cons, List.mem_append] at hp ⊢
    rcases hp with h | h | h
    · exact .inl h
    · exact absurd (by rw [h]) hne
    · exact .inr h
  · rcases List.mem_append.mp hp with h | h
    · exact h1 p h
    · exact h2 p h
  · intro r tl h' tk' g' ps' F' N' hlt htr hgb hout
    refine ret r tl h' tk' g' ps' F' (fun p hp => N' p ?_) (fun q hq => ⟨(hlt q hq).1, fun p hp hne => (hlt q hq).2 p ?_⟩) htr hgb hout
    · rw [hgo] at hp
      simp only [List.mem_cons, List.mem_append] at hp ⊢
      rcases hp with h | h | h | h
      · exact .inl h
      · exact .inr (.inr (.inl h))
      · exact .inr (.inl h)
      · exact .inr (.inr (.inr h))
    · simp only [List.mem_cons, List.mem_append] at hp ⊢
      rcases hp with h | h | h
      · exact .inl h
      · exact absurd (by rw [h]) hne
      · exact .inr h
end
/-- what _law_profile has gathered -/
structure Acc where
  n : Int
  s : Int
  ms : Int
  q : Int
  v : Nat → Int × Int × Int
noncomputable def shr (y : Int) : Int × Int × Int := ((y.fdiv 4).fmod 6, (y.fdiv 24).fmod 6, (y.fdiv 144).fmod 2)
noncomputable def v0 : Nat → Int × Int × Int
  | 0 => (1, 4, 0)
  | 1 => (5, 0, 0)
  | 2 => (2, 4, 1)
  | _ => (1, 2, 0)
noncomputable def acc0 : Acc := ⟨0, 0, 0, 0, v0⟩
noncomputable def stepP (a : Acc) (y : Int) : Acc := ⟨1 + a.n, y + a.s, -y + a.ms, 7 + a.q, fun k => if k = (y.fmod 4).toNat then ((shr y).1 + (a.v k).1, (shr y).2.1 + (a.v k).2.1, (shr y).2.2 + (a.v k).2.2) else a.v k⟩
noncomputable abbrev sumO (v : Int × Int × Int) (u : Tok × Tok × Tok) : Obj := oTup #[.int v.1 u.1, .int v.2.1 u.2.1, .int v.2.2 u.2.2]
noncomputable abbrev totO (a : Acc) (t : Nat → Tok) (D : Addr) : Obj := oTup #[.int a.n (t 0), .int a.s (t 1), .int a.ms (t 2), .int a.q (t 3), .ref D]
noncomputable abbrev profLed (a : Acc) (R D : Addr) (o : Obj) (e : Nat → Addr) (t : Nat → Tok) (u : Nat → Tok × Tok × Tok) : Led :=
  [(R, totO a t D), (D, o), (e 0, sumO (a.v 0) (u 0)), (e 1, sumO (a.v 1) (u 1)), (e 2, sumO (a.v 2) (u 2)), (e 3, sumO (a.v 3) (u 3))]
/-- what one more number makes of the entry -/
theorem prof_all {a : Acc} {y : Int} {k : Nat} (hk : k = (y.fmod 4).toNat) {P : Addr × Obj → Prop} {R D T : Addr} {o : Obj} {e : Nat → Addr} {u : Nat → Tok × Tok × Tok} {t0 t1 t2 t3 t4 t5 t6 : Tok}
    (hR : P (R, oTup #[.int (1 + a.n) t3, .int (y + a.s) t4, .int (-y + a.ms) t5, .int (7 + a.q) t6, .ref D])) (hD : P (D, o))
    (hT : P (T, oTup #[.int ((y.fdiv 4).fmod 6 + (a.v k).1) t0, .int ((y.fdiv 24).fmod 6 + (a.v k).2.1) t1, .int ((y.fdiv 144).fmod 2 + (a.v k).2.2) t2])) (he : ∀ j, j < 4 → P (e j, sumO (a.v j) (u j))) :
    ∀ p ∈ profLed (stepP a y) R D o (upd e k T) (fun j => match j with | 0 => t3 | 1 => t4 | 2 => t5 | _ => t6) (fun j => if j = k then (t0, t1, t2) else u j), P p := by
  have h4 : ∀ j, j < 4 → P (upd e k T j, sumO ((stepP a y).v j) (if j = k then (t0, t1, t2) else u j)) := by
    intro j hj
    by_cases h : j = k
    · subst h
      simp only [upd, stepP, shr, ← hk, if_true]
      exact hT
    · simp only [upd, stepP, ← hk, h, if_false]
      exact he j hj
  intro p hp
  simp only [profLed, List.mem_cons, List.not_mem_nil, or_false] at hp
  rcases hp with rfl | rfl | rfl | rfl | rfl | rfl
  · exact hR
  · exact hD
  · exact h4 0 (by decide)
  · exact h4 1 (by decide)
  · exact h4 2 (by decide)
  · exact h4 3 (by decide)
theorem take_fold {ys : List Int} {i : Nat} {y : Int} (h : ys[i]? = some y) : (ys.take (i + 1)).foldl stepP acc0 = stepP ((ys.take i).foldl stepP acc0) y := by
  rw [List.take_add_one, h]
  simp
local macro_rules | `(tactic| walk_at "mine sub") => `(tactic| first | exact sub_nil | (refine sub_cons (by ((repeat (first | assumption | exact List.Mem.head _ | refine List.Mem.tail _ ?_)); done)) ?_; walk_at "mine sub") | (intro p9 hp9; repeat (first | exact hp9 | refine List.mem_cons_of_mem _ ?_)))
local macro_rules | `(tactic| walk_at "exec Assign cons DictComp") => `(tactic| (refine stopAt ?_))
local macro_rules | `(tactic| walk_at "call ref") => `(tactic| (refine stopAt ?_))
local macro_rules | `(tactic| walk_at "GTurn") => `(tactic| (refine stopAt ?_))
local macro_rules | `(tactic| walk_at "exec For Name Name cons nil") => `(tactic| (refine stopAt ?_))
local macro_rules | `(tactic| walk_at "call type:list") => `(tactic| (refine stopAt ?_))
/-- what holds behind i turns of the profile's loop -/
noncomputable def profJ (w : World) (l : Addr) (vs : List Value) (ys : List Int) (nn : Nat) (news : Led) (i : Nat) (m₁ : Str → Option Value) (news₁ : Led) : Prop :=
  ∃ (R D : Addr) (o : Obj) (e : Nat → Addr) (t : Nat → Tok) (u : Nat → Tok × Tok × Tok) (ps₁ : Array Value) (m₂ : Str → Option Value), (m₁ = fun y => if y = Str.ofString "total" then some (.ref R) else if y = Str.ofString "fair" then some (.bool true) else m₂ y) ∧ news₁ = profLed ((ys.take i).foldl stepP acc0) R D o e t u ++ (l, W.listOf vs.toArray nn) :: (tabA, tabObj ps₁) :: news ∧ o.IsDictOf (intKind Challenge.rw_pe0143_01.row.prog w) (kv4 e) ∧ (D == sysModules) = false ∧ TriplesOk ps₁.toList ∧ (∀ q ∈ profLed ((ys.take i).foldl stepP acc0) R D o e t u, q.1 ≠ tabA ∧ ∀ p ∈ news, p.1 < q.1)
set_option maxHeartbeats 8000000 in
theorem prof_spec (w : World) (mg mb : Str → Option Value) (l : Addr) (vs : List Value) (ys : List Int) (nn : Nat) (hi : IntsAre vs ys) :
  SpecG w mg mb 75 6 [.ref l] (fun news => (l, W.listOf vs.toArray nn) ∈ news)
    (fun tl r => ∃ Z R D o e t u, tl = (Z, oTup #[.ref R, .bool true]) :: profLed (ys.foldl stepP acc0) R D o e t u ∧ r = .ref Z ∧ o.IsDictOf (intKind Challenge.rw_pe0143_01.row.prog w) (kv4 e) ∧ (D == sysModules) = false) := by
  unfold SpecG
  k_fill
  intro dp un gd cn cs ad ccd cl outer A₀ base h₀ L m news s Q E ps bm ob B F X N T BM hk hpre hnt htr hgb hdp hun hret
  have N1 : News h₀ L s.heap ((l, W.listOf vs.toArray nn) :: (tabA, tabObj ps) :: news) := fun p hp => N p (by
    simp only [List.mem_cons] at hp ⊢
    rcases hp with rfl | rfl | hp
    · exact .inr hpre
    · exact .inl rfl
    · exact .inr hp)
  clear N
  refine wpAny_call ?_
  k_dflt (((refine' enterR ?k1 ?k2 ?k3 ?k4 ?k5 ?kA ?kF ?kK ?k6 ?k7 ?k8 ?k9 ?kB ?_ ?c2 ?c3 ?c4 ?c5; (case kA => exact rfl); (case kF => exact rfl); (case kK => assumption); (case k1 => k_asm); (case k2 => k_asm); (case k3 => k_asm); (case k4 => k_asm); (case k5 => k_asm); (case k6 => k_is); (case k7 => k_is); (case k8 => ktr_room); (case k9 => exact BindsTo.of_eq rfl); (case c5 => decide); (case kB => exact locs rfl); (case c2 => exact rfl); (case c3 => exact rfl); (case c4 => exact rfl); k_whole; intro g' L' h' FG' F' N' B' X' T'; (try dsimp only); (try k_lift B'); (try k_fold))))
  k_steps
  unfold Stop
  refine' assignDC ?hsw ?hL ?hh ?hclos ?hcell ?hkind ?hnames ?hxa ?hxb ?hab ?hda ?hdb ?hy ?hp ?hlim ?_ ?hs
  (case hsw => with_unfolding_all rfl)
  (case hL => exact rfl)
  (case hh => exact rfl)
  (case hclos => with_unfolding_all rfl)
  (case hcell => decide)
  (case hkind => with_unfolding_all rfl)
  (case hnames => decide)
  (case hxa => with_unfolding_all rfl)
  (case hxb => with_unfolding_all rfl)
  (case hab => decide)
  (case hda => decide)
  (case hdb => decide)
  (case hy => with_unfolding_all rfl)
  (case hp => with_unfolding_all rfl)
  (case hlim => exact TopRead.nolimit (by k_asm))
  (case hs => intro _; rfl)
  k_steps
  unfold Stop
  (rename Fr _ _ _ _ => F9)
  (rename News _ _ _ _ => N9)
  refine' SpecO.use (start_spec w mg mb) ?B F9 ?X N9 ?T ?hk True.intro ?hd ?hu ?_
  (case B => k_asm)
  (case X => k_asm)
  (case T => k_asm)
  (case hk => rfl)
  (case hd => ktr_room)
  (case hu => ktr_units)
  intro r3 tl3 h3 tk3 F3 N3 hlt3 hout3
  obtain ⟨l3, d0, d1, d2, d3, e0, e1, e2, e3, k3, rfl, rfl⟩ := hout3
  refine ⟨l3, 0, #[.ref d0, .ref d1, .ref d2, .ref d3], (fun j => match j with | 0 => d0 | 1 => d1 | 2 => d2 | _ => d3), (fun j => j), (fun j => match j with | 0 => k3 0 | 1 => k3 4 | 2 => k3 8 | _ => k3 12), (fun j => match j with | 0 => .ref e0 | 1 => .ref e1 | 2 => .ref e2 | _ => .ref e3), _, _, rfl, by ((repeat (first | assumption | exact List.Mem.head _ | refine List.Mem.tail _ ?_)); done), Nat.le_of_ble_eq_true rfl, ?_, F3, N3, ?_⟩
  · intro j hj
    have hj' : j < 4 := hj
    match j, hj' with
    | 0, _ => exact ⟨rfl, by ((repeat (first | assumption | exact List.Mem.head _ | refine List.Mem.tail _ ?_)); done)⟩
    | 1, _ => exact ⟨rfl, by ((repeat (first | assumption | exact List.Mem.head _ | refine List.Mem.tail _ ?_)); done)⟩
    | 2, _ => exact ⟨rfl, by ((repeat (first | assumption | exact List.Mem.head _ | refine List.Mem.tail _ ?_)); done)⟩
    | 3, _ => exact ⟨rfl, by ((repeat (first | assumption | exact List.Mem.head _ | refine List.Mem.tail _ ?_)); done)⟩
  intro D4 o4 h4 tk4 F4 N4 l4 hd4 lo4
  change o4.IsDictOf (intKind Challenge.rw_pe0143_01.row.prog w) [(0, .ref e0), (1, .ref e1), (2, .ref e2), (3, .ref e3)] at hd4
  simp only [startLed, List.cons_append, List.nil_append] at N4
  clear N9 F9 N3 F3
  k_steps
  unfold Stop
  (rename Fr _ _ _ _ => F9)
  (rename News _ _ _ _ => N9)
  (rename D4 < _ ∧ _ => lR)
  obtain ⟨R4, hR4, _⟩ : ∃ R', R' = _ ∧ D4 < R' := ⟨_, rfl, lR.1⟩
  subst hR4
  refine' forG F9 ?_ ?hs ?hE
  (case hs => intro _; with_unfolding_all rfl)
  (case hE => first | passes_own | with_unfolding_all passes_own)
  refine ld F9 (by rfl) ?_
  refine' listG (vs := vs) (nn := nn) (news := profLed acc0 R4 D4 o4 (fun j => match j with | 0 => e0 | 1 => e1 | 2 => e2 | _ => e3) (fun j => match j with | 0 => tk4 | 1 => tk4 + 1 | 2 => tk4 + 1 + 1 | _ => tk4 + 1 + 1 + 1) (fun j => match j with | 0 => (k3 1, k3 2, k3 3) | 1 => (k3 5, k3 6, k3 7) | 2 => (k3 9, k3 10, k3 11) | _ => (k3 13, k3 14, k3 15)) ++ (l, W.listOf vs.toArray nn) :: (tabA, tabObj ps) :: news) (profJ w l vs ys nn news) rfl ?hx ?hp ?hl (fr_name (x := Str.ofString "total") (fr_name (x := Str.ofString "fair") F9 rfl) rfl) ?N hgb ?hj ?hJl ?turn ?done
  (case hx => with_unfolding_all rfl)
  (case hp => with_unfolding_all rfl)
  (case hl => simp)
  (case N =>
    intro p hp
    change p ∈ ((R4, oTup #[.int 0 tk4, .int 0 (tk4 + 1), .int 0 (tk4 + 1 + 1), .int 0 (tk4 + 1 + 1 + 1), .ref D4]) :: (D4, o4) :: (e0, tup3 (.int 1 (k3 1)) (.int 4 (k3 2)) (.int 0 (k3 3))) :: (e1, tup3 (.int 5 (k3 5)) (.int 0 (k3 6)) (.int 0 (k3 7))) :: (e2, tup3 (.int 2 (k3 9)) (.int 4 (k3 10)) (.int 1 (k3 11))) :: (e3, tup3 (.int 1 (k3 13)) (.int 2 (k3 14)) (.int 0 (k3 15))) :: (l, W.listOf vs.toArray nn) :: (tabA, tabObj ps) :: news) at hp
    refine N9 p ?_
    revert p
    walk_at "mine sub")
  (case hj =>
    refine ⟨R4, D4, o4, _, _, _, ps, _, rfl, rfl, hd4, lo4, htr, ?_⟩
    intro q hq
    simp only [profLed, List.mem_cons, List.not_mem_nil, or_false] at hq
    rcases hq with rfl | rfl | rfl | rfl | rfl | rfl
    · exact ⟨Nat.ne_of_gt lR.2.2.2.2.2.2.2.2.2.2.2.1, kst_ltOf lR.2.2.2.2.2.2.2.2.2.2.2.2⟩
    · exact ⟨Nat.ne_of_gt (l4 (tabA, tabObj ps) (by ((repeat (first | assumption | exact List.Mem.head _ | refine List.Mem.tail _ ?_)); done))), fun p hp => l4 p (by ((repeat (first | assumption | exact List.Mem.head _ | refine List.Mem.tail _ ?_)); done))⟩
    · exact ⟨Nat.ne_of_gt (hlt3 (e0, tup3 (.int 1 (k3 1)) (.int 4 (k3 2)) (.int 0 (k3 3))) (by ((repeat (first | assumption | exact List.Mem.head _ | refine List.Mem.tail _ ?_)); done)) (tabA, tabObj ps) (by ((repeat (first | assumption | exact List.Mem.head _ | refine List.Mem.tail _ ?_)); done))), fun p hp => hlt3 (e0, tup3 (.int 1 (k3 1)) (.int 4 (k3 2)) (.int 0 (k3 3))) (by ((repeat (first | assumption | exact List.Mem.head _ | refine List.Mem.tail _ ?_)); done)) p (by ((repeat (first | assumption | exact List.Mem.head _ | refine List.Mem.tail _ ?_)); done))⟩
    · exact ⟨Nat.ne_of_gt (hlt3 (e1, tup3 (.int 5 (k3 5)) (.int 0 (k3 6)) (.int 0 (k3 7))) (by ((repeat (first | assumption | exact List.Mem.head _ | refine List.Mem.tail _ ?_)); done)) (tabA, tabObj ps) (by ((repeat (first | assumption | exact List.Mem.head _ | refine List.Mem.tail _ ?_)); done))), fun p hp => hlt3 (e1, tup3 (.int 5 (k3 5)) (.int 0 (k3 6)) (.int 0 (k3 7))) (by ((repeat (first | assumption | exact List.Mem.head _ | refine List.Mem.tail _ ?_)); done)) p (by ((repeat (first | assumption | exact List.Mem.head _ | refine List.Mem.tail _ ?_)); done))⟩
    · exact ⟨Nat.ne_of_gt (hlt3 (e2, tup3 (.int 2 (k3 9)) (.int 4 (k3 10)) (.int 1 (k3 11))) (by ((repeat (first | assumption | exact List.Mem.head _ | refine List.Mem.tail _ ?_)); done)) (tabA, tabObj ps) (by ((repeat (first | assumption | exact List.Mem.head _ | refine List.Mem.tail _ ?_)); done))), fun p hp => hlt3 (e2, tup3 (.int 2 (k3 9)) (.int 4 (k3 10)) (.int 1 (k3 11))) (by ((repeat (first | assumption | exact List.Mem.head _ | refine List.Mem.tail _ ?_)); done)) p (by ((repeat (first | assumption | exact List.Mem.head _ | refine List.Mem.tail _ ?_)); done))⟩
    · exact ⟨Nat.ne_of_gt (hlt3 (e3, tup3 (.int 1 (k3 13)) (.int 2 (k3 14)) (.int 0 (k3 15))) (by ((repeat (first | assumption | exact List.Mem.head _ | refine List.Mem.tail _ ?_)); done)) (tabA, tabObj ps) (by ((repeat (first | assumption | exact List.Mem.head _ | refine List.Mem.tail _ ?_)); done))), fun p hp => hlt3 (e3, tup3 (.int 1 (k3 13)) (.int 2 (k3 14)) (.int 0 (k3 15))) (by ((repeat (first | assumption | exact List.Mem.head _ | refine List.Mem.tail _ ?_)); done)) p (by ((repeat (first | assumption | exact List.Mem.head _ | refine List.Mem.tail _ ?_)); done))⟩
    )
  (case hJl =>
    rintro i m₁ news₁ ⟨_, _, _, _, _, _, _, _, _, rfl, _⟩
    simp)
  (case turn =>
    rintro i v m₁ news₁ h5 tk5 g5 I5 oI5 hv ⟨R, D, o, e, t, u, ps₁, m₂, rfl, rfl, hdo, loD, htr1, hlt1⟩ hgb5 F5 N5 hoff5
    obtain ⟨y, ty, rfl, hy⟩ := hi.at i v hv
    obtain ⟨a, ha⟩ : ∃ a, a = (ys.take i).foldl stepP acc0 := ⟨_, rfl⟩
    rw [← ha] at N5 hoff5 hlt1
    simp only [profLed, List.cons_append, List.nil_append] at N5
    k_steps
    unfold Stop
    (rename Fr _ _ _ _ => lF')
    (rename News _ _ _ _ => lN')
    with_unfolding_all refine kdx_listN (knd := PySem.intKind _ _) (enc := PyData.int) (ps := [(fun t => Value.int 0 t, Value.ref (e 0)), (fun t => Value.int 1 t, Value.ref (e 1)), (fun t => Value.int 2 t, Value.ref (e 2)), (fun t => Value.int 3 t, Value.ref (e 3))]) (by rfl) lF' lN' (by k_mem) (by k_mem) (by k_asm) (Nat.le_of_ble_eq_true rfl) (fun _ _ h => Value.isInt_shape h) (by rfl) ?_
    clear lF' lN'
    intro lo' l0
    (try k_lt l0)
    k_steps
    (rename Fr _ _ _ _ => F9)
    (rename News _ _ _ _ => N9)
    k_dflt (refine' kdn_eval (knd := PySem.intKind _ _) F9 N9 (TopRead.nolimit (by k_asm)) rfl rfl (by simp) (by simp) ?_)
    clear F9 N9
    intro dT hT oT FT NT lT loT hdT
    have lT0 := lT
    (try k_lt lT)
    k_steps
    unfold Stop
    (rename Fr _ _ _ _ => F9)
    (rename News _ _ _ _ => N9)
    refine' SpecO.use (share_spec w mg mb y ty) ?B F9 ?X N9 ?T ?hk True.intro ?hd ?hu ?_
    (case B => k_asm)
    (case X => k_asm)
    (case T => k_asm)
    (case hk => rfl)
    (case hd => ktr_room)
    (case hu => ktr_units)
    clear F9 N9
    intro r6 tl6 h6 tk6 F6 N6 hlt6 hout6
    obtain ⟨S6, s1, s2, s3, rfl, rfl⟩ := hout6
    simp only [List.cons_append, List.nil_append] at N6
    have hSd : dT < S6 := hlt6 _ (List.mem_singleton.mpr rfl) (dT, oT) (List.mem_cons_self ..)
    have l6 := hlt6 _ (List.mem_singleton.mpr rfl)
    dsimp only at l6
    clear hlt6
    (try k_lt l6)
    k_steps
    unfold Stop
    (rename Fr _ _ _ _ => F9)
    (rename News _ _ _ _ => N9)
    (rename Obj.IsDictOf _ _ [(Int.fmod y 4, Value.ref S6)] => hdt)
    have hf0 : 0 ≤ y.fmod 4 := Int.fmod_nonneg_of_pos y (by decide)
    have hf4 : y.fmod 4 < 4 := Int.fmod_lt_of_pos y (by decide)
    have hkn : (((y.fmod 4).toNat : Nat) : Int) = y.fmod 4 := Int.toNat_of_nonneg hf0
    have hk4 : (y.fmod 4).toNat < 4 := by omega
    rw [← hkn] at hdt
    have hnR : R ≠ tabA := (hlt1 (R, totO a t D) (by ((repeat (first | assumption | exact List.Mem.head _ | refine List.Mem.tail _ ?_)); done))).1
    have hnD : D ≠ tabA := (hlt1 (D, o) (by ((repeat (first | assumption | exact List.Mem.head _ | refine List.Mem.tail _ ?_)); done))).1
    have hne0 : e 0 ≠ tabA := (hlt1 (e 0, sumO (a.v 0) (u 0)) (by ((repeat (first | assumption | exact List.Mem.head _ | refine List.Mem.tail _ ?_)); done))).1
    have hne1 : e 1 ≠ tabA := (hlt1 (e 1, sumO (a.v 1) (u 1)) (by ((repeat (first | assumption | exact List.Mem.head _ | refine List.Mem.tail _ ?_)); done))).1
    have hne2 : e 2 ≠ tabA := (hlt1 (e 2, sumO (a.v 2) (u 2)) (by ((repeat (first | assumption | exact List.Mem.head _ | refine List.Mem.tail _ ?_)); done))).1
    have hne3 : e 3 ≠ tabA := (hlt1 (e 3, sumO (a.v 3) (u 3)) (by ((repeat (first | assumption | exact List.Mem.head _ | refine List.Mem.tail _ ?_)); done))).1
    have hnl : l ≠ tabA := hnt _ hpre
    have hnI : I5 ≠ tabA := Ne.symm (hoff5 (tabA, tabObj ps₁) (by ((repeat (first | assumption | exact List.Mem.head _ | refine List.Mem.tail _ ?_)); done)))
    have hek : (e (y.fmod 4).toNat, sumO (a.v (y.fmod 4).toNat) (u (y.fmod 4).toNat)) ∈ [(e 0, sumO (a.v 0) (u 0)), (e 1, sumO (a.v 1) (u 1)), (e 2, sumO (a.v 2) (u 2)), (e 3, sumO (a.v 3) (u 3))] := by
      match (y.fmod 4).toNat, hk4 with
      | 0, _ => k_mem
      | 1, _ => k_mem
      | 2, _ => k_mem
      | 3, _ => k_mem
    have hnek : e (y.fmod 4).toNat ≠ tabA := (hlt1 (e (y.fmod 4).toNat, sumO (a.v (y.fmod 4).toNat) (u (y.fmod 4).toNat)) (List.mem_cons_of_mem _ (List.mem_cons_of_mem _ hek))).1
    refine' SpecG.useU (addf_spec w mg mb (y.fmod 4).toNat hk4 e R _ D dT S6 o _ a.n a.s a.ms a.q 1 y (-y) 7 ((y.fdiv 4).fmod 6) ((y.fdiv 24).fmod 6) ((y.fdiv 144).fmod 2) (a.v (y.fmod 4).toNat).1 (a.v (y.fmod 4).toNat).2.1 (a.v (y.fmod 4).toNat).2.2 (t 0) (t 1) (t 2) (t 3) _ _ _ _ s1 s2 s3 (u (y.fmod 4).toNat).1 (u (y.fmod 4).toNat).2.1 (u (y.fmod 4).toNat).2.2 loD loT hdo hdt) ?B F9 ?X N9 ?U ?T ?BM ?hk ?hp htr1 hgb5 ?hd ?hu ?_
    (case B => k_asm)
    (case X => k_asm)
    (case U => exact UpdF.tail (by first | assumption | exact Nat.ne_of_gt (by omega)) (UpdF.tail (by first | assumption | exact Nat.ne_of_gt (by omega)) (UpdF.tail (by first | assumption | exact Nat.ne_of_gt (by omega)) (UpdF.tail (by first | assumption | exact Nat.ne_of_gt (by omega)) (UpdF.tail (by first | assumption | exact Nat.ne_of_gt (by omega)) (UpdF.tail (by first | assumption | exact Nat.ne_of_gt (by omega)) (UpdF.tail (by first | assumption | exact Nat.ne_of_gt (by omega)) (UpdF.tail (by first | assumption | exact Nat.ne_of_gt (by omega)) (UpdF.tail (by first | assumption | exact Nat.ne_of_gt (by omega)) (UpdF.tail (by first | assumption | exact Nat.ne_of_gt (by omega)) (UpdF.tail (by first | assumption | exact Nat.ne_of_gt (by omega)) (UpdF.tail (by first | assumption | exact Nat.ne_of_gt (by omega)) (UpdF.tail (by first | assumption | exact Nat.ne_of_gt (by omega)) (UpdF.tail (by first | assumption | exact Nat.ne_of_gt (by omega)) (UpdF.tail (by first | assumption | exact Nat.ne_of_gt (by omega)) (UpdF.tail (by first | assumption | exact Nat.ne_of_gt (by omega)) (UpdF.tail (by first | assumption | exact Nat.ne_of_gt (by omega)) (UpdF.head hnt))))))))))))))))))
    (case T => k_asm)
    (case BM => exact BM.keeps (Fr.keep (by assumption)))
    (case hk => rfl)
    (case hd => ktr_room)
    (case hu => ktr_units)
    (case hp =>
      intro rest hr
      exact ⟨hr _ (by k_mem) hnR, hr _ (by k_mem) (by first | assumption | exact Nat.ne_of_gt (by omega)), hr _ (by k_mem) hnD, hr _ (by k_mem) (by first | assumption | exact Nat.ne_of_gt (by omega)), hr _ (List.mem_cons_of_mem _ (List.mem_cons_of_mem _ (List.mem_cons_of_mem _ (List.mem_cons_of_mem _ (List.mem_cons_of_mem _ (List.mem_cons_of_mem _ (List.mem_cons_of_mem _ (List.mem_cons_of_mem _ (List.mem_cons_of_mem _ (List.mem_cons_of_mem _ (List.mem_cons_of_mem _ (List.mem_cons_of_mem _ (List.mem_append_left _ hek))))))))))))) hnek, hr _ (by k_mem) (by first | assumption | exact Nat.ne_of_gt (by omega))⟩)
    intro r8 tl8 h8 tk8 g8 ps8 F8 N8 hlt8 htr8 hgb8 hout8
    obtain ⟨R8, T8, D8, u0, u1, u2, u3, u4, u5, u6, o8, rfl, rfl, hd8, lo8⟩ := hout8
    simp only [List.cons_append, List.nil_append] at N8
    clear F9 N9
    k_steps
    unfold Stop
    (rename Fr _ _ _ _ => lF')
    (rename News _ _ _ _ => lN')
    with_unfolding_all refine kdx_listN (knd := PySem.intKind _ _) (enc := PyData.int) (ps := [(fun t => Value.int 0 t, Value.ref (e 0)), (fun t => Value.int 1 t, Value.ref (e 1)), (fun t => Value.int 2 t, Value.ref (e 2)), (fun t => Value.int 3 t, Value.ref (e 3))]) (by rfl) lF' lN' (by k_mem) (by k_mem) (by k_asm) (Nat.le_of_ble_eq_true rfl) (fun _ _ h => Value.isInt_shape h) (by rfl) ?_
    clear lF' lN'
    intro lo2 l02
    (try k_lt l02)
    k_steps
    (rename Fr _ _ _ _ => F9)
    (rename News _ _ _ _ => N9)
    k_dflt (refine' kdn_eval (knd := PySem.intKind _ _) F9 N9 (TopRead.nolimit (by k_asm)) rfl rfl (by simp) (by simp) ?_)
    clear F9 N9
    intro dU hU oU FU NU lU loU hdU
    have lU0 := lU
    (try k_lt lU)
    k_steps
    unfold Stop
    (rename Fr _ _ _ _ => F9)
    (rename News _ _ _ _ => N9)
    refine' SpecO.use (share_spec w mg mb y ty) ?B F9 ?X N9 ?T ?hk True.intro ?hd ?hu ?_
    (case B => k_asm)
    (case X => k_asm)
    (case T => k_asm)
    (case hk => rfl)
    (case hd => ktr_room)
    (case hu => ktr_units)
    clear F9 N9
    intro r7 tl7 h7 tk7 F7 N7 hlt7 hout7
    obtain ⟨S7, s4, s5, s6, rfl, rfl⟩ := hout7
    simp only [List.cons_append, List.nil_append] at N7
    have hSd2 : dU < S7 := hlt7 _ (List.mem_singleton.mpr rfl) (dU, oU) (List.mem_cons_self ..)
    have l7 := hlt7 _ (List.mem_singleton.mpr rfl)
    dsimp only at l7
    clear hlt7
    (try k_lt l7)
    k_steps
    (rename News _ _ _ _ => N9)
    (rename Obj.IsDictOf _ _ [(Int.fmod y 4, Value.ref S7)] => hdu)
    rw [hkn] at hdt
    k_dflt (refine' keq_pairs (knd := PySem.intKind _ _) N9 ?pa ?pb hdt hdu loT loU rfl ?u (KeqHits.hit (y := Value.ref S7) (by show valueAt [(y.fmod 4, Value.ref S7)] (y.fmod 4) = _; simp [valueAt]) (keq_at ?ra ?rb ?sa ?sb ?room) KeqHits.nil) ?_)
    (case pa => k_mem)
    (case pb => k_mem)
    (case ra => ked_read)
    (case rb => ked_read)
    (case sa => rfl)
    (case sb => rfl)
    (case u => ktr_units)
    (case room => ktr_units)
    have heq : (PyData.tuple [PyData.int ((y.fdiv 4).fmod 6), PyData.int ((y.fdiv 24).fmod 6), PyData.int ((y.fdiv 144).fmod 2)]).eqv (PyData.tuple [PyData.int ((y.fdiv 4).fmod 6), PyData.int ((y.fdiv 24).fmod 6), PyData.int ((y.fdiv 144).fmod 2)]) = true := by simp [PyData.eqv, PyData.eqvAll]
    rw [heq, Bool.and_true]
    k_steps
    unfold Stop
    (rename Fr _ _ _ _ => F9)
    have hta : (ys.take (i + 1)).foldl stepP acc0 = stepP a y := by rw [take_fold hy, ← ha]
    have hlt8R := fun p hp hn => (hlt8 (R8, _) (List.mem_cons_self ..)).2 p hp hn
    have hlt8T := fun p hp hn => (hlt8 (T8, _) (List.mem_cons_of_mem _ (List.mem_cons_self ..))).2 p hp hn
    have hlt8D := fun p hp hn => (hlt8 (D8, o8) (List.mem_cons_of_mem _ (List.mem_cons_of_mem _ (List.mem_cons_self ..)))).2 p hp hn
    have h8R := (hlt8 (R8, _) (List.mem_cons_self ..)).1
    have h8T := (hlt8 (T8, _) (List.mem_cons_of_mem _ (List.mem_cons_self ..))).1
    have h8D := (hlt8 (D8, o8) (List.mem_cons_of_mem _ (List.mem_cons_of_mem _ (List.mem_cons_self ..)))).1
    dsimp only at hlt8R hlt8T hlt8D h8R h8T h8D
    have he5 : ∀ j, j < 4 → (e j, sumO (a.v j) (u j)) ∈ [(e 0, sumO (a.v 0) (u 0)), (e 1, sumO (a.v 1) (u 1)), (e 2, sumO (a.v 2) (u 2)), (e 3, sumO (a.v 3) (u 3))] := by
      intro j hj
      match j, hj with
      | 0, _ => k_mem
      | 1, _ => k_mem
      | 2, _ => k_mem
      | 3, _ => k_mem
    refine' GTurn.intro (news' := profLed (stepP a y) R8 D8 o8 (upd e (y.fmod 4).toNat T8) (fun j => match j with | 0 => u3 | 1 => u4 | 2 => u5 | _ => u6) (fun j => if j = (y.fmod 4).toNat then (u0, u1, u2) else u j) ++ (l, W.listOf vs.toArray nn) :: (tabA, tabObj ps8) :: news) hgb8 (fr_name (x := Str.ofString "total") (fr_name (x := Str.ofString "fair") F9 rfl) rfl) (news_sub ?Nt ?subt) ?lmt ?offt ?Jt
    (case Nt => assumption)
    (case subt =>
      refine sub_cons (by k_mem) (sub_app ?_ (by walk_at "mine sub"))
      intro p hp
      refine prof_all (P := fun p => p ∈ _) rfl ?_ ?_ ?_ ?_ p hp
      · k_mem
      · k_mem
      · k_mem
      · intro j hj
        match j, hj with
        | 0, _ => k_mem
        | 1, _ => k_mem
        | 2, _ => k_mem
        | 3, _ => k_mem)
    (case lmt => exact List.mem_append_right _ (List.mem_cons_self ..))
    (case offt =>
      intro p hp
      rcases List.mem_append.mp hp with hp | hp
      · refine prof_all (P := fun p => p.1 ≠ I5) rfl ?_ ?_ ?_ ?_ p hp
        · exact Nat.ne_of_gt (hlt8R (I5, oI5) (by ((repeat (first | assumption | exact List.Mem.head _ | refine List.Mem.tail _ ?_)); done)) hnI)
        · exact Nat.ne_of_gt (hlt8D (I5, oI5) (by ((repeat (first | assumption | exact List.Mem.head _ | refine List.Mem.tail _ ?_)); done)) hnI)
        · exact Nat.ne_of_gt (hlt8T (I5, oI5) (by ((repeat (first | assumption | exact List.Mem.head _ | refine List.Mem.tail _ ?_)); done)) hnI)
        · intro j hj
          exact hoff5 _ (List.mem_append_left _ (List.mem_cons_of_mem _ (List.mem_cons_of_mem _ (he5 j hj))))
      · simp only [List.mem_cons] at hp
        rcases hp with rfl | rfl | hp
        · exact hoff5 (l, _) (List.mem_append_right _ (List.mem_cons_self ..))
        · exact Ne.symm hnI
        · exact hoff5 p (List.mem_append_right _ (List.mem_cons_of_mem _ (List.mem_cons_of_mem _ hp))))
    (case Jt =>
      unfold profJ
      rw [hta]
      refine ⟨R8, D8, o8, upd e (y.fmod 4).toNat T8, (fun j => match j with | 0 => u3 | 1 => u4 | 2 => u5 | _ => u6), (fun j => if j = (y.fmod 4).toNat then (u0, u1, u2) else u j), ps8, _, rfl, rfl, hd8, lo8, htr8, ?_⟩
      refine prof_all (P := fun q => q.1 ≠ tabA ∧ ∀ p ∈ news, p.1 < q.1) rfl ?_ ?_ ?_ ?_
      · exact ⟨h8R, fun p hp => hlt8R p (by ((repeat (first | assumption | exact List.Mem.head _ | refine List.Mem.tail _ ?_)); done)) (hnt p hp)⟩
      · exact ⟨h8D, fun p hp => hlt8D p (by ((repeat (first | assumption | exact List.Mem.head _ | refine List.Mem.tail _ ?_)); done)) (hnt p hp)⟩
      · exact ⟨h8T, fun p hp => hlt8T p (by ((repeat (first | assumption | exact List.Mem.head _ | refine List.Mem.tail _ ?_)); done)) (hnt p hp)⟩
      · intro j hj
        exact hlt1 _ (List.mem_cons_of_mem _ (List.mem_cons_of_mem _ (he5 j hj)))))
  (case done =>
    rintro m₁ news₁ h5 tk5 g5 ⟨R, D, o, e, t, u, ps₁, m₂, rfl, rfl, hdo, loD, htr1, hlt1⟩ F5 N5 hgb5
    have hall : ys.take vs.length = ys := by rw [hi.length]; simp
    rw [hall] at N5 hlt1
    clear hall
    simp only [profLed, List.cons_append, List.nil_append] at N5
    clear N9 F9
    k_steps
    (rename R < _ ∧ _ => l9)
    refine' hret _ ((_, oTup #[.ref R, .bool true]) :: profLed (ys.foldl stepP acc0) R D o e t u) _ _ _ ps₁ ?Fd (news_sub ?Nd ?subd) ?ld htr1 hgb5 ⟨_, R, D, o, e, t, u, rfl, rfl, hdo, loD⟩
    (case Fd => k_asm)
    (case Nd => assumption)
    (case subd =>
      simp only [profLed, List.cons_append, List.nil_append]
      walk_at "mine sub")
    (case ld =>
      intro q hq
      rcases List.mem_cons.mp hq with rfl | hq
      · exact ⟨Nat.ne_of_gt l9.2.2.2.2.2.2.2.1, kst_ltOf l9.2.2.2.2.2.2.2.2⟩
      · exact hlt1 q hq))
end Mine
end
section
open PySem PySem.W PyProof.Rows
set_option maxRecDepth 100000
namespace Mine
noncomputable def tl (p q n : Nat) : List Nat := List.replicate p 97 ++ 58 :: n :: 40 :: (List.replicate q 98 ++ [41])
/-- the dots of a pattern of kind k -/
noncomputable def dotA (k : Nat) : Str := if k = 1 then Str.ofString "" else Str.ofString "..."
noncomputable def dotB (k : Nat) : Str := if k = 0 then Str.ofString "" else Str.ofString "..."
noncomputable def pt (k p q n : Nat) : Str := ctext p q n (dotA k) (dotB k)
noncomputable def pA (k p n : Nat) : Str := match k with | 1 => ofL (List.replicate p 97 ++ [58, 48 + n, 40]) | _ => ofL (List.replicate p 97)
noncomputable def pZ (k q n : Nat) : Str := match k with | 0 => ofL (58 :: (48 + n) :: 40 :: (List.replicate q 98 ++ [41])) | _ => ofL (List.replicate q 98 ++ [41])
noncomputable def pM (k n : Nat) : List Str := match k with | 2 => [ofL [58, 48 + n, 40]] | _ => []
noncomputable def plain (p q n : Nat) : Str := ctext p q n (Str.ofString "") (Str.ofString "")
noncomputable def okb (c : Nat) : Bool := c == 97 || c == 98 || c == 58 || c == 55 || c == 56 || c == 40 || c == 41
noncomputable def chkT (k p q n : Nat) : Bool :=
  decide (Txt.split (pt k p q n) (Str.ofString "...") = pA k p n :: (pM k n ++ [pZ k q n])) && decide ((Builtin.Str.occurrences (pt k p q n) (Str.ofString "...") 0 (pt k p q n).length 1).isEmpty = false) &&
  decide ((pt k p q n).length ≤ 40) && decide ((pA k p n).length ≤ 40) && decide ((pZ k q n).length ≤ 40) && decide ((pZ k q n).length ≠ 0) && PyData.strOk (Txt.mul (Str.ofString "a") p ++ dotA k)
noncomputable def chkP (p q n : Nat) : Bool :=
  decide (sg (plain p q n) = tl p q (48 + n)) && decide ((plain p q n).length ≤ 40) && PyData.strOk (Txt.mul (Str.ofString "a") p ++ Str.ofString "") && (tl p q (48 + n)).all okb
noncomputable def all6 (f : Nat → Bool) : Bool := (List.range 6).all f
theorem all6_at {f : Nat → Bool} (h : all6 f = true) {i : Nat} (hi : i < 6) : f i = true := List.all_eq_true.mp h i (List.mem_range.mpr hi)
theorem chkP_7 : (all6 fun p => all6 fun q => chkP p q 7) = true := by decide +kernel
theorem chkT_07 : (all6 fun p => all6 fun q => chkT 0 p q 7) = true := by decide +kernel
theorem chkT_17 : (all6 fun p => all6 fun q => chkT 1 p q 7) = true := by decide +kernel
theorem chkT_27 : (all6 fun p => all6 fun q => chkT 2 p q 7) = true := by decide +kernel
theorem chkP_8 : (all6 fun p => all6 fun q => chkP p q 8) = true := by decide +kernel
theorem chkT_08 : (all6 fun p => all6 fun q => chkT 0 p q 8) = true := by decide +kernel
theorem chkT_18 : (all6 fun p => all6 fun q => chkT 1 p q 8) = true := by decide +kernel
theorem chkT_28 : (all6 fun p => all6 fun q => chkT 2 p q 8) = true := by decide +kernel
theorem chkP_ok {p q n : Nat} (hp : p < 6) (hq : q < 6) (hn : n = 7 ∨ n = 8) : chkP p q n = true := by
  rcases hn with rfl | rfl
  · exact all6_at (all6_at chkP_7 hp) hq
  · exact all6_at (all6_at chkP_8 hp) hq
theorem chkT_ok {k p q n : Nat} (hk : k < 3) (hp : p < 6) (hq : q < 6) (hn : n = 7 ∨ n = 8) : chkT k p q n = true := by
  rcases hn with rfl | rfl
  · match k, hk with
    | 0, _ => exact all6_at (all6_at chkT_07 hp) hq
    | 1, _ => exact all6_at (all6_at chkT_17 hp) hq
    | 2, _ => exact all6_at (all6_at chkT_27 hp) hq
  · match k, hk with
    | 0, _ => exact all6_at (all6_at chkT_08 hp) hq
    | 1, _ => exact all6_at (all6_at chkT_18 hp) hq
    | 2, _ => exact all6_at (all6_at chkT_28 hp) hq
theorem okb_ok {c : Nat} (h : okb c = true) : okc c := by
  simpa only [okb, okc, Bool.or_eq_true, beq_iff_eq, or_assoc] using h
theorem plain_sg {p q n : Nat} (hp : p < 6) (hq : q < 6) (hn : n = 7 ∨ n = 8) : sg (plain p q n) = tl p q (48 + n) ∧ (plain p q n).length ≤ 40 ∧ PyData.strOk (Txt.mul (Str.ofString "a") p ++ Str.ofString "") = true ∧ ∀ c ∈ sg (plain p q n), okc c := by
  have h := chkP_ok hp hq hn
  simp only [chkP, Bool.and_eq_true, decide_eq_true_eq] at h
  exact ⟨h.1.1.1, h.1.1.2, h.1.2, fun c hc => okb_ok (List.all_eq_true.mp h.2 c (h.1.1.1 ▸ hc))⟩
theorem patt {k p q n : Nat} (hk : k < 3) (hp : p < 6) (hq : q < 6) (hn : n = 7 ∨ n = 8) : Txt.split (pt k p q n) (Str.ofString "...") = pA k p n :: (pM k n ++ [pZ k q n]) ∧ (Builtin.Str.occurrences (pt k p q n) (Str.ofString "...") 0 (pt k p q n).length 1).isEmpty = false ∧
    (pt k p q n).length ≤ 40 ∧ (pA k p n).length ≤ 40 ∧ (pZ k q n).length ≤ 40 ∧ (pZ k q n).length ≠ 0 ∧ PyData.strOk (Txt.mul (Str.ofString "a") p ++ dotA k) = true := by
  have h := chkT_ok hk hp hq hn
  simp only [chkT, Bool.and_eq_true, decide_eq_true_eq] at h
  exact ⟨h.1.1.1.1.1.1, h.1.1.1.1.1.2, h.1.1.1.1.2, h.1.1.1.2, h.1.1.2, h.1.2, h.2⟩
noncomputable def chkE (k p q n p2 q2 n2 : Nat) : Bool := ellS (pA k p n) (pM k n) (pZ k q n) (ofL (tl p2 q2 (48 + n2))) == fits p q n p2 q2 n2 k
theorem chkE_0770 : (all6 fun q => all6 fun p2 => all6 fun q2 => chkE 0 0 q 7 p2 q2 7) = true := by decide +kernel
theorem chkE_0771 : (all6 fun q => all6 fun p2 => all6 fun q2 => chkE 0 1 q 7 p2 q2 7) = true := by decide +kernel
theorem chkE_0772 : (all6 fun q => all6 fun p2 => all6 fun q2 => chkE 0 2 q 7 p2 q2 7) = true := by decide +kernel
theorem chkE_0773 : (all6 fun q => all6 fun p2 => all6 fun q2 => chkE 0 3 q 7 p2 q2 7) = true := by decide +kernel
theorem chkE_0774 : (all6 fun q => all6 fun p2 => all6 fun q2 => chkE 0 4 q 7 p2 q2 7) = true := by decide +kernel
theorem chkE_0775 : (all6 fun q => all6 fun p2 => all6 fun q2 => chkE 0 5 q 7 p2 q2 7) = true := by decide +kernel
theorem chkE_077 : (all6 fun p => all6 fun q => all6 fun p2 => all6 fun q2 => chkE 0 p q 7 p2 q2 7) = true := by
  refine List.all_eq_true.mpr fun p hp => ?_
  match p, List.mem_range.mp hp with
  | 0, _ => exact chkE_0770
  | 1, _ => exact chkE_0771
  | 2, _ => exact chkE_0772
  | 3, _ => exact chkE_0773
  | 4, _ => exact chkE_0774
  | 5, _ => exact chkE_0775
theorem chkE_0780 : (all6 fun q => all6 fun p2 => all6 fun q2 => chkE 0 0 q 7 p2 q2 8) = true := by decide +kernel
theorem chkE_0781 : (all6 fun q => all6 fun p2 => all6 fun q2 => chkE 0 1 q 7 p2 q2 8) = true := by decide +kernel
theorem chkE_0782 : (all6 fun q => all6 fun p2 => all6 fun q2 => chkE 0 2 q 7 p2 q2 8) = true := by decide +kernel
theorem chkE_0783 : (all6 fun q => all6 fun p2 => all6 fun q2 => chkE 0 3 q 7 p2 q2 8) = true := by decide +kernel
theorem chkE_0784 : (all6 fun q => all6 fun p2 => all6 fun q2 => chkE 0 4 q 7 p2 q2 8) = true := by decide +kernel
theorem chkE_0785 : (all6 fun q => all6 fun p2 => all6 fun q2 => chkE 0 5 q 7 p2 q2 8) = true := by decide +kernel
theorem chkE_078 : (all6 fun p => all6 fun q => all6 fun p2 => all6 fun q2 => chkE 0 p q 7 p2 q2 8) = true := by
  refine List.all_eq_true.mpr fun p hp => ?_
  match p, List.mem_range.mp hp with
  | 0, _ => exact chkE_0780
  | 1, _ => exact chkE_0781
  | 2, _ => exact chkE_0782
  | 3, _ => exact chkE_0783
  | 4, _ => exact chkE_0784
  | 5, _ => exact chkE_0785
theorem chkE_0870 : (all6 fun q => all6 fun p2 => all6 fun q2 => chkE 0 0 q 8 p2 q2 7) = true := by decide +kernel
theorem chkE_0871 : (all6 fun q => all6 fun p2 => all6 fun q2 => chkE 0 1 q 8 p2 q2 7) = true := by decide +kernel
theorem chkE_0872 : (all6 fun q => all6 fun p2 => all6 fun q2 => chkE 0 2 q 8 p2 q2 7) = true := by decide +kernel
theorem chkE_0873 : (all6 fun q => all6 fun p2 => all6 fun q2 => chkE 0 3 q 8 p2 q2 7) = true := by decide +kernel
theorem chkE_0874 : (all6 fun q => all6 fun p2 => all6 fun q2 => chkE 0 4 q 8 p2 q2 7) = true := by decide +kernel
theorem chkE_0875 : (all6 fun q => all6 fun p2 => all6 fun q2 => chkE 0 5 q 8 p2 q2 7) = true := by decide +kernel
theorem chkE_087 : (all6 fun p => all6 fun q => all6 fun p2 => all6 fun q2 => chkE 0 p q 8 p2 q2 7) = true := by
  refine List.all_eq_true.mpr fun p hp => ?_
  match p, List.mem_range.mp hp with
  | 0, _ => exact chkE_0870
  | 1, _ => exact chkE_0871
  | 2, _ => exact chkE_0872
  | 3, _ => exact chkE_0873
  | 4, _ => exact chkE_0874
  | 5, _ => exact chkE_0875
theorem chkE_0880 : (all6 fun q => all6 fun p2 => all6 fun q2 => chkE 0 0 q 8 p2 q2 8) = true := by decide +kernel
theorem chkE_0881 : (all6 fun q => all6 fun p2 => all6 fun q2 => chkE 0 1 q 8 p2 q2 8) = true := by decide +kernel
theorem chkE_0882 : (all6 fun q => all6 fun p2 => all6 fun q2 => chkE 0 2 q 8 p2 q2 8) = true := by decide +kernel
theorem chkE_0883 : (all6 fun q => all6 fun p2 => all6 fun q2 => chkE 0 3 q 8 p2 q2 8) = true := by decide +kernel
theorem chkE_0884 : (all6 fun q => all6 fun p2 => all6 fun q2 => chkE 0 4 q 8 p2 q2 8) = true := by decide +kernel
theorem chkE_0885 : (all6 fun q => all6 fun p2 => all6 fun q2 => chkE 0 5 q 8 p2 q2 8) = true := by decide +kernel
theorem chkE_088 : (all6 fun p => all6 fun q => all6 fun p2 => all6 fun q2 => chkE 0 p q 8 p2 q2 8) = true := by
  refine List.all_eq_true.mpr fun p hp => ?_
  match p, List.mem_range.mp hp with
  | 0, _ => exact chkE_0880
  | 1, _ => exact chkE_0881
  | 2, _ => exact chkE_0882
  | 3, _ => exact chkE_0883
  | 4, _ => exact chkE_0884
  | 5, _ => exact chkE_0885
theorem chkE_1770 : (all6 fun q => all6 fun p2 => all6 fun q2 => chkE 1 0 q 7 p2 q2 7) = true := by decide +kernel
theorem chkE_1771 : (all6 fun q => all6 fun p2 => all6 fun q2 => chkE 1 1 q 7 p2 q2 7) = true := by decide +kernel
theorem chkE_1772 : (all6 fun q => all6 fun p2 => all6 fun q2 => chkE 1 2 q 7 p2 q2 7) = true := by decide +kernel
theorem chkE_1773 : (all6 fun q => all6 fun p2 => all6 fun q2 => chkE 1 3 q 7 p2 q2 7) = true := by decide +kernel
theorem chkE_1774 : (all6 fun q => all6 fun p2 => all6 fun q2 => chkE 1 4 q 7 p2 q2 7) = true := by decide +kernel
theorem chkE_1775 : (all6 fun q => all6 fun p2 => all6 fun q2 => chkE 1 5 q 7 p2 q2 7) = true := by decide +kernel
theorem chkE_177 : (all6 fun p => all6 fun q => all6 fun p2 => all6 fun q2 => chkE 1 p q 7 p2 q2 7) = true := by
  refine List.all_eq_true.mpr fun p hp => ?_
  match p, List.mem_range.mp hp with
  | 0, _ => exact chkE_1770
  | 1, _ => exact chkE_1771
  | 2, _ => exact chkE_1772
  | 3, _ => exact chkE_1773
  | 4, _ => exact chkE_1774
  | 5, _ => exact chkE_1775
theorem chkE_1780 : (all6 fun q => all6 fun p2 => all6 fun q2 => chkE 1 0 q 7 p2 q2 8) = true := by decide +kernel
theorem chkE_1781 : (all6 fun q => all6 fun p2 => all6 fun q2 => chkE 1 1 q 7 p2 q2 8) = true := by decide +kernel
theorem chkE_1782 : (all6 fun q => all6 fun p2 => all6 fun q2 => chkE 1 2 q 7 p2 q2 8) = true := by decide +kernel
theorem chkE_1783 : (all6 fun q => all6 fun p2 => all6 fun q2 => chkE 1 3 q 7 p2 q2 8) = true := by decide +kernel
theorem chkE_1784 : (all6 fun q => all6 fun p2 => all6 fun q2 => chkE 1 4 q 7 p2 q2 8) = true := by decide +kernel
theorem chkE_1785 : (all6 fun q => all6 fun p2 => all6 fun q2 => chkE 1 5 q 7 p2 q2 8) = true := by decide +kernel
theorem chkE_178 : (all6 fun p => all6 fun q => all6 fun p2 => all6 fun q2 => chkE 1 p q 7 p2 q2 8) = true := by
  refine List.all_eq_true.mpr fun p hp => ?_
  match p, List.mem_range.mp hp with
  | 0, _ => exact chkE_1780
  | 1, _ => exact chkE_1781
  | 2, _ => exact chkE_1782
  | 3, _ => exact chkE_1783
  | 4, _ => exact chkE_1784
  | 5, _ => exact chkE_1785
theorem chkE_1870 : (all6 fun q => all6 fun p2 => all6 fun q2 => chkE 1 0 q 8 p2 q2 7) = true := by decide +kernel
theorem chkE_1871 : (all6 fun q => all6 fun p2 => all6 fun q2 => chkE 1 1 q 8 p2 q2 7) = true := by decide +kernel
theorem chkE_1872 : (all6 fun q => all6 fun p2 => all6 fun q2 => chkE 1 2 q 8 p2 q2 7) = true := by decide +kernel
theorem chkE_1873 : (all6 fun q => all6 fun p2 => all6 fun q2 => chkE 1 3 q 8 p2 q2 7) = true := by decide +kernel
theorem chkE_1874 : (all6 fun q => all6 fun p2 => all6 fun q2 => chkE 1 4 q 8 p2 q2 7) = true := by decide +kernel
theorem chkE_1875 : (all6 fun q => all6 fun p2 => all6 fun q2 => chkE 1 5 q 8 p2 q2 7) = true := by decide +kernel
theorem chkE_187 : (all6 fun p => all6 fun q => all6 fun p2 => all6 fun q2 => chkE 1 p q 8 p2 q2 7) = true := by
  refine List.all_eq_true.mpr fun p hp => ?_
  match p, List.mem_range.mp hp with
  | 0, _ => exact chkE_1870
  | 1, _ => exact chkE_1871
  | 2, _ => exact chkE_1872
  | 3, _ => exact chkE_1873
  | 4, _ => exact chkE_1874
  | 5, _ => exact chkE_1875
theorem chkE_1880 : (all6 fun q => all6 fun p2 => all6 fun q2 => chkE 1 0 q 8 p2 q2 8) = true := by decide +kernel
theorem chkE_1881 : (all6 fun q => all6 fun p2 => all6 fun q2 => chkE 1 1 q 8 p2 q2 8) = true := by decide +kernel
theorem chkE_1882 : (all6 fun q => all6 fun p2 => all6 fun q2 => chkE 1 2 q 8 p2 q2 8) = true := by decide +kernel
theorem chkE_1883 : (all6 fun q => all6 fun p2 => all6 fun q2 => chkE 1 3 q 8 p2 q2 8) = true := by decide +kernel
theorem chkE_1884 : (all6 fun q => all6 fun p2 => all6 fun q2 => chkE 1 4 q 8 p2 q2 8) = true := by decide +kernel
theorem chkE_1885 : (all6 fun q => all6 fun p2 => all6 fun q2 => chkE 1 5 q 8 p2 q2 8) = true := by decide +kernel
theorem chkE_188 : (all6 fun p => all6 fun q => all6 fun p2 => all6 fun q2 => chkE 1 p q 8 p2 q2 8) = true := by
  refine List.all_eq_true.mpr fun p hp => ?_
  match p, List.mem_range.mp hp with
  | 0, _ => exact chkE_1880
  | 1, _ => exact chkE_1881
  | 2, _ => exact chkE_1882
  | 3, _ => exact chkE_1883
  | 4, _ => exact chkE_1884
  | 5, _ => exact chkE_1885
theorem chkE_2770 : (all6 fun q => all6 fun p2 => all6 fun q2 => chkE 2 0 q 7 p2 q2 7) = true := by decide +kernel
theorem chkE_2771 : (all6 fun q => all6 fun p2 => all6 fun q2 => chkE 2 1 q 7 p2 q2 7) = true := by decide +kernel
theorem chkE_2772 : (all6 fun q => all6 fun p2 => all6 fun q2 => chkE 2 2 q 7 p2 q2 7) = true := by decide +kernel
theorem chkE_2773 : (all6 fun q => all6 fun p2 => all6 fun q2 => chkE 2 3 q 7 p2 q2 7) = true := by decide +kernel
theorem chkE_2774 : (all6 fun q => all6 fun p2 => all6 fun q2 => chkE 2 4 q 7 p2 q2 7) = true := by decide +kernel
theorem chkE_2775 : (all6 fun q => all6 fun p2 => all6 fun q2 => chkE 2 5 q 7 p2 q2 7) = true := by decide +kernel
theorem chkE_277 : (all6 fun p => all6 fun q => all6 fun p2 => all6 fun q2 => chkE 2 p q 7 p2 q2 7) = true := by
  refine List.all_eq_true.mpr fun p hp => ?_
  match p, List.mem_range.mp hp with
  | 0, _ => exact chkE_2770
  | 1, _ => exact chkE_2771
  | 2, _ => exact chkE_2772
  | 3, _ => exact chkE_2773
  | 4, _ => exact chkE_2774
  | 5, _ => exact chkE_2775
theorem chkE_2780 : (all6 fun q => all6 fun p2 => all6 fun q2 => chkE 2 0 q 7 p2 q2 8) = true := by decide +kernel
theorem chkE_2781 : (all6 fun q => all6 fun p2 => all6 fun q2 => chkE 2 1 q 7 p2 q2 8) = true := by decide +kernel
theorem chkE_2782 : (all6 fun q => all6 fun p2 => all6 fun q2 => chkE 2 2 q 7 p2 q2 8) = true := by decide +kernel
theorem chkE_2783 : (all6 fun q => all6 fun p2 => all6 fun q2 => chkE 2 3 q 7 p2 q2 8) = true := by decide +kernel
theorem chkE_2784 : (all6 fun q => all6 fun p2 => all6 fun q2 => chkE 2 4 q 7 p2 q2 8) = true := by decide +kernel
theorem chkE_2785 : (all6 fun q => all6 fun p2 => all6 fun q2 => chkE 2 5 q 7 p2 q2 8) = true := by decide +kernel
theorem chkE_278 : (all6 fun p => all6 fun q => all6 fun p2 => all6 fun q2 => chkE 2 p q 7 p2 q2 8) = true := by
  refine List.all_eq_true.mpr fun p hp => ?_
  match p, List.mem_range.mp hp with
  | 0, _ => exact chkE_2780
  | 1, _ => exact chkE_2781
  | 2, _ => exact chkE_2782
  | 3, _ => exact chkE_2783
  | 4, _ => exact chkE_2784
  | 5, _ => exact chkE_2785
theorem chkE_2870 : (all6 fun q => all6 fun p2 => all6 fun q2 => chkE 2 0 q 8 p2 q2 7) = true := by decide +kernel
theorem chkE_2871 : (all6 fun q => all6 fun p2 => all6 fun q2 => chkE 2 1 q 8 p2 q2 7) = true := by decide +kernel
theorem chkE_2872 : (all6 fun q => all6 fun p2 => all6 fun q2 => chkE 2 2 q 8 p2 q2 7) = true := by decide +kernel
theorem chkE_2873 : (all6 fun q => all6 fun p2 => all6 fun q2 => chkE 2 3 q 8 p2 q2 7) = true := by decide +kernel
theorem chkE_2874 : (all6 fun q => all6 fun p2 => all6 fun q2 => chkE 2 4 q 8 p2 q2 7) = true := by decide +kernel
theorem chkE_2875 : (all6 fun q => all6 fun p2 => all6 fun q2 => chkE 2 5 q 8 p2 q2 7) = true := by decide +kernel
theorem chkE_287 : (all6 fun p => all6 fun q => all6 fun p2 => all6 fun q2 => chkE 2 p q 8 p2 q2 7) = true := by
  refine List.all_eq_true.mpr fun p hp => ?_
  match p, List.mem_range.mp hp with
  | 0, _ => exact chkE_2870
  | 1, _ => exact chkE_2871
  | 2, _ => exact chkE_2872
  | 3, _ => exact chkE_2873
  | 4, _ => exact chkE_2874
  | 5, _ => exact chkE_2875
theorem chkE_2880 : (all6 fun q => all6 fun p2 => all6 fun q2 => chkE 2 0 q 8 p2 q2 8) = true := by decide +kernel
theorem chkE_2881 : (all6 fun q => all6 fun p2 => all6 fun q2 => chkE 2 1 q 8 p2 q2 8) = true := by decide +kernel
theorem chkE_2882 : (all6 fun q => all6 fun p2 => all6 fun q2 => chkE 2 2 q 8 p2 q2 8) = true := by decide +kernel
theorem chkE_2883 : (all6 fun q => all6 fun p2 => all6 fun q2 => chkE 2 3 q 8 p2 q2 8) = true := by decide +kernel
theorem chkE_2884 : (all6 fun q => all6 fun p2 => all6 fun q2 => chkE 2 4 q 8 p2 q2 8) = true := by decide +kernel
theorem chkE_2885 : (all6 fun q => all6 fun p2 => all6 fun q2 => chkE 2 5 q 8 p2 q2 8) = true := by decide +kernel
theorem chkE_288 : (all6 fun p => all6 fun q => all6 fun p2 => all6 fun q2 => chkE 2 p q 8 p2 q2 8) = true := by
  refine List.all_eq_true.mpr fun p hp => ?_
  match p, List.mem_range.mp hp with
  | 0, _ => exact chkE_2880
  | 1, _ => exact chkE_2881
  | 2, _ => exact chkE_2882
  | 3, _ => exact chkE_2883
  | 4, _ => exact chkE_2884
  | 5, _ => exact chkE_2885
theorem chkE_ok {k p q n p2 q2 n2 : Nat} (hk : k < 3) (hp : p < 6) (hq : q < 6) (hn : n = 7 ∨ n = 8) (hp2 : p2 < 6) (hq2 : q2 < 6) (hn2 : n2 = 7 ∨ n2 = 8) : chkE k p q n p2 q2 n2 = true := by
  rcases hn with rfl | rfl <;> rcases hn2 with rfl | rfl
  · match k, hk with
    | 0, _ => exact all6_at (all6_at (all6_at (all6_at chkE_077 hp) hq) hp2) hq2
    | 1, _ => exact all6_at (all6_at (all6_at (all6_at chkE_177 hp) hq) hp2) hq2
    | 2, _ => exact all6_at (all6_at (all6_at (all6_at chkE_277 hp) hq) hp2) hq2
  · match k, hk with
    | 0, _ => exact all6_at (all6_at (all6_at (all6_at chkE_078 hp) hq) hp2) hq2
    | 1, _ => exact all6_at (all6_at (all6_at (all6_at chkE_178 hp) hq) hp2) hq2
    | 2, _ => exact all6_at (all6_at (all6_at (all6_at chkE_278 hp) hq) hp2) hq2
  · match k, hk with
    | 0, _ => exact all6_at (all6_at (all6_at (all6_at chkE_087 hp) hq) hp2) hq2
    | 1, _ => exact all6_at (all6_at (all6_at (all6_at chkE_187 hp) hq) hp2) hq2
    | 2, _ => exact all6_at (all6_at (all6_at (all6_at chkE_287 hp) hq) hp2) hq2
  · match k, hk with
    | 0, _ => exact all6_at (all6_at (all6_at (all6_at chkE_088 hp) hq) hp2) hq2
    | 1, _ => exact all6_at (all6_at (all6_at (all6_at chkE_188 hp) hq) hp2) hq2
    | 2, _ => exact all6_at (all6_at (all6_at (all6_at chkE_288 hp) hq) hp2) hq2
theorem ell_ok {k p q n p2 q2 n2 : Nat} (hk : k < 3) (hp : p < 6) (hq : q < 6) (hn : n = 7 ∨ n = 8) (hp2 : p2 < 6) (hq2 : q2 < 6) (hn2 : n2 = 7 ∨ n2 = 8) : ellS (pA k p n) (pM k n) (pZ k q n) (plain p2 q2 n2) = fits p q n p2 q2 n2 k := by
  have h := chkE_ok hk hp hq hn hp2 hq2 hn2
  have e : plain p2 q2 n2 = ofL (tl p2 q2 (48 + n2)) := by rw [← (plain_sg hp2 hq2 hn2).1, ofL_sg]
  rw [e]
  exact beq_iff_eq.mp h
end Mine
end
section
open PySem PySem.W PyProof.Rows
set_option maxRecDepth 100000
namespace Mine
theorem lcp_cons (c : Nat) (x y : List Nat) : lcp (c :: x) (c :: y) = lcp x y + 1 := by simp [lcp]
theorem strip1_cons (c : Nat) (x y : List Nat) : strip1 (c :: x) (c :: y) = strip1 x y := by simp [strip1, lcp_cons]
theorem lev_cons (c : Nat) (x y : List Nat) (mc : Int) : levS (c :: x) (c :: y) mc = levS x y mc := by
  unfold levS
  rw [strip1_cons]
  simp
theorem lev_pre (k c : Nat) (x y : List Nat) (mc : Int) : levS (List.replicate k c ++ x) (List.replicate k c ++ y) mc = levS x y mc := by
  induction k with
  | zero => rfl
  | succ k ih => rw [List.replicate_succ, List.cons_append, List.cons_append, lev_cons, ih]
theorem lcp_app : ∀ (u v s t : List Nat), lcp u v < u.length → lcp u v < v.length → lcp (u ++ s) (v ++ t) = lcp u v
  | [], _, _, _, h, _ => by simp at h
  | _ :: _, [], _, _, _, h => by simp at h
  | a :: u, b :: v, s, t, h1, h2 => by
    by_cases e : a = b
    · subst e
      rw [lcp_cons] at h1 h2
      rw [List.cons_append, List.cons_append, lcp_cons, lcp_cons, lcp_app u v s t (by simpa using h1) (by simpa using h2)]
    · simp [lcp, e]
theorem lcp_same (s u v : List Nat) : lcp (s ++ u) (s ++ v) = s.length + lcp u v := by
  induction s with
  | nil => simp
  | cons c s ih => rw [List.cons_append, List.cons_append, lcp_cons, ih, List.length_cons]; omega
theorem strip2_app (u v s : List Nat) : strip2 (u ++ s) (v ++ s) = strip2 u v := by
  have hl := lcp_le u.reverse v.reverse
  rw [List.length_reverse, List.length_reverse] at hl
  unfold strip2
  rw [List.reverse_append, List.reverse_append, lcp_same, List.length_reverse, List.length_append, List.length_append]
  have e : ∀ a b c : Nat, a + b - (b + c) = a - c := fun a b c => by rw [Nat.add_comm a b, Nat.add_sub_add_left]
  rw [e, e, List.take_append_of_le_length (Nat.sub_le ..), List.take_append_of_le_length (Nat.sub_le ..)]
theorem lev_suf (u v s : List Nat) (mc : Int) (h1 : lcp u v < u.length) (h2 : lcp u v < v.length) : levS (u ++ s) (v ++ s) mc = levS u v mc := by
  unfold levS
  have e : strip1 (u ++ s) (v ++ s) = ((strip1 u v).1 ++ s, (strip1 u v).2 ++ s) := by
    unfold strip1
    rw [lcp_app u v s s h1 h2, List.drop_append_of_le_length (by omega), List.drop_append_of_le_length (by omega)]
  rw [e]
  simp only [strip2_app, List.append_cancel_right_eq]
/-- the core of a text: the suffix is cut -/
noncomputable def tc (p q n : Nat) : List Nat := List.replicate p 97 ++ 58 :: n :: 40 :: List.replicate q 98
theorem tl_tc (k p q l n : Nat) : tl (k + p) (q + l) n = List.replicate k 97 ++ (tc p q n ++ (List.replicate l 98 ++ [41])) := by
  unfold tl tc
  rw [← List.replicate_append_replicate, ← List.replicate_append_replicate]
  simp only [List.append_assoc, List.cons_append]
theorem dist_shift (k p q l n p2 q2 n2 : Int) : distD (k + p) (q + l) n (k + p2) (q2 + l) n2 = distD p q n p2 q2 n2 := by
  unfold distD
  have e1 : k + p2 - (k + p) = p2 - p := by omega
  have e2 : q2 + l - (q + l) = q2 - q := by omega
  rw [e1, e2]
noncomputable def good (d : Int) (f : Int → Int) : Bool := f d == d && f (d - 1) == d && (decide (0 < f 0) == decide (0 < d))
noncomputable def chkL (p q n p2 q2 n2 : Nat) : Bool :=
  decide (lcp (tc p q (48 + n)) (tc p2 q2 (48 + n2)) < (tc p q (48 + n)).length) && decide (lcp (tc p q (48 + n)) (tc p2 q2 (48 + n2)) < (tc p2 q2 (48 + n2)).length) &&
    good (distD p q n p2 q2 n2) (levS (tc p q (48 + n)) (tc p2 q2 (48 + n2)))
noncomputable def chkS (q q2 n : Nat) : Bool := good (distD 0 q n 0 q2 n) (levS (tl 0 q (48 + n)) (tl 0 q2 (48 + n)))
theorem chkS_7 : (all6 fun q => all6 fun q2 => chkS q q2 7) = true := by decide +kernel
theorem chkS_8 : (all6 fun q => all6 fun q2 => chkS q q2 8) = true := by decide +kernel
noncomputable def chkM (p q n p2 q2 n2 : Nat) : Bool := (n == n2 && p == 0 && p2 == 0) || chkL p q n p2 q2 n2
theorem chkM_77a : (all6 fun p => all6 fun q => chkM p q 7 0 0 7) = true := by decide +kernel
theorem chkM_77b : (all6 fun p => all6 fun q => chkM p 0 7 0 q 7) = true := by decide +kernel
theorem chkM_77c : (all6 fun p => all6 fun q => chkM 0 q 7 p 0 7) = true := by decide +kernel
theorem chkM_77d : (all6 fun p => all6 fun q => chkM 0 0 7 p q 7) = true := by decide +kernel
theorem chkM_78a : (all6 fun p => all6 fun q => chkM p q 7 0 0 8) = true := by decide +kernel
theorem chkM_78b : (all6 fun p => all6 fun q => chkM p 0 7 0 q 8) = true := by decide +kernel
theorem chkM_78c : (all6 fun p => all6 fun q => chkM 0 q 7 p 0 8) = true := by decide +kernel
theorem chkM_78d : (all6 fun p => all6 fun q => chkM 0 0 7 p q 8) = true := by decide +kernel
theorem chkM_87a : (all6 fun p => all6 fun q => chkM p q 8 0 0 7) = true := by decide +kernel
theorem chkM_87b : (all6 fun p => all6 fun q => chkM p 0 8 0 q 7) = true := by decide +kernel
theorem chkM_87c : (all6 fun p => all6 fun q => chkM 0 q 8 p 0 7) = true := by decide +kernel
theorem chkM_87d : (all6 fun p => all6 fun q => chkM 0 0 8 p q 7) = true := by decide +kernel
theorem chkM_88a : (all6 fun p => all6 fun q => chkM p q 8 0 0 8) = true := by decide +kernel
theorem chkM_88b : (all6 fun p => all6 fun q => chkM p 0 8 0 q 8) = true := by decide +kernel
theorem chkM_88c : (all6 fun p => all6 fun q => chkM 0 q 8 p 0 8) = true := by decide +kernel
theorem chkM_88d : (all6 fun p => all6 fun q => chkM 0 0 8 p q 8) = true := by decide +kernel
theorem chkM_ok {p q n p2 q2 n2 : Nat} (hp : p < 6) (hq : q < 6) (hn : n = 7 ∨ n = 8) (hp2 : p2 < 6) (hq2 : q2 < 6) (hn2 : n2 = 7 ∨ n2 = 8) (h0 : p = 0 ∨ p2 = 0) (h1 : q = 0 ∨ q2 = 0) : chkM p q n p2 q2 n2 = true := by
  rcases hn with rfl | rfl <;> rcases hn2 with rfl | rfl <;> rcases h0 with rfl | rfl <;> rcases h1 with rfl | rfl
  · exact all6_at (all6_at chkM_77d hp2) hq2
  · exact all6_at (all6_at chkM_77c hp2) hq
  · exact all6_at (all6_at chkM_77b hp) hq2
  · exact all6_at (all6_at chkM_77a hp) hq
  · exact all6_at (all6_at chkM_78d hp2) hq2
  · exact all6_at (all6_at chkM_78c hp2) hq
  · exact all6_at (all6_at chkM_78b hp) hq2
  · exact all6_at (all6_at chkM_78a hp) hq
  · exact all6_at (all6_at chkM_87d hp2) hq2
  · exact all6_at (all6_at chkM_87c hp2) hq
  · exact all6_at (all6_at chkM_87b hp) hq2
  · exact all6_at (all6_at chkM_87a hp) hq
  · exact all6_at (all6_at chkM_88d hp2) hq2
  · exact all6_at (all6_at chkM_88c hp2) hq
  · exact all6_at (all6_at chkM_88b hp) hq2
  · exact all6_at (all6_at chkM_88a hp) hq
theorem cutMin (p p2 : Nat) : ∃ k a b, p = k + a ∧ p2 = k + b ∧ (a = 0 ∨ b = 0) := by
  by_cases h : p ≤ p2
  · exact ⟨p, 0, p2 - p, by omega, by omega, .inl rfl⟩
  · exact ⟨p2, p - p2, 0, by omega, by omega, .inr rfl⟩
theorem lev_good {p q n p2 q2 n2 : Nat} (hp : p < 6) (hq : q < 6) (hn : n = 7 ∨ n = 8) (hp2 : p2 < 6) (hq2 : q2 < 6) (hn2 : n2 = 7 ∨ n2 = 8) : good (distD p q n p2 q2 n2) (levS (tl p q (48 + n)) (tl p2 q2 (48 + n2))) = true := by
  obtain ⟨k, a, b, rfl, rfl, h0⟩ := cutMin p p2
  by_cases hs : n = n2 ∧ a = 0 ∧ b = 0
  · obtain ⟨rfl, rfl, rfl⟩ := hs
    have e : ∀ x, tl (k + 0) x (48 + n) = List.replicate k 97 ++ tl 0 x (48 + n) := fun x => by simp [tl]
    have ef : levS (tl (k + 0) q (48 + n)) (tl (k + 0) q2 (48 + n)) = levS (tl 0 q (48 + n)) (tl 0 q2 (48 + n)) := by
      funext mc
      rw [e, e, lev_pre]
    have ed : distD ((k + 0 : Nat) : Int) q n ((k + 0 : Nat) : Int) q2 n = distD 0 q n 0 q2 n := by
      have := dist_shift k 0 q 0 n 0 q2 n
      simpa using this
    rw [ef, ed]
    rcases hn with rfl | rfl
    · exact all6_at (all6_at chkS_7 hq) hq2
    · exact all6_at (all6_at chkS_8 hq) hq2
  · obtain ⟨l, c, d, e1, e2, h1⟩ := cutMin q q2
    obtain rfl : q = c + l := by omega
    obtain rfl : q2 = d + l := by omega
    have h := chkM_ok (p := a) (q := c) (n := n) (p2 := b) (q2 := d) (n2 := n2) (by omega) (by omega) hn (by omega) (by omega) hn2 h0 h1
    have hz : (n == n2 && a == 0 && b == 0) = false := by
      cases hb : (n == n2 && a == 0 && b == 0) with
      | false => rfl
      | true =>
        simp only [Bool.and_eq_true, beq_iff_eq] at hb
        exact absurd ⟨hb.1.1, hb.1.2, hb.2⟩ hs
    rw [chkM, hz, Bool.false_or] at h
    simp only [chkL, Bool.and_eq_true, decide_eq_true_eq] at h
    have ef : levS (tl (k + a) (c + l) (48 + n)) (tl (k + b) (d + l) (48 + n2)) = levS (tc a c (48 + n)) (tc b d (48 + n2)) := by
      funext mc
      rw [tl_tc, tl_tc, lev_pre, lev_suf _ _ _ _ h.1.1 h.1.2]
    have ed : distD ((k + a : Nat) : Int) ((c + l : Nat) : Int) n ((k + b : Nat) : Int) ((d + l : Nat) : Int) n2 = distD a c n b d n2 := by
      have := dist_shift k a c l n b d n2
      simpa using this
    rw [ef, ed]
    exact h.2
theorem lev_ok {p q n p2 q2 n2 : Nat} (hp : p < 6) (hq : q < 6) (hn : n = 7 ∨ n = 8) (hp2 : p2 < 6) (hq2 : q2 < 6) (hn2 : n2 = 7 ∨ n2 = 8) :
    levS (sg (plain p q n)) (sg (plain p2 q2 n2)) (distD p q n p2 q2 n2) = distD p q n p2 q2 n2 ∧ levS (sg (plain p q n)) (sg (plain p2 q2 n2)) (distD p q n p2 q2 n2 - 1) = distD p q n p2 q2 n2 ∧
    (0 < levS (sg (plain p q n)) (sg (plain p2 q2 n2)) 0 ↔ 0 < distD p q n p2 q2 n2) := by
  have h := lev_good hp hq hn hp2 hq2 hn2
  rw [(plain_sg hp hq hn).1, (plain_sg hp2 hq2 hn2).1]
  simp only [good, Bool.and_eq_true, beq_iff_eq, decide_eq_decide] at h
  exact ⟨h.1.1, h.1.2, h.2⟩
theorem dist_comm (p q n p2 q2 n2 : Int) : distD p q n p2 q2 n2 = distD p2 q2 n2 p q n := by
  unfold distD
  have e1 : (p - p2).natAbs = (p2 - p).natAbs := by rw [← Int.natAbs_neg, Int.neg_sub]
  have e2 : (q - q2).natAbs = (q2 - q).natAbs := by rw [← Int.natAbs_neg, Int.neg_sub]
  have e3 : (p - p2) * (q - q2) = (p2 - p) * (q2 - q) := by
    rw [← Int.neg_sub p2 p, ← Int.neg_sub q2 q, Int.neg_mul_neg]
  have e4 : (if n ≠ n2 then (1 : Int) else 0) = if n2 ≠ n then 1 else 0 := by
    by_cases h : n = n2
    · simp [h]
    · simp [h, Ne.symm h]
  rw [e1, e2, e3, e4]
end Mine
end
section
open PySem PySem.W PyProof.Rows
set_option maxRecDepth 100000
namespace Mine

local macro_rules | `(tactic| walk_at "call ref") => `(tactic| (refine stopAt ?_))
local macro_rules | `(tactic| walk_at "exec For Name Call cons nil") => `(tactic| (refine stopAt ?_))
local macro_rules | `(tactic| walk_at "eval IfExp") => `(tactic| (refine stopAt ?_))
local macro_rules | `(tactic| walk_at "pyIter ref") => `(tactic| (refine stopAt ?_))
local macro_rules | `(tactic| walk_at "subscriptTail Name Name ref int") => `(tactic| (refine stopAt ?_))
noncomputable abbrev cl4 (c : Nat → Addr) : List Value := [.ref (c 0), .ref (c 1), .ref (c 2), .ref (c 3)]
theorem cl4_at (c : Nat → Addr) {i : Nat} (h : i < 4) : (cl4 c)[((i : Nat) : Int).toNat]? = some (.ref (c i)) := by
  rw [Int.toNat_natCast]
  match i, h with
  | 0, _ => rfl
  | 1, _ => rfl
  | 2, _ => rfl
  | 3, _ => rfl
theorem lt3 {k : Nat} (h : k < 3) : k = 0 ∨ k = 1 ∨ k = 2 := by omega
theorem mod3 (x : Int) : ∃ k : Nat, x.fmod 3 = (k : Int) ∧ k < 3 :=
  by
  have h1 := Int.fmod_nonneg_of_pos x (b := 3) (by decide)
  have h2 := Int.fmod_lt_of_pos x (b := 3) (by decide)
  exact ⟨(x.fmod 3).toNat, (Int.toNat_of_nonneg h1).symm, by omega⟩
theorem dotA_len (k : Nat) : (dotA k).length ≤ 5 := by unfold dotA; split <;> decide
theorem dotB_len (k : Nat) : (dotB k).length ≤ 5 := by unfold dotB; split <;> decide
theorem cutTok {prog : Program} {w : World} {A : Around} {s : Shared} {E : Value → Shared → Prop} {t : Sem Value} {v₀ : Tok → Value} {Q : Value → Shared → Prop} (h1 : wpAny (model prog w) A t (fun v s' => ∃ u tk', v = v₀ u ∧ s' = { s with toks := tk' }) E s) (h2 : ∀ u tk', Q (v₀ u) { s with toks := tk' }) : wpAny (model prog w) A t Q E s :=
  wpAny_mono h1 (fun v s' ⟨u, tk', e1, e2⟩ => by subst e1 e2; exact h2 u tk') fun _ _ e => e
theorem ellk_spec (w : World) (mg mb : Str → Option Value) {k p q n p2 q2 n2 : Nat} (hk : k < 3) (hp : p < 6) (hq : q < 6) (hn : n = 7 ∨ n = 8) (hp2 : p2 < 6) (hq2 : q2 < 6) (hn2 : n2 = 7 ∨ n2 = 8) (ta tb : Tok) :
    SpecV w mg mb 35 1 [.str (pt k p q n) ta, .str (plain p2 q2 n2) tb] (fun _ => True) (fun _ => .bool (fits p q n p2 q2 n2 k)) := by
  obtain ⟨g1, g2, g3, g4, g5, g6, _⟩ := patt hk hp hq hn
  have e2 := (plain_sg hp2 hq2 hn2).2.1
  rw [← ell_ok hk hp hq hn hp2 hq2 hn2]
  have hk9 := lt3 hk
  rcases hk9 with rfl | rfl | rfl
  · exact ell2_spec w mg mb _ _ (pA 0 p n) (pZ 0 q n) ta tb g3 e2 g4 g5 g6 g2 g1
  · exact ell2_spec w mg mb _ _ (pA 1 p n) (pZ 1 q n) ta tb g3 e2 g4 g5 g6 g2 g1
  · exact ell3_spec w mg mb _ _ (pA 2 p n) (ofL [58, 48 + n, 40]) (pZ 2 q n) ta tb g3 e2 g4 (by rw [len_ofL]; exact Nat.le_of_ble_eq_true rfl) g5 g6 g2 g1
/-- the four callers -/
noncomputable abbrev cTup (P Q N : Nat → Nat) (tp tq tn : Nat → Tok) (i : Nat) : Obj := tup3 (.int (P i : Nat) (tp i)) (.int (Q i : Nat) (tq i)) (.int (N i : Nat) (tn i))
set_option maxHeartbeats 8000000 in
theorem matches_spec (w : World) (mg mb : Str → Option Value) (l : Addr) (nn : Nat) (c : Nat → Addr) (P Q N : Nat → Nat) (tp tq tn : Nat → Tok) (tot : Int) (tt : Tok) (hP : ∀ i, i < 4 → P i < 6) (hQ : ∀ i, i < 4 → Q i < 6) (hN : ∀ i, i < 4 → N i = 7 ∨ N i = 8) (h0 : 0 ≤ tot) (h1 : tot < 10000000) :
  SpecV w mg mb 108 4 [.ref l, .int tot tt] (fun news => (l, W.listOf (cl4 c).toArray nn) ∈ news ∧ ∀ i, i < 4 → (c i, cTup P Q N tp tq tn i) ∈ news) (fun _ => .bool true) := by
  unfold SpecV
  k_fill
  intro dp un gd cn cs ad ccd cl outer A₀ base h₀ L m news s Q' E B F X N0 T hk hpre hdp hun hret
  obtain ⟨hl, hc⟩ := hpre
  have N1 := news_dup N0 hl
  replace hc : ∀ i, i < 4 → (c i, cTup P Q N tp tq tn i) ∈ (l, W.listOf (cl4 c).toArray nn) :: news := fun i hi => List.mem_cons_of_mem _ (hc i hi)
  clear N0 hl
  refine wpAny_call ?_
  k_dflt (((refine' enterR ?k1 ?k2 ?k3 ?k4 ?k5 ?kA ?kF ?kK ?k6 ?k7 ?k8 ?k9 ?kB ?_ ?c2 ?c3 ?c4 ?c5; (case kA => exact rfl); (case kF => exact rfl); (case kK => assumption); (case k1 => k_asm); (case k2 => k_asm); (case k3 => k_asm); (case k4 => k_asm); (case k5 => k_asm); (case k6 => k_is); (case k7 => k_is); (case k8 => ktr_room); (case k9 => exact BindsTo.of_eq rfl); (case c5 => decide); (case kB => exact locs rfl); (case c2 => exact rfl); (case c3 => exact rfl); (case c4 => exact rfl); k_whole; intro g' L' h' FG' F' N' B' X' T'; (try dsimp only); (try k_lift B'); (try k_fold))))
  k_steps
  unfold Stop
  (rename Fr _ _ _ _ => lF')
  with_unfolding_all refine' For_invVF lF' ?k1 ?k2 ?_ ?k3 ?k4
  (case k1 => exact rfl)
  (case k2 => exact rfl)
  (case k3 => intro _; with_unfolding_all rfl)
  (case k4 => first | passes_own | with_unfolding_all passes_own)
  k_steps
  unfold Stop
  (rename IsRange _ _ _ _ _ _ _ _ => R10)
  (rename Fr _ _ _ _ => F6)
  (rename News _ _ _ _ => N6)
  refine range_inv (n := 4) (fun i m nx => nx = (l, W.listOf (cl4 c).toArray nn) :: news ∧ ∃ (m₂ : Str → Option Value), m = fun y => if y = Str.ofString "callers" then some (.ref l) else if y = Str.ofString "total" then some (.int tot tt) else m₂ y) rfl R10 rfl (by decide) (fr_name (x := Str.ofString "callers") (fr_name (x := Str.ofString "total") F6 rfl) rfl) N6 ⟨rfl, _, rfl⟩ ?_ ?_
  · clear R10 F6 N6
    rintro i t m₃ nx h tk own hi hadr hoff ⟨rfl, m₂, rfl⟩ F7 N7
    show wpAny _ _ _ _ _ _
    (try k_fold)
    k_steps
    unfold Stop
    (rename Fr _ _ _ _ => lF')
    with_unfolding_all refine' For_invVF lF' ?k1 ?k2 ?_ ?k3 ?k4
    (case k1 => exact rfl)
    (case k2 => exact rfl)
    (case k3 => intro _; with_unfolding_all rfl)
    (case k4 => first | passes_own | with_unfolding_all passes_own)
    k_steps
    unfold Stop
    (rename IsRange _ _ _ _ _ _ _ _ => R10)
    (rename Fr _ _ _ _ => F6)
    (rename News _ _ _ _ => N6)
    refine range_inv (n := 4) (fun j m nx => nx = (l, W.listOf (cl4 c).toArray nn) :: (news ++ own) ∧ ∃ (m₂ : Str → Option Value), m = fun y => if y = Str.ofString "callers" then some (.ref l) else if y = Str.ofString "total" then some (.int tot tt) else if y = Str.ofString "i" then some (.int (i : Nat) t) else m₂ y) rfl R10 rfl (by decide) (fr_name (x := Str.ofString "callers") (fr_name (x := Str.ofString "total") (fr_name (x := Str.ofString "i") F6 rfl) rfl) rfl) N6 ⟨rfl, _, rfl⟩ ?_ ?_
    · clear R10 F6 N6
      rintro j t5 m₄ nx h5 tk5 own5 hj hadr5 hoff5 ⟨rfl, m₅, rfl⟩ F10 N10
      simp only [List.cons_append] at N10
      show wpAny _ _ _ _ _ _
      (try k_fold)
      k_steps
      unfold Stop
      (rename Fr _ _ _ _ => F11)
      have hPi := hP i hi
      have hQi := hQ i hi
      have hNi := hN i hi
      have hPj := hP j hj
      have hQj := hQ j hj
      have hNj := hN j hj
      have hci : (c i, cTup P Q N tp tq tn i) ∈ (l, W.listOf (cl4 c).toArray nn) :: (news ++ own ++ own5) := by
        rcases List.mem_cons.mp (hc i hi) with h | h
        · rw [h]; exact List.mem_cons_self ..
        · exact List.mem_cons_of_mem _ (List.mem_append_left _ (List.mem_append_left _ h))
      have hcj : (c j, cTup P Q N tp tq tn j) ∈ (l, W.listOf (cl4 c).toArray nn) :: (news ++ own ++ own5) := by
        rcases List.mem_cons.mp (hc j hj) with h | h
        · rw [h]; exact List.mem_cons_self ..
        · exact List.mem_cons_of_mem _ (List.mem_append_left _ (List.mem_append_left _ h))
      obtain ⟨e1, e2, e3, e4⟩ := plain_sg hPj hQj hNj
      obtain ⟨k, hK, hk3⟩ : ∃ k : Nat, (((i : Nat) : Int) + 2 * ((j : Nat) : Int) + tot).fmod 3 = (k : Int) ∧ k < 3 := mod3 _
      rw [hK] at F11
      have p7 := (patt hk3 hPi hQi hNi).2.2.2.2.2.2
      (rename Fr _ _ _ _ => F11)
      (rename News _ _ _ _ => N11)
      refine' item_litK (vs := cl4 c) ?il (by omega) (by omega) (cl4_at c hi) ?_ ?is
      (case il => exact ⟨_, (N11 _ (List.mem_cons_self ..)).1, rfl, nn, rfl⟩)
      (case is => with_unfolding_all rfl)
      k_steps
      unfold Stop
      refine cutTok (v₀ := fun u => Value.str (dotA k) u) ?cut ?_
      (case cut =>
        have hk9 := lt3 hk3
        (rename Fr _ _ _ _ => F11)
        with_reducible refine IfExp_ ?_
        rcases hk9 with rfl | rfl | rfl
        · rw [show ((0 : Nat) : Int) = 0 from rfl] at F11
          k_steps
          all_goals exact ⟨_, _, rfl, rfl⟩
        · rw [show ((1 : Nat) : Int) = 1 from rfl] at F11
          k_steps
          all_goals exact ⟨_, _, rfl, rfl⟩
        · rw [show ((2 : Nat) : Int) = 2 from rfl] at F11
          k_steps
          all_goals exact ⟨_, _, rfl, rfl⟩)
      intro u9 k9
      dsimp only
      k_steps
      unfold Stop
      refine cutTok (v₀ := fun u => Value.str (dotB k) u) ?cut ?_
      (case cut =>
        have hk9 := lt3 hk3
        (rename Fr _ _ _ _ => F11)
        with_reducible refine IfExp_ ?_
        rcases hk9 with rfl | rfl | rfl
        · rw [show ((0 : Nat) : Int) = 0 from rfl] at F11
          k_steps
          all_goals exact ⟨_, _, rfl, rfl⟩
        · rw [show ((1 : Nat) : Int) = 1 from rfl] at F11
          k_steps
          all_goals exact ⟨_, _, rfl, rfl⟩
        · rw [show ((2 : Nat) : Int) = 2 from rfl] at F11
          k_steps
          all_goals exact ⟨_, _, rfl, rfl⟩)
      intro u9 k9
      dsimp only
      k_steps
      unfold Stop
      (rename Fr _ _ _ _ => F11)
      (rename News _ _ _ _ => N11)
      refine' SpecV.use (text_spec w mg mb (c i) (dotA k) (dotB k) (P i) (Q i) (N i) (tp i) (tq i) (tn i) _ _ (dotA_len k) (dotB_len k) (by first | exact Int.natCast_nonneg _ | exact c6b (by assumption) | exact c78 (by assumption)) (by first | exact Int.natCast_nonneg _ | exact c6b (by assumption) | exact c78 (by assumption)) (by first | exact Int.natCast_nonneg _ | exact c6b (by assumption) | exact c78 (by assumption)) (by first | exact Int.natCast_nonneg _ | exact c6b (by assumption) | exact c78 (by assumption)) (by first | exact Int.natCast_nonneg _ | exact c6b (by assumption) | exact c78 (by assumption)) p7) ?B F11 ?X N11 ?T ?hk (hci) ?hd ?hu ?_
      (case B => k_asm)
      (case X => k_asm)
      (case T => k_asm)
      (case hk => rfl)
      (case hd => ktr_room)
      (case hu => ktr_units)
      clear F11 N11
      intro t9 h9 tk9 F9 N9
      k_steps
      unfold Stop
      (rename Fr _ _ _ _ => F11)
      (rename News _ _ _ _ => N11)
      refine' item_litK (vs := cl4 c) ?il (by omega) (by omega) (cl4_at c hj) ?_ ?is
      (case il => exact ⟨_, (N11 _ (List.mem_cons_self ..)).1, rfl, nn, rfl⟩)
      (case is => with_unfolding_all rfl)
      k_steps
      unfold Stop
      (rename Fr _ _ _ _ => F11)
      (rename News _ _ _ _ => N11)
      refine' SpecV.use (text_spec w mg mb (c j) (Str.ofString "") (Str.ofString "") (P j) (Q j) (N j) (tp j) (tq j) (tn j) _ _ (by decide) (by decide) (by first | exact Int.natCast_nonneg _ | exact c6b (by assumption) | exact c78 (by assumption)) (by first | exact Int.natCast_nonneg _ | exact c6b (by assumption) | exact c78 (by assumption)) (by first | exact Int.natCast_nonneg _ | exact c6b (by assumption) | exact c78 (by assumption)) (by first | exact Int.natCast_nonneg _ | exact c6b (by assumption) | exact c78 (by assumption)) (by first | exact Int.natCast_nonneg _ | exact c6b (by assumption) | exact c78 (by assumption)) e3) ?B F11 ?X N11 ?T ?hk (hcj) ?hd ?hu ?_
      (case B => k_asm)
      (case X => k_asm)
      (case T => k_asm)
      (case hk => rfl)
      (case hd => ktr_room)
      (case hu => ktr_units)
      clear F11 N11
      intro t9 h9 tk9 F9 N9
      k_steps
      unfold Stop
      (rename Fr _ _ _ _ => F11)
      (rename News _ _ _ _ => N11)
      refine' SpecV.use (ellk_spec w mg mb hk3 hPi hQi hNi hPj hQj hNj _ _) ?B F11 ?X N11 ?T ?hk (True.intro) ?hd ?hu ?_
      (case B => k_asm)
      (case X => k_asm)
      (case T => k_asm)
      (case hk => rfl)
      (case hd => ktr_room)
      (case hu => ktr_units)
      clear F11 N11
      intro t9 h9 tk9 F9 N9
      k_steps
      unfold Stop
      (rename Fr _ _ _ _ => F11)
      (rename News _ _ _ _ => N11)
      refine' item_litK (vs := cl4 c) ?il (by omega) (by omega) (cl4_at c hi) ?_ ?is
      (case il => exact ⟨_, (N11 _ (List.mem_cons_self ..)).1, rfl, nn, rfl⟩)
      (case is => with_unfolding_all rfl)
      k_steps
      unfold Stop
      (rename Fr _ _ _ _ => F11)
      (rename News _ _ _ _ => N11)
      refine' item_litK (vs := cl4 c) ?il (by omega) (by omega) (cl4_at c hj) ?_ ?is
      (case il => exact ⟨_, (N11 _ (List.mem_cons_self ..)).1, rfl, nn, rfl⟩)
      (case is => with_unfolding_all rfl)
      k_steps
      unfold Stop
      (rename Fr _ _ _ _ => F11)
      (rename News _ _ _ _ => N11)
      refine' SpecV.use (fits_spec w mg mb (c i) (c j) (P i) (Q i) (N i) (P j) (Q j) (N j) (tp i) (tq i) (tn i) (tp j) (tq j) (tn j) (by first | exact Int.natCast_nonneg _ | exact c6b (by assumption) | exact c78 (by assumption)) (by first | exact Int.natCast_nonneg _ | exact c6b (by assumption) | exact c78 (by assumption)) (by first | exact Int.natCast_nonneg _ | exact c6b (by assumption) | exact c78 (by assumption)) (by first | exact Int.natCast_nonneg _ | exact c6b (by assumption) | exact c78 (by assumption)) (by first | exact Int.natCast_nonneg _ | exact c6b (by assumption) | exact c78 (by assumption)) (by first | exact Int.natCast_nonneg _ | exact c6b (by assumption) | exact c78 (by assumption)) (by first | exact Int.natCast_nonneg _ | exact c6b (by assumption) | exact c78 (by assumption)) (by first | exact Int.natCast_nonneg _ | exact c6b (by assumption) | exact c78 (by assumption)) ((k : Nat) : Int) _) ?B F11 ?X N11 ?T ?hk (⟨hci, hcj⟩) ?hd ?hu ?_
      (case B => k_asm)
      (case X => k_asm)
      (case T => k_asm)
      (case hk => rfl)
      (case hd => ktr_room)
      (case hu => ktr_units)
      clear F11 N11
      intro t9 h9 tk9 F9 N9
      k_steps
      · exfalso; simp_all
      · (rename Fr _ _ _ _ => F12)
        (rename News _ _ _ _ => N12)
        refine InvEndN.intro (fr_name (x := Str.ofString "callers") (fr_name (x := Str.ofString "total") (fr_name (x := Str.ofString "i") F12 rfl) rfl) rfl) N12 ⟨rfl, _, rfl⟩ rfl ?_ ?_
        · intro p hp; rcases List.mem_cons.mp hp with rfl | hp
          · exact List.mem_cons_self ..
          · exact List.mem_cons_of_mem _ (List.mem_append_left _ hp)
        · intro p hp; exact List.mem_cons_of_mem _ (List.mem_append_right _ hp)
    · rintro m₄ nx h5 tk5 ⟨rfl, m₅, rfl⟩ F10 N10
      dsimp only
      k_steps
      (rename Fr _ _ _ _ => F12)
      (rename News _ _ _ _ => N12)
      refine InvEndN.intro (fr_name (x := Str.ofString "callers") (fr_name (x := Str.ofString "total") F12 rfl) rfl) N12 ⟨rfl, _, rfl⟩ rfl ?_ ?_
      · intro p hp; rcases List.mem_cons.mp hp with rfl | hp
        · exact List.mem_cons_self ..
        · exact List.mem_cons_of_mem _ (List.mem_append_left _ hp)
      · intro p hp; exact List.mem_cons_of_mem _ (List.mem_append_right _ hp)
  · rintro m₄ nx h5 tk5 ⟨rfl, m₅, rfl⟩ F10 N10
    dsimp only
    k_steps
    exact retV hret ⟨tk, rfl⟩ (by k_asm) (by (first | k_asm | (refine' news_sub ?nn ?ns; (case nn => assumption); (case ns => kcj_all))))
end Mine
end
section
open PySem PySem.W PyProof.Rows
set_option maxRecDepth 100000
namespace Mine

local macro_rules | `(tactic| walk_at "call ref") => `(tactic| (refine stopAt ?_))
local macro_rules | `(tactic| walk_at "exec For Name Call cons nil") => `(tactic| (refine stopAt ?_))
local macro_rules | `(tactic| walk_at "pyIter ref") => `(tactic| (refine stopAt ?_))
local macro_rules | `(tactic| walk_at "subscriptTail Name Name ref int") => `(tactic| (refine stopAt ?_))
noncomputable abbrev tl4 (P Q N : Nat → Nat) (tx : Nat → Tok) : List Value := [.str (plain (P 0) (Q 0) (N 0)) (tx 0), .str (plain (P 1) (Q 1) (N 1)) (tx 1), .str (plain (P 2) (Q 2) (N 2)) (tx 2), .str (plain (P 3) (Q 3) (N 3)) (tx 3)]
theorem tl4_at (P Q N : Nat → Nat) (tx : Nat → Tok) {i : Nat} (h : i < 4) : (tl4 P Q N tx)[((i : Nat) : Int).toNat]? = some (.str (plain (P i) (Q i) (N i)) (tx i)) := by
  rw [Int.toNat_natCast]
  match i, h with
  | 0, _ => rfl
  | 1, _ => rfl
  | 2, _ => rfl
  | 3, _ => rfl
theorem lev_b1 {p q n p2 q2 n2 : Nat} (hp : p < 6) (hq : q < 6) (hn : n = 7 ∨ n = 8) (hp2 : p2 < 6) (hq2 : q2 < 6) (hn2 : n2 = 7 ∨ n2 = 8) (x : Int) : levS (sg (plain p q n)) (sg (plain p2 q2 n2)) (distD p q n p2 q2 n2 - x.fmod 2) = distD p q n p2 q2 n2 := by
  have h3 := Int.fmod_nonneg_of_pos x (b := 2) (by decide)
  have h4 := Int.fmod_lt_of_pos x (b := 2) (by decide)
  have h := lev_ok hp hq hn hp2 hq2 hn2
  have hK : x.fmod 2 = 0 ∨ x.fmod 2 = 1 := by omega
  rcases hK with e | e <;> rw [e]
  · rw [Int.sub_zero]; exact h.1
  · exact h.2.1
theorem lev_b2 {p q n p2 q2 n2 : Nat} (hp : p < 6) (hq : q < 6) (hn : n = 7 ∨ n = 8) (hp2 : p2 < 6) (hq2 : q2 < 6) (hn2 : n2 = 7 ∨ n2 = 8) (x : Int) : levS (sg (plain p2 q2 n2)) (sg (plain p q n)) (distD p q n p2 q2 n2 - x.fmod 2) = distD p q n p2 q2 n2 := by
  rw [dist_comm]
  exact lev_b1 hp2 hq2 hn2 hp hq hn x
theorem lev_z1 {p q n p2 q2 n2 : Nat} (hp : p < 6) (hq : q < 6) (hn : n = 7 ∨ n = 8) (hp2 : p2 < 6) (hq2 : q2 < 6) (hn2 : n2 = 7 ∨ n2 = 8) : decide (0 < levS (sg (plain p q n)) (sg (plain p2 q2 n2)) 0) = decide (0 < distD p q n p2 q2 n2) :=
  decide_eq_decide.mpr (lev_ok hp hq hn hp2 hq2 hn2).2.2
theorem lev_z2 {p q n p2 q2 n2 : Nat} (hp : p < 6) (hq : q < 6) (hn : n = 7 ∨ n = 8) (hp2 : p2 < 6) (hq2 : q2 < 6) (hn2 : n2 = 7 ∨ n2 = 8) : decide (0 < levS (sg (plain p2 q2 n2)) (sg (plain p q n)) 0) = decide (0 < distD p q n p2 q2 n2) := by
  rw [dist_comm]
  exact lev_z1 hp2 hq2 hn2 hp hq hn
set_option maxHeartbeats 8000000 in
theorem near_spec (w : World) (mg mb : Str → Option Value) (l : Addr) (nn : Nat) (c : Nat → Addr) (P Q N : Nat → Nat) (tp tq tn : Nat → Tok) (tot : Int) (tt : Tok) (hP : ∀ i, i < 4 → P i < 6) (hQ : ∀ i, i < 4 → Q i < 6) (hN : ∀ i, i < 4 → N i = 7 ∨ N i = 8) (h0 : 0 ≤ tot) (h1 : tot < 10000000) :
  SpecV w mg mb 113 4 [.ref l, .int tot tt] (fun news => (l, W.listOf (cl4 c).toArray nn) ∈ news ∧ ∀ i, i < 4 → (c i, cTup P Q N tp tq tn i) ∈ news) (fun _ => .bool true) := by
  unfold SpecV
  k_fill
  intro dp un gd cn cs ad ccd cl outer A₀ base h₀ L m news s Q' E B F X N0 T hk hpre hdp hun hret
  obtain ⟨hl, hc⟩ := hpre
  have N1 := news_dup N0 hl
  replace hc : ∀ i, i < 4 → (c i, cTup P Q N tp tq tn i) ∈ (l, W.listOf (cl4 c).toArray nn) :: news := fun i hi => List.mem_cons_of_mem _ (hc i hi)
  clear N0 hl
  refine wpAny_call ?_
  k_dflt (((refine' enterR ?k1 ?k2 ?k3 ?k4 ?k5 ?kA ?kF ?kK ?k6 ?k7 ?k8 ?k9 ?kB ?_ ?c2 ?c3 ?c4 ?c5; (case kA => exact rfl); (case kF => exact rfl); (case kK => assumption); (case k1 => k_asm); (case k2 => k_asm); (case k3 => k_asm); (case k4 => k_asm); (case k5 => k_asm); (case k6 => k_is); (case k7 => k_is); (case k8 => ktr_room); (case k9 => exact BindsTo.of_eq rfl); (case c5 => decide); (case kB => exact locs rfl); (case c2 => exact rfl); (case c3 => exact rfl); (case c4 => exact rfl); k_whole; intro g' L' h' FG' F' N' B' X' T'; (try dsimp only); (try k_lift B'); (try k_fold))))
  k_steps
  unfold Stop
  (rename Fr _ _ _ _ => F11)
  (rename News _ _ _ _ => N11)
  refine' SpecV.use (text_spec w mg mb (c 0) (Str.ofString "") (Str.ofString "") (P 0) (Q 0) (N 0) (tp 0) (tq 0) (tn 0) _ _ (by decide) (by decide) (by first | exact Int.natCast_nonneg _ | exact c6b (by assumption) | exact c78 (by assumption)) (c6b (hP 0 (by decide))) (by first | exact Int.natCast_nonneg _ | exact c6b (by assumption) | exact c78 (by assumption)) (c6b (hQ 0 (by decide))) (c78 (hN 0 (by decide))) (plain_sg (hP 0 (by decide)) (hQ 0 (by decide)) (hN 0 (by decide))).2.2.1) ?B F11 ?X N11 ?T ?hk ?hp ?hd ?hu ?_
  (case B => k_asm)
  (case X => k_asm)
  (case T => k_asm)
  (case hk => rfl)
  (case hp => repeat (first | exact hc 0 (by decide) | apply List.mem_cons_of_mem))
  (case hd => ktr_room)
  (case hu => ktr_units)
  clear F11 N11
  intro t9 h9 tk9 F9 N9
  refine' LCg.CompEnd.intro ?eF N9 ((l, W.listOf (cl4 c).toArray nn) :: news) (fun p hp => hp) ?eo ?es ?_
  (case eF => assumption)
  (case eo => assumption)
  (case es => exact .inr ⟨_, List.mem_cons_self .., rfl, _, rfl⟩)
  k_steps
  unfold Stop
  (rename Fr _ _ _ _ => F11)
  (rename News _ _ _ _ => N11)
  refine' SpecV.use (text_spec w mg mb (c 1) (Str.ofString "") (Str.ofString "") (P 1) (Q 1) (N 1) (tp 1) (tq 1) (tn 1) _ _ (by decide) (by decide) (by first | exact Int.natCast_nonneg _ | exact c6b (by assumption) | exact c78 (by assumption)) (c6b (hP 1 (by decide))) (by first | exact Int.natCast_nonneg _ | exact c6b (by assumption) | exact c78 (by assumption)) (c6b (hQ 1 (by decide))) (c78 (hN 1 (by decide))) (plain_sg (hP 1 (by decide)) (hQ 1 (by decide)) (hN 1 (by decide))).2.2.1) ?B F11 ?X N11 ?T ?hk ?hp ?hd ?hu ?_
  (case B => k_asm)
  (case X => k_asm)
  (case T => k_asm)
  (case hk => rfl)
  (case hp => repeat (first | exact hc 1 (by decide) | apply List.mem_cons_of_mem))
  (case hd => ktr_room)
  (case hu => ktr_units)
  clear F11 N11
  intro t9 h9 tk9 F9 N9
  refine' LCg.CompEnd.intro ?eF N9 ((l, W.listOf (cl4 c).toArray nn) :: news) (fun p hp => hp) ?eo ?es ?_
  (case eF => assumption)
  (case eo => assumption)
  (case es => exact .inr ⟨_, List.mem_cons_self .., rfl, _, rfl⟩)
  k_steps
  unfold Stop
  (rename Fr _ _ _ _ => F11)
  (rename News _ _ _ _ => N11)
  refine' SpecV.use (text_spec w mg mb (c 2) (Str.ofString "") (Str.ofString "") (P 2) (Q 2) (N 2) (tp 2) (tq 2) (tn 2) _ _ (by decide) (by decide) (by first | exact Int.natCast_nonneg _ | exact c6b (by assumption) | exact c78 (by assumption)) (c6b (hP 2 (by decide))) (by first | exact Int.natCast_nonneg _ | exact c6b (by assumption) | exact c78 (by assumption)) (c6b (hQ 2 (by decide))) (c78 (hN 2 (by decide))) (plain_sg (hP 2 (by decide)) (hQ 2 (by decide)) (hN 2 (by decide))).2.2.1) ?B F11 ?X N11 ?T ?hk ?hp ?hd ?hu ?_
  (case B => k_asm)
  (case X => k_asm)
  (case T => k_asm)
  (case hk => rfl)
  (case hp => repeat (first | exact hc 2 (by decide) | apply List.mem_cons_of_mem))
  (case hd => ktr_room)
  (case hu => ktr_units)
  clear F11 N11
  intro t9 h9 tk9 F9 N9
  refine' LCg.CompEnd.intro ?eF N9 ((l, W.listOf (cl4 c).toArray nn) :: news) (fun p hp => hp) ?eo ?es ?_
  (case eF => assumption)
  (case eo => assumption)
  (case es => exact .inr ⟨_, List.mem_cons_self .., rfl, _, rfl⟩)
  k_steps
  unfold Stop
  (rename Fr _ _ _ _ => F11)
  (rename News _ _ _ _ => N11)
  refine' SpecV.use (text_spec w mg mb (c 3) (Str.ofString "") (Str.ofString "") (P 3) (Q 3) (N 3) (tp 3) (tq 3) (tn 3) _ _ (by decide) (by decide) (by first | exact Int.natCast_nonneg _ | exact c6b (by assumption) | exact c78 (by assumption)) (c6b (hP 3 (by decide))) (by first | exact Int.natCast_nonneg _ | exact c6b (by assumption) | exact c78 (by assumption)) (c6b (hQ 3 (by decide))) (c78 (hN 3 (by decide))) (plain_sg (hP 3 (by decide)) (hQ 3 (by decide)) (hN 3 (by decide))).2.2.1) ?B F11 ?X N11 ?T ?hk ?hp ?hd ?hu ?_
  (case B => k_asm)
  (case X => k_asm)
  (case T => k_asm)
  (case hk => rfl)
  (case hp => repeat (first | exact hc 3 (by decide) | apply List.mem_cons_of_mem))
  (case hd => ktr_room)
  (case hu => ktr_units)
  clear F11 N11
  intro t9 h9 tk9 F9 N9
  refine' LCg.CompEnd.intro ?eF N9 ((l, W.listOf (cl4 c).toArray nn) :: news) (fun p hp => hp) ?eo ?es ?_
  (case eF => assumption)
  (case eo => assumption)
  (case es => exact .inr ⟨_, List.mem_cons_self .., rfl, _, rfl⟩)
  k_steps
  unfold Stop
  (rename Fr _ _ _ _ => lF')
  (rename News _ _ _ _ => lN')
  obtain ⟨D, tx, m₁, F0, N0⟩ : ∃ (D : Addr) (tx : Nat → Tok) (m₁ : Str → Option Value), Fr _ _ _ (fun y => if y = Str.ofString "texts" then some (.ref D) else if y = Str.ofString "callers" then some (.ref l) else if y = Str.ofString "total" then some (.int tot tt) else m₁ y) ∧ News _ _ _ ((D, LCg.lst (tl4 P Q N tx)) :: (l, W.listOf (cl4 c).toArray nn) :: news) :=
    ⟨_, (fun i => match i with | 0 => _ | 1 => _ | 2 => _ | _ => _), _, fr_name (x := Str.ofString "texts") (fr_name (x := Str.ofString "callers") (fr_name (x := Str.ofString "total") lF' rfl) rfl) rfl, lN'⟩
  clear lF' lN'
  replace hc : ∀ i, i < 4 → (c i, cTup P Q N tp tq tn i) ∈ (D, LCg.lst (tl4 P Q N tx)) :: (l, W.listOf (cl4 c).toArray nn) :: news := fun i hi => List.mem_cons_of_mem _ (hc i hi)
  with_unfolding_all refine' For_invVF F0 ?k1 ?k2 ?_ ?k3 ?k4
  (case k1 => exact rfl)
  (case k2 => exact rfl)
  (case k3 => intro _; with_unfolding_all rfl)
  (case k4 => first | passes_own | with_unfolding_all passes_own)
  k_steps
  unfold Stop
  (rename IsRange _ _ _ _ _ _ _ _ => R10)
  (rename Fr _ _ _ _ => F6)
  (rename News _ _ _ _ => N6)
  refine range_inv (n := 4) (fun i m nx => nx = (D, LCg.lst (tl4 P Q N tx)) :: (l, W.listOf (cl4 c).toArray nn) :: news ∧ ∃ (m₂ : Str → Option Value), m = fun y => if y = Str.ofString "texts" then some (.ref D) else if y = Str.ofString "callers" then some (.ref l) else if y = Str.ofString "total" then some (.int tot tt) else m₂ y) rfl R10 rfl (by decide) F6 N6 ⟨rfl, _, rfl⟩ ?_ ?_
  · clear R10 F6 N6
    rintro i t m₃ nx h tk own hi hadr hoff ⟨rfl, m₂, rfl⟩ F7 N7
    show wpAny _ _ _ _ _ _
    (try k_fold)
    k_steps
    unfold Stop
    (rename Fr _ _ _ _ => lF')
    with_unfolding_all refine' For_invVF lF' ?k1 ?k2 ?_ ?k3 ?k4
    (case k1 => exact rfl)
    (case k2 => exact rfl)
    (case k3 => intro _; with_unfolding_all rfl)
    (case k4 => first | passes_own | with_unfolding_all passes_own)
    k_steps
    unfold Stop
    (rename IsRange _ _ _ _ _ _ _ _ => R10)
    (rename Fr _ _ _ _ => F6)
    (rename News _ _ _ _ => N6)
    refine range_inv (n := i) (fun j m nx => nx = (D, LCg.lst (tl4 P Q N tx)) :: (l, W.listOf (cl4 c).toArray nn) :: (news ++ own) ∧ ∃ (m₂ : Str → Option Value), m = fun y => if y = Str.ofString "texts" then some (.ref D) else if y = Str.ofString "callers" then some (.ref l) else if y = Str.ofString "total" then some (.int tot tt) else if y = Str.ofString "i" then some (.int (i : Nat) t) else m₂ y) rfl R10 rfl (by omega) (fr_name (x := Str.ofString "texts") (fr_name (x := Str.ofString "callers") (fr_name (x := Str.ofString "total") (fr_name (x := Str.ofString "i") F6 rfl) rfl) rfl) rfl) N6 ⟨rfl, _, rfl⟩ ?_ ?_
    · clear R10 F6 N6
      rintro j t5 m₄ nx h5 tk5 own5 hji hadr5 hoff5 ⟨rfl, m₅, rfl⟩ F10 N10
      have hj : j < 4 := by omega
      simp only [List.cons_append] at N10
      have hPi := hP i hi
      have hQi := hQ i hi
      have hNi := hN i hi
      have hPj := hP j hj
      have hQj := hQ j hj
      have hNj := hN j hj
      have hci : ∀ i, i < 4 → (c i, cTup P Q N tp tq tn i) ∈ (D, LCg.lst (tl4 P Q N tx)) :: (l, W.listOf (cl4 c).toArray nn) :: (news ++ own ++ own5) := by
        intro i hi
        have := hc i hi
        simp only [List.mem_cons, List.mem_append] at this ⊢
        rcases this with h | h | h
        · exact .inl h
        · exact .inr (.inl h)
        · exact .inr (.inr (.inl (.inl h)))
      obtain ⟨i1, i2, i3, i4⟩ := plain_sg hPi hQi hNi
      obtain ⟨e1, e2, e3, e4⟩ := plain_sg hPj hQj hNj
      show wpAny _ _ _ _ _ _
      (try k_fold)
      k_steps
      unfold Stop
      (rename Fr _ _ _ _ => F11)
      (rename News _ _ _ _ => N11)
      refine' item_litK (vs := cl4 c) ?il (by omega) (by omega) (cl4_at c hi) ?_ ?is
      (case il => exact ⟨_, (N11 _ (List.mem_cons_of_mem _ (List.mem_cons_self ..))).1, rfl, _, rfl⟩)
      (case is => with_unfolding_all rfl)
      k_steps
      unfold Stop
      (rename Fr _ _ _ _ => F11)
      (rename News _ _ _ _ => N11)
      refine' item_litK (vs := cl4 c) ?il (by omega) (by omega) (cl4_at c hj) ?_ ?is
      (case il => exact ⟨_, (N11 _ (List.mem_cons_of_mem _ (List.mem_cons_self ..))).1, rfl, _, rfl⟩)
      (case is => with_unfolding_all rfl)
      k_steps
      unfold Stop
      (rename Fr _ _ _ _ => F11)
      (rename News _ _ _ _ => N11)
      refine' SpecV.use (dist_spec w mg mb (c i) (c j) (P i) (Q i) (N i) (P j) (Q j) (N j) (tp i) (tq i) (tn i) (tp j) (tq j) (tn j) (by first | exact Int.natCast_nonneg _ | exact c6b (by assumption) | exact c78 (by assumption)) (by first | exact Int.natCast_nonneg _ | exact c6b (by assumption) | exact c78 (by assumption)) (by first | exact Int.natCast_nonneg _ | exact c6b (by assumption) | exact c78 (by assumption)) (by first | exact Int.natCast_nonneg _ | exact c6b (by assumption) | exact c78 (by assumption)) (by first | exact Int.natCast_nonneg _ | exact c6b (by assumption) | exact c78 (by assumption)) (by first | exact Int.natCast_nonneg _ | exact c6b (by assumption) | exact c78 (by assumption)) (by first | exact Int.natCast_nonneg _ | exact c6b (by assumption) | exact c78 (by assumption)) (by first | exact Int.natCast_nonneg _ | exact c6b (by assumption) | exact c78 (by assumption))) ?B F11 ?X N11 ?T ?hk (⟨hci i hi, hci j hj⟩) ?hd ?hu ?_
      (case B => k_asm)
      (case X => k_asm)
      (case T => k_asm)
      (case hk => rfl)
      (case hd => ktr_room)
      (case hu => ktr_units)
      clear F11 N11
      intro t9 h9 tk9 F9 N9
      k_steps
      · unfold Stop
        (rename Fr _ _ _ _ => F11)
        (rename News _ _ _ _ => N11)
        refine' item_litK (vs := tl4 P Q N tx) ?il (by omega) (by omega) (tl4_at P Q N tx hi) ?_ ?is
        (case il => exact ⟨_, (N11 _ (by first | exact List.mem_cons_self .. | exact List.mem_cons_of_mem _ (List.mem_cons_self ..))).1, rfl, _, rfl⟩)
        (case is => with_unfolding_all rfl)
        k_steps
        unfold Stop
        (rename Fr _ _ _ _ => F11)
        (rename News _ _ _ _ => N11)
        refine' item_litK (vs := tl4 P Q N tx) ?il (by omega) (by omega) (tl4_at P Q N tx hj) ?_ ?is
        (case il => exact ⟨_, (N11 _ (by first | exact List.mem_cons_self .. | exact List.mem_cons_of_mem _ (List.mem_cons_self ..))).1, rfl, _, rfl⟩)
        (case is => with_unfolding_all rfl)
        k_steps
        unfold Stop
        (rename Fr _ _ _ _ => F11)
        (rename News _ _ _ _ => N11)
        refine' SpecV.use (lev_spec w mg mb (plain (P i) (Q i) (N i)) (plain (P j) (Q j) (N j)) (tx i) (tx j) _ _ i2 e2 i4 e4) ?B F11 ?X N11 ?T ?hk (True.intro) ?hd ?hu ?_
        (case B => k_asm)
        (case X => k_asm)
        (case T => k_asm)
        (case hk => rfl)
        (case hd => ktr_room)
        (case hu => ktr_units)
        clear F11 N11
        intro t9 h9 tk9 F9 N9
        rw [lev_b1 hPi hQi hNi hPj hQj hNj]
        k_steps
        · exfalso; simp_all
        unfold Stop
        (rename Fr _ _ _ _ => F11)
        (rename News _ _ _ _ => N11)
        refine' SpecV.use (lev_spec w mg mb (plain (P j) (Q j) (N j)) (plain (P i) (Q i) (N i)) (tx j) (tx i) _ _ e2 i2 e4 i4) ?B F11 ?X N11 ?T ?hk (True.intro) ?hd ?hu ?_
        (case B => k_asm)
        (case X => k_asm)
        (case T => k_asm)
        (case hk => rfl)
        (case hd => ktr_room)
        (case hu => ktr_units)
        clear F11 N11
        intro t9 h9 tk9 F9 N9
        have hz := lev_z2 hPi hQi hNi hPj hQj hNj
        k_steps
        · exfalso
          (rename (_ != _) = true => hx)
          rw [hz] at hx
          simp at hx
        · (rename Fr _ _ _ _ => F12)
          (rename News _ _ _ _ => N12)
          refine InvEndN.intro (fr_name (x := Str.ofString "texts") (fr_name (x := Str.ofString "callers") (fr_name (x := Str.ofString "total") (fr_name (x := Str.ofString "i") F12 rfl) rfl) rfl) rfl) N12 ⟨rfl, _, rfl⟩ rfl ?_ ?_
          · intro p hp
            simp only [List.mem_cons, List.mem_append] at hp ⊢
            rcases hp with h | h | h | h <;> simp only [h, true_or, or_true]
          · intro p hp
            simp only [List.mem_cons, List.mem_append]
            simp only [hp, or_true]
      · unfold Stop
        (rename Fr _ _ _ _ => F11)
        (rename News _ _ _ _ => N11)
        refine' item_litK (vs := tl4 P Q N tx) ?il (by omega) (by omega) (tl4_at P Q N tx hj) ?_ ?is
        (case il => exact ⟨_, (N11 _ (by first | exact List.mem_cons_self .. | exact List.mem_cons_of_mem _ (List.mem_cons_self ..))).1, rfl, _, rfl⟩)
        (case is => with_unfolding_all rfl)
        k_steps
        unfold Stop
        (rename Fr _ _ _ _ => F11)
        (rename News _ _ _ _ => N11)
        refine' item_litK (vs := tl4 P Q N tx) ?il (by omega) (by omega) (tl4_at P Q N tx hi) ?_ ?is
        (case il => exact ⟨_, (N11 _ (by first | exact List.mem_cons_self .. | exact List.mem_cons_of_mem _ (List.mem_cons_self ..))).1, rfl, _, rfl⟩)
        (case is => with_unfolding_all rfl)
        k_steps
        unfold Stop
        (rename Fr _ _ _ _ => F11)
        (rename News _ _ _ _ => N11)
        refine' SpecV.use (lev_spec w mg mb (plain (P j) (Q j) (N j)) (plain (P i) (Q i) (N i)) (tx j) (tx i) _ _ e2 i2 e4 i4) ?B F11 ?X N11 ?T ?hk (True.intro) ?hd ?hu ?_
        (case B => k_asm)
        (case X => k_asm)
        (case T => k_asm)
        (case hk => rfl)
        (case hd => ktr_room)
        (case hu => ktr_units)
        clear F11 N11
        intro t9 h9 tk9 F9 N9
        rw [lev_b2 hPi hQi hNi hPj hQj hNj]
        k_steps
        · exfalso; simp_all
        unfold Stop
        (rename Fr _ _ _ _ => F11)
        (rename News _ _ _ _ => N11)
        refine' SpecV.use (lev_spec w mg mb (plain (P i) (Q i) (N i)) (plain (P j) (Q j) (N j)) (tx i) (tx j) _ _ i2 e2 i4 e4) ?B F11 ?X N11 ?T ?hk (True.intro) ?hd ?hu ?_
        (case B => k_asm)
        (case X => k_asm)
        (case T => k_asm)
        (case hk => rfl)
        (case hd => ktr_room)
        (case hu => ktr_units)
        clear F11 N11
        intro t9 h9 tk9 F9 N9
        have hz := lev_z1 hPi hQi hNi hPj hQj hNj
        k_steps
        · exfalso
          (rename (_ != _) = true => hx)
          rw [hz] at hx
          simp at hx
        · (rename Fr _ _ _ _ => F12)
          (rename News _ _ _ _ => N12)
          refine InvEndN.intro (fr_name (x := Str.ofString "texts") (fr_name (x := Str.ofString "callers") (fr_name (x := Str.ofString "total") (fr_name (x := Str.ofString "i") F12 rfl) rfl) rfl) rfl) N12 ⟨rfl, _, rfl⟩ rfl ?_ ?_
          · intro p hp
            simp only [List.mem_cons, List.mem_append] at hp ⊢
            rcases hp with h | h | h | h <;> simp only [h, true_or, or_true]
          · intro p hp
            simp only [List.mem_cons, List.mem_append]
            simp only [hp, or_true]
    · rintro m₄ nx h5 tk5 ⟨rfl, m₅, rfl⟩ F10 N10
      dsimp only
      k_steps
      (rename Fr _ _ _ _ => F12)
      (rename News _ _ _ _ => N12)
      refine InvEndN.intro (fr_name (x := Str.ofString "texts") (fr_name (x := Str.ofString "callers") (fr_name (x := Str.ofString "total") F12 rfl) rfl) rfl) N12 ⟨rfl, _, rfl⟩ rfl ?_ ?_
      · intro p hp
        simp only [List.mem_cons, List.mem_append] at hp ⊢
        rcases hp with h | h | h
        · exact .inl h
        · exact .inr (.inl h)
        · exact .inr (.inr (.inl h))
      · intro p hp; exact List.mem_cons_of_mem _ (List.mem_cons_of_mem _ (List.mem_append_right _ hp))
  · rintro m₄ nx h5 tk5 ⟨rfl, m₅, rfl⟩ F10 N10
    dsimp only
    k_steps
    exact retV hret ⟨tk, rfl⟩ (by k_asm) (by (first | k_asm | (refine' news_sub ?nn ?ns; (case nn => assumption); (case ns => kcj_all))))
end Mine
end
section
open PySem PySem.W PyProof.Rows PySem.Spec PySem.Calls
set_option maxRecDepth 100000
namespace Mine
section
variable {prog : Program} {w : World} {A : Around} {E : Value → Shared → Prop} {s : Shared} {h₀ : Heap} {L : Addr} {m : Str → Option Value} {env : Env}
theorem compEnd_mono {s₁ s₂ : Shared} {I C D : Addr} {oI oC oD : Obj} {S : List (Addr × Obj) → Prop} {r r' : Value → List (Addr × Obj) → Prop} {y y' : Value} (x : LCg.CompEnd h₀ L m s₁ I oI C oC D oD S r y s₂) (h : ∀ n, r y n → r' y' n) : LCg.CompEnd h₀ L m s₁ I oI C oC D oD S r' y' s₂ :=
  let ⟨h', tk, n, a, b, c, d, e, f⟩ := x; ⟨h', tk, n, a, b, c, d, e, h n f⟩
/-- the turns of a comprehension of any length, by what holds behind i of them -/
theorem restU {elt : Expr} {x : Str} {scope : Scope} {cl : List (Str × Addr)} {S : List (Addr × Obj) → Prop} {P : Nat → Value → Prop} {Fin : List Value → List (Addr × Obj) → Prop} (n : Nat) (J : Nat → List Value → List (Addr × Obj) → Prop)
    (turn : ∀ i ys news v I oI C oC D m₂ h tk (E' : Value → Shared → Prop), i < n → J i ys news → P i v → LCg.NsObj oC m₂ → m₂ x = some v → Fr h₀ L h m → News h₀ L h ((I, oI) :: (C, oC) :: (D, LCg.lst ys) :: news) → LCg.Off3 I C D news → ((@Ne Nat I C) ∧ (@Ne Nat I D) ∧ (@Ne Nat C D)) →
      wpAny (model prog w) A (eval elt (compEnvC scope cl C env)) (LCg.CompEnd h₀ L m { s with heap := h, toks := tk } I oI C oC D (LCg.lst ys) S (fun y news' => J (i + 1) (ys ++ [y]) news')) E' { s with heap := h, toks := tk })
    (fin : ∀ ys news, J n ys news → Fin ys news) : ∀ k i ys news, i + k = n → J i ys news → LCg.CompRest prog w A h₀ L m env elt x scope cl s S P Fin k i ys news
  | 0, i, ys, news, e, hJ => LCg.CompRest.zero (fin ys news ((show i = n by omega) ▸ hJ))
  | k + 1, i, ys, news, e, hJ => LCg.CompRest.succ fun v I oI C oC D m₂ h tk E' hP hC hx F N off ne =>
      wpAny_mono (turn i ys news v I oI C oC D m₂ h tk E' (by omega) hJ hP hC hx F N off ne) (fun y s₂ h₂ => compEnd_mono h₂ fun n' hn => restU n J turn fin k (i + 1) _ n' (by omega) hn) fun _ _ e => e
theorem restT {ct elt : Expr} {x : Str} {scope : Scope} {cl : List (Str × Addr)} {S : List (Addr × Obj) → Prop} {P : Nat → Value → Prop} {Fin : List Value → List (Addr × Obj) → Prop} (n : Nat) (J : Nat → List Value → List (Addr × Obj) → Prop)
    (turn : ∀ i ys news v I oI C oC D m₂ h tk (E' : Value → Shared → Prop), i < n → J i ys news → P i v → LCg.NsObj oC m₂ → m₂ x = some v → Fr h₀ L h m → News h₀ L h ((I, oI) :: (C, oC) :: (D, LCg.lst ys) :: news) → LCg.Off3 I C D news → ((@Ne Nat I C) ∧ (@Ne Nat I D) ∧ (@Ne Nat C D)) →
      wpAny (model prog w) A (isTrue ct (compEnvC scope cl C env) (eval ct (compEnvC scope cl C env))) (fun ok s' => if ok = true then
        wpAny (model prog w) A (eval elt (compEnvC scope cl C env)) (LCg.CompEnd h₀ L m { s with heap := h, toks := tk } I oI C oC D (LCg.lst ys) S (fun y news' => J (i + 1) (ys ++ [y]) news')) E' s'
        else LCg.CompEnd h₀ L m { s with heap := h, toks := tk } I oI C oC D (LCg.lst ys) S (fun _ news' => J (i + 1) ys news') Value.none s') E' { s with heap := h, toks := tk })
    (fin : ∀ ys news, J n ys news → Fin ys news) : ∀ k i ys news, i + k = n → J i ys news → LCt.CompRestT prog w A h₀ L m env ct elt x scope cl s S P Fin k i ys news
  | 0, i, ys, news, e, hJ => LCt.CompRestT.zero (fin ys news ((show i = n by omega) ▸ hJ))
  | k + 1, i, ys, news, e, hJ => LCt.CompRestT.succ fun v I oI C oC D m₂ h tk E' hP hC hx F N off ne =>
      wpAny_mono (turn i ys news v I oI C oC D m₂ h tk E' (by omega) hJ hP hC hx F N off ne) (fun ok s₂ h₂ => by
        by_cases hk : ok = true
        · rw [if_pos hk] at h₂ ⊢
          exact wpAny_mono h₂ (fun y s₃ h₃ => compEnd_mono h₃ fun n' hn => restT n J turn fin k (i + 1) _ n' (by omega) hn) fun _ _ e => e
        · rw [if_neg hk] at h₂ ⊢
          exact compEnd_mono h₂ fun n' hn => restT n J turn fin k (i + 1) _ n' (by omega) hn) fun _ _ e => e
end
theorem relabel_cell {env : Env} : ∀ {names : List (Str × NameKind)} {x : Str}, names.lookup x = some .cell →
    (names.map fun (n, k) => if (k == NameKind.free && env.scope.kind == .function && env.kindOf n == some .cell) then (n, NameKind.cell) else (n, k)).lookup x = some .cell
  | [], _, h => by simp at h
  | (n, k) :: r, x, h => by
    have ih := @relabel_cell env r x
    show List.lookup x ((if (k == NameKind.free && env.scope.kind == .function && env.kindOf n == some .cell) = true then (n, NameKind.cell) else (n, k)) :: _) = _
    cases hx : x == n with
    | true =>
      simp only [List.lookup_cons, hx] at h
      cases h
      simp [List.lookup_cons, hx]
    | false =>
      simp only [List.lookup_cons, hx] at h
      by_cases hc : (k == NameKind.free && env.scope.kind == .function && env.kindOf n == some .cell) = true
      · rw [if_pos hc]; simp only [List.lookup_cons, hx]; exact ih h
      · rw [if_neg hc]; simp only [List.lookup_cons, hx]; exact ih h
/-- a block whose one cell is laid ahead of its turns -/
theorem envCell {M : Model} {A : Around} {E : Value → Shared → Prop} {s : Shared} {scope : Scope} {globals : Addr} {cl : List (Str × Addr)} {qual : Str} {env : Env} {x : Str} {Q : Env → Shared → Prop}
    (hcf : ∀ n acc, cellsFrom n scope.names acc = (x, n) :: acc) (hpc : ∀ h, pushCells h scope.names = h.push { cls := .type "cell", data := .cell none })
    (h : Q { scope := scope, locals := s.heap.objs.size, globals := globals, cells := (x, s.heap.objs.size + 1) :: cl, qual := qual, func := none, code := env.code, frame := env.frame, builtins := env.builtins } { s with heap := (s.heap.push { cls := .type "dict", data := .dict #[] }).push { cls := .type "cell", data := .cell none } }) :
    wpAny M A (newFunctionEnv scope globals cl [] qual none .none (some env)) Q E s := by
  simp only [newFunctionEnv, Option.isSome_some, if_true]
  refine wpAny_bind (wpAny_alloc ?_)
  refine wpAny_bind (wpAny_layCells _ (fun name kind cells => by cases hkc : kind == NameKind.cell <;> simp [hkc]) _ _ _ _ ?_)
  simp only [List.forIn_nil]
  refine wpAny_bind (wpAny_pure (wpAny_pure ?_))
  rw [hcf, hpc]
  have e : (s.heap.push { cls := Value.type "dict", data := Data.dict #[] }).objs.size = s.heap.objs.size + 1 := Heap.size_push ..
  show Q { scope := scope, locals := s.heap.objs.size, globals := globals, cells := (x, (s.heap.push { cls := Value.type "dict", data := Data.dict #[] }).objs.size) :: cl, qual := qual, func := none, code := env.code, frame := env.frame, builtins := env.builtins } _
  rw [e]
  exact h
noncomputable def Off4 (I C D c : Addr) (news : List (Addr × Obj)) : Prop := ∀ p ∈ news, p.1 ≠ I ∧ p.1 ≠ C ∧ p.1 ≠ D ∧ p.1 ≠ c
noncomputable def EndK (h₀ : Heap) (L : Addr) (m : Str → Option Value) (s₁ : Shared) (I : Addr) (oI : Obj) (C : Addr) (oC : Obj) (D : Addr) (oD : Obj) (c : Addr) (oc : Obj) (rest : Value → List (Addr × Obj) → Prop) (y : Value) (s₂ : Shared) : Prop :=
  ∃ h' tk news', s₂ = { s₁ with heap := h', toks := tk } ∧ Fr h₀ L h' m ∧ News h₀ L h' ((I, oI) :: (C, oC) :: (D, oD) :: (c, oc) :: news') ∧ Off4 I C D c news' ∧ rest y news'
section
variable {prog : Program} {w : World} {A : Around} {E : Value → Shared → Prop} {s : Shared} {h₀ : Heap} {L : Addr} {m : Str → Option Value} {env : Env}
theorem EndK.intro {I C D c : Addr} {s₁ : Shared} {oI oC oD oc : Obj} {rest : Value → List (Addr × Obj) → Prop} {y : Value} {h' : Heap} {tk : Nat} {all : List (Addr × Obj)}
    (F : Fr h₀ L h' m) (N : News h₀ L h' all) (news' : List (Addr × Obj)) (sub : ∀ p ∈ (I, oI) :: (C, oC) :: (D, oD) :: (c, oc) :: news', p ∈ all) (off : Off4 I C D c news') (r : rest y news') :
    EndK h₀ L m s₁ I oI C oC D oD c oc rest y { s₁ with heap := h', toks := tk } := ⟨h', tk, news', rfl, F, fun p hp => N p (sub p hp), off, r⟩
noncomputable def TurnK (prog : Program) (w : World) (A : Around) (h₀ : Heap) (L : Addr) (m : Str → Option Value) (env : Env) (elt : Expr) (x : Str) (scope : Scope) (cl : List (Str × Addr)) (s : Shared) (n : Nat) (P : Nat → Value → Prop) (J : Nat → List Value → List (Addr × Obj) → Prop) : Prop :=
  ∀ i ys news v I oI C oC D c oc h tk (E' : Value → Shared → Prop), i < n → J i ys news → P i v → oc.data = .cell (some v) → Fr h₀ L h m → News h₀ L h ((I, oI) :: (C, oC) :: (D, LCg.lst ys) :: (c, oc) :: news) → Off4 I C D c news →
      ((@Ne Nat I C) ∧ (@Ne Nat I D) ∧ (@Ne Nat C D) ∧ (@Ne Nat I c) ∧ (@Ne Nat C c) ∧ (@Ne Nat D c)) →
      wpAny (model prog w) A (eval elt (compEnvC scope ((x, c) :: cl) C env)) (EndK h₀ L m { s with heap := h, toks := tk } I oI C oC D (LCg.lst ys) c oc (fun y news' => J (i + 1) (ys ++ [y]) news')) E' { s with heap := h, toks := tk }
theorem block_K {elt iter : Expr} {x : Str} {px : Pos} {scope : Scope} {cl : List (Str × Addr)} {pos : Pos} {s₂ : Shared} {I : Addr} {n : Nat} {P : Nat → Value → Prop} {St : Nat → Heap → Prop} {news : List (Addr × Obj)}
    {J : Nat → List Value → List (Addr × Obj) → Prop} {RR : Value → Addr → Result → Shared → Prop}
    (W : Walks prog w A I [I] [I] n P St) (hsz : n ≤ sizeLine) (hIo : ∀ i h, St i h → ∃ o, h.get? I = some o) (hI : I < s₂.heap.objs.size)
    (hSt : ∀ i h h' o, St i h → h.get? I = some o → h'.get? I = some o → St i h')
    (hcf : ∀ n acc, cellsFrom n scope.names acc = (x, n) :: acc) (hpc : ∀ h, pushCells h scope.names = h.push { cls := .type "cell", data := .cell none })
    (hkind : scope.kind = .function) (hx : scope.names.lookup x = some .cell) (hst : St 0 s₂.heap)
    (F : Fr h₀ L s₂.heap m) (N : News h₀ L s₂.heap news) (hIL : L ≠ I) (hI₀ : h₀.get? I = none) (off : ∀ p ∈ news, p.1 ≠ I) (hJ : J 0 [] news)
    (turn : TurnK prog w A h₀ L m env elt x scope cl s₂ n P J)
    (hRR : ∀ D C oC h tk ys news', Fr h₀ L h m → News h₀ L h ((C, oC) :: (D, LCg.lst ys) :: news') → (∀ p ∈ news', p.1 ≠ C ∧ p.1 ≠ D) → C ≠ D → LCg.NsObj oC (fun _ => none) → J n ys news' → RR (.ref D) C (.ok .next) { s₂ with heap := h, toks := tk }) :
    wpAny (model prog w) A (newList []) (fun acc s₃ => wpAny (model prog w) A (newFunctionEnv scope env.globals cl [] env.qual none .none (some env)) (fun cenv s₄ =>
      codeAny (model prog w) A (.compStart (.ListComp elt [⟨.Name x px, iter, [], 0⟩] scope pos) 0 (.ref I) acc { cenv with scope := relabel scope env }) (RR acc cenv.locals) s₄) E s₃) E s₂ := by
  refine wpAny_newObj_type (envCell hcf hpc ?_)
  dsimp only
  generalize hB : s₂.heap.objs.size = B at hI ⊢
  have fresh₀ : ∀ a, B ≤ a → h₀.get? a = none := fun a ha => by
    cases e : h₀.get? a with
    | none => rfl
    | some o' => exact absurd (hB ▸ Heap.lt_size (F.keep a o' e)) (Nat.not_lt.mpr ha)
  have hLB : L < B := hB ▸ F.ns.lt
  have low : ∀ p ∈ news, p.1 < B := fun p hp => hB ▸ Heap.lt_size (N p hp).1
  have hC : (s₂.heap.push { cls := .type "list", dict := none, data := .seq ([] : List Value).toArray }).objs.size = B + 1 := by rw [Heap.size_push, hB]
  rw [hC]
  have e0 : ((s₂.heap.push { cls := .type "list", dict := none, data := .seq ([] : List Value).toArray }).push { cls := .type "dict", data := .dict #[] }).objs.size = B + 2 := by rw [Heap.size_push, hC]
  generalize hH : ((s₂.heap.push { cls := .type "list", dict := none, data := .seq ([] : List Value).toArray }).push { cls := .type "dict", data := .dict #[] }).push { cls := .type "cell", data := .cell none } = H
  have old : ∀ b o, s₂.heap.get? b = some o → H.get? b = some o := fun b o e => by rw [← hH]; exact Heap.get?_push_of_some _ (Heap.get?_push_of_some _ (Heap.get?_push_of_some _ e))
  have hD : H.get? B = some (LCg.lst []) := by
    rw [← hH, ← hB]
    exact Heap.get?_push_of_some _ (Heap.get?_push_of_some _ (Heap.get?_push_size _ rfl))
  have hCo : ∃ oC, H.get? (B + 1) = some oC ∧ LCg.NsObj oC (fun _ => none) := by
    have hn : H.Ns (B + 1) (fun _ => none) := by
      rw [← hH, ← hC]
      exact (Heap.Ns.new _ (.type "dict")).keeps fun b o e => Heap.get?_push_of_some _ e
    exact LCg.ns_obj hn
  obtain ⟨oC, hCo, hNC⟩ := hCo
  have hc : H.get? (B + 1 + 1) = some { cls := .type "cell", data := .cell none } := by
    rw [← hH, show B + 1 + 1 = ((s₂.heap.push { cls := .type "list", dict := none, data := .seq ([] : List Value).toArray }).push { cls := .type "dict", data := .dict #[] }).objs.size from e0.symm]
    exact Heap.get?_push_size _ rfl
  have n1 : (B : Nat) ≠ B + 1 := Nat.ne_of_lt (Nat.lt_succ_self _)
  have n2 : (B : Nat) ≠ B + 1 + 1 := Nat.ne_of_lt (Nat.lt_succ_of_lt (Nat.lt_succ_self _))
  have n3 : (B + 1 : Nat) ≠ B + 1 + 1 := Nat.ne_of_lt (Nat.lt_succ_self _)
  have lo : ∀ a, a < B → a ≠ B ∧ a ≠ B + 1 ∧ a ≠ B + 1 + 1 := fun a ha => ⟨Nat.ne_of_lt ha, Nat.ne_of_lt (Nat.lt_succ_of_lt ha), Nat.ne_of_lt (Nat.lt_succ_of_lt (Nat.lt_succ_of_lt ha))⟩
  have off₀ : Off4 I (B + 1) B (B + 1 + 1) news := fun p hp => ⟨off p hp, (lo _ (low p hp)).2.1, (lo _ (low p hp)).1, (lo _ (low p hp)).2.2⟩
  have hIlo := lo I hI
  have hLlo := lo L hLB
  have hD₀ := fresh₀ B (Nat.le_refl _)
  have hC₀ := fresh₀ (B + 1) (Nat.le_succ _)
  have hc₀ := fresh₀ (B + 1 + 1) (Nat.le_succ_of_le (Nat.le_succ _))
  have hstH : St 0 H := W.frame _ _ _ hst fun b _ o e => old b o e
  have loop : ∀ s₃ : Shared, s₃ = { s₂ with heap := H } →
      codeAny (model prog w) A (.compLoop (.ListComp elt [⟨.Name x px, iter, [], 0⟩] scope pos) 0 (.ref I) (.ref B) (compEnvC scope ((x, B + 1 + 1) :: cl) (B + 1) env))
        (RR (.ref B) (B + 1)) s₃ := by
    rintro s₃ rfl
    refine codeAny_compLoop_tests
      (fun k s' => ∃ h' tk i ys vo news', s' = { s₂ with heap := h', toks := tk } ∧ i ≤ n ∧ k = n + 1 - i ∧ ys.length = i ∧ St i h' ∧ Fr h₀ L h' m ∧ News h₀ L h' ((B + 1, oC) :: (B, LCg.lst ys) :: (B + 1 + 1, vo) :: news') ∧ (∃ ov, vo.data = .cell ov) ∧
        Off4 I (B + 1) B (B + 1 + 1) news' ∧ J i ys news') ?_ (n + 1)
      ⟨H, _, 0, [], { cls := .type "cell", data := .cell none }, news, rfl, Nat.zero_le _, rfl, rfl, hstH, F.keeps old, fun p hp => ?_, ⟨none, rfl⟩, off₀, hJ⟩
    · rintro k s' ⟨h', tk, i, ys, vo, news', rfl, hi, rfl, hyl, hst', F', N', ⟨ov, hov⟩, off', hJ'⟩
      by_cases hlt : i < n
      · refine W.item i _ _ _ hlt hst' fun v h₂ tk₂ hPv hst₂ hk₂ => ?_
        have F₂ : Fr h₀ L h₂ m := LCg.fr_but F' hk₂ hIL hI₀
        have N₂ : News h₀ L h₂ ((B + 1, oC) :: (B, LCg.lst ys) :: (B + 1 + 1, vo) :: news') := LCg.news_but N' hk₂ fun p hp => by
          simp only [List.mem_cons] at hp
          rcases hp with rfl | rfl | rfl | hp
          · exact Ne.symm hIlo.2.1
          · exact Ne.symm hIlo.1
          · exact Ne.symm hIlo.2.2
          · exact (off' p hp).1
        have hc2 : h₂.get? (B + 1 + 1) = some vo := (N₂ (B + 1 + 1, vo) (by simp)).1
        refine wpAny_assign_Name (wpAny_storeName_cell (c := B + 1 + 1) (v₀ := ov) (by simp [compEnvC, relabel, hkind]) (relabel_cell hx) (by simp [compEnvC]) ⟨vo, hc2, hov⟩ fun h₃ hv₃ hs₃ => ?_)
        obtain ⟨vn, hvn, hvd⟩ := hv₃
        refine wpAny_tests_nil ?_
        simp only [if_true]
        have hst₃ : St (i + 1) h₃ := W.frame _ _ _ hst₂ fun b hb o e => hs₃.extBut b o (by rw [List.mem_singleton.mp hb]; exact hIlo.2.2) e
        obtain ⟨oI, heI⟩ := hIo _ _ hst₃
        have F₃ : Fr h₀ L h₃ m := F₂.change hs₃ (Ne.symm hLlo.2.2) hc₀
        have N₃ : News h₀ L h₃ ((I, oI) :: (B + 1, oC) :: (B, LCg.lst ys) :: (B + 1 + 1, vn) :: news') := fun p hp => by
          simp only [List.mem_cons] at hp
          rcases hp with rfl | rfl | rfl | rfl | hp
          · exact ⟨heI, Ne.symm hIL, hI₀⟩
          · exact ⟨hs₃.extBut _ _ n3 (N₂ (B + 1, oC) (by simp)).1, Ne.symm hLlo.2.1, hC₀⟩
          · exact ⟨hs₃.extBut _ _ n2 (N₂ (B, LCg.lst ys) (by simp)).1, Ne.symm hLlo.1, hD₀⟩
          · exact ⟨hvn, Ne.symm hLlo.2.2, hc₀⟩
          · have z := N₂ p (by simp [hp])
            exact ⟨hs₃.extBut _ _ (off' p hp).2.2.2 z.1, z.2⟩
        refine wpAny_mono (turn i ys news' v I oI (B + 1) oC B (B + 1 + 1) vn h₃ _ _ hlt hJ' hPv hvd F₃ N₃ off' ⟨hIlo.2.1, hIlo.1, Ne.symm n1, hIlo.2.2, n3, n2⟩) (fun y s₄ h₄ => ?_) fun _ _ e => e
        obtain ⟨h₄, tk₄, news₄, rfl, F₄, N₄, off₄, hJ₄⟩ := h₄
        have zI := (N₄ (I, oI) (by simp)).1
        have zD := (N₄ (B, LCg.lst ys) (by simp)).1
        have hst₄ : St (i + 1) h₄ := hSt _ _ _ _ hst₃ heI zI
        refine append_at (hsz := by show ys.toArray.size ≤ sizeLine; rw [List.size_toArray, hyl]; exact Nat.le_trans hi hsz) zD fun h₅ hs₅ hD₅ => ?_
        refine ⟨n + 1 - (i + 1), turnLess (by assumption), h₅, tk₄, i + 1, ys ++ [y], vn, news₄, rfl, hlt, rfl, by rw [List.length_append, List.length_singleton, hyl], W.frame _ _ _ hst₄ fun b hb o e => hs₅.extBut b o (by rw [List.mem_singleton.mp hb]; exact hIlo.1) e, F₄.change hs₅ (Ne.symm hLlo.1) hD₀,
          fun p hp => ?_, ⟨some v, hvd⟩, off₄, hJ₄⟩
        simp only [List.mem_cons] at hp
        rcases hp with rfl | rfl | rfl | hp
        · have z := N₄ (B + 1, oC) (by simp)
          exact ⟨hs₅.extBut _ _ (Ne.symm n1) z.1, z.2⟩
        · exact ⟨hD₅.trans (congrArg some (LCg.lst_snoc ys y)), Ne.symm hLlo.1, hD₀⟩
        · have z := N₄ (B + 1 + 1, vn) (by simp)
          exact ⟨hs₅.extBut _ _ (Ne.symm n2) z.1, z.2⟩
        · have z := N₄ p (by simp [hp])
          exact ⟨hs₅.extBut _ _ (off₄ p hp).2.2.1 z.1, z.2⟩
      · obtain rfl : i = n := Nat.le_antisymm hi (Nat.not_lt.mp hlt)
        refine W.done _ _ _ hst' fun h₂ tk₂ hk₂ => ?_
        refine hRR B (B + 1) oC h₂ tk₂ ys news' (LCg.fr_but F' hk₂ hIL hI₀) (LCg.news_but (fun p hp => N' p (by
          simp only [List.mem_cons] at hp ⊢
          rcases hp with h | h | h
          · exact .inl h
          · exact .inr (.inl h)
          · exact .inr (.inr (.inr h)))) hk₂ fun p hp => ?_) (fun p hp => ⟨(off' p hp).2.1, (off' p hp).2.2.1⟩) (Ne.symm n1) hNC hJ'
        simp only [List.mem_cons] at hp
        rcases hp with rfl | rfl | hp
        · exact Ne.symm hIlo.2.1
        · exact Ne.symm hIlo.1
        · exact (off' p hp).1
    · simp only [List.mem_cons] at hp
      rcases hp with rfl | rfl | rfl | hp
      · exact ⟨hCo, Ne.symm hLlo.2.1, hC₀⟩
      · exact ⟨hD, Ne.symm hLlo.1, hD₀⟩
      · exact ⟨hc, Ne.symm hLlo.2.2, hc₀⟩
      · exact ⟨old _ _ (N p hp).1, (N p hp).2⟩
  exact codeAny_compStart_list (loop _ rfl) (W.self 0 _ _ _ hstH (loop _ rfl))
noncomputable def SrcK (prog : Program) (w : World) (A : Around) (h₀ : Heap) (L : Addr) (m : Str → Option Value) (env : Env) (elt : Expr) (x : Str) (scope : Scope) (cl : List (Str × Addr)) (Q : Value → Shared → Prop) (xv : Value) (s₁ : Shared) : Prop :=
  ∃ r b t u v n news J, xv = .ref r ∧ A.handled = none ∧ Fr h₀ L s₁.heap m ∧ News h₀ L s₁.heap news ∧ IsRange s₁.heap r 0 b 1 t u v ∧ b = ((n : Nat) : Int) ∧ n < 2 ^ 60 ∧ n ≤ sizeLine ∧ J 0 [] news ∧
    (∀ g, TurnK prog w A h₀ L m env elt x scope cl { s₁ with heap := g } n (fun i v => ∃ t, v = .int (i : Nat) t) J) ∧
    ∀ D h tk ys news', J n ys news' → Fr h₀ L h m → News h₀ L h ((D, LCg.lst ys) :: news') → (∀ p ∈ news', p.1 ≠ D) → Q (.ref D) { s₁ with heap := h, toks := tk }
/-- a list comprehension over range(n) whose own name is a cell -/
theorem ListComp_K {elt iter : Expr} {x : Str} {px : Pos} {scope : Scope} {cl : List (Str × Addr)} {pos : Pos} {Q : Value → Shared → Prop} (_F₀ : Fr h₀ L s.heap m)
    (hclos : closureFor scope env = pure cl) (hcf : ∀ n acc, cellsFrom n scope.names acc = (x, n) :: acc) (hpc : ∀ h, pushCells h scope.names = h.push { cls := .type "cell", data := .cell none }) (hkind : scope.kind = .function)
    (hnames : ∀ y ∈ scope.names, y.2 = .local → scope.names.lookup y.1 = some .local) (hx : scope.names.lookup x = some .cell)
    (h : wpAny (model prog w) A (eval iter env) (SrcK prog w A h₀ L m env elt x scope cl Q) E s)
    (hs : ∀ x, foldedSetIterable iter env x = pure x) :
    wpAny (model prog w) A (eval (.ListComp elt [⟨.Name x px, iter, [], 0⟩] scope pos) env) Q E s := by
  rw [eval_ListComp]
  refine wpAny_comprehension_free (use := none) rfl hs hclos hkind hnames (wpAny_mono h (fun xv s₁ h₁ => ?_) fun _ _ e => e)
  obtain ⟨r, b, t, u, v, n, news, J, rfl, hh, F, N, hr, rfl, hz, hsz, hJ, turn, fin⟩ := h₁
  have hsm : Builtin.Range.small 0 (n : Int) 1 = true := small_one (by omega) (by omega) (by omega) (by omega)
  have hn : Builtin.Range.rangeSize 0 (n : Int) 1 = (n : Int) := by
    unfold Builtin.Range.rangeSize
    rw [if_pos (by decide)]
    split <;> omega
  refine wpAny_pyIter_range hr hsm ?_
  have W0 : Walks prog w A s₁.heap.objs.size [s₁.heap.objs.size] [s₁.heap.objs.size] n (fun i v => ∃ t, v = .int ((0 : Int) + (i : Int)) t) (fun i h => IsRangeIter h s₁.heap.objs.size (0 + (i : Nat) * 1) ((n : Int) - (i : Nat)) 1) := LCg.range_walks hh 0 n
  have W : Walks prog w A s₁.heap.objs.size [s₁.heap.objs.size] [s₁.heap.objs.size] n (fun i v => ∃ t, v = .int (i : Nat) t) (fun i h => IsRangeIter h s₁.heap.objs.size (0 + (i : Nat) * 1) ((n : Int) - (i : Nat)) 1) :=
    { sub := W0.sub, frame := W0.frame, done := W0.done, self := W0.self,
      item := fun i s Q E hi st hQ => W0.item i s Q E hi st fun v h' tk hP => hQ v h' tk (by obtain ⟨t, rfl⟩ := hP; exact ⟨t, by rw [Int.zero_add]⟩) }
  refine block_K W hsz (fun i h st => ⟨_, st⟩) (by show _ < (s₁.heap.push _).objs.size; rw [Heap.size_push]; exact Nat.lt_succ_self _) (fun i h h' o st e e' => ?_) hcf hpc hkind hx (by show IsRangeIter _ _ _ _ _; rw [hn]; simpa using Heap.get?_push_size _ rfl)
    (F.keeps fun _ _ e => Heap.get?_push_of_some _ e) (N.grown fun _ _ e => Heap.get?_push_of_some _ e) (Nat.ne_of_lt F.ns.lt) (next_is_new F) (fun p hp => Nat.ne_of_lt (Heap.lt_size (N p hp).1)) hJ (turn _) ?_
  · have st' : h.get? s₁.heap.objs.size = some _ := st
    show h'.get? s₁.heap.objs.size = some _
    rw [e', ← e]; exact st'
  · intro D C oC h tk ys news' F' N' off hCD hoC hJn
    refine ⟨_, hoC.ns (N' (C, oC) (by simp)).1, fun h'' hs'' => fin D h'' tk ys news' hJn (F'.change hs'' (N' (C, oC) (by simp)).2.1 (N' (C, oC) (by simp)).2.2) (fun p hp => ?_) fun p hp => (off p hp).2⟩
    have z := N' p (List.mem_cons_of_mem _ hp)
    refine ⟨hs''.extBut _ _ ?_ z.1, z.2⟩
    rcases List.mem_cons.mp hp with rfl | hp
    · exact Ne.symm hCD
    · exact (off p hp).1
end
section
variable {prog : Program} {w : World} {A : Around} {E : Value → Shared → Prop} {s : Shared} {env : Env} {h₀ : Heap} {target : Expr} {body : List Stmt} {Q : Flow → Shared → Prop}
/-- the end of such a turn: q is the iterator's entry -/
noncomputable def LTurn (h₀ : Heap) (L : Addr) (J : (Str → Option Value) → List (Addr × Obj) → Prop) (q : Addr × Obj) (s : Shared) (f : Flow) (s₃ : Shared) : Prop :=
  f = .next ∧ ∃ h' tk' m' news', s₃ = { s with heap := h', toks := tk' } ∧ Fr h₀ L h' m' ∧ News h₀ L h' (q :: news') ∧ (∀ p ∈ news', p.1 ≠ q.1) ∧ J m' news'
theorem LTurn.intro {L : Addr} {J : (Str → Option Value) → List (Addr × Obj) → Prop} {q : Addr × Obj} {h' : Heap} {tk : Nat} {m' : Str → Option Value} {news' : List (Addr × Obj)} (F : Fr h₀ L h' m') (N : News h₀ L h' (q :: news')) (off : ∀ p ∈ news', p.1 ≠ q.1) (hJ : J m' news') : LTurn h₀ L J q s .next { s with heap := h', toks := tk } :=
  ⟨rfl, h', tk, m', news', rfl, F, N, off, hJ⟩
/-- a for over a ledger's list with any target, by what holds behind i turns -/
theorem listT {l : Addr} {vs : List Value} {nn : Nat} {m₀ : Str → Option Value} {news : List (Addr × Obj)} (J : Nat → (Str → Option Value) → List (Addr × Obj) → Prop)
    (hh : A.handled = none) (hl : (l, W.listOf vs.toArray nn) ∈ news) (F : Fr h₀ env.locals s.heap m₀) (N : News h₀ env.locals s.heap news) (hj : J 0 m₀ news) (hJl : ∀ i m₁ news₁, J i m₁ news₁ → (l, W.listOf vs.toArray nn) ∈ news₁)
    (turn : ∀ i v m₁ news₁ h tk I oI, vs[i]? = some v → J i m₁ news₁ → Fr h₀ env.locals h m₁ → News h₀ env.locals h ((I, oI) :: news₁) → (∀ p ∈ news₁, p.1 ≠ I) →
      wpAny (model prog w) A (assign target env v) (fun _ s₂ => wpAny (model prog w) A (execs body env) (LTurn h₀ env.locals (J (i + 1)) (I, oI) s) E s₂) E { s with heap := h, toks := tk })
    (done : ∀ m₁ news₁ h tk, J vs.length m₁ news₁ → Fr h₀ env.locals h m₁ → News h₀ env.locals h news₁ → Q .next { s with heap := h, toks := tk }) :
    wpAny (model prog w) A (pyIter (.ref l)) (fun it s₂ => TurnsAt prog w A h₀ env target body Q E it s₂) E s := by
  have hol : s.heap.get? l = some (W.listOf vs.toArray nn) := (N _ hl).1
  have hls : s.heap.IsList l vs.toArray := ⟨_, hol, rfl, nn, rfl⟩
  have hne : l ≠ s.heap.objs.size := Nat.ne_of_lt (Heap.lt_size hol)
  refine wpAny_pyIter_list hls ?_
  have low : ∀ p ∈ news, p.1 < s.heap.objs.size := fun p hp => Heap.lt_size (N p hp).1
  have hLs : env.locals < s.heap.objs.size := F.ns.lt
  have hIn : h₀.get? s.heap.objs.size = none := next_is_new F
  have W' := Walks.list (prog := prog) (w := w) hh s.heap.objs.size l hne vs.toArray
  have hlen : vs.toArray.size = vs.length := by simp
  rw [hlen] at W'
  have K := KTurns.ofWalks (target := target) W' fun i v s Q E st q => letGo_listiter st.1 q
  refine ⟨_, _, _, vs.length, _, _, _, m₀, news, J, rfl, K, ?_, ?_, ?_, ⟨⟨_, Heap.get?_push_size _ rfl, rfl, rfl⟩, hls.at fun o e => Heap.get?_push_of_some _ e⟩, F.push _, (fun p hp => ⟨Heap.get?_push_of_some _ (N p hp).1, (N p hp).2⟩), hj, ?_, ?_⟩
  · intro hm
    rcases List.mem_cons.mp hm with e | hm
    · exact absurd hLs (e ▸ Nat.lt_irrefl _)
    · exact (N _ hl).2.1 (List.mem_singleton.mp hm).symm
  · intro b hb
    rw [List.mem_singleton.mp hb]
    exact hIn
  · intro p hp hI
    exact absurd (low p hp) ((List.mem_singleton.mp hI) ▸ Nat.lt_irrefl _)
  · rintro i v m₁ news₁ h₁ tk₁ own hin hP hJ hoff hown _ hall hst F₁ N₁
    obtain ⟨⟨oI, hoI, hcI, hdI⟩, hlI⟩ := hst
    have N₂ : News h₀ env.locals h₁ ((s.heap.objs.size, oI) :: news₁) := fun p hp => by
      rcases List.mem_cons.mp hp with rfl | hp
      · exact ⟨hoI, Nat.ne_of_gt hLs, hIn⟩
      · exact N₁ p (List.mem_append_right _ hp)
    have hoff' : ∀ p ∈ news₁, p.1 ≠ s.heap.objs.size := fun p hp q => hoff p hp (List.mem_singleton.mpr q)
    refine wpAny_mono (turn i v m₁ news₁ h₁ tk₁ s.heap.objs.size oI (by simpa using hP) hJ F₁ N₂ hoff') (fun _ s₂ h₂ => wpAny_mono h₂ (fun f s₃ h₃ => ?_) fun _ _ e => e) fun _ _ e => e
    obtain ⟨rfl, h', tk, m', news', rfl, F', N', hoff₃, hJ₃⟩ := h₃
    have hdm : (l, W.listOf vs.toArray nn) ∈ news' := hJl _ _ _ hJ₃
    refine LoopStepV.next ⟨rfl, h', tk, m', news', rfl, F', fun p hp => ?_, fun p hp q => hoff₃ p hp (List.mem_singleton.mp q), hJ₃⟩
    rcases List.mem_append.mp hp with hp | hp
    · have hb' : p.1 = s.heap.objs.size ∨ p.1 = l := by simpa using hown p hp
      have e1 := (N₁ p (List.mem_append_left _ hp)).1
      obtain ⟨pa, po⟩ := p
      simp only at hb' e1
      rcases hb' with e | e
      · subst e
        rw [hoI] at e1
        cases e1
        exact N' _ (List.mem_cons_self ..)
      · subst e
        have e2 := (N₁ _ (List.mem_append_right _ (hJl _ _ _ hJ))).1
        simp only at e2
        rw [e2] at e1
        cases e1
        exact N' _ (List.mem_cons_of_mem _ hdm)
    · exact N' p (List.mem_cons_of_mem _ hp)
  · intro h' tk m' news' F' N' _ hJ
    exact done m' news' h' tk hJ F' N'
end
end Mine
end
section
open PySem PySem.W PyProof.Rows
set_option maxRecDepth 100000
namespace Mine

section
variable {prog : Program} {w : World} {A A₀ : Around} {s : Shared} {K : Frag} {L : Addr} {h₀ base : Heap} {m mg mb : Str → Option Value} {news : Led} {p : Program} {loose : List Str}
/-- entering a def of the text's own that has cells, over the reading part of the top alone -/
theorem enterC {env : Env} {outer : List Env} {R : Result → Shared → Prop} {name qual : Str} {params : Arguments} {body : List Stmt} {scope : Scope} {dV kV doc pm cdv ct oc : Value} {an od : Option Addr} {osl : Array (Option Value)} {f : Addr} {args : Args} {binds : List (Str × Value)}
    (B : Below A₀ base outer h₀) (F : Fr h₀ L s.heap m) (X₀ : K.In h₀) (N : News h₀ L s.heap news) (T : TopRead p loose mg mb h₀) (hA : A.frames = some (env :: outer)) (hf : env.frame = some L) (hke : env.scope.kind = .function)
    (ho : K.lookup f = some ⟨oc, od, .func (fnOf name qual params body scope dV kV doc pm an cdv ct), osl⟩) (hcd : codeIn K cdv qual = true) (hroom : A.depth < recursionLimit)
    (hbind : BindsTo s (fnOf name qual params body scope dV kV doc pm an cdv ct) args binds) (hkind : (binds.all fun y => scope.names.lookup y.1 == some .local || scope.names.lookup y.1 == some .cell) = true)
    (hnd : ((cellsFrom 0 scope.names []).map (·.1)).Nodup)
    (h : ∀ g L' h₁ tk cells, Fr h₀ L g m → Fr g L' h₁ (bindL (envOfC qual scope L' f cdv).kindOf binds fun _ => none) → News g L' h₁ (cells ++ news) →
      CellsAre (bindC (envOfC qual scope L' f cdv).kindOf binds fun _ => none) (cellsFrom (L' + 1) scope.names []) cells → Below A base (env :: outer) g → K.In g → TopRead p loose mg mb g → (∀ p ∈ news, p.1 < L') →
      wpAny (model prog w) (A.deeper (envOfC qual scope L' f cdv)) (execs body (envOfC qual scope L' f cdv))
        (fun fl s' => LeaveK h₀ L m g R (match fl with | .ret v => v | _ => .none) s')
        (fun e s' => wpAny (model prog w) (A.deeper (envOfC qual scope L' f cdv)) (leaving (envOfC qual scope L' f cdv) e) (fun _ s'' => R (.error e) s'') (fun e' s'' => R (.error e') s'') s')
        { s with heap := h₁, toks := tk })
    (hco : scope.isCoroutine = false) (hgen : scope.isGenerator = false) (hk : scope.kind = .function) : codeAny (model prog w) A (.call (.ref f) args) R s :=
  callX_cells B F N T.nolimit hA hf hke ((X₀.keeps F.keep) _ _ ho) rfl (codeRec_of (X₀.keeps F.keep) hcd) hroom hbind (kindsX hkind) hnd (fun g L' h₁ tk cells FG F' N' Y B' st l => h g L' h₁ tk cells FG F' N' Y B' (X₀.keeps st) (T.keeps st) l) hco hgen hk
end
noncomputable def ldgL (ys : List Int) (i : Nat) : List (Int × Int × Int) := v0 i :: (ys.filter (fun y => y.fmod 4 == (i : Int))).map shr
noncomputable def ldg (ys : List Int) (i : Nat) : Int × Int × Int := (((ldgL ys i).map (·.1)).sum, ((ldgL ys i).map (·.2.1)).sum, ((ldgL ys i).map (·.2.2)).sum)
noncomputable abbrev ldgLed (Z : Addr) (nn : Nat) (T c : Nat → Addr) (t : Nat → Tok) (u : Nat → Tok × Tok × Tok) (ys : List Int) : Led :=
  (Z, W.listOf #[.ref (T 0), .ref (T 1), .ref (T 2), .ref (T 3)] nn) :: [(T 0, tup2 (.int 0 (t 0)) (.ref (c 0))), (T 1, tup2 (.int 1 (t 1)) (.ref (c 1))), (T 2, tup2 (.int 2 (t 2)) (.ref (c 2))), (T 3, tup2 (.int 3 (t 3)) (.ref (c 3))), (c 0, sumO (ldg ys 0) (u 0)), (c 1, sumO (ldg ys 1) (u 1)), (c 2, sumO (ldg ys 2) (u 2)), (c 3, sumO (ldg ys 3) (u 3))]
local macro_rules | `(tactic| k_lt $h:ident) => `(tactic| (replace $h := allLt_of $h; dsimp only [AllLt] at $h:ident))
local macro_rules | `(tactic| walk_at "mine sub") => `(tactic| first | exact sub_nil | (refine sub_cons (by first | k_mem | (repeat (first | assumption | refine List.mem_cons_of_mem _ ?_))) ?_; walk_at "mine sub") | (intro p9 hp9; repeat (first | exact hp9 | refine List.mem_cons_of_mem _ ?_)))
local macro_rules | `(tactic| walk_at "call ref") => `(tactic| (refine stopAt ?_))
local macro_rules | `(tactic| walk_at "exec For Tuple Call cons nil") => `(tactic| (refine stopAt ?_))
local macro_rules | `(tactic| walk_at "eval ListComp") => `(tactic| (refine stopAt ?_))
local macro_rules | `(tactic| walk_at "binaryOp Add ref ref") => `(tactic| (refine stopAt ?_))
local macro_rules | `(tactic| walk_at "LTurn") => `(tactic| (refine stopAt ?_))
local macro_rules | `(tactic| walk_at "SrcK") => `(tactic| (refine stopAt ?_))
local macro_rules | `(tactic| walk_at "call builtin:sum") => `(tactic| (refine stopAt ?_))
local macro_rules | `(tactic| walk_at "call type:tuple") => `(tactic| (refine stopAt ?_))
local macro_rules | `(tactic| walk_at "subscriptTail Name Name ref int") => `(tactic| (refine stopAt ?_))
local macro_rules | `(tactic| walk_at "CompSrcT") => `(tactic| (refine stopAt ?_))
local macro_rules | `(tactic| walk_at "CompSrc") => `(tactic| (refine stopAt ?_))
local macro_rules | `(tactic| k_all) => `(tactic| assumption)
theorem at4 {dd : Nat → Addr} {i : Nat} {v : Value} (h : ([.ref (dd 0), .ref (dd 1), .ref (dd 2), .ref (dd 3)] : List Value)[i]? = some v) : i < 4 ∧ v = .ref (dd i) := by
  match i, h with
  | 0, h => exact ⟨by decide, by simpa using h.symm⟩
  | 1, h => exact ⟨by decide, by simpa using h.symm⟩
  | 2, h => exact ⟨by decide, by simpa using h.symm⟩
  | 3, h => exact ⟨by decide, by simpa using h.symm⟩
  | i + 4, h => simp at h
theorem addL {prog : Program} {w : World} {A : Around} {E : Value → Shared → Prop} {s : Shared} {h₀ : Heap} {L : Addr} {m : Str → Option Value} {news : Led} {l b : Addr} {vs ws zs : List Value} {n n2 : Nat} {Q : Value → Shared → Prop} (F : Fr h₀ L s.heap m) (N : News h₀ L s.heap news)
    (hl : (l, W.listOf vs.toArray n) ∈ news) (hb : (b, W.listOf ws.toArray n2) ∈ news) (e : vs ++ ws = zs) (hsz : zs.length ≤ sizeLine)
    (h : ∀ D h', Fr h₀ L h' m → News h₀ L h' ((D, W.listOf zs.toArray 0) :: news) → (∀ p ∈ news, p.1 < D) → Q (.ref D) { s with heap := h' }) :
    wpAny (model prog w) A (binaryOp .Add (.ref l) (.ref b)) Q E s := by
  subst e
  exact add_lists F N ⟨_, (N _ hl).1, rfl, n, rfl⟩ ⟨_, (N _ hb).1, rfl, n2, rfl⟩ (fun h' F' N' => h _ h' F' N' fun p hp => Heap.lt_size (N p hp).1) (by simpa using hsz)
section
open PySem.Calls PySem.Spec
variable {M : Model} {A : Around} {E : Value → Shared → Prop} {s : Shared} {K : Frag} {h₀ : Heap} {L C : Addr} {m mg mb : Str → Option Value} {scope : Scope} {cl : List (Str × Addr)} {env : Env} {p : Program} {loose : List Str} {x : Str} {pos : Pos} {v : Value} {Q : Value → Shared → Prop}
/-- a builtin's name within a comprehension, over the reading part of the top alone -/
theorem ld_builtR (F : Fr h₀ L s.heap m) (X : K.In h₀) (T : TopRead p loose mg mb h₀) (e : nsIn K mainGlobals x = some none) (hv : bootBuiltins x = some v) (hn : x ≠ "__name__") (h : Q v s) (hg : env.globals = mainGlobals := by rfl) (hb : env.builtins = builtinsNs := by rfl)
    (hk : (compEnvC scope cl C env).scope.kind = .function := by rfl) (hx : (compEnvC scope cl C env).kindOf x = some .globalImplicit := by rfl) (hd : (x == ("__debug__" : Str)) = false := by decide) :
    wpAny M A (eval (.Name x pos) (compEnvC scope cl C env)) Q E s :=
  Name_function_global hk hx (loadGlobal_builtin (env := compEnvC scope cl C env) (show s.heap.Ns env.globals mg from hg ▸ T.g.keeps F.keep) (mg_none_of X T.g e) (show s.heap.Ns env.builtins mb from hb ▸ T.b.keeps F.keep) ((T.builtins x hn).trans hv) h) hd
end
local macro_rules | `(tactic| walk_at "eval Name") => `(tactic| (k_here; (with_reducible show wpAny _ _ (eval (Expr.Name _ _) (compEnvC _ _ _ _)) _ _ _); k_dflt (refine ld_builtR (by k_asm) (by k_asm) (by k_asm) (by k_is) (by boot_by_name) (by decide) ?_)))
/-- a row of a comprehension: a tuple of three sums that the ledger bears -/
noncomputable def ShR (ns : Led) (v : Value) (t : Int × Int × Int) : Prop := ∃ a u, v = .ref a ∧ (a, sumO t u) ∈ ns
theorem ShR.mono {ns ns' : Led} (h : ∀ p ∈ ns, p ∈ ns') {vs : List Value} {ts : List (Int × Int × Int)} (x : Paired (ShR ns) vs ts) : Paired (ShR ns') vs ts := by
  induction x with
  | nil => exact .nil
  | cons h1 _ ih =>
    obtain ⟨a, u, rfl, hm⟩ := h1
    exact .cons ⟨a, u, rfl, h _ hm⟩ ih
theorem pairedAt {α β : Type} {F : α → β → Prop} {l₁ : List α} {l₂ : List β} (x : Paired F l₁ l₂) : ∀ {i : Nat} {v : α}, l₁[i]? = some v → ∃ t, l₂[i]? = some t ∧ F v t := by
  induction x with
  | nil => intro i v h; simp at h
  | cons h1 _ ih =>
    intro i v h
    cases i with
    | zero => exact ⟨_, rfl, by simp at h; exact h ▸ h1⟩
    | succ i => simpa using ih (by simpa using h)
theorem ints3 {ws : List Value} {a b c : Int} (h : IntsAre ws [a, b, c]) : ∃ t0 t1 t2, ws = [.int a t0, .int b t1, .int c t2] := by
  cases h with | cons _ t0 h => cases h with | cons _ t1 h => cases h with | cons _ t2 h => cases h with | nil => exact ⟨t0, t1, t2, rfl⟩
/-- what holds behind i turns of the shares' comprehension -/
noncomputable def JS (pfx : Led → Led) (rest : Led) (ys : List Int) (k : Nat) (i : Nat) (vals : List Value) (ns : Led) : Prop :=
  ∃ R, ns = pfx R ∧ (∀ p ∈ rest, p ∈ R) ∧ (∀ p ∈ R, p ∈ rest ∨ ∀ q ∈ pfx rest, q.1 < p.1) ∧ Paired (ShR R) vals (((ys.take i).filter (fun y => y.fmod 4 == (k : Int))).map shr)
noncomputable def tok3 (k : Nat) (t : Tok × Tok × Tok) : Tok := match k with | 0 => t.1 | 1 => t.2.1 | _ => t.2.2
noncomputable def cmp3 (k : Nat) (t : Int × Int × Int) : Int := match k with | 0 => t.1 | 1 => t.2.1 | _ => t.2.2
/-- what holds behind i rows of the ledger -/
noncomputable def JL (q3 : Addr × Obj) (l Z cn co : Addr) (vs : List Value) (nn : Nat) (ys : List Int) (dd ee : Nat → Addr) (kk : Nat → Tok) (uu : Nat → Tok × Tok × Tok) (news : Led) (i : Nat) (m₁ : Str → Option Value) (n₁ : Led) : Prop :=
  ∃ (on oo : Obj) (nz : Nat) (rest : Led) (T c : Nat → Addr) (t : Nat → Tok) (u : Nat → Tok × Tok × Tok) (m₂ : Str → Option Value),
    m₁ = (fun y => if y = Str.ofString "taken" then some (.ref l) else if y = Str.ofString "rows" then some (.ref Z) else m₂ y) ∧
    n₁ = (Z, W.listOf ((List.range i).map fun j => Value.ref (T j)).toArray nz) :: (co, oo) :: (cn, on) :: (l, W.listOf vs.toArray nn) :: rest ∧
    (∃ v, oo.data = .cell v) ∧ (∃ v, on.data = .cell v) ∧
    (∀ j, j < 4 → (dd j, tup2 (.int (j : Nat) (kk j)) (.ref (ee j))) ∈ rest ∧ (ee j, sumO (v0 j) (uu j)) ∈ rest) ∧
    (∀ p ∈ news, p ∈ rest) ∧ q3 ∈ rest ∧
    (∀ j, j < i → (T j, tup2 (.int (j : Nat) (t j)) (.ref (c j))) ∈ rest ∧ (c j, sumO (ldg ys j) (u j)) ∈ rest ∧ ∀ p ∈ news, p.1 < T j ∧ p.1 < c j) ∧
    (∀ p ∈ rest, p.1 ≠ Z) ∧ (∀ p ∈ rest, p.1 ≠ co) ∧ (∀ p ∈ rest, p.1 ≠ cn)
set_option maxHeartbeats 8000000 in
theorem ledger_spec (w : World) (mg mb : Str → Option Value) (l : Addr) (vs : List Value) (ys : List Int) (nn : Nat) (hi : IntsAre vs ys) (hlen : ys.length ≤ 64) :
  SpecO w mg mb 80 3 [.ref l] (fun news => (l, W.listOf vs.toArray nn) ∈ news)
    (fun tl r => ∃ Z nn T c t u, tl = ldgLed Z nn T c t u ys ∧ r = .ref Z) := by
  unfold SpecO
  k_fill
  intro dp un gd cn cs ad ccd cl outer A₀ base h₀ L m news s Q E B F X N T hk hpre hdp hun hret
  have N1 := news_dup N hpre
  clear N
  refine wpAny_call ?_
  k_dflt (refine' enterC ?k1 ?k2 ?k3 ?k4 ?k5 ?kA ?kF ?kK ?k6 ?k7 ?k8 ?k9 ?kB ?kD ?_ ?c2 ?c3 ?c4; (case kA => exact rfl); (case kF => exact rfl); (case kK => assumption); (case k1 => k_asm); (case k2 => k_asm); (case k3 => k_asm); (case k4 => k_asm); (case k5 => k_asm); (case k6 => k_is); (case k7 => k_is); (case k8 => ktr_room); (case k9 => exact BindsTo.of_eq rfl); (case kB => exact rfl); (case kD => decide +kernel); (case c2 => exact rfl); (case c3 => exact rfl); (case c4 => exact rfl); k_whole; intro gg LL hh2 tt cells' FG F' N' Y' BB XX TT lb; (try k_lt lb); k_cells Y'; (try simp only [List.cons_append, List.nil_append] at N'); (try dsimp only); (try k_lift BB); (try k_fold))
  show wpAny _ _ _ _ _ _
  k_fold
  k_steps
  unfold Stop
  rename_i oo on do_ dn ZZ hh3 lz hh4 FZ NZ
  with_unfolding_all refine' For_turns FZ ?_ ?hs ?hE
  (case hs => intro _; with_unfolding_all rfl)
  (case hE => first | passes_own | with_unfolding_all passes_own)
  (repeat' (first | (k_unfold; (try dsimp only)) | (walk1 <;> (try dsimp only)) | (dsimp only; walk1) | (leave1; try dsimp only)))
  unfold Stop
  (rename Fr _ _ _ _ => F9)
  (rename News _ _ _ _ => N9)
  refine' SpecO.use (start_spec w mg mb) ?B F9 ?X N9 ?T ?hk True.intro ?hd ?hu ?_
  (case B => k_asm)
  (case X => k_asm)
  (case T => k_asm)
  (case hk => rfl)
  (case hd => ktr_room)
  (case hu => ktr_units)
  intro r3 tl3 h3 tk3 F3 N3 hlt3 hout3
  obtain ⟨l3, d0, d1, d2, d3, e0, e1, e2, e3, k3, rfl, rfl⟩ := hout3
  clear N9 F9
  obtain ⟨vo0, do1⟩ : ∃ v, oo.data = .cell v := ⟨_, do_⟩
  obtain ⟨vn0, dn1⟩ : ∃ v, on.data = .cell v := ⟨_, dn⟩
  clear do_ dn
  obtain ⟨dd, rfl, rfl, rfl, rfl⟩ : ∃ dd : Nat → Addr, dd 0 = d0 ∧ dd 1 = d1 ∧ dd 2 = d2 ∧ dd 3 = d3 := ⟨fun j => match j with | 0 => d0 | 1 => d1 | 2 => d2 | _ => d3, rfl, rfl, rfl, rfl⟩
  obtain ⟨ee, rfl, rfl, rfl, rfl⟩ : ∃ dd : Nat → Addr, dd 0 = e0 ∧ dd 1 = e1 ∧ dd 2 = e2 ∧ dd 3 = e3 := ⟨fun j => match j with | 0 => e0 | 1 => e1 | 2 => e2 | _ => e3, rfl, rfl, rfl, rfl⟩
  obtain ⟨kk, uu, hst⟩ : ∃ (kk : Nat → Tok) (uu : Nat → Tok × Tok × Tok), ∀ j, j < 4 → (dd j, tup2 (.int (j : Nat) (kk j)) (.ref (ee j))) ∈ startLed l3 (dd 0) (dd 1) (dd 2) (dd 3) (ee 0) (ee 1) (ee 2) (ee 3) k3 ∧ (ee j, sumO (v0 j) (uu j)) ∈ startLed l3 (dd 0) (dd 1) (dd 2) (dd 3) (ee 0) (ee 1) (ee 2) (ee 3) k3 := by
    refine ⟨(fun j => match j with | 0 => k3 0 | 1 => k3 4 | 2 => k3 8 | _ => k3 12), (fun j => match j with | 0 => (k3 1, k3 2, k3 3) | 1 => (k3 5, k3 6, k3 7) | 2 => (k3 9, k3 10, k3 11) | _ => (k3 13, k3 14, k3 15)), ?_⟩
    intro j hj
    match j, hj with
    | 0, _ => exact ⟨by simp [startLed], by simp [startLed, v0]⟩
    | 1, _ => exact ⟨by simp [startLed], by simp [startLed, v0]⟩
    | 2, _ => exact ⟨by simp [startLed], by simp [startLed, v0]⟩
    | 3, _ => exact ⟨by simp [startLed], by simp [startLed, v0]⟩
  have hl3 : (l3, W.listOf #[.ref (dd 0), .ref (dd 1), .ref (dd 2), .ref (dd 3)] 0) ∈ startLed l3 (dd 0) (dd 1) (dd 2) (dd 3) (ee 0) (ee 1) (ee 2) (ee 3) k3 := List.mem_cons_self ..
  generalize startLed l3 (dd 0) (dd 1) (dd 2) (dd 3) (ee 0) (ee 1) (ee 2) (ee 3) k3 = sl at hst hl3 hlt3 N3
  refine listT (nn := 0) (vs := [.ref (dd 0), .ref (dd 1), .ref (dd 2), .ref (dd 3)]) (news := (ZZ, W.listOf #[] 0) :: (LL + 1 + 1, oo) :: (LL + 1, on) :: (l, W.listOf vs.toArray nn) :: (sl ++ news)) (JL (l3, W.listOf #[.ref (dd 0), .ref (dd 1), .ref (dd 2), .ref (dd 3)] 0) l ZZ (LL + 1) (LL + 1 + 1) vs nn ys dd ee kk uu news) rfl ?hl (fr_name (x := Str.ofString "taken") (fr_name (x := Str.ofString "rows") F3 rfl) rfl) (news_sub N3 ?hn) ?hj ?hJl ?turn ?done
  (case hl => exact List.mem_cons_of_mem _ (List.mem_cons_of_mem _ (List.mem_cons_of_mem _ (List.mem_cons_of_mem _ (List.mem_append_left news hl3)))))
  (case hn =>
    intro p hp
    simp only [List.mem_cons, List.mem_append] at hp ⊢
    rcases hp with h | h | h | h | h | h <;> simp only [h, true_or, or_true])
  (case hj =>
    refine ⟨on, oo, 0, sl ++ news, (fun _ => 0), (fun _ => 0), (fun _ => 0), (fun _ => (0, 0, 0)), _, rfl, rfl, ⟨_, do1⟩, ⟨_, dn1⟩, (fun j hj => ⟨List.mem_append_left _ (hst j hj).1, List.mem_append_left _ (hst j hj).2⟩), (fun p hp => List.mem_append_right _ hp), List.mem_append_left _ hl3, (fun j hj => absurd hj (Nat.not_lt_zero _)), ?_, ?_, ?_⟩
    all_goals (intro p hp; rcases List.mem_append.mp hp with hp | hp)
    · exact Nat.ne_of_gt (hlt3 p hp (ZZ, _) (List.mem_cons_self ..))
    · exact Nat.ne_of_lt (kst_ltOf lz.2.2.2 p hp)
    · exact Nat.ne_of_gt (hlt3 p hp (LL + 1 + 1, oo) (by simp))
    · exact Nat.ne_of_lt (Nat.lt_succ_of_lt (Nat.lt_succ_of_lt (kst_ltOf lb.2 p hp)))
    · exact Nat.ne_of_gt (hlt3 p hp (LL + 1, on) (by simp))
    · exact Nat.ne_of_lt (Nat.lt_succ_of_lt (kst_ltOf lb.2 p hp)))
  (case hJl =>
    rintro i m₁ n₁ ⟨_, _, _, _, _, _, _, _, _, rfl, rfl, _, _, _, _, h, _⟩
    exact List.mem_cons_of_mem _ (List.mem_cons_of_mem _ (List.mem_cons_of_mem _ (List.mem_cons_of_mem _ h))))
  (case turn =>
    rintro i v m₁ n₁ h5 tk5 I5 oI5 hv ⟨on5, oo5, nz, rest, T, c, t, u, m₂, rfl, rfl, ⟨vo, hvo⟩, ⟨vn, hvn⟩, hs5, hnw, hq3, hrow, hrZ, hro, hrn⟩ F5 N5 hoff5
    obtain ⟨hi4, rfl⟩ := at4 hv
    obtain ⟨hsd, hse⟩ := hs5 i hi4
    have N6 : News gg LL h5 ((I5, oI5) :: (ZZ, W.listOf ((List.range i).map fun j => Value.ref (T j)).toArray nz) :: (LL + 1 + 1, oo5) :: (LL + 1, on5) :: (l, W.listOf vs.toArray nn) :: (dd i, tup2 (.int (i : Nat) (kk i)) (.ref (ee i))) :: (ee i, sumO (v0 i) (uu i)) :: rest) := by
      exact news_sub N5 (by walk_at "mine sub")
    have x1 : @Ne Nat (dd i) ZZ := hrZ _ hsd
    have x2 : @Ne Nat (dd i) (LL + 1 + 1) := hro _ hsd
    have x3 : @Ne Nat (dd i) (LL + 1) := hrn _ hsd
    have x4 : @Ne Nat (ee i) ZZ := hrZ _ hse
    have x5 : @Ne Nat (ee i) (LL + 1 + 1) := hro _ hse
    have x6 : @Ne Nat (ee i) (LL + 1) := hrn _ hse
    have x7 : @Ne Nat ZZ I5 := hoff5 (ZZ, _) (List.mem_cons_self ..)
    have x8 : @Ne Nat (LL + 1 + 1) I5 := hoff5 (LL + 1 + 1, oo5) (by simp)
    have x9 : @Ne Nat (LL + 1) I5 := hoff5 (LL + 1, on5) (by simp)
    have hoI : ∀ p ∈ rest, p.1 ≠ I5 := fun p hp => hoff5 p (List.mem_cons_of_mem _ (List.mem_cons_of_mem _ (List.mem_cons_of_mem _ (List.mem_cons_of_mem _ hp))))
    change Fr gg LL h5 _ at F5
    clear N5 N3 F3 hlt3 hst hl3 N1
    show wpAny _ _ _ _ _ _
    k_fold
    (repeat' (first | (k_unfold; (try dsimp only)) | (walk1 <;> (try dsimp only)) | (dsimp only; walk1) | (leave1; try dsimp only)))
    unfold Stop
    rename_i hA hB on6 hon6 hC lS hD FO NO lO
    with_unfolding_all refine LCt.ListComp_T FO (by with_unfolding_all rfl) (by decide) (by rfl) (by decide) (by rfl) ?_ (by intro _; with_unfolding_all rfl)
    (repeat' (first | (k_unfold; (try dsimp only)) | (walk1 <;> (try dsimp only)) | (dsimp only; walk1) | (leave1; try dsimp only)))
    unfold Stop
    have hvl : vs.length = ys.length := hi.length
    refine LCt.CompSrcT.ledger (its := vs.toArray) rfl FO NO (List.mem_cons_of_mem _ (List.mem_cons_of_mem _ (List.mem_cons_of_mem _ (List.mem_cons_of_mem _ (List.mem_cons_of_mem _ (List.mem_cons_self ..)))))) (by rw [List.size_toArray, sizeLine_eq]; omega) fun gc => ?_
    refine restT vs.toArray.size (JS (fun R => (lS, W.listOf #[Value.ref (ee i)] 0) :: (I5, oI5) :: (ZZ, W.listOf ((List.range i).map fun j => Value.ref (T j)).toArray nz) :: (LL + 1 + 1, oo5) :: (LL + 1, on6) :: (l, W.listOf vs.toArray nn) :: (dd i, tup2 (.int (i : Nat) (kk i)) (.ref (ee i))) :: (ee i, sumO (v0 i) (uu i)) :: R) rest ys i) ?turn2 ?fin2 _ 0 [] _ (by simp) ⟨rest, rfl, fun _ h => h, fun _ h => .inl h, .nil⟩
    (case turn2 =>
      clear NO FO
      rintro i' vals ns v I7 oI7 C7 oC7 D7 m7 h7 tk7 E7 hi' ⟨R, rfl, hR1, hR2, hP⟩ hv7 hoC7 hx7 F7 N7 off7 ne7
      obtain ⟨y, ty, rfl, hy⟩ := hi.at i' v (by simpa using hv7)
      dsimp only [LCg.Off3] at off7
      clear hv7
      dsimp only at N7
      show wpAny _ _ _ _ _ _
      k_fold
      (repeat' (first | (k_unfold; (try dsimp only)) | (walk1 <;> (try dsimp only)) | (dsimp only; walk1) | (leave1; try dsimp only)))
      · unfold Stop
        (rename Fr _ _ _ _ => F9)
        (rename News _ _ _ _ => N9)
        rename (Int.fmod y 4 = (i : Int)) => hyi
        refine' SpecO.use (share_spec w mg mb y ty) ?B F9 ?X N9 ?T ?hk True.intro ?hd ?hu ?_
        (case B => k_asm)
        (case X => k_asm)
        (case T => k_asm)
        (case hk => rfl)
        (case hd => ktr_room)
        (case hu => ktr_units)
        clear F9 N9
        intro r6 tl6 h6 tk6 F6 N6 hlt6 hout6
        obtain ⟨S6, s1, s2, s3, rfl, rfl⟩ := hout6
        replace hlt6 := hlt6 _ (List.mem_singleton.mpr rfl)
        dsimp only at hlt6
        refine' LCg.CompEnd.intro F6 N6 ((lS, W.listOf #[Value.ref (ee i)] 0) :: (I5, oI5) :: (ZZ, W.listOf ((List.range i).map fun j => Value.ref (T j)).toArray nz) :: (LL + 1 + 1, oo5) :: (LL + 1, on6) :: (l, W.listOf vs.toArray nn) :: (dd i, tup2 (.int (i : Nat) (kk i)) (.ref (ee i))) :: (ee i, sumO (v0 i) (uu i)) :: (S6, tup3 (.int ((y.fdiv 4).fmod 6) s1) (.int ((y.fdiv 24).fmod 6) s2) (.int ((y.fdiv 144).fmod 2) s3)) :: R) ?es ?eo ?eS ?_
        (case es => walk_at "mine sub")
        (case eo =>
          exact ⟨off7.1, off7.2.1, off7.2.2.1, off7.2.2.2.1, off7.2.2.2.2.1, off7.2.2.2.2.2.1, off7.2.2.2.2.2.2.1, off7.2.2.2.2.2.2.2.1, ⟨Nat.ne_of_gt (hlt6 (I7, oI7) (by simp)), Nat.ne_of_gt (hlt6 (C7, oC7) (by simp)), Nat.ne_of_gt (hlt6 (D7, LCg.lst vals) (by simp))⟩, off7.2.2.2.2.2.2.2.2⟩)
        (case eS => exact .inr ⟨_, List.mem_cons_of_mem _ (List.mem_cons_of_mem _ (List.mem_cons_of_mem _ (List.mem_cons_of_mem _ (List.mem_cons_of_mem _ (List.mem_cons_self ..))))), rfl, _, rfl⟩)
        refine ⟨_, rfl, (fun p hp => List.mem_cons_of_mem _ (hR1 p hp)), ?_, ?_⟩
        · intro p hp
          rcases List.mem_cons.mp hp with rfl | hp
          · refine .inr fun q hq => hlt6 q ?_
            revert q
            iterate 8 (refine sub_cons (by k_mem) ?_)
            exact fun p hp => List.mem_cons_of_mem _ (List.mem_cons_of_mem _ (List.mem_cons_of_mem _ (List.mem_cons_of_mem _ (List.mem_cons_of_mem _ (List.mem_cons_of_mem _ (List.mem_cons_of_mem _ (List.mem_cons_of_mem _ (List.mem_cons_of_mem _ (List.mem_cons_of_mem _ (List.mem_cons_of_mem _ (hR1 p hp)))))))))))
          · exact hR2 p hp
        · rw [List.take_add_one, hy, List.filter_append, List.map_append]
          simp only [Option.toList_some, List.filter_cons, hyi, beq_self_eq_true, if_true, List.filter_nil, List.map_cons, List.map_nil]
          exact Paired.snoc (ShR.mono (fun p hp => List.mem_cons_of_mem _ hp) hP) ⟨S6, (s1, s2, s3), rfl, List.mem_cons_self ..⟩
      · rename (Int.fmod y 4 ≠ (i : Int)) => hyi
        (rename News _ _ _ _ => N9)
        refine' LCg.CompEnd.intro ?eF N9 ((lS, W.listOf #[Value.ref (ee i)] 0) :: (I5, oI5) :: (ZZ, W.listOf ((List.range i).map fun j => Value.ref (T j)).toArray nz) :: (LL + 1 + 1, oo5) :: (LL + 1, on6) :: (l, W.listOf vs.toArray nn) :: (dd i, tup2 (.int (i : Nat) (kk i)) (.ref (ee i))) :: (ee i, sumO (v0 i) (uu i)) :: R) (fun p hp => hp) ?eo ?eS ?_
        (case eF => assumption)
        (case eo => exact off7)
        (case eS => exact .inr ⟨_, List.mem_cons_of_mem _ (List.mem_cons_of_mem _ (List.mem_cons_of_mem _ (List.mem_cons_of_mem _ (List.mem_cons_of_mem _ (List.mem_cons_self ..))))), rfl, _, rfl⟩)
        refine ⟨_, rfl, hR1, hR2, ?_⟩
        rw [List.take_add_one, hy, List.filter_append, List.map_append]
        have : (y.fmod 4 == (i : Int)) = false := by simpa using hyi
        simp only [Option.toList_some, List.filter_cons, this, Bool.false_eq_true, if_false, List.filter_nil, List.map_nil, List.append_nil]
        exact hP)
    (case fin2 =>
      rintro vals ns ⟨R, rfl, hR1, hR2, hP⟩
      unfold LCg.FinE
      intro D8 h8 tk8 F8 N8 o8
      dsimp only [LCg.Off1] at o8
      have htk : ys.take vs.toArray.size = ys := by rw [List.size_toArray, hvl]; simp
      rw [htk] at hP
      dsimp only at N8
      clear NO FO
      have hvlen : vals.length ≤ 64 := by
        have e1 := hP.length
        have e2 : (ys.filter (fun y => y.fmod 4 == (i : Int))).length ≤ ys.length := List.length_filter_le _ _
        rw [e1, List.length_map]
        omega
      have q1 : @Ne Nat I5 (LL + 1 + 1) := Ne.symm (by assumption)
      have q2 : @Ne Nat I5 (LL + 1) := Ne.symm (by assumption)
      have q3 : @Ne Nat I5 ZZ := Ne.symm (by assumption)
      (repeat' (first | (k_unfold; (try dsimp only)) | (walk1 <;> (try dsimp only)) | (dsimp only; walk1) | (leave1; try dsimp only)))
      unfold Stop
      refine' addL (vs := [Value.ref (ee i)]) (ws := vals) (zs := Value.ref (ee i) :: vals) (n := 0) (n2 := vals.length) ?F ?N ?hl8 ?hb8 rfl (by rw [sizeLine_eq, List.length_cons]; omega) ?_
      (case F => exact F8)
      (case N => exact N8)
      (case hl8 => exact List.mem_cons_of_mem _ (List.mem_cons_self ..))
      (case hb8 => exact List.mem_cons_self ..)
      intro O9 h9 F9 N9 l9
      have N10 : News gg LL h9 ((O9, W.listOf (Value.ref (ee i) :: vals).toArray 0) :: (I5, oI5) :: (ZZ, W.listOf ((List.range i).map fun j => Value.ref (T j)).toArray nz) :: (LL + 1 + 1, oo5) :: (LL + 1, on6) :: (l, W.listOf vs.toArray nn) :: (dd i, tup2 (.int (i : Nat) (kk i)) (.ref (ee i))) :: (ee i, sumO (v0 i) (uu i)) :: R) := news_sub N9 (by walk_at "mine sub")
      k_lt l9
      have hRZ : ∀ p ∈ R, p.1 ≠ ZZ := fun p hp => (hR2 p hp).elim (hrZ p) fun h => Nat.ne_of_gt (h (ZZ, W.listOf ((List.range i).map fun j => Value.ref (T j)).toArray nz) (by k_mem))
      have hRo : ∀ p ∈ R, p.1 ≠ LL + 1 + 1 := fun p hp => (hR2 p hp).elim (hro p) fun h => Nat.ne_of_gt (h (LL + 1 + 1, oo5) (by k_mem))
      have hRn : ∀ p ∈ R, p.1 ≠ LL + 1 := fun p hp => (hR2 p hp).elim (hrn p) fun h => Nat.ne_of_gt (h (LL + 1, on6) (by k_mem))
      have hRI : ∀ p ∈ R, p.1 ≠ I5 := fun p hp => (hR2 p hp).elim (hoI p) fun h => Nat.ne_of_gt (h (I5, oI5) (by k_mem))
      clear N8 F8 N9
      have hfull : Paired (ShR ((ee i, sumO (v0 i) (uu i)) :: R)) (Value.ref (ee i) :: vals) (ldgL ys i) := .cons ⟨ee i, uu i, rfl, List.mem_cons_self ..⟩ (ShR.mono (fun p hp => List.mem_cons_of_mem _ hp) hP)
      (repeat' (first | (k_unfold; (try dsimp only)) | (walk1 <;> (try dsimp only)) | (dsimp only; walk1) | (leave1; try dsimp only)))
      unfold Stop
      rename_i hE oo6 FE NE hoo6
      with_unfolding_all refine ListComp_K FE (by with_unfolding_all rfl) (by intro n acc; rfl) (by intro h; rfl) (by rfl) (by decide) (by rfl) ?_ (by intro _; with_unfolding_all rfl)
      (repeat' (first | (k_unfold; (try dsimp only)) | (walk1 <;> (try dsimp only)) | (dsimp only; walk1) | (leave1; try dsimp only)))
      unfold Stop
      (rename IsRange _ _ _ _ _ _ _ _ => R10)
      (rename Fr _ _ _ _ => F9)
      (rename News _ _ _ _ => N9)
      refine ⟨_, _, _, _, _, 3, _, (fun j ws ns => ns = (O9, W.listOf (Value.ref (ee i) :: vals).toArray 0) :: (I5, oI5) :: (ZZ, W.listOf ((List.range i).map fun j => Value.ref (T j)).toArray nz) :: (LL + 1 + 1, oo6) :: (LL + 1, on6) :: (l, W.listOf vs.toArray nn) :: (dd i, tup2 (.int (i : Nat) (kk i)) (.ref (ee i))) :: (ee i, sumO (v0 i) (uu i)) :: R ∧ IntsAre ws ((List.range j).map fun k => ((ldgL ys i).map (cmp3 k)).sum)), rfl, rfl, F9, N9, R10, rfl, by decide, by rw [sizeLine_eq]; omega, ⟨rfl, .nil⟩, ?turn3, ?fin3⟩
      (case turn3 =>
        clear F9 N9
        rintro gK j ws ns v I7 oI7 C7 oC7 D7 c7 oc7 h7 tk7 E7 hj ⟨rfl, hI7⟩ ⟨tj, rfl⟩ hoc7 F7 N7 off7 ne7
        simp only [Off4, List.forall_mem_cons] at off7
        obtain ⟨off7, off7R⟩ : _ ∧ (∀ p ∈ R, p.1 ≠ I7 ∧ p.1 ≠ C7 ∧ p.1 ≠ D7 ∧ p.1 ≠ c7) := ⟨off7, fun p hp => off7.2.2.2.2.2.2.2.2 p hp⟩
        (repeat' (first | (k_unfold; (try dsimp only)) | (walk1 <;> (try dsimp only)) | (dsimp only; walk1) | (leave1; try dsimp only)))
        unfold Stop
        with_unfolding_all refine LCg.ListComp_U F7 (by with_unfolding_all rfl) (by decide) (by rfl) (by decide) (by rfl) ?_ (by intro _; with_unfolding_all rfl)
        (repeat' (first | (k_unfold; (try dsimp only)) | (walk1 <;> (try dsimp only)) | (dsimp only; walk1) | (leave1; try dsimp only)))
        unfold Stop
        refine LCg.CompSrc.ledger (its := (Value.ref (ee i) :: vals).toArray) rfl F7 N7 (List.mem_cons_of_mem _ (List.mem_cons_of_mem _ (List.mem_cons_of_mem _ (List.mem_cons_of_mem _ (List.mem_cons_self ..))))) (by rw [List.size_toArray, List.length_cons, sizeLine_eq]; omega) fun gD => ?_
        refine restU (Value.ref (ee i) :: vals).toArray.size (fun i' zs ns => ns = (I7, oI7) :: (C7, oC7) :: (D7, LCg.lst ws) :: (c7, oc7) :: (O9, W.listOf (Value.ref (ee i) :: vals).toArray 0) :: (I5, oI5) :: (ZZ, W.listOf ((List.range i).map fun j => Value.ref (T j)).toArray nz) :: (LL + 1 + 1, oo6) :: (LL + 1, on6) :: (l, W.listOf vs.toArray nn) :: (dd i, tup2 (.int (i : Nat) (kk i)) (.ref (ee i))) :: (ee i, sumO (v0 i) (uu i)) :: R ∧ IntsAre zs (((ldgL ys i).take i').map (cmp3 j))) ?turn4 ?fin4 _ 0 [] _ (by simp) ⟨rfl, .nil⟩
        (case turn4 =>
          rintro i' zs ns v I8 oI8 C8 oC8 D8 m8 h8 tk8 E8 hi' ⟨rfl, hI8⟩ hv8 hoC8 hx8 F8 N8 off8 ne8
          dsimp only [LCg.Off3] at off8
          obtain ⟨t8, ht8, a8, u8, rfl, hm8⟩ : ∃ t8, (ldgL ys i)[i']? = some t8 ∧ ShR ((ee i, sumO (v0 i) (uu i)) :: R) v t8 := pairedAt hfull (by simpa using hv8)
          (repeat' (first | (k_unfold; (try dsimp only)) | (walk1 <;> (try dsimp only)) | (dsimp only; walk1) | (leave1; try dsimp only)))
          unfold Stop
          (rename Fr _ _ _ _ => F9)
          (rename News _ _ _ _ => N9)
          have hm9 : (a8, sumO t8 u8) ∈ (I8, oI8) :: (C8, oC8) :: (D8, LCg.lst zs) :: (I7, oI7) :: (C7, oC7) :: (D7, LCg.lst ws) :: (c7, oc7) :: (O9, W.listOf (Value.ref (ee i) :: vals).toArray 0) :: (I5, oI5) :: (ZZ, W.listOf ((List.range i).map fun j => Value.ref (T j)).toArray nz) :: (LL + 1 + 1, oo6) :: (LL + 1, on6) :: (l, W.listOf vs.toArray nn) :: (dd i, tup2 (.int (i : Nat) (kk i)) (.ref (ee i))) :: (ee i, sumO (v0 i) (uu i)) :: R := by
            iterate 14 (refine List.mem_cons_of_mem _ ?_)
            exact hm8
          refine' item_tupleT (l := [.int t8.1 u8.1, .int t8.2.1 u8.2.1, .int t8.2.2 u8.2.2]) (j := j) (x := .int (cmp3 j t8) (tok3 j u8)) ?t (by omega) (by omega) ?j ?x ?_ ?s
          (case t => exact ⟨_, (N9 _ hm9).1, rfl, 0, rfl⟩)
          (case j => match j, hj with | 0, _ => rfl | 1, _ => rfl | 2, _ => rfl)
          (case x => match j, hj with | 0, _ => rfl | 1, _ => rfl | 2, _ => rfl)
          (case s => with_unfolding_all rfl)
          refine' LCg.CompEnd.intro F9 N9 ((I7, oI7) :: (C7, oC7) :: (D7, LCg.lst ws) :: (c7, oc7) :: (O9, W.listOf (Value.ref (ee i) :: vals).toArray 0) :: (I5, oI5) :: (ZZ, W.listOf ((List.range i).map fun j => Value.ref (T j)).toArray nz) :: (LL + 1 + 1, oo6) :: (LL + 1, on6) :: (l, W.listOf vs.toArray nn) :: (dd i, tup2 (.int (i : Nat) (kk i)) (.ref (ee i))) :: (ee i, sumO (v0 i) (uu i)) :: R) (fun p hp => hp) off8 ?eS ⟨rfl, ?_⟩
          (case eS => exact .inr ⟨_, List.mem_cons_of_mem _ (List.mem_cons_of_mem _ (List.mem_cons_of_mem _ (List.mem_cons_of_mem _ (List.mem_cons_self ..)))), rfl, _, rfl⟩)
          rw [List.take_add_one, ht8, List.map_append]
          exact hI8.append (.cons _ _ .nil))
        (case fin4 =>
          rintro zs ns ⟨rfl, hI8⟩
          have hall : (ldgL ys i).take (Value.ref (ee i) :: vals).toArray.size = ldgL ys i := by
            rw [List.size_toArray, hfull.length]; exact List.take_length
          rw [hall] at hI8
          unfold LCg.FinE
          intro D9 h9 tk9 F9 N9 o9
          (repeat' (first | (k_unfold; (try dsimp only)) | (walk1 <;> (try dsimp only)) | (dsimp only; walk1) | (leave1; try dsimp only)))
          unfold Stop
          refine LSm.sum_ints F9 N9 rfl ⟨_, (N9 _ (List.mem_cons_self ..)).1, rfl, _, rfl⟩ hI8 fun h10 tk10 t10 F10 N10 => ?_
          refine EndK.intro F10 N10 ((O9, W.listOf (Value.ref (ee i) :: vals).toArray 0) :: (I5, oI5) :: (ZZ, W.listOf ((List.range i).map fun j => Value.ref (T j)).toArray nz) :: (LL + 1 + 1, oo6) :: (LL + 1, on6) :: (l, W.listOf vs.toArray nn) :: (dd i, tup2 (.int (i : Nat) (kk i)) (.ref (ee i))) :: (ee i, sumO (v0 i) (uu i)) :: R) (fun p hp => List.mem_cons_of_mem _ hp) ?_ ⟨rfl, ?_⟩
          · simp only [Off4, List.forall_mem_cons]
            exact off7
          · rw [List.range_succ, List.map_append]
            exact hI7.append (.cons _ _ .nil)))
      (case fin3 =>
        clear F9 N9
        rintro D9 h9 tk9 ws ns ⟨rfl, hI9⟩ F9 N9 off9
        obtain ⟨z0, z1, z2, rfl⟩ := ints3 hI9
        simp only [List.forall_mem_cons] at off9
        obtain ⟨off9, off9R⟩ : _ ∧ (∀ p ∈ R, p.1 ≠ D9) := ⟨off9, off9.2.2.2.2.2.2.2.2⟩
        (repeat' (first | (k_unfold; (try dsimp only)) | (walk1 <;> (try dsimp only)) | (dsimp only; walk1) | (leave1; try dsimp only)))
        unfold Stop
        refine kde_tupleOf (zs := [.int (ldg ys i).1 z0, .int (ldg ys i).2.1 z1, .int (ldg ys i).2.2 z2]) F9 N9 ⟨_, (N9 _ (List.mem_cons_self ..)).1, rfl, _, rfl⟩ (Nat.le_of_ble_eq_true rfl) (by rfl) ?_
        intro C9 h10 F10 N10 l10
        k_lt l10
        clear F9 N9
        (repeat' (first | (k_unfold; (try dsimp only)) | (walk1 <;> (try dsimp only)) | (dsimp only; walk1) | (leave1; try dsimp only)))
        rename_i DD hF FF NF lF
        have zF := NF (ZZ, W.listOf ((List.range i).map fun j => Value.ref (T j)).toArray nz) (by k_mem)
        refine append_at (hsz := by rw [List.size_toArray, List.length_map, List.length_range, sizeLine_eq]; omega) zF.1 fun h11 hs11 hZ11 => ?_
        (repeat' (first | (k_unfold; (try dsimp only)) | (walk1 <;> (try dsimp only)) | (dsimp only; walk1) | (leave1; try dsimp only)))
        unfold Stop
        have hTn : ∀ j, j < i → (fun j => if j = i then DD else T j) j = T j := fun j hj => if_neg (Nat.ne_of_lt hj)
        have hlist : (((List.range i).map fun j => Value.ref (T j)).toArray.push (Value.ref DD)) = ((List.range (i + 1)).map fun j => Value.ref ((fun j => if j = i then DD else T j) j)).toArray := by
          rw [List.range_succ, List.map_append, List.push_toArray]
          congr 2
          · exact List.map_congr_left fun j hj => by rw [hTn j (List.mem_range.mp hj)]
          · simp
        have FG : Fr gg LL h11 _ := FF.change hs11 zF.2.1 zF.2.2
        have keep : ∀ p, p ∈ (DD, tup2 (.int (i : Nat) (kk i)) (.ref C9)) :: (C9, sumO (ldg ys i) (z0, z1, z2)) :: (I5, oI5) :: (LL + 1 + 1, oo6) :: (LL + 1, on6) :: (l, W.listOf vs.toArray nn) :: R → p.1 ≠ ZZ → h11.get? p.1 = some p.2 ∧ p.1 ≠ LL ∧ gg.get? p.1 = none := by
          intro p hp hne
          have z := NF p (by
            simp only [List.mem_cons] at hp ⊢
            rcases hp with h | h | h | h | h | h | h
            · exact .inl h
            · exact .inr (.inl h)
            · simp only [h, true_or, or_true]
            · simp only [h, true_or, or_true]
            · simp only [h, true_or, or_true]
            · simp only [h, true_or, or_true]
            · simp only [h, or_true])
          exact ⟨hs11.extBut _ _ hne z.1, z.2⟩
        have yZ : @Ne Nat DD ZZ ∧ @Ne Nat C9 ZZ ∧ @Ne Nat I5 ZZ ∧ @Ne Nat (LL + 1 + 1) ZZ ∧ @Ne Nat (LL + 1) ZZ ∧ @Ne Nat l ZZ := ⟨by first | assumption | exact Ne.symm (by assumption) | omega, by first | assumption | exact Ne.symm (by assumption) | omega, by first | assumption | exact Ne.symm (by assumption) | omega, by first | assumption | exact Ne.symm (by assumption) | omega, by first | assumption | exact Ne.symm (by assumption) | omega, by first | assumption | exact Ne.symm (by assumption) | omega⟩
        have yo : @Ne Nat DD (LL + 1 + 1) ∧ @Ne Nat C9 (LL + 1 + 1) ∧ @Ne Nat DD (LL + 1) ∧ @Ne Nat C9 (LL + 1) ∧ @Ne Nat DD I5 ∧ @Ne Nat C9 I5 := ⟨by first | assumption | exact Ne.symm (by assumption) | omega, by first | assumption | exact Ne.symm (by assumption) | omega, by first | assumption | exact Ne.symm (by assumption) | omega, by first | assumption | exact Ne.symm (by assumption) | omega, by first | assumption | exact Ne.symm (by assumption) | omega, by first | assumption | exact Ne.symm (by assumption) | omega⟩
        refine LTurn.intro (news' := (ZZ, W.listOf ((List.range (i + 1)).map fun j => Value.ref ((fun j => if j = i then DD else T j) j)).toArray (nz + 1)) :: (LL + 1 + 1, oo6) :: (LL + 1, on6) :: (l, W.listOf vs.toArray nn) :: (DD, tup2 (.int (i : Nat) (kk i)) (.ref C9)) :: (C9, sumO (ldg ys i) (z0, z1, z2)) :: R) (fr_name (x := Str.ofString "taken") (fr_name (x := Str.ofString "rows") FG rfl) rfl) ?_ ?_ ⟨on6, oo6, nz + 1, (DD, tup2 (.int (i : Nat) (kk i)) (.ref C9)) :: (C9, sumO (ldg ys i) (z0, z1, z2)) :: R, (fun j => if j = i then DD else T j), (fun j => if j = i then C9 else c j), (fun j => if j = i then kk i else t j), (fun j => if j = i then (z0, z1, z2) else u j), _, rfl, rfl, ⟨_, hoo6⟩, ⟨_, hon6⟩, ?_, ?_, ?_, ?_, ?_, ?_, ?_⟩
        · intro p hp
          simp only [List.mem_cons] at hp
          rcases hp with rfl | rfl | rfl | rfl | rfl | rfl | rfl | hp
          · exact keep _ (by k_mem) yZ.2.2.1
          · exact ⟨by rw [← hlist]; exact hZ11, zF.2⟩
          · exact keep _ (by k_mem) yZ.2.2.2.1
          · exact keep _ (by k_mem) yZ.2.2.2.2.1
          · exact keep _ (by k_mem) yZ.2.2.2.2.2
          · exact keep _ (by k_mem) yZ.1
          · exact keep _ (by k_mem) yZ.2.1
          · exact keep _ (by simp only [List.mem_cons, hp, or_true]) (hRZ p hp)
        · intro p hp
          simp only [List.mem_cons] at hp
          rcases hp with rfl | rfl | rfl | rfl | rfl | rfl | hp
          · exact x7
          · exact x8
          · exact x9
          · exact hoff5 (l, W.listOf vs.toArray nn) (by k_mem)
          · exact yo.2.2.2.2.1
          · exact yo.2.2.2.2.2
          · exact hRI p hp
        · exact fun j hj => ⟨List.mem_cons_of_mem _ (List.mem_cons_of_mem _ (hR1 _ (hs5 j hj).1)), List.mem_cons_of_mem _ (List.mem_cons_of_mem _ (hR1 _ (hs5 j hj).2))⟩
        · exact fun p hp => List.mem_cons_of_mem _ (List.mem_cons_of_mem _ (hR1 _ (hnw p hp)))
        · exact List.mem_cons_of_mem _ (List.mem_cons_of_mem _ (hR1 _ hq3))
        · intro j hj
          by_cases hji : j = i
          · subst hji
            simp only [if_true]
            refine ⟨List.mem_cons_self .., List.mem_cons_of_mem _ (List.mem_cons_self ..), fun p hp => ⟨?_, ?_⟩⟩
            · exact kst_ltOf lF.2.2.2.2.2.2.2.2.2.2 p (hR1 _ (hnw p hp))
            · exact kst_ltOf l10.2.2.2.2.2.2.2.2.2 p (hR1 _ (hnw p hp))
          · simp only [hji, if_false]
            have hji' : j < i := by omega
            exact ⟨List.mem_cons_of_mem _ (List.mem_cons_of_mem _ (hR1 _ (hrow j hji').1)), List.mem_cons_of_mem _ (List.mem_cons_of_mem _ (hR1 _ (hrow j hji').2.1)), (hrow j hji').2.2⟩
        · intro p hp
          simp only [List.mem_cons] at hp
          rcases hp with rfl | rfl | hp
          · exact yZ.1
          · exact yZ.2.1
          · exact hRZ p hp
        · intro p hp
          simp only [List.mem_cons] at hp
          rcases hp with rfl | rfl | hp
          · exact yo.1
          · exact yo.2.1
          · exact hRo p hp
        · intro p hp
          simp only [List.mem_cons] at hp
          rcases hp with rfl | rfl | hp
          · exact yo.2.2.1
          · exact yo.2.2.2.1
          · exact hRn p hp)))
  (case done =>
    rintro m₁ n₁ h5 tk5 ⟨on5, oo5, nz, rest, T, c, t, u, m₂, rfl, rfl, _, _, hs5, hnw, hq3, hrow, hrZ, hro, hrn⟩ F5 N5
    change Fr gg LL h5 _ at F5
    clear N3 F3 hlt3 hst hl3 N1
    (repeat' (first | (k_unfold; (try dsimp only)) | (walk1 <;> (try dsimp only)) | (dsimp only; walk1) | (leave1; try dsimp only)))
    (rename Fr h₀ L _ _ => F9)
    (rename News h₀ L _ _ => N9)
    obtain ⟨r0, r1, r2⟩ := hrow 0 (Nat.le_of_ble_eq_true rfl)
    obtain ⟨r3, r4, r5⟩ := hrow 1 (Nat.le_of_ble_eq_true rfl)
    obtain ⟨r6, r7, r8⟩ := hrow 2 (Nat.le_of_ble_eq_true rfl)
    obtain ⟨r9, r10, r11⟩ := hrow 3 (Nat.le_of_ble_eq_true rfl)
    refine hret _ (ldgLed ZZ nz T c t u ys) _ _ F9 (news_sub N9 ?_) ?_ ⟨ZZ, nz, T, c, t, u, rfl, rfl⟩
    · intro p hp
      simp only [ldgLed, List.cons_append, List.nil_append, List.mem_cons] at hp ⊢
      rcases hp with rfl | rfl | rfl | rfl | rfl | rfl | rfl | rfl | rfl | hp
      · exact .inl rfl
      · exact .inr (.inr (.inr (.inr r0)))
      · exact .inr (.inr (.inr (.inr r3)))
      · exact .inr (.inr (.inr (.inr r6)))
      · exact .inr (.inr (.inr (.inr r9)))
      · exact .inr (.inr (.inr (.inr r1)))
      · exact .inr (.inr (.inr (.inr r4)))
      · exact .inr (.inr (.inr (.inr r7)))
      · exact .inr (.inr (.inr (.inr r10)))
      · exact .inr (.inr (.inr (.inr (hnw p hp))))
    · intro q hq p hp
      simp only [ldgLed, List.mem_cons, List.not_mem_nil, or_false] at hq
      rcases hq with rfl | rfl | rfl | rfl | rfl | rfl | rfl | rfl | rfl
      · exact kst_ltOf lz.2.2.2 p hp
      · exact (r2 p hp).1
      · exact (r5 p hp).1
      · exact (r8 p hp).1
      · exact (r11 p hp).1
      · exact (r2 p hp).2
      · exact (r5 p hp).2
      · exact (r8 p hp).2
      · exact (r11 p hp).2)
end Mine
end
section
open PySem PySem.W PyProof.Rows
set_option maxRecDepth 100000
namespace Mine
/-- what the profile has gathered is what the ledger sums, plain -/
theorem fold_four (ys : List Int) : ∀ b : Acc, (ys.foldl stepP b).n = b.n + ys.length ∧ (ys.foldl stepP b).s = b.s + ys.sum ∧ (ys.foldl stepP b).ms = b.ms - ys.sum ∧ (ys.foldl stepP b).q = b.q + 7 * ys.length := by
  induction ys with
  | nil => intro b; simp
  | cons y ys ih =>
    intro b
    obtain ⟨h1, h2, h3, h4⟩ := ih (stepP b y)
    have e1 : (stepP b y).n = 1 + b.n := rfl
    have e2 : (stepP b y).s = y + b.s := rfl
    have e3 : (stepP b y).ms = -y + b.ms := rfl
    have e4 : (stepP b y).q = 7 + b.q := rfl
    rw [List.foldl_cons, h1, h2, h3, h4, e1, e2, e3, e4, List.length_cons, List.sum_cons]
    refine ⟨?_, ?_, ?_, ?_⟩ <;> omega
theorem fold_v (k : Nat) (ys : List Int) : ∀ b : Acc, (ys.foldl stepP b).v k = ((b.v k).1 + (((ys.filter (fun y => y.fmod 4 == (k : Int))).map shr).map (·.1)).sum, (b.v k).2.1 + (((ys.filter (fun y => y.fmod 4 == (k : Int))).map shr).map (·.2.1)).sum, (b.v k).2.2 + (((ys.filter (fun y => y.fmod 4 == (k : Int))).map shr).map (·.2.2)).sum) := by
  induction ys with
  | nil => intro b; simp
  | cons y ys ih =>
    intro b
    rw [List.foldl_cons, ih (stepP b y)]
    have h0 : 0 ≤ y.fmod 4 := Int.fmod_nonneg_of_pos y (by decide)
    by_cases h : y.fmod 4 = (k : Int)
    · have hk : k = (y.fmod 4).toNat := by omega
      have hb : (y.fmod 4 == (k : Int)) = true := by simpa using h
      have hv : (stepP b y).v k = ((shr y).1 + (b.v k).1, (shr y).2.1 + (b.v k).2.1, (shr y).2.2 + (b.v k).2.2) := by
        show (if k = (y.fmod 4).toNat then _ else _) = _
        rw [if_pos hk]
      rw [hv, List.filter_cons, if_pos hb]
      simp only [List.map_cons, List.sum_cons]
      refine Prod.ext ?_ (Prod.ext ?_ ?_) <;> simp only <;> omega
    · have hk : ¬ k = (y.fmod 4).toNat := by omega
      have hb : ¬ (y.fmod 4 == (k : Int)) = true := by simpa using h
      have hv : (stepP b y).v k = b.v k := by
        show (if k = (y.fmod 4).toNat then _ else _) = _
        rw [if_neg hk]
      rw [hv, List.filter_cons, if_neg hb]
theorem prof_ldg (ys : List Int) (k : Nat) : (ys.foldl stepP acc0).v k = ldg ys k := by
  rw [fold_v]
  unfold ldg ldgL
  simp only [List.map_cons, List.sum_cons]
  rfl
theorem prof_four (ys : List Int) : (ys.foldl stepP acc0).n = ys.length ∧ (ys.foldl stepP acc0).s = ys.sum ∧ (ys.foldl stepP acc0).ms = -ys.sum ∧ (ys.foldl stepP acc0).q = 7 * ys.length := by
  obtain ⟨h1, h2, h3, h4⟩ := fold_four ys acc0
  rw [h1, h2, h3, h4]
  simp only [acc0]
  refine ⟨?_, ?_, ?_, ?_⟩ <;> omega
theorem sum_bnd (ys : List Int) (h : ∀ y ∈ ys, 0 ≤ y ∧ y < 1000000) : 0 ≤ ys.sum ∧ ys.sum ≤ 1000000 * ys.length := by
  induction ys with
  | nil => simp
  | cons y ys ih =>
    have h1 := ih fun z hz => h z (List.mem_cons_of_mem _ hz)
    have h2 := h y (List.mem_cons_self ..)
    simp only [List.sum_cons, List.length_cons]
    omega
end Mine
end
section
open PySem PySem.W PyProof.Rows
set_option maxRecDepth 100000
namespace Mine
/-- a caller's text, as func_std_string gives it and as the law writes it -/
noncomputable def txt1 (p q n : Nat) : Str := Txt.mul (Str.ofString "a") (p : Nat) ++ Str.ofString ":" ++ Str.ofString (toString ((n : Nat) : Int)) ++ Str.ofString "(" ++ Txt.mul (Str.ofString "b") (q : Nat) ++ Str.ofString ")"
noncomputable def txt2 (p q n : Nat) : Str := Txt.mul (Str.ofString "a") (p : Nat) ++ Str.ofString ":" ++ (if n = 7 then Str.ofString "7" else Str.ofString "8") ++ Str.ofString "(" ++ Txt.mul (Str.ofString "b") (q : Nat) ++ Str.ofString ")"
noncomputable def chkW (p q n : Nat) : Bool := PyData.strOk (txt1 p q n) && PyData.strOk (Txt.mul (Str.ofString "a") (p : Nat)) && (txt2 p q n == txt1 p q n) && Nat.ble (Txt.mul (Str.ofString "a") (p : Nat)).length 20 && Nat.ble (Txt.mul (Str.ofString "b") (q : Nat)).length 20
theorem chkW_7 : (all6 fun p => all6 fun q => chkW p q 7) = true := by decide +kernel
theorem chkW_8 : (all6 fun p => all6 fun q => chkW p q 8) = true := by decide +kernel
theorem txt_ok {p q n : Nat} (hp : p < 6) (hq : q < 6) (hn : n = 7 ∨ n = 8) : PyData.strOk (txt1 p q n) = true ∧ PyData.strOk (Txt.mul (Str.ofString "a") (p : Nat)) = true ∧ txt2 p q n = txt1 p q n ∧ (Txt.mul (Str.ofString "a") (p : Nat)).length ≤ 20 ∧ (Txt.mul (Str.ofString "b") (q : Nat)).length ≤ 20 := by
  have h : chkW p q n = true := by
    rcases hn with rfl | rfl
    · exact all6_at (all6_at chkW_7 hp) hq
    · exact all6_at (all6_at chkW_8 hp) hq
  simp only [chkW, Bool.and_eq_true, beq_iff_eq] at h
  exact ⟨h.1.1.1.1, h.1.1.1.2, h.1.1.2, Nat.le_of_ble_eq_true h.1.2, Nat.le_of_ble_eq_true h.2⟩
theorem carried_snoc {vs : List Value} {ds : List PyData} {v : Value} {d : PyData} (x : CarriedAll vs ds) (h : Carried v d) : CarriedAll (vs ++ [v]) (ds ++ [d]) := by
  induction x with
  | nil => exact .cons h .nil
  | cons h1 _ ih => exact .cons h1 ih
theorem shaped4 {a b c d : Str} (ha : PyData.strOk a = true) (hb : PyData.strOk b = true) (hc : PyData.strOk c = true) (hd : PyData.strOk d = true) : PySem.SeqAt.shaped (PyData.list [PyData.str a, PyData.str b, PyData.str c, PyData.str d]) = true := by
  simp [PySem.SeqAt.shaped, PyData.canLay0, PyData.canLayAll0, PyData.depth, PyData.depthAll, ha, hb, hc, hd]
theorem eqv4 (a b c d : Str) : (PyData.list [PyData.str a, PyData.str b, PyData.str c, PyData.str d]).eqv (PyData.list [PyData.str a, PyData.str b, PyData.str c, PyData.str d]) = true := by
  simp [PyData.eqv, PyData.eqvAll]
end Mine
end
section
open PySem PySem.W PyProof.Rows PySem.Spec PySem.Calls
set_option maxRecDepth 100000
namespace Mine
section
variable {prog : Program} {w : World} {A : Around} {E : Value → Shared → Prop} {s : Shared} {h₀ : Heap} {L : Addr} {m : Str → Option Value} {env : Env}
noncomputable def SrcV (prog : Program) (w : World) (A : Around) (h₀ : Heap) (L : Addr) (m : Str → Option Value) (env : Env) (elt : Expr) (x y : Str) (scope : Scope) (cl : List (Str × Addr)) (Q : Flow → Shared → Prop) (xv : Value) (s₁ : Shared) : Prop :=
  ∃ (vw d : Addr) (od : Obj) (kvs : List (Int × Value)) (its : Array Value) (news : List (Addr × Obj)), xv = .ref vw ∧ A.handled = none ∧ Fr h₀ L s₁.heap m ∧ News h₀ L s₁.heap news ∧ s₁.heap.IsValuesView vw d ∧
      (d, od) ∈ news ∧ od.IsDictOf (intKind prog w) kvs ∧ its = (kvs.map (·.2)).toArray ∧ its.size ≤ sizeLine ∧
      ∀ s₂ : Shared, (∃ h, s₂ = { s₁ with heap := h }) → LCg.CompRest prog w A h₀ L m env elt x scope cl s₂ (fun nw => (d, od) ∈ nw) (fun i v => its[i]? = some v) (LCg.FinA h₀ L m s₂ y Q) its.size 0 [] news
/-- x = [.. for y in d.values()], d a dict of the ledger with ints for its keys -/
theorem assignVals {elt iter : Expr} {x y : Str} {px py : Pos} {scope : Scope} {cl : List (Str × Addr)} {pos spos : Pos} {Q : Flow → Shared → Prop} (_F₀ : Fr h₀ L s.heap m) (hLe : env.locals = L)
    (hsw : swapsWith (.ListComp elt [⟨.Name x px, iter, [], 0⟩] scope pos) (some (.Name y py)) spos.line env = pure true)
    (hclos : closureFor scope env = pure cl) (hcell : ∀ z ∈ scope.names, z.2 ≠ .cell) (hkind : scope.kind = .function)
    (hnames : ∀ z ∈ scope.names, z.2 = .local → scope.names.lookup z.1 = some .local) (hx : scope.names.lookup x = some .local)
    (hy : env.kindOf y = some .local) (hp : (env.scope.kind == .class || (env.scope.kind == .module && env.locals != env.globals)) = false)
    (h : wpAny (model prog w) A (eval iter env) (SrcV prog w A h₀ L m env elt x y scope cl Q) E s)
    (hs : ∀ x, foldedSetIterable iter env x = pure x) :
    wpAny (model prog w) A (exec (.Assign [.Name y py] (.ListComp elt [⟨.Name x px, iter, [], 0⟩] scope pos) spos) env) Q E s := by
  subst hLe
  rw [exec_Assign_Name_used _ _ _ _ hsw]
  refine wpAny_bind (wpAny_standAt (wpAny_bind ?_))
  show wpAny _ A (do let _ ← comprehension (.ListComp elt [⟨.Name x px, iter, [], 0⟩] scope pos) scope env _ (newList []) false (eval iter env) (some (assign (.Name y py) env))) _ _ s
  refine wpAny_bind (wpAny_mono (wpAny_comprehension_free (use := some (assign (.Name y py) env)) (Q := fun _ s' => Q .next s') rfl hs hclos hkind hnames
    (wpAny_mono h (fun xv s₁ h₁ => ?_) fun _ _ e => e)) (fun _ s' hq => wpAny_pure (wpAny_pure hq)) fun _ _ e => e)
  obtain ⟨vw, d, od, kvs, its, news, rfl, hh, F, N, hv, hm, hd, rfl, hsz, R⟩ := h₁
  obtain ⟨ep, hat⟩ := (kda_dict N hm hd).dictAt
  have hlt : d < s₁.heap.objs.size := hat.lt_size
  have hne : d ≠ s₁.heap.objs.size := Nat.ne_of_lt hlt
  refine wpAny_pyIter_values hv hat ?_
  have up : ∀ b o, s₁.heap.get? b = some o → (s₁.heap.push { cls := .type "dict_valueiterator", data := .fields #[.ref d, .int 0 0, .int kvs.length 0, .int ep 0] }).get? b = some o := fun b o e => Heap.get?_push_of_some _ e
  have W0 := Walks.dictValues (prog := prog) (w := w) (knd := intKind prog w) hh s₁.heap.objs.size d hne kvs ep
  have hlen : (kvs.map (·.2)).toArray.size = kvs.length := by simp
  have W : Walks prog w A s₁.heap.objs.size [s₁.heap.objs.size, d] [s₁.heap.objs.size] (kvs.map (·.2)).toArray.size (fun i v => (kvs.map (·.2)).toArray[i]? = some v) (fun i h => h.IsValIter s₁.heap.objs.size d i kvs.length ep ∧ h.DictAt (intKind prog w) d kvs ep) := by
    rw [hlen]
    exact { sub := W0.sub, frame := W0.frame, done := W0.done, self := W0.self,
            item := fun i s Q E hi st hQ => W0.item i s Q E hi st fun v h' tk hP => hQ v h' tk (by obtain ⟨k, hk⟩ := hP; simp [hk]) }
  refine LCg.block_U W hsz (fun i h st => by obtain ⟨o, e, _⟩ := st.1; exact ⟨o, e⟩) (fun i h h' o nw st e e' k N' S => ?_) hcell hkind hx ⟨⟨_, Heap.get?_push_size _ rfl, rfl, rfl⟩, hat.at' (up _)⟩ (fun b hb => ?_)
    (F.keeps up) (N.grown up) (Nat.ne_of_lt F.ns.lt) (next_is_new F) (fun p hp => Nat.ne_of_lt (Heap.lt_size (N p hp).1)) hm (R _ ⟨_, rfl⟩) ?_
  · refine ⟨?_, ?_⟩
    · obtain ⟨o', q, r⟩ := st.1
      rw [e] at q; cases q
      exact ⟨o, e', r⟩
    · obtain ⟨o1, es, q1, q2⟩ := hat
      have e1 := (N _ hm).1
      rw [q1] at e1; cases e1
      exact ⟨_, es, (N' _ S).1, q2⟩
  · show b < (s₁.heap.push _).objs.size
    rw [Heap.size_push]
    rcases List.mem_cons.mp hb with rfl | hb
    · exact Nat.lt_succ_self _
    · rw [List.mem_singleton.mp hb]; exact Nat.lt_succ_of_lt hlt
  · intro D C h' tk m' ys news' F' N' o1 hn hC₀ hD₀ hCL hDL hCD offC fin
    show wpAny _ A (assign (.Name y py) env (.ref D)) _ _ _
    refine wpAny_assign_Name (wpAny_storeName_local hy F'.ns (fun h₂ hn₂ hs₂ => ?_) hp)
    have hL₀ : h₀.get? env.locals = none := Heap.get?_none_of_le F'.above
    have F₂ : Fr h₀ env.locals h₂ (fun z => if z = y then some (.ref D) else m z) := ⟨hn₂, fun b o e => hs₂.extBut b o (fun q => by rw [q, hL₀] at e; cases e) (F'.keep b o e), F'.above⟩
    refine ⟨m', hn.sameBut hs₂ hCL, fun h'' hs'' => fin D h'' _ (F₂.change hs'' hCL hC₀) (fun p hp => ?_) o1⟩
    have z : h₂.get? p.1 = some p.2 := hs₂.extBut _ _ (N' p hp).2.1 (N' p hp).1
    refine ⟨hs''.extBut _ _ ?_ z, (N' p hp).2⟩
    rcases List.mem_cons.mp hp with rfl | hp
    · exact Ne.symm hCD
    · exact offC p hp
end
end Mine
end
section
open PySem PySem.W PyProof.Rows PySem.Spec PySem.Calls
set_option maxRecDepth 100000
namespace Mine
noncomputable def End3 (h₀ : Heap) (L : Addr) (m : Str → Option Value) (s₁ : Shared) (led : List (Addr × Obj)) (J : Value → Prop) (y : Value) (s₃ : Shared) : Prop :=
  ∃ h' tk', s₃ = { s₁ with heap := h', toks := tk' } ∧ Fr h₀ L h' m ∧ News h₀ L h' led ∧ J y
theorem End3.intro {h₀ : Heap} {L : Addr} {m : Str → Option Value} {s₁ : Shared} {led : List (Addr × Obj)} {J : Value → Prop} {y : Value} {h' : Heap} {tk' : Nat} (F : Fr h₀ L h' m) (N : News h₀ L h' led) (j : J y) : End3 h₀ L m s₁ led J y { s₁ with heap := h', toks := tk' } := ⟨h', tk', rfl, F, N, j⟩
noncomputable abbrev t3 (x y z : Value) : Obj := { cls := .type "tuple", data := .seq #[x, y, z] }
section
variable {prog : Program} {w : World} {A : Around} {E : Value → Shared → Prop} {s : Shared} {h₀ : Heap} {L : Addr} {m : Str → Option Value} {env : Env}
noncomputable def Turn3 (prog : Program) (w : World) (A : Around) (h₀ : Heap) (L : Addr) (m : Str → Option Value) (env : Env) (elt : Expr) (a b c : Str) (scope : Scope) (cl : List (Str × Addr)) (s₁ : Shared) (n : Nat) (news : List (Addr × Obj)) (x y z : Nat → Value) (J : Nat → List Value → Prop) : Prop :=
  ∀ i ys h tk I oI C oC D m₂ (E' : Value → Shared → Prop), i < n → J i ys → LCg.NsObj oC m₂ → m₂ a = some (x i) → m₂ b = some (y i) → m₂ c = some (z i) → Fr h₀ L h m → News h₀ L h ((I, oI) :: (C, oC) :: (D, LCg.lst ys) :: news) →
    wpAny (model prog w) A (eval elt (compEnvC scope cl C env)) (End3 h₀ L m s₁ ((I, oI) :: (C, oC) :: (D, LCg.lst ys) :: news) (fun v => J (i + 1) (ys ++ [v]))) E' { s₁ with heap := h, toks := tk }
noncomputable def Src3 (prog : Program) (w : World) (A : Around) (h₀ : Heap) (L : Addr) (m : Str → Option Value) (env : Env) (elt : Expr) (a b c : Str) (scope : Scope) (cl : List (Str × Addr)) (Q : Value → Shared → Prop) (xv : Value) (s₁ : Shared) : Prop :=
  ∃ (ax : Addr) (its : Array Value) (k : Nat) (news : List (Addr × Obj)) (T : Nat → Addr) (x y z : Nat → Value) (J : Nat → List Value → Prop), xv = .ref ax ∧ A.handled = none ∧ Fr h₀ L s₁.heap m ∧ News h₀ L s₁.heap news ∧ (ax, ({ cls := .type "list", data := .seq its k } : Obj)) ∈ news ∧ its.size ≤ sizeLine ∧
    (∀ i, i < its.size → its[i]? = some (.ref (T i)) ∧ (T i, t3 (x i) (y i) (z i)) ∈ news) ∧ J 0 [] ∧ Turn3 prog w A h₀ L m env elt a b c scope cl s₁ its.size news x y z J ∧
    ∀ D h tk ys, J its.size ys → Fr h₀ L h m → News h₀ L h ((D, LCg.lst ys) :: news) → Q (.ref D) { s₁ with heap := h, toks := tk }
/-- [.. for a, b, c in l], l a list of the ledger's tuples -/
theorem comp3 {elt iter : Expr} {a b c : Str} {pa pb pc tp : Pos} {kk : Nat} {scope : Scope} {cl : List (Str × Addr)} {pos : Pos} {Q : Value → Shared → Prop} (_F₀ : Fr h₀ L s.heap m)
    (hclos : closureFor scope env = pure cl) (hcell : ∀ y ∈ scope.names, y.2 ≠ .cell) (hkind : scope.kind = .function)
    (hnames : ∀ y ∈ scope.names, y.2 = .local → scope.names.lookup y.1 = some .local) (hxa : scope.names.lookup a = some .local) (hxb : scope.names.lookup b = some .local) (hxc : scope.names.lookup c = some .local) (hab : a ≠ b) (hac : a ≠ c) (hbc : b ≠ c)
    (h : wpAny (model prog w) A (eval iter env) (Src3 prog w A h₀ L m env elt a b c scope cl Q) E s)
    (hs : ∀ x, foldedSetIterable iter env x = pure x) :
    wpAny (model prog w) A (eval (.ListComp elt [⟨.Tuple [.Name a pa, .Name b pb, .Name c pc] kk tp, iter, [], 0⟩] scope pos) env) Q E s := by
  rw [eval_ListComp]
  refine wpAny_comprehension_free (use := none) rfl hs hclos hkind hnames (wpAny_mono h (fun xv s₁ h₁ => ?_) fun _ _ e => e)
  obtain ⟨ax, its, k, news, T, x, y, z, J, rfl, hh, F, N, hax, hsz, hit, hJ, turn, fin⟩ := h₁
  have hl : s₁.heap.IsList ax its := ⟨_, (N _ hax).1, rfl, k, rfl⟩
  have hlt : ax < s₁.heap.objs.size := Heap.lt_size (N _ hax).1
  refine wpAny_pyIter_list hl ?_
  have W := Walks.list (prog := prog) (w := w) hh s₁.heap.objs.size ax (Nat.ne_of_lt hlt) its
  obtain ⟨g0, hg0⟩ : ∃ g, g = s₁.heap.push { cls := .type "list_iterator", data := .fields #[.ref ax, .int 0 0] } := ⟨_, rfl⟩
  rw [← hg0]
  refine wpAny_newObj_type (wpAny_newFunctionEnv hcell (by intro y hy; simp at hy) (fun h₁ hns₁ hsb₁ => ?_) hkind)
  dsimp only at hns₁ hsb₁ ⊢
  generalize hB : s₁.heap.objs.size = B at W hlt ⊢
  have hg0s : g0.objs.size = B + 1 := by rw [hg0, Heap.size_push, hB]
  generalize hH2 : g0.push { cls := .type "list", dict := none, data := .seq ([] : List Value).toArray } = H2 at hns₁ hsb₁ ⊢
  have hC : H2.objs.size = B + 2 := by rw [← hH2, Heap.size_push, hg0s]
  rw [hg0s]
  rw [hC] at hns₁ hsb₁ ⊢
  have low : ∀ p ∈ news, p.1 < B := fun p hp => hB ▸ Heap.lt_size (N p hp).1
  have hLB : L < B := hB ▸ F.ns.lt
  have fresh₀ : ∀ q, B ≤ q → h₀.get? q = none := fun q hq => by
    cases e : h₀.get? q with
    | none => rfl
    | some o' => exact absurd (hB ▸ Heap.lt_size (F.keep q o' e)) (Nat.not_lt.mpr hq)
  have n1 : (B : Nat) ≠ B + 1 := Nat.ne_of_lt (Nat.lt_succ_self _)
  have n2 : (B : Nat) ≠ B + 2 := Nat.ne_of_lt (Nat.lt_succ_of_lt (Nat.lt_succ_self _))
  have n3 : (B + 1 : Nat) ≠ B + 2 := Nat.ne_of_lt (Nat.lt_succ_self _)
  have lo : ∀ q, q < B → q ≠ B ∧ q ≠ B + 1 ∧ q ≠ B + 2 := fun q hq => ⟨Nat.ne_of_lt hq, Nat.ne_of_lt (Nat.lt_succ_of_lt hq), Nat.ne_of_lt (Nat.lt_succ_of_lt (Nat.lt_succ_of_lt hq))⟩
  have hB₀ := fresh₀ B (Nat.le_refl _)
  have hD₀ := fresh₀ (B + 1) (Nat.le_succ _)
  have hC₀ := fresh₀ (B + 2) (Nat.le_succ_of_le (Nat.le_succ _))
  have up0 : ∀ b o, g0.get? b = some o → h₁.get? b = some o := fun b o e => hsb₁.extBut b o (Nat.ne_of_lt (Nat.lt_of_lt_of_le (Heap.lt_size e) (by rw [hg0s]; exact Nat.le_succ _))) (Heap.get?_push_of_some _ (hH2 ▸ Heap.get?_push_of_some _ e))
  have old : ∀ b o, s₁.heap.get? b = some o → h₁.get? b = some o := fun b o e => up0 b o (hg0 ▸ Heap.get?_push_of_some _ e)
  have hI0 : g0.IsListIter B ax 0 := ⟨_, by rw [hg0, ← hB]; exact Heap.get?_push_size _ rfl, rfl, rfl⟩
  have hst₁ : h₁.IsListIter B ax 0 ∧ h₁.IsList ax its := ⟨hI0.at fun o e => up0 _ o e, hl.at fun o e => old _ o e⟩
  have hacc : h₁.get? (B + 1) = some (LCg.lst []) := hsb₁.extBut _ _ n3 (Heap.get?_push_of_some _ (by rw [← hH2, ← hg0s]; exact Heap.get?_push_size _ rfl))
  have loop : ∀ s₃ : Shared, s₃ = { s₁ with heap := h₁, toks := s₁.toks + ([] : List (Str × Value)).length } →
      codeAny (model prog w) A (.compLoop (.ListComp elt [⟨.Tuple [.Name a pa, .Name b pb, .Name c pc] kk tp, iter, [], 0⟩] scope pos) 0 (.ref B) (.ref (B + 1)) (compEnvC scope cl (B + 2) env))
        (compPost (model prog w) A E none Q (.ref (B + 1)) (B + 2)) s₃ := by
    rintro s₃ rfl
    refine LCp.codeAny_compLoop_pair
      (fun k s' => ∃ h' tk i ys oC m', s' = { s₁ with heap := h', toks := tk } ∧ i ≤ its.size ∧ k = its.size + 1 - i ∧ ys.length = i ∧ (h'.IsListIter B ax i ∧ h'.IsList ax its) ∧ Fr h₀ L h' m ∧ LCg.NsObj oC m' ∧ News h₀ L h' ((B + 2, oC) :: (B + 1, LCg.lst ys) :: news) ∧ J i ys) ?_ (its.size + 1) ?_
    · rintro k s' ⟨h', tk, i, ys, oC, m', rfl, hi, rfl, hyl, hst', F', hoC, N', hJ'⟩
      by_cases hlti : i < its.size
      · refine W.item i _ _ _ hlti hst' fun v h₂ tk₂ hPv hst₂ hk₂ => ?_
        obtain ⟨hiv, hmT⟩ := hit i hlti
        have hv : v = .ref (T i) := by
          have h9 : its[i]? = some v := hPv
          rw [hiv] at h9; exact (Option.some.inj h9).symm
        subst hv
        have F₂ : Fr h₀ L h₂ m := LCg.fr_but F' hk₂ (Nat.ne_of_lt hLB) hB₀
        have N₂ : News h₀ L h₂ ((B + 2, oC) :: (B + 1, LCg.lst ys) :: news) := LCg.news_but N' hk₂ fun p hp => by
          simp only [List.mem_cons] at hp
          rcases hp with rfl | rfl | hp
          · exact Ne.symm n2
          · exact Ne.symm n1
          · exact (lo _ (low p hp)).1
        have ht : IsTup h₂ (T i) #[x i, y i, z i] := ⟨_, (N₂ _ (List.mem_cons_of_mem _ (List.mem_cons_of_mem _ hmT))).1, rfl, 0, rfl⟩
        refine wpAny_letOwnedTupleGo_listiter hst₂.1 ?_
        refine assign_Tuple_tuple hh ht rfl rfl fun h₅ he => ?_
        have he' : ∀ b o, h₂.get? b = some o → h₅.get? b = some o := fun b o e => he b o (Nat.ne_of_lt (Heap.lt_size e)) e
        have hn₅ : h₅.Ns (B + 2) m' := (hoC.ns (N₂ (B + 2, oC) (by simp)).1).at' fun o e => he' _ o e
        refine assignInOrder_cons (wpAny_assign_Name (wpAny_storeName_local (lookup_relabel_local hxa) hn₅ (fun h₆ hn₆ hs₆ => ?_) (by simp [compEnvC, relabel, hkind])))
        refine assignInOrder_cons (wpAny_assign_Name (wpAny_storeName_local (lookup_relabel_local hxb) hn₆ (fun h₇ hn₇ hs₇ => ?_) (by simp [compEnvC, relabel, hkind])))
        refine assignInOrder_cons (wpAny_assign_Name (wpAny_storeName_local (lookup_relabel_local hxc) hn₇ (fun h₃ hn₃ hs₃ => ?_) (by simp [compEnvC, relabel, hkind])))
        refine assignInOrder_nil ?_
        have old3 : ∀ b o, b ≠ B + 2 → h₂.get? b = some o → h₃.get? b = some o := fun b o hb e => hs₃.extBut b o hb (hs₇.extBut b o hb (hs₆.extBut b o hb (he' b o e)))
        have hCL : (B + 2 : Nat) ≠ L := Ne.symm (lo L hLB).2.2
        have F₃ : Fr h₀ L h₃ m := (((F₂.keeps he').change hs₆ hCL hC₀).change hs₇ hCL hC₀).change hs₃ hCL hC₀
        obtain ⟨oC3, heC, hoC3⟩ := LCg.ns_obj hn₃
        obtain ⟨oI, hgI, rI⟩ := hst₂.1
        have heI : h₃.get? B = some oI := old3 _ _ n2 hgI
        have N₃ : News h₀ L h₃ ((B, oI) :: (B + 2, oC3) :: (B + 1, LCg.lst ys) :: news) := fun p hp => by
          simp only [List.mem_cons] at hp
          rcases hp with rfl | rfl | rfl | hp
          · exact ⟨heI, Nat.ne_of_gt hLB, hB₀⟩
          · exact ⟨heC, hCL, hC₀⟩
          · have q := N₂ (B + 1, LCg.lst ys) (by simp)
            exact ⟨old3 _ _ n3 q.1, q.2⟩
          · have q := N₂ p (by simp [hp])
            exact ⟨old3 _ _ (lo _ (low p hp)).2.2 q.1, q.2⟩
        refine wpAny_mono (turn i ys h₃ _ B oI (B + 2) oC3 (B + 1) _ _ hlti hJ' hoC3 (by simp [hab, hac]) (by simp [hbc]) (by simp) F₃ N₃) (fun v s₄ h₄ => ?_) fun _ _ e => e
        obtain ⟨h₄, tk₄, rfl, F₄, N₄, J₄⟩ := h₄
        have zD := (N₄ (B + 1, LCg.lst ys) (by simp)).1
        have zI : h₄.get? B = some oI := (N₄ (B, oI) (by simp)).1
        refine append_at (hsz := by show ys.toArray.size ≤ sizeLine; rw [List.size_toArray, hyl]; exact Nat.le_trans hi hsz) zD fun h₈ hs₈ hD₈ => ?_
        have hDL : (B + 1 : Nat) ≠ L := Ne.symm (lo L hLB).2.1
        refine ⟨its.size + 1 - (i + 1), turnLess (by assumption), h₈, tk₄, i + 1, ys ++ [v], oC3, _, rfl, hlti, rfl, by rw [List.length_append, List.length_singleton, hyl], ⟨⟨oI, hs₈.extBut _ _ n1 zI, rI⟩, ?_⟩, F₄.change hs₈ hDL hD₀, hoC3, fun p hp => ?_, J₄⟩
        · exact ⟨_, hs₈.extBut _ _ (lo _ hlt).2.1 (N₄ (ax, { cls := .type "list", data := .seq its k }) (by simp [hax])).1, rfl, _, rfl⟩
        · simp only [List.mem_cons] at hp
          rcases hp with rfl | rfl | hp
          · have q := N₄ (B + 2, oC3) (by simp)
            exact ⟨hs₈.extBut _ _ (Ne.symm n3) q.1, q.2⟩
          · exact ⟨hD₈.trans (congrArg some (LCg.lst_snoc ys v)), hDL, hD₀⟩
          · have q := N₄ p (by simp [hp])
            exact ⟨hs₈.extBut _ _ (lo _ (low p hp)).2.1 q.1, q.2⟩
      · obtain rfl : i = its.size := Nat.le_antisymm hi (Nat.not_lt.mp hlti)
        refine W.done _ _ _ hst' fun h₂ tk₂ hk₂ => ?_
        have F₂ : Fr h₀ L h₂ m := LCg.fr_but F' hk₂ (Nat.ne_of_lt hLB) hB₀
        have N₂ : News h₀ L h₂ ((B + 2, oC) :: (B + 1, LCg.lst ys) :: news) := LCg.news_but N' hk₂ fun p hp => by
          simp only [List.mem_cons] at hp
          rcases hp with rfl | rfl | hp
          · exact Ne.symm n2
          · exact Ne.symm n1
          · exact (lo _ (low p hp)).1
        refine ⟨m', hoC.ns (N₂ (B + 2, oC) (by simp)).1, fun h'' hs'' => fin (B + 1) h'' tk₂ ys hJ' (F₂.change hs'' (Ne.symm (lo L hLB).2.2) hC₀) fun p hp => ?_⟩
        have q := N₂ p (List.mem_cons_of_mem _ hp)
        refine ⟨hs''.extBut _ _ ?_ q.1, q.2⟩
        rcases List.mem_cons.mp hp with rfl | hp
        · exact n3
        · exact (lo _ (low p hp)).2.2
    · obtain ⟨oC, heC, hoC⟩ := LCg.ns_obj hns₁
      refine ⟨h₁, _, 0, [], oC, _, rfl, Nat.zero_le _, rfl, rfl, hst₁, F.keeps old, hoC, fun p hp => ?_, hJ⟩
      simp only [List.mem_cons] at hp
      rcases hp with rfl | rfl | hp
      · exact ⟨heC, Ne.symm (lo L hLB).2.2, hC₀⟩
      · exact ⟨hacc, Ne.symm (lo L hLB).2.1, hD₀⟩
      · exact ⟨old _ _ (N p hp).1, (N p hp).2⟩
  exact codeAny_compStart_list (loop _ rfl) (W.self 0 _ _ _ hst₁ (loop _ rfl))
end
end Mine
end
section
open PySem PySem.W PyProof.Rows
set_option maxRecDepth 100000
namespace Mine
section
variable {h₁ h : Heap} {tabs : List (Addr × Addr)} {mg mb : Str → Option Value} {p : Program} {loose : List Str}
theorem ghost_topR (hT : TabsAt tabs h₁) (T : TopRead p loose mg mb h₁) : TopRead p loose mg mb (ghostOf h₁ tabs) := by
  obtain ⟨mc, a, r⟩ := T.nolimit
  exact ⟨ghost_ns hT T.g, ghost_ns hT T.b, ⟨mc, ghost_ns hT a, r⟩, T.builtins, T.free⟩
theorem ghost_bmod {bm : Addr} {ob : Obj} (hT : TabsAt tabs h₁) (B : BMod h₁ mainGlobals mg bm ob) : BMod (ghostOf h₁ tabs) mainGlobals mg bm ob :=
  ⟨ghost_ns hT B.ns, B.name, B.ne, ghost_get hT B.obj (fun q => by have := B.cls; rw [q] at this; cases this), B.cls, B.dict, B.data⟩
end
theorem news_rot {h₀ h : Heap} {L : Addr} {a b c d : Addr × Obj} {r : Led} (N : News h₀ L h (a :: b :: c :: d :: r)) : News h₀ L h (b :: c :: d :: a :: r) := news_sub N (fun p hp => by
  simp only [List.mem_cons] at hp ⊢
  rcases hp with h | h | h | h | h <;> simp only [h, true_or, or_true])
theorem callersNews {h₀ h : Heap} {L : Addr} {x d3 d2 d1 d0 v r q0 q1 q2 q3 q4 tb : Addr × Obj} (N : News h₀ L h [x, d3, d2, d1, d0, v, r, q0, q1, q2, q3, q4, tb]) : News h₀ L h [x, d0, d1, d2, d3, tb] := news_sub N (fun p hp => by
  simp only [List.mem_cons, List.not_mem_nil, or_false] at hp ⊢
  rcases hp with h | h | h | h | h | h <;> simp only [h, true_or, or_true])
theorem stopIf {P : Prop} (_ : Stop True) (h : Stop P) : P := h
/-- what the law leaves: it tells True, and nothing that stood is changed but the tables of nested code, which may have grown -/
noncomputable def LawEnd (s₁ : Shared) (tabs : List (Addr × Addr)) (r : Result) (s' : Shared) : Prop :=
  r = .ok (.ret (.bool true)) ∧ (∀ b o, (ghostOf s₁.heap tabs).get? b = some o → s'.heap.get? b = some o) ∧ s'.os = s₁.os ∧ AllBare s'.gens ∧ GrownAll tabs s'.heap
theorem law_post {M : Model} {A : Around} {cd : Code} {s s₁ : Shared} {cw : ClaimW} {cl : Str → Option Addr} {mean : ExcName → Option Value} {args : List WData} {tabs : List (Addr × Addr)} (hT : TabsAt tabs s₁.heap) (hn : ∀ cls, cw.raises args cls = false) (hp : cw.post args (.bool true) args = true)
    (h : codeAny M A cd (LawEnd s₁ tabs) s) : codeAny M A cd (GoodWG cw cl mean args s₁) s :=
  codeAny_mono h fun r s' ⟨hr, hk, hos, hg, hgr⟩ => by
    have split : ∀ b o, s₁.heap.get? b = some o → (s'.heap.get? b = some o) ∨ (isCodeTable s₁.heap b ∧ o = tabObj #[] ∧ ∃ ps, s'.heap.get? b = some (tabObj ps)) := fun b o e => by
      by_cases hb : b ∈ tabs.map (·.2)
      · obtain ⟨q, hq, rfl⟩ := List.mem_map.mp hb
        have e2 := (hT q hq).2
        rw [e] at e2
        exact .inr ⟨((hT q hq).1.tab (hT q hq).2).isCodeTable, Option.some.inj e2, hgr.get q hq⟩
      · exact .inl (hk b o (ghost_ne e hb))
    refine ⟨.inl ⟨.bool true, .bool true, [], hr, hn, .bool true, hp, unshared_nil⟩, ⟨fun b o e => ?_, fun b o e => ?_⟩, hos, hg⟩
    · rcases split b o e with h | ⟨ht, rfl, ps, hP⟩
      · exact .inl h
      · exact .inr (.inl ⟨ht, rfl, #[], ps, rfl, by rw [Array.empty_append]; exact hP⟩)
    · rcases split b o e with h | ⟨_, _, ps, hP⟩
      · exact ⟨_, h⟩
      · exact ⟨_, hP⟩
local macro_rules | `(tactic| walk_at "call builtin:sum") => `(tactic| (refine stopAt ?_))
local macro_rules | `(tactic| walk_at "subscriptTail Name Slice ref ref") => `(tactic| (refine stopIf (by assumption) ?_))
local macro_rules | `(tactic| walk_at "compareOp NotEq ref ref") => `(tactic| (refine stopAt ?_))
local macro_rules | `(tactic| walk_at "exec If") => `(tactic| refine wpAny_If ?_)
local macro_rules | `(tactic| walk_at "call type:list") => `(tactic| (refine stopAt ?_))
local macro_rules | `(tactic| walk_at "CompEnd") => `(tactic| (refine stopAt ?_))
local macro_rules | `(tactic| walk_at "FinA") => `(tactic| (refine stopAt ?_))
local macro_rules | `(tactic| walk_at "Src3") => `(tactic| (refine stopAt ?_))
local macro_rules | `(tactic| walk_at "End3") => `(tactic| (refine stopAt ?_))
local macro_rules | `(tactic| walk_at "eval ListComp") => `(tactic| (refine stopAt ?_))
local macro_rules | `(tactic| walk_at "LawEnd") => `(tactic| (refine stopAt ?_))
local macro_rules | `(tactic| walk_at "SrcV") => `(tactic| (refine stopAt ?_))
local macro_rules | `(tactic| walk_at "CompSrc") => `(tactic| (refine stopAt ?_))
local macro_rules | `(tactic| walk_at "exec Assign cons ListComp") => `(tactic| (refine stopAt ?_))
local macro_rules | `(tactic| walk_at "call ref") => `(tactic| (refine stopAt ?_))
set_option maxHeartbeats 8000000 in
theorem law_holds : PySem.Challenge.rw_pe0143_01.Holds := hd (by
  k_fill
  intro w s₀ s₁ mg mb G Y fa o pm cd doc dV kV ho hd hcd hD hmg hg args vals as hpre hlay hrd hwl hlo
  have KX := kIn_of Y
  have V := (Ground.X G).2
  refine Ground.open G ?_
  intro T B D TE TW
  try (refine guard_noD D (by decide +kernel) ?_; clear D)
  have hT9 : TabsAt ([(55, 51)] : List (Addr × Addr)) _ := List.forall_mem_cons.mpr ⟨tab_of (x := Str.ofString "add_callers") (c := 55) (P := 51) T KX rfl (tab55 _), fun _ h => nomatch h⟩
  clear hmg
  wrow_args hpre hlay hrd hwl hlo
  first | refine callC_kw (enter_call ?_) | refine enter_call ?_
  w_top on
  refine law_post hT9 (fun _ => rfl) (postW_of (X := true) (by wrow_shape) (by wtm_val) rfl) ?_
  obtain ⟨bm, ob, BM0⟩ := bmod_of_top T
  have BM := ghost_bmod hT9 BM0
  have TR := ghost_topR hT9 (topRead_of T)
  w_call any ho hd hcd hD T F
  clear hd
  kn_ghosts F T
  k_drop
  show wpAny _ _ _ _ _ _
  k_fold
  k_steps
  unfold Stop
  rename_i ns hs_ hlay0_ hL1_ hr1_ hl2_ w4_ w3_ la vs w_ hL_ ra_ w1_ r0_ hIA hr_ hc1 hc_ H1 X' T' K' F' N' l0'
  clear ra_ w1_ r0_ hr_ hL_ hs_ hlay0_ hL1_ hr1_ hl2_ hc_ hD BM0 Y V B TE TW hT9
  with_unfolding_all refine LCg.Assign_ListComp_U F' (by rfl) (by with_unfolding_all rfl) (by with_unfolding_all rfl) (by decide) (by rfl) (by decide) (by rfl) (by rfl) (by rfl) ?_ (by intro _; with_unfolding_all rfl)
  k_steps
  unfold Stop
  rename_i D1 ws H2 F2 N2 hI2 hC2 hL2 lD1
  have hlen6 : (ns.take 6).length ≤ 6 := by rw [hC2]; omega
  have hwl : ws.length = (ns.take 6).length := hI2.length
  refine LCg.CompSrc.ledger (its := ws.toArray) rfl F2 N2 (List.mem_cons_self ..) (by rw [List.size_toArray, sizeLine_eq]; omega) fun gc => ?_
  refine restU ws.toArray.size (fun i zs nw => nw = [(D1, W.listOf ws.toArray 0), (51, tabObj #[])] ∧ IntsAre zs (((ns.take 6).take i).map fun x => x.fmod 1000000)) ?turn1 ?fin1 _ 0 [] _ (by simp) ⟨rfl, .nil⟩
  (case turn1 =>
    clear F2 N2
    rintro i zs nw v I8 oI8 C8 oC8 D8 m8 h8 tk8 E8 hi ⟨rfl, hz⟩ hv hoC8 hx8 F8 N8 off8 ne8
    obtain ⟨x, tx, rfl, hx⟩ := hI2.at i v (by simpa using hv)
    simp only [LCg.Off3, and_true] at off8
    k_steps
    unfold Stop
    (rename News _ _ _ _ => N9)
    refine' LCg.CompEnd.intro ?eF N9 _ (fun p hp => hp) ?eo ?eS ⟨rfl, ?_⟩
    (case eF => assumption)
    (case eo => exact ⟨off8.1, off8.2, True.intro⟩)
    (case eS => exact .inr ⟨_, List.mem_cons_self .., rfl, _, rfl⟩)
    rw [List.take_add_one, hx, List.map_append]
    exact hz.append (.cons _ _ .nil))
  (case fin1 =>
    rintro zs nw ⟨rfl, hz⟩
    have htk : (ns.take 6).take ws.toArray.size = ns.take 6 := by rw [List.size_toArray, hwl]; exact List.take_length
    rw [htk] at hz
    obtain ⟨ys, hys⟩ : ∃ ys, ys = (ns.take 6).map fun x => x.fmod 1000000 := ⟨_, rfl⟩
    rw [← hys] at hz
    have hylen : ys.length ≤ 6 := by rw [hys, List.length_map]; exact hlen6
    have hybnd : ∀ y ∈ ys, 0 ≤ y ∧ y < 1000000 := by
      intro y hy
      rw [hys] at hy
      obtain ⟨x, _, rfl⟩ := List.mem_map.mp hy
      exact ⟨Int.fmod_nonneg_of_pos x (by decide), Int.fmod_lt_of_pos x (by decide)⟩
    clear F2 N2 hI2 hC2 hL2 htk hys lifted hIA hwl hlen6
    unfold LCg.FinA
    intro D3 h3 tk3 F3 N3 o3
    simp only [LCg.Off1, and_true] at o3
    obtain ⟨o3, o4⟩ := o3
    k_steps
    unfold Stop
    (rename Fr _ _ _ _ => F4)
    (rename News _ _ _ _ => N4)
    refine LSm.sum_ints F4 N4 rfl ⟨_, (N4 _ (List.mem_cons_self ..)).1, rfl, _, rfl⟩ hz fun h5 tk5 t5 F5 N5 => ?_
    clear F4 N4
    k_steps
    unfold Stop
    (rename Fr _ _ _ _ => F6)
    (rename News _ _ _ _ => N6)
    refine' SpecG.useU (ps := #[]) (prof_spec w mg mb D3 zs ys zs.length hz) ?B F6 ?X N6 ?U ?T BM ?hk ?hp ?ht ?hg ?hd ?hu ?_
    (case B => k_asm)
    (case X => k_asm)
    (case U => exact UpdF.tail (Ne.symm o4) (UpdF.tail (Nat.ne_of_gt lD1) (UpdF.head (fun p hp => nomatch hp))))
    (case T => exact TR)
    (case hk => rfl)
    (case hp =>
      intro rest hr
      exact hr _ (List.mem_cons_self ..) (Ne.symm o4))
    (case ht => exact True.intro)
    (case hg => exact AllBare.of_eq hg)
    (case hd => ktr_room)
    (case hu => ktr_units)
    intro r6 tl6 h6 tk6 g6 ps6 F7 N7 hlt6 htr6 hgb6 hout
    obtain ⟨Z6, R6, D6, o6, e6, t6, u6, rfl, rfl, hd6, lo6⟩ := hout
    clear F6 N6
    obtain ⟨a, ha⟩ : ∃ a, a = ys.foldl stepP acc0 := ⟨_, rfl⟩
    rw [← ha] at N7 hlt6
    simp only [profLed, List.cons_append, List.nil_append] at N7
    obtain ⟨an, as_, am, aq⟩ := prof_four ys
    have av := prof_ldg ys
    rw [← ha] at an as_ am aq
    have av' : ∀ k, a.v k = ldg ys k := fun k => by rw [ha]; exact av k
    simp only [totO, an, as_, am, aq, av'] at N7
    k_steps
    unfold Stop
    (rename Fr _ _ _ _ => F8)
    (rename News _ _ _ _ => N8)
    refine' SpecO.use (ledger_spec w mg mb D3 zs ys zs.length hz (by omega)) ?B F8 ?X N8 ?T ?hk ?hp ?hd ?hu ?_
    (case B => k_asm)
    (case X => k_asm)
    (case T => exact TR)
    (case hk => rfl)
    (case hp => k_mem)
    (case hd => ktr_room)
    (case hu => ktr_units)
    clear F8 N8
    intro r9 tl9 h9 tk9 F9 N9 hlt9 hout9
    obtain ⟨Z9, n9, T9, c9, t9, u9, rfl, rfl⟩ := hout9
    simp only [ldgLed, List.cons_append, List.nil_append] at N9
    have mk9 : Stop True := True.intro
    k_steps
    unfold Stop
    refine' front_tup 4 ?zk ?zF ?zN ?zm ?zo ?zb ?zz ?_ ?zs ?zg ?zy
    (case zk => exact rfl); (case zF => k_asm); (case zN => k_asm); (case zm => k_mem); (case zo => exact rfl); (case zb => exact Nat.le_of_ble_eq_true rfl); (case zz => exact rfl); (case zs => with_unfolding_all rfl); (case zg => intro _; with_unfolding_all rfl); (case zy => exact Nat.le_of_ble_eq_true rfl)
    k_whole
    intro D' h' F' N' l1
    clear mk9
    (try dsimp only [List.take] at N')
    (try k_lt l1)
    k_steps
    unfold Stop
    k_dflt (refine' ne_dataH ?ra ?rb ?sa ?sb ?u ?_)
    (case ra => ked_read)
    (case rb => ked_read)
    (case sa => rfl)
    (case sb => rfl)
    (case u => ktr_units)
    have hq1 : (PyData.tuple [PyData.int ys.length, PyData.int ys.sum, PyData.int (-ys.sum), PyData.int (7 * ys.length)]).eqv (PyData.tuple [PyData.int ys.length, PyData.int ys.sum, PyData.int (-ys.sum), PyData.int (7 * ys.length)]) = true := by simp [PyData.eqv, PyData.eqvAll]
    rw [hq1]
    k_steps
    unfold Stop
    (rename Fr _ _ _ _ => lF')
    (rename News _ _ _ _ => lN')
    with_unfolding_all refine kdx_listN (knd := PySem.intKind _ _) (enc := PyData.int) (ps := [(fun t => Value.int 0 t, Value.ref (e6 0)), (fun t => Value.int 1 t, Value.ref (e6 1)), (fun t => Value.int 2 t, Value.ref (e6 2)), (fun t => Value.int 3 t, Value.ref (e6 3))]) (by rfl) lF' lN' (by k_mem) (by k_mem) (by k_asm) (Nat.le_of_ble_eq_true rfl) (fun _ _ h => Value.isInt_shape h) (by rfl) ?_
    clear lF' lN'
    intro lo' l0
    (try k_lt l0)
    k_steps
    unfold Stop
    k_dflt (refine' ne_dataH ?ra ?rb ?sa ?sb ?u ?_)
    (case ra => ked_read)
    (case rb => ked_read)
    (case sa => rfl)
    (case sb => rfl)
    (case u => ktr_units)
    have hq2 : (PyData.list [PyData.tuple [PyData.int 0, PyData.tuple [PyData.int (ldg ys 0).1, PyData.int (ldg ys 0).2.1, PyData.int (ldg ys 0).2.2]], PyData.tuple [PyData.int 1, PyData.tuple [PyData.int (ldg ys 1).1, PyData.int (ldg ys 1).2.1, PyData.int (ldg ys 1).2.2]], PyData.tuple [PyData.int 2, PyData.tuple [PyData.int (ldg ys 2).1, PyData.int (ldg ys 2).2.1, PyData.int (ldg ys 2).2.2]], PyData.tuple [PyData.int 3, PyData.tuple [PyData.int (ldg ys 3).1, PyData.int (ldg ys 3).2.1, PyData.int (ldg ys 3).2.2]]]).eqv (PyData.list [PyData.tuple [PyData.int 0, PyData.tuple [PyData.int (ldg ys 0).1, PyData.int (ldg ys 0).2.1, PyData.int (ldg ys 0).2.2]], PyData.tuple [PyData.int 1, PyData.tuple [PyData.int (ldg ys 1).1, PyData.int (ldg ys 1).2.1, PyData.int (ldg ys 1).2.2]], PyData.tuple [PyData.int 2, PyData.tuple [PyData.int (ldg ys 2).1, PyData.int (ldg ys 2).2.1, PyData.int (ldg ys 2).2.2]], PyData.tuple [PyData.int 3, PyData.tuple [PyData.int (ldg ys 3).1, PyData.int (ldg ys 3).2.1, PyData.int (ldg ys 3).2.2]]]) = true := by simp [PyData.eqv, PyData.eqvAll]
    rw [hq2]
    k_steps
    unfold Stop
    (rename Fr _ _ _ _ => F10)
    (rename News _ _ _ _ => N10)
    have N11 : News _ _ _ [(R6, oTup #[Value.int ys.length (t6 0), Value.int ys.sum (t6 1), Value.int (-ys.sum) (t6 2), Value.int (7 * ys.length) (t6 3), Value.ref D6]), (D6, o6), (e6 0, sumO (ldg ys 0) (u6 0)), (e6 1, sumO (ldg ys 1) (u6 1)), (e6 2, sumO (ldg ys 2) (u6 2)), (e6 3, sumO (ldg ys 3) (u6 3)), (tabA, tabObj ps6)] := news_sub N10 (by
      intro p hp
      simp only [List.mem_cons, List.not_mem_nil, or_false] at hp
      rcases hp with rfl | rfl | rfl | rfl | rfl | rfl | rfl <;> k_mem)
    clear N10
    clear hq1 hq2 hlt9 hlt6 av av' an as_ am aq ha o3 o4
    repeat (rename @LT.lt Nat _ _ _ ∧ _ => xx; clear xx)
    with_unfolding_all refine assignVals F10 (by rfl) (by with_unfolding_all rfl) (by with_unfolding_all rfl) (by decide) (by rfl) (by decide) (by rfl) (by rfl) (by rfl) ?_ (by intro _; with_unfolding_all rfl)
    k_steps
    unfold Stop
    (rename Fr _ _ _ _ => F12)
    (rename News _ _ _ _ => N12)
    refine ⟨_, D6, o6, kv4 e6, #[.ref (e6 0), .ref (e6 1), .ref (e6 2), .ref (e6 3)], _, rfl, rfl, F12, N12, ⟨_, (N12 _ (List.mem_cons_self ..)).1, rfl, rfl⟩, by k_mem, hd6, rfl, Nat.le_of_ble_eq_true rfl, ?_⟩
    rintro s9 ⟨hg9, rfl⟩
    dsimp only
    show LCg.CompRest _ _ _ _ _ _ _ _ _ _ _ _ _ _ _ 4 0 _ _
    (repeat' (first | (k_unfold; (try dsimp only)) | (walk1 <;> (try dsimp only)) | (dsimp only; walk1)))
    unfold Stop
    (rename News _ _ _ _ => N9)
    rename_i ne9 hv9 hx9 off9 Dt90 hh9 FF9 l9
    refine' LCg.CompEnd.intro ?eF (news_rot N9) _ (fun p hp => hp) ?eo ?eS ?_
    (case eF => assumption)
    (case eo => simp only [LCg.Off3, and_true]; exact ⟨⟨Nat.ne_of_gt l9.1, Nat.ne_of_gt l9.2.1, Nat.ne_of_gt l9.2.2.1⟩, off9⟩)
    (case eS => k_mem)
    clear l9 off9 ne9 hv9 hx9
    (repeat' (first | (k_unfold; (try dsimp only)) | (walk1 <;> (try dsimp only)) | (dsimp only; walk1)))
    unfold Stop
    (rename News _ _ _ _ => N9)
    rename_i ne9 hv9 hx9 off9 Dt91 hh9 FF9 l9
    refine' LCg.CompEnd.intro ?eF (news_rot N9) _ (fun p hp => hp) ?eo ?eS ?_
    (case eF => assumption)
    (case eo => simp only [LCg.Off3, and_true]; exact ⟨⟨Nat.ne_of_gt l9.1, Nat.ne_of_gt l9.2.1, Nat.ne_of_gt l9.2.2.1⟩, off9⟩)
    (case eS => k_mem)
    clear l9 off9 ne9 hv9 hx9
    (repeat' (first | (k_unfold; (try dsimp only)) | (walk1 <;> (try dsimp only)) | (dsimp only; walk1)))
    unfold Stop
    (rename News _ _ _ _ => N9)
    rename_i ne9 hv9 hx9 off9 Dt92 hh9 FF9 l9
    refine' LCg.CompEnd.intro ?eF (news_rot N9) _ (fun p hp => hp) ?eo ?eS ?_
    (case eF => assumption)
    (case eo => simp only [LCg.Off3, and_true]; exact ⟨⟨Nat.ne_of_gt l9.1, Nat.ne_of_gt l9.2.1, Nat.ne_of_gt l9.2.2.1⟩, off9⟩)
    (case eS => k_mem)
    clear l9 off9 ne9 hv9 hx9
    (repeat' (first | (k_unfold; (try dsimp only)) | (walk1 <;> (try dsimp only)) | (dsimp only; walk1)))
    unfold Stop
    (rename News _ _ _ _ => N9)
    rename_i ne9 hv9 hx9 off9 Dt93 hh9 FF9 l9
    refine' LCg.CompEnd.intro ?eF (news_rot N9) _ (fun p hp => hp) ?eo ?eS ?_
    (case eF => assumption)
    (case eo => simp only [LCg.Off3, and_true]; exact ⟨⟨Nat.ne_of_gt l9.1, Nat.ne_of_gt l9.2.1, Nat.ne_of_gt l9.2.2.1⟩, off9⟩)
    (case eS => k_mem)
    clear l9 off9 ne9 hv9 hx9
    k_steps
    unfold Stop
    unfold LCg.FinA
    intro DC hC tkC FC NC oC
    dsimp only
    clear oC
    obtain ⟨P, hP1, hP2⟩ : ∃ P : Nat → Nat, (∀ i, (ldg ys i).1.fmod 6 = ((P i : Nat) : Int)) ∧ ∀ i, P i < 6 := ⟨fun i => ((ldg ys i).1.fmod 6).toNat, fun i => (Int.toNat_of_nonneg (Int.fmod_nonneg_of_pos _ (by decide))).symm, fun i => by
      have h1 := Int.fmod_lt_of_pos (ldg ys i).1 (b := 6) (by decide)
      show ((ldg ys i).1.fmod 6).toNat < 6
      omega⟩
    obtain ⟨Q, hQ1, hQ2⟩ : ∃ P : Nat → Nat, (∀ i, (ldg ys i).2.1.fmod 6 = ((P i : Nat) : Int)) ∧ ∀ i, P i < 6 := ⟨fun i => ((ldg ys i).2.1.fmod 6).toNat, fun i => (Int.toNat_of_nonneg (Int.fmod_nonneg_of_pos _ (by decide))).symm, fun i => by
      have h1 := Int.fmod_lt_of_pos (ldg ys i).2.1 (b := 6) (by decide)
      show ((ldg ys i).2.1.fmod 6).toNat < 6
      omega⟩
    obtain ⟨N, hN1, hN2⟩ : ∃ P : Nat → Nat, (∀ i, 7 + (ldg ys i).2.2.fmod 2 = ((P i : Nat) : Int)) ∧ ∀ i, P i = 7 ∨ P i = 8 := ⟨fun i => (7 + (ldg ys i).2.2.fmod 2).toNat, fun i => (Int.toNat_of_nonneg (by
      have h1 := Int.fmod_nonneg_of_pos (ldg ys i).2.2 (b := 2) (by decide)
      omega)).symm, fun i => by
      have h1 := Int.fmod_lt_of_pos (ldg ys i).2.2 (b := 2) (by decide)
      have h2 := Int.fmod_nonneg_of_pos (ldg ys i).2.2 (b := 2) (by decide)
      show (7 + (ldg ys i).2.2.fmod 2).toNat = 7 ∨ (7 + (ldg ys i).2.2.fmod 2).toNat = 8
      omega⟩
    simp only [hP1, hQ1, hN1] at NC
    obtain ⟨c, rfl, rfl, rfl, rfl⟩ : ∃ c : Nat → Addr, c 0 = Dt90 ∧ c 1 = Dt91 ∧ c 2 = Dt92 ∧ c 3 = Dt93 := ⟨fun i => match i with | 0 => Dt90 | 1 => Dt91 | 2 => Dt92 | _ => Dt93, rfl, rfl, rfl, rfl⟩
    obtain ⟨tp, tq, tn, N13⟩ : ∃ (tp tq tn : Nat → Tok), News _ _ _ [(DC, W.listOf (cl4 c).toArray 4), (c 0, cTup P Q N tp tq tn 0), (c 1, cTup P Q N tp tq tn 1), (c 2, cTup P Q N tp tq tn 2), (c 3, cTup P Q N tp tq tn 3), (tabA, tabObj ps6)] := ⟨(fun i => match i with | 0 => _ | 1 => _ | 2 => _ | _ => _), (fun i => match i with | 0 => _ | 1 => _ | 2 => _ | _ => _), (fun i => match i with | 0 => _ | 1 => _ | 2 => _ | _ => _), callersNews NC⟩
    have F13 : Fr (ghostOf s₁.heap [(55, 51)]) s₁.heap.objs.size hC _ := fr_name (x := Str.ofString "callers") (fr_name (x := Str.ofString "total") FC rfl) rfl
    clear NC FC
    repeat (rename @LT.lt Nat _ _ _ ∧ _ => xx; clear xx)
    (repeat' (first | (k_unfold; (try dsimp only)) | (walk1 <;> (try dsimp only)) | (dsimp only; walk1)))
    unfold Stop
    with_unfolding_all refine comp3 F13 (by with_unfolding_all rfl) (by decide) (by rfl) (by decide) (by rfl) (by rfl) (by rfl) (by decide) (by decide) (by decide) ?_ (by intro _; with_unfolding_all rfl)
    (repeat' (first | (k_unfold; (try dsimp only)) | (walk1 <;> (try dsimp only)) | (dsimp only; walk1)))
    unfold Stop
    refine ⟨DC, #[.ref (c 0), .ref (c 1), .ref (c 2), .ref (c 3)], 4, _, c, (fun i => .int (P i : Nat) (tp i)), (fun i => .int (Q i : Nat) (tq i)), (fun i => .int (N i : Nat) (tn i)), (fun i ys' => CarriedAll ys' ((List.range i).map fun j => PyData.str (txt1 (P j) (Q j) (N j)))), rfl, rfl, F13, N13, List.mem_cons_self .., Nat.le_of_ble_eq_true rfl, ?hit, .nil, ?turn2, ?fin2⟩
    (case hit =>
      intro i hi
      match i, hi with
      | 0, _ => exact ⟨rfl, by k_mem⟩
      | 1, _ => exact ⟨rfl, by k_mem⟩
      | 2, _ => exact ⟨rfl, by k_mem⟩
      | 3, _ => exact ⟨rfl, by k_mem⟩)
    (case turn2 =>
      clear F13 N13
      intro i ws2 h8 tk8 I8 oI8 C8 oC8 D8 m8 E8 hi hCar hoC8 h81 h82 h83 F8 N8
      dsimp only at h81 h82 h83
      obtain ⟨x1, x2, x3, x4, x5⟩ := txt_ok (hP2 i) (hQ2 i) (hN2 i)
      have y1 : ((P i : Nat) : Int) < 6 := c6b (hP2 i)
      have y2 : 0 ≤ ((P i : Nat) : Int) := Int.natCast_nonneg _
      have y3 : ((Q i : Nat) : Int) < 6 := c6b (hQ2 i)
      have y4 : 0 ≤ ((Q i : Nat) : Int) := Int.natCast_nonneg _
      have y5 : ((N i : Nat) : Int) = 7 ∨ ((N i : Nat) : Int) = 8 := c78 (hN2 i)
      (repeat' (first | (k_unfold; (try dsimp only)) | (walk1 <;> (try dsimp only)) | (dsimp only; walk1)))
      unfold Stop
      (rename Fr _ _ _ _ => F9)
      (rename News _ _ _ _ => N9)
      refine' SpecV.use (fstd_spec w mg mb _ (Txt.mul (Str.ofString "a") (P i : Nat)) (Txt.mul (Str.ofString "b") (Q i : Nat)) (N i : Nat) _ _ _ x4 x5 y5 x2) ?B F9 ?X N9 ?T ?hk ?hp ?hd ?hu ?_
      (case B => k_asm)
      (case X => k_asm)
      (case T => exact TR)
      (case hk => rfl)
      (case hp => k_mem)
      (case hd => ktr_room)
      (case hu => ktr_units)
      clear F9 N9
      intro t9 h9 tk9 F9 N9
      (repeat' (first | (k_unfold; (try dsimp only)) | (walk1 <;> (try dsimp only)) | (dsimp only; walk1)))
      unfold Stop
      refine End3.intro F9 (news_sub N9 fun p hp => List.mem_cons_of_mem _ hp) ?_
      rw [List.range_succ, List.map_append]
      exact carried_snoc (by assumption) (.str _ _))
    (case fin2 =>
      clear F13 N13
      intro D11 h11 tk11 ws11 hJ11 F11 N11
      dsimp only
      (repeat' (first | (k_unfold; (try dsimp only)) | (walk1 <;> (try dsimp only)) | (dsimp only; walk1)))
      unfold Stop
      with_unfolding_all refine comp3 F11 (by with_unfolding_all rfl) (by decide) (by rfl) (by decide) (by rfl) (by rfl) (by rfl) (by decide) (by decide) (by decide) ?_ (by intro _; with_unfolding_all rfl)
      (repeat' (first | (k_unfold; (try dsimp only)) | (walk1 <;> (try dsimp only)) | (dsimp only; walk1)))
      unfold Stop
      refine ⟨DC, #[.ref (c 0), .ref (c 1), .ref (c 2), .ref (c 3)], 4, _, c, (fun i => .int (P i : Nat) (tp i)), (fun i => .int (Q i : Nat) (tq i)), (fun i => .int (N i : Nat) (tn i)), (fun i ys' => CarriedAll ys' ((List.range i).map fun j => PyData.str (txt1 (P j) (Q j) (N j)))), rfl, rfl, F11, N11, List.mem_cons_of_mem _ (List.mem_cons_self ..), Nat.le_of_ble_eq_true rfl, ?hit2, .nil, ?turn3, ?fin3⟩
      (case hit2 =>
        intro i hi
        match i, hi with
        | 0, _ => exact ⟨rfl, by k_mem⟩
        | 1, _ => exact ⟨rfl, by k_mem⟩
        | 2, _ => exact ⟨rfl, by k_mem⟩
        | 3, _ => exact ⟨rfl, by k_mem⟩)
      (case turn3 =>
        clear F11 N11
        intro i ws2 h8 tk8 I8 oI8 C8 oC8 D8 m8 E8 hi hCar hoC8 h81 h82 h83 F8 N8
        dsimp only at h81 h82 h83
        obtain ⟨x1, x2, x3, x4, x5⟩ := txt_ok (hP2 i) (hQ2 i) (hN2 i)
        have y1 : ((P i : Nat) : Int) < 6 := c6b (hP2 i)
        have y2 : 0 ≤ ((P i : Nat) : Int) := Int.natCast_nonneg _
        have y3 : ((Q i : Nat) : Int) < 6 := c6b (hQ2 i)
        have y4 : 0 ≤ ((Q i : Nat) : Int) := Int.natCast_nonneg _
        rcases hN2 i with hn | hn
        · rw [hn] at h83
          change m8 _ = some (.int 7 _) at h83
          (repeat' (first | (k_unfold; (try dsimp only)) | (walk1 <;> (try dsimp only)) | (dsimp only; walk1)))
          unfold Stop
          (rename News _ _ _ _ => N9)
          refine End3.intro (by assumption) N9 ?_
          rw [List.range_succ, List.map_append]
          refine carried_snoc hCar ?_
          dsimp only
          rw [← x3]
          unfold txt2
          rw [if_pos hn]
          exact .str _ _
        · rw [hn] at h83
          change m8 _ = some (.int 8 _) at h83
          (repeat' (first | (k_unfold; (try dsimp only)) | (walk1 <;> (try dsimp only)) | (dsimp only; walk1)))
          unfold Stop
          (rename News _ _ _ _ => N9)
          refine End3.intro (by assumption) N9 ?_
          rw [List.range_succ, List.map_append]
          refine carried_snoc hCar ?_
          dsimp only
          rw [← x3]
          unfold txt2
          rw [if_neg (by omega)]
          exact .str _ _)
      (case fin3 =>
        clear F11 N11
        intro D12 h12 tk12 ws12 hJ12 F12 N12
        dsimp only
        (repeat' (first | (k_unfold; (try dsimp only)) | (walk1 <;> (try dsimp only)) | (dsimp only; walk1)))
        unfold Stop
        k_dflt (refine' ne_dataH (reads_newData ⟨_, (N12 _ (List.mem_cons_of_mem _ (List.mem_cons_self ..))).1, rfl, _, rfl⟩ hJ11) (reads_newData ⟨_, (N12 _ (List.mem_cons_self ..)).1, rfl, _, rfl⟩ hJ12) ?sa ?sb ?u ?_)
        (case sa => exact shaped4 (txt_ok (hP2 0) (hQ2 0) (hN2 0)).1 (txt_ok (hP2 1) (hQ2 1) (hN2 1)).1 (txt_ok (hP2 2) (hQ2 2) (hN2 2)).1 (txt_ok (hP2 3) (hQ2 3) (hN2 3)).1)
        (case sb => exact shaped4 (txt_ok (hP2 0) (hQ2 0) (hN2 0)).1 (txt_ok (hP2 1) (hQ2 1) (hN2 1)).1 (txt_ok (hP2 2) (hQ2 2) (hN2 2)).1 (txt_ok (hP2 3) (hQ2 3) (hN2 3)).1)
        (case u => ktr_units)
        have hq3 : ∀ n : Nat, n = 4 → (PyData.list ((List.range n).map fun j => PyData.str (txt1 (P j) (Q j) (N j)))).eqv (PyData.list ((List.range n).map fun j => PyData.str (txt1 (P j) (Q j) (N j)))) = true := by
          rintro n rfl
          exact eqv4 _ _ _ _
        rw [hq3 (#[Value.ref (c 0), Value.ref (c 1), Value.ref (c 2), Value.ref (c 3)] : Array Value).size rfl]
        clear hJ11 hJ12
        (repeat' (first | (k_unfold; (try dsimp only)) | (walk1 <;> (try dsimp only)) | (dsimp only; walk1)))
        unfold Stop
        (rename Fr _ _ _ _ => F14)
        (rename News _ _ _ _ => N14)
        have htot := sum_bnd ys hybnd
        refine' SpecV.use (matches_spec w mg mb DC 4 c P Q N tp tq tn ys.sum t5 (fun i _ => hP2 i) (fun i _ => hQ2 i) (fun i _ => hN2 i) htot.1 (by omega)) ?B F14 ?X N14 ?T ?hk ?hp ?hd ?hu ?_
        (case B => k_asm)
        (case X => k_asm)
        (case T => exact TR)
        (case hk => rfl)
        (case hp =>
          refine ⟨by k_mem, fun i hi => ?_⟩
          match i, hi with
          | 0, _ => k_mem
          | 1, _ => k_mem
          | 2, _ => k_mem
          | 3, _ => k_mem)
        (case hd => ktr_room)
        (case hu => ktr_units)
        clear F14 N14
        intro t15 h15 tk15 F15 N15
        (repeat' (first | (k_unfold; (try dsimp only)) | (walk1 <;> (try dsimp only)) | (dsimp only; walk1)))
        unfold Stop
        (rename Fr _ _ _ _ => F14)
        (rename News _ _ _ _ => N14)
        refine' SpecV.use (near_spec w mg mb DC 4 c P Q N tp tq tn ys.sum t5 (fun i _ => hP2 i) (fun i _ => hQ2 i) (fun i _ => hN2 i) htot.1 (by omega)) ?B F14 ?X N14 ?T ?hk ?hp ?hd ?hu ?_
        (case B => k_asm)
        (case X => k_asm)
        (case T => exact TR)
        (case hk => rfl)
        (case hp =>
          refine ⟨by k_mem, fun i hi => ?_⟩
          match i, hi with
          | 0, _ => k_mem
          | 1, _ => k_mem
          | 2, _ => k_mem
          | 3, _ => k_mem)
        (case hd => ktr_room)
        (case hu => ktr_units)
        clear F14 N14
        intro t16 h16 tk16 F16 N16
        (repeat' (first | (k_unfold; (try dsimp only)) | (walk1 <;> (try dsimp only)) | (dsimp only; walk1)))
        unfold Stop
        exact ⟨rfl, F16.keep, rfl, hgb6, GrownAt.of N16 (by k_mem), True.intro⟩))))
end Mine
end
theorem PySem.Challenge.cw_pe0143_01_holds : PySem.Challenge.rw_pe0143_01.Holds := by
  exact Mine.law_holds
