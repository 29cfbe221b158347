import PyProof.Rows.All
import Wide.All
import OpenK.AllK
import Wide.FinOn
import Lean
import PySem.Challenge.RW_tl0018_01
open PySem PySem.W PyProof.Rows PySem.Calls PySem.Spec
set_option Elab.async false
set_option linter.all false
set_option maxRecDepth 100000
set_option compiler.extract_closed false
namespace Mine
section
noncomputable def vw : Program := view PySem.Challenge.pw_tl0018_01 [1, 2, 3, 4, 5, 6, 8, 9, 10, 11, 12, 13, 14, 16, 17, 18, 19, 20, 21, 22, 23, 24, 26, 27, 28, 29, 30, 31]
noncomputable def lv : List (PySem.Str × WData) := [(Str.ofString "ONE_THIRD", WData.float 4599676419421066581), (Str.ofString "ONE_SIXTH", WData.float 4595172819793696085), (Str.ofString "TWO_THIRD", WData.float 4604180019048437077)]
theorem law_said : PySem.Challenge.rw_tl0018_01.wellSaid = true := (congrFun PySem.W.Fast.te9446332074065402090 _).trans (by kernel_rfl)
theorem law_ok : (chainsOk vw && opensWell PySem.Challenge.pw_tl0018_01 && (frees (OpenRow.toRowW (OpenLaw.row PySem.Challenge.rw_tl0018_01)) && (OpenLaw.row PySem.Challenge.rw_tl0018_01).within.isEmpty)) = true := by kernel_rfl
theorem law_bare : (OpenLaw.row PySem.Challenge.rw_tl0018_01).prog.bare := ⟨rfl, rfl, rfl, rfl, rfl, by decide +kernel⟩
local macro_rules | `(tactic| o_law) => `(tactic| refine holds_law law_said fun said => ?_)
theorem headUse {H : Hook} {d : DefRec} {kwd : List (PySem.Str × PySem.Expr)} (h1 : defOf vw (OpenLaw.row PySem.Challenge.rw_tl0018_01).name = some (d, kwd)) (h2 : (OpenLaw.row PySem.Challenge.rw_tl0018_01).prog.theDef (OpenLaw.row PySem.Challenge.rw_tl0018_01).name = some (d.params, d.body, d.scope)) (h3 : kwWritten? d.params.kwonlyargs d.params.kw_defaults = some kwd) (k1 : (OpenLaw.row PySem.Challenge.rw_tl0018_01).wellSaid = true)
    (hl : LeftO (OpenLaw.row PySem.Challenge.rw_tl0018_01).prog vw [Str.ofString "ONE_THIRD", Str.ofString "ONE_SIXTH", Str.ofString "TWO_THIRD"] (fun s => xlAt vw lv s && recOk (RowW.records (OpenRow.toRowW (OpenLaw.row PySem.Challenge.rw_tl0018_01))) s) H.obs H.val 1830) (hw : (OpenLaw.row PySem.Challenge.rw_tl0018_01).toRowW.promised)
    (hc : WalkO vw [Str.ofString "ONE_THIRD", Str.ofString "ONE_SIXTH", Str.ofString "TWO_THIRD"] (XL vw lv) H.says (OpenLaw.row PySem.Challenge.rw_tl0018_01).toRowW d kwd fun f vs => PySem.call f vs) : (OpenLaw.row PySem.Challenge.rw_tl0018_01).Holds :=
  holds_open hl H.of H.keeps (fun s e => xl_of s (Bool.and_eq_true_iff.mp e).1) XL.keeps h1 h2 h3 (fun s e => recFacts_of (Bool.and_eq_true_iff.mp e).2) (by rfl) k1 law_ok law_bare hw hc
local macro_rules | `(tactic| o_head $H) => `(tactic| (refine headUse (H := $H) (by rfl) (by rfl) (by rfl) (by assumption) (by ((show ∀ w, _ = _); intro w; unfold openEnds fencedOpening topFrom; rw [PySem.W.Fast.te10274390034422433532, PySem.W.Fast.te14289696077712309145, PySem.W.Fast.te4187177175401517315, PySem.W.Fast.te14082659384304107361, PySem.W.Fast.te14364793385576792824, PySem.W.Fast.te1435165496053646825]; kernel_rfl)) ?hw ?hc))
set_option maxRecDepth 100000 in
set_option maxHeartbeats 8000000 in
open_top hd for PySem.Challenge.rw_tl0018_01
end
theorem topOff : True := by
  w_top off
  trivial
theorem an1 {a b : Prop} (h : a ∧ b) : a := h.1
theorem and4 {a1 a2 a3 a4 P : Prop} (h : a1 ∧ a2 ∧ a3 ∧ a4) (k : a1 → a2 → a3 → a4 → P) : P := k h.1 h.2.1 h.2.2.1 h.2.2.2
theorem and5 {a1 a2 a3 a4 a5 P : Prop} (h : a1 ∧ a2 ∧ a3 ∧ a4 ∧ a5) (k : a1 → a2 → a3 → a4 → a5 → P) : P := k h.1 h.2.1 h.2.2.1 h.2.2.2.1 h.2.2.2.2
theorem and6 {a1 a2 a3 a4 a5 a6 P : Prop} (h : a1 ∧ a2 ∧ a3 ∧ a4 ∧ a5 ∧ a6) (k : a1 → a2 → a3 → a4 → a5 → a6 → P) : P := k h.1 h.2.1 h.2.2.1 h.2.2.2.1 h.2.2.2.2.1 h.2.2.2.2.2
theorem and8 {a1 a2 a3 a4 a5 a6 a7 a8 P : Prop} (h : a1 ∧ a2 ∧ a3 ∧ a4 ∧ a5 ∧ a6 ∧ a7 ∧ a8) (k : a1 → a2 → a3 → a4 → a5 → a6 → a7 → a8 → P) : P := k h.1 h.2.1 h.2.2.1 h.2.2.2.1 h.2.2.2.2.1 h.2.2.2.2.2.1 h.2.2.2.2.2.2.1 h.2.2.2.2.2.2.2
theorem and9 {a1 a2 a3 a4 a5 a6 a7 a8 a9 P : Prop} (h : a1 ∧ a2 ∧ a3 ∧ a4 ∧ a5 ∧ a6 ∧ a7 ∧ a8 ∧ a9) (k : a1 → a2 → a3 → a4 → a5 → a6 → a7 → a8 → a9 → P) : P := k h.1 h.2.1 h.2.2.1 h.2.2.2.1 h.2.2.2.2.1 h.2.2.2.2.2.1 h.2.2.2.2.2.2.1 h.2.2.2.2.2.2.2.1 h.2.2.2.2.2.2.2.2
theorem and12 {a1 a2 a3 a4 a5 a6 a7 a8 a9 a10 a11 a12 P : Prop} (h : a1 ∧ a2 ∧ a3 ∧ a4 ∧ a5 ∧ a6 ∧ a7 ∧ a8 ∧ a9 ∧ a10 ∧ a11 ∧ a12) (k : a1 → a2 → a3 → a4 → a5 → a6 → a7 → a8 → a9 → a10 → a11 → a12 → P) : P := k h.1 h.2.1 h.2.2.1 h.2.2.2.1 h.2.2.2.2.1 h.2.2.2.2.2.1 h.2.2.2.2.2.2.1 h.2.2.2.2.2.2.2.1 h.2.2.2.2.2.2.2.2.1 h.2.2.2.2.2.2.2.2.2.1 h.2.2.2.2.2.2.2.2.2.2.1 h.2.2.2.2.2.2.2.2.2.2.2
theorem anS {a b : Prop} (h : a ∧ b) : b := h.2
local macro_rules | `(tactic| walk_at "LTA") => `(tactic| first | ((iterate 40 (first | done | with_reducible assumption | apply anS)); done) | (apply an1; (iterate 40 (first | done | with_reducible assumption | apply anS)); done))
local macro_rules | `(tactic| walk_at "OM") => `(tactic| first | ((with_reducible show @LT.lt Nat _ _ _); walk_at "LTA") | lia | omega)
local macro_rules | `(tactic| walk_at "NEQ") => `(tactic| first | exact Nat.ne_of_lt (by walk_at "LTA") | exact Nat.ne_of_gt (by walk_at "LTA") | lia | omega)
local macro_rules | `(tactic| k_ne) => `(tactic| (refine neN ?_; (try dsimp only); walk_at "NEQ"))
local macro_rules | `(tactic| size_fits) => `(tactic| exact Nat.le_of_ble_eq_true rfl)
local macro_rules | `(tactic| l_bnd) => `(tactic| first | with_reducible assumption | decide)
abbrev Kp (h h' : Heap) : Prop := ∀ b o, h.get? b = some o → h'.get? b = some o
noncomputable def Rm (n : Nat) (A : Around) : Prop := A.handled = none ∧ A.depth + n < recursionLimit ∧ A.units + 8 * n < cLine
theorem Rm.mono {n m : Nat} {A : Around} (h : Rm m A) (hl : n ≤ m) : Rm n A := ⟨h.1, by have := h.2.1; walk_at "OM", by have := h.2.2; walk_at "OM"⟩
theorem Rm.deep {n m : Nat} {A : Around} {env : Env} (h : Rm m A) (hl : n + 1 ≤ m) : Rm n (A.deeper env) := by
  obtain ⟨h1, h2, h3⟩ := h
  refine ⟨h1, ?_, ?_⟩
  · show A.depth + 1 + n < _; walk_at "OM"
  · show A.units + 3 + 8 * n < _; walk_at "OM"
theorem Rm.in1 {n m : Nat} {A : Around} (h : Rm m A) (hl : n + 1 ≤ m) : Rm n A.in1 := by
  obtain ⟨h1, h2, h3⟩ := h
  refine ⟨h1, ?_, ?_⟩
  · show A.depth + n < _; walk_at "OM"
  · show A.units + 1 + 8 * n < _; walk_at "OM"
theorem Rm.room {n : Nat} {A : Around} (h : Rm n A) : A.depth < recursionLimit := Nat.lt_of_le_of_lt (Nat.le_add_right _ _) h.2.1
theorem frKp {h₀ h h' : Heap} {L : Addr} {m : Str → Option Value} (F : Fr h₀ L h m) (k : Kp h h') : Fr h₀ L h' m := ⟨F.ns.keeps k, fun b o e => k b o (F.keep b o e), F.above⟩
theorem newsKp {h₀ h h' : Heap} {L : Addr} {news : List (Addr × Obj)} (N : News h₀ L h news) (k : Kp h h') : News h₀ L h' news := fun p hp => ⟨k _ _ (N p hp).1, (N p hp).2⟩
theorem newsAdd {h₀ h h' : Heap} {L l : Addr} {o : Obj} {m : Str → Option Value} {news : List (Addr × Obj)} (F : Fr h₀ L h m) (N : News h₀ L h' news) (hn : h.get? l = none) (e : h'.get? l = some o) : News h₀ L h' ((l, o) :: news) := fun p hp => by
  rcases List.mem_cons.mp hp with rfl | hp
  · refine ⟨e, fun q => ?_, ?_⟩
    · obtain ⟨o', _, _, e', _⟩ := F.ns
      have q' : l = L := q
      rw [q', e'] at hn; cases hn
    · cases q : h₀.get? l with
      | none => rfl
      | some o' => rw [F.keep _ _ q] at hn; cases hn
  · exact N p hp

theorem frSize {h₀ h : Heap} {L : Addr} {m : Str → Option Value} (F : Fr h₀ L h m) : h₀.objs.size ≤ h.objs.size := Nat.le_trans F.above (Nat.le_of_lt F.ns.lt)
theorem newsNew {h₀ h h' : Heap} {L l : Addr} {o : Obj} {m : Str → Option Value} {news : List (Addr × Obj)} (F : Fr h₀ L h m) (N : News h₀ L h news) (k : Kp h h') (hs : h.objs.size ≤ l) (e : h'.get? l = some o) : News h₀ L h' ((l, o) :: news) :=
  newsAdd F (newsKp N k) (Heap.get?_none_of_le hs) e
theorem newsLt {h₀ h : Heap} {L l : Addr} {news : List (Addr × Obj)} (N : News h₀ L h news) (hs : h.objs.size ≤ l) : ∀ p ∈ news, p.1 < l := fun p hp => Nat.lt_of_lt_of_le (Heap.lt_size (N p hp).1) hs
section
variable {prog : Program} {w : World} {A : Around} {E : Value → Shared → Prop} {s : Shared} {K : Frag} {p : Program} {loose : List Str} {mean : ExcName → Option Value} {mg mb : Str → Option Value} {Q : Value → Shared → Prop}
  {name qual : Str} {params : Arguments} {body : List Stmt} {scope : Scope} {dV kV doc pm cdv ct oc : Value} {an od : Option Addr} {osl : Array (Option Value)} {f : Addr} {vs : List Value} {binds : List (Str × Value)}

theorem enterK (X : K.In s.heap) (T : Top p loose mean mg mb s.heap)
    (ho : K.lookup f = some ⟨oc, od, .func (fnOf name qual params body scope dV kV doc pm an cdv ct), osl⟩) (hcd : codeIn K cdv qual = true) (hroom : A.depth < recursionLimit)
    (hbind : BindsTo s (fnOf name qual params body scope dV kV doc pm an cdv ct) ⟨vs, []⟩ binds) (hloc : ∀ y ∈ binds, scope.names.lookup y.1 = some .local)
    (hco : scope.isCoroutine = false) (hgen : scope.isGenerator = false) (hk : scope.kind = .function)
    (hcell : ∀ x ∈ scope.names, x.2 ≠ .cell)
    (h : ∀ L' h₁, Fr s.heap L' h₁ (fun y => binds.reverse.lookup y) → News s.heap L' h₁ [] →
      wpAny (model prog w) (A.deeper (envOf qual scope L' f cdv)) (execs body (envOf qual scope L' f cdv))
        (fun fl s' => Q (match fl with | .ret v => v | _ => .none) s') (fun _ _ => False)
        { s with heap := h₁, toks := s.toks + binds.length }) :
    wpAny (model prog w) A (call (.ref f) vs) Q E s := by
  refine wpAny_call (codeAny_call_def (fd := fnOf name qual params body scope dV kV doc pm an cdv ct) (body := body) (binds := binds) hroom (X _ _ ho) rfl T.nolimit (codeRec_of X hcd) rfl hbind hcell hloc (fun h₁ hns hk₁ => ?_) hco hgen hk)
  exact wpAny_mono (h _ h₁ ⟨hns, hk₁, Nat.le_refl _⟩ News.nil) (fun _ _ x => x) (fun _ _ x => x.elim)
end
theorem divii {prog : Program} {w : World} {A : Around} {E : Value → Shared → Prop} {s : Shared} {a b : Int} {t u : Tok} {Q : Value → Shared → Prop} (hA : A.handled = none) (hb : b ≠ 0) (hfit : a.natAbs < 2 ^ 1023)
    (h : Q (.float (Float64.ofFrac (decide (a < 0) != decide (b < 0)) a.natAbs b.natAbs) s.toks) { s with toks := s.toks + 1 }) : wpAny (model prog w) A (binaryOp .Div (.int a t) (.int b u)) Q E s :=
  Flt.div_ii_fits hA hfit (fun e => absurd e hb) (fun _ _ => h)
theorem range1F {prog : Program} {w : World} {A : Around} {E : Value → Shared → Prop} {s : Shared} {h₀ : Heap} {L : Addr} {m : Str → Option Value} {n : Int} {t : Tok} {news : List (Addr × Obj)} {Q : Value → Shared → Prop} (F : Fr h₀ L s.heap m) (N : News h₀ L s.heap news)
    (h : ∀ h', IsRange h' s.heap.objs.size 0 n 1 s.toks t (s.toks + 1) → Fr h₀ L h' m → News h₀ L h' news → Q (.ref s.heap.objs.size) { s with heap := h', toks := s.toks + 1 + 1 }) :
    wpAny (model prog w) A (call (.type "range") [.int n t]) Q E s :=
  call_range_1 (h _ (IsRange.new ..) (F.push _) (fun p hp => ⟨Heap.get?_push_of_some _ (N p hp).1, (N p hp).2⟩))
theorem range2F {prog : Program} {w : World} {A : Around} {E : Value → Shared → Prop} {s : Shared} {h₀ : Heap} {L : Addr} {m : Str → Option Value} {a b : Int} {t u : Tok} {news : List (Addr × Obj)} {Q : Value → Shared → Prop} (F : Fr h₀ L s.heap m) (N : News h₀ L s.heap news)
    (h : ∀ h', IsRange h' s.heap.objs.size a b 1 t u s.toks → Fr h₀ L h' m → News h₀ L h' news → Q (.ref s.heap.objs.size) { s with heap := h', toks := s.toks + 1 }) :
    wpAny (model prog w) A (call (.type "range") [.int a t, .int b u]) Q E s :=
  call_range_2 (h _ (IsRange.new ..) (F.push _) (fun p hp => ⟨Heap.get?_push_of_some _ (N p hp).1, (N p hp).2⟩))
theorem item_any {prog : Program} {w : World} {A : Around} {E : Value → Shared → Prop} {s : Shared} {value slice : PySem.Expr} {l : Addr} {items : Array Value} {k : Int} {u : Tok} {v : Value} {Q : Value → Shared → Prop}
    (hl : s.heap.IsList l items) (h0 : 0 ≤ k) (hhi : k < 2 ^ 63) (hx : items[k.toNat]? = some v) (h : Q v s)
    (hs : subscripted slice false (.ref l) (.int k u) = operate [.ref l, .int k u] (getItem (.ref l) (.int k u)) := by with_unfolding_all rfl) :
    wpAny (model prog w) A (subscriptTail value slice (.ref l) (.int k u)) Q E s :=
  tail_any hl.typeIs slot_list_getitem.lookup (wpAny_getItem_list hl h0 hhi hx h) hs
theorem truediv_nz {prog : Program} {w : World} {A : Around} {E : Value → Shared → Prop} {s : Shared} {a b : UInt64} {t u : Tok} {Q : Value → Shared → Prop} (hA : A.handled = none) (hb : ¬ Float64.isZero b = true)
    (h : Q (.float (Float64.div a b) s.toks) { s with toks := s.toks + 1 }) : wpAny (model prog w) A (binaryOp .Div (.float a t) (.float b u)) Q E s :=
  truediv_float_or hA (fun e => absurd e hb) (fun _ => h)
section
variable {prog : Program} {w : World} {A : Around} {E : Value → Shared → Prop} {Q : Value → Shared → Prop} {h : Heap} {g : Array GenState} {d : Drawn} {k : Nat} {o : OsState} {a b : Int} {t u : Tok}
theorem constN {i : Int} {kk : Nat} {pos : Pos} {env : Env} (q : Q (.int i k) ⟨h, g, d, k + 1, o⟩) : wpAny (model prog w) A (eval (.Constant (.int i) kk pos) env) Q E ⟨h, g, d, k, o⟩ := wpAny_Constant_int q
theorem addN (q : Q (.int (a + b) k) ⟨h, g, d, k + 1, o⟩) : wpAny (model prog w) A (binaryOp .Add (.int a t) (.int b u)) Q E ⟨h, g, d, k, o⟩ := add_int q
theorem subN (q : Q (.int (a - b) k) ⟨h, g, d, k + 1, o⟩) : wpAny (model prog w) A (binaryOp .Sub (.int a t) (.int b u)) Q E ⟨h, g, d, k, o⟩ := PyProof.Rows.sub_int' q
theorem iaddN (q : Q (.int (a + b) k) ⟨h, g, d, k + 1, o⟩) : wpAny (model prog w) A (inplaceOp .Add (.int a t) (.int b u)) Q E ⟨h, g, d, k, o⟩ := iadd_int q
theorem isubN (q : Q (.int (a - b) k) ⟨h, g, d, k + 1, o⟩) : wpAny (model prog w) A (inplaceOp .Sub (.int a t) (.int b u)) Q E ⟨h, g, d, k, o⟩ := PyProof.Rows.isub_int q
theorem mulN (q : Q (.int (a * b) k) ⟨h, g, d, k + 1, o⟩) (hm : IntMulOk a b) : wpAny (model prog w) A (binaryOp .Mult (.int a t) (.int b u)) Q E ⟨h, g, d, k, o⟩ := mul_int q hm
theorem modN (hb : b ≠ 0) (q : Q (.int (a.fmod b) k) ⟨h, g, d, k + 1, o⟩) : wpAny (model prog w) A (binaryOp .Mod (.int a t) (.int b u)) Q E ⟨h, g, d, k, o⟩ := mod_int' hb q
theorem constP {n : Nat} {i : Int} {kk : Nat} {pos : Pos} {env : Env} (q : Q (.int i (k + n)) ⟨h, g, d, k + (n + 1), o⟩) : wpAny (model prog w) A (eval (.Constant (.int i) kk pos) env) Q E ⟨h, g, d, k + n, o⟩ := wpAny_Constant_int q
theorem addP {n : Nat} (q : Q (.int (a + b) (k + n)) ⟨h, g, d, k + (n + 1), o⟩) : wpAny (model prog w) A (binaryOp .Add (.int a t) (.int b u)) Q E ⟨h, g, d, k + n, o⟩ := add_int q
theorem subP {n : Nat} (q : Q (.int (a - b) (k + n)) ⟨h, g, d, k + (n + 1), o⟩) : wpAny (model prog w) A (binaryOp .Sub (.int a t) (.int b u)) Q E ⟨h, g, d, k + n, o⟩ := PyProof.Rows.sub_int' q
theorem iaddP {n : Nat} (q : Q (.int (a + b) (k + n)) ⟨h, g, d, k + (n + 1), o⟩) : wpAny (model prog w) A (inplaceOp .Add (.int a t) (.int b u)) Q E ⟨h, g, d, k + n, o⟩ := iadd_int q
theorem isubP {n : Nat} (q : Q (.int (a - b) (k + n)) ⟨h, g, d, k + (n + 1), o⟩) : wpAny (model prog w) A (inplaceOp .Sub (.int a t) (.int b u)) Q E ⟨h, g, d, k + n, o⟩ := PyProof.Rows.isub_int q
theorem mulP {n : Nat} (q : Q (.int (a * b) (k + n)) ⟨h, g, d, k + (n + 1), o⟩) (hm : IntMulOk a b) : wpAny (model prog w) A (binaryOp .Mult (.int a t) (.int b u)) Q E ⟨h, g, d, k + n, o⟩ := mul_int q hm
theorem modP {n : Nat} (hb : b ≠ 0) (q : Q (.int (a.fmod b) (k + n)) ⟨h, g, d, k + (n + 1), o⟩) : wpAny (model prog w) A (binaryOp .Mod (.int a t) (.int b u)) Q E ⟨h, g, d, k + n, o⟩ := mod_int' hb q
end
local macro_rules | `(tactic| walk_at "MYENTER") => `(tactic| (
  refine' enterK (by assumption) (by assumption) ?k6 ?k7 ?k8 ?k9 ?kB ?c2 ?c3 ?c4 ?c5 ?_
  (case k6 => k_is); (case k7 => k_is); (case k8 => exact Rm.room (by assumption)); (case k9 => exact BindsTo.of_eq rfl); (case c5 => decide); (case kB => exact locs rfl); (case c2 => exact rfl); (case c3 => exact rfl); (case c4 => exact rfl)
  k_whole
  intro L' h' F' N'
  (try dsimp only [List.length_cons, List.length_nil])
  (try k_fold)))
local macro_rules | `(tactic| walk_at "MYRM") => `(tactic| first | with_reducible assumption | (refine Rm.mono (by with_reducible assumption) ?_; decide) | (refine Rm.deep (by with_reducible assumption) ?_; decide) | (refine Rm.in1 (Rm.deep (n := 10) (by with_reducible assumption) (by decide)) ?_; decide))
local macro_rules | `(tactic| walk_at "binaryOp Mult int int") => `(tactic| first | refine mulP ?_ (by assumption) | refine mulN ?_ (by assumption))
local macro_rules | `(tactic| walk_at "binaryOp Mod int int") => `(tactic| first | refine modP (by assumption) ?_ | refine modN (by assumption) ?_)
local macro_rules | `(tactic| walk_at "inplaceOp Pow int int") => `(tactic| (refine ipow_int (by assumption) (by assumption) ?_))
local macro_rules | `(tactic| walk_at "binaryOp Div float float") => `(tactic| (refine truediv_nz rfl (by first | with_reducible assumption | decide +kernel) ?_))
local macro_rules | `(tactic| walk_at "ite") => `(tactic| first | (rw [if_pos (by with_reducible assumption)]) | (rw [if_neg (ne_true_of_eq_false (by with_reducible assumption))]))
local macro_rules | `(tactic| walk_at "MYK") => `(tactic| ((rename Kp _ _ => k9); (have F9 := frKp (by assumption) k9); (have N9 := newsKp (by assumption) k9); (try dsimp only); (try k_fold)))
local macro_rules | `(tactic| walk_at "MYTOP") => `(tactic| exact Top.keeps (by assumption) (Fr.keep (by assumption)))
local macro_rules | `(tactic| walk_at "execs cons") => `(tactic| (refine wpAny_execs_cons ?_))
local macro_rules | `(tactic| walk_at "execs nil") => `(tactic| (refine wpAny_execs_nil ?_))
local macro_rules | `(tactic| walk_at "eval Constant int") => `(tactic| first | refine constP ?_ | refine constN ?_)
local macro_rules | `(tactic| walk_at "binaryOp Add int int") => `(tactic| first | refine addP ?_ | refine addN ?_)
local macro_rules | `(tactic| walk_at "binaryOp Sub int int") => `(tactic| first | refine subP ?_ | refine subN ?_)
local macro_rules | `(tactic| walk_at "inplaceOp Add int int") => `(tactic| first | refine iaddP ?_ | refine iaddN ?_)
local macro_rules | `(tactic| walk_at "inplaceOp Sub int int") => `(tactic| first | refine isubP ?_ | refine isubN ?_)
local macro_rules | `(tactic| walk_at "T5") => `(tactic| (intro t9 h9 tk9 K9 htk9; (try dsimp only at htk9); walk_at "MYK"))
section
variable {w : World} {p : Program} {loose : List Str} {mean : ExcName → Option Value} {mg mb : Str → Option Value} {A : Around} {s : Shared} {Q E : Value → Shared → Prop}
set_option maxHeartbeats 4000000 in
theorem c_add (hA : Rm 1 A) (X : (hd.heap_1 w.params).In s.heap) (T : Top p loose mean mg mb s.heap)
    {a b : Int} {t u : Tok} (ret : ∀ t h' tk', Kp s.heap h' → Q (.int (a + b) t) { s with heap := h', toks := tk' }) :
    wpAny (model PySem.Challenge.rw_tl0018_01.row.prog w) A (call (.ref 84) [.int a t, .int b u]) Q E s := by
  obtain ⟨hdl, dp, fr, gd, un⟩ := A
  obtain rfl : hdl = none := hA.1
  revert X; k_fill; intro X
  walk_at "MYENTER"
  k_steps
  all_goals exact ret _ _ _ (Fr.keep (by assumption))
set_option maxHeartbeats 4000000 in
theorem c_sub (hA : Rm 1 A) (X : (hd.heap_1 w.params).In s.heap) (T : Top p loose mean mg mb s.heap)
    {a b : Int} {t u : Tok} (ret : ∀ t h' tk', Kp s.heap h' → Q (.int (a - b) t) { s with heap := h', toks := tk' }) :
    wpAny (model PySem.Challenge.rw_tl0018_01.row.prog w) A (call (.ref 105) [.int a t, .int b u]) Q E s := by
  obtain ⟨hdl, dp, fr, gd, un⟩ := A
  obtain rfl : hdl = none := hA.1
  revert X; k_fill; intro X
  walk_at "MYENTER"
  k_steps
  all_goals exact ret _ _ _ (Fr.keep (by assumption))
set_option maxHeartbeats 4000000 in
theorem c_mul (hA : Rm 1 A) (X : (hd.heap_1 w.params).In s.heap) (T : Top p loose mean mg mb s.heap)
    {a b : Int} {t u : Tok} (hm : IntMulOk a b) (ret : ∀ t h' tk', Kp s.heap h' → Q (.int (a * b) t) { s with heap := h', toks := tk' }) :
    wpAny (model PySem.Challenge.rw_tl0018_01.row.prog w) A (call (.ref 98) [.int a t, .int b u]) Q E s := by
  obtain ⟨hdl, dp, fr, gd, un⟩ := A
  obtain rfl : hdl = none := hA.1
  revert X; k_fill; intro X
  walk_at "MYENTER"
  k_steps
  all_goals exact ret _ _ _ (Fr.keep (by assumption))
set_option maxHeartbeats 4000000 in
theorem c_mod (hA : Rm 1 A) (X : (hd.heap_1 w.params).In s.heap) (T : Top p loose mean mg mb s.heap)
    {a b : Int} {t u : Tok} (hb : b ≠ 0) (ret : ∀ t h' tk', Kp s.heap h' → Q (.int (a.fmod b) t) { s with heap := h', toks := tk' }) :
    wpAny (model PySem.Challenge.rw_tl0018_01.row.prog w) A (call (.ref 91) [.int a t, .int b u]) Q E s := by
  obtain ⟨hdl, dp, fr, gd, un⟩ := A
  obtain rfl : hdl = none := hA.1
  revert X; k_fill; intro X
  walk_at "MYENTER"
  k_steps
  all_goals exact ret _ _ _ (Fr.keep (by assumption))
set_option maxHeartbeats 4000000 in
theorem c_ipow (hA : Rm 1 A) (X : (hd.heap_1 w.params).In s.heap) (T : Top p loose mean mg mb s.heap)
    {a b : Int} {t u : Tok} (hn : 0 ≤ b) (hsz : (Builtin.Int.intBits a : Int) * b ≤ 2 ^ 27) (ret : ∀ t h' tk', Kp s.heap h' → Q (.int (a ^ b.toNat) t) { s with heap := h', toks := tk' }) :
    wpAny (model PySem.Challenge.rw_tl0018_01.row.prog w) A (call (.ref 140) [.int a t, .int b u]) Q E s := by
  obtain ⟨hdl, dp, fr, gd, un⟩ := A
  obtain rfl : hdl = none := hA.1
  revert X; k_fill; intro X
  walk_at "MYENTER"
  k_steps
  all_goals exact ret _ _ _ (Fr.keep (by assumption))
set_option maxHeartbeats 4000000 in
theorem c_getitem (hA : Rm 1 A) (X : (hd.heap_1 w.params).In s.heap) (T : Top p loose mean mg mb s.heap)
    {l : Addr} {items : Array Value} {k : Int} {u : Tok} {v : Value} (hl : s.heap.IsList l items) (h0 : 0 ≤ k) (hk : k < 2 ^ 63) (hx : items[k.toNat]? = some v) (ret : ∀ h' tk', Kp s.heap h' → Q v { s with heap := h', toks := tk' }) :
    wpAny (model PySem.Challenge.rw_tl0018_01.row.prog w) A (call (.ref 119) [.ref l, .int k u]) Q E s := by
  obtain ⟨hdl, dp, fr, gd, un⟩ := A
  obtain rfl : hdl = none := hA.1
  revert X; k_fill; intro X
  walk_at "MYENTER"
  k_steps
  all_goals (refine item_any (hl.at fun o e => Fr.keep (by assumption) l o e) h0 hk hx ?_; exact ret _ _ (Fr.keep (by assumption)))
end
inductive EnumInv0 (e it l : Addr) (items : Array Value) (inv : Nat → Heap → Prop) (s : Shared) (k : Nat) (s' : Shared) : Prop
  | mk (h' : Heap) (tk i : Nat) (old : Value) (q0 : s' = { s with heap := h', toks := tk }) (q1 : IsEnum h' e it ((i : Nat) : Int) old) (q2 : h'.IsListIter it l i) (q3 : inv i h') (q4 : i ≤ items.size) (q5 : k = items.size + 1 - i) : EnumInv0 e it l items inv s k s'
inductive ForListInv (h₀ : Heap) (L l : Addr) (items : Array Value) (J : Nat → Nat → (Str → Option Value) → List (Addr × Obj) → Prop) (s : Shared) (k : Nat) (s' : Shared) : Prop
  | mk (h' : Heap) (tk i : Nat) (m' : Str → Option Value) (news' : List (Addr × Obj)) (q0 : s' = { s with heap := h', toks := tk }) (q1 : s.toks ≤ tk) (q2 : h'.IsListIter s.heap.objs.size l i) (q3 : Fr h₀ L h' m') (q4 : News h₀ L h' news') (q5 : J i tk m' news') (q6 : i ≤ items.size) (q7 : k = items.size + 1 - i) : ForListInv h₀ L l items J s k s'
inductive ForRangeInv (h₀ : Heap) (L : Addr) (a c : Int) (n : Nat) (J : Nat → Nat → (Str → Option Value) → List (Addr × Obj) → Prop) (s : Shared) (k : Nat) (s' : Shared) : Prop
  | mk (h' : Heap) (tk i : Nat) (m' : Str → Option Value) (news' : List (Addr × Obj)) (q0 : s' = { s with heap := h', toks := tk }) (q1 : s.toks ≤ tk) (q2 : IsRangeIter h' s.heap.objs.size (a + (i : Nat) * c) ((n : Int) - (i : Nat)) c) (q3 : Fr h₀ L h' m') (q4 : News h₀ L h' news') (q5 : J i tk m' news') (q6 : i ≤ n) (q7 : k = n + 1 - i) : ForRangeInv h₀ L a c n J s k s'
theorem frEq {h₀ h : Heap} {L : Addr} {m m' : Str → Option Value} (F : Fr h₀ L h m) (e : ∀ y, m y = m' y) : Fr h₀ L h m' := by
  have : m = m' := funext e
  exact this ▸ F
theorem frStab2 {h₀ h h' : Heap} {L e it : Addr} {m : Str → Option Value} (F : Fr h₀ L h m) (he : L < e) (hi : L < it) (k : ∀ b o, b ≠ e → b ≠ it → h.get? b = some o → h'.get? b = some o) : Fr h₀ L h' m :=
  ⟨F.ns.at' fun o x => k L o (Nat.ne_of_lt he) (Nat.ne_of_lt hi) x, fun b o x => by
    have hb : b < L := Nat.lt_of_lt_of_le (Heap.lt_size x) F.above
    exact k b o (Nat.ne_of_lt (Nat.lt_trans hb he)) (Nat.ne_of_lt (Nat.lt_trans hb hi)) (F.keep b o x), F.above⟩
theorem frStab {h₀ h h' : Heap} {L it : Addr} {m : Str → Option Value} (F : Fr h₀ L h m) (hi : L < it) (k : ∀ b o, b ≠ it → h.get? b = some o → h'.get? b = some o) : Fr h₀ L h' m :=
  frStab2 F hi hi fun b o h1 _ x => k b o h1 x
theorem newsStab {h₀ h h' : Heap} {L it : Addr} {news : List (Addr × Obj)} (N : News h₀ L h news) (hn : ∀ p ∈ news, p.1 ≠ it) (k : ∀ b o, b ≠ it → h.get? b = some o → h'.get? b = some o) : News h₀ L h' news :=
  fun p hp => ⟨k _ _ (hn p hp) (N p hp).1, (N p hp).2⟩
section
variable {prog : Program} {w : World} {A : Around} {E : Value → Shared → Prop} {s : Shared}
theorem never_noted {α : Type} {R : Value → Shared → Prop} {t : Sem α} {Q : α → Shared → Prop} (h : wpAny (model prog w) A t Q (fun _ _ => False) s) : wpAny (model prog w) A t Q R s :=
  wpAny_mono h (fun _ _ x => x) fun _ _ x => x.elim

noncomputable def LoopEnd (s : Shared) (inv : Heap → Prop) (R : Result → Shared → Prop) (f : Flow) (s₃ : Shared) : Prop := match f with
  | .next | .cont => ∃ h' tk', s₃ = { s with heap := h', toks := tk' } ∧ inv h'
  | .brk => R (.ok .next) s₃
  | .ret v => R (.ok (.ret v)) s₃

theorem loop_range {R : Result → Shared → Prop} {x : Str} {px : Pos} {body : List Stmt} {env : Env} {I : Addr} {a c : Int} {n : Nat} (inv : Nat → Heap → Prop)
    (hh : A.handled = none)
    (stab : ∀ i h h', inv i h → (∀ b o, b ≠ I → h.get? b = some o → h'.get? b = some o) → inv i h')
    (hit : IsRangeIter s.heap I a n c) (h0 : inv 0 s.heap)
    (turn : ∀ i h tk, i < n → inv i h → IsRangeIter h I (a + ((i + 1 : Nat) : Int) * c) ((n : Int) - ((i + 1 : Nat) : Int)) c →
      wpAny (model prog w) A (storeName env x (.int (a + (i : Int) * c) tk)) (fun _ s₂ => wpAny (model prog w) A (execs body env)
        (LoopEnd s (fun h' => inv (i + 1) h' ∧ IsRangeIter h' I (a + ((i + 1 : Nat) : Int) * c) ((n : Int) - ((i + 1 : Nat) : Int)) c) R) (fun _ _ => False) s₂) (fun _ _ => False) { s with heap := h, toks := tk + 1 })
    (done : ∀ h tk, inv n h → R (.ok .next) { s with heap := h, toks := tk }) :
    codeAny (model prog w) A (.forLoop (.Name x px) (.ref I) body [] env) R s := by
  refine codeAny_forLoop
    (fun k s' => ∃ h' tk i, s' = { s with heap := h', toks := tk } ∧ IsRangeIter h' I (a + (i : Nat) * c) ((n : Int) - (i : Nat)) c ∧ inv i h' ∧ i ≤ n ∧ k = n + 1 - i) ?_ (n + 1) ⟨s.heap, s.toks, 0, rfl, by simpa using hit, h0, Nat.zero_le _, rfl⟩
  rintro k s' ⟨h', tk, i, rfl, hit', hJ, hi, rfl⟩
  by_cases hlt : i < n
  · refine wpAny_pyNext_range_item hit' (by walk_at "OM") fun h₁ hit₁ hs₁ => ?_
    have e1 : a + ((i + 1 : Nat) : Int) * c = a + (i : Int) * c + c := by push_cast; rw [Int.add_mul, Int.one_mul, Int.add_assoc]
    have e2 : (n : Int) - ((i + 1 : Nat) : Int) = (n : Int) - (i : Int) - 1 := by push_cast; walk_at "OM"
    refine wpAny_assign_Name (never_noted (wpAny_mono (turn i h₁ tk hlt (stab i _ _ hJ fun b o hb e => hs₁.extBut b o hb e) (by rw [e1, e2]; exact hit₁)) (fun _ s₂ h₂ => never_noted (wpAny_mono h₂ (fun f s₃ h₃ => ?_) fun _ _ e => e)) fun _ _ e => e))
    cases f with
    | next =>
      obtain ⟨h', tk', rfl, h4, h5⟩ := h₃
      exact ⟨n + 1 - (i + 1), by walk_at "OM", h', tk', i + 1, rfl, h5, h4, hlt, rfl⟩
    | cont =>
      obtain ⟨h', tk', rfl, h4, h5⟩ := h₃
      exact ⟨n + 1 - (i + 1), by walk_at "OM", h', tk', i + 1, rfl, h5, h4, hlt, rfl⟩
    | brk => exact h₃
    | ret v => exact h₃
  · have hin : i = n := by walk_at "OM"
    subst hin
    refine wpAny_pyNext_range_end hh hit' (by walk_at "OM") fun h₁ he₁ => wpAny_execs_nil ?_
    exact done h₁ tk (stab i _ _ hJ fun b o hb e => he₁ b o hb e)

theorem loop_list {R : Result → Shared → Prop} {x : Str} {px : Pos} {body : List Stmt} {env : Env} {I l : Addr} {items : Array Value} (inv : Nat → Heap → Prop)
    (hh : A.handled = none)
    (stab : ∀ i h h', inv i h → (∀ b o, b ≠ I → h.get? b = some o → h'.get? b = some o) → inv i h') (hl : ∀ i h, inv i h → h.IsList l items)
    (hit : s.heap.IsListIter I l 0) (h0 : inv 0 s.heap)
    (turn : ∀ i v h tk, items[i]? = some v → inv i h → h.IsListIter I l (i + 1) →
      wpAny (model prog w) A (storeName env x v) (fun _ s₂ => wpAny (model prog w) A (execs body env)
        (LoopEnd s (fun h' => inv (i + 1) h' ∧ h'.IsListIter I l (i + 1)) R) (fun _ _ => False) s₂) (fun _ _ => False) { s with heap := h, toks := tk })
    (done : ∀ h tk, inv items.size h → R (.ok .next) { s with heap := h, toks := tk }) :
    codeAny (model prog w) A (.forLoop (.Name x px) (.ref I) body [] env) R s := by
  refine codeAny_forLoop
    (fun k s' => ∃ h' tk i, s' = { s with heap := h', toks := tk } ∧ h'.IsListIter I l i ∧ inv i h' ∧ i ≤ items.size ∧ k = items.size + 1 - i) ?_ (items.size + 1) ⟨s.heap, s.toks, 0, rfl, hit, h0, Nat.zero_le _, rfl⟩
  rintro k s' ⟨h', tk, i, rfl, hit', hJ, hi, rfl⟩
  cases hv : items[i]? with
  | none =>
    have hsz : i = items.size := Nat.le_antisymm hi (by simpa using hv)
    refine wpAny_pyNext_list_end hh hit' (hl i _ hJ) hv fun h₁ he₁ => wpAny_execs_nil ?_
    exact done h₁ tk (hsz ▸ stab i _ _ hJ fun b o hb e => he₁ b o hb e)
  | some v =>
    have hlt : i < items.size := (Array.getElem?_eq_some_iff.mp hv).1
    refine wpAny_pyNext_list_item hit' (hl i _ hJ) hv fun h₁ hit₁ hs₁ => ?_
    refine wpAny_assign_Name (never_noted (wpAny_mono (turn i v h₁ tk hv (stab i _ _ hJ fun b o hb e => hs₁.extBut b o hb e) hit₁) (fun _ s₂ h₂ => never_noted (wpAny_mono h₂ (fun f s₃ h₃ => ?_) fun _ _ e => e)) fun _ _ e => e))
    cases f with
    | next =>
      obtain ⟨h', tk', rfl, h4, h5⟩ := h₃
      exact ⟨items.size + 1 - (i + 1), by walk_at "OM", h', tk', i + 1, rfl, h5, h4, hlt, rfl⟩
    | cont =>
      obtain ⟨h', tk', rfl, h4, h5⟩ := h₃
      exact ⟨items.size + 1 - (i + 1), by walk_at "OM", h', tk', i + 1, rfl, h5, h4, hlt, rfl⟩
    | brk => exact h₃
    | ret v => exact h₃

theorem loop_enum {R : Result → Shared → Prop} {xi xv : Str} {pi pv pt : Pos} {x1} {body : List Stmt} {env : Env} {e it l : Addr} {items : Array Value} (inv : Nat → Heap → Prop)
    (hh : A.handled = none) (hei : e ≠ it)
    (stab : ∀ i h h', inv i h → (∀ b o, b ≠ e → b ≠ it → h.get? b = some o → h'.get? b = some o) → inv i h') (hl : ∀ i h, inv i h → h.IsList l items)
    (he : IsEnum s.heap e it 0 .none) (hit : s.heap.IsListIter it l 0) (h0 : inv 0 s.heap)
    (turn : ∀ i v h tk, items[i]? = some v → inv i h → IsEnum h e it ((i + 1 : Nat) : Int) v → h.IsListIter it l (i + 1) →
      wpAny (model prog w) A (storeName env xi (.int i tk)) (fun _ s₁ => wpAny (model prog w) A (storeName env xv v) (fun _ s₂ => wpAny (model prog w) A (execs body env)
        (LoopEnd s (fun h' => inv (i + 1) h' ∧ IsEnum h' e it ((i + 1 : Nat) : Int) v ∧ h'.IsListIter it l (i + 1)) R) (fun _ _ => False) s₂) (fun _ _ => False) s₁) (fun _ _ => False) { s with heap := h, toks := tk + 1 })
    (orelse : List Stmt) (hor : ∀ h tk, inv items.size h → wpAny (model prog w) A (execs orelse env) (fun f s₃ => R (.ok f) s₃) (fun _ _ => False) { s with heap := h, toks := tk }) :
    codeAny (model prog w) A (.forLoop (.Tuple [.Name xi pi, .Name xv pv] x1 pt) (.ref e) body orelse env) R s := by
  refine codeAny_forLoop_any
    (fun k s' => EnumInv0 e it l items inv s k s') ?_ (items.size + 1)
    ⟨s.heap, s.toks, 0, .none, rfl, he, hit, h0, Nat.zero_le _, rfl⟩
  rintro k s' ⟨H, tk, i, old, rfl, he', hit', hJ, hi, rfl⟩
  have hl' := hl i _ hJ
  cases hv : items[i]? with
  | none =>
    have hsz : i = items.size := Nat.le_antisymm hi (by simpa using hv)
    refine wpAny_pyNext_enum_end hh he' hit' hl' hv fun h₁ he₁ => never_noted (hor h₁ tk (hsz ▸ stab i _ _ hJ fun b o _ hb e => he₁ b o hb e))
  | some v =>
    have hlt : i < items.size := (Array.getElem?_eq_some_iff.mp hv).1
    have heH : e < H.objs.size := Heap.lt_size he'
    obtain ⟨oi, hoi, _⟩ := id hit'
    obtain ⟨ol, hol, _⟩ := id hl'
    have hiH : it < H.objs.size := Heap.lt_size hoi
    refine wpAny_pyNext_enum_item he' hit' hl' hv hei fun h₁ heo hit₁ ht₁ hz₁ hk₁ => ?_
    refine wpAny_letOwnedTupleGo_enum heo fun h₂ he₂ hs₂ => ?_
    replace hs₂ : Heap.SameBut e h₁ h₂ := hs₂
    have ht₂ : h₂.IsTuple H.objs.size #[.int i tk, v] := ⟨_, (hs₂.2 _ (Nat.ne_of_gt heH)).trans ht₁, rfl, _, rfl⟩
    have hz₂ : h₂.objs.size = H.objs.size + 1 := hs₂.1.trans hz₁
    refine wpAny_assign_Tuple hh ht₂ rfl rfl fun h₃ hx₃ => ?_
    replace hx₃ : Heap.ExtBut h₂.objs.size h₂ h₃ := hx₃
    have old₃ : ∀ b o, b < H.objs.size → h₂.get? b = some o → h₃.get? b = some o := fun b o hb x => hx₃ b o (by rw [hz₂]; exact Nat.ne_of_lt (Nat.lt_succ_of_lt hb)) x
    have inv₃ : inv i h₃ := stab i _ _ hJ fun b o hbe hbi x => old₃ b o (Heap.lt_size x) (hs₂.extBut b o hbe (hk₁ b o hbe hbi x))
    have he₃ : IsEnum h₃ e it ((i + 1 : Nat) : Int) v := by
      have : ((i + 1 : Nat) : Int) = (i : Int) + 1 := by push_cast; rfl
      rw [this]; exact old₃ e _ heH he₂
    have hit₃ : h₃.IsListIter it l (i + 1) := (hit₁.extBut hs₂.extBut (Ne.symm hei)).at fun o x => old₃ it o hiH x
    show wpAny _ A (do holding [v] (assign (.Name xi pi) env (.int i tk)); do holding [] (assign (.Name xv pv) env v); pure ()) _ _ _
    refine wpAny_bind (wpAny_holding (wpAny_assign_Name (never_noted (wpAny_mono (turn i v h₃ tk hv inv₃ he₃ hit₃) (fun _ s₄ h₄ => ?_) fun _ _ e => e))))
    refine wpAny_bind (wpAny_holding (wpAny_assign_Name (never_noted (wpAny_mono h₄ (fun _ s₅ h₅ => wpAny_pure (never_noted (wpAny_mono h₅ (fun f s₃ h₆ => ?_) fun _ _ e => e))) fun _ _ e => e))))
    cases f with
    | next =>
      obtain ⟨h', tk', rfl, h4, h5, h6⟩ := h₆
      exact ⟨items.size + 1 - (i + 1), by walk_at "OM", h', tk', i + 1, v, rfl, h5, h6, h4, hlt, rfl⟩
    | cont =>
      obtain ⟨h', tk', rfl, h4, h5, h6⟩ := h₆
      exact ⟨items.size + 1 - (i + 1), by walk_at "OM", h', tk', i + 1, v, rfl, h5, h6, h4, hlt, rfl⟩
    | brk => exact h₆
    | ret v => exact h₆
end
section
variable {prog : Program} {w : World} {A : Around} {E : Value → Shared → Prop} {s : Shared} {env : Env} {h₀ : Heap}
abbrev upd (x : Str) (v : Value) (m : Str → Option Value) : Str → Option Value := fun y => if y = x then some v else m y
noncomputable def EndJ (h₀ : Heap) (L I : Addr) (oi : Obj) (J : Nat → (Str → Option Value) → List (Addr × Obj) → Prop) (s : Shared) (Q : Flow → Shared → Prop) (f : Flow) (s₃ : Shared) : Prop := match f with
  | .next | .cont => ∃ h' tk' m' news', s₃ = { s with heap := h', toks := tk' } ∧ Fr h₀ L h' m' ∧ News h₀ L h' ((I, oi) :: news') ∧ J tk' m' news'
  | .brk => Q .next s₃
  | .ret v => Q (.ret v) s₃
theorem newsCons {h : Heap} {L a : Addr} {o : Obj} {news : List (Addr × Obj)} (e : h.get? a = some o) (hL : a ≠ L) (h0 : h₀.get? a = none) (N : News h₀ L h news) : News h₀ L h ((a, o) :: news) := fun p hp => by
  rcases List.mem_cons.mp hp with rfl | hp
  · exact ⟨e, hL, h0⟩
  · exact N p hp
theorem newsTail {h : Heap} {L : Addr} {q : Addr × Obj} {news : List (Addr × Obj)} (N : News h₀ L h (q :: news)) : News h₀ L h news := fun p hp => N p (List.mem_cons_of_mem _ hp)
theorem newsHead {h : Heap} {L a : Addr} {o : Obj} {news : List (Addr × Obj)} (N : News h₀ L h ((a, o) :: news)) : h.get? a = some o := (N _ (List.mem_cons_self ..)).1
theorem fresh_ge {h : Heap} {L a : Addr} {m : Str → Option Value} (F : Fr h₀ L h m) (ha : L < a) : h₀.get? a = none := by
  cases q : h₀.get? a with
  | none => rfl
  | some o => exact absurd (Nat.lt_of_lt_of_le (Heap.lt_size q) F.above) (Nat.lt_asymm ha)
theorem newsNe {h : Heap} {L a : Addr} {o : Obj} {news : List (Addr × Obj)} {T : String} (N : News h₀ L h news) (e : h.get? a = some o) (hc : o.cls = .type T) (hn : ∀ p ∈ news, p.2.cls ≠ .type T) : ∀ p ∈ news, p.1 ≠ a := fun p hp q => by
  have := (N p hp).1
  rw [q, e] at this
  exact hn p hp ((Option.some.inj this) ▸ hc)

theorem for_list_F {Q : Flow → Shared → Prop} {x : Str} {px : Pos} {body : List Stmt} {l : Addr} {items : Array Value} {m : Str → Option Value} {news : List (Addr × Obj)}
    (J : Nat → Nat → (Str → Option Value) → List (Addr × Obj) → Prop) (mono : ∀ i t t' m' news', J i t m' news' → t ≤ t' → J i t' m' news')
    (hh : A.handled = none) (F : Fr h₀ env.locals s.heap m) (N : News h₀ env.locals s.heap news)
    (hl0 : s.heap.IsList l items)
    (hl : ∀ i t m' news' h, J i t m' news' → Fr h₀ env.locals h m' → News h₀ env.locals h news' → h.IsList l items)
    (hcls : ∀ i t m' news', J i t m' news' → ∀ p ∈ news', p.2.cls ≠ .type "list_iterator") (h0 : J 0 s.toks m news)
    (turn : ∀ i v m' news' h tk oi, items[i]? = some v → J i tk m' news' → s.toks ≤ tk → oi.cls = .type "list_iterator" → Fr h₀ env.locals h (upd x v m') → News h₀ env.locals h ((s.heap.objs.size, oi) :: news') →
      wpAny (model prog w) A (execs body env) (EndJ h₀ env.locals s.heap.objs.size oi (J (i + 1)) s Q) (fun _ _ => False) { s with heap := h, toks := tk })
    (done : ∀ m' news' h tk, J items.size tk m' news' → s.toks ≤ tk → Fr h₀ env.locals h m' → News h₀ env.locals h news' → Q .next { s with heap := h, toks := tk })
    (hx : env.kindOf x = some .local := by rfl) (hp : (env.scope.kind == .class || (env.scope.kind == .module && env.locals != env.globals)) = false := by rfl) :
    wpAny (model prog w) A (pyIter (.ref l)) (fun it s₂ => codeAny (model prog w) A (.forLoop (.Name x px) it body [] env) (fun r s' => match r with | .ok f => Q f s' | .error e => cameBackBy (model prog w) A env E e s') s₂) E s := by
  refine wpAny_pyIter_list hl0 ?_
  have hLt := F.ns.lt
  refine codeAny_forLoop
    (fun k s' => ForListInv h₀ env.locals l items J s k s') ?_ (items.size + 1)
    ⟨_, s.toks, 0, m, news, rfl, Nat.le_refl _, ⟨_, Heap.get?_push_size _ rfl, rfl, rfl⟩, F.push _, newsKp N (fun b o e => Heap.get?_push_of_some _ e), h0, Nat.zero_le _, rfl⟩
  rintro k s' ⟨h', tk, i, m', news', rfl, htk, hit', F', N', hJ, hi, rfl⟩
  have hl' := hl i tk m' news' h' hJ F' N'
  obtain ⟨o0, ho0, hc0, hd0⟩ := id hit'
  have hne := newsNe N' ho0 hc0 (hcls i _ _ _ hJ)
  cases hv : items[i]? with
  | none =>
    have hsz : i = items.size := Nat.le_antisymm hi (by simpa using hv)
    refine wpAny_pyNext_list_end hh hit' hl' hv fun h₁ he₁ => wpAny_execs_nil ?_
    exact done m' news' h₁ tk (hsz ▸ hJ) htk (frStab F' hLt fun b o hb e => he₁ b o hb e) (newsStab N' hne fun b o hb e => he₁ b o hb e)
  | some v =>
    have hlt : i < items.size := (Array.getElem?_eq_some_iff.mp hv).1
    refine wpAny_pyNext_list_item hit' hl' hv fun h₁ hit₁ hs₁ => ?_
    replace hs₁ : Heap.SameBut _ h' h₁ := hs₁
    have F₁ := frStab F' hLt fun b o hb e => hs₁.extBut b o hb e
    have N₁ := newsStab N' hne fun b o hb e => hs₁.extBut b o hb e
    obtain ⟨oi, hoi, hc, hd⟩ := hit₁
    have N₂ := newsCons hoi (Nat.ne_of_gt hLt) (fresh_ge F hLt) N₁
    refine wpAny_assign_Name (wpAny_storeName_local hx F₁.ns (fun h₂ hn₂ hs₂ => ?_) hp)
    replace hs₂ : Heap.SameBut _ h₁ h₂ := hs₂
    refine wpAny_with_toks (n := s.toks) (Nat.le_succ_of_le htk) (never_noted (wpAny_mono (turn i v m' news' h₂ (tk + 1) oi hv (mono _ _ _ _ _ hJ (Nat.le_succ _)) (Nat.le_succ_of_le htk) hc (F₁.set hn₂ hs₂) (N₂.set hs₂)) (fun f s₃ h₃ htk₃ => ?_) fun _ _ e => e))
    cases f with
    | next =>
      obtain ⟨h3, tk', m3, news3, rfl, F3, N3, J3⟩ := h₃
      exact ⟨items.size + 1 - (i + 1), by walk_at "OM", h3, tk', i + 1, m3, news3, rfl, htk₃, ⟨oi, newsHead N3, hc, hd⟩, F3, newsTail N3, J3, hlt, rfl⟩
    | cont =>
      obtain ⟨h3, tk', m3, news3, rfl, F3, N3, J3⟩ := h₃
      exact ⟨items.size + 1 - (i + 1), by walk_at "OM", h3, tk', i + 1, m3, news3, rfl, htk₃, ⟨oi, newsHead N3, hc, hd⟩, F3, newsTail N3, J3, hlt, rfl⟩
    | brk => exact h₃
    | ret v => exact h₃

theorem for_range_F {Q : Flow → Shared → Prop} {x : Str} {px : Pos} {body : List Stmt} {r : Addr} {a b c : Int} {t u v : Tok} {n : Nat} {m : Str → Option Value} {news : List (Addr × Obj)}
    (J : Nat → Nat → (Str → Option Value) → List (Addr × Obj) → Prop) (mono : ∀ i t t' m' news', J i t m' news' → t ≤ t' → J i t' m' news')
    (hh : A.handled = none) (F : Fr h₀ env.locals s.heap m) (N : News h₀ env.locals s.heap news)
    (hr : IsRange s.heap r a b c t u v) (hsmall : Builtin.Range.small a b c = true) (hn : Builtin.Range.rangeSize a b c = n)
    (hcls : ∀ i t m' news', J i t m' news' → ∀ p ∈ news', p.2.cls ≠ .type "range_iterator") (h0 : J 0 s.toks m news)
    (turn : ∀ (i : Nat) tk0 m' news' h tk oi, i < n → J i tk0 m' news' → s.toks ≤ tk0 → tk0 < tk → oi.cls = .type "range_iterator" → Fr h₀ env.locals h (upd x (.int (a + i * c) tk0) m') → News h₀ env.locals h ((s.heap.objs.size, oi) :: news') →
      wpAny (model prog w) A (execs body env) (EndJ h₀ env.locals s.heap.objs.size oi (J (i + 1)) s Q) (fun _ _ => False) { s with heap := h, toks := tk })
    (done : ∀ m' news' h tk, J n tk m' news' → s.toks ≤ tk → Fr h₀ env.locals h m' → News h₀ env.locals h news' → Q .next { s with heap := h, toks := tk })
    (hx : env.kindOf x = some .local := by rfl) (hp : (env.scope.kind == .class || (env.scope.kind == .module && env.locals != env.globals)) = false := by rfl) :
    wpAny (model prog w) A (pyIter (.ref r)) (fun it s₂ => codeAny (model prog w) A (.forLoop (.Name x px) it body [] env) (fun r s' => match r with | .ok f => Q f s' | .error e => cameBackBy (model prog w) A env E e s') s₂) E s := by
  refine wpAny_pyIter_range hr hsmall ?_
  have hLt := F.ns.lt
  refine codeAny_forLoop
    (fun k s' => ForRangeInv h₀ env.locals a c n J s k s') ?_ (n + 1)
    ⟨_, s.toks, 0, m, news, rfl, Nat.le_refl _, by simpa [hn] using Heap.get?_push_size _ rfl, F.push _, newsKp N (fun b o e => Heap.get?_push_of_some _ e), h0, Nat.zero_le _, rfl⟩
  rintro k s' ⟨h', tk, i, m', news', rfl, htk, hit', F', N', hJ, hi, rfl⟩
  have hne := newsNe N' hit' rfl (hcls i _ _ _ hJ)
  by_cases hlt : i < n
  · refine wpAny_pyNext_range_item hit' (by walk_at "OM") fun h₁ hit₁ hs₁ => ?_
    replace hs₁ : Heap.SameBut _ h' h₁ := hs₁
    have F₁ := frStab F' hLt fun b o hb e => hs₁.extBut b o hb e
    have N₁ := newsStab N' hne fun b o hb e => hs₁.extBut b o hb e
    have N₂ := newsCons hit₁ (Nat.ne_of_gt hLt) (fresh_ge F hLt) N₁
    have e1 : a + ((i + 1 : Nat) : Int) * c = a + (i : Int) * c + c := by push_cast; rw [Int.add_mul, Int.one_mul, Int.add_assoc]
    have e2 : (n : Int) - ((i + 1 : Nat) : Int) = (n : Int) - (i : Int) - 1 := by push_cast; walk_at "OM"
    refine wpAny_assign_Name (wpAny_storeName_local hx F₁.ns (fun h₂ hn₂ hs₂ => ?_) hp)
    replace hs₂ : Heap.SameBut _ h₁ h₂ := hs₂
    refine wpAny_with_toks (n := s.toks) (Nat.le_succ_of_le (Nat.le_succ_of_le htk)) (never_noted (wpAny_mono (turn i tk m' news' h₂ (tk + 1 + 1) _ hlt hJ htk (by walk_at "OM") rfl (F₁.set hn₂ hs₂) (N₂.set hs₂)) (fun f s₃ h₃ htk₃ => ?_) fun _ _ e => e))
    cases f with
    | next =>
      obtain ⟨h3, tk', m3, news3, rfl, F3, N3, J3⟩ := h₃
      exact ⟨n + 1 - (i + 1), by walk_at "OM", h3, tk', i + 1, m3, news3, rfl, htk₃, by rw [e1, e2]; exact newsHead N3, F3, newsTail N3, J3, hlt, rfl⟩
    | cont =>
      obtain ⟨h3, tk', m3, news3, rfl, F3, N3, J3⟩ := h₃
      exact ⟨n + 1 - (i + 1), by walk_at "OM", h3, tk', i + 1, m3, news3, rfl, htk₃, by rw [e1, e2]; exact newsHead N3, F3, newsTail N3, J3, hlt, rfl⟩
    | brk => exact h₃
    | ret v => exact h₃
  · have hin : i = n := by walk_at "OM"
    subst hin
    refine wpAny_pyNext_range_end hh hit' (by walk_at "OM") fun h₁ he₁ => wpAny_execs_nil ?_
    exact done m' news' h₁ tk hJ htk (frStab F' hLt fun b o hb e => he₁ b o hb e) (newsStab N' hne fun b o hb e => he₁ b o hb e)
end
section
variable {prog : Program} {w : World} {A : Around} {E : Value → Shared → Prop} {s : Shared} {env : Env} {h₀ : Heap}
theorem for_range_N {Q : Flow → Shared → Prop} {x : Str} {px : Pos} {body : List Stmt} {r : Addr} {a b c : Int} {t u v : Tok} {n : Nat} {m : Str → Option Value} {news : List (Addr × Obj)}
    (J : Nat → Nat → (Str → Option Value) → List (Addr × Obj) → Prop) (mono : ∀ i t t' m' news', J i t m' news' → t ≤ t' → J i t' m' news')
    (hh : A.handled = none) (F : Fr h₀ env.locals s.heap m) (N : News h₀ env.locals s.heap news)
    (hr : IsRange s.heap r a b c t u v) (hsmall : Builtin.Range.small a b c = true) (hn : Builtin.Range.rangeSize a b c = n)
    (hcls : ∀ i t m' news', J i t m' news' → ∀ p ∈ news', p.1 ≠ s.heap.objs.size) (h0 : J 0 s.toks m news)
    (turn : ∀ (i : Nat) tk0 m' news' h tk oi, i < n → J i tk0 m' news' → s.toks ≤ tk0 → tk0 < tk → oi.cls = .type "range_iterator" → Fr h₀ env.locals h (upd x (.int (a + i * c) tk0) m') → News h₀ env.locals h ((s.heap.objs.size, oi) :: news') →
      wpAny (model prog w) A (execs body env) (EndJ h₀ env.locals s.heap.objs.size oi (J (i + 1)) s Q) (fun _ _ => False) { s with heap := h, toks := tk })
    (done : ∀ m' news' h tk, J n tk m' news' → s.toks ≤ tk → Fr h₀ env.locals h m' → News h₀ env.locals h news' → Q .next { s with heap := h, toks := tk })
    (hx : env.kindOf x = some .local := by rfl) (hp : (env.scope.kind == .class || (env.scope.kind == .module && env.locals != env.globals)) = false := by rfl) :
    wpAny (model prog w) A (pyIter (.ref r)) (fun it s₂ => codeAny (model prog w) A (.forLoop (.Name x px) it body [] env) (fun r s' => match r with | .ok f => Q f s' | .error e => cameBackBy (model prog w) A env E e s') s₂) E s := by
  refine wpAny_pyIter_range hr hsmall ?_
  have hLt := F.ns.lt
  refine codeAny_forLoop
    (fun k s' => ForRangeInv h₀ env.locals a c n J s k s') ?_ (n + 1)
    ⟨_, s.toks, 0, m, news, rfl, Nat.le_refl _, by simpa [hn] using Heap.get?_push_size _ rfl, F.push _, newsKp N (fun b o e => Heap.get?_push_of_some _ e), h0, Nat.zero_le _, rfl⟩
  rintro k s' ⟨h', tk, i, m', news', rfl, htk, hit', F', N', hJ, hi, rfl⟩
  have hne := hcls i _ _ _ hJ
  by_cases hlt : i < n
  · refine wpAny_pyNext_range_item hit' (by walk_at "OM") fun h₁ hit₁ hs₁ => ?_
    replace hs₁ : Heap.SameBut _ h' h₁ := hs₁
    have F₁ := frStab F' hLt fun b o hb e => hs₁.extBut b o hb e
    have N₁ := newsStab N' hne fun b o hb e => hs₁.extBut b o hb e
    have N₂ := newsCons hit₁ (Nat.ne_of_gt hLt) (fresh_ge F hLt) N₁
    have e1 : a + ((i + 1 : Nat) : Int) * c = a + (i : Int) * c + c := by push_cast; rw [Int.add_mul, Int.one_mul, Int.add_assoc]
    have e2 : (n : Int) - ((i + 1 : Nat) : Int) = (n : Int) - (i : Int) - 1 := by push_cast; walk_at "OM"
    refine wpAny_assign_Name (wpAny_storeName_local hx F₁.ns (fun h₂ hn₂ hs₂ => ?_) hp)
    replace hs₂ : Heap.SameBut _ h₁ h₂ := hs₂
    refine wpAny_with_toks (n := s.toks) (Nat.le_succ_of_le (Nat.le_succ_of_le htk)) (never_noted (wpAny_mono (turn i tk m' news' h₂ (tk + 1 + 1) _ hlt hJ htk (by walk_at "OM") rfl (F₁.set hn₂ hs₂) (N₂.set hs₂)) (fun f s₃ h₃ htk₃ => ?_) fun _ _ e => e))
    cases f with
    | next =>
      obtain ⟨h3, tk', m3, news3, rfl, F3, N3, J3⟩ := h₃
      exact ⟨n + 1 - (i + 1), by walk_at "OM", h3, tk', i + 1, m3, news3, rfl, htk₃, by rw [e1, e2]; exact newsHead N3, F3, newsTail N3, J3, hlt, rfl⟩
    | cont =>
      obtain ⟨h3, tk', m3, news3, rfl, F3, N3, J3⟩ := h₃
      exact ⟨n + 1 - (i + 1), by walk_at "OM", h3, tk', i + 1, m3, news3, rfl, htk₃, by rw [e1, e2]; exact newsHead N3, F3, newsTail N3, J3, hlt, rfl⟩
    | brk => exact h₃
    | ret v => exact h₃
  · have hin : i = n := by walk_at "OM"
    subst hin
    refine wpAny_pyNext_range_end hh hit' (by walk_at "OM") fun h₁ he₁ => wpAny_execs_nil ?_
    exact done m' news' h₁ tk hJ htk (frStab F' hLt fun b o hb e => he₁ b o hb e) (newsStab N' hne fun b o hb e => he₁ b o hb e)
end
structure IntsT (T : Nat) (vs : List Value) (ns : List Int) : Prop where
  len : vs.length = ns.length
  get : ∀ (i : Nat) (n : Int), ns[i]? = some n → ∃ t, vs[i]? = some (Value.int n t) ∧ 0 < t ∧ t < T
structure IntsV (vs : List Value) (ns : List Int) : Prop where
  len : vs.length = ns.length
  get : ∀ (i : Nat) (n : Int), ns[i]? = some n → ∃ t, vs[i]? = some (Value.int n t)
theorem IntsV.nil : IntsV [] [] := ⟨rfl, fun i n e => by simp at e⟩
theorem IntsV.snoc {vs : List Value} {ns : List Int} {n : Int} {t : Tok} (h : IntsV vs ns) : IntsV (vs ++ [.int n t]) (ns ++ [n]) := by
  refine ⟨by simp [h.len], fun i m e => ?_⟩
  by_cases hi : i < ns.length
  · rw [List.getElem?_append_left hi] at e
    obtain ⟨t', e'⟩ := h.get i m e
    exact ⟨t', by rw [List.getElem?_append_left (by rw [h.len]; exact hi)]; exact e'⟩
  · have : i = ns.length := by
      have := (List.getElem?_eq_some_iff.mp e).1
      simp at this; walk_at "OM"
    subst this
    simp at e
    subst e
    exact ⟨t, by rw [← h.len]; simp⟩
theorem IntsV.cons {vs : List Value} {ns : List Int} {n : Int} {t : Tok} (h : IntsV vs ns) : IntsV (.int n t :: vs) (n :: ns) := by
  refine ⟨by simp [h.len], fun i m e => ?_⟩
  cases i with
  | zero => simp at e; subst e; exact ⟨t, rfl⟩
  | succ i => simp at e; obtain ⟨t', e'⟩ := h.get i m e; exact ⟨t', by simpa using e'⟩
theorem IntsT.v {T : Nat} {vs : List Value} {ns : List Int} (h : IntsT T vs ns) : IntsV vs ns := ⟨h.len, fun i n e => let ⟨t, a, _⟩ := h.get i n e; ⟨t, a⟩⟩
theorem IntsT.nil {T : Nat} : IntsT T [] [] := ⟨rfl, fun i n e => by simp at e⟩
theorem IntsT.snoc {T : Nat} {vs : List Value} {ns : List Int} {n : Int} {t : Tok} (h : IntsT T vs ns) (h0 : 0 < t) (h1 : t < T) : IntsT T (vs ++ [.int n t]) (ns ++ [n]) := by
  refine ⟨by simp [h.len], fun i m e => ?_⟩
  by_cases hi : i < ns.length
  · rw [List.getElem?_append_left hi] at e
    obtain ⟨t', e', a, b⟩ := h.get i m e
    exact ⟨t', by rw [List.getElem?_append_left (by rw [h.len]; exact hi)]; exact e', a, b⟩
  · have : i = ns.length := by
      have := (List.getElem?_eq_some_iff.mp e).1
      simp at this; walk_at "OM"
    subst this
    simp at e
    subst e
    exact ⟨t, by rw [← h.len]; simp, h0, h1⟩
theorem IntsT.mono {T T' : Nat} {vs : List Value} {ns : List Int} (h : IntsT T vs ns) (l : T ≤ T') : IntsT T' vs ns :=
  ⟨h.len, fun i n e => let ⟨t, a, b, c⟩ := h.get i n e; ⟨t, a, b, Nat.lt_of_lt_of_le c l⟩⟩
section
variable {M : Model} {A : Around} {E : Value → Shared → Prop} {s : Shared} {Q : Value → Shared → Prop}
theorem is_small {p : Int} {t u : Tok} (hs : smallInt p = true) (ht : t ≠ 0) (hu : u ≠ 0) (h : Q (.bool true) s) : wpAny M A (compareOp .Is (.int p t) (.int p u)) Q E s := by
  show wpAny M A (do return .bool (← isSame (.int p t) (.int p u))) Q E s
  refine wpAny_bind ?_
  show wpAny M A (if (p == p && smallInt p) = true then isSame.cachedInt t u else isSame.created (p == p) t u) _ E s
  rw [if_pos (by rw [hs]; simp)]
  unfold isSame.cachedInt
  rw [if_neg (by simp [ht, hu])]
  exact wpAny_bind (wpAny_rule (wpAny_pure (wpAny_pure h)))
theorem is_diff {p q : Int} {t u : Tok} (hpq : p ≠ q) (ht : t ≠ 0) (hu : u ≠ 0) (htu : t ≠ u) (h : Q (.bool false) s) : wpAny M A (compareOp .Is (.int p t) (.int q u)) Q E s := by
  show wpAny M A (do return .bool (← isSame (.int p t) (.int q u))) Q E s
  refine wpAny_bind ?_
  show wpAny M A (if (p == q && smallInt p) = true then isSame.cachedInt t u else isSame.created (p == q) t u) _ E s
  rw [if_neg (by simp [hpq])]
  unfold isSame.created
  simp only [ht, hu, htu, hpq, beq_iff_eq, Bool.or_self, decide_false, Bool.false_eq_true, if_false, beq_eq_false_iff_ne.mpr hpq, Bool.not_false, if_true, beq_eq_false_iff_ne.mpr ht, beq_eq_false_iff_ne.mpr hu, beq_eq_false_iff_ne.mpr htu]
  exact wpAny_pure (wpAny_pure h)
end
section
variable {w : World} {p : Program} {loose : List Str} {mean : ExcName → Option Value} {mg mb : Str → Option Value} {A : Around} {s : Shared} {Q E : Value → Shared → Prop}
local macro_rules | `(tactic| walk_at "exec For") => `(tactic| (refine wpAny_For ?_))
local macro_rules | `(tactic| walk_at "exec For Name Name cons nil") => `(tactic| (refine wpAny_For ?_))
local macro_rules | `(tactic| walk_at "call type:enumerate") => `(tactic| (k_here; (refine call_enumerate_list (by assumption) ?_); intro h9 he9 hit9 hz9 K9; replace K9 : Kp _ _ := K9; walk_at "MYK"))
local macro_rules | `(tactic| walk_at "pyIter ref") => `(tactic| (k_here; (refine wpAny_pyIter_enum (by assumption) ?_)))
local macro_rules | `(tactic| walk_at "compareOp Is int int") => `(tactic| first | (refine is_small (by assumption) (by assumption) (by assumption) ?_) | (refine is_diff (by assumption) (by assumption) (by assumption) (by assumption) ?_))
set_option maxHeartbeats 4000000 in
theorem c_indexOf (hA : Rm 1 A) (X : (hd.heap_1 w.params).In s.heap) (T : Top p loose mean mg mb s.heap)
    {l : Addr} {ns : List Int} {vs : List Value} {b : Int} {tb : Tok} (hl : s.heap.IsList l vs.toArray) (hi : IntsT tb vs ns) (hs : smallInt b = true) {k : Nat} (hk : ns[k]? = some b) (hk' : ∀ j, j < k → ns[j]? ≠ some b)
    (ret : ∀ t h' tk', Kp s.heap h' → s.toks ≤ tk' → Q (.int k t) { s with heap := h', toks := tk' }) :
    wpAny (model PySem.Challenge.rw_tl0018_01.row.prog w) A (call (.ref 126) [.ref l, .int b tb]) Q E s := by
  obtain ⟨hdl, dp, fr, gd, un⟩ := A
  obtain rfl : hdl = none := hA.1
  refine wpAny_with_toks (n := s.toks) (Nat.le_refl _) ?_
  revert X; k_fill; intro X
  refine' enterK (binds := [(Str.ofString "a", .ref l), (Str.ofString "b", .int b tb)]) X T ?k6 ?k7 ?k8 ?k9 ?kB ?c2 ?c3 ?c4 ?c5 ?_
  (case k6 => k_is); (case k7 => k_is); (case k8 => exact Rm.room (by assumption)); (case k9 => exact BindsTo.of_eq rfl); (case c5 => decide); (case kB => exact locs rfl); (case c2 => exact rfl); (case c3 => exact rfl); (case c4 => exact rfl)
  k_whole
  intro L' h' F' N'
  (try dsimp only [List.length_cons, List.length_nil])
  (try k_fold)
  have hl1 : h'.IsList l vs.toArray := hl.at fun o e => F'.keep l o e
  k_steps
  rename IsEnum _ _ _ _ _ => he9
  rename Fr _ _ _ _ => F9
  rename Heap.IsListIter _ _ _ _ => hit9
  have hLt : L' < h'.objs.size := F'.ns.lt
  have htb : tb ≠ 0 := by
    obtain ⟨t, -, h1, h2⟩ := hi.get k b hk
    exact Nat.ne_of_gt (Nat.lt_trans h1 h2)
  refine loop_enum (l := l) (items := vs.toArray) (inv := fun i h => i ≤ k ∧ ∃ v1 v2, Fr s.heap L' h (fun y => if y = Str.ofString "j" then v2 else if y = Str.ofString "i" then v1 else if y = Str.ofString "b" then some (.int b tb) else if y = Str.ofString "a" then some (.ref l) else none)) rfl (Nat.succ_ne_self _) ?stab ?hl he9 hit9 ?h0 ?turn _ ?hor
  case stab => exact fun i h h2 ⟨h1, v1, v2, F⟩ kk => ⟨h1, v1, v2, frStab2 F (Nat.lt_succ_of_lt hLt) hLt kk⟩
  case hl => exact fun i h ⟨_, _, _, F⟩ => hl.at fun o e => F.keep l o e
  case h0 => 
    refine ⟨Nat.zero_le _, none, none, frEq F9 ?_⟩
    intro y
    by_cases h0 : y = Str.ofString "j"
    · subst h0; rfl
    by_cases h1 : y = Str.ofString "i"
    · subst h1; rfl
    by_cases h2 : y = Str.ofString "b"
    · subst h2; rfl
    by_cases h3 : y = Str.ofString "a"
    · subst h3; rfl
    simp only [List.reverse_cons, List.reverse_nil, List.nil_append, List.cons_append, List.lookup_cons, List.lookup_nil, if_neg h0, beq_eq_false_iff_ne.mpr h0, if_neg h1, beq_eq_false_iff_ne.mpr h1, if_neg h2, beq_eq_false_iff_ne.mpr h2, if_neg h3, beq_eq_false_iff_ne.mpr h3]
  case hor => 
    rintro h tk ⟨h1, -⟩
    exfalso
    have := (List.getElem?_eq_some_iff.mp hk).1
    have := hi.len
    simp only [List.size_toArray] at h1
    walk_at "OM"
  case turn =>
    rintro i v h tk hv ⟨hik, v1, v2, F⟩ he hit
    have hlt : i < ns.length := by have := (List.getElem?_eq_some_iff.mp hk).1; walk_at "OM"
    obtain ⟨t, hx, ht0, htb'⟩ := hi.get i ns[i] (by simp [hlt])
    have hv' : v = .int ns[i] t := by
      have hP' : vs[i]? = some v := by simpa using hv
      rw [hx] at hP'; exact (Option.some.inj hP').symm
    subst hv'
    clear F9 F' N' he9 hit9
    rename News _ _ _ _ => N9
    clear N9
    have t1 : t ≠ 0 := Nat.ne_of_gt ht0
    have t2 : t ≠ tb := Nat.ne_of_lt htb'
    by_cases hik2 : i = k
    · subst hik2
      have N0 : News s.heap L' h [] := News.nil
      have hb : ns[i] = b := by
        have := hk; simp [hlt] at this; exact this
      rw [hb] at *
      k_steps
      all_goals (exact fun htk => ret _ _ _ (Fr.keep (by assumption)) htk)
    · have hne : ns[i] ≠ b := fun e => hk' i (by walk_at "OM") (by simp [hlt, e])
      have hne' : (ns[i] == b) = false := by simp [hne]
      have hie : h.get? (Nat.succ h'.objs.size) = _ := he
      obtain ⟨oi, hoi, hoi2⟩ := hit
      have hs1 : s.heap.get? h'.objs.size = none := by
        cases q : s.heap.get? h'.objs.size with
        | none => rfl
        | some o => exact absurd (Nat.lt_of_lt_of_le (Heap.lt_size q) F.above) (Nat.lt_asymm hLt)
      have hs2 : s.heap.get? (Nat.succ h'.objs.size) = none := by
        cases q : s.heap.get? (Nat.succ h'.objs.size) with
        | none => rfl
        | some o => exact absurd (Nat.lt_of_lt_of_le (Heap.lt_size q) F.above) (Nat.lt_asymm (Nat.lt_succ_of_lt hLt))
      have N0 : News s.heap L' h [(Nat.succ h'.objs.size, _), (h'.objs.size, oi)] := fun p hp => by
        rcases List.mem_cons.mp hp with rfl | hp
        · exact ⟨hie, Nat.ne_of_gt (Nat.lt_succ_of_lt hLt), hs2⟩
        · rcases List.mem_cons.mp hp with rfl | hp
          · exact ⟨hoi, Nat.ne_of_gt hLt, hs1⟩
          · cases hp
      k_steps
      rename Fr _ _ _ _ => F8
      rename News _ _ _ _ => N8
      refine ⟨_, _, rfl, ⟨by walk_at "OM", some (.int i tk), some (.int ns[i] t), frEq F8 ?_⟩, (N8 _ (List.mem_cons_self ..)).1, ⟨oi, (N8 _ (List.mem_cons_of_mem _ (List.mem_cons_self ..))).1, hoi2⟩⟩
      intro y
      by_cases h0 : y = Str.ofString "j"
      · subst h0; rfl
      by_cases h1 : y = Str.ofString "i"
      · subst h1; rfl
      by_cases h2 : y = Str.ofString "b"
      · subst h2; rfl
      by_cases h3 : y = Str.ofString "a"
      · subst h3; rfl
      simp only [List.reverse_cons, List.reverse_nil, List.nil_append, List.cons_append, List.lookup_cons, List.lookup_nil, if_neg h0, beq_eq_false_iff_ne.mpr h0, if_neg h1, beq_eq_false_iff_ne.mpr h1, if_neg h2, beq_eq_false_iff_ne.mpr h2, if_neg h3, beq_eq_false_iff_ne.mpr h3]

noncomputable def cnt (ns : List Int) (b : Int) (i : Nat) : Nat := (ns.take i).countP (fun x => x == b)
set_option maxHeartbeats 4000000 in
theorem c_countOf (hA : Rm 1 A) (X : (hd.heap_1 w.params).In s.heap) (T : Top p loose mean mg mb s.heap)
    {l : Addr} {ns : List Int} {vs : List Value} {b : Int} {tb : Tok} (hl : s.heap.IsList l vs.toArray) (hi : IntsT tb vs ns) (hs : smallInt b = true) (htb : tb ≠ 0)
    (ret : ∀ t h' tk', Kp s.heap h' → s.toks ≤ tk' → Q (.int (cnt ns b ns.length) t) { s with heap := h', toks := tk' }) :
    wpAny (model PySem.Challenge.rw_tl0018_01.row.prog w) A (call (.ref 112) [.ref l, .int b tb]) Q E s := by
  obtain ⟨hdl, dp, fr, gd, un⟩ := A
  obtain rfl : hdl = none := hA.1
  refine wpAny_with_toks (n := s.toks) (Nat.le_refl _) ?_
  revert X; k_fill; intro X
  refine' enterK (binds := [(Str.ofString "a", .ref l), (Str.ofString "b", .int b tb)]) X T ?k6 ?k7 ?k8 ?k9 ?kB ?c2 ?c3 ?c4 ?c5 ?_
  (case k6 => k_is); (case k7 => k_is); (case k8 => exact Rm.room (by assumption)); (case k9 => exact BindsTo.of_eq rfl); (case c5 => decide); (case kB => exact locs rfl); (case c2 => exact rfl); (case c3 => exact rfl); (case c4 => exact rfl)
  k_whole
  intro L' h' F' N'
  (try dsimp only [List.length_cons, List.length_nil])
  (try k_fold)
  have hl1 : ∀ h m, Fr s.heap L' h m → h.IsList l vs.toArray := fun h m F => hl.at fun o e => F.keep l o e
  k_steps
  rename Fr _ _ _ _ => F9
  refine for_list_F (l := l) (items := vs.toArray) (fun i _ m' news' => news' = [] ∧ ∃ t v, m' = (fun y => if y = Str.ofString "i" then v else if y = Str.ofString "count" then some (.int (cnt ns b i) t) else if y = Str.ofString "b" then some (.int b tb) else if y = Str.ofString "a" then some (.ref l) else none)) (fun _ _ _ _ _ h _ => h) rfl F9 News.nil (hl1 _ _ F9) (fun _ _ _ _ _ _ F _ => hl1 _ _ F) ?hcls ?start ?turn ?done
  case hcls => rintro i t m' news' ⟨rfl, -⟩ p hp; cases hp
  case start =>
    refine' ⟨rfl, _, none, funext ?h0⟩
    case h0 =>
      intro y
      by_cases h0 : y = Str.ofString "i"
      · subst h0; rfl
      by_cases h1 : y = Str.ofString "count"
      · subst h1; rfl
      by_cases h2 : y = Str.ofString "b"
      · subst h2; rfl
      by_cases h3 : y = Str.ofString "a"
      · subst h3; rfl
      simp only [List.reverse_cons, List.reverse_nil, List.nil_append, List.cons_append, List.lookup_cons, List.lookup_nil, if_neg h0, beq_eq_false_iff_ne.mpr h0, if_neg h1, beq_eq_false_iff_ne.mpr h1, if_neg h2, beq_eq_false_iff_ne.mpr h2, if_neg h3, beq_eq_false_iff_ne.mpr h3]
  case done =>
    rintro m' news' h tk ⟨rfl, t, v, rfl⟩ htk F N
    clear F9
    have hsz : vs.toArray.size = ns.length := by simp [hi.len]
    rw [hsz] at F
    k_steps
    all_goals (exact ret _ _ _ (Fr.keep (by assumption)) (by assumption))
  case turn =>
    rintro i v m' news' h tk oi hv ⟨rfl, t0, v0, rfl⟩ htk hoi F N
    (try dsimp only at *)
    have hlt : i < ns.length := by
      have := (Array.getElem?_eq_some_iff.mp hv).1
      have := hi.len
      simp only [List.size_toArray] at *
      walk_at "OM"
    obtain ⟨t, hx, ht0, htb'⟩ := hi.get i ns[i] (by simp [hlt])
    have hv' : v = .int ns[i] t := by
      have hP' : vs[i]? = some v := by simpa using hv
      rw [hx] at hP'; exact (Option.some.inj hP').symm
    subst hv'
    clear F9
    rename News _ _ _ [] => N9
    clear N9
    have t1 : t ≠ 0 := Nat.ne_of_gt ht0
    have t2 : t ≠ tb := Nat.ne_of_lt htb'
    have hc : (cnt ns b (i + 1) : Int) = if ns[i] = b then (cnt ns b i : Int) + 1 else cnt ns b i := by
      unfold cnt
      rw [List.take_add_one, List.countP_append]
      simp only [List.getElem?_eq_getElem hlt, Option.toList_some, List.countP_cons, List.countP_nil, beq_iff_eq]
      split <;> simp
    by_cases hb : ns[i] = b
    · rw [if_pos hb] at hc
      subst hb
      k_steps
      rename Fr _ _ _ _ => F8
      rename News _ _ _ _ => N8
      refine' ⟨_, _, _, [], rfl, F8, N8, rfl, _, some (.int ns[i] t), funext ?hm⟩
      case hm =>
        rw [hc]
        intro y
        by_cases h0 : y = Str.ofString "i"
        · subst h0; rfl
        by_cases h1 : y = Str.ofString "count"
        · subst h1; rfl
        by_cases h2 : y = Str.ofString "b"
        · subst h2; rfl
        by_cases h3 : y = Str.ofString "a"
        · subst h3; rfl
        simp only [List.reverse_cons, List.reverse_nil, List.nil_append, List.cons_append, List.lookup_cons, List.lookup_nil, if_neg h0, beq_eq_false_iff_ne.mpr h0, if_neg h1, beq_eq_false_iff_ne.mpr h1, if_neg h2, beq_eq_false_iff_ne.mpr h2, if_neg h3, beq_eq_false_iff_ne.mpr h3]
    · have hne' : (ns[i] == b) = false := by simp [hb]
      have hne2 : ns[i] ≠ b := hb
      rw [if_neg hb] at hc
      k_steps
      rename Fr _ _ _ _ => F8
      rename News _ _ _ _ => N8
      refine ⟨_, _, _, [], rfl, F8, N8, rfl, t0, some (.int ns[i] t), funext ?_⟩
      rw [hc]
      intro y
      by_cases h0 : y = Str.ofString "i"
      · subst h0; rfl
      by_cases h1 : y = Str.ofString "count"
      · subst h1; rfl
      by_cases h2 : y = Str.ofString "b"
      · subst h2; rfl
      by_cases h3 : y = Str.ofString "a"
      · subst h3; rfl
      simp only [List.reverse_cons, List.reverse_nil, List.nil_append, List.cons_append, List.lookup_cons, List.lookup_nil, if_neg h0, beq_eq_false_iff_ne.mpr h0, if_neg h1, beq_eq_false_iff_ne.mpr h1, if_neg h2, beq_eq_false_iff_ne.mpr h2, if_neg h3, beq_eq_false_iff_ne.mpr h3]
end
section
variable {w : World} {p : Program} {loose : List Str} {mean : ExcName → Option Value} {mg mb : Str → Option Value} {A : Around} {s : Shared} {Q E : Value → Shared → Prop}
set_option maxHeartbeats 4000000 in
theorem c_modf (hA : Rm 1 A) (X : (hd.heap_1 w.params).In s.heap) (T : Top p loose mean mg mb s.heap)
    {a b : Int} {t u : Tok} (hb : b ≠ 0) (ret : ∀ t h' tk', Kp s.heap h' → s.toks ≤ t → t < tk' → Q (.int (a.fmod b) t) { s with heap := h', toks := tk' }) :
    wpAny (model PySem.Challenge.rw_tl0018_01.row.prog w) A (call (.ref 91) [.int a t, .int b u]) Q E s := by
  obtain ⟨hdl, dp, fr, gd, un⟩ := A
  obtain rfl : hdl = none := hA.1
  revert X; k_fill; intro X
  refine' enterK (binds := [(Str.ofString "a", .int a t), (Str.ofString "b", .int b u)]) X T ?k6 ?k7 ?k8 ?k9 ?kB ?c2 ?c3 ?c4 ?c5 ?_
  (case k6 => k_is); (case k7 => k_is); (case k8 => exact Rm.room (by assumption)); (case k9 => exact BindsTo.of_eq rfl); (case c5 => decide); (case kB => exact locs rfl); (case c2 => exact rfl); (case c3 => exact rfl); (case c4 => exact rfl)
  k_whole
  intro L' h' F' N'
  (try dsimp only [List.length_cons, List.length_nil])
  (try k_fold)
  k_steps
  all_goals (refine ret _ _ _ (Fr.keep (by assumption)) (by (try dsimp only); walk_at "OM") (Nat.lt_succ_self _))

noncomputable def wholeF (a : UInt64) : Int := Flt.toInt Float64.truncOf (Float64.add a (Float64.ofFrac false 1 2))
set_option maxHeartbeats 4000000 in
theorem c_whole (hA : Rm 1 A) (X : (hd.heap_1 w.params).In s.heap) (T : Top p loose mean mg mb s.heap)
    {a : UInt64} {t : Tok} (hf : Float64.isFinite (Float64.add a (Float64.ofFrac false 1 2)) = true) (ret : ∀ t h' tk', Kp s.heap h' → Q (.int (wholeF a) t) { s with heap := h', toks := tk' }) :
    wpAny (model PySem.Challenge.rw_tl0018_01.row.prog w) A (call (.ref 147) [.float a t]) Q E s := by
  obtain ⟨hdl, dp, fr, gd, un⟩ := A
  obtain rfl : hdl = none := hA.1
  revert X; k_fill; intro X
  refine' enterK (binds := [(Str.ofString "part", .float a t)]) X T ?k6 ?k7 ?k8 ?k9 ?kB ?c2 ?c3 ?c4 ?c5 ?_
  (case k6 => k_is); (case k7 => k_is); (case k8 => exact Rm.room (by assumption)); (case k9 => exact BindsTo.of_eq rfl); (case c5 => decide); (case kB => exact locs rfl); (case c2 => exact rfl); (case c3 => exact rfl); (case c4 => exact rfl)
  k_whole
  intro L' h' F' N'
  (try dsimp only [List.length_cons, List.length_nil])
  (try k_fold)
  unfold wholeF at ret
  have hn := Flt.not_nan_of_finite hf
  have hi := Flt.not_inf_of_finite hf
  have e0 : (Float64.ofFrac (decide ((1 : Int) < 0) != decide ((2 : Int) < 0)) (Int.natAbs 1) (Int.natAbs 2)) = Float64.ofFrac false 1 2 := by decide +kernel
  k_steps
  all_goals (rw [e0] at *; first | exact absurd (by assumption : _ = true) (ne_true_of_eq_false hi) | exact absurd (by assumption : _ = true) (ne_true_of_eq_false hn) | exact ret _ _ _ (Fr.keep (by assumption)))

-- call hooks
local macro_rules | `(tactic| walk_at "call ref") => `(tactic| (k_here; refine wpAny_with_toks (Nat.le_refl _) ?_; (refine' c_ipow (by walk_at "MYRM") (by k_in) (by walk_at "MYTOP") (by assumption) (by assumption) ?_); walk_at "T5"))
local macro_rules | `(tactic| walk_at "call ref") => `(tactic| (k_here; refine wpAny_with_toks (Nat.le_refl _) ?_; (refine' c_modf (by walk_at "MYRM") (by k_in) (by walk_at "MYTOP") (by assumption) ?_); intro t9 h9 tk9 K9 ht9 ht9' htk9; (try dsimp only at ht9); walk_at "MYK"))
local macro_rules | `(tactic| walk_at "binaryOp FloorDiv int int") => `(tactic| (refine floordiv_int (by first | assumption | decide) ?_ (Or.inl (PyProof.noPylong_small (by first | assumption | decide)))))
set_option maxHeartbeats 4000000 in
theorem c_sixth (hA : Rm 2 A) (X : (hd.heap_1 w.params).In s.heap) (T : Top p loose mean mg mb s.heap)
    {l : Addr} {ns : List Int} {vs : List Value} {x q : Int} {tx tq : Tok} (hl : s.heap.IsList l vs.toArray) (hi : IntsT s.toks vs ns) 
    (hq : q ≠ 0) (hq6 : 0 ≤ q.fdiv 6) (hsz : (Builtin.Int.intBits x : Int) * (q.fdiv 6) ≤ 2 ^ 27) (hs : smallInt ((x ^ (q.fdiv 6).toNat).fmod q) = true) {k : Nat} (hk : ns[k]? = some ((x ^ (q.fdiv 6).toNat).fmod q)) (hk' : ∀ j, j < k → ns[j]? ≠ some ((x ^ (q.fdiv 6).toNat).fmod q))
    (ret : ∀ t h' tk', Kp s.heap h' → s.toks ≤ tk' → Q (.int k t) { s with heap := h', toks := tk' }) :
    wpAny (model PySem.Challenge.rw_tl0018_01.row.prog w) A (call (.ref 154) [.int x tx, .int q tq, .ref l]) Q E s := by
  obtain ⟨hdl, dp, fr, gd, un⟩ := A
  obtain rfl : hdl = none := hA.1
  refine wpAny_with_toks (n := s.toks) (Nat.le_refl _) ?_
  revert X; k_fill; intro X
  refine' enterK (binds := [(Str.ofString "x", .int x tx), (Str.ofString "p", .int q tq), (Str.ofString "powers", .ref l)]) X T ?k6 ?k7 ?k8 ?k9 ?kB ?c2 ?c3 ?c4 ?c5 ?_
  (case k6 => k_is); (case k7 => k_is); (case k8 => exact Rm.room (by assumption)); (case k9 => exact BindsTo.of_eq rfl); (case c5 => decide); (case kB => exact locs rfl); (case c2 => exact rfl); (case c3 => exact rfl); (case c4 => exact rfl)
  k_whole
  intro L' h' F' N'
  (try dsimp only [List.length_cons, List.length_nil])
  (try k_fold)
  have hl1 : ∀ h m, Fr s.heap L' h m → h.IsList l vs.toArray := fun h m F => hl.at fun o e => F.keep l o e
  k_steps
  rename Fr _ _ _ _ => F8
  refine c_indexOf (by walk_at "MYRM") (X.keeps F8.keep) (T.keeps F8.keep) (hl1 _ _ F8) (hi.mono ?hm) hs hk hk' ?_
  case hm =>
    (try dsimp only at *)
    walk_at "OM"
  intro t9 h9 tk9 K9 htk9
  walk_at "MYK"
  k_steps
  all_goals (exact ret _ _ _ (Fr.keep (by assumption)) (by assumption))
noncomputable def pw (q x : Int) : Int := (x ^ (q.fdiv 6).toNat).fmod q
noncomputable def ix (b : Int) : List Int → Nat
  | [] => 0
  | a :: r => if a = b then 0 else ix b r + 1
theorem ix_get {b : Int} : ∀ {ns : List Int}, b ∈ ns → ns[ix b ns]? = some b
  | a :: r, h => by
    unfold ix
    by_cases e : a = b
    · rw [if_pos e]; simp [e]
    · rw [if_neg e]
      have : b ∈ r := (List.mem_cons.mp h).resolve_left fun q => e q.symm
      simpa using ix_get this
theorem ix_before {b : Int} : ∀ {ns : List Int} {j : Nat}, j < ix b ns → ns[j]? ≠ some b
  | [], _, h => by simp
  | a :: r, j, h => by
    unfold ix at h
    by_cases e : a = b
    · rw [if_pos e] at h; exact absurd h (Nat.not_lt_zero _)
    · rw [if_neg e] at h
      cases j with
      | zero => simpa using e
      | succ j => simpa using ix_before (Nat.lt_of_succ_lt_succ h)
structure Good6 (ns : List Int) (q x : Int) : Prop where
  q0 : q ≠ 0
  q6 : 0 ≤ q.fdiv 6
  bits : (Builtin.Int.intBits x : Int) * (q.fdiv 6) ≤ 2 ^ 27
  small : smallInt (pw q x) = true
  mem : pw q x ∈ ns
theorem c_six (hA : Rm 2 A) (X : (hd.heap_1 w.params).In s.heap) (T : Top p loose mean mg mb s.heap)
    {l : Addr} {ns : List Int} {vs : List Value} {x q : Int} {tx tq : Tok} (hl : s.heap.IsList l vs.toArray) (hi : IntsT s.toks vs ns) (g : Good6 ns q x)
    (ret : ∀ t h' tk', Kp s.heap h' → s.toks ≤ tk' → Q (.int (ix (pw q x) ns) t) { s with heap := h', toks := tk' }) :
    wpAny (model PySem.Challenge.rw_tl0018_01.row.prog w) A (call (.ref 154) [.int x tx, .int q tq, .ref l]) Q E s :=
  c_sixth hA X T hl hi g.q0 g.q6 g.bits g.small (ix_get g.mem) (fun _ h => ix_before h) ret
end
inductive CompKInv (s : Shared) (St : Nat → Heap → Prop) (C D : Addr) (G : Addr → Addr → Nat → List Value → Heap → Nat → Prop) (n : Nat) (I : Addr) (k : Nat) (s' : Shared) : Prop
  | mk (h' : Heap) (tk : Nat) (mc : Str → Option Value) (ys : List Value) (q0 : s' = { s with heap := h', toks := tk }) (q1 : s.toks ≤ tk) (q2 : St ys.length h') (q3 : h'.PlainList D ys.toArray) (q4 : h'.Ns C mc) (q5 : G C D ys.length ys h' tk) (q6 : ys.length ≤ n) (q7 : k = n + 1 - ys.length) (q8 : (∀ b o, b ≠ I → s.heap.get? b = some o → h'.get? b = some o)) : CompKInv s St C D G n I k s'
abbrev lstObj (ys : List Value) (n : Nat) : Obj := { cls := .type "list", data := .seq ys.toArray n }
structure It (prog : Program) (w : World) (A : Around) (I : Addr) (n : Nat) (St : Nat → Heap → Prop) (P : Nat → Nat → Value → Nat → Prop) : Prop where
  item : ∀ i (s : Shared) (Q : Option Value → Shared → Prop) (E : Value → Shared → Prop), i < n → St i s.heap →
    (∀ v h' tk, s.toks ≤ tk → P i s.toks v tk → St (i + 1) h' → (∀ b o, b ≠ I → s.heap.get? b = some o → h'.get? b = some o) → Q (some v) { s with heap := h', toks := tk }) → wpAny (model prog w) A (pyNext (.ref I)) Q E s
  done : ∀ (s : Shared) (Q : Option Value → Shared → Prop) (E : Value → Shared → Prop), St n s.heap →
    (∀ h', (∀ b o, b ≠ I → s.heap.get? b = some o → h'.get? b = some o) → Q none { s with heap := h' }) → wpAny (model prog w) A (pyNext (.ref I)) Q E s
  self : ∀ i (s : Shared) (Q : Value → Shared → Prop) (E : Value → Shared → Prop), St i s.heap → Q (.ref I) s → wpAny (model prog w) A (pyIter (.ref I)) Q E s
section
variable {prog : Program} {w : World} {A : Around}
theorem It.range (hh : A.handled = none) (I : Addr) (a c : Int) (n : Nat) :
    It prog w A I n (fun i h => IsRangeIter h I (a + (i : Nat) * c) ((n : Int) - (i : Nat)) c) (fun i t0 v tk => v = .int (a + i * c) t0 ∧ t0 < tk) where
  item := fun i s Q E hi st hQ => by
    refine wpAny_pyNext_range_item st (by walk_at "OM") fun h' hit' hs' => ?_
    refine hQ _ h' _ (Nat.le_succ _) ⟨rfl, Nat.lt_succ_self _⟩ ?_ fun b o hb e => hs'.extBut b o hb e
    have e1 : a + ((i + 1 : Nat) : Int) * c = a + (i : Int) * c + c := by push_cast; rw [Int.add_mul, Int.one_mul, Int.add_assoc]
    have e2 : (n : Int) - ((i + 1 : Nat) : Int) = (n : Int) - (i : Int) - 1 := by push_cast; walk_at "OM"
    rw [e1, e2]; exact hit'
  done := fun s Q E st hQ => wpAny_pyNext_range_end hh st (by walk_at "OM") fun h' he' => hQ h' fun b o hb e => he' b o hb e
  self := fun _ _ _ _ st hQ => wpAny_pyIter_rangeiter st hQ
theorem It.list (hh : A.handled = none) (I ax : Addr) (hne : ax ≠ I) (items : Array Value) :
    It prog w A I items.size (fun i h => h.IsListIter I ax i ∧ h.IsList ax items) (fun i t0 v tk => items[i]? = some v) where
  item := fun i s Q E hi st hQ => by
    refine wpAny_pyNext_list_item st.1 st.2 (x := items[i]) (by simp [hi]) fun h' hit' hs' => ?_
    exact hQ _ h' s.toks (Nat.le_refl _) (by simp [hi]) ⟨hit', st.2.extBut hs'.extBut hne⟩ fun b o hb e => hs'.extBut b o hb e
  done := fun s Q E st hQ => wpAny_pyNext_list_end hh st.1 st.2 (by simp) fun h' he' => hQ h' fun b o hb e => he' b o hb e
  self := fun _ _ _ _ st hQ => wpAny_pyIter_listiter st.1 hQ
theorem It.tuple (hh : A.handled = none) (I ax : Addr) (hne : ax ≠ I) (items : Array Value) :
    It prog w A I items.size (fun i h => h.IsTupleIter I ax i ∧ h.IsTuple ax items) (fun i t0 v tk => items[i]? = some v) where
  item := fun i s Q E hi st hQ => by
    refine wpAny_pyNext_tuple_item st.1 st.2 (x := items[i]) (by simp [hi]) fun h' hit' hs' => ?_
    exact hQ _ h' s.toks (Nat.le_refl _) (by simp [hi]) ⟨hit', st.2.extBut hs'.extBut hne⟩ fun b o hb e => hs'.extBut b o hb e
  done := fun s Q E st hQ => wpAny_pyNext_tuple_end hh st.1 st.2 (by simp) fun h' he' => hQ h' fun b o hb e => he' b o hb e
  self := fun _ _ _ _ st hQ => wpAny_pyIter_tupleiter st.1 hQ
end

section
variable {prog : Program} {w : World} {A : Around} {E : Value → Shared → Prop} {env : Env} {s₂ : Shared} {h₀ : Heap} {m₀ : Str → Option Value} {news : List (Addr × Obj)}

theorem neA {a b : Nat} (h : a ≠ b) : @Ne Addr a b := h
theorem ltA {a b : Nat} (h : a < b) : @LT.lt Addr _ a b := h
/-- a comprehension with one clause over a plain name, its block: the iterator stands, the accumulator and the block's names are made, the turns keep all that stood -/
theorem comp_K {elt iter : Expr} {x : Str} {px : Pos} {scope : Scope} {cl : List (Str × Addr)} {pos : Pos} {I L : Addr} {n : Nat} {St : Nat → Heap → Prop} {P : Nat → Nat → Value → Nat → Prop} {Q : Value → Shared → Prop}
    (W : It prog w A I n St P) (stI : ∀ i h, St i h → (h.get? I).isSome = true) (stF : ∀ i h h', St i h → (∀ b o, b < s₂.heap.objs.size → h.get? b = some o → h'.get? b = some o) → St i h')
    (hI : I < s₂.heap.objs.size) (hst : St 0 s₂.heap)
    (F₂ : Fr h₀ L s₂.heap m₀) (N₂ : News h₀ L s₂.heap news) (hIL : L < I) (hIN : ∀ p ∈ news, p.1 ≠ I)
    (G : Addr → Addr → Nat → List Value → Heap → Nat → Prop) (hG0 : ∀ C D h tk, s₂.toks ≤ tk → G C D 0 [] h tk)
    (stab : ∀ C D i ys h h' tk tk', G C D i ys h tk → (∀ b o, b ≠ C → b ≠ D → b ≠ I → h.get? b = some o → h'.get? b = some o) → tk ≤ tk' → G C D i ys h' tk')
    (turn : ∀ C D i v ys h t0 tk mc, i < n → P i t0 v tk → G C D i ys h t0 → ys.length = i → s₂.toks ≤ t0 → t0 ≤ tk → (∀ b, b = C ∨ b = D ∨ b = I → (h.get? b).isSome = true) → Fr h₀ C h (upd x v mc) → News h₀ C h news →
      wpAny (model prog w) A (eval elt (compEnvC scope cl C env)) (fun y s₄ => ∃ h' tk', s₄ = { s₂ with heap := h', toks := tk' } ∧ Kp h h' ∧ G C D (i + 1) (ys ++ [y]) h' tk') (fun _ _ => False) { s₂ with heap := h, toks := tk + 1 })
    (done : ∀ C D ys nD h tk, G C D n ys h tk → ys.length = n → s₂.toks ≤ tk → s₂.heap.objs.size ≤ D → Fr h₀ L h m₀ → News h₀ L h ((D, lstObj ys nD) :: news) → (∀ b o, b ≠ I → s₂.heap.get? b = some o → h.get? b = some o) → Q (.ref D) { s₂ with heap := h, toks := tk })
    (hsz : n ≤ sizeLine := by size_fits)
    (hcell : ∀ y ∈ scope.names, y.2 ≠ .cell := by decide) (hkind : scope.kind = .function := by rfl) (hx : scope.names.lookup x = some .local := by rfl) :
    wpAny (model prog w) A (newList []) (fun acc s₃ => wpAny (model prog w) A (newFunctionEnv scope env.globals cl [] env.qual none .none (some env)) (fun cenv s₄ =>
      codeAny (model prog w) A (.compStart (.ListComp elt [⟨.Name x px, iter, [], 0⟩] scope pos) 0 (.ref I) acc { cenv with scope := relabel scope env }) (compPost (model prog w) A E none Q acc cenv.locals) s₄) E s₃) E s₂ := by
  refine wpAny_newObj_type (wpAny_newFunctionEnv hcell (by intro y hy; simp at hy) (fun h₁ hns₁ hsb₁ => ?_) hkind)
  dsimp only at hns₁ hsb₁ ⊢
  generalize hH2 : s₂.heap.push { cls := .type "list", dict := none, data := .seq ([] : List Value).toArray } = H2 at hns₁ hsb₁ ⊢
  have hC : H2.objs.size = s₂.heap.objs.size + 1 := by rw [← hH2, Heap.size_push]
  have hDC : s₂.heap.objs.size ≠ H2.objs.size := by rw [hC]; exact Nat.ne_of_lt (Nat.lt_succ_self _)
  have hLs : L < s₂.heap.objs.size := F₂.ns.lt
  have below : ∀ b, b < s₂.heap.objs.size → b ≠ H2.objs.size ∧ b ≠ s₂.heap.objs.size := fun b hb => ⟨by rw [hC]; exact Nat.ne_of_lt (Nat.lt_succ_of_lt hb), Nat.ne_of_lt hb⟩
  have old : ∀ b o, s₂.heap.get? b = some o → h₁.get? b = some o := fun b o e => hsb₁.extBut b o (below b (Heap.lt_size e)).1 (Heap.get?_push_of_some _ (hH2 ▸ Heap.get?_push_of_some _ e))
  have hacc : h₁.PlainList s₂.heap.objs.size #[] := ⟨_, hsb₁.extBut _ _ hDC (Heap.get?_push_of_some _ (hH2 ▸ Heap.get?_push_size _ rfl))⟩
  have hst₁ : St 0 h₁ := stF _ _ _ hst fun b o _ e => old b o e
  have fresh : ∀ a, s₂.heap.objs.size ≤ a → s₂.heap.get? a = none := fun a ha => by
    cases e : s₂.heap.get? a with
    | none => rfl
    | some o' => exact absurd (Heap.lt_size e) (Nat.not_lt.mpr ha)
  have h0s : ∀ b o, h₀.get? b = some o → b < L := fun b o e => Nat.lt_of_lt_of_le (Heap.lt_size e) F₂.above
  have h0I : ∀ b o, h₀.get? b = some o → b ≠ I := fun b o e => neA (by have : @LT.lt Nat _ b L := h0s b o e; have : @LT.lt Nat _ L I := hIL; walk_at "OM")
  have loop : ∀ s₃ : Shared, s₃ = { s₂ with heap := h₁, toks := s₂.toks + ([] : List (Str × Value)).length } →
      codeAny (model prog w) A (.compLoop (.ListComp elt [⟨.Name x px, iter, [], 0⟩] scope pos) 0 (.ref I) (.ref s₂.heap.objs.size) (compEnvC scope cl H2.objs.size env))
        (compPost (model prog w) A E none Q (.ref s₂.heap.objs.size) H2.objs.size) s₃ := by
    rintro s₃ rfl
    generalize hCn : H2.objs.size = C at hns₁ hsb₁ hC hDC below ⊢
    generalize hDn : s₂.heap.objs.size = D at hDC below hacc fresh hC
    have hCD : @Eq Nat C (D + 1) := hC
    have hID : @LT.lt Nat _ I D := hDn ▸ hI
    have hLD : @LT.lt Nat _ L D := hDn ▸ hLs
    have hLI : @LT.lt Nat _ L I := hIL
    refine codeAny_compLoop_list
      (CompKInv s₂ St C D G n I) ?_ (n + 1)
      ⟨h₁, s₂.toks, _, [], rfl, Nat.le_refl _, hst₁, hacc, hns₁, hG0 _ _ _ _ (Nat.le_refl _), Nat.zero_le _, rfl, fun b o _ e => old b o e⟩
    rintro k s' ⟨H, tk, mc, ys, rfl, htk, hst', hacc', hn', hG, hi, rfl, hk⟩
    have hDlt : @LT.lt Nat _ D H.objs.size := by obtain ⟨_, e⟩ := hacc'; exact Heap.lt_size e
    by_cases hlt : ys.length < n
    · refine W.item ys.length _ _ _ hlt hst' fun v h₂ tk₁ htk₁ hPv hst₂ hk₂ => ?_
      have ne1 : C ≠ I := neA (by walk_at "NEQ")
      have ne2 : D ≠ I := neA (by walk_at "NEQ")
      have ne3 : D ≠ C := neA (by walk_at "NEQ")
      have ne4 : L ≠ C := neA (by walk_at "NEQ")
      have ltD : ∀ b : Addr, b < D → b ≠ C := fun b hb => neA (by have : @LT.lt Nat _ b D := hb; walk_at "OM")
      have ltD2 : ∀ b : Addr, b < D → b ≠ D := fun b hb => neA (by have : @LT.lt Nat _ b D := hb; walk_at "OM")
      refine wpAny_assign_Name (wpAny_storeName_local (lookup_relabel_local hx) (hn'.at' fun o e => hk₂ _ o ne1 e) (fun h₃ hn₃ hs₃ => ?_) (by simp [compEnvC, relabel, hkind]))
      replace hs₃ : Heap.SameBut C h₂ h₃ := hs₃
      have hnb : ∀ b o, b < D → H.get? b = some o → b ≠ I → h₃.get? b = some o := fun b o hb e hbI => hs₃.extBut b o (ltD b hb) (hk₂ b o hbI e)
      have hold : ∀ b o, b ≠ I → s₂.heap.get? b = some o → h₃.get? b = some o := fun b o hbI e => hnb b o (hDn ▸ Heap.lt_size e) (hk b o hbI e) hbI
      have hst₃ : St (ys.length + 1) h₃ := stF _ _ _ hst₂ fun b o hb e => hs₃.extBut b o (ltD b (hDn ▸ hb)) e
      have hG₃ : G C D ys.length ys h₃ tk := stab _ _ _ _ _ _ _ _ hG (fun b o hbC hbD hbI e => hs₃.extBut b o hbC (hk₂ b o hbI e)) (Nat.le_refl _)
      have hacc₃ : h₃.PlainList D ys.toArray := by
        obtain ⟨nn, e⟩ := hacc'
        exact ⟨nn, hs₃.extBut D _ ne3 (hk₂ D _ ne2 e)⟩
      have F₃ : Fr h₀ C h₃ (upd x v mc) := ⟨hn₃, fun b o e => hold b o (h0I b o e) (F₂.keep b o e), Nat.le_trans F₂.above (show @LE.le Nat _ L C by walk_at "OM")⟩
      have N₃ : News h₀ C h₃ news := fun p hp => ⟨hold _ _ (hIN p hp) (N₂ p hp).1, ltD _ (hDn ▸ Heap.lt_size (N₂ p hp).1), (N₂ p hp).2.2⟩
      have hE : ∀ b, b = C ∨ b = D ∨ b = I → (h₃.get? b).isSome = true := by
        rintro b (rfl | rfl | rfl)
        · obtain ⟨o, _, _, e, _⟩ := hn₃; rw [show h₃.get? b = some o from e]; rfl
        · obtain ⟨_, e⟩ := hacc₃; rw [e]; rfl
        · exact stI _ _ hst₃
      refine wpAny_with_toks (n := s₂.toks) (Nat.le_trans htk (Nat.le_succ_of_le htk₁)) (never_noted (wpAny_mono (turn C D ys.length v ys h₃ tk tk₁ mc hlt hPv hG₃ rfl htk htk₁ hE F₃ N₃) (fun y s₄ h₄ htk₄ => ?_) fun _ _ e => e))
      obtain ⟨h₄, tk₄, rfl, kp₄, hG₄⟩ := h₄
      have hys : ys.toArray.size ≤ sizeLine := by simp; walk_at "OM"
      obtain ⟨nn, e₃⟩ := hacc₃
      refine wpAny_list_append_plain (hsz := hys) ⟨nn, kp₄ _ _ e₃⟩ fun h₅ hl₅ hs₅ => ?_
      replace hs₅ : Heap.SameBut D h₄ h₅ := hs₅
      refine ⟨n + 1 - (ys ++ [y]).length, by simp; walk_at "OM", h₅, tk₄, _, ys ++ [y], rfl, htk₄, ?_, by simpa using hl₅, (hn₃.keeps kp₄).sameBut hs₅ (Ne.symm ne3), ?_, by simp; walk_at "OM", rfl, fun b o hbI e => hs₅.extBut b o (ltD2 b (hDn ▸ Heap.lt_size e)) (kp₄ b o (hold b o hbI e))⟩
      · have := stF _ _ h₅ hst₃ fun b o hb e => hs₅.extBut b o (ltD2 b (hDn ▸ hb)) (kp₄ b o e)
        simpa using this
      · have := stab _ _ _ _ _ h₅ _ _ hG₄ (fun b o hbC hbD hbI e => hs₅.extBut b o hbD e) (Nat.le_refl _)
        simpa using this
    · have hin : ys.length = n := by walk_at "OM"
      refine W.done _ _ _ (hin ▸ hst') fun h₂ hk₂ => ?_
      show ∃ m, _ ∧ _
      refine ⟨mc, hn'.at' fun o e => hk₂ _ o (neA (by walk_at "NEQ")) e, fun h₃ hs₃ => ?_⟩
      replace hs₃ : Heap.SameBut C h₂ h₃ := hs₃
      have hold : ∀ b o, b ≠ I → s₂.heap.get? b = some o → h₃.get? b = some o := fun b o hbI e => hs₃.extBut b o (neA (by have : @LT.lt Nat _ b D := hDn ▸ Heap.lt_size e; walk_at "OM")) (hk₂ b o hbI (hk b o hbI e))
      obtain ⟨nD, eD⟩ := hacc'
      have eD₃ : h₃.get? D = _ := hs₃.extBut D _ (neA (by walk_at "NEQ")) (hk₂ D _ (neA (by walk_at "NEQ")) eD)
      have F₃ : Fr h₀ L h₃ m₀ := ⟨F₂.ns.at' fun o e => hold _ o (neA (by walk_at "NEQ")) e, fun b o e => hold b o (h0I b o e) (F₂.keep b o e), F₂.above⟩
      have N₃ : News h₀ L h₃ news := fun p hp => ⟨hold _ _ (hIN p hp) (N₂ p hp).1, (N₂ p hp).2⟩
      refine done C D ys nD h₃ tk (hin ▸ stab _ _ _ _ _ _ _ _ hG (fun b o hbC hbD hbI e => hs₃.extBut b o hbC (hk₂ b o hbI e)) (Nat.le_refl _)) hin htk (Nat.le_of_eq hDn) F₃ (newsCons eD₃ (neA (by walk_at "NEQ")) ?_ N₃) hold
      cases q : h₀.get? D with
      | none => rfl
      | some o => exact absurd (show @LT.lt Nat _ D L from h0s _ _ q) (by walk_at "OM")
  exact codeAny_compStart_list (loop _ rfl) (W.self 0 _ _ _ hst₁ (loop _ rfl))
theorem evalComp {elt iter : Expr} {x : Str} {px : Pos} {scope : Scope} {cl : List (Str × Addr)} {pos : Pos} {Q : Value → Shared → Prop} {s : Shared}
    (hclos : closureFor scope env = pure cl) (hkind : scope.kind = .function) (hnames : ∀ x ∈ scope.names, x.2 = .local → scope.names.lookup x.1 = some .local)
    (h : wpAny (model prog w) A (eval iter env) (fun xv s₁ => wpAny (model prog w) A (pyIter xv) (fun it s₂ => wpAny (model prog w) A (newList []) (fun acc s₃ =>
      wpAny (model prog w) A (newFunctionEnv scope env.globals cl [] env.qual none .none (some env)) (fun cenv s₄ =>
        codeAny (model prog w) A (.compStart (.ListComp elt [⟨.Name x px, iter, [], 0⟩] scope pos) 0 it acc { cenv with scope := relabel scope env }) (compPost (model prog w) A E none Q acc cenv.locals) s₄) E s₃) E s₂) E s₁) E s)
    (hs : ∀ x, foldedSetIterable iter env x = pure x := by intro _; rfl) :
    wpAny (model prog w) A (eval (.ListComp elt [⟨.Name x px, iter, [], 0⟩] scope pos) env) Q E s := by
  rw [eval_ListComp]
  exact wpAny_comprehension_free (use := none) rfl hs hclos hkind hnames h

theorem IntsV.are : ∀ {vs : List Value} {ns : List Int}, IntsV vs ns → IntsAre vs ns
  | [], [], _ => .nil
  | [], _ :: _, h => absurd h.len (by simp)
  | _ :: _, [], h => absurd h.len (by simp)
  | v :: vs, n :: ns, h => by
    obtain ⟨t, e⟩ := h.get 0 n rfl
    obtain rfl : v = .int n t := by simpa using e
    exact .cons n t (IntsV.are ⟨by simpa using h.len, fun i m q => by simpa using h.get (i + 1) m (by simpa using q)⟩)
theorem Rm.units {A : Around} (h : Rm 8 A) : A.units + 64 < cLine := h.2.2
/-- the end of a comprehension's turn -/
noncomputable def CEnd (s : Shared) (h : Heap) (G : Value → Nat → Prop) (y : Value) (s₄ : Shared) : Prop := ∃ h' tk', s₄ = { s with heap := h', toks := tk' } ∧ Kp h h' ∧ G y tk'
/-- the comprehension's values say all: over a range -/
theorem comp_range_V {elt iter : Expr} {x : Str} {px : Pos} {scope : Scope} {cl : List (Str × Addr)} {pos : Pos} {L : Addr} {r : Addr} {a b c : Int} {t u v : Tok} {n : Nat} {Q : Value → Shared → Prop} {s : Shared}
    (G : Nat → List Value → Nat → Prop)
    (hh : A.handled = none) (F : Fr h₀ L s.heap m₀) (N : News h₀ L s.heap news)
    (hr : IsRange s.heap r a b c t u v) (hsmall : Builtin.Range.small a b c = true) (hn : Builtin.Range.rangeSize a b c = n)
    (hG0 : ∀ tk, G 0 [] tk) (mono : ∀ i ys tk tk', G i ys tk → tk ≤ tk' → G i ys tk')
    (turn : ∀ C i ys h t0 tk mc, i < n → G i ys t0 → ys.length = i → s.toks ≤ t0 → t0 < tk → Fr h₀ C h (upd x (.int (a + i * c) t0) mc) → News h₀ C h news →
      wpAny (model prog w) A (eval elt (compEnvC scope cl C env)) (CEnd s h fun y tk' => G (i + 1) (ys ++ [y]) tk') (fun _ _ => False) { s with heap := h, toks := tk })
    (done : ∀ D ys nD h tk, G n ys tk → ys.length = n → s.toks ≤ tk → s.heap.objs.size ≤ D → Kp s.heap h → Fr h₀ L h m₀ → News h₀ L h ((D, lstObj ys nD) :: news) → Q (.ref D) { s with heap := h, toks := tk })
    (hsz : n ≤ sizeLine := by size_fits)
    (hcell : ∀ y ∈ scope.names, y.2 ≠ .cell := by decide) (hkind : scope.kind = .function := by rfl) (hx : scope.names.lookup x = some .local := by rfl) :
    wpAny (model prog w) A (pyIter (.ref r)) (fun it s₂ => wpAny (model prog w) A (newList []) (fun acc s₃ =>
      wpAny (model prog w) A (newFunctionEnv scope env.globals cl [] env.qual none .none (some env)) (fun cenv s₄ =>
        codeAny (model prog w) A (.compStart (.ListComp elt [⟨.Name x px, iter, [], 0⟩] scope pos) 0 it acc { cenv with scope := relabel scope env }) (compPost (model prog w) A E none Q acc cenv.locals) s₄) E s₃) E s₂) E s := by
  refine wpAny_pyIter_range hr hsmall ?_
  have hLt : L < s.heap.objs.size := F.ns.lt
  have kp : ∀ o', Kp s.heap (s.heap.push o') := fun o' b o e => Heap.get?_push_of_some _ e
  refine comp_K (n := n) (It.range hh s.heap.objs.size a c n) (fun i h st => by rw [st]; rfl) (fun i h h' st k => k _ _ (by rw [Heap.size_push]; exact Nat.lt_succ_self _) st)
    (by rw [Heap.size_push]; exact Nat.lt_succ_self _) (by simpa [hn] using Heap.get?_push_size _ rfl) (F.push _) (newsKp N (kp _)) hLt (fun p hp q => absurd (Heap.lt_size (N p hp).1) (q ▸ Nat.lt_irrefl _))
    (fun _ _ i ys _ tk => G i ys tk) (fun _ _ _ tk _ => hG0 tk) (fun _ _ i ys _ _ tk tk' g _ l => mono i ys tk tk' g l) ?_ ?_ hsz hcell hkind hx
  · rintro C D i vv ys h t0 tk mc hi ⟨rfl, hlt⟩ g hl h1 h2 - F' N'
    refine wpAny_mono (turn C i ys h t0 (tk + 1) mc hi g hl h1 (Nat.lt_succ_of_lt hlt) F' N') (fun y s₄ => ?_) fun _ _ e => e
    rintro ⟨h', tk', rfl, k, g'⟩
    exact ⟨h', tk', rfl, k, g'⟩
  · intro C D ys nD h tk g hl h1 h2 F' N' k
    refine done D ys nD h tk g hl h1 ?_ (fun b o e => k b o (fun q => absurd (Heap.lt_size e) (q ▸ Nat.lt_irrefl _)) (kp _ b o e)) F' N'
    rw [Heap.size_push] at h2; exact Nat.le_of_succ_le h2

/-- over a list or a tuple that stands -/
theorem comp_seq_V {elt iter : Expr} {x : Str} {px : Pos} {scope : Scope} {cl : List (Str × Addr)} {pos : Pos} {L : Addr} {r : Addr} {items : Array Value} {Q : Value → Shared → Prop} {s : Shared}
    (G : Nat → List Value → Nat → Prop)
    (hh : A.handled = none) (F : Fr h₀ L s.heap m₀) (N : News h₀ L s.heap news)
    (hr : s.heap.IsList r items ∨ s.heap.IsTuple r items)
    (hG0 : ∀ tk, G 0 [] tk) (mono : ∀ i ys tk tk', G i ys tk → tk ≤ tk' → G i ys tk')
    (turn : ∀ C i vv ys h t0 tk mc, items[i]? = some vv → G i ys t0 → ys.length = i → s.toks ≤ t0 → t0 < tk → Fr h₀ C h (upd x vv mc) → News h₀ C h news →
      wpAny (model prog w) A (eval elt (compEnvC scope cl C env)) (CEnd s h fun y tk' => G (i + 1) (ys ++ [y]) tk') (fun _ _ => False) { s with heap := h, toks := tk })
    (done : ∀ D ys nD h tk, G items.size ys tk → ys.length = items.size → s.toks ≤ tk → s.heap.objs.size ≤ D → Kp s.heap h → Fr h₀ L h m₀ → News h₀ L h ((D, lstObj ys nD) :: news) → Q (.ref D) { s with heap := h, toks := tk })
    (hsz : items.size ≤ sizeLine := by size_fits)
    (hcell : ∀ y ∈ scope.names, y.2 ≠ .cell := by decide) (hkind : scope.kind = .function := by rfl) (hx : scope.names.lookup x = some .local := by rfl) :
    wpAny (model prog w) A (pyIter (.ref r)) (fun it s₂ => wpAny (model prog w) A (newList []) (fun acc s₃ =>
      wpAny (model prog w) A (newFunctionEnv scope env.globals cl [] env.qual none .none (some env)) (fun cenv s₄ =>
        codeAny (model prog w) A (.compStart (.ListComp elt [⟨.Name x px, iter, [], 0⟩] scope pos) 0 it acc { cenv with scope := relabel scope env }) (compPost (model prog w) A E none Q acc cenv.locals) s₄) E s₃) E s₂) E s := by
  have hLt : L < s.heap.objs.size := F.ns.lt
  have kp : ∀ o', Kp s.heap (s.heap.push o') := fun o' b o e => Heap.get?_push_of_some _ e
  have fin : ∀ (o' : Obj) (St : Nat → Heap → Prop) (W : It prog w A s.heap.objs.size items.size St (fun i t0 v tk => items[i]? = some v)), o'.isFreed = false → (∀ i h, St i h → (h.get? s.heap.objs.size).isSome = true) →
      (∀ i h h', St i h → (∀ b o, b < (s.heap.push o').objs.size → h.get? b = some o → h'.get? b = some o) → St i h') → St 0 (s.heap.push o') →
      wpAny (model prog w) A (newList []) (fun acc s₃ =>
        wpAny (model prog w) A (newFunctionEnv scope env.globals cl [] env.qual none .none (some env)) (fun cenv s₄ =>
          codeAny (model prog w) A (.compStart (.ListComp elt [⟨.Name x px, iter, [], 0⟩] scope pos) 0 (.ref s.heap.objs.size) acc { cenv with scope := relabel scope env }) (compPost (model prog w) A E none Q acc cenv.locals) s₄) E s₃) E { s with heap := s.heap.push o' } := by
    intro o' St W _ stI stF st0
    refine comp_K (n := items.size) W stI stF
      (by rw [Heap.size_push]; exact Nat.lt_succ_self _) st0 (F.push _) (newsKp N (kp _)) hLt (fun p hp q => absurd (Heap.lt_size (N p hp).1) (q ▸ Nat.lt_irrefl _))
      (fun _ _ i ys _ tk => G i ys tk) (fun _ _ _ tk _ => hG0 tk) (fun _ _ i ys _ _ tk tk' g _ l => mono i ys tk tk' g l) ?_ ?_ hsz hcell hkind hx
    · rintro C D i vv ys h t0 tk mc hi hv g hl h1 h2 - F' N'
      refine wpAny_mono (turn C i vv ys h t0 (tk + 1) mc hv g hl h1 (Nat.lt_succ_of_le h2) F' N') (fun y s₄ => ?_) fun _ _ e => e
      rintro ⟨h', tk', rfl, k, g'⟩
      exact ⟨h', tk', rfl, k, g'⟩
    · intro C D ys nD h tk g hl h1 h2 F' N' k
      refine done D ys nD h tk g hl h1 ?_ (fun b o e => k b o (fun q => absurd (Heap.lt_size e) (q ▸ Nat.lt_irrefl _)) (kp _ b o e)) F' N'
      rw [Heap.size_push] at h2; exact Nat.le_of_succ_le h2
  have lt1 : ∀ o' : Obj, s.heap.objs.size < (s.heap.push o').objs.size := fun o' => by rw [Heap.size_push]; exact Nat.lt_succ_self _
  rcases hr with hr | hr
  · obtain ⟨or, hor, _⟩ := id hr
    have hrl : r < s.heap.objs.size := Heap.lt_size hor
    refine wpAny_pyIter_list hr (fin _ _ (It.list hh s.heap.objs.size r (Nat.ne_of_lt hrl) items) rfl ?_ ?_ ?_)
    · rintro i h ⟨⟨o, e, _⟩, _⟩; rw [e]; rfl
    · rintro i h h' ⟨st1, st2⟩ k
      exact ⟨st1.at fun o e => k _ o (lt1 _) e, st2.at fun o e => k _ o (Nat.lt_trans hrl (lt1 _)) e⟩
    · exact ⟨⟨_, Heap.get?_push_size _ rfl, rfl, rfl⟩, hr.push _⟩
  · obtain ⟨or, hor, _⟩ := id hr
    have hrl : r < s.heap.objs.size := Heap.lt_size hor
    refine wpAny_pyIter_tuple hr (fin _ _ (It.tuple hh s.heap.objs.size r (Nat.ne_of_lt hrl) items) rfl ?_ ?_ ?_)
    · rintro i h ⟨⟨o, e, _⟩, _⟩; rw [e]; rfl
    · rintro i h h' ⟨st1, st2⟩ k
      exact ⟨st1.at fun o e => k _ o (lt1 _) e, st2.at fun o e => k _ o (Nat.lt_trans hrl (lt1 _)) e⟩
    · exact ⟨⟨_, Heap.get?_push_size _ rfl, rfl, rfl⟩, hr.push _⟩
end
noncomputable def max3F (a b c : UInt64) : UInt64 :=
  if (Float64.cmp b a == some Ordering.gt) = true then (if (Float64.cmp c b == some Ordering.gt) = true then c else b) else (if (Float64.cmp c a == some Ordering.gt) = true then c else a)
noncomputable def min3F (a b c : UInt64) : UInt64 :=
  if (Float64.cmp b a == some Ordering.lt) = true then (if (Float64.cmp c b == some Ordering.lt) = true then c else b) else (if (Float64.cmp c a == some Ordering.lt) = true then c else a)
section
variable {prog : Program} {w : World} {A : Around} {E : Value → Shared → Prop} {s : Shared}
theorem max3_floats {a b c : UInt64} {t u x : Tok} {Q : Value → Shared → Prop} (hh : A.handled = none)
    (h : ∀ t' h' tk, Kp s.heap h' → Q (.float (max3F a b c) t') { s with heap := h', toks := tk }) :
    wpAny (model prog w) A (call (.builtin "max") [.float a t, .float b u, .float c x]) Q E s := by
  let v3 : Nat → UInt64 := fun i => if i = 0 then a else if i = 1 then b else c
  have hT : (s.heap.push { cls := .type "tuple", data := .seq #[.float a t, .float b u, .float c x] }).IsTuple s.heap.objs.size #[.float a t, .float b u, .float c x] := ⟨_, Heap.get?_push_size _ rfl, rfl, 0, by simp⟩
  refine call_max_three (wpAny_pyIter_tuple hT ?_)
  have hsz : (s.heap.push { cls := .type "tuple", data := .seq #[.float a t, .float b u, .float c x] }).objs.size = s.heap.objs.size + 1 := Heap.size_push ..
  have at3 : ∀ (i : Nat) (v : Value), (#[Value.float a t, .float b u, .float c x] : Array Value)[i]? = some v → ∃ t', v = .float (v3 i) t' := fun i v e => by
    match i with
    | 0 => exact ⟨t, by simpa [v3] using e.symm⟩
    | 1 => exact ⟨u, by simpa [v3] using e.symm⟩
    | 2 => exact ⟨x, by simpa [v3] using e.symm⟩
    | n + 3 => simp at e
  have hcmp : CmpOf prog w A.in1 .Gt (fun i v => (#[Value.float a t, .float b u, .float c x] : Array Value)[i]? = some v) (fun i j => Float64.cmp (v3 i) (v3 j) == some Ordering.gt) := fun i j vi vj s Q E hi hj q => by
    obtain ⟨t1, rfl⟩ := at3 i vi hi
    obtain ⟨t2, rfl⟩ := at3 j vj hj
    exact AutoFloatOps.gt_0 (prog := prog) (w := w) (A := A.in1) q
  refine ⟨_, [_, s.heap.objs.size], [_], _, _, _, _, rfl, Walks.tuple (A := A.in1) hh _ s.heap.objs.size (by rw [hsz]; exact Nat.ne_of_lt (Nat.lt_succ_self _)) #[.float a t, .float b u, .float c x],
    ⟨⟨_, Heap.get?_push_size _ rfl, rfl, rfl⟩, hT.push _⟩, fun d hd => ?_, by simp, hcmp, fun v h' tk hP hk => ?_⟩
  · show d < ((s.heap.push _).push _).objs.size
    rw [Heap.size_push, hsz]
    rcases List.mem_cons.mp hd with rfl | hd
    · rw [hsz]; exact Nat.lt_succ_self _
    · rcases List.mem_cons.mp hd with rfl | hd
      · exact Nat.lt_succ_of_lt (Nat.lt_succ_self _)
      · cases hd
  · have hold : Kp s.heap h' := fun d o e => by
      refine hk d o (fun hm => ?_) (Heap.get?_push_of_some _ (Heap.get?_push_of_some _ e))
      rcases List.mem_cons.mp hm with e1 | hm
      · have := Heap.lt_size e; rw [e1, hsz] at this; exact Nat.lt_irrefl _ (Nat.lt_of_succ_lt this)
      · cases hm
    obtain ⟨t', rfl⟩ := at3 _ _ hP
    have e : v3 (argBest (fun i j => Float64.cmp (v3 i) (v3 j) == some Ordering.gt) 2) = max3F a b c := by
      simp only [argBest, v3, max3F]
      by_cases h1 : (Float64.cmp b a == some Ordering.gt) = true
      · by_cases h2 : (Float64.cmp c b == some Ordering.gt) = true <;> simp [h1, h2]
      · by_cases h2 : (Float64.cmp c a == some Ordering.gt) = true <;> simp [h1, h2]
    show Q (.float (v3 (argBest (fun i j => Float64.cmp (v3 i) (v3 j) == some Ordering.gt) 2)) t') _
    rw [e]
    exact h t' h' tk hold
theorem min3_floats {a b c : UInt64} {t u x : Tok} {Q : Value → Shared → Prop} (hh : A.handled = none)
    (h : ∀ t' h' tk, Kp s.heap h' → Q (.float (min3F a b c) t') { s with heap := h', toks := tk }) :
    wpAny (model prog w) A (call (.builtin "min") [.float a t, .float b u, .float c x]) Q E s := by
  let v3 : Nat → UInt64 := fun i => if i = 0 then a else if i = 1 then b else c
  have hT : (s.heap.push { cls := .type "tuple", data := .seq #[.float a t, .float b u, .float c x] }).IsTuple s.heap.objs.size #[.float a t, .float b u, .float c x] := ⟨_, Heap.get?_push_size _ rfl, rfl, 0, by simp⟩
  refine call_min_three (wpAny_pyIter_tuple hT ?_)
  have hsz : (s.heap.push { cls := .type "tuple", data := .seq #[.float a t, .float b u, .float c x] }).objs.size = s.heap.objs.size + 1 := Heap.size_push ..
  have at3 : ∀ (i : Nat) (v : Value), (#[Value.float a t, .float b u, .float c x] : Array Value)[i]? = some v → ∃ t', v = .float (v3 i) t' := fun i v e => by
    match i with
    | 0 => exact ⟨t, by simpa [v3] using e.symm⟩
    | 1 => exact ⟨u, by simpa [v3] using e.symm⟩
    | 2 => exact ⟨x, by simpa [v3] using e.symm⟩
    | n + 3 => simp at e
  have hcmp : CmpOf prog w A.in1 .Lt (fun i v => (#[Value.float a t, .float b u, .float c x] : Array Value)[i]? = some v) (fun i j => Float64.cmp (v3 i) (v3 j) == some Ordering.lt) := fun i j vi vj s Q E hi hj q => by
    obtain ⟨t1, rfl⟩ := at3 i vi hi
    obtain ⟨t2, rfl⟩ := at3 j vj hj
    exact AutoFloatOps.lt_0 (prog := prog) (w := w) (A := A.in1) q
  refine ⟨_, [_, s.heap.objs.size], [_], _, _, _, _, rfl, Walks.tuple (A := A.in1) hh _ s.heap.objs.size (by rw [hsz]; exact Nat.ne_of_lt (Nat.lt_succ_self _)) #[.float a t, .float b u, .float c x],
    ⟨⟨_, Heap.get?_push_size _ rfl, rfl, rfl⟩, hT.push _⟩, fun d hd => ?_, by simp, hcmp, fun v h' tk hP hk => ?_⟩
  · show d < ((s.heap.push _).push _).objs.size
    rw [Heap.size_push, hsz]
    rcases List.mem_cons.mp hd with rfl | hd
    · rw [hsz]; exact Nat.lt_succ_self _
    · rcases List.mem_cons.mp hd with rfl | hd
      · exact Nat.lt_succ_of_lt (Nat.lt_succ_self _)
      · cases hd
  · have hold : Kp s.heap h' := fun d o e => by
      refine hk d o (fun hm => ?_) (Heap.get?_push_of_some _ (Heap.get?_push_of_some _ e))
      rcases List.mem_cons.mp hm with e1 | hm
      · have := Heap.lt_size e; rw [e1, hsz] at this; exact Nat.lt_irrefl _ (Nat.lt_of_succ_lt this)
      · cases hm
    obtain ⟨t', rfl⟩ := at3 _ _ hP
    have e : v3 (argBest (fun i j => Float64.cmp (v3 i) (v3 j) == some Ordering.lt) 2) = min3F a b c := by
      simp only [argBest, v3, min3F]
      by_cases h1 : (Float64.cmp b a == some Ordering.lt) = true
      · by_cases h2 : (Float64.cmp c b == some Ordering.lt) = true <;> simp [h1, h2]
      · by_cases h2 : (Float64.cmp c a == some Ordering.lt) = true <;> simp [h1, h2]
    show Q (.float (v3 (argBest (fun i j => Float64.cmp (v3 i) (v3 j) == some Ordering.lt) 2)) t') _
    rw [e]
    exact h t' h' tk hold
end

abbrev f1 : UInt64 := 4607182418800017408
abbrev fSixth : UInt64 := 4595172819793696085
abbrev fHalf : UInt64 := 4602678819172646912
abbrev fTwoThird : UInt64 := 4604180019048437077
abbrev fThird : UInt64 := 4599676419421066581
abbrev f6 : UInt64 := 4618441417868443648
abbrev f2 : UInt64 := 4611686018427387904
abbrev f4 : UInt64 := 4616189618054758400
noncomputable def vF (m1 m2 c : UInt64) : UInt64 :=
  if (Float64.cmp (Float64.divmod c f1).snd fSixth == some Ordering.lt) = true then Float64.add m1 (Float64.mul (Float64.mul (Float64.sub m2 m1) (Float64.divmod c f1).snd) f6)
  else if (Float64.cmp (Float64.divmod c f1).snd fHalf == some Ordering.lt) = true then m2
  else if (Float64.cmp (Float64.divmod c f1).snd fTwoThird == some Ordering.lt) = true then Float64.add m1 (Float64.mul (Float64.mul (Float64.sub m2 m1) (Float64.sub fTwoThird (Float64.divmod c f1).snd)) f6)
  else m1
section
variable {w : World} {p : Program} {loose : List Str} {mean : ExcName → Option Value} {mg mb : Str → Option Value} {A : Around} {s : Shared} {Q E : Value → Shared → Prop}
set_option maxHeartbeats 4000000 in
theorem c_v (hA : Rm 1 A) (X : (hd.heap_1 w.params).In s.heap) (T : Top p loose mean mg mb s.heap)
    {a b c : UInt64} {t u v : Tok} (ret : ∀ t h' tk', Kp s.heap h' → Q (.float (vF a b c) t) { s with heap := h', toks := tk' }) :
    wpAny (model PySem.Challenge.rw_tl0018_01.row.prog w) A (call (.ref 35) [.float a t, .float b u, .float c v]) Q E s := by
  obtain ⟨hdl, dp, fr, gd, un⟩ := A
  obtain rfl : hdl = none := hA.1
  revert X; k_fill; intro X
  unfold vF at ret
  walk_at "MYENTER"
  k_steps
  all_goals (simp only [*, if_true, if_false, Bool.false_eq_true] at ret; exact ret _ _ _ (Fr.keep (by assumption)))

local macro_rules | `(tactic| walk_at "call ref") => `(tactic| (k_here; (refine' c_v (by walk_at "MYRM") (by k_in) (by walk_at "MYTOP") ?_); intro t9 h9 tk9 K9; walk_at "MYK"))
local macro_rules | `(tactic| walk_at "newTuple") => `(tactic| (k_dflt (refine newTuple_N (by assumption) (by assumption) ?_); intro h9 F9 N9; (try dsimp only)))
noncomputable def hlsM2 (l s : UInt64) : UInt64 :=
  if (Float64.cmp l fHalf == some Ordering.lt || Float64.cmp l fHalf == some Ordering.eq) = true then Float64.mul l (Float64.add f1 s) else Float64.sub (Float64.add l s) (Float64.mul l s)
noncomputable def hlsM1 (l s : UInt64) : UInt64 := Float64.sub (Float64.mul f2 l) (hlsM2 l s)
noncomputable def hlsM2' (l : UInt64) (s : Int) : UInt64 := Float64.mul l (Float64.add f1 (Float64.ofInt s))
noncomputable def hlsM1' (l : UInt64) (s : Int) : UInt64 := Float64.sub (Float64.mul f2 l) (hlsM2' l s)
set_option maxHeartbeats 4000000 in
theorem c_hls (hA : Rm 2 A) (X : (hd.heap_1 w.params).In s.heap) (T : Top p loose mean mg mb s.heap)
    {a b c : UInt64} {t u v : Tok} (hc : (Float64.cmp c 0 == some Ordering.eq) = false)
    (ret : ∀ l t1 t2 t3 h' tk', Kp s.heap h' → s.heap.objs.size ≤ l → h'.get? l = some { cls := .type "tuple", data := .seq #[.float (vF (hlsM1 b c) (hlsM2 b c) (Float64.add a fThird)) t1, .float (vF (hlsM1 b c) (hlsM2 b c) a) t2, .float (vF (hlsM1 b c) (hlsM2 b c) (Float64.sub a fThird)) t3] } → Q (.ref l) { s with heap := h', toks := tk' }) :
    wpAny (model PySem.Challenge.rw_tl0018_01.row.prog w) A (call (.ref 28) [.float a t, .float b u, .float c v]) Q E s := by
  obtain ⟨hdl, dp, fr, gd, un⟩ := A
  obtain rfl : hdl = none := hA.1
  revert X; k_fill; intro X
  unfold hlsM1 hlsM2 at ret
  walk_at "MYENTER"
  k_steps
  all_goals (simp only [*, if_true, if_false, Bool.false_eq_true] at ret; exact ret _ _ _ _ _ _ (Fr.keep (by assumption)) (frSize (by assumption)) ((by assumption : News _ _ _ _) _ (List.mem_cons_self ..)).1)
set_option maxHeartbeats 4000000 in
theorem c_hls_one (hA : Rm 2 A) (X : (hd.heap_1 w.params).In s.heap) (T : Top p loose mean mg mb s.heap)
    {a b : UInt64} {t u v : Tok} (hb : b = fHalf)
    (ret : ∀ l t1 t2 t3 h' tk', Kp s.heap h' → s.heap.objs.size ≤ l → h'.get? l = some { cls := .type "tuple", data := .seq #[.float (vF (hlsM1' fHalf 1) (hlsM2' fHalf 1) (Float64.add a fThird)) t1, .float (vF (hlsM1' fHalf 1) (hlsM2' fHalf 1) a) t2, .float (vF (hlsM1' fHalf 1) (hlsM2' fHalf 1) (Float64.sub a fThird)) t3] } → Q (.ref l) { s with heap := h', toks := tk' }) :
    wpAny (model PySem.Challenge.rw_tl0018_01.row.prog w) A (call (.ref 28) [.float a t, .float b u, .int 1 v]) Q E s := by
  subst hb
  obtain ⟨hdl, dp, fr, gd, un⟩ := A
  obtain rfl : hdl = none := hA.1
  revert X; k_fill; intro X
  unfold hlsM1' hlsM2' at ret
  have q1 : (Float64.cmpInt 0 1 == some Ordering.eq) = false := by decide +kernel
  have q2 : (Float64.cmp fHalf fHalf == some Ordering.lt || Float64.cmp fHalf fHalf == some Ordering.eq) = true := by decide +kernel
  walk_at "MYENTER"
  k_steps
  all_goals exact ret _ _ _ _ _ _ (Fr.keep (by assumption)) (frSize (by assumption)) ((by assumption : News _ _ _ _) _ (List.mem_cons_self ..)).1
set_option maxHeartbeats 4000000 in
theorem c_hls_nil (hA : Rm 2 A) (X : (hd.heap_1 w.params).In s.heap) (T : Top p loose mean mg mb s.heap)
    {a b : UInt64} {t u v : Tok} 
    (ret : ∀ l t1 t2 t3 h' tk', Kp s.heap h' → s.heap.objs.size ≤ l → h'.get? l = some { cls := .type "tuple", data := .seq #[.float (b) t1, .float (b) t2, .float (b) t3] } → t1 = u ∧ t2 = u ∧ t3 = u → Q (.ref l) { s with heap := h', toks := tk' }) :
    wpAny (model PySem.Challenge.rw_tl0018_01.row.prog w) A (call (.ref 28) [.float a t, .float b u, .int 0 v]) Q E s := by
  obtain ⟨hdl, dp, fr, gd, un⟩ := A
  obtain rfl : hdl = none := hA.1
  revert X; k_fill; intro X
  have q1 : (Float64.cmpInt 0 0 == some Ordering.eq) = true := by decide +kernel
  walk_at "MYENTER"
  k_steps
  all_goals exact ret _ _ _ _ _ _ (Fr.keep (by assumption)) (frSize (by assumption)) ((by assumption : News _ _ _ _) _ (List.mem_cons_self ..)).1 ⟨rfl, rfl, rfl⟩

local macro_rules | `(tactic| walk_at "call builtin:max") => `(tactic| (k_here; refine wpAny_with_toks (Nat.le_refl _) ?_; (refine' max3_floats rfl ?_); walk_at "T5"))
local macro_rules | `(tactic| walk_at "call builtin:min") => `(tactic| (k_here; refine wpAny_with_toks (Nat.le_refl _) ?_; (refine' min3_floats rfl ?_); walk_at "T5"))
noncomputable def rgbL (a b c : UInt64) : UInt64 := Float64.div (Float64.add (max3F a b c) (min3F a b c)) f2
noncomputable def rgbS (a b c : UInt64) : UInt64 :=
  if (Float64.cmp (rgbL a b c) fHalf == some Ordering.lt || Float64.cmp (rgbL a b c) fHalf == some Ordering.eq) = true then Float64.div (Float64.sub (max3F a b c) (min3F a b c)) (Float64.add (max3F a b c) (min3F a b c))
  else Float64.div (Float64.sub (max3F a b c) (min3F a b c)) (Float64.sub (Float64.sub f2 (max3F a b c)) (min3F a b c))
noncomputable def rgbC (a b c x : UInt64) : UInt64 := Float64.div (Float64.sub (max3F a b c) x) (Float64.sub (max3F a b c) (min3F a b c))
noncomputable def rgbH (a b c : UInt64) : UInt64 :=
  (Float64.divmod (Float64.div (if (Float64.cmp a (max3F a b c) == some Ordering.eq) = true then Float64.sub (rgbC a b c c) (rgbC a b c b)
    else if (Float64.cmp b (max3F a b c) == some Ordering.eq) = true then Float64.sub (Float64.add f2 (rgbC a b c a)) (rgbC a b c c)
    else Float64.sub (Float64.add f4 (rgbC a b c b)) (rgbC a b c a)) f6) f1).snd
set_option maxHeartbeats 4000000 in
theorem c_rgb (hA : Rm 2 A) (X : (hd.heap_1 w.params).In s.heap) (T : Top p loose mean mg mb s.heap)
    {a b c : UInt64} {t u v : Tok}
    (hne : (Float64.cmp (min3F a b c) (max3F a b c) == some Ordering.eq) = false)
    (h1 : ¬ Float64.isZero (Float64.add (max3F a b c) (min3F a b c)) = true)
    (h2 : ¬ Float64.isZero (Float64.sub (Float64.sub f2 (max3F a b c)) (min3F a b c)) = true)
    (h3 : ¬ Float64.isZero (Float64.sub (max3F a b c) (min3F a b c)) = true)
    (ret : ∀ l t1 t2 t3 h' tk', Kp s.heap h' → s.heap.objs.size ≤ l → h'.get? l = some { cls := .type "tuple", data := .seq #[.float (rgbH a b c) t1, .float (rgbL a b c) t2, .float (rgbS a b c) t3] } → @LE.le Nat _ s.toks t2 → Q (.ref l) { s with heap := h', toks := tk' }) :
    wpAny (model PySem.Challenge.rw_tl0018_01.row.prog w) A (call (.ref 21) [.float a t, .float b u, .float c v]) Q E s := by
  obtain ⟨hdl, dp, fr, gd, un⟩ := A
  obtain rfl : hdl = none := hA.1
  revert X; k_fill; intro X
  unfold rgbH rgbS rgbC rgbL at ret
  walk_at "MYENTER"
  k_steps
  all_goals (simp only [*, if_true, if_false, Bool.false_eq_true] at ret; exact ret _ _ _ _ _ _ (Fr.keep (by assumption)) (frSize (by assumption)) ((by assumption : News _ _ _ _) _ (List.mem_cons_self ..)).1 (by (try dsimp only at *); walk_at "OM"))
set_option maxHeartbeats 4000000 in
theorem c_rgb_eq (hA : Rm 2 A) (X : (hd.heap_1 w.params).In s.heap) (T : Top p loose mean mg mb s.heap)
    {a b c : UInt64} {t u v : Tok}
    (heq : (Float64.cmp (min3F a b c) (max3F a b c) == some Ordering.eq) = true)
    (ret : ∀ l t1 t2 t3 h' tk', Kp s.heap h' → s.heap.objs.size ≤ l → h'.get? l = some { cls := .type "tuple", data := .seq #[.float (0) t1, .float (rgbL a b c) t2, .float (0) t3] } → @LE.le Nat _ s.toks t1 ∧ @LE.le Nat _ s.toks t2 ∧ @LE.le Nat _ s.toks t3 → Q (.ref l) { s with heap := h', toks := tk' }) :
    wpAny (model PySem.Challenge.rw_tl0018_01.row.prog w) A (call (.ref 21) [.float a t, .float b u, .float c v]) Q E s := by
  obtain ⟨hdl, dp, fr, gd, un⟩ := A
  obtain rfl : hdl = none := hA.1
  revert X; k_fill; intro X
  unfold rgbL at ret
  walk_at "MYENTER"
  k_steps
  all_goals exact ret _ _ _ _ _ _ (Fr.keep (by assumption)) (frSize (by assumption)) ((by assumption : News _ _ _ _) _ (List.mem_cons_self ..)).1 ⟨by (try dsimp only at *); walk_at "OM", by (try dsimp only at *); walk_at "OM", by (try dsimp only at *); walk_at "OM"⟩
end
noncomputable def Stop (P : Prop) : Prop := P
theorem Stop.mk {P : Prop} (h : Stop P) : P := h
local macro_rules | `(tactic| walk_at "MYGO") => `(tactic| (k_here; refine wpAny_with_toks (Nat.le_refl _) ?_))
local macro_rules | `(tactic| walk_at "MYLE") => `(tactic| ((try dsimp only); walk_at "OM"))
local macro_rules | `(tactic| walk_at "HKCALL") => `(tactic| (walk_at "MYGO"; (refine' c_add (by walk_at "MYRM") (by k_in) (by walk_at "MYTOP") ?_); walk_at "T5"))
local macro_rules | `(tactic| walk_at "HKCALL") => `(tactic| (walk_at "MYGO"; (refine' c_sub (by walk_at "MYRM") (by k_in) (by walk_at "MYTOP") ?_); walk_at "T5"))
local macro_rules | `(tactic| walk_at "HKCALL") => `(tactic| (walk_at "MYGO"; (refine' c_mul (by walk_at "MYRM") (by k_in) (by walk_at "MYTOP") (by assumption) ?_); walk_at "T5"))
local macro_rules | `(tactic| walk_at "HKCALL") => `(tactic| (walk_at "MYGO"; (refine' c_modf (by walk_at "MYRM") (by k_in) (by walk_at "MYTOP") (by first | assumption | decide) ?_); intro t9 h9 tk9 K9 ht9 ht9' htk9; (try dsimp only at ht9); (try dsimp only at htk9); walk_at "MYK"))
local macro_rules | `(tactic| walk_at "HKCALL") => `(tactic| (walk_at "MYGO"; (refine' c_ipow (by walk_at "MYRM") (by k_in) (by walk_at "MYTOP") (by first | assumption | decide) (by assumption) ?_); walk_at "T5"))
local macro_rules | `(tactic| walk_at "HKCALL") => `(tactic| (walk_at "MYGO"; (refine' c_six ?cA ?cX ?cT ?cl ?ci ?cg ?_); (case cA => walk_at "MYRM"); (case cX => k_in); (case cT => walk_at "MYTOP"); (case cl => exact Heap.IsList.at (by assumption) (fun o e => Fr.keep (by assumption) _ o e)); (case cg => assumption); (case ci => exact IntsT.mono (by assumption) (by walk_at "MYLE")); intro t9 h9 tk9 K9 htk9 htk9'; (try dsimp only at htk9); (try dsimp only at htk9'); walk_at "MYK"))
local macro_rules | `(tactic| walk_at "HKCALL") => `(tactic| (walk_at "MYGO"; (refine' c_whole (by walk_at "MYRM") (by k_in) (by walk_at "MYTOP") (by first | assumption | (fail "whole: finite?")) ?_); walk_at "T5"))
local macro_rules | `(tactic| walk_at "eval ListComp") => `(tactic| (k_dflt (refine evalComp (by with_unfolding_all rfl) (by rfl) (by decide) ?_)))
local macro_rules | `(tactic| walk_at "call type:range") => `(tactic| (k_here; first | (k_dflt (refine range1F (by assumption) (by assumption) ?_); intro h9 R9 F9 N9; (try dsimp only)) | (k_dflt (refine range2F (by assumption) (by assumption) ?_); intro h9 R9 F9 N9; (try dsimp only))))
local macro_rules | `(tactic| walk_at "binaryOp Div int int") => `(tactic| (k_dflt (refine divii rfl (by first | assumption | decide) (by first | assumption | decide +kernel) ?_)))
local macro_rules | `(tactic| walk_at "binaryOp Add float int") => `(tactic| (k_dflt (refine add_fi_fits (by first | assumption | decide +kernel) ?_)))
local macro_rules | `(tactic| walk_at "binaryOp Mult int float") => `(tactic| (k_dflt (refine mul_if_fits (by first | assumption | decide +kernel) ?_)))
local macro_rules | `(tactic| walk_at "binaryOp Mult float int") => `(tactic| (k_dflt (refine mul_fi_fits (by first | assumption | decide +kernel) ?_)))
local macro_rules | `(tactic| walk_at "call builtin:list.append") => `(tactic| (k_here; (with_reducible show wpAny _ _ (call (Value.builtin _) [Value.ref _, _]) _ _ _); k_dflt (refine' append_K (by k_asm) (by k_asm) (by k_upd) ?_ (by first | assumption | size_fits); k_whole); intro h' F' N'; (try k_sweep)))
local macro_rules | `(tactic| walk_at "HKCALL") => `(tactic| (walk_at "MYGO"; (refine' c_countOf (by walk_at "MYRM") (by k_in) (by walk_at "MYTOP") (by exact News.isList (by assumption) (by k_mem)) (by exact IntsT.mono (by assumption) (by walk_at "MYLE")) (by first | assumption | decide) (by exact Nat.ne_of_gt (by walk_at "MYLE")) ?_); intro t9 h9 tk9 K9 htk9 htk9'; (try dsimp only at htk9); (try dsimp only at htk9'); walk_at "MYK"))
local macro_rules | `(tactic| walk_at "KPCHAIN") => `(tactic| (intro b o e; repeat (first | exact e | (rename Kp _ _ => kk; first | (refine kk b o ?_; clear kk) | clear kk))))
local macro_rules | `(tactic| walk_at "call ref") => `(tactic| walk_at "HKCALL")
section
local macro_rules | `(tactic| walk_at "exec For Name Call cons nil") => `(tactic| (k_dflt (refine wpAny_For ?_)))
local macro_rules | `(tactic| walk_at "pyIter ref") => `(tactic| (k_dflt (refine Stop.mk ?_)))
section
variable {prog : Program} {w : World} {A : Around} {E : Value → Shared → Prop} {s : Shared} {K : Frag} {p : Program} {loose : List Str} {mean : ExcName → Option Value} {mg mb : Str → Option Value} {Q : Value → Shared → Prop}
  {name qual : Str} {params : Arguments} {body : List Stmt} {scope : Scope} {dV kV doc pm cdv ct oc : Value} {an od : Option Addr} {osl : Array (Option Value)} {f : Addr} {vs : List Value} {binds : List (Str × Value)}
theorem enterC (X : K.In s.heap) (T : Top p loose mean mg mb s.heap)
    (ho : K.lookup f = some ⟨oc, od, .func (fnOf name qual params body scope dV kV doc pm an cdv ct), osl⟩) (hcd : codeIn K cdv qual = true) (hroom : A.depth < recursionLimit)
    (hbind : BindsTo s (fnOf name qual params body scope dV kV doc pm an cdv ct) ⟨vs, []⟩ binds)
    (hkind : (binds.all fun y => scope.names.lookup y.1 == some .local || scope.names.lookup y.1 == some .cell) = true)
    (hnd : ((cellsFrom 0 scope.names []).map (·.1)).Nodup)
    (hco : scope.isCoroutine = false) (hgen : scope.isGenerator = false) (hk : scope.kind = .function)
    (h : ∀ L' h₁ tk cells, Fr s.heap L' h₁ (bindL (envOfC qual scope L' f cdv).kindOf binds fun _ => none) → News s.heap L' h₁ cells →
      CellsAre (bindC (envOfC qual scope L' f cdv).kindOf binds fun _ => none) (cellsFrom (L' + 1) scope.names []) cells → s.toks ≤ tk →
      wpAny (model prog w) (A.deeper (envOfC qual scope L' f cdv)) (execs body (envOfC qual scope L' f cdv))
        (fun fl s' => Q (match fl with | .ret v => v | _ => .none) s') (fun _ _ => False) { s with heap := h₁, toks := tk }) :
    wpAny (model prog w) A (call (.ref f) vs) Q E s := by
  refine wpAny_call (codeAny_call_function (fd := fnOf name qual params body scope dV kV doc pm an cdv ct) hroom (X _ _ ho) rfl hco hgen rfl (codeRec_of X hcd) (hbind _ _ _ _ ?_))
  refine wpAny_with_toks (n := s.toks) (Nat.le_refl _) ?_
  refine wpAny_newFunctionEnv_cells hk (kindsX hkind _) fun env' he s' x htk => ?_
  subst he
  refine ⟨T.nolimit.keeps x.toInCall.keep, codeAny_func ?_⟩
  obtain ⟨h₁, tk, rfl, _⟩ := x.done
  have hk₁ := x.toInCall.keep
  obtain ⟨cells, NC, Y⟩ := Cl.news (h₀ := s.heap) (Nat.le_refl _) fun n c hm => ⟨x.cell n c (lookup_of_mem_nodup (cellsFrom_names scope.names 0 (s.heap.objs.size + 1) [] [] rfl ▸ hnd) hm), x.above n c hm⟩
  exact wpAny_mono (h s.heap.objs.size h₁ tk cells ⟨x.toInCall.ns, hk₁, Nat.le_refl _⟩ NC Y htk) (fun _ _ x => x) (fun _ _ x => x.elim)
end
section
variable {w : World} {p : Program} {loose : List Str} {mean : ExcName → Option Value} {mg mb : Str → Option Value} {A : Around} {s : Shared} {Q E : Value → Shared → Prop}

local macro_rules | `(tactic| walk_at "call ref") => `(tactic| (walk_at "MYGO"; (refine' c_hls_one (by walk_at "MYRM") (by k_in) (by walk_at "MYTOP") (by (first | assumption | decide +kernel)) ?_); intro l9 t1 t2 t3 h9 tk9 K9 s9 e9 htk9; (try dsimp only at s9); (try dsimp only at htk9); have l1 := newsLt (by assumption) s9; (k_lt l1); have N9 := newsNew (by assumption) (by assumption) K9 s9 e9; have F9 := frKp (by assumption) K9; clear K9; (try dsimp only); (try k_fold)))
local macro_rules | `(tactic| walk_at "compareOp NotEq ref ref") => `(tactic| (k_here; (k_dflt (refine ke_ne_ints (News.isList (by assumption) (by k_mem)) (News.isList (by assumption) (by k_mem)) (IntsV.are (by assumption)) (IntsV.are (by assumption)) (Rm.units (by walk_at "MYRM")) ?_)); (try simp only [eq_self, decide_true, Bool.not_true])))
noncomputable def thirdI (ns : List Int) (q : Int) (i : Nat) : Int := Int.fmod ((ix (pw q (2 + i * 1)) ns : Int) + (ix (pw q (1 - (2 + i * 1))) ns : Int)) 3
noncomputable def thirdsI (ns : List Int) (q : Int) (i : Nat) : List Int := (List.range i).map (thirdI ns q)
noncomputable def lightI (ns : List Int) (q : Int) (i : Nat) : List Int := (List.range 3).map fun (k : Nat) => 2 ^ 30 * ((cnt (thirdsI ns q i) (k : Int) i : Nat) : Int)
theorem CEnd.mk {s : Shared} {h h' : Heap} {G : Value → Nat → Prop} {y : Value} {tk' : Nat} (k : Kp h h') (g : G y tk') : CEnd s h G y { s with heap := h', toks := tk' } := ⟨_, _, rfl, k, g⟩
theorem newsPick {h₀ h : Heap} {L : Addr} {p : Addr × Obj} {l l' : List (Addr × Obj)} (hp : p ∈ l) (N : News h₀ L h l) (N' : News h₀ L h l') : News h₀ L h (p :: l') := fun q hq => by
  rcases List.mem_cons.mp hq with rfl | hq
  · exact N _ hp
  · exact N' _ hq
theorem jmap2 {n1 n2 : Str} {a c d : Option Value} {b : Value} {R : Str → Option Value} :
    (fun y => if y = n1 then a else upd n2 b (fun y => if y = n1 then c else if y = n2 then d else R y) y) = fun y => if y = n1 then a else if y = n2 then some b else R y := by
  funext y
  by_cases h1 : y = n1
  · rw [if_pos h1, if_pos h1]
  rw [if_neg h1, if_neg h1]
  unfold upd
  by_cases h2 : y = n2
  · rw [if_pos h2, if_pos h2]
  rw [if_neg h2, if_neg h2]
  dsimp only
  rw [if_neg h1, if_neg h2]
theorem IntsV.next {ys : List Value} {zs : List Int} {j : Nat} {v : Int} {t : Tok} (g : IntsV ys (zs.take j)) (h : zs[j]? = some v) : IntsV (ys ++ [.int v t]) (zs.take (j + 1)) := by
  rw [List.take_add_one, h]; exact g.snoc
theorem lightDone (ns : List Int) (q : Int) (n k : Nat) (hk : k < 3) : (lightI ns q n)[k]? = some (2 ^ Int.toNat 30 * ((cnt (thirdsI ns q n) (0 + (k : Int) * 1) (thirdsI ns q n).length : Nat) : Int)) := by
  have h : (thirdsI ns q n).length = n := by simp [thirdsI]
  rw [h, Int.zero_add, Int.mul_one]
  unfold lightI
  rw [List.getElem?_map, List.getElem?_range hk]
  rfl
theorem mixMul {ns : List Int} {b : Int} {i : Nat} (h : ns.length ≤ 64) : IntMulOk (2 ^ Int.toNat 30) ((cnt ns b i : Nat) : Int) := by
  refine IntMulOk.of_bits (by decide) (Nat.le_trans ((intBits_le_iff (m := 7)).mpr ?_) (by decide))
  have h1 : cnt ns b i ≤ ns.length := by
    unfold cnt
    exact Nat.le_trans List.countP_le_length (by rw [List.length_take]; exact Nat.min_le_right _ _)
  show cnt ns b i < 128
  walk_at "OM"
theorem thirdsStep {ns : List Int} {q : Int} {i : Nat} : thirdsI ns q i ++ [thirdI ns q i] = thirdsI ns q (i + 1) := by
  unfold thirdsI; rw [List.range_succ, List.map_append]; rfl
theorem lightStep (ns : List Int) (q : Int) (i k : Nat) (hk : k < 3) : (lightI ns q (i + 1))[k]? = some (2 ^ 30 * ((cnt (thirdsI ns q i) (k : Int) i : Nat) : Int) + if thirdI ns q i = k then 2 ^ 30 else 0) := by
  unfold lightI
  rw [List.getElem?_map, List.getElem?_range hk]
  show some _ = some _
  unfold cnt thirdsI
  rw [List.take_of_length_le (by simp), List.take_of_length_le (by simp), List.range_succ, List.map_append]
  simp only [List.countP_append, List.map_cons, List.map_nil, List.countP_cons, List.countP_nil, Nat.zero_add]
  push_cast
  rw [Int.mul_add]
  by_cases h : thirdI ns q i = k <;> simp [h]
noncomputable def mA (a t : Int) : UInt64 := Float64.add (Float64.ofFrac (decide (a < 0) != decide ((3 : Int) < 0)) a.natAbs (Int.natAbs 3)) (Float64.ofInt t)
noncomputable def mP0 (a t : Int) : UInt64 := vF (hlsM1' fHalf 1) (hlsM2' fHalf 1) (Float64.add (mA a t) fThird)
noncomputable def mP1 (a t : Int) : UInt64 := vF (hlsM1' fHalf 1) (hlsM2' fHalf 1) (mA a t)
noncomputable def mP2 (a t : Int) : UInt64 := vF (hlsM1' fHalf 1) (hlsM2' fHalf 1) (Float64.sub (mA a t) fThird)
noncomputable def mOk (x : UInt64) : Bool := Float64.isFinite (Float64.add (Float64.mul (Float64.ofInt (2 ^ 30)) x) (Float64.ofFrac false 1 2))
noncomputable def mVal (x : UInt64) : Int := wholeF (Float64.mul (Float64.ofInt (2 ^ 30)) x)
theorem mTab0 : ∀ a : Fin 3, ∀ t : Fin 5, mOk (mP0 a (t - 2)) = true ∧ mOk (mP1 a (t - 2)) = true ∧ mOk (mP2 a (t - 2)) = true ∧ mVal (mP0 a (t - 2)) = (if (a : Int) = 0 then 2 ^ 30 else 0) ∧ mVal (mP1 a (t - 2)) = (if (a : Int) = 1 then 2 ^ 30 else 0) ∧ mVal (mP2 a (t - 2)) = (if (a : Int) = 2 then 2 ^ 30 else 0) := by decide +kernel
theorem mTab (a : Int) (h1 : 0 ≤ a) (h2 : a < 3) (t : Int) (ht : t.natAbs ≤ 2) : Float64.isFinite (Float64.add (Float64.mul (Float64.ofInt (2 ^ 30)) (mP0 a t)) (Float64.ofFrac false 1 2)) = true ∧ Float64.isFinite (Float64.add (Float64.mul (Float64.ofInt (2 ^ 30)) (mP1 a t)) (Float64.ofFrac false 1 2)) = true ∧ Float64.isFinite (Float64.add (Float64.mul (Float64.ofInt (2 ^ 30)) (mP2 a t)) (Float64.ofFrac false 1 2)) = true ∧
    wholeF (Float64.mul (Float64.ofInt (2 ^ 30)) (mP0 a t)) = (if a = 0 then 2 ^ 30 else 0) ∧ wholeF (Float64.mul (Float64.ofInt (2 ^ 30)) (mP1 a t)) = (if a = 1 then 2 ^ 30 else 0) ∧ wholeF (Float64.mul (Float64.ofInt (2 ^ 30)) (mP2 a t)) = (if a = 2 then 2 ^ 30 else 0) := by
  have := mTab0 ⟨a.toNat, by walk_at "OM"⟩ ⟨(t + 2).toNat, by walk_at "OM"⟩
  have e1 : ((a.toNat : Nat) : Int) = a := by walk_at "OM"
  have e2 : (((t + 2).toNat : Nat) : Int) - 2 = t := by walk_at "OM"
  simp only [e1, e2] at this
  exact this
theorem cellsCons {cm : Str → Option Value} {n : Str} {c : Addr} {l : List (Str × Addr)} {cells : List (Addr × Obj)} (x : CellsAre cm ((n, c) :: l) cells) : ∃ o r, cells = (c, o) :: r ∧ o.data = .cell (cm n) ∧ CellsAre cm l r := by
  cases x with
  | cons d y => exact ⟨_, _, rfl, d, y⟩
theorem cellsNil {cm : Str → Option Value} {cells : List (Addr × Obj)} (x : CellsAre cm [] cells) : cells = [] := by cases x; rfl
theorem cells3K {P : Prop} {cm : Str → Option Value} {n1 n2 n3 : Str} {c1 c2 c3 : Addr} {cells : List (Addr × Obj)} (x : CellsAre cm [(n1, c1), (n2, c2), (n3, c3)] cells) (k : ∀ o1 o2 o3, cells = [(c1, o1), (c2, o2), (c3, o3)] → o1.data = .cell (cm n1) → o2.data = .cell (cm n2) → o3.data = .cell (cm n3) → P) : P := by
  obtain ⟨o1, r1, e1, d1, x1⟩ := cellsCons x
  obtain ⟨o2, r2, e2, d2, x2⟩ := cellsCons x1
  obtain ⟨o3, r3, e3, d3, x3⟩ := cellsCons x2
  exact k o1 o2 o3 (by rw [e1, e2, e3, cellsNil x3]) d1 d2 d3
theorem cells6K {P : Prop} {cm : Str → Option Value} {n1 n2 n3 n4 n5 n6 : Str} {c1 c2 c3 c4 c5 c6 : Addr} {cells : List (Addr × Obj)} (x : CellsAre cm [(n1, c1), (n2, c2), (n3, c3), (n4, c4), (n5, c5), (n6, c6)] cells) (k : ∀ o1 o2 o3 o4 o5 o6, cells = [(c1, o1), (c2, o2), (c3, o3), (c4, o4), (c5, o5), (c6, o6)] → o1.data = .cell (cm n1) → o2.data = .cell (cm n2) → o3.data = .cell (cm n3) → o4.data = .cell (cm n4) → o5.data = .cell (cm n5) → o6.data = .cell (cm n6) → P) : P := by
  obtain ⟨o1, r1, e1, d1, x1⟩ := cellsCons x
  obtain ⟨o2, r2, e2, d2, x2⟩ := cellsCons x1
  obtain ⟨o3, r3, e3, d3, x3⟩ := cellsCons x2
  obtain ⟨o4, r4, e4, d4, x4⟩ := cellsCons x3
  obtain ⟨o5, r5, e5, d5, x5⟩ := cellsCons x4
  obtain ⟨o6, r6, e6, d6, x6⟩ := cellsCons x5
  exact k o1 o2 o3 o4 o5 o6 (by rw [e1, e2, e3, e4, e5, e6, cellsNil x6]) d1 d2 d3 d4 d5 d6
theorem cells8K {P : Prop} {cm : Str → Option Value} {n1 n2 n3 n4 n5 n6 n7 n8 : Str} {c1 c2 c3 c4 c5 c6 c7 c8 : Addr} {cells : List (Addr × Obj)} (x : CellsAre cm [(n1, c1), (n2, c2), (n3, c3), (n4, c4), (n5, c5), (n6, c6), (n7, c7), (n8, c8)] cells) (k : ∀ o1 o2 o3 o4 o5 o6 o7 o8, cells = [(c1, o1), (c2, o2), (c3, o3), (c4, o4), (c5, o5), (c6, o6), (c7, o7), (c8, o8)] → o1.data = .cell (cm n1) → o2.data = .cell (cm n2) → o3.data = .cell (cm n3) → o4.data = .cell (cm n4) → o5.data = .cell (cm n5) → o6.data = .cell (cm n6) → o7.data = .cell (cm n7) → o8.data = .cell (cm n8) → P) : P := by
  obtain ⟨o1, r1, e1, d1, x1⟩ := cellsCons x
  obtain ⟨o2, r2, e2, d2, x2⟩ := cellsCons x1
  obtain ⟨o3, r3, e3, d3, x3⟩ := cellsCons x2
  obtain ⟨o4, r4, e4, d4, x4⟩ := cellsCons x3
  obtain ⟨o5, r5, e5, d5, x5⟩ := cellsCons x4
  obtain ⟨o6, r6, e6, d6, x6⟩ := cellsCons x5
  obtain ⟨o7, r7, e7, d7, x7⟩ := cellsCons x6
  obtain ⟨o8, r8, e8, d8, x8⟩ := cellsCons x7
  exact k o1 o2 o3 o4 o5 o6 o7 o8 (by rw [e1, e2, e3, e4, e5, e6, e7, e8, cellsNil x8]) d1 d2 d3 d4 d5 d6 d7 d8
theorem IntsV.inv {vs : List Value} {a : Int} {zs : List Int} (h : IntsV vs (a :: zs)) : ∃ u r, vs = .int a u :: r ∧ IntsV r zs := by
  cases vs with
  | nil => exact absurd h.len (by simp)
  | cons v r =>
    obtain ⟨u, e⟩ := h.get 0 a rfl
    exact ⟨u, r, congrArg (· :: r) (Option.some.inj e), Nat.succ.inj h.len, fun i n q => h.get (i + 1) n q⟩
theorem IntsV.inv0 {vs : List Value} (h : IntsV vs []) : vs = [] := List.eq_nil_of_length_eq_zero h.len
theorem lenCons {α : Type} {l : List α} {n : Nat} (h : l.length = n + 1) : ∃ a r, l = a :: r ∧ r.length = n := by
  cases l with
  | nil => cases h
  | cons a r => exact ⟨a, r, rfl, Nat.succ.inj h⟩
theorem IntsV.three {vs : List Value} {a b c : Int} (h : IntsV vs [a, b, c]) : ∃ u1 u2 u3, vs = [.int a u1, .int b u2, .int c u3] := by
  obtain ⟨u1, r1, e1, h1⟩ := h.inv
  obtain ⟨u2, r2, e2, h2⟩ := h1.inv
  obtain ⟨u3, r3, e3, h3⟩ := h2.inv
  exact ⟨u1, u2, u3, by rw [e1, e2, e3, h3.inv0]⟩
inductive MixJ (ns : List Int) (q : Int) (l : Addr) (turns : Int) (tq tt : Tok) (L' : Addr) (sz : Nat) (i : Nat) (T : Nat) (m' : Str → Option Value) (news' : List (Addr × Obj)) : Prop
  | mk (vx vth : Option Value) (ll lt : Nat) (c1 c2 c3 : Obj) (lv ths : List Value) (n1 n2 : Nat) (vp : Option Value)
    (e1 : m' = (fun y => if y = Str.ofString "third" then vth else if y = Str.ofString "x" then vx else if y = Str.ofString "turns" then some (.int turns tt) else if y = Str.ofString "powers" then some (.ref l) else if y = Str.ofString "p" then some (.int q tq) else none))
    (e2 : news' = [(lt, listOf ths.toArray n1), (ll, listOf lv.toArray n2), (L' + 1 + 1 + 1, c3), (L' + 1 + 1, c2), (L' + 1, c1)])
    (e3 : c1.data = .cell (some (.ref ll))) (e4 : c2.data = .cell (some (.ref lt))) (e5 : c3.data = .cell vp) (e6 : @LT.lt Nat _ (L' + 3) lt ∧ @LT.lt Nat _ (L' + 3) ll ∧ ll ≠ lt ∧ @LT.lt Nat _ lt sz ∧ @Ne Nat ll sz ∧ ths.length = i)
    (e7 : IntsV lv (lightI ns q i)) (e8 : IntsT T ths (thirdsI ns q i)) : MixJ ns q l turns tq tt L' sz i T m' news'
set_option maxHeartbeats 8000000 in
theorem c_mix (hA : Rm 12 A) (X : (hd.heap_1 w.params).In s.heap) (T : Top p loose mean mg mb s.heap)
    {l : Addr} {ns : List Int} {vs : List Value} {q turns : Int} {tq tt : Tok} (hl : s.heap.IsList l vs.toArray) (hi : IntsT s.toks vs ns) {n : Nat} (ht : turns.natAbs ≤ 2) (hn64 : n ≤ 64) (hn : Builtin.Range.rangeSize 2 q 1 = n) (hsm : Builtin.Range.small 2 q 1 = true)
    (hg : ∀ i : Nat, i < n → Good6 ns q (2 + i * 1) ∧ Good6 ns q (1 - (2 + i * 1)))
    (ret : ∀ l' lv nn h' tk', Kp s.heap h' → s.heap.objs.size ≤ l' → h'.get? l' = some (lstObj lv nn) → IntsV lv (lightI ns q n) → Q (.ref l') { s with heap := h', toks := tk' }) :
    wpAny (model PySem.Challenge.rw_tl0018_01.row.prog w) A (call (.ref 159) [.int q tq, .ref l, .int turns tt]) Q E s := by
  obtain ⟨hdl, dp, fr, gd, un⟩ := A
  obtain rfl : hdl = none := hA.1
  refine wpAny_with_toks (n := s.toks) (Nat.le_refl _) ?_
  revert X; k_fill; intro X
  refine' enterC (binds := [(Str.ofString "p", .int q tq), (Str.ofString "powers", .ref l), (Str.ofString "turns", .int turns tt)]) X T ?k6 ?k7 ?k8 ?k9 ?kB ?c1 ?c2 ?c3 ?c4 ?_
  (case k6 => k_is); (case k7 => k_is); (case k8 => exact Rm.room (by assumption)); (case k9 => exact BindsTo.of_eq rfl); (case kB => exact rfl); (case c1 => decide); (case c2 => exact rfl); (case c3 => exact rfl); (case c4 => exact rfl)
  k_whole
  intro L' h' tk0 cells F' N' Y' htk0
  (try dsimp only)
  (try k_fold)
  refine cells3K Y' fun o3 o2 o1 hc9 d3 d2 d1 => ?_
  subst hc9
  replace d1 : o1.data = .cell none := d1
  replace d2 : o2.data = .cell none := d2
  replace d3 : o3.data = .cell none := d3
  clear Y'
  replace F' : Fr s.heap L' h' (fun y => if y = Str.ofString "turns" then some (.int turns tt) else if y = Str.ofString "powers" then some (.ref l) else if y = Str.ofString "p" then some (.int q tq) else none) := F'
  k_steps
  rename IsRange _ _ _ _ _ _ _ _ => hR
  rename Fr _ _ _ _ => F9
  rename News _ _ _ _ => N9
  rename Heap => hL
  have hszL : @LT.lt Nat _ (L' + 3) hL.objs.size := Heap.lt_size (N9 (L' + 1 + 1 + 1, o3) (by simp)).1
  refine Stop.mk ?_
  refine for_range_N (n := n) (MixJ ns q l turns tq tt L' hL.objs.size) ?mono rfl F9 N9 hR hsm hn ?hcls ?start ?turn ?done
  case mono =>
    rintro i t t' m' news' ⟨vx, vth, ll, lt, c1, c2, c3, lv, ths, n1, n2, vp, e1, e2, e3, e4, e5, e6, e7, e8⟩ h
    exact ⟨vx, vth, ll, lt, c1, c2, c3, lv, ths, n1, n2, vp, e1, e2, e3, e4, e5, e6, e7, e8.mono h⟩
  case hcls =>
    rintro i t m' news' ⟨vx, vth, ll, lt, c1, c2, c3, lv, ths, n1, n2, vp, e1, rfl, e3, e4, e5, ⟨o1, o2, o3, o4, o5, o6⟩, e7, e8⟩ p hp
    simp only [List.mem_cons, List.not_mem_nil, or_false] at hp
    rcases hp with rfl | rfl | rfl | rfl | rfl
    · exact neA (Nat.ne_of_lt o4)
    · exact neA o5
    · exact neA (show @Ne Nat (L' + 1 + 1 + 1) hL.objs.size by walk_at "OM")
    · exact neA (show @Ne Nat (L' + 1 + 1) hL.objs.size by walk_at "OM")
    · exact neA (show @Ne Nat (L' + 1) hL.objs.size by walk_at "OM")
  case start =>
    refine ⟨none, none, _, _, _, _, _, [_, _, _], [], _, _, none, funext ?_, rfl, by assumption, by assumption, by assumption, ?_, ?_, ?_⟩
    · intro y
      by_cases h1 : y = Str.ofString "third"
      · subst h1; rfl
      by_cases h2 : y = Str.ofString "x"
      · subst h2; rfl
      rw [if_neg h1, if_neg h2]
    · have lC := newsLt N9 (Nat.le_refl _)
      k_lt lC
      rename _ < _ ∧ _ < _ ∧ _ < _ ∧ _ < _ => lA
      obtain ⟨a1, a2, -, -⟩ := lA
      rename _ < _ ∧ _ < _ ∧ _ < _ => lB
      exact ⟨a2, lB.1, Nat.ne_of_lt a1, lC.1, Nat.ne_of_lt lC.2.1, rfl⟩
    · exact IntsV.cons (IntsV.cons (IntsV.cons IntsV.nil))
    · exact IntsT.nil
  case done =>
    rintro m' news' h tk ⟨vx, vth, ll, lt, c1, c2, c3, lv, ths, n1, n2, vp, rfl, rfl, e3, e4, e5, ⟨o1, o2, o3, o4, o5, o6⟩, e7, e8⟩ h1 F N
    clear F9 N9 hR
    (try dsimp only at *)
    have hz9 : (thirdsI ns q n).length = n := by simp [thirdsI]
    k_steps
    rename IsRange _ _ _ _ _ _ _ _ => hR9
    refine Stop.mk ?_
    refine comp_range_V (n := 3) (fun j ys tk => IntsV ys ((lightI ns q n).take j)) rfl (by assumption) (by assumption) hR9 rfl rfl ?_ ?_ ?_ ?_
    · exact fun _ => IntsV.nil
    · exact fun _ _ _ _ g _ => g
    · rintro C j ys h t0 tk mc hj g hl h1 h2 F N
      have g1 : IntsV ys ((lightI ns q n).take j) := g
      clear g
      (try dsimp only at *)
      have hm0 : IntMulOk (2 ^ Int.toNat 30) ((cnt (thirdsI ns q n) (0 + (j : Int) * 1) (thirdsI ns q n).length : Nat) : Int) := mixMul (by walk_at "OM")
      have hs0 : smallInt (0 + (j : Int) * 1) = true := by
        obtain rfl | rfl | rfl : j = 0 ∨ j = 1 ∨ j = 2 := by walk_at "OM"
        all_goals decide
      k_steps
      any_goals exact CEnd.mk (by walk_at "KPCHAIN") (g1.next (lightDone ns q n j hj))
      all_goals first | exact Str.ofString "" | exact Value.none | exact ([] : List (Str × Addr)) | exact (0 : Nat)
    · clear hR9
      rename News _ _ _ _ => N9
      intro D ys nD h tk g hl h1 h2 k F N
      have g1 : IntsV ys (lightI ns q n) := g
      clear g
      (try dsimp only at *)
      have l1 := newsLt N9 h2
      k_lt l1
      clear N9
      k_steps
      rename News _ _ _ _ => N9
      rename Fr _ _ _ _ => F9
      exact ret ll lv n2 _ _ F9.keep (Nat.le_trans F9.above (show @LE.le Nat _ L' ll by walk_at "OM")) (N9 (ll, _) (.tail _ (.tail _ (.head _)))).1 e7
  case turn =>
    rintro i t0 m' news' h tk oi hi' ⟨vx, vth, ll, lt, c1, c2, c3, lv, ths, n1, n2, vp, rfl, rfl, e3, e4, e5, ⟨o1, o2, o3, o4, o5, o6⟩, e7, e8⟩ h1 h2 hoi F N
    (try dsimp only at *)
    obtain ⟨g1, g2⟩ := hg i hi'
    have hz9 : ths.toArray.size ≤ sizeLine := Nat.le_trans (show ths.toArray.size ≤ 64 by simp; walk_at "OM") (by decide)
    clear F9 N9 hR
    have r1 : 0 ≤ thirdI ns q i := Int.fmod_nonneg_of_pos _ (by decide)
    have r2 : thirdI ns q i < 3 := Int.fmod_lt_of_pos _ (by decide)
    have hq1 : ((↑(ix (pw q (2 + ↑i * 1)) ns) + ↑(ix (pw q (1 - (2 + ↑i * 1))) ns) : Int).fmod 3).natAbs < 2 ^ 1023 := Nat.lt_trans (show (thirdI ns q i).natAbs < 3 by walk_at "OM") (by decide)
    have hq2 : turns.natAbs < 2 ^ 1023 := Nat.lt_of_le_of_lt ht (by decide)
    have tab := mTab (thirdI ns q i) r1 r2 turns ht
    unfold mP0 mP1 mP2 mA thirdI at tab
    refine and6 tab fun f1 f2 f3 v1 v2 v3 => ?_
    clear tab
    obtain ⟨u1, u2, u3, rfl⟩ := e7.three
    k_steps
    rename IsRange _ _ _ _ _ _ _ _ => hR9
    refine Stop.mk ?_
    refine comp_range_V (n := 3) (fun j ys tk => IntsV ys ((lightI ns q (i + 1)).take j)) rfl (by assumption) (by assumption) hR9 rfl rfl ?_ ?_ ?_ ?_
    · exact fun _ => IntsV.nil
    · exact fun _ _ _ _ g _ => g
    · rintro C j ys h t0 tk mc hj g hl h1 h2 F N
      have g1 : IntsV ys ((lightI ns q (i + 1)).take j) := g
      clear g
      obtain rfl | rfl | rfl : j = 0 ∨ j = 1 ∨ j = 2 := by walk_at "OM"
      · k_steps
        any_goals exact CEnd.mk (by walk_at "KPCHAIN") (g1.next ((lightStep ns q i 0 (by decide)).trans (congrArg some (congrArg (_ + ·) v1.symm))))
        all_goals first | exact Str.ofString "" | exact Value.none | exact ([] : List (Str × Addr)) | exact (0 : Nat)
      · k_steps
        any_goals exact CEnd.mk (by walk_at "KPCHAIN") (g1.next ((lightStep ns q i 1 (by decide)).trans (congrArg some (congrArg (_ + ·) v2.symm))))
        all_goals first | exact Str.ofString "" | exact Value.none | exact ([] : List (Str × Addr)) | exact (0 : Nat)
      · k_steps
        any_goals exact CEnd.mk (by walk_at "KPCHAIN") (g1.next ((lightStep ns q i 2 (by decide)).trans (congrArg some (congrArg (_ + ·) v3.symm))))
        all_goals first | exact Str.ofString "" | exact Value.none | exact ([] : List (Str × Addr)) | exact (0 : Nat)
    · clear hR9
      rename News _ _ _ _ => N9
      intro D ys nD h tk g hl h1 h2 k F N
      have g1 : IntsV ys ((lightI ns q (i + 1)).take 3) := g
      clear g f1 f2 f3 v1 v2 v3 g2
      (try dsimp only at *)
      have l1 := newsLt N9 h2
      k_lt l1
      clear N9
      k_steps
      rename News _ _ _ _ => N9
      rename Fr _ _ _ _ => F9
      simp only [List.push_toArray] at N9
      refine' ⟨_, _, _, [(lt, listOf (List.toArray (ths ++ [_])) (n1 + 1)), (D, lstObj ys nD), (L' + 1 + 1 + 1, _), (L' + 1 + 1, c2), (L' + 1, _)], rfl, F9, newsPick (.tail _ (.tail _ (.head _))) N9 (newsPick (.tail _ (.tail _ (.tail _ (.head _)))) N9 (newsPick (.head _) N9 (newsPick (.tail _ (.tail _ (.tail _ (.tail _ (.tail _ (.head _)))))) N9 (newsPick (.tail _ (.tail _ (.tail _ (.tail _ (.tail _ (.tail _ (.head _))))))) N9 (newsPick (.tail _ (.tail _ (.tail _ (.tail _ (.tail _ (.tail _ (.tail _ (.head _)))))))) N9 News.nil))))),
        ⟨some (.int (2 + ↑i * 1) t0), _, D, lt, _, c2, _, ys, ths ++ [_], n1 + 1, nD, _, jmap2, rfl, by assumption, e4, by assumption, ⟨o1, l1.2.2.2.2.1, Nat.ne_of_gt l1.2.2.1, o4, Nat.ne_of_gt l1.2.1, by simp [o6]⟩, g1, thirdsStep ▸ (e8.mono ?_).snoc (show @LT.lt Nat _ 0 _ from ?_) (show @LT.lt Nat _ _ _ from ?_)⟩⟩
      any_goals (walk_at "MYLE")
end
local macro_rules | `(tactic| walk_at "exec If") => `(tactic| (refine wpAny_If ?_))
section
variable {prog : Program} {w : World} {A : Around} {R : Result → Shared → Prop} {s : Shared}
abbrev tests (prog : Program) (w : World) (A : Around) (ifs : List Expr) (env : Env) : Sem Bool :=
  forIn ifs true fun c r => if r = true then do let ok ← isTrue c env (eval c env); pure (ForInStep.yield ok) else pure (ForInStep.yield r)
theorem compLoop_gen {elt target iter : Expr} {ifs : List Expr} {scope : Scope} {pos : Pos} {it acc : Value} {env : Env} (I : Nat → Shared → Prop)
    (turn : ∀ n s, I n s → wpAny (model prog w) A (pyNext it) (fun r s₁ => match r with
      | none => R (.ok .next) s₁
      | some v => wpAny (model prog w) A (letOwnedTupleGo target it v) (fun _ s₁' => wpAny (model prog w) A (assign target env v) (fun _ s₂ =>
          wpAny (model prog w) A (tests prog w A ifs env) (fun ok s₃ =>
            if ok = true then wpAny (model prog w) A (eval elt env) (fun x s₄ =>
              wpAny (model prog w) A (call (.builtin "list.append") [acc, x]) (fun _ s₅ => ∃ m, m < n ∧ I m s₅) (notedBy (model prog w) A env fun e s' => R (.error e) s') s₄) (notedBy (model prog w) A env fun e s' => R (.error e) s') s₃
            else ∃ m, m < n ∧ I m s₃) (notedBy (model prog w) A env fun e s' => R (.error e) s') s₂) (notedBy (model prog w) A env fun e s' => R (.error e) s') s₁') (notedBy (model prog w) A env fun e s' => R (.error e) s') s₁) (notedBy (model prog w) A env fun e s' => R (.error e) s') s)
    (n : Nat) (h : I n s) :
    codeAny (model prog w) A (.compLoop (.ListComp elt [⟨target, iter, ifs, 0⟩] scope pos) 0 it acc env) R s := by
  refine codeAny_loop rfl I (fun n s hI => ?_) n h
  show wpAny _ A ((compTurn (.ListComp elt [⟨target, iter, ifs, 0⟩] scope pos) 0 it acc env).onRaise (fun x => do noteFrame x env; theTreesLotGoes x)) _ _ s
  refine wpAny_noted ?_
  rw [compTurn_list]
  refine wpAny_bind (wpAny_standAt (wpAny_bind (wpAny_mono (turn n s hI) (fun r s₁ h₁ => ?_) fun _ _ h' => h')))
  cases r with
  | none => exact wpAny_pure h₁
  | some v =>
    refine wpAny_bind (wpAny_mono h₁ (fun _ s₁' h₁' => ?_) fun _ _ h' => h')
    refine wpAny_bind (wpAny_mono h₁' (fun _ s₂ h₂ => wpAny_bind (wpAny_mono h₂ (fun ok s₃ h₃ => ?_) fun _ _ h' => h')) fun _ _ h' => h')
    cases ok with
    | false => exact wpAny_pure ⟨rfl, h₃⟩
    | true =>
      exact wpAny_bind (wpAny_bind (wpAny_mono h₃ (fun x s₄ h₄ => wpAny_bind (wpAny_mono h₄ (fun _ s₅ h₅ => wpAny_pure (wpAny_pure ⟨rfl, h₅⟩)) fun _ _ h' => h')) fun _ _ h' => h'))
end
noncomputable def CEndH (s : Shared) (h : Heap) (G : Value → Heap → Nat → Prop) (y : Value) (s₄ : Shared) : Prop := ∃ h' tk', s₄ = { s with heap := h', toks := tk' } ∧ Kp h h' ∧ G y h' tk'
noncomputable def CSkipH (s : Shared) (h : Heap) (G : Heap → Nat → Prop) (s₄ : Shared) : Prop := ∃ h' tk', s₄ = { s with heap := h', toks := tk' } ∧ Kp h h' ∧ G h' tk'
noncomputable def CeOk (cs : Addr → Prop) (h : Heap) : Prop := ∀ c, cs c → ∃ v₀, h.IsCell c v₀
abbrev Mp := Str → Option Value
inductive CompInv (s : Shared) (St : Nat → Heap → Prop) (D C : Addr) (cs : Addr → Prop) (G : Nat → List Value → Heap → Nat → Prop) (n : Nat) (I : Addr) (k : Nat) (s' : Shared) : Prop
  | mk (h' : Heap) (tk : Nat) (mc : Str → Option Value) (ys : List Value) (i : Nat) (q0 : s' = { s with heap := h', toks := tk }) (q1 : s.toks ≤ tk) (q2 : St i h') (q3 : h'.PlainList D ys.toArray) (q4 : h'.Ns C mc) (q5 : CeOk cs h') (q6 : G i ys h' tk) (q7 : ys.length ≤ i) (q8 : i ≤ n) (q9 : k = n + 1 - i) (q10 : (∀ b o, b < D → b ≠ I → s.heap.get? b = some o → h'.get? b = some o)) : CompInv s St D C cs G n I k s'
section
variable {prog : Program} {w : World} {A : Around} {s : Shared} {h₀ : Heap} {m₀ : Str → Option Value} {news : List (Addr × Obj)} {R : Result → Shared → Prop} {env' : Env}
theorem comp_T {elt iter tgt : Expr} {ifs : List Expr} {scope : Scope} {pos : Pos} {I D C L : Addr} {n : Nat} {St : Nat → Heap → Prop} {P : Nat → Nat → Value → Nat → Prop} {cs : Addr → Prop} {m1 : Mp}
    (W : It prog w A I n St P) (stI : ∀ i h, St i h → (h.get? I).isSome = true) (stF : ∀ i h h', St i h → (∀ b o, b < D → h.get? b = some o → h'.get? b = some o) → St i h')
    (hID : @LT.lt Nat _ I D) (hDC : @LT.lt Nat _ D C) (hcs : ∀ c, cs c → @LT.lt Nat _ C c)
    (hst : St 0 s.heap) (hD : s.heap.PlainList D #[]) (hC : s.heap.Ns C m1) (hCe : CeOk cs s.heap)
    (F : Fr h₀ L s.heap m₀) (N : News h₀ L s.heap news) (hIL : @LT.lt Nat _ L I) (hND : ∀ p ∈ news, @LT.lt Nat _ p.1 D ∧ p.1 ≠ I)
    (G : Nat → List Value → Heap → Nat → Prop) (hG0 : G 0 [] s.heap s.toks)
    (stab : ∀ i ys h h' tk tk', G i ys h tk → (∀ b o, b ≠ C → b ≠ D → b ≠ I → ¬ cs b → h.get? b = some o → h'.get? b = some o) → tk ≤ tk' → G i ys h' tk')
    (Asg : Nat → Value → Mp → Heap → Prop)
    (asg : ∀ i v h mc t0 tk (Q' : Unit → Shared → Prop), i < n → P i t0 v tk → s.toks ≤ t0 → h.Ns C mc → CeOk cs h → St (i + 1) h → (∀ b o, b < D → b ≠ I → s.heap.get? b = some o → h.get? b = some o) →
      (∀ h₃ tk₃ mc₃, tk ≤ tk₃ → h₃.Ns C mc₃ → Asg i v mc₃ h₃ → CeOk cs h₃ → (∀ b o, b ≠ C → b ≠ I → ¬ cs b → h.get? b = some o → h₃.get? b = some o) → St (i + 1) h₃ → Q' () { s with heap := h₃, toks := tk₃ }) →
      wpAny (model prog w) A (letOwnedTupleGo tgt (.ref I) v) (fun _ s' => wpAny (model prog w) A (assign tgt env' v) Q' (fun _ _ => False) s') (fun _ _ => False) { s with heap := h, toks := tk })
    (turn : ∀ i v ys h t0 tk tk₁ mc, i < n → P i t0 v tk → G i ys h t0 → ys.length ≤ i → s.toks ≤ t0 → t0 ≤ tk → tk ≤ tk₁ → (∀ b, b = C ∨ b = D ∨ b = I ∨ cs b → (h.get? b).isSome = true) → Fr h₀ C h mc → News h₀ C h news → Asg i v mc h →
      wpAny (model prog w) A (tests prog w A ifs env') (fun ok s₃ => if ok = true then wpAny (model prog w) A (eval elt env') (CEndH s h fun y h' tk' => G (i + 1) (ys ++ [y]) h' tk') (fun _ _ => False) s₃
        else CSkipH s h (fun h' tk' => G (i + 1) ys h' tk') s₃) (fun _ _ => False) { s with heap := h, toks := tk₁ })
    (done : ∀ ys nD h tk m, G n ys h tk → ys.length ≤ n → s.toks ≤ tk → Fr h₀ L h m₀ → News h₀ L h ((D, lstObj ys nD) :: news) → h.Ns C m → (∀ b o, b < D → b ≠ I → s.heap.get? b = some o → h.get? b = some o) → R (.ok .next) { s with heap := h, toks := tk })
    (hsz : n ≤ sizeLine := by size_fits) :
    codeAny (model prog w) A (.compStart (.ListComp elt [⟨tgt, iter, ifs, 0⟩] scope pos) 0 (.ref I) (.ref D) env') R s := by
  have h0s : ∀ b o, h₀.get? b = some o → @LT.lt Nat _ b L := fun b o e => Nat.lt_of_lt_of_le (Heap.lt_size e) F.above
  have h0I : ∀ b o, h₀.get? b = some o → b ≠ I := fun b o e => neA (by have := h0s b o e; walk_at "OM")
  have csC : ∀ b, cs b → b ≠ C ∧ b ≠ D ∧ b ≠ I := fun b hb => by have := hcs b hb; exact ⟨neA (by walk_at "NEQ"), neA (by walk_at "NEQ"), neA (by walk_at "NEQ")⟩
  have ncs : ∀ b : Addr, @LT.lt Nat _ b D → ¬ cs b := fun b hb q => by have := hcs b q; walk_at "OM"
  have ltC : ∀ b : Addr, @LT.lt Nat _ b D → b ≠ C := fun b hb => neA (by walk_at "NEQ")
  have ltD : ∀ b : Addr, @LT.lt Nat _ b D → b ≠ D := fun b hb => neA (by walk_at "NEQ")
  have h0D : h₀.get? D = none := by
    cases q : h₀.get? D with
    | none => rfl
    | some o => exact absurd (h0s _ _ q) (by walk_at "OM")
  have ce : ∀ h h', CeOk cs h → (∀ b o, cs b → h.get? b = some o → h'.get? b = some o) → CeOk cs h' := fun h h' x k c hc => by
    obtain ⟨v, o, e, d⟩ := x c hc
    exact ⟨v, o, k c o hc e, d⟩
  have loop : codeAny (model prog w) A (.compLoop (.ListComp elt [⟨tgt, iter, ifs, 0⟩] scope pos) 0 (.ref I) (.ref D) env') R s := by
    refine compLoop_gen
      (CompInv s St D C cs G n I) ?_ (n + 1)
      ⟨s.heap, s.toks, _, [], 0, rfl, Nat.le_refl _, hst, hD, hC, hCe, hG0, Nat.le_refl _, Nat.zero_le _, rfl, fun b o _ _ e => e⟩
    rintro k s' ⟨H, tk, mc, ys, i, rfl, htk, hst', hacc', hn', hce', hG, hyl, hi, rfl, hk⟩
    have ne1 : C ≠ I := neA (by walk_at "NEQ")
    have ne2 : D ≠ I := neA (by walk_at "NEQ")
    have ne3 : D ≠ C := neA (by walk_at "NEQ")
    by_cases hlt : i < n
    · refine W.item i _ _ _ hlt hst' fun v h₂ tk₁ htk₁ hPv hst₂ hk₂ => ?_
      refine never_noted (wpAny_mono (asg i v h₂ mc tk tk₁ (fun _ s₃ => wpAny (model prog w) A (tests prog w A ifs env') (fun ok s₃ =>
            if ok = true then wpAny (model prog w) A (eval elt env') (fun x s₄ =>
              wpAny (model prog w) A (call (.builtin "list.append") [.ref D, x]) (fun _ s₅ => ∃ m, m < (n + 1 - i) ∧ CompInv s St D C cs G n I m s₅) (notedBy (model prog w) A env' fun e s' => R (.error e) s') s₄) (notedBy (model prog w) A env' fun e s' => R (.error e) s') s₃
            else ∃ m, m < (n + 1 - i) ∧ CompInv s St D C cs G n I m s₃) (notedBy (model prog w) A env' fun e s' => R (.error e) s') s₃) hlt hPv htk (hn'.at' fun o e => hk₂ _ o ne1 e) (ce _ _ hce' fun b o hb e => hk₂ b o (csC b hb).2.2 e) hst₂
        (fun b o hb hbI e => hk₂ b o hbI (hk b o hb hbI e)) ?_) (fun _ s₂ h₂ => never_noted h₂) fun _ _ e => e)
      intro h₃ tk₃ mc₃ htk₃ hn₃ hA₃ hce₃ hs₃ hst₃
      have hold : ∀ b o, b < D → b ≠ I → s.heap.get? b = some o → h₃.get? b = some o := fun b o hb hbI e => hs₃ b o (ltC b hb) hbI (ncs b hb) (hk₂ b o hbI (hk b o hb hbI e))
      have hG₃ : G i ys h₃ tk := stab _ _ _ _ _ _ hG (fun b o hbC hbD hbI hbc e => hs₃ b o hbC hbI hbc (hk₂ b o hbI e)) (Nat.le_refl _)
      obtain ⟨nn, e₁⟩ := hacc'
      have nDc : ¬ cs D := fun q => (csC D q).2.1 rfl
      have e₃ := hs₃ D _ ne3 ne2 nDc (hk₂ D _ ne2 e₁)
      have hacc₃ : h₃.PlainList D ys.toArray := ⟨nn, e₃⟩
      have F₃ : Fr h₀ C h₃ mc₃ := ⟨hn₃, fun b o e => hold b o (show @LT.lt Nat _ b D by have := h0s b o e; walk_at "OM") (h0I b o e) (F.keep b o e), Nat.le_trans F.above (show @LE.le Nat _ L C by walk_at "OM")⟩
      have N₃ : News h₀ C h₃ news := fun p hp => ⟨hold _ _ (hND p hp).1 (hND p hp).2 (N p hp).1, ltC _ (hND p hp).1, (N p hp).2.2⟩
      have hE : ∀ b, b = C ∨ b = D ∨ b = I ∨ cs b → (h₃.get? b).isSome = true := by
        rintro b (rfl | rfl | rfl | hb)
        · obtain ⟨o, _, _, e, _⟩ := hn₃; rw [show h₃.get? b = some o from e]; rfl
        · rw [e₃]; rfl
        · exact stI _ _ hst₃
        · obtain ⟨_, o, e, _⟩ := hce₃ b hb; rw [e]; rfl
      refine wpAny_with_toks (n := s.toks) (Nat.le_trans htk (Nat.le_trans htk₁ htk₃)) (never_noted (wpAny_mono (turn i v ys h₃ tk tk₁ tk₃ mc₃ hlt hPv hG₃ hyl htk htk₁ htk₃ hE F₃ N₃ hA₃) (fun ok s₄ h₄ htk₄ => ?_) fun _ _ e => e))
      cases ok with
      | false =>
        rw [if_neg (by decide)] at h₄ ⊢
        obtain ⟨h₅, tk₅, rfl, kp, hG₅⟩ := h₄
        exact ⟨n + 1 - (i + 1), by walk_at "OM", h₅, tk₅, mc₃, ys, i + 1, rfl, htk₄, stF _ _ _ hst₃ fun b o _ e => kp b o e, ⟨nn, kp _ _ e₃⟩, hn₃.keeps kp, ce _ _ hce₃ fun b o _ e => kp b o e, hG₅, by walk_at "OM", hlt, rfl, fun b o hb hbI e => kp b o (hold b o hb hbI e)⟩
      | true =>
        rw [if_pos rfl] at h₄ ⊢
        refine wpAny_with_toks (n := s.toks) htk₄ (never_noted (wpAny_mono h₄ (fun y s₅ h₅ htk₅ => ?_) fun _ _ e => e))
        obtain ⟨h₅, tk₅, rfl, kp, hG₅⟩ := h₅
        have hys : ys.toArray.size ≤ sizeLine := by simp; walk_at "OM"
        refine wpAny_list_append_plain (hsz := hys) ⟨nn, kp _ _ e₃⟩ fun h₆ hl₆ hs₆ => ?_
        replace hs₆ : Heap.SameBut D h₅ h₆ := hs₆
        refine ⟨n + 1 - (i + 1), by walk_at "OM", h₆, tk₅, _, ys ++ [y], i + 1, rfl, htk₅, ?_, by simpa using hl₆, (hn₃.keeps kp).sameBut hs₆ (Ne.symm ne3), ce _ _ hce₃ fun b o hb e => hs₆.extBut b o (csC b hb).2.1 (kp b o e), ?_, by simp; walk_at "OM", hlt, rfl,
          fun b o hb hbI e => hs₆.extBut b o (ltD b hb) (kp b o (hold b o hb hbI e))⟩
        · exact stF _ _ h₆ hst₃ fun b o hb e => hs₆.extBut b o (ltD b hb) (kp b o e)
        · exact stab _ _ _ h₆ _ _ hG₅ (fun b o hbC hbD hbI hbc e => hs₆.extBut b o hbD e) (Nat.le_refl _)
    · have hin : i = n := by walk_at "OM"
      subst hin
      refine W.done _ _ _ hst' fun h₂ hk₂ => ?_
      have hold : ∀ b o, b < D → b ≠ I → s.heap.get? b = some o → h₂.get? b = some o := fun b o hb hbI e => hk₂ b o hbI (hk b o hb hbI e)
      obtain ⟨nD, eD⟩ := hacc'
      have hLI : @LT.lt Nat _ L D := by walk_at "OM"
      have F₃ : Fr h₀ L h₂ m₀ := ⟨F.ns.at' fun o e => hold _ o hLI (neA (by walk_at "NEQ")) e, fun b o e => hold b o (show @LT.lt Nat _ b D by have := h0s b o e; walk_at "OM") (h0I b o e) (F.keep b o e), F.above⟩
      have N₃ : News h₀ L h₂ news := fun p hp => ⟨hold _ _ (hND p hp).1 (hND p hp).2 (N p hp).1, (N p hp).2⟩
      exact done ys nD h₂ tk mc (stab _ _ _ _ _ _ hG (fun b o hbC hbD hbI hbc e => hk₂ b o hbI e) (Nat.le_refl _)) hyl htk F₃ (newsCons (hk₂ D _ ne2 eD) (neA (by walk_at "NEQ")) h0D N₃) (hn'.at' fun o e => hk₂ _ o ne1 e) hold
  exact codeAny_compStart_list loop (W.self 0 _ _ _ hst loop)
end
section
variable {prog : Program} {w : World} {A : Around} {E : Value → Shared → Prop} {s : Shared} {env : Env} {h₀ : Heap} {m₀ : Mp} {news : List (Addr × Obj)}
theorem comp_start0 {elt iter tgt : Expr} {ifs : List Expr} {scope : Scope} {cl : List (Str × Addr)} {pos : Pos} {I : Addr} {Rf : Value → Addr → Result → Shared → Prop}
    (h : ∀ h₁ m1, Kp s.heap h₁ → h₁.PlainList s.heap.objs.size #[] → h₁.Ns (s.heap.objs.size + 1) m1 →
      codeAny (model prog w) A (.compStart (.ListComp elt [⟨tgt, iter, ifs, 0⟩] scope pos) 0 (.ref I) (.ref s.heap.objs.size) (compEnvC scope cl (s.heap.objs.size + 1) env)) (Rf (.ref s.heap.objs.size) (s.heap.objs.size + 1)) { s with heap := h₁ })
    (hcell : ∀ y ∈ scope.names, y.2 ≠ .cell := by decide) (hkind : scope.kind = .function := by rfl) :
    wpAny (model prog w) A (newList []) (fun acc s₃ => wpAny (model prog w) A (newFunctionEnv scope env.globals cl [] env.qual none .none (some env)) (fun cenv s₄ =>
      codeAny (model prog w) A (.compStart (.ListComp elt [⟨tgt, iter, ifs, 0⟩] scope pos) 0 (.ref I) acc { cenv with scope := relabel scope env }) (Rf acc cenv.locals) s₄) E s₃) E s := by
  refine wpAny_newObj_type (wpAny_newFunctionEnv hcell (by intro y hy; simp at hy) (fun h₁ hns₁ hsb₁ => ?_) hkind)
  dsimp only at hns₁ hsb₁ ⊢
  have e2 : (s.heap.push { cls := .type "list", dict := none, data := .seq ([] : List Value).toArray }).objs.size = s.heap.objs.size + 1 := by rw [Heap.size_push]
  rw [e2] at hns₁ hsb₁ ⊢
  have hne : ∀ b, b < s.heap.objs.size + 1 → b ≠ s.heap.objs.size + 1 := fun b hb => Nat.ne_of_lt hb
  exact h h₁ _ (fun b o e => hsb₁.extBut b o (hne b (Nat.lt_succ_of_lt (Heap.lt_size e))) (Heap.get?_push_of_some _ (Heap.get?_push_of_some _ e)))
    ⟨_, hsb₁.extBut _ _ (hne _ (Nat.lt_succ_self _)) (Heap.get?_push_of_some _ (Heap.get?_push_size _ rfl))⟩ hns₁
theorem comp_startC {elt iter tgt : Expr} {ifs : List Expr} {scope : Scope} {cl : List (Str × Addr)} {pos : Pos} {I : Addr} {x : Str} {Rf : Value → Addr → Result → Shared → Prop}
    (h : ∀ h₁ m1, Kp s.heap h₁ → h₁.PlainList s.heap.objs.size #[] → h₁.Ns (s.heap.objs.size + 1) m1 → h₁.IsCell (s.heap.objs.size + 2) none →
      codeAny (model prog w) A (.compStart (.ListComp elt [⟨tgt, iter, ifs, 0⟩] scope pos) 0 (.ref I) (.ref s.heap.objs.size) (compEnvC scope ((x, s.heap.objs.size + 2) :: cl) (s.heap.objs.size + 1) env)) (Rf (.ref s.heap.objs.size) (s.heap.objs.size + 1)) { s with heap := h₁ })
    (hpc : ∀ h, pushCells h scope.names = h.push { cls := .type "cell", data := .cell none } := by intro _; rfl) (hcf : ∀ n, cellsFrom n scope.names cl = (x, n) :: cl := by intro _; rfl) :
    wpAny (model prog w) A (newList []) (fun acc s₃ => wpAny (model prog w) A (newFunctionEnv scope env.globals cl [] env.qual none .none (some env)) (fun cenv s₄ =>
      codeAny (model prog w) A (.compStart (.ListComp elt [⟨tgt, iter, ifs, 0⟩] scope pos) 0 (.ref I) acc { cenv with scope := relabel scope env }) (Rf acc cenv.locals) s₄) E s₃) E s := by
  refine wpAny_newObj_type ?_
  simp only [newFunctionEnv, Option.isSome_some, if_true]
  refine wpAny_bind (wpAny_alloc ?_)
  refine wpAny_bind (wpAny_layCells _ (fun name kind cells => by cases hkc : kind == NameKind.cell <;> simp [hkc]) _ _ _ _ ?_)
  simp only [List.forIn_nil]
  refine wpAny_bind (wpAny_pure (wpAny_pure ?_))
  dsimp only
  rw [hpc, hcf]
  simp only [Heap.size_push]
  have l1 : ∀ o1 o2 : Obj, ((s.heap.push o1).push o2).objs.size = s.heap.objs.size + 2 := fun o1 o2 => by rw [Heap.size_push, Heap.size_push]
  have l0 : ∀ o1 : Obj, (s.heap.push o1).objs.size = s.heap.objs.size + 1 := fun o1 => by rw [Heap.size_push]
  refine h _ (fun _ => none) (fun b o e => Heap.get?_push_of_some _ (Heap.get?_push_of_some _ (Heap.get?_push_of_some _ e)))
    ⟨_, Heap.get?_push_of_some _ (Heap.get?_push_of_some _ (Heap.get?_push_size _ rfl))⟩ ?_ ⟨{ cls := .type "cell", data := .cell none }, ?_, rfl⟩
  · have := Heap.Ns.new (s.heap.push { cls := .type "list", dict := none, data := .seq ([] : List Value).toArray }) (.type "dict")
    rw [l0] at this
    exact this.keeps fun b o e => Heap.get?_push_of_some _ e
  · have := Heap.get?_push_size (h := ((s.heap.push { cls := .type "list", dict := none, data := .seq ([] : List Value).toArray }).push { cls := .type "dict", data := .dict #[] })) (o := { cls := .type "cell", data := .cell none }) rfl
    rw [l1] at this
    exact this

theorem asgName {x : Str} {px : Pos} {env' : Env} {I : Addr} {v : Value} {h : Heap} {mc : Mp} {C : Addr} {tk : Nat} {Q' : Unit → Shared → Prop} (hC : env'.locals = C) (hn : h.Ns C mc)
    (hx : env'.kindOf x = some .local) (hp : (env'.scope.kind == .class || (env'.scope.kind == .module && env'.locals != env'.globals)) = false)
    (k : ∀ h₃, h₃.Ns C (upd x v mc) → Heap.SameBut C h h₃ → Q' () { s with heap := h₃, toks := tk + 1 }) :
    wpAny (model prog w) A (letOwnedTupleGo (.Name x px) (.ref I) v) (fun _ s' => wpAny (model prog w) A (assign (.Name x px) env' v) Q' (fun _ _ => False) s') (fun _ _ => False) { s with heap := h, toks := tk } := by
  subst hC
  exact wpAny_of_eq (a := ()) rfl (wpAny_assign_Name (wpAny_storeName_local hx hn k hp))

theorem comp_cell_V {elt iter : Expr} {x : Str} {px : Pos} {scope : Scope} {cl : List (Str × Addr)} {pos : Pos} {L : Addr} {r : Addr} {a b c : Int} {t u v : Tok} {n : Nat} {Q : Value → Shared → Prop}
    (G : Nat → List Value → Nat → Prop)
    (hh : A.handled = none) (F : Fr h₀ L s.heap m₀) (N : News h₀ L s.heap news)
    (hr : IsRange s.heap r a b c t u v) (hsmall : Builtin.Range.small a b c = true) (hn : Builtin.Range.rangeSize a b c = n)
    (hG0 : ∀ tk, G 0 [] tk) (mono : ∀ i ys tk tk', G i ys tk → tk ≤ tk' → G i ys tk')
    (turn : ∀ (C : Nat) i ys h t0 tk mc co, i < n → G i ys t0 → s.toks ≤ t0 → t0 < tk → co.data = .cell (some (.int (a + i * c) t0)) → Fr h₀ C h mc → News h₀ C h ((C + 1, co) :: news) →
      wpAny (model prog w) A (eval elt (compEnvC scope ((x, C + 1) :: cl) C env)) (CEnd s h fun y tk' => G (i + 1) (ys ++ [y]) tk') (fun _ _ => False) { s with heap := h, toks := tk })
    (done : ∀ D ys nD h tk, G n ys tk → s.toks ≤ tk → s.heap.objs.size ≤ D → Kp s.heap h → Fr h₀ L h m₀ → News h₀ L h ((D, lstObj ys nD) :: news) → Q (.ref D) { s with heap := h, toks := tk })
    (hsz : n ≤ sizeLine := by size_fits)
    (hx : ∀ cl' C, (compEnvC scope cl' C env).kindOf x = some .cell := by intro _ _; rfl) (hk : ∀ cl' C, (compEnvC scope cl' C env).scope.kind = .function := by intro _ _; rfl)
    (hpc : ∀ h, pushCells h scope.names = h.push { cls := .type "cell", data := .cell none } := by intro _; rfl) (hcf : ∀ n, cellsFrom n scope.names cl = (x, n) :: cl := by intro _; rfl) :
    wpAny (model prog w) A (pyIter (.ref r)) (fun it s₂ => wpAny (model prog w) A (newList []) (fun acc s₃ =>
      wpAny (model prog w) A (newFunctionEnv scope env.globals cl [] env.qual none .none (some env)) (fun cenv s₄ =>
        codeAny (model prog w) A (.compStart (.ListComp elt [⟨.Name x px, iter, [], 0⟩] scope pos) 0 it acc { cenv with scope := relabel scope env }) (compPost (model prog w) A E none Q acc cenv.locals) s₄) E s₃) E s₂) E s := by
  refine wpAny_pyIter_range hr hsmall ?_
  have hLt : L < s.heap.objs.size := F.ns.lt
  have kp : ∀ o', Kp s.heap (s.heap.push o') := fun o' b o e => Heap.get?_push_of_some _ e
  refine comp_startC (fun h₁ m1 k₁ hD hC hc₁ => ?_) hpc hcf
  dsimp only at k₁ hD hC hc₁ ⊢
  rw [Heap.size_push] at hD hC hc₁ ⊢
  generalize hI : s.heap.objs.size = I at *
  have hst : IsRangeIter h₁ I (a + ((0 : Nat) : Int) * c) ((n : Int) - ((0 : Nat) : Int)) c := by
    have := k₁ _ _ (Heap.get?_push_size _ rfl)
    rw [hI] at this
    simpa [hn] using this
  have keep1 : Kp s.heap h₁ := fun b o e => k₁ b o (kp _ b o e)
  refine comp_T (n := n) (D := I + 1) (C := I + 1 + 1) (cs := fun q => q = I + 1 + 2) (It.range hh I a c n) (fun i h st => by rw [st]; rfl)
    (fun i h h' st k => k _ _ (show @LT.lt Nat _ I (I + 1) by walk_at "OM") st) (show @LT.lt Nat _ I (I + 1) by walk_at "OM") (show @LT.lt Nat _ (I + 1) (I + 1 + 1) by walk_at "OM")
    (fun q hq => by rw [hq]; show @LT.lt Nat _ (I + 1 + 1) (I + 1 + 2); walk_at "OM") hst hD hC (fun q hq => by rw [hq]; exact ⟨_, hc₁⟩)
    (frKp F keep1) (newsKp N keep1) hLt (fun p hp => ⟨?_, ?_⟩) (fun i ys _ tk => G i ys tk) (hG0 _) (fun i ys _ _ tk tk' g _ l => mono i ys tk tk' g l)
    (fun _ vv _ h => h.IsCell (I + 1 + 2) (some vv)) ?_ ?_ ?_ hsz
  · have := Heap.lt_size (N p hp).1
    rw [hI] at this
    exact Nat.lt_succ_of_lt this
  · have := Heap.lt_size (N p hp).1
    rw [hI] at this
    exact Nat.ne_of_lt this
  · rintro i vv h mc t0 tk Q' hi hP h1 hnC hce hst' hold k
    obtain ⟨v₀, hv⟩ := hce _ rfl
    refine wpAny_of_eq (a := ()) rfl (wpAny_assign_Name (wpAny_storeName_cell (c := I + 1 + 2) (hk _ _) (hx _ _) (by simp [compEnvC]) hv fun h₃ hc₃ hs₃ => ?_))
    replace hs₃ : Heap.SameBut (I + 1 + 2) h h₃ := hs₃
    refine k h₃ tk mc (Nat.le_refl _) (hnC.sameBut hs₃ (neA (show I + 1 + 1 ≠ I + 1 + 2 by walk_at "OM"))) hc₃ (fun q hq => by rw [hq]; exact ⟨_, hc₃⟩) (fun b o h1 h2 h3 e => hs₃.extBut b o h3 e) (hs₃.extBut _ _ (neA (show I ≠ I + 1 + 2 by walk_at "OM")) hst')
  · rintro i vv ys h t0 tk tk₁ mc hi ⟨rfl, hlt⟩ g hl h1 h2 h3 - F' N' ⟨co, hco, hcd⟩
    refine wpAny_tests_nil ?_
    rw [if_pos rfl]
    refine wpAny_mono (turn (I + 1 + 1) i ys h t0 tk₁ mc co hi g h1 (Nat.lt_of_lt_of_le hlt h3) hcd F' (newsCons hco (neA (by walk_at "NEQ")) (fresh_ge F' (show @LT.lt Nat _ (I + 1 + 1) (I + 1 + 2) by walk_at "OM")) N')) (fun y s₄ => ?_) fun _ _ e => e
    rintro ⟨h', tk', rfl, kk, g'⟩
    exact ⟨h', tk', rfl, kk, g'⟩
  · intro ys nD h tk m g hl h1 F' N' hm hold
    refine ⟨m, hm, fun h' hs' => ?_⟩
    replace hs' : Heap.SameBut (I + 1 + 1) h h' := hs'
    have hb : ∀ b : Addr, @LT.lt Nat _ b (I + 1 + 1) → b ≠ I + 1 + 1 := fun b hb => neA (by walk_at "NEQ")
    refine done (I + 1) ys nD h' tk g h1 (show @LE.le Nat _ I (I + 1) by walk_at "OM") (fun b o e => ?_) ⟨F'.ns.sameBut hs' (hb _ (show @LT.lt Nat _ L (I + 1 + 1) by have : @LT.lt Nat _ L I := hLt; walk_at "OM")), fun b o e => hs'.extBut b o (hb b (show @LT.lt Nat _ b (I + 1 + 1) by have : @LT.lt Nat _ b L := Nat.lt_of_lt_of_le (Heap.lt_size e) F.above; have : @LT.lt Nat _ L I := hLt; walk_at "OM")) (F'.keep b o e), F'.above⟩ (fun p hp => ⟨hs'.extBut _ _ (hb _ ?_) (N' p hp).1, (N' p hp).2⟩)
    · have hlt : @LT.lt Nat _ b I := hI ▸ Heap.lt_size e
      exact hs'.extBut b o (hb b (by walk_at "OM")) (hold b o (show @LT.lt Nat _ b (I + 1) by walk_at "OM") (neA (by walk_at "NEQ")) (keep1 b o e))
    · rcases List.mem_cons.mp hp with rfl | hp
      · show @LT.lt Nat _ (I + 1) (I + 1 + 1); walk_at "OM"
      · have : @LT.lt Nat _ p.1 I := hI ▸ Heap.lt_size (N p hp).1
        walk_at "OM"
theorem comp_trip_V {elt iter : Expr} {n1 n2 n3 : Str} {p1 p2 p3 tp : Pos} {x1} {scope : Scope} {cl : List (Str × Addr)} {pos : Pos} {L : Addr} {r : Addr} {items : Array Value} {V : Nat → Int × Int × Int} {Q : Value → Shared → Prop}
    (G : Nat → List Value → Nat → Prop)
    (hh : A.handled = none) (F : Fr h₀ L s.heap m₀) (N : News h₀ L s.heap news)
    (hr : s.heap.IsList r items) (hin : ∀ i v, items[i]? = some v → ∃ l t1 t2 t3, v = .ref l ∧ s.heap.IsList l #[.int (V i).1 t1, .int (V i).2.1 t2, .int (V i).2.2 t3])
    (hG0 : ∀ tk, G 0 [] tk) (mono : ∀ i ys tk tk', G i ys tk → tk ≤ tk' → G i ys tk')
    (turn : ∀ C i ys h t0 tk mc t1 t2 t3, i < items.size → G i ys t0 → s.toks ≤ t0 → t0 ≤ tk → Fr h₀ C h (upd n3 (.int (V i).2.2 t3) (upd n2 (.int (V i).2.1 t2) (upd n1 (.int (V i).1 t1) mc))) → News h₀ C h news →
      wpAny (model prog w) A (eval elt (compEnvC scope cl C env)) (CEnd s h fun y tk' => G (i + 1) (ys ++ [y]) tk') (fun _ _ => False) { s with heap := h, toks := tk })
    (done : ∀ D ys nD h tk, G items.size ys tk → s.toks ≤ tk → s.heap.objs.size ≤ D → Kp s.heap h → Fr h₀ L h m₀ → News h₀ L h ((D, lstObj ys nD) :: news) → Q (.ref D) { s with heap := h, toks := tk })
    (hsz : items.size ≤ sizeLine := by size_fits)
    (hcell : ∀ y ∈ scope.names, y.2 ≠ .cell := by decide) (hkind : scope.kind = .function := by rfl)
    (hx1 : scope.names.lookup n1 = some .local := by rfl) (hx2 : scope.names.lookup n2 = some .local := by rfl) (hx3 : scope.names.lookup n3 = some .local := by rfl) :
    wpAny (model prog w) A (pyIter (.ref r)) (fun it s₂ => wpAny (model prog w) A (newList []) (fun acc s₃ =>
      wpAny (model prog w) A (newFunctionEnv scope env.globals cl [] env.qual none .none (some env)) (fun cenv s₄ =>
        codeAny (model prog w) A (.compStart (.ListComp elt [⟨.Tuple [.Name n1 p1, .Name n2 p2, .Name n3 p3] x1 tp, iter, [], 0⟩] scope pos) 0 it acc { cenv with scope := relabel scope env }) (compPost (model prog w) A E none Q acc cenv.locals) s₄) E s₃) E s₂) E s := by
  have hLt : L < s.heap.objs.size := F.ns.lt
  have kp : ∀ o', Kp s.heap (s.heap.push o') := fun o' b o e => Heap.get?_push_of_some _ e
  obtain ⟨or, hor, _⟩ := id hr
  have hrl : @LT.lt Nat _ r s.heap.objs.size := Heap.lt_size hor
  refine wpAny_pyIter_list hr ?_
  refine comp_start0 (fun h₁ m1 k₁ hD hC => ?_) hcell hkind
  dsimp only at k₁ hD hC ⊢
  rw [Heap.size_push] at hD hC ⊢
  generalize hI : s.heap.objs.size = I at *
  have hst : h₁.IsListIter I r 0 ∧ h₁.IsList r items := by
    refine ⟨⟨_, k₁ _ _ (hI ▸ Heap.get?_push_size _ rfl), rfl, rfl⟩, (hr.push _).at fun o e => k₁ _ _ e⟩
  have keep1 : Kp s.heap h₁ := fun b o e => k₁ b o (kp _ b o e)
  refine comp_T (n := items.size) (D := I + 1) (C := I + 1 + 1) (cs := fun _ => False) (It.list hh I r (neA (by walk_at "NEQ")) items) ?_
    (fun i h h' st k => ⟨st.1.at fun o e => k _ o (show @LT.lt Nat _ I (I + 1) by walk_at "OM") e, st.2.at fun o e => k _ o (show @LT.lt Nat _ r (I + 1) by walk_at "OM") e⟩) (show @LT.lt Nat _ I (I + 1) by walk_at "OM") (show @LT.lt Nat _ (I + 1) (I + 1 + 1) by walk_at "OM")
    (fun q hq => hq.elim) hst hD hC (fun q hq => hq.elim)
    (frKp F keep1) (newsKp N keep1) hLt (fun p hp => ⟨?_, ?_⟩) (fun i ys _ tk => G i ys tk) (hG0 _) (fun i ys _ _ tk tk' g _ l => mono i ys tk tk' g l)
    (fun i vv mc h => ∃ t1 t2 t3 m', mc = upd n3 (.int (V i).2.2 t3) (upd n2 (.int (V i).2.1 t2) (upd n1 (.int (V i).1 t1) m'))) ?_ ?_ ?_ hsz
  · rintro i h ⟨⟨o, e, _⟩, _⟩; rw [e]; rfl
  · have := Heap.lt_size (N p hp).1
    rw [hI] at this
    exact Nat.lt_succ_of_lt this
  · have := Heap.lt_size (N p hp).1
    rw [hI] at this
    exact Nat.ne_of_lt this
  · rintro i vv h mc t0 tk Q' hi hP h1 hnC hce hst' hold k
    obtain ⟨l, t1, t2, t3, rfl, hl⟩ := hin i vv hP
    obtain ⟨ol, hol, _⟩ := id hl
    have hll : @LT.lt Nat _ l I := hI ▸ Heap.lt_size hol
    have hCs : @LT.lt Nat _ (I + 1 + 1) h.objs.size := hnC.lt
    have hIs : @LT.lt Nat _ I h.objs.size := by walk_at "OM"
    have hrs : @LT.lt Nat _ r h.objs.size := by walk_at "OM"
    refine wpAny_letOwnedTupleGo_listiter hst'.1 ?_
    rw [arm_assign_Tuple]
    refine wpAny_bind (wpAny_standAt ?_)
    unfold unpack
    refine wpAny_bind (wpAny_holding (kun_itemsOf (items := #[.int (V i).1 t1, .int (V i).2.1 t2, .int (V i).2.2 t3]) hh (hl.at fun o e => hold _ o (show @LT.lt Nat _ l (I + 1) by walk_at "OM") (neA (by walk_at "NEQ")) (keep1 _ o e)) fun h₂ hs₂ => ?_))
    have old : ∀ b o, h.get? b = some o → h₂.get? b = some o := fun b o e => hs₂ b o (Nat.ne_of_lt (Heap.lt_size e)) e
    refine wpAny_assignInOrder_more (wpAny_assign_Name (wpAny_storeName_local (lookup_relabel_local hx1) (hnC.keeps old) (fun h₃ hn₃ hs₃ => ?_) (by simp [compEnvC, relabel, hkind])))
    refine wpAny_assignInOrder_more (wpAny_assign_Name (wpAny_storeName_local (lookup_relabel_local hx2) hn₃ (fun h₄ hn₄ hs₄ => ?_) (by simp [compEnvC, relabel, hkind])))
    refine wpAny_assignInOrder_more (wpAny_assign_Name (wpAny_storeName_local (lookup_relabel_local hx3) hn₄ (fun h₅ hn₅ hs₅ => ?_) (by simp [compEnvC, relabel, hkind])))
    refine wpAny_assignInOrder_none ?_
    have kk : ∀ b o, b ≠ I + 1 + 1 → h.get? b = some o → h₅.get? b = some o := fun b o hb e => hs₅.extBut b o hb (hs₄.extBut b o hb (hs₃.extBut b o hb (old b o e)))
    exact k h₅ (tk + 1 + 1 + 1) _ (Nat.le_add_right tk 3) hn₅ ⟨t1, t2, t3, mc, rfl⟩ (fun q hq => hq.elim) (fun b o hb _ _ e => kk b o hb e)
      ⟨hst'.1.at fun o e => kk _ o (neA (by walk_at "NEQ")) e, hst'.2.at fun o e => kk _ o (neA (by walk_at "NEQ")) e⟩
  · rintro i vv ys h t0 tk tk₁ mc hi hP g hl h1 h2 h3 - F' N' ⟨t1, t2, t3, m', rfl⟩
    refine wpAny_tests_nil ?_
    rw [if_pos rfl]
    refine wpAny_mono (turn (I + 1 + 1) i ys h t0 tk₁ m' t1 t2 t3 hi g h1 (Nat.le_trans h2 h3) F' N') (fun y s₄ => ?_) fun _ _ e => e
    rintro ⟨h', tk', rfl, kk, g'⟩
    exact ⟨h', tk', rfl, kk, g'⟩
  · intro ys nD h tk m g hl h1 F' N' hm hold
    refine ⟨m, hm, fun h' hs' => ?_⟩
    replace hs' : Heap.SameBut (I + 1 + 1) h h' := hs'
    have hb : ∀ b : Addr, @LT.lt Nat _ b (I + 1 + 1) → b ≠ I + 1 + 1 := fun b hb => neA (by walk_at "NEQ")
    refine done (I + 1) ys nD h' tk g h1 (show @LE.le Nat _ I (I + 1) by walk_at "OM") (fun b o e => ?_) ⟨F'.ns.sameBut hs' (hb _ (show @LT.lt Nat _ L (I + 1 + 1) by have : @LT.lt Nat _ L I := hLt; walk_at "OM")), fun b o e => hs'.extBut b o (hb b (show @LT.lt Nat _ b (I + 1 + 1) by have : @LT.lt Nat _ b L := Nat.lt_of_lt_of_le (Heap.lt_size e) F.above; have : @LT.lt Nat _ L I := hLt; walk_at "OM")) (F'.keep b o e), F'.above⟩ (fun p hp => ⟨hs'.extBut _ _ (hb _ ?_) (N' p hp).1, (N' p hp).2⟩)
    · have hlt : @LT.lt Nat _ b I := hI ▸ Heap.lt_size e
      exact hs'.extBut b o (hb b (by walk_at "OM")) (hold b o (show @LT.lt Nat _ b (I + 1) by walk_at "OM") (neA (by walk_at "NEQ")) (keep1 b o e))
    · rcases List.mem_cons.mp hp with rfl | hp
      · show @LT.lt Nat _ (I + 1) (I + 1 + 1); walk_at "OM"
      · have : @LT.lt Nat _ p.1 I := hI ▸ Heap.lt_size (N p hp).1
        walk_at "OM"
end
section
variable {A : Around} {s : Shared} {a b : UInt64} {n : Int} {t u : Tok}
theorem isSame_ff {M : Model} {E : Value → Shared → Prop} {Q : Bool → Shared → Prop} (h0 : t ≠ 0) (h1 : u ≠ 0) (hb : NoneBooked s.heap) (hq : ∀ b, Q b s) : wpAny M A (isSame (.float a t) (.float b u)) Q E s := by
  show wpAny M A (isSame.created (a == b && !Float64.isNaN a) t u) Q E s
  unfold isSame.created
  simp only [beq_eq_false_iff_ne.mpr h0, beq_eq_false_iff_ne.mpr h1, Bool.or_self, Bool.false_eq_true, if_false]
  refine wpAny_ite_split (fun _ => wpAny_pure (hq _)) (fun _ => ?_)
  refine wpAny_ite_split (fun _ => wpAny_pure (hq _)) (fun _ => ?_)
  refine wpAny_bind (wpAny_sharingNotTold_none hb ?_)
  simp only [Bool.false_eq_true, if_false]
  refine wpAny_bind (wpAny_sharingNotTold_none hb ?_)
  simp only [Bool.false_eq_true, if_false]
  exact wpAny_bind (wpAny_rule (wpAny_bind (wpAny_askSetting (wpAny_pure (hq _)))))
theorem eqAt_ff (h0 : t ≠ 0) (h1 : u ≠ 0) (hb : NoneBooked s.heap) (h : (Float64.cmp a b == some Ordering.eq) = true) : SeqAt.EqAt A s (.float a t) (.float b u) true := fun prog w E Q hq => by
  unfold eqBool
  refine wpAny_holding ?_
  refine wpAny_ite_split (fun _ => wpAny_bind (wpAny_rule (wpAny_pure hq))) (fun _ => ?_)
  refine wpAny_bind (isSame_ff h0 h1 hb fun bb => ?_)
  refine wpAny_ite_split (fun _ => wpAny_pure hq) (fun _ => ?_)
  refine wpAny_bind (show wpAny (model prog w) A (compareOp .Eq (.float a t) (.float b u)) _ _ s from AutoFloatOps.eq_0 ?_)
  rw [h]; exact wpAny_truthy_bool hq
theorem noneBooked {w : World} {h : Heap} (X : (hd.heap_1 w.params).In h) : NoneBooked h :=
  ⟨fun _ => none, ⟨_, #[], 0, X cStatics { cls := .none, data := .dict #[] } rfl, rfl, fun _ he => by simp at he, fun _ => rfl⟩, rfl⟩
theorem eqAt_fi (h : (Float64.cmpInt a n == some Ordering.eq) = true) : SeqAt.EqAt A s (.float a t) (.int n u) true := fun prog w E Q hq => by
  unfold eqBool
  refine wpAny_holding ?_
  refine wpAny_ite_split (fun hab => absurd (eq_of_beq hab) nofun) (fun _ => ?_)
  refine wpAny_bind (show wpAny (model prog w) A (compareOp .Eq (.float a t) (.int n u)) _ _ s from eq_fi ?_)
  rw [h]; exact wpAny_truthy_bool hq
theorem ne_tup3 {prog : Program} {w : World} {E Q : Value → Shared → Prop} {l r : Addr} {x1 x2 x3 y1 y2 y3 : Value} (hl : s.heap.IsTuple l #[x1, x2, x3]) (hr : s.heap.IsTuple r #[y1, y2, y3]) (hu : A.units < cLine)
    (e1 : SeqAt.EqAt A.in1 s x1 y1 true) (e2 : SeqAt.EqAt A.in1 s x2 y2 true) (e3 : SeqAt.EqAt A.in1 s x3 y3 true) (h : Q (.bool false) s) : wpAny (model prog w) A (compareOp .NotEq (.ref l) (.ref r)) Q E s := by
  refine SeqAt.RcNeAt.tuples (e := fun _ => true) hl hr hu ?_ prog w E Q h
  intro j h1 h2
  have : j < 3 := h1
  obtain rfl | rfl | rfl : j = 0 ∨ j = 1 ∨ j = 2 := by walk_at "OM"
  · exact e1
  · exact e2
  · exact e3
end
section
variable {w : World} {p : Program} {loose : List Str} {mean : ExcName → Option Value} {mg mb : Str → Option Value} {A : Around} {s : Shared} {Q E : Value → Shared → Prop}
theorem div_named {prog : Program} {w : World} {A : Around} {E : Value → Shared → Prop} {s : Shared} {a b : Int} {t u : Tok} {x : UInt64} {Q : Value → Shared → Prop} (hA : A.handled = none) (hb : b ≠ 0) (hfit : a.natAbs < 2 ^ 1023)
    (hx : Float64.ofFrac (decide (a < 0) != decide (b < 0)) a.natAbs b.natAbs = x) (h : Q (.float x s.toks) { s with toks := s.toks + 1 }) : wpAny (model prog w) A (binaryOp .Div (.int a t) (.int b u)) Q E s :=
  divii hA hb hfit (hx ▸ h)
local macro_rules | `(tactic| walk_at "binaryOp Div int int") => `(tactic| (k_dflt (refine div_named rfl (by first | with_reducible assumption | decide) (by first | with_reducible assumption | decide +kernel) (by with_reducible assumption) ?_)))
theorem sumKp {prog : Program} {w : World} {A : Around} {E : Value → Shared → Prop} {s : Shared} {l : Addr} {vs : List Value} {ns : List Int} {Q : Value → Shared → Prop} (hh : A.handled = none) (hl : s.heap.IsList l vs.toArray) (hi : IntsAre vs ns)
    (h : ∀ h' tk t', Kp s.heap h' → Q (.int ns.sum t') { s with heap := h', toks := tk }) :
    wpAny (model prog w) A (call (.builtin "sum") [.ref l]) Q E s := by
  obtain ⟨xs, hx⟩ := hi.allInts.items
  have hn : numsOf vs.toArray.toList = ns := by rw [show vs.toArray.toList = vs from rfl, hi.numsOf]
  rw [hx] at hl hn
  rw [nums_intItems] at hn
  refine sum_intListG hh hl fun h' tk t' hk => ?_
  have := h h' tk t' hk
  rw [preSum_eq, List.take_of_length_le (by simp), hn]
  exact this
local macro_rules | `(tactic| walk_at "call builtin:sum") => `(tactic| (k_here; k_dflt (refine' sumKp (by rfl) (by is_list) (by first | assumption | l_ints) ?_); intro h9 tk9 t9 K9; walk_at "MYK"))
noncomputable def mx3 (a b c : Int) : Int := max a (max b c)
noncomputable def mn3 (a b c : Int) : Int := min a (min b c)
theorem mx3_of {a b c M : Int} (h : M = a ∨ M = b ∨ M = c) (k : a ≤ M ∧ b ≤ M ∧ c ≤ M) : M = mx3 a b c := by
  refine Int.le_antisymm ?_ (Int.max_le.mpr ⟨k.1, Int.max_le.mpr k.2⟩)
  rcases h with rfl | rfl | rfl
  · exact Int.le_max_left _ _
  · exact Int.le_trans (Int.le_max_left _ _) (Int.le_max_right _ _)
  · exact Int.le_trans (Int.le_max_right _ _) (Int.le_max_right _ _)
theorem mn3_of {a b c M : Int} (h : M = a ∨ M = b ∨ M = c) (k : M ≤ a ∧ M ≤ b ∧ M ≤ c) : M = mn3 a b c := by
  refine Int.le_antisymm (Int.le_min.mpr ⟨k.1, Int.le_min.mpr k.2⟩) ?_
  rcases h with rfl | rfl | rfl
  · exact Int.min_le_left _ _
  · exact Int.le_trans (Int.min_le_right _ _) (Int.min_le_left _ _)
  · exact Int.le_trans (Int.min_le_right _ _) (Int.min_le_right _ _)
theorem mx3_or (a b c : Int) : mx3 a b c = a ∨ mx3 a b c = b ∨ mx3 a b c = c := by
  unfold mx3
  rcases Int.le_total a (max b c) with h | h
  · rw [Int.max_eq_right h]
    rcases Int.le_total b c with k | k
    · exact .inr (.inr (Int.max_eq_right k))
    · exact .inr (.inl (Int.max_eq_left k))
  · exact .inl (Int.max_eq_left h)
theorem mn3_or (a b c : Int) : mn3 a b c = a ∨ mn3 a b c = b ∨ mn3 a b c = c := by
  unfold mn3
  rcases Int.le_total a (min b c) with h | h
  · exact .inl (Int.min_eq_left h)
  · rw [Int.min_eq_right h]
    rcases Int.le_total b c with k | k
    · exact .inr (.inl (Int.min_eq_left k))
    · exact .inr (.inr (Int.min_eq_right k))
theorem mx3_ge (a b c : Int) : a ≤ mx3 a b c ∧ b ≤ mx3 a b c ∧ c ≤ mx3 a b c := ⟨Int.le_max_left _ _, Int.le_trans (Int.le_max_left _ _) (Int.le_max_right _ _), Int.le_trans (Int.le_max_right _ _) (Int.le_max_right _ _)⟩
theorem mn3_le (a b c : Int) : mn3 a b c ≤ a ∧ mn3 a b c ≤ b ∧ mn3 a b c ≤ c := ⟨Int.min_le_left _ _, Int.le_trans (Int.min_le_right _ _) (Int.min_le_left _ _), Int.le_trans (Int.min_le_right _ _) (Int.min_le_right _ _)⟩
theorem mx3_map {f : Int → Int} (mono : ∀ x y, x ≤ y → f x ≤ f y) (a b c : Int) : mx3 (f a) (f b) (f c) = f (mx3 a b c) :=
  (mx3_of ((mx3_or a b c).imp (congrArg f) (Or.imp (congrArg f) (congrArg f))) ⟨mono _ _ (mx3_ge a b c).1, mono _ _ (mx3_ge a b c).2.1, mono _ _ (mx3_ge a b c).2.2⟩).symm
theorem mn3_map {f : Int → Int} (mono : ∀ x y, x ≤ y → f x ≤ f y) (a b c : Int) : mn3 (f a) (f b) (f c) = f (mn3 a b c) :=
  (mn3_of ((mn3_or a b c).imp (congrArg f) (Or.imp (congrArg f) (congrArg f))) ⟨mono _ _ (mn3_le a b c).1, mono _ _ (mn3_le a b c).2.1, mono _ _ (mn3_le a b c).2.2⟩).symm
theorem mx3_swap (a b c : Int) : mx3 a c b = mx3 a b c := by unfold mx3; rw [Int.max_comm b c]
theorem mn3_swap (a b c : Int) : mn3 a c b = mn3 a b c := by unfold mn3; rw [Int.min_comm b c]
local macro_rules | `(tactic| walk_at "call builtin:min") => `(tactic| (k_here; (with_reducible show wpAny _ _ (call (Value.builtin _) [Value.ref _]) _ _ _); (with_unfolding_all refine' kso_min (by k_asm) (by k_asm) (by kso_list) (by l_ints) (by kso_len) (by with_unfolding_all rfl) ?_; k_whole); intro h' M' t' k' F' N' a' b'; (try kso_open a'); (try kso_open b'); (try k_sweep); have e' := mn3_of a' b'; subst e'; clear a' b'))
local macro_rules | `(tactic| walk_at "call builtin:max") => `(tactic| (k_here; (with_reducible show wpAny _ _ (call (Value.builtin _) [Value.ref _]) _ _ _); (with_unfolding_all refine' kso_max (by k_asm) (by k_asm) (by kso_list) (by l_ints) (by kso_len) (by with_unfolding_all rfl) ?_; k_whole); intro h' M' t' k' F' N' a' b'; (try kso_open a'); (try kso_open b'); (try k_sweep); have e' := mx3_of a' b'; subst e'; clear a' b'))
local macro_rules | `(tactic| walk_at "call ref") => `(tactic| (walk_at "MYGO"; (refine' c_hls_nil (by walk_at "MYRM") (by k_in) (by walk_at "MYTOP")  ?_);  intro l9 t1 t2 t3 h9 tk9 K9 s9 e9 x9 htk9; have x9a := @id (@Eq Nat _ _) x9.1; have x9b := @id (@Eq Nat _ _) x9.2.1; have x9c := @id (@Eq Nat _ _) x9.2.2; clear x9; (try dsimp only at s9); (try dsimp only at htk9); have l1 := newsLt (by assumption) s9; (k_lt l1); have N9 := newsNew (by assumption) (by assumption) K9 s9 e9; have F9 := frKp (by assumption) K9; (try dsimp only); (try k_fold)))
local macro_rules | `(tactic| walk_at "call ref") => `(tactic| (walk_at "MYGO"; (refine' c_hls (by walk_at "MYRM") (by k_in) (by walk_at "MYTOP") (by with_reducible assumption) ?_); intro l9 t1 t2 t3 h9 tk9 K9 s9 e9 htk9; (try dsimp only at s9); (try dsimp only at htk9); have l1 := newsLt (by assumption) s9; (k_lt l1); have N9 := newsNew (by assumption) (by assumption) K9 s9 e9; have F9 := frKp (by assumption) K9; (try dsimp only); (try k_fold)))
local macro_rules | `(tactic| walk_at "call ref") => `(tactic| (walk_at "MYGO"; (refine' c_rgb_eq (by walk_at "MYRM") (by k_in) (by walk_at "MYTOP") (by with_reducible assumption) ?_); intro l9 t1 t2 t3 h9 tk9 K9 s9 e9 x9 htk9; (try dsimp only at s9); (try dsimp only at htk9); (try dsimp only at x9); have l1 := newsLt (by assumption) s9; (k_lt l1); have N9 := newsNew (by assumption) (by assumption) K9 s9 e9; have F9 := frKp (by assumption) K9; (try dsimp only); (try k_fold)))
local macro_rules | `(tactic| walk_at "call ref") => `(tactic| (walk_at "MYGO"; (refine' c_rgb (by walk_at "MYRM") (by k_in) (by walk_at "MYTOP") (by with_reducible assumption) (by with_reducible assumption) (by with_reducible assumption) (by with_reducible assumption) ?_); intro l9 t1 t2 t3 h9 tk9 K9 s9 e9 x9 htk9; (try dsimp only at s9); (try dsimp only at htk9); (try dsimp only at x9); have l1 := newsLt (by assumption) s9; (k_lt l1); have N9 := newsNew (by assumption) (by assumption) K9 s9 e9; have F9 := frKp (by assumption) K9; (try dsimp only); (try k_fold)))
local macro_rules | `(tactic| walk_at "compareOp NotEq ref ref") => `(tactic| (k_here; (k_dflt (refine' ke_ne_ints (by exact News.isList (by assumption) (by k_mem)) (by first | exact News.isList (by assumption) (by k_mem) | exact Heap.IsList.at (by assumption) (fun o e => Fr.keep (by assumption) _ o e)) (by first | exact IntsV.are (by assumption) | l_ints) (by first | exact IntsV.are (by assumption) | l_ints) (by exact Rm.units (by walk_at "MYRM")) ?_)); (try simp only [eq_self, decide_true, Bool.not_true])))
theorem Rm.cline {n : Nat} {A : Around} (h : Rm n A) : A.units < cLine := Nat.lt_of_le_of_lt (Nat.le_add_right _ _) h.2.2
local macro_rules | `(tactic| walk_at "MYEQ") => `(tactic| first | (with_reducible refine eqAt_fi ?_; first | with_reducible assumption | decide +kernel) | (with_reducible refine eqAt_ff ?_ ?_ ?_ ?_; (exact Nat.ne_of_gt (by walk_at "MYLE")); (exact Nat.ne_of_gt (by walk_at "MYLE")); (exact noneBooked (by k_in)); with_reducible assumption))
local macro_rules | `(tactic| walk_at "compareOp NotEq ref ref") => `(tactic| (k_here; (with_reducible refine' ne_tup3 ?k1 ?k2 ?k3 ?e1 ?e2 ?e3 ?_); (case k1 => k_dflt (exact ⟨_, News.get (by assumption) (by k_mem), rfl, _, rfl⟩)); (case k2 => k_dflt (exact ⟨_, News.get (by assumption) (by k_mem), rfl, _, rfl⟩)); (case k3 => exact Rm.cline (n := 8) (by walk_at "MYRM")); (case e1 => walk_at "MYEQ"); (case e2 => walk_at "MYEQ"); (case e3 => walk_at "MYEQ")))
local macro_rules | `(tactic| walk_at "subscriptTail Name Constant ref int") => `(tactic| (k_here; (with_reducible show wpAny _ _ (subscriptTail _ _ (Value.ref _) (Value.int _ _)) _ _ _); (k_dflt (refine' item_any (by exact News.isList (by assumption) (by k_mem)) (by decide) (by decide) (by ((try dsimp only [Int.toNat]); exact rfl)) ?k5 (by with_unfolding_all rfl))); (try dsimp only [Int.toNat, List.getElem_toArray, List.getElem_cons_zero])))
theorem evalCompT {prog : Program} {w : World} {A : Around} {E : Value → Shared → Prop} {env : Env} {elt iter tgt : Expr} {ifs : List Expr} {scope : Scope} {cl : List (Str × Addr)} {pos : Pos} {Q : Value → Shared → Prop} {s : Shared}
    (hclos : closureFor scope env = pure cl) (hkind : scope.kind = .function) (hnames : ∀ x ∈ scope.names, x.2 = .local → scope.names.lookup x.1 = some .local)
    (h : wpAny (model prog w) A (eval iter env) (fun xv s₁ => wpAny (model prog w) A (pyIter xv) (fun it s₂ => wpAny (model prog w) A (newList []) (fun acc s₃ =>
      wpAny (model prog w) A (newFunctionEnv scope env.globals cl [] env.qual none .none (some env)) (fun cenv s₄ =>
        codeAny (model prog w) A (.compStart (.ListComp elt [⟨tgt, iter, ifs, 0⟩] scope pos) 0 it acc { cenv with scope := relabel scope env }) (compPost (model prog w) A E none Q acc cenv.locals) s₄) E s₃) E s₂) E s₁) E s)
    (hs : ∀ x, foldedSetIterable iter env x = pure x := by intro _; rfl) :
    wpAny (model prog w) A (eval (.ListComp elt [⟨tgt, iter, ifs, 0⟩] scope pos) env) Q E s := by
  rw [eval_ListComp]
  exact wpAny_comprehension_free (use := none) rfl hs hclos hkind hnames h
local macro_rules | `(tactic| walk_at "eval ListComp") => `(tactic| (k_dflt (refine evalCompT (by with_unfolding_all rfl) (by rfl) (by decide) ?_)))

noncomputable def RefsAre (h : Heap) (lo : Nat) (ys : List Value) (V : Nat → List Int) : Prop := ∀ j (v : Value), ys[j]? = some v → ∃ (l : Nat) (lv : List Value) (nn : Nat), v = .ref l ∧ h.get? l = some (lstObj lv nn) ∧ IntsV lv (V j) ∧ lo ≤ l
section
variable {prog : Program} {E : Value → Shared → Prop} {env : Env} {h₀ : Heap} {m₀ : Mp} {news : List (Addr × Obj)}
theorem comp_refs_range {elt iter : Expr} {x : Str} {px : Pos} {scope : Scope} {cl : List (Str × Addr)} {pos : Pos} {L : Addr} {r : Addr} {a b c : Int} {t u v : Tok} {n : Nat} {Q : Value → Shared → Prop} {s : Shared}
    (V : Nat → List Int)
    (hh : A.handled = none) (F : Fr h₀ L s.heap m₀) (N : News h₀ L s.heap news)
    (hr : IsRange s.heap r a b c t u v) (hsmall : Builtin.Range.small a b c = true) (hn : Builtin.Range.rangeSize a b c = n)
    (turn : ∀ C i h t0 tk mc, i < n → s.toks ≤ t0 → t0 < tk → Fr h₀ C h (upd x (.int (a + i * c) t0) mc) → News h₀ C h news →
      wpAny (model prog w) A (eval elt (compEnvC scope cl C env)) (CEndH s h fun y h' tk' => ∃ (l : Nat) (lv : List Value) (nn : Nat), y = .ref l ∧ (∀ b o, h.get? b = some o → @LT.lt Nat _ b l) ∧ h'.get? l = some (lstObj lv nn) ∧ IntsV lv (V i)) (fun _ _ => False) { s with heap := h, toks := tk })
    (done : ∀ (D : Nat) ys nD h tk, RefsAre h (D + 1) ys V → ys.length = n → s.toks ≤ tk → s.heap.objs.size ≤ D → Kp s.heap h → Fr h₀ L h m₀ → News h₀ L h ((D, lstObj ys nD) :: news) → Q (.ref D) { s with heap := h, toks := tk })
    (hsz : n ≤ sizeLine := by size_fits)
    (hcell : ∀ y ∈ scope.names, y.2 ≠ .cell := by decide) (hkind : scope.kind = .function := by rfl) (hx : scope.names.lookup x = some .local := by rfl) :
    wpAny (model prog w) A (pyIter (.ref r)) (fun it s₂ => wpAny (model prog w) A (newList []) (fun acc s₃ =>
      wpAny (model prog w) A (newFunctionEnv scope env.globals cl [] env.qual none .none (some env)) (fun cenv s₄ =>
        codeAny (model prog w) A (.compStart (.ListComp elt [⟨.Name x px, iter, [], 0⟩] scope pos) 0 it acc { cenv with scope := relabel scope env }) (compPost (model prog w) A E none Q acc cenv.locals) s₄) E s₃) E s₂) E s := by
  refine wpAny_pyIter_range hr hsmall ?_
  have hLt : L < s.heap.objs.size := F.ns.lt
  have kp : ∀ o', Kp s.heap (s.heap.push o') := fun o' b o e => Heap.get?_push_of_some _ e
  refine comp_K (n := n) (It.range hh s.heap.objs.size a c n) (fun i h st => by rw [st]; rfl) (fun i h h' st k => k _ _ (by rw [Heap.size_push]; exact Nat.lt_succ_self _) st)
    (by rw [Heap.size_push]; exact Nat.lt_succ_self _) (by simpa [hn] using Heap.get?_push_size _ rfl) (F.push _) (newsKp N (kp _)) hLt (fun p hp q => absurd (Heap.lt_size (N p hp).1) (q ▸ Nat.lt_irrefl _))
    (fun C D i ys h tk => ∀ j v, ys[j]? = some v → ∃ (l : Nat) (lv : List Value) (nn : Nat), v = .ref l ∧ h.get? l = some (lstObj lv nn) ∧ IntsV lv (V j) ∧ D + 1 ≤ l ∧ l ≠ C ∧ l ≠ D ∧ l ≠ s.heap.objs.size)
    (fun _ _ _ tk h j v e => by simp at e) ?_ ?_ ?_ hsz hcell hkind hx
  · rintro C D i ys h h' tk tk' g k - j v e
    obtain ⟨l, lv, nn, e1, e2, e3, e4, e5, e6, e7⟩ := g j v e
    exact ⟨l, lv, nn, e1, k _ _ (neA e5) (neA e6) (neA e7) e2, e3, e4, e5, e6, e7⟩
  · rintro C D i vv ys h t0 tk mc hi ⟨rfl, hlt⟩ g hl h1 h2 hE F' N'
    refine wpAny_mono (turn C i h t0 (tk + 1) mc hi h1 (Nat.lt_succ_of_lt hlt) F' N') (fun y s₄ => ?_) fun _ _ e => e
    rintro ⟨h', tk', rfl, k, l, lv, nn, rfl, q1, q2, q3⟩
    have hb : ∀ b, (h.get? b).isSome = true → @LT.lt Nat _ b l := fun b e => by
      obtain ⟨o, e'⟩ := Option.isSome_iff_exists.mp e
      exact q1 b o e'
    have bC := hb C (hE C (Or.inl rfl))
    have bD := hb D (hE D (Or.inr (Or.inl rfl)))
    have bI := hb s.heap.objs.size (hE _ (Or.inr (Or.inr rfl)))
    refine ⟨h', tk', rfl, k, fun j v e => ?_⟩
    by_cases hj : j < ys.length
    · rw [List.getElem?_append_left hj] at e
      obtain ⟨l, lv, nn, e1, e2, e3, e4, e5, e6, e7⟩ := g j v e
      exact ⟨l, lv, nn, e1, k _ _ e2, e3, e4, e5, e6, e7⟩
    · have : j = ys.length := by
        have := (List.getElem?_eq_some_iff.mp e).1
        simp at this; walk_at "OM"
      subst this
      simp at e
      subst e
      exact ⟨l, lv, nn, rfl, q2, hl ▸ q3, bD, Nat.ne_of_gt bC, Nat.ne_of_gt bD, Nat.ne_of_gt bI⟩
  · rintro C D ys nD h tk g hl h1 h2 F' N' k
    refine done D ys nD h tk (fun j v e => ?_) hl h1 ?_ (fun b o e => k b o (fun q => absurd (Heap.lt_size e) (q ▸ Nat.lt_irrefl _)) (kp _ b o e)) F' N'
    · obtain ⟨l, lv, nn, e1, e2, e3, e4, e5, e6, e7⟩ := g j v e
      exact ⟨l, lv, nn, e1, e2, e3, e4⟩
    · rw [Heap.size_push] at h2; exact Nat.le_of_succ_le h2
end
noncomputable def colL (V : Nat → Nat → Int) (i : Nat) : List Int := (List.range 6).map fun j => [V j 0, V j 1, V j 2].getD (0 + (i : Int) * 1).toNat 0
noncomputable def aboveI (V : Nat → Nat → Int) : List Int := (List.range 6).map fun j => 2 * V j 0 - (V j 1 + V j 2)
theorem colL_get {V : Nat → Nat → Int} {i j : Nat} (h : j < 6) : (colL V i)[j]? = some ([V j 0, V j 1, V j 2].getD (0 + (i : Int) * 1).toNat 0) := by simp [colL, h]
theorem aboveI_get {V : Nat → Nat → Int} {i : Nat} (h : i < 6) : (aboveI V)[i]? = some (2 * V i 0 - (V i 1 + V i 2)) := by simp [aboveI, h]
theorem refs6K {P : Prop} {h : Heap} {lo : Nat} {ys : List Value} {V : Nat → List Int} (R : RefsAre h lo ys V) (hl : ys.length = 6) (k : ∀ (l0 l1 l2 l3 l4 l5 : Nat) (v0 v1 v2 v3 v4 v5 : List Value) (n0 n1 n2 n3 n4 n5 : Nat), ys = [.ref l0, .ref l1, .ref l2, .ref l3, .ref l4, .ref l5] → h.get? l0 = some (lstObj v0 n0) → IntsV v0 (V 0) → lo ≤ l0 → h.get? l1 = some (lstObj v1 n1) → IntsV v1 (V 1) → lo ≤ l1 → h.get? l2 = some (lstObj v2 n2) → IntsV v2 (V 2) → lo ≤ l2 → h.get? l3 = some (lstObj v3 n3) → IntsV v3 (V 3) → lo ≤ l3 → h.get? l4 = some (lstObj v4 n4) → IntsV v4 (V 4) → lo ≤ l4 → h.get? l5 = some (lstObj v5 n5) → IntsV v5 (V 5) → lo ≤ l5 → P) : P := by
  obtain ⟨a0, y0, f0, g0⟩ := lenCons hl
  obtain ⟨a1, y1, f1, g1⟩ := lenCons g0
  obtain ⟨a2, y2, f2, g2⟩ := lenCons g1
  obtain ⟨a3, y3, f3, g3⟩ := lenCons g2
  obtain ⟨a4, y4, f4, g4⟩ := lenCons g3
  obtain ⟨a5, y5, f5, g5⟩ := lenCons g4
  have e : ys = [a0, a1, a2, a3, a4, a5] := by rw [f0, f1, f2, f3, f4, f5, List.eq_nil_of_length_eq_zero g5]
  obtain ⟨l0, v0, n0, k0, p0⟩ := R 0 a0 (e ▸ rfl)
  obtain ⟨l1, v1, n1, k1, p1⟩ := R 1 a1 (e ▸ rfl)
  obtain ⟨l2, v2, n2, k2, p2⟩ := R 2 a2 (e ▸ rfl)
  obtain ⟨l3, v3, n3, k3, p3⟩ := R 3 a3 (e ▸ rfl)
  obtain ⟨l4, v4, n4, k4, p4⟩ := R 4 a4 (e ▸ rfl)
  obtain ⟨l5, v5, n5, k5, p5⟩ := R 5 a5 (e ▸ rfl)
  exact k l0 l1 l2 l3 l4 l5 v0 v1 v2 v3 v4 v5 n0 n1 n2 n3 n4 n5 (by rw [e, k0, k1, k2, k3, k4, k5]) p0.1 p0.2.1 p0.2.2 p1.1 p1.2.1 p1.2.2 p2.1 p2.2.1 p2.2.2 p3.1 p3.2.1 p3.2.2 p4.1 p4.2.1 p4.2.2 p5.1 p5.2.1 p5.2.2
set_option maxHeartbeats 8000000 in
theorem c_above (hA : Rm 12 A) (X : (hd.heap_1 w.params).In s.heap) (T : Top p loose mean mg mb s.heap)
    {l : Addr} {a1 a2 a3 turns : Int} {u1 u2 u3 tt : Tok} (hl : s.heap.IsList l #[.int a1 u1, .int a2 u2, .int a3 u3])
    {fa fb fc H L S : UInt64}
    (z1 : ([a1, a2, a3].getD (Int.toNat 0) 0).natAbs < 2 ^ 1023) (z2 : ([a1, a2, a3].getD (Int.toNat 1) 0).natAbs < 2 ^ 1023) (z3 : ([a1, a2, a3].getD (Int.toNat 2) 0).natAbs < 2 ^ 1023)
    (ea : Float64.ofFrac (decide ([a1, a2, a3].getD (Int.toNat 0) 0 < 0) != decide ((2 : Int) ^ Int.toNat 36 < 0)) ([a1, a2, a3].getD (Int.toNat 0) 0).natAbs ((2 : Int) ^ Int.toNat 36).natAbs = fa)
    (eb : Float64.ofFrac (decide ([a1, a2, a3].getD (Int.toNat 1) 0 < 0) != decide ((2 : Int) ^ Int.toNat 36 < 0)) ([a1, a2, a3].getD (Int.toNat 1) 0).natAbs ((2 : Int) ^ Int.toNat 36).natAbs = fb)
    (ec : Float64.ofFrac (decide ([a1, a2, a3].getD (Int.toNat 2) 0 < 0) != decide ((2 : Int) ^ Int.toNat 36 < 0)) ([a1, a2, a3].getD (Int.toNat 2) 0).natAbs ((2 : Int) ^ Int.toNat 36).natAbs = fc)
    (hne : (Float64.cmp (min3F fa fb fc) (max3F fa fb fc) == some Ordering.eq) = false)
    (h1 : ¬ Float64.isZero (Float64.add (max3F fa fb fc) (min3F fa fb fc)) = true)
    (h2 : ¬ Float64.isZero (Float64.sub (Float64.sub f2 (max3F fa fb fc)) (min3F fa fb fc)) = true)
    (h3 : ¬ Float64.isZero (Float64.sub (max3F fa fb fc) (min3F fa fb fc)) = true)
    (y1 : (Float64.cmpInt (rgbH fa fb fc) 0 == some Ordering.gt || Float64.cmpInt (rgbH fa fb fc) 0 == some Ordering.eq) = true)
    (y2 : (Float64.cmpInt (rgbH fa fb fc) 1 == some Ordering.lt) = true)
    (y3 : (Float64.cmpInt (Float64.mul (Float64.ofInt (2 * 2 ^ Int.toNat 36)) (rgbL fa fb fc)) (mx3 a1 a2 a3 + mn3 a1 a2 a3) != some Ordering.eq) = false)
    (y4 : (if 2 * 2 ^ Int.toNat 36 - (mx3 a1 a2 a3 + mn3 a1 a2 a3) < mx3 a1 a2 a3 + mn3 a1 a2 a3 then 2 * 2 ^ Int.toNat 36 - (mx3 a1 a2 a3 + mn3 a1 a2 a3) else mx3 a1 a2 a3 + mn3 a1 a2 a3).natAbs < 2 ^ 1023)
    (y5 : Float64.isFinite (Float64.add (Float64.mul (rgbS fa fb fc) (Float64.ofInt (if 2 * 2 ^ Int.toNat 36 - (mx3 a1 a2 a3 + mn3 a1 a2 a3) < mx3 a1 a2 a3 + mn3 a1 a2 a3 then 2 * 2 ^ Int.toNat 36 - (mx3 a1 a2 a3 + mn3 a1 a2 a3) else mx3 a1 a2 a3 + mn3 a1 a2 a3))) (Float64.ofFrac false 1 2)) = true)
    (y6 : wholeF (Float64.mul (rgbS fa fb fc) (Float64.ofInt (if 2 * 2 ^ Int.toNat 36 - (mx3 a1 a2 a3 + mn3 a1 a2 a3) < mx3 a1 a2 a3 + mn3 a1 a2 a3 then 2 * 2 ^ Int.toNat 36 - (mx3 a1 a2 a3 + mn3 a1 a2 a3) else mx3 a1 a2 a3 + mn3 a1 a2 a3))) = mx3 a1 a2 a3 - mn3 a1 a2 a3)
    (y7 : (Float64.cmp (rgbS fa fb fc) 0 == some Ordering.eq) = false) {V : Nat → Nat → Int} {Hf : Nat → UInt64}
    (eh : ∀ i : Nat, i < 6 → Float64.ofFrac (decide (0 + (i : Int) * 1 < 0) != decide ((6 : Int) < 0)) (0 + (i : Int) * 1).natAbs (Int.natAbs 6) = Hf i) (ht : turns.natAbs ≤ 2)
    (hW : ∀ i : Nat, i < 6 → Float64.isFinite (Float64.add (Float64.mul (Float64.ofInt (2 ^ Int.toNat 36)) (vF (hlsM1 (rgbL fa fb fc) (rgbS fa fb fc)) (hlsM2 (rgbL fa fb fc) (rgbS fa fb fc)) (Float64.add (Float64.add (Float64.sub (rgbH fa fb fc) (Hf i)) (Float64.ofInt turns)) fThird))) (Float64.ofFrac false 1 2)) = true ∧ Float64.isFinite (Float64.add (Float64.mul (Float64.ofInt (2 ^ Int.toNat 36)) (vF (hlsM1 (rgbL fa fb fc) (rgbS fa fb fc)) (hlsM2 (rgbL fa fb fc) (rgbS fa fb fc)) (Float64.add (Float64.sub (rgbH fa fb fc) (Hf i)) (Float64.ofInt turns)))) (Float64.ofFrac false 1 2)) = true ∧ Float64.isFinite (Float64.add (Float64.mul (Float64.ofInt (2 ^ Int.toNat 36)) (vF (hlsM1 (rgbL fa fb fc) (rgbS fa fb fc)) (hlsM2 (rgbL fa fb fc) (rgbS fa fb fc)) (Float64.sub (Float64.add (Float64.sub (rgbH fa fb fc) (Hf i)) (Float64.ofInt turns)) fThird))) (Float64.ofFrac false 1 2)) = true ∧ wholeF (Float64.mul (Float64.ofInt (2 ^ Int.toNat 36)) (vF (hlsM1 (rgbL fa fb fc) (rgbS fa fb fc)) (hlsM2 (rgbL fa fb fc) (rgbS fa fb fc)) (Float64.add (Float64.add (Float64.sub (rgbH fa fb fc) (Hf i)) (Float64.ofInt turns)) fThird))) = V i 0 ∧ wholeF (Float64.mul (Float64.ofInt (2 ^ Int.toNat 36)) (vF (hlsM1 (rgbL fa fb fc) (rgbS fa fb fc)) (hlsM2 (rgbL fa fb fc) (rgbS fa fb fc)) (Float64.add (Float64.sub (rgbH fa fb fc) (Hf i)) (Float64.ofInt turns)))) = V i 1 ∧ wholeF (Float64.mul (Float64.ofInt (2 ^ Int.toNat 36)) (vF (hlsM1 (rgbL fa fb fc) (rgbS fa fb fc)) (hlsM2 (rgbL fa fb fc) (rgbS fa fb fc)) (Float64.sub (Float64.add (Float64.sub (rgbH fa fb fc) (Hf i)) (Float64.ofInt turns)) fThird))) = V i 2)
    (yS : ∀ i : Nat, i < 3 → (colL V i).sum = 3 * (mx3 a1 a2 a3 + mn3 a1 a2 a3))
    (x1 : (Float64.cmp (min3F (rgbL fa fb fc) (rgbL fa fb fc) (rgbL fa fb fc)) (max3F (rgbL fa fb fc) (rgbL fa fb fc) (rgbL fa fb fc)) == some Ordering.eq) = true)
    (h0 : 0 < s.toks)
    (x3 : (Float64.cmp (rgbL (rgbL fa fb fc) (rgbL fa fb fc) (rgbL fa fb fc)) (rgbL fa fb fc) == some Ordering.eq) = true)
    (x4 : (Float64.cmp (rgbL fa fb fc) (rgbL fa fb fc) == some Ordering.eq) = true)
    (yT : [V 0 0, V 0 1, V 0 2] = [a1, a2, a3])
    (y8 : ∀ i : Nat, i < 6 → IntMulOk 2 (V i 0))
    (ret : ∀ l' lv nn h' tk', Kp s.heap h' → s.heap.objs.size ≤ l' → h'.get? l' = some (lstObj lv nn) → IntsV lv (aboveI V) → Q (.ref l') { s with heap := h', toks := tk' }) :
    wpAny (model PySem.Challenge.rw_tl0018_01.row.prog w) A (call (.ref 164) [.ref l, .int turns tt]) Q E s := by
  obtain ⟨hdl, dp, fr, gd, un⟩ := A
  obtain rfl : hdl = none := hA.1
  refine wpAny_with_toks (n := s.toks) (Nat.le_refl _) ?_
  revert X; k_fill; intro X
  refine' enterC (binds := [(Str.ofString "light", .ref l), (Str.ofString "turns", .int turns tt)]) X T ?k6 ?k7 ?k8 ?k9 ?kB ?c1 ?c2 ?c3 ?c4 ?_
  (case k6 => k_is); (case k7 => k_is); (case k8 => exact Rm.room (by assumption)); (case k9 => exact BindsTo.of_eq rfl); (case kB => exact rfl); (case c1 => decide); (case c2 => exact rfl); (case c3 => exact rfl); (case c4 => exact rfl)
  k_whole
  intro L' h' tk0 cells F' N' Y' htk0
  (try dsimp only)
  (try k_fold)
  refine cells6K Y' fun o6 o5 o4 o3 o2 o1 hc9 d6 d5 d4 d3 d2 d1 => ?_
  subst hc9
  replace d1 : o1.data = .cell (some (.int turns tt)) := d1
  replace d2 : o2.data = .cell none := d2
  replace d3 : o3.data = .cell none := d3
  replace d4 : o4.data = .cell none := d4
  replace d5 : o5.data = .cell none := d5
  replace d6 : o6.data = .cell none := d6
  clear Y'
  replace F' : Fr s.heap L' h' (fun y => if y = Str.ofString "light" then some (.ref l) else none) := F'
  k_steps
  · rename_i q _; exact absurd y6 q
  clear y1 y2 y3 y4 y5 y6
  rename IsRange _ _ _ _ _ _ _ _ => hR9
  rename Fr _ _ _ _ => F9
  rename News _ _ _ _ => N9
  refine Stop.mk ?_
  refine comp_refs_range (n := 6) (fun i => [V i 0, V i 1, V i 2]) rfl F9 N9 hR9 rfl rfl ?_ ?_
  · rintro C i h t0 tk mc hi h1 h2 F N
    clear F9 N9 hR9
    (try dsimp only at *)
    have e0 := eh i hi
    refine and6 (hW i hi) fun w1 w2 w3 v1 v2 v3 => ?_
    have hq1 : (0 + (i : Int) * 1).natAbs < 2 ^ 1023 := Nat.lt_trans (show (0 + (i : Int) * 1).natAbs < 6 by walk_at "OM") (by decide)
    have hq2 : turns.natAbs < 2 ^ 1023 := Nat.lt_of_le_of_lt ht (by decide)
    k_steps
    all_goals first | exact Str.ofString "" | exact Value.none | exact ([] : List (Str × Addr)) | exact (0 : Nat) | skip
    rename News _ _ _ _ => N9
    refine Stop.mk ?_
    refine comp_seq_V (fun j ys tk => IntsV ys ([V i 0, V i 1, V i 2].take j)) rfl (by assumption) N9 (Or.inr ⟨_, (N9 _ (.head _)).1, rfl, _, rfl⟩) ?_ ?_ ?_ ?_
    · exact fun _ => IntsV.nil
    · exact fun _ _ _ _ g _ => g
    · rintro C j vv ys h t0 tk mc hv g hl h1 h2 F N
      have g1 : IntsV ys ([V i 0, V i 1, V i 2].take j) := g
      clear g N9
      (try dsimp only at *)
      have hj : j < 3 := (Array.getElem?_eq_some_iff.mp hv).1
      obtain ⟨x, tx, rfl, wx, vx⟩ : ∃ x tx, vv = .float x tx ∧ Float64.isFinite (Float64.add (Float64.mul (Float64.ofInt (2 ^ Int.toNat 36)) x) (Float64.ofFrac false 1 2)) = true ∧ [V i 0, V i 1, V i 2][j]? = some (wholeF (Float64.mul (Float64.ofInt (2 ^ Int.toNat 36)) x)) := by
        obtain rfl | rfl | rfl : j = 0 ∨ j = 1 ∨ j = 2 := by walk_at "OM"
        all_goals simp only [List.getElem?_toArray, List.getElem?_cons_zero, List.getElem?_cons_succ, Option.some.injEq] at hv
        all_goals subst hv
        · exact ⟨_, _, rfl, w1, congrArg some v1.symm⟩
        · exact ⟨_, _, rfl, w2, congrArg some v2.symm⟩
        · exact ⟨_, _, rfl, w3, congrArg some v3.symm⟩
      clear w1 w2 w3 v1 v2 v3
      k_steps
      any_goals exact CEnd.mk (by walk_at "KPCHAIN") (g1.next vx)
      all_goals first | exact Str.ofString "" | exact Value.none | exact ([] : List (Str × Addr)) | exact (0 : Nat)
    · intro D ys nD h tk g hl h1 h2 k F N
      have g1 : IntsV ys [V i 0, V i 1, V i 2] := g
      clear g N9
      (try dsimp only at *)
      refine ⟨_, _, rfl, by walk_at "KPCHAIN", D, ys, nD, rfl, fun b o e => Nat.lt_of_lt_of_le (Heap.lt_size (o := o) ?_) h2, (N _ (.head _)).1, g1⟩
      clear k
      repeat (first | exact e | (rename Kp _ _ => kk; first | (refine kk b o ?_; clear kk) | clear kk))
  · clear hR9
    intro D ys nD h tk hR hlen h1 h2 k F N
    (try dsimp only at *)
    have l1 := newsLt N9 h2
    k_lt l1
    clear F9 N9 hW eh
    refine refs6K hR hlen fun ta tb tc td te tf va vb vc vd ve vg na nb nc nd ne nf hy9 ga ia la gb ib lb gc ic lc gd id ld ge ie le gf if' lf => ?_
    subst hy9
    have hLD : @LT.lt Nat _ L' D := by walk_at "OM"
    replace N := newsCons gf (neA (by walk_at "NEQ")) (fresh_ge F (show @LT.lt Nat _ L' tf by walk_at "OM")) N
    replace N := newsCons ge (neA (by walk_at "NEQ")) (fresh_ge F (show @LT.lt Nat _ L' te by walk_at "OM")) N
    replace N := newsCons gd (neA (by walk_at "NEQ")) (fresh_ge F (show @LT.lt Nat _ L' td by walk_at "OM")) N
    replace N := newsCons gc (neA (by walk_at "NEQ")) (fresh_ge F (show @LT.lt Nat _ L' tc by walk_at "OM")) N
    replace N := newsCons gb (neA (by walk_at "NEQ")) (fresh_ge F (show @LT.lt Nat _ L' tb by walk_at "OM")) N
    replace N := newsCons ga (neA (by walk_at "NEQ")) (fresh_ge F (show @LT.lt Nat _ L' ta by walk_at "OM")) N
    clear ga gb gc gd ge gf hR hlen
    have iL : IntsV [.int a1 u1, .int a2 u2, .int a3 u3] [a1, a2, a3] := IntsV.cons (IntsV.cons (IntsV.cons IntsV.nil))
    k_steps
    rename IsRange _ _ _ _ _ _ _ _ => hR9
    rename Fr _ _ _ _ => F9
    rename News _ _ _ _ => N9
    refine Stop.mk ?_
    refine comp_cell_V (n := 3) (fun i ys tk => IntsV ys ((List.replicate 3 (3 * (mx3 a1 a2 a3 + mn3 a1 a2 a3))).take i)) rfl F9 N9 hR9 rfl rfl (fun _ => IntsV.nil) (fun _ _ _ _ g _ => g) ?_ ?_
    · rintro C i ys h t0 tk mc co hi g h1 h2 hco F N
      have g1 : IntsV ys ((List.replicate 3 (3 * (mx3 a1 a2 a3 + mn3 a1 a2 a3))).take i) := g
      clear g F9 N9 hR9
      (try dsimp only at *)
      k_steps
      rename Fr _ _ _ _ => F9
      rename News _ _ _ _ => N9
      refine Stop.mk ?_
      refine comp_seq_V (fun j ys tk => IntsV ys ((colL V i).take j)) rfl F9 N9 (Or.inl (News.isList N9 (by k_mem))) (fun _ => IntsV.nil) (fun _ _ _ _ g _ => g) ?_ ?_
      · rintro C j vv ys h t0 tk mc hv g hl h1 h2 F N
        have g2 : IntsV ys ((colL V i).take j) := g
        clear g F9 N9
        (try dsimp only at *)
        have hj : j < 6 := (Array.getElem?_eq_some_iff.mp hv).1
        obtain ⟨lj, w1, w2, w3, nj, rfl, Nj⟩ : ∃ (lj : Nat) (w1 w2 w3 : Tok) (nj : Nat), vv = .ref lj ∧ News s.heap C h [(lj, lstObj [.int (V j 0) w1, .int (V j 1) w2, .int (V j 2) w3] nj)] := by
          obtain rfl | rfl | rfl | rfl | rfl | rfl : j = 0 ∨ j = 1 ∨ j = 2 ∨ j = 3 ∨ j = 4 ∨ j = 5 := by walk_at "OM"
          all_goals simp only [List.getElem?_toArray, List.getElem?_cons_zero, List.getElem?_cons_succ, Option.some.injEq] at hv
          all_goals subst hv
          · obtain ⟨_, _, _, rfl⟩ := ia.three
            exact ⟨_, _, _, _, _, rfl, newsPick (by k_mem) N News.nil⟩
          · obtain ⟨_, _, _, rfl⟩ := ib.three
            exact ⟨_, _, _, _, _, rfl, newsPick (by k_mem) N News.nil⟩
          · obtain ⟨_, _, _, rfl⟩ := ic.three
            exact ⟨_, _, _, _, _, rfl, newsPick (by k_mem) N News.nil⟩
          · obtain ⟨_, _, _, rfl⟩ := id.three
            exact ⟨_, _, _, _, _, rfl, newsPick (by k_mem) N News.nil⟩
          · obtain ⟨_, _, _, rfl⟩ := ie.three
            exact ⟨_, _, _, _, _, rfl, newsPick (by k_mem) N News.nil⟩
          · obtain ⟨_, _, _, rfl⟩ := if'.three
            exact ⟨_, _, _, _, _, rfl, newsPick (by k_mem) N News.nil⟩
        replace N := newsPick (.head _) Nj N
        clear Nj
        k_steps
        any_goals exact CEnd.mk (by walk_at "KPCHAIN") (g2.next (colL_get hj))
        all_goals first | exact Str.ofString "" | exact Value.none | exact ([] : List (Str × Addr)) | exact (0 : Nat)
      · intro D2 ys2 nD2 h3 tk3 g hl h4 h5 k F N
        have g2 : IntsV ys2 (colL V i) := g
        clear g F9 N9
        (try dsimp only at *)
        have iA := g2.are
        k_steps
        exact CEnd.mk (by walk_at "KPCHAIN") (g1.next (show (List.replicate 3 _)[i]? = some _ from by rw [yS i hi, List.getElem?_replicate, if_pos hi]))
    · intro D3 ys3 nD3 h3 tk3 g h4 h5 k3 F N
      have g3 : IntsV ys3 (List.replicate (Int.toNat 3) [3 * (mx3 a1 a2 a3 + mn3 a1 a2 a3)]).flatten := g
      (try dsimp only at *)
      have l3 := newsLt N9 h5
      k_lt l3
      clear g F9 N9 hR9 yS yT
      k_steps
      rename Fr _ _ _ _ => F9
      rename News _ _ _ _ => N9
      refine Stop.mk ?_
      clear x1 x3 x4
      refine comp_trip_V (V := fun i => (V i 0, V i 1, V i 2)) (fun i ys tk => IntsV ys ((aboveI V).take i)) rfl F9 N9 (News.isList N9 (by k_mem)) ?_ (fun _ => IntsV.nil) (fun _ _ _ _ g _ => g) ?_ ?_
      · intro i v hv
        have hi : i < 6 := (Array.getElem?_eq_some_iff.mp hv).1
        obtain rfl | rfl | rfl | rfl | rfl | rfl : i = 0 ∨ i = 1 ∨ i = 2 ∨ i = 3 ∨ i = 4 ∨ i = 5 := by walk_at "OM"
        all_goals simp only [List.getElem?_toArray, List.getElem?_cons_zero, List.getElem?_cons_succ, Option.some.injEq] at hv
        all_goals subst hv
        · obtain ⟨_, _, _, rfl⟩ := ia.three
          exact ⟨_, _, _, _, rfl, News.isList N9 (by k_mem)⟩
        · obtain ⟨_, _, _, rfl⟩ := ib.three
          exact ⟨_, _, _, _, rfl, News.isList N9 (by k_mem)⟩
        · obtain ⟨_, _, _, rfl⟩ := ic.three
          exact ⟨_, _, _, _, rfl, News.isList N9 (by k_mem)⟩
        · obtain ⟨_, _, _, rfl⟩ := id.three
          exact ⟨_, _, _, _, rfl, News.isList N9 (by k_mem)⟩
        · obtain ⟨_, _, _, rfl⟩ := ie.three
          exact ⟨_, _, _, _, rfl, News.isList N9 (by k_mem)⟩
        · obtain ⟨_, _, _, rfl⟩ := if'.three
          exact ⟨_, _, _, _, rfl, News.isList N9 (by k_mem)⟩
      · rintro C i ys h t0 tk mc t1 t2 t3 hi g h1 h2 F N
        have g1 : IntsV ys ((aboveI V).take i) := g
        have hi6 : i < 6 := hi
        have hm := y8 i hi6
        clear g F9 N9
        (try dsimp only at *)
        k_steps
        any_goals exact CEnd.mk (by walk_at "KPCHAIN") (g1.next (aboveI_get hi6))
        all_goals first | exact Str.ofString "" | exact Value.none | exact ([] : List (Str × Addr)) | exact (0 : Nat)
      · intro D4 ys4 nD4 h4 tk4 g h6 h7 k4 F N
        have g4 : IntsV ys4 (aboveI V) := g
        have hs4 := Nat.le_trans (frSize F9) h7
        (try dsimp only at *)
        have l4 := newsLt N9 h7
        k_lt l4
        clear g F9 N9
        k_steps
        rename Fr _ _ _ _ => F9
        rename News _ _ _ _ => N9
        exact ret _ _ _ _ _ (Fr.keep F9) hs4 (N9 _ (.head _)).1 g4
end
section
variable {prog : Program} {w : World} {A : Around} {E : Value → Shared → Prop} {s : Shared} {h₀ : Heap} {L l : Addr} {m : Str → Option Value}
theorem setItem_F {vs : List Value} {nn : Nat} {k : Int} {t : Tok} {v : Value} {Q : Unit → Shared → Prop} (F : Fr h₀ L s.heap m) (N : News h₀ L s.heap [(l, lstObj vs nn)]) (h0 : 0 ≤ k) (hn : k < vs.length) (hfit : k < 2 ^ 63)
    (h : ∀ h', Fr h₀ L h' m → News h₀ L h' [(l, lstObj (vs.set k.toNat v) nn)] → Q () { s with heap := h' }) : wpAny (model prog w) A (setItem (.ref l) (.int k t) v) Q E s := by
  have z := N _ (.head _)
  refine ki_setAt (n := nn) z.1 h0 hfit (by simpa using hn) (h _ (F.change (Heap.SameBut.update ..) z.2.1 z.2.2) ?_)
  refine ki_turn (pre := []) (post := []) _ N (fun _ h => nomatch h) (fun _ h => nomatch h) ?_ ?_
  · simp
  · simp
end
theorem hideFr {h₀ h : Heap} {L : Addr} {m : Str → Option Value} {ls : List Addr} (F : Fr h₀ L h m) : Fr (hideAll h₀ ls) L h m :=
  ⟨F.ns, fun b o e => F.keep b o (of_hideAll _ e), Nat.le_trans (Nat.le_of_eq (hideAll_size _ _)) F.above⟩
theorem hideIn {K : Frag} {g h : Heap} {L : Addr} {m : Str → Option Value} {ls : List Addr} (X : K.In g) (F : Fr g L h m) (hn : ∀ l ∈ ls, g.get? l = none) : K.In (hideAll h ls) := fun b o e =>
  hideAll_get _ (F.keep _ _ (X b o e)) fun q => absurd (X b o e) (by rw [hn b q]; simp)
section
variable {w : World} {p : Program} {loose : List Str} {mean : ExcName → Option Value} {mg mb : Str → Option Value} {A : Around} {s : Shared} {Q E : Value → Shared → Prop}
local macro_rules | `(tactic| walk_at "setItem ref int") => `(tactic| (k_here; k_dflt (refine setItem_F (by assumption) (by assumption) (by assumption) (by assumption) (by assumption) ?_); intro h9 F9 N9; (try dsimp only)))
set_option maxHeartbeats 4000000 in
theorem c_setitem {l : Addr} (hA : Rm 1 A) (X : (hd.heap_1 w.params).In (hideAll s.heap [l])) (T : Top p loose mean mg mb (hideAll s.heap [l]))
    {vs : List Value} {nn : Nat} {i n : Int} {t u : Tok} (hl : s.heap.get? l = some (lstObj vs nn)) (h0 : 0 ≤ i) (hn : i < vs.length) (hfit : i < 2 ^ 63)
    (ret : ∀ h' tk', (∀ b o, b ≠ l → s.heap.get? b = some o → h'.get? b = some o) → h'.get? l = some (lstObj (vs.set i.toNat (.int n u)) nn) → s.toks ≤ tk' → Q .none { s with heap := h', toks := tk' }) :
    wpAny (model PySem.Challenge.rw_tl0018_01.row.prog w) A (call (.ref 133) [.ref l, .int i t, .int n u]) Q E s := by
  obtain ⟨hdl, dp, fr, gd, un⟩ := A
  obtain rfl : hdl = none := hA.1
  revert X; k_fill; intro X
  refine' enterK (binds := [(Str.ofString "a", .ref l), (Str.ofString "b", .int i t), (Str.ofString "c", .int n u)]) (X.keeps fun b o e => of_hideAll _ e) (T.keeps fun b o e => of_hideAll _ e) ?k6 ?k7 ?k8 ?k9 ?kB ?c2 ?c3 ?c4 ?c5 ?_
  (case k6 => k_is); (case k7 => k_is); (case k8 => exact Rm.room (by assumption)); (case k9 => exact BindsTo.of_eq rfl); (case c5 => decide); (case kB => exact locs rfl); (case c2 => exact rfl); (case c3 => exact rfl); (case c4 => exact rfl)
  k_whole
  intro L' h' F' N'
  (try dsimp only [List.length_cons, List.length_nil])
  (try k_fold)
  have F1 := hideFr (ls := [l]) F'
  have lL : @LT.lt Nat _ l L' := Nat.lt_of_lt_of_le (Heap.lt_size hl) F'.above
  have N1 : News (hideAll s.heap [l]) L' h' [(l, lstObj vs nn)] := newsCons (F'.keep _ _ hl) (neA (by walk_at "NEQ")) (hideAll_none _ (.head _)) News.nil
  clear F' N'
  k_steps
  rename Fr _ _ _ _ => F9
  rename News _ _ _ _ => N9
  exact ret _ _ (fun b o hb e => F9.keep b o (hideAll_get _ e (by simpa using hb))) (N9 _ (.head _)).1 (by (try dsimp only); walk_at "OM")
end
noncomputable def tallyP (q f k : Int) (i : Nat) : Int := (f * (0 + (i : Int) * 1) ^ k.toNat).fmod q
noncomputable def tallyI (q f k : Int) : Nat → List Int
  | 0 => List.replicate q.toNat 0
  | i + 1 => (tallyI q f k i).set (tallyP q f k i).toNat ((tallyI q f k i).getD (tallyP q f k i).toNat 0 + 1)
theorem tallyLen (q f k : Int) : ∀ i, (tallyI q f k i).length = q.toNat
  | 0 => by simp [tallyI]
  | i + 1 => by simp [tallyI, tallyLen q f k i]
theorem IntsV.set {vs : List Value} {ns : List Int} {j : Nat} {n : Int} {t : Tok} (h : IntsV vs ns) : IntsV (vs.set j (.int n t)) (ns.set j n) := by
  refine ⟨by simp [h.len], fun i m e => ?_⟩
  by_cases hj : i = j
  · subst hj
    have hlt : i < ns.length := by have := (List.getElem?_eq_some_iff.mp e).1; simpa using this
    rw [List.getElem?_set_self hlt] at e
    cases e
    exact ⟨t, List.getElem?_set_self (by rw [h.len]; exact hlt)⟩
  · rw [List.getElem?_set_ne (Ne.symm hj)] at e
    obtain ⟨t', e'⟩ := h.get i m e
    exact ⟨t', by rw [List.getElem?_set_ne (Ne.symm hj)]; exact e'⟩
theorem IntsV.rep {n : Int} {t : Tok} : ∀ k, IntsV (List.replicate k [Value.int n t]).flatten (List.replicate k n)
  | 0 => IntsV.nil
  | k + 1 => by
    rw [List.replicate_succ, List.flatten_cons, List.replicate_succ]
    exact IntsV.cons (IntsV.rep k)
theorem frBut {g h h' : Heap} {L D : Addr} {m : Str → Option Value} (F : Fr g L h m) (hD : D ≠ L) (hg : g.get? D = none) (k : ∀ b o, b ≠ D → h.get? b = some o → h'.get? b = some o) : Fr g L h' m :=
  ⟨F.ns.at' fun o x => k L o (Ne.symm hD) x, fun b o x => k b o (fun q => by rw [q, hg] at x; cases x) (F.keep b o x), F.above⟩
theorem newsUpd {g h h' : Heap} {L D : Addr} {o o' : Obj} {news : List (Addr × Obj)} {u : Obj → List (Addr × Obj)} (N : News g L h news) (U : UpdF D o news u) (k : ∀ b o, b ≠ D → h.get? b = some o → h'.get? b = some o) (e : h'.get? D = some o') : News g L h' (u o') := by
  obtain ⟨pre, post, rfl, hu, a, b⟩ := U.split
  rw [hu]
  intro q hq
  rcases List.mem_append.mp hq with hq | hq
  · have z := N q (List.mem_append_left _ hq)
    exact ⟨k _ _ (a q hq) z.1, z.2⟩
  rcases List.mem_cons.mp hq with rfl | hq
  · exact ⟨e, (N (D, o) (List.mem_append_right _ (.head _))).2⟩
  · have z := N q (List.mem_append_right _ (.tail _ hq))
    exact ⟨k _ _ (b q hq) z.1, z.2⟩
theorem updMem {D : Addr} {o : Obj} {news : List (Addr × Obj)} {u : Obj → List (Addr × Obj)} (U : UpdF D o news u) : (D, o) ∈ news := by
  obtain ⟨pre, post, rfl, -⟩ := U.split
  exact List.mem_append_right _ (.head _)
theorem hideTop {g h : Heap} {L : Addr} {m : Str → Option Value} {ls : List Addr} {p : Program} {loose : List Str} {mean : ExcName → Option Value} {mg mb : Str → Option Value} (T : Top p loose mean mg mb g) (F : Fr g L h m) (hn : ∀ l ∈ ls, g.get? l = none) : Top p loose mean mg mb (hideAll h ls) :=
  T.keeps fun b o e => hideAll_get _ (F.keep _ _ e) fun q => by rw [hn b q] at e; cases e
section
variable {w : World} {p : Program} {loose : List Str} {mean : ExcName → Option Value} {mg mb : Str → Option Value} {A : Around} {s : Shared} {Q E : Value → Shared → Prop}
theorem newList_L {M : Model} {h₀ : Heap} {L : Addr} {m : Str → Option Value} {news : List (Addr × Obj)} {vs : List Value} {Q : Value → Shared → Prop} (F : Fr h₀ L s.heap m) (N : News h₀ L s.heap news)
    (h : ∀ l h', Fr h₀ L h' m → News h₀ L h' ((l, listOf vs.toArray 0) :: news) → (∀ p ∈ news, p.1 < l) → @LT.lt Nat _ L l → Q (.ref l) { s with heap := h' }) (hsz : vs.length ≤ sizeLine := by size_fits) : wpAny M A (newList vs) Q E s :=
  newList_N F N (fun h' F' N' => h _ h' F' N' (fun p hp => Heap.lt_size (N p hp).1) F.ns.lt) hsz
theorem c_setitem_F {g : Heap} {L D : Addr} {m : Str → Option Value} {news : List (Addr × Obj)} {upd : Obj → List (Addr × Obj)} (hA : Rm 1 A) (X : (hd.heap_1 w.params).In g) (T : Top p loose mean mg mb g) (F : Fr g L s.heap m) (N : News g L s.heap news)
    {vs : List Value} {nn : Nat} {i n : Int} {t u : Tok} (U : UpdF D (lstObj vs nn) news upd) (h0 : 0 ≤ i) (hn : i < vs.length) (hfit : i < 2 ^ 63)
    (ret : ∀ h' tk', Fr g L h' m → News g L h' (upd (lstObj (vs.set i.toNat (.int n u)) nn)) → s.toks ≤ tk' → Q .none { s with heap := h', toks := tk' }) :
    wpAny (model PySem.Challenge.rw_tl0018_01.row.prog w) A (call (.ref 133) [.ref D, .int i t, .int n u]) Q E s := by
  have z := N _ (updMem U)
  have hn' : ∀ l ∈ [D], g.get? l = none := fun l hl => by rw [List.mem_singleton.mp hl]; exact z.2.2
  exact c_setitem hA (hideIn X F hn') (hideTop T F hn') z.1 h0 hn hfit fun h' tk' k e htk => ret h' tk' (frBut F z.2.1 z.2.2 k) (newsUpd N U k e) htk
end
section
variable {w : World} {p : Program} {loose : List Str} {mean : ExcName → Option Value} {mg mb : Str → Option Value} {A : Around} {s : Shared} {Q E : Value → Shared → Prop}
local macro_rules | `(tactic| walk_at "newList") => `(tactic| (k_here; k_dflt (refine' newList_L (by k_asm) (by k_asm) ?_; k_whole); intro l' h' F' N' l1 l2; (try k_lt l1); (try k_sweep)))
local macro_rules | `(tactic| walk_at "call ref") => `(tactic| (walk_at "MYGO"; (refine' c_getitem (by walk_at "MYRM") (by k_in) (by walk_at "MYTOP") (by exact News.isList (by assumption) (by k_mem)) (by assumption) (by assumption) (by assumption) ?_); intro h9 tk9 K9 htk9; (try dsimp only at htk9); walk_at "MYK"))
local macro_rules | `(tactic| walk_at "call ref") => `(tactic| (k_here; (k_dflt (refine' c_setitem_F (by walk_at "MYRM") (by assumption) (by assumption) (by assumption) (by assumption) (by k_updF) (by assumption) (by assumption) (by assumption) ?_)); intro h9 tk9 F9 N9 htk9; (try dsimp only); (try k_fold)))
inductive TallyJ (D : Addr) (q f k : Int) (tq tf tk : Tok) (L' : Addr) (i : Nat) (T : Nat) (m' : Str → Option Value) (news' : List (Addr × Obj)) : Prop
  | mk (vp vx : Option Value) (lv : List Value) (n1 : Nat) (e1 : m' = (fun y => if y = Str.ofString "place" then vp else if y = Str.ofString "x" then vx else if y = Str.ofString "tally" then some (.ref D) else if y = Str.ofString "power" then some (.int k tk) else if y = Str.ofString "factor" then some (.int f tf) else if y = Str.ofString "p" then some (.int q tq) else none)) (e2 : news' = [(D, listOf lv.toArray n1)]) (e3 : @LT.lt Nat _ L' D) (e4 : IntsV lv (tallyI q f k i)) : TallyJ D q f k tq tf tk L' i T m' news'
set_option maxHeartbeats 8000000 in
theorem c_tally (hA : Rm 4 A) (X : (hd.heap_1 w.params).In s.heap) (T : Top p loose mean mg mb s.heap)
    {q f k : Int} {tq tf tk : Tok} {n : Nat} (hq : q = n) (hq0 : 0 < q) (hn64 : n ≤ 64) (hsm : Builtin.Range.small 0 q 1 = true) (hrn : Builtin.Range.rangeSize 0 q 1 = n) (hk : 0 ≤ k) (hb : ∀ i : Nat, i < n → (Builtin.Int.intBits (0 + (i : Int) * 1) : Int) * k ≤ 2 ^ 27 ∧ IntMulOk f ((0 + (i : Int) * 1) ^ k.toNat))
    (ret : ∀ l' lv nn h' tk', Kp s.heap h' → s.heap.objs.size ≤ l' → h'.get? l' = some (lstObj lv nn) → IntsV lv (tallyI q f k n) → Q (.ref l') { s with heap := h', toks := tk' }) :
    wpAny (model PySem.Challenge.rw_tl0018_01.row.prog w) A (call (.ref 171) [.int q tq, .int f tf, .int k tk]) Q E s := by
  obtain ⟨hdl, dp, fr, gd, un⟩ := A
  obtain rfl : hdl = none := hA.1
  refine wpAny_with_toks (n := s.toks) (Nat.le_refl _) ?_
  revert X; k_fill; intro X
  refine' enterK (binds := [(Str.ofString "p", .int q tq), (Str.ofString "factor", .int f tf), (Str.ofString "power", .int k tk)]) X T ?k6 ?k7 ?k8 ?k9 ?kB ?c2 ?c3 ?c4 ?c5 ?_
  (case k6 => k_is); (case k7 => k_is); (case k8 => exact Rm.room (by assumption)); (case k9 => exact BindsTo.of_eq rfl); (case c5 => decide); (case kB => exact locs rfl); (case c2 => exact rfl); (case c3 => exact rfl); (case c4 => exact rfl)
  k_whole
  intro L' h' F' N'
  (try dsimp only [List.length_cons, List.length_nil])
  (try k_fold)
  k_steps
  rename IsRange _ _ _ _ _ _ _ _ => hR
  rename Fr _ _ _ _ => F9
  rename News _ _ _ _ => N9
  rename_i D _ _ _ _ _ _ _ l1 _ _ _ _
  have lD : @LT.lt Nat _ L' D := by (rename @LT.lt Nat _ L' _ => l2); exact Nat.lt_trans l2 l1
  replace N9 := newsPick (.head _) N9 News.nil
  refine Stop.mk ?_
  refine for_range_N (n := n) (TallyJ D q f k tq tf tk L')
    ?mono rfl (frEq F9 (m' := (fun y => if y = Str.ofString "place" then none else if y = Str.ofString "x" then none else if y = Str.ofString "tally" then some (.ref D) else if y = Str.ofString "power" then some (.int k tk) else if y = Str.ofString "factor" then some (.int f tf) else if y = Str.ofString "p" then some (.int q tq) else none)) ?_) N9 hR hsm hrn ?hcls ?start ?turn ?done
  case mono =>
    rintro i t t' m' news' ⟨vp, vx, lv, n1, e1, e2, e3, e4⟩ _
    exact ⟨vp, vx, lv, n1, e1, e2, e3, e4⟩
  case hcls =>
    rintro i t m' news' ⟨vp, vx, lv, n1, e1, rfl, e2, e3⟩ p hp
    rw [List.mem_singleton.mp hp]
    exact Nat.ne_of_lt (Heap.lt_size (N9 _ (.head _)).1)
  case start =>
    exact ⟨none, none, _, _, rfl, rfl, by assumption, IntsV.rep _⟩
  case done =>
    rintro m' news' h tk' ⟨vp, vx, lv, n1, rfl, rfl, e2, e3⟩ h1 F N
    have hs0 := frSize F
    k_steps
    rename Fr _ _ _ _ => F8
    rename News _ _ _ _ => N8
    exact ret _ _ _ _ _ (Fr.keep F8) (Nat.le_of_lt (Nat.lt_of_le_of_lt F8.above e2)) (N8 _ (.head _)).1 e3
  case turn =>
    rintro i tk0 m' news' h tk' oi hi ⟨vp, vx, lv, n1, rfl, rfl, e2, e3⟩ h1 h2 hoi F N
    have lDI : @LT.lt Nat _ D _ := Heap.lt_size (N9 _ (.head _)).1
    (try dsimp only at lDI)
    clear F9 N9 hR
    (try dsimp only at N)
    obtain ⟨b1, b2⟩ := hb i hi
    have hq1 : q ≠ 0 := Int.ne_of_gt hq0
    have hlen : lv.length = n := by rw [e3.len, tallyLen]; walk_at "OM"
    have p0 : 0 ≤ (f * (0 + (i : Int) * 1) ^ k.toNat).fmod q := Int.fmod_nonneg_of_pos _ hq0
    have p1 : (f * (0 + (i : Int) * 1) ^ k.toNat).fmod q < q := Int.fmod_lt_of_pos _ hq0
    have p2 : (f * (0 + (i : Int) * 1) ^ k.toNat).fmod q < lv.length := by walk_at "OM"
    have p3 : (f * (0 + (i : Int) * 1) ^ k.toNat).fmod q < 2 ^ 63 := by walk_at "OM"
    have hg : (tallyI q f k i)[(tallyP q f k i).toNat]? = some ((tallyI q f k i).getD (tallyP q f k i).toNat 0) := by
      rw [List.getD_eq_getElem?_getD, List.getElem?_eq_getElem (by rw [tallyLen]; unfold tallyP; walk_at "OM")]; rfl
    obtain ⟨tv, p4⟩ := e3.get (tallyP q f k i).toNat _ hg
    have p5 : lv.toArray[((f * (0 + (i : Int) * 1) ^ k.toNat).fmod q).toNat]? = some (.int ((tallyI q f k i).getD (tallyP q f k i).toNat 0) tv) := by rw [List.getElem?_toArray]; exact p4
    k_steps
    rename Fr _ _ _ _ => F9
    rename News _ _ _ _ => N9
    refine' ⟨_, _, _, [_], rfl, F9, newsPick (.head _) N9 (newsPick (.tail _ (.head _)) N9 News.nil), _, _, _, n1, jmap2, rfl, lD, ?_⟩
    exact e3.set
  · intro y
    by_cases h1 : y = Str.ofString "place"
    · subst h1; rfl
    by_cases h2 : y = Str.ofString "x"
    · subst h2; rfl
    rw [if_neg h1, if_neg h2]
    by_cases h3 : y = Str.ofString "tally"
    · rw [if_pos h3, if_pos h3]
    rw [if_neg h3, if_neg h3]
    by_cases h4 : y = Str.ofString "power"
    · subst h4; rfl
    by_cases h5 : y = Str.ofString "factor"
    · subst h5; rfl
    by_cases h6 : y = Str.ofString "p"
    · subst h6; rfl
    simp only [List.reverse_cons, List.reverse_nil, List.nil_append, List.cons_append, List.lookup_cons, List.lookup_nil, if_neg h4, if_neg h5, if_neg h6, beq_eq_false_iff_ne.mpr h4, beq_eq_false_iff_ne.mpr h5, beq_eq_false_iff_ne.mpr h6]
end
end
theorem d32_id {P b b1 b2 a12 a3 q r : Int} (hb : b = b1 * P + b2) (h1 : a12 = q * b1 + r) : a12 * P + a3 = q * b + (r * P + a3 - q * b2) := by
  subst hb h1; grind
theorem d32_ub1 {P b b1 b2 a12 a3 : Int} (hP : 0 < P) (hb : b = b1 * P + b2) (h3 : 0 ≤ a3) (h3' : a3 < P) (hb2 : 0 ≤ b2) (hb2' : b2 < P) (hlt : a12 < b) : (a12 - b1 * P + b1) * P + a3 - (P - 1) * b2 < b := by
  have : (a12 - b1 * P + 1) * P ≤ b2 * P := Int.mul_le_mul_of_nonneg_right (by walk_at "OM") (by walk_at "OM")
  grind
theorem d32_ub2 {P b b1 b2 a3 q r : Int} (hP : 0 < P) (hb : b = b1 * P + b2) (h3 : 0 ≤ a3) (h3' : a3 < P) (hb2 : 0 ≤ b2) (hq : 0 ≤ q) (hr : r < b1) : r * P + a3 - q * b2 < b := by
  have : (r + 1) * P ≤ b1 * P := Int.mul_le_mul_of_nonneg_right (by walk_at "OM") (by walk_at "OM")
  have : 0 ≤ q * b2 := Int.mul_nonneg hq hb2
  grind
theorem d32_lb {P b b1 b2 a3 q r : Int} (hP : 0 < P) (hb : b = b1 * P + b2) (h3 : 0 ≤ a3) (hb2 : 0 ≤ b2) (hb2' : b2 < P) (hq : q < P) (hr : 0 ≤ r) (hb1 : P ≤ 2 * b1) : - (2 * b) ≤ r * P + a3 - q * b2 := by
  have h1 : q * b2 ≤ P * b2 := Int.mul_le_mul_of_nonneg_right (by walk_at "OM") hb2
  have h2 : P * b2 ≤ P * P := Int.mul_le_mul_of_nonneg_left (by walk_at "OM") (by walk_at "OM")
  have h4 : P * P ≤ 2 * b1 * P := Int.mul_le_mul_of_nonneg_right hb1 (by walk_at "OM")
  have h5 : 0 ≤ r * P := Int.mul_nonneg hr (by walk_at "OM")
  grind
theorem ediv_uniq {a b q r : Int} (h : a = q * b + r) (h0 : 0 ≤ r) (h1 : r < b) : q = a / b ∧ r = a % b := by
  have hb : 0 < b := by walk_at "OM"
  have e : a = r + b * q := by rw [h, Int.mul_comm b q, Int.add_comm]
  constructor
  · rw [e, Int.add_mul_ediv_left _ _ (by walk_at "OM"), Int.ediv_eq_zero_of_lt h0 h1, Int.zero_add]
  · rw [e, Int.add_mul_emod_self_left, Int.emod_eq_of_lt h0 h1]
theorem toNat_pow2 (k : Nat) : ((2 : Int) ^ k).toNat = 2 ^ k := by
  have : ((2 : Int) ^ k) = ((2 ^ k : Nat) : Int) := by push_cast; rfl
  rw [this, Int.toNat_natCast]
theorem pow2_pos (k : Nat) : (0 : Int) < 2 ^ k := Int.pow_pos (by decide)
theorem and_mask {x : Int} (hx : 0 ≤ x) (k : Nat) : Builtin.bitAnd x (1 * 2 ^ k - 1) = x % 2 ^ k := by
  have hp := pow2_pos k
  rw [bitAnd_pp hx (by walk_at "OM")]
  have e : (1 * (2 : Int) ^ k - 1).toNat = 2 ^ k - 1 := by
    have := toNat_pow2 k
    walk_at "OM"
  rw [e, Nat.and_two_pow_sub_one_eq_mod]
  obtain ⟨n, rfl⟩ := Int.eq_ofNat_of_zero_le hx
  push_cast
  rfl
theorem and_hi_lo {m x k : Nat} (h : x < 2 ^ k) : (m * 2 ^ k) &&& x = 0 := by
  apply Nat.eq_of_testBit_eq
  intro i
  rw [Nat.testBit_and, Nat.zero_testBit, Nat.mul_comm, Nat.testBit_two_pow_mul]
  by_cases hi : k ≤ i
  · have : x.testBit i = false := Nat.testBit_lt_two_pow (Nat.lt_of_lt_of_le h (Nat.pow_le_pow_right (by decide) hi))
    simp [this]
  · simp [hi]
theorem or_add {r x : Int} {k : Nat} (hr : 0 ≤ r) (hx : 0 ≤ x) (h : x < 2 ^ k) : Builtin.bitOr (r * 2 ^ k) x = r * 2 ^ k + x := by
  have hp := pow2_pos k
  rw [bitOr_and, bitAnd_pp (Int.mul_nonneg hr (by walk_at "OM")) hx]
  obtain ⟨m, rfl⟩ := Int.eq_ofNat_of_zero_le hr
  obtain ⟨n, rfl⟩ := Int.eq_ofNat_of_zero_le hx
  have e : ((m : Int) * 2 ^ k).toNat = m * 2 ^ k := by
    have : ((m : Int) * 2 ^ k) = ((m * 2 ^ k : Nat) : Int) := by push_cast; rfl
    rw [this, Int.toNat_natCast]
  rw [e, Int.toNat_natCast, and_hi_lo (by have : ((n : Int)) < ((2 ^ k : Nat) : Int) := by push_cast; exact h
                                          exact_mod_cast this)]
  simp
theorem and_hi {x k : Nat} : x &&& (x / 2 ^ k * 2 ^ k) = x / 2 ^ k * 2 ^ k := by
  apply Nat.eq_of_testBit_eq
  intro i
  rw [Nat.testBit_and, Nat.mul_comm (x / 2 ^ k), Nat.testBit_two_pow_mul]
  by_cases hi : k ≤ i
  · rw [Nat.testBit_div_two_pow]
    simp [hi]
  · simp [hi]
theorem xor_low {x : Int} {k : Nat} (hx : 0 ≤ x) : Builtin.bitXor x (x / 2 ^ k * 2 ^ k) = x % 2 ^ k := by
  have hp := pow2_pos k
  have hd : 0 ≤ x / 2 ^ k := Int.ediv_nonneg hx (by walk_at "OM")
  rw [bitXor_and, bitAnd_pp hx (Int.mul_nonneg hd (by walk_at "OM"))]
  obtain ⟨n, rfl⟩ := Int.eq_ofNat_of_zero_le hx
  have e : ((n : Int) / 2 ^ k * 2 ^ k) = ((n / 2 ^ k * 2 ^ k : Nat) : Int) := by push_cast; rfl
  rw [e, Int.toNat_natCast, Int.toNat_natCast, and_hi, ← e]
  have := Int.emod_add_mul_ediv (n : Int) (2 ^ k)
  rw [Int.mul_comm] at this
  walk_at "OM"
theorem fdiv_pow {x : Int} {k : Nat} : x.fdiv (2 ^ k) = x / 2 ^ k := Int.fdiv_eq_ediv_of_nonneg _ (Int.le_of_lt (pow2_pos k))
theorem natBits {x : Int} {k : Nat} (h0 : 0 ≤ x) (h : x < 2 ^ k) : Builtin.Int.intBits x ≤ k := by
  refine intBits_le_iff.mpr ?_
  have : ((2 ^ k : Nat) : Int) = 2 ^ k := by push_cast; rfl
  walk_at "OM"
theorem bitsGe {x : Int} {k : Nat} (h0 : 0 ≤ x) (h : Builtin.Int.intBits x ≤ k) : x < 2 ^ k := by
  have h1 := intBits_le_iff.mp h
  have : ((2 ^ k : Nat) : Int) = 2 ^ k := by push_cast; rfl
  walk_at "OM"
theorem bitsEq {x : Int} {n : Nat} (hn : 0 < n) (h0 : 2 ^ (n - 1) ≤ x) (h : x < 2 ^ n) : Builtin.Int.intBits x = n := by
  have hp := pow2_pos (n - 1)
  have h1 := natBits (by walk_at "OM") h
  by_cases h2 : Builtin.Int.intBits x ≤ n - 1
  · have := bitsGe (by walk_at "OM") h2
    walk_at "OM"
  · walk_at "OM"
theorem noPy {a b : Int} (h : Builtin.Int.intBits a ≤ Builtin.Int.intBits b + 4000) : Builtin.divisionGoesByPylong a b = false := by
  unfold Builtin.divisionGoesByPylong
  unfold Builtin.Int.intBits at h
  by_cases ha : a = 0
  · subst ha; simp
  · by_cases hb : b = 0
    · subst hb; simp
    · rw [if_neg (by simpa using ha), if_neg (by simpa using hb)] at h
      have ha' : (a == 0) = false := by simpa using ha
      have hb' : (b == 0) = false := by simpa using hb
      simp only [ha', hb', Bool.false_eq_true, if_false]
      have : ¬ (a.natAbs.log2 / 30 + 1 > b.natAbs.log2 / 30 + 1 + 150) := by walk_at "OM"
      simp only [decide_eq_false this, Bool.and_false]
local macro_rules | `(tactic| walk_at "exec If") => `(tactic| (refine wpAny_If ?_))
local macro_rules | `(tactic| walk_at "GO") => `(tactic| repeat' (first | (k_unfold; (try dsimp only)) | walk1 | (dsimp only; walk1) | (leave1; try dsimp only) | fail "no step"))
section
variable {prog : Program} {w : World} {A : Around} {E : Value → Shared → Prop} {h : Heap} {g : Array GenState} {d : Drawn} {k : Nat} {o : OsState} {a b n x : Int} {t u : Tok} {Q : Value → Shared → Prop}
theorem shl_named (hn : 0 ≤ n) (hsz : (Builtin.Int.intBits a : Int) + n ≤ 2 ^ 27) (he : a * 2 ^ n.toNat = x) (q : Q (.int x k) ⟨h, g, d, k + 1, o⟩) : wpAny (model prog w) A (binaryOp .LShift (.int a t) (.int n u)) Q E ⟨h, g, d, k, o⟩ := lshift_int hn hsz (he ▸ q)
theorem ishl_named (hn : 0 ≤ n) (hsz : (Builtin.Int.intBits a : Int) + n ≤ 2 ^ 27) (he : a * 2 ^ n.toNat = x) (q : Q (.int x k) ⟨h, g, d, k + 1, o⟩) : wpAny (model prog w) A (inplaceOp .LShift (.int a t) (.int n u)) Q E ⟨h, g, d, k, o⟩ := ilshift_int hn hsz (he ▸ q)
theorem shr_named (hn : 0 ≤ n) (he : a.fdiv (2 ^ n.toNat) = x) (q : Q (.int x k) ⟨h, g, d, k + 1, o⟩) : wpAny (model prog w) A (binaryOp .RShift (.int a t) (.int n u)) Q E ⟨h, g, d, k, o⟩ := rshift_int hn (he ▸ q)
theorem ishr_named (hn : 0 ≤ n) (he : a.fdiv (2 ^ n.toNat) = x) (q : Q (.int x k) ⟨h, g, d, k + 1, o⟩) : wpAny (model prog w) A (inplaceOp .RShift (.int a t) (.int n u)) Q E ⟨h, g, d, k, o⟩ := irshift_int hn (he ▸ q)
theorem and_named (he : Builtin.bitAnd a b = x) (q : Q (.int x k) ⟨h, g, d, k + 1, o⟩) : wpAny (model prog w) A (binaryOp .BitAnd (.int a t) (.int b u)) Q E ⟨h, g, d, k, o⟩ := and_int (he ▸ q)
theorem or_named (he : Builtin.bitOr a b = x) (q : Q (.int x k) ⟨h, g, d, k + 1, o⟩) : wpAny (model prog w) A (binaryOp .BitOr (.int a t) (.int b u)) Q E ⟨h, g, d, k, o⟩ := or_int (he ▸ q)
theorem xor_named (he : Builtin.bitXor a b = x) (q : Q (.int x k) ⟨h, g, d, k + 1, o⟩) : wpAny (model prog w) A (binaryOp .BitXor (.int a t) (.int b u)) Q E ⟨h, g, d, k, o⟩ := xor_int (he ▸ q)
end
theorem newTuple_L {M : Model} {A : Around} {E : Value → Shared → Prop} {s : Shared} {h₀ : Heap} {L : Addr} {m : Str → Option Value} {news : List (Addr × Obj)} {vs : List Value} {Q : Value → Shared → Prop} (F : Fr h₀ L s.heap m) (N : News h₀ L s.heap news)
    (h : ∀ l h', Fr h₀ L h' m → News h₀ L h' ((l, { cls := .type "tuple", data := .seq vs.toArray }) :: news) → (∀ p ∈ news, p.1 < l) → h₀.objs.size ≤ l → Q (.ref l) { s with heap := h' }) (hsz : vs.length ≤ sizeLine := by size_fits) : wpAny M A (newTuple vs) Q E s :=
  newTuple_N F N (fun h' F' N' => h _ h' F' N' (fun p hp => Heap.lt_size (N p hp).1) (frSize F)) hsz
local macro_rules | `(tactic| walk_at "binaryOp LShift int int") => `(tactic| (k_here; (with_reducible refine' shl_named ?kn ?ks ?ke ?_); (case kn => first | with_reducible assumption | exact Int.natCast_nonneg _ | decide); (case ks => with_reducible assumption); (case ke => with_reducible assumption)))
local macro_rules | `(tactic| walk_at "inplaceOp LShift int int") => `(tactic| (k_here; (with_reducible refine' ishl_named ?kn ?ks ?ke ?_); (case kn => first | with_reducible assumption | exact Int.natCast_nonneg _ | decide); (case ks => with_reducible assumption); (case ke => with_reducible assumption)))
local macro_rules | `(tactic| walk_at "binaryOp RShift int int") => `(tactic| (k_here; (with_reducible refine' shr_named ?kn ?ke ?_); (case kn => first | with_reducible assumption | exact Int.natCast_nonneg _ | decide); (case ke => with_reducible assumption)))
local macro_rules | `(tactic| walk_at "inplaceOp RShift int int") => `(tactic| (k_here; (with_reducible refine' ishr_named ?kn ?ke ?_); (case kn => first | with_reducible assumption | exact Int.natCast_nonneg _ | decide); (case ke => with_reducible assumption)))
local macro_rules | `(tactic| walk_at "binaryOp BitAnd int int") => `(tactic| (k_here; (with_reducible refine' and_named (by with_reducible assumption) ?_)))
local macro_rules | `(tactic| walk_at "binaryOp BitOr int int") => `(tactic| (k_here; (with_reducible refine' or_named (by with_reducible assumption) ?_)))
local macro_rules | `(tactic| walk_at "binaryOp BitXor int int") => `(tactic| (k_here; (with_reducible refine' xor_named (by with_reducible assumption) ?_)))
local macro_rules | `(tactic| walk_at "WhlIf") => `(tactic| first | (refine WhlIf.yes (decide_eq_true (by with_reducible assumption)) ?_) | (refine WhlIf.no (decide_eq_false (by with_reducible assumption)) ?_))
local macro_rules | `(tactic| walk_at "exec While Compare") => `(tactic| (k_here; k_dflt (refine whl_start 5 ?_)))
local macro_rules | `(tactic| walk_at "newTuple") => `(tactic| (k_here; k_dflt (refine' newTuple_L (by k_asm) (by k_asm) ?_ (by kmk_size)); intro l' h' F' N' l1 l2; (try k_lt l1); (try k_sweep)))
section
local macro_rules | `(tactic| walk_at "call ref") => `(tactic| (k_here; k_dflt (refine Stop.mk ?_)))
section
variable {w : World} {p : Program} {loose : List Str} {mean : ExcName → Option Value} {mg mb : Str → Option Value}

theorem d32_fin {A b q R : Int} (h : A = q * b + R) (h1 : R < b) (h2 : -(2 * b) ≤ R) :
    (¬ R < 0 ∧ q = A / b ∧ R = A % b) ∨ (R < 0 ∧ ¬ R + b < 0 ∧ q - 1 = A / b ∧ R + b = A % b) ∨ (R < 0 ∧ R + b < 0 ∧ ¬ R + b + b < 0 ∧ q - 1 - 1 = A / b ∧ R + b + b = A % b) := by
  by_cases c0 : R < 0
  · by_cases c1 : R + b < 0
    · right; right
      have := ediv_uniq (a := A) (b := b) (q := q - 1 - 1) (r := R + b + b) (by grind) (by walk_at "OM") (by walk_at "OM")
      exact ⟨c0, c1, by walk_at "OM", this.1, this.2⟩
    · right; left
      have := ediv_uniq (a := A) (b := b) (q := q - 1) (r := R + b) (by grind) (by walk_at "OM") (by walk_at "OM")
      exact ⟨c0, c1, this.1, this.2⟩
  · left
    have := ediv_uniq (a := A) (b := b) (q := q) (r := R) h (by walk_at "OM") (by walk_at "OM")
    exact ⟨c0, this.1, this.2⟩
theorem P2_half {n : Nat} {x : Int} (h : 0 < n) (g : 2 ^ (n - 1) ≤ x) : (2 : Int) ^ n ≤ 2 * x := by
  obtain ⟨k, rfl⟩ : ∃ k, n = k + 1 := ⟨n - 1, by walk_at "OM"⟩
  rw [Int.pow_succ]
  have : k + 1 - 1 = k := rfl
  rw [this] at g
  walk_at "OM"
theorem d32_case1 {a12 a3 b b1 b2 : Int} {n : Nat} (hn0 : 0 < n) (g1 : 2 ^ (n - 1) ≤ b1) (u1 : b1 < 2 ^ n) (hb : b = b1 * 2 ^ n + b2) (g2 : 0 ≤ b2) (u2 : b2 < 2 ^ n) (g3 : 0 ≤ a3) (u3 : a3 < 2 ^ n) (g4 : 0 ≤ a12) (u4 : a12 < b) (he : a12 / 2 ^ n = b1) :
    a12 * 2 ^ n + a3 = (2 ^ n - 1) * b + ((a12 - b1 * 2 ^ n + b1) * 2 ^ n + a3 - (2 ^ n - 1) * b2) ∧ (a12 - b1 * 2 ^ n + b1) * 2 ^ n + a3 - (2 ^ n - 1) * b2 < b ∧ -(2 * b) ≤ (a12 - b1 * 2 ^ n + b1) * 2 ^ n + a3 - (2 ^ n - 1) * b2 ∧
      0 ≤ a12 - b1 * 2 ^ n + b1 ∧ a12 - b1 * 2 ^ n + b1 < 2 ^ (n + 1) := by
  have hp := pow2_pos n
  have hh := P2_half hn0 g1
  have hl : b1 * 2 ^ n ≤ a12 := by
    have := Int.ediv_mul_le a12 (b := 2 ^ n) (by walk_at "OM")
    rw [he] at this; exact this
  have hb0 := pow2_pos (n - 1)
  refine ⟨?_, d32_ub1 hp hb g3 u3 g2 u2 u4, d32_lb hp hb g3 g2 u2 (by walk_at "OM") (by walk_at "OM") hh, by walk_at "OM", ?_⟩
  · exact d32_id hb (by generalize (2 : Int) ^ n = P at *; grind)
  · rw [Int.pow_succ]; walk_at "OM"
theorem d32_case2 {a12 a3 b b1 b2 : Int} {n : Nat} (hn0 : 0 < n) (g1 : 2 ^ (n - 1) ≤ b1) (u1 : b1 < 2 ^ n) (hb : b = b1 * 2 ^ n + b2) (g2 : 0 ≤ b2) (u2 : b2 < 2 ^ n) (g3 : 0 ≤ a3) (u3 : a3 < 2 ^ n) (g4 : 0 ≤ a12) (u4 : a12 < b) (he : a12 / 2 ^ n ≠ b1) :
    (0 ≤ a12 / b1 ∧ a12 / b1 < 2 ^ n ∧ 0 ≤ a12 % b1 ∧ a12 % b1 < b1) ∧
    a12 * 2 ^ n + a3 = (a12 / b1) * b + ((a12 % b1) * 2 ^ n + a3 - (a12 / b1) * b2) ∧ (a12 % b1) * 2 ^ n + a3 - (a12 / b1) * b2 < b ∧ -(2 * b) ≤ (a12 % b1) * 2 ^ n + a3 - (a12 / b1) * b2 ∧ a12 < 2 ^ n * b1 := by
  have hp := pow2_pos n
  have hh := P2_half hn0 g1
  have hb0 := pow2_pos (n - 1)
  have hb1 : 0 < b1 := by walk_at "OM"
  have hlt : a12 < b1 * 2 ^ n := by
    by_cases h : a12 < b1 * 2 ^ n
    · exact h
    · exfalso
      have := ediv_uniq (a := a12) (b := 2 ^ n) (q := b1) (r := a12 - b1 * 2 ^ n) (by grind) (by walk_at "OM") (by walk_at "OM")
      exact he this.1.symm
  have hlt' : a12 < 2 ^ n * b1 := by rw [Int.mul_comm]; exact hlt
  have q0 : 0 ≤ a12 / b1 := Int.ediv_nonneg g4 (by walk_at "OM")
  have q1 : a12 / b1 < 2 ^ n := Int.ediv_lt_of_lt_mul hb1 hlt'
  have r0 : 0 ≤ a12 % b1 := Int.emod_nonneg _ (by walk_at "OM")
  have r1 : a12 % b1 < b1 := Int.emod_lt_of_pos _ hb1
  refine ⟨⟨q0, q1, r0, r1⟩, d32_id hb ?_, d32_ub2 hp hb g3 u3 g2 q0 r1, d32_lb hp hb g3 g2 u2 q1 r0 hh, hlt'⟩
  have := Int.mul_ediv_add_emod a12 b1
  rw [Int.mul_comm] at this
  exact this.symm
noncomputable def D21 (w : World) (p : Program) (loose : List Str) (mean : ExcName → Option Value) (mg mb : Str → Option Value) (r N : Nat) : Prop := ∀ {A : Around} {s : Shared} {Q E : Value → Shared → Prop} {a b : Int} {n : Nat} {ta tb tn : Tok},
  Rm r A → (hd.heap_1 w.params).In s.heap → Top p loose mean mg mb s.heap → n ≤ N → 0 < n → 2 ^ (n - 1) ≤ b → b < 2 ^ n → 0 ≤ a → a < 2 ^ n * b →
  (∀ l t1 t2 h' tk', Kp s.heap h' → s.heap.objs.size ≤ l → h'.get? l = some { cls := .type "tuple", data := .seq #[.int (a / b) t1, .int (a % b) t2] } → Q (.ref l) { s with heap := h', toks := tk' }) →
  wpAny (model PySem.Challenge.rw_tl0018_01.row.prog w) A (call (.ref 42) [.int a ta, .int b tb, .int (n : Int) tn]) Q E s
set_option maxHeartbeats 8000000 in
theorem c_d32 {r N : Nat} (hN : N ≤ 2 ^ 20) (IH : D21 w p loose mean mg mb r N) {A : Around} {s : Shared} {Q E : Value → Shared → Prop} {a12 a3 b b1 b2 : Int} {n : Nat} {ta tb tc td te tn : Tok}
    (hA : Rm (r + 1) A) (X : (hd.heap_1 w.params).In s.heap) (T : Top p loose mean mg mb s.heap)
    (hn : n ≤ N) (hn0 : 0 < n) (g1 : 2 ^ (n - 1) ≤ b1) (u1 : b1 < 2 ^ n) (hb : b = b1 * 2 ^ n + b2) (g2 : 0 ≤ b2) (u2 : b2 < 2 ^ n) (g3 : 0 ≤ a3) (u3 : a3 < 2 ^ n) (g4 : 0 ≤ a12) (u4 : a12 < b)
    (ret : ∀ l t1 t2 h' tk', Kp s.heap h' → s.heap.objs.size ≤ l → h'.get? l = some { cls := .type "tuple", data := .seq #[.int ((a12 * 2 ^ n + a3) / b) t1, .int ((a12 * 2 ^ n + a3) % b) t2] } → Q (.ref l) { s with heap := h', toks := tk' }) :
    wpAny (model PySem.Challenge.rw_tl0018_01.row.prog w) A (call (.ref 49) [.int a12 ta, .int a3 tb, .int b tc, .int b1 td, .int b2 te, .int (n : Int) tn]) Q E s := by
  have hp := pow2_pos n
  have hT : (n : Int).toNat = n := Int.toNat_natCast n
  have hn2 : n ≤ 1048576 := Nat.le_trans hn hN
  obtain ⟨sh, e0⟩ : ∃ x, a12.fdiv (2 ^ (n : Int).toNat) = x := ⟨_, rfl⟩
  have e0' : a12 / 2 ^ n = sh := by rw [← e0, hT, fdiv_pow]
  obtain ⟨hdl, dp, fr, gd, un⟩ := A
  obtain rfl : hdl = none := hA.1
  revert X; k_fill; intro X
  refine' enterK (binds := [(Str.ofString "a12", .int a12 ta), (Str.ofString "a3", .int a3 tb), (Str.ofString "b", .int b tc), (Str.ofString "b1", .int b1 td), (Str.ofString "b2", .int b2 te), (Str.ofString "n", .int (n : Int) tn)]) X T ?k6 ?k7 ?k8 ?k9 ?kB ?c2 ?c3 ?c4 ?c5 ?_
  (case k6 => k_is); (case k7 => k_is); (case k8 => exact Rm.room (by assumption)); (case k9 => exact BindsTo.of_eq rfl); (case c5 => decide); (case kB => exact locs rfl); (case c2 => exact rfl); (case c3 => exact rfl); (case c4 => exact rfl)
  k_whole
  intro L' h' F' N'
  (try dsimp only [List.length_cons, List.length_nil])
  (try k_fold)
  by_cases hsh : sh = b1
  · obtain ⟨k1, k2, k3, k4, k5⟩ := d32_case1 hn0 g1 u1 hb g2 u2 g3 u3 g4 u4 (e0'.trans hsh)
    obtain ⟨f1, e1⟩ : ∃ x : Int, 1 * 2 ^ (n : Int).toNat = x := ⟨_, rfl⟩
    obtain ⟨f2, e2⟩ : ∃ x, b1 * 2 ^ (n : Int).toNat = x := ⟨_, rfl⟩
    obtain ⟨r1, e3⟩ : ∃ x, (a12 - f2 + b1) * 2 ^ (n : Int).toNat = x := ⟨_, rfl⟩
    obtain ⟨r2, e4⟩ : ∃ x, Builtin.bitOr r1 a3 = x := ⟨_, rfl⟩
    have v1 : f1 = 2 ^ n := by rw [← e1, hT, Int.one_mul]
    have v2 : f2 = b1 * 2 ^ n := by rw [← e2, hT]
    have v3 : r2 = (a12 - b1 * 2 ^ n + b1) * 2 ^ n + a3 := by rw [← e4, ← e3, hT, v2, or_add k4 g3 u3]
    have s1 : (Builtin.Int.intBits 1 : Int) + n ≤ 2 ^ 27 := by
      have : Builtin.Int.intBits 1 = 1 := by decide
      walk_at "OM"
    have s2 : (Builtin.Int.intBits b1 : Int) + n ≤ 2 ^ 27 := by
      have := natBits (by have := pow2_pos (n - 1); walk_at "OM") u1
      walk_at "OM"
    have s3 : (Builtin.Int.intBits (a12 - f2 + b1) : Int) + n ≤ 2 ^ 27 := by
      rw [v2]; have := natBits k4 k5
      walk_at "OM"
    have m1 : IntMulOk (f1 - 1) b2 := by
      rw [v1]
      exact IntMulOk.of_bits (Nat.le_trans (natBits (k := n) (by walk_at "OM") (by walk_at "OM")) hn2) (Nat.le_trans (natBits g2 u2) hn2)
    obtain ⟨q0, hq0⟩ : ∃ x, f1 - 1 = x := ⟨_, rfl⟩
    have hfin := d32_fin (A := a12 * 2 ^ n + a3) (b := b) (q := f1 - 1) (R := r2 - (f1 - 1) * b2) (by rw [v1, v3]; exact k1) (by rw [v1, v3]; exact k2) (by rw [v1, v3]; exact k3)
    clear k1 k2 k3 k4 k5 v1 v2 v3 q0 hq0
    rcases hfin with ⟨c0, hq, hR⟩ | ⟨c0, c1, hq, hR⟩ | ⟨c0, c1, c2, hq, hR⟩
    · walk_at "GO"
      skip
      all_goals first | (skip; exact absurd (by with_reducible assumption) hsh) | (skip; exact absurd hsh (by with_reducible assumption)) | ((skip; rename Fr _ _ _ _ => F9); (skip; rename News _ _ _ _ => N9); (skip; rename @LE.le Nat _ s.heap.objs.size _ => l9); skip; (have e9 := (N9 _ (.head _)).1); skip; (try dsimp only at e9); skip; rw [hR, hq] at e9; skip; exact ret _ _ _ _ _ (Fr.keep F9) l9 e9)

    · walk_at "GO"
      skip
      all_goals first | (skip; exact absurd (by with_reducible assumption) hsh) | (skip; exact absurd hsh (by with_reducible assumption)) | ((skip; rename Fr _ _ _ _ => F9); (skip; rename News _ _ _ _ => N9); (skip; rename @LE.le Nat _ s.heap.objs.size _ => l9); skip; (have e9 := (N9 _ (.head _)).1); skip; (try dsimp only at e9); skip; rw [hR, hq] at e9; skip; exact ret _ _ _ _ _ (Fr.keep F9) l9 e9)

    · walk_at "GO"
      skip
      all_goals first | (skip; exact absurd (by with_reducible assumption) hsh) | (skip; exact absurd hsh (by with_reducible assumption)) | ((skip; rename Fr _ _ _ _ => F9); (skip; rename News _ _ _ _ => N9); (skip; rename @LE.le Nat _ s.heap.objs.size _ => l9); skip; (have e9 := (N9 _ (.head _)).1); skip; (try dsimp only at e9); skip; rw [hR, hq] at e9; skip; exact ret _ _ _ _ _ (Fr.keep F9) l9 e9)

  · obtain ⟨j1, k1, k2, k3, k4⟩ := d32_case2 hn0 g1 u1 hb g2 u2 g3 u3 g4 u4 (fun e => hsh (e0'.symm.trans e))
    obtain ⟨j2, j3, j4, j5⟩ := j1
    obtain ⟨r1, e3⟩ : ∃ x, (a12 % b1) * 2 ^ (n : Int).toNat = x := ⟨_, rfl⟩
    obtain ⟨r2, e4⟩ : ∃ x, Builtin.bitOr r1 a3 = x := ⟨_, rfl⟩
    have v3 : r2 = (a12 % b1) * 2 ^ n + a3 := by rw [← e4, ← e3, hT, or_add j4 g3 u3]
    have s3 : (Builtin.Int.intBits (a12 % b1) : Int) + n ≤ 2 ^ 27 := by
      have := natBits (k := n) j4 (by walk_at "OM")
      walk_at "OM"
    have m1 : IntMulOk (a12 / b1) b2 := IntMulOk.of_bits (Nat.le_trans (natBits j2 j3) hn2) (Nat.le_trans (natBits g2 u2) hn2)
    have hfin := d32_fin (A := a12 * 2 ^ n + a3) (b := b) (q := a12 / b1) (R := r2 - (a12 / b1) * b2) (by rw [v3]; exact k1) (by rw [v3]; exact k2) (by rw [v3]; exact k3)
    clear k1 k2 k3 v3 j2 j3 j4 j5 g2 u2
    walk_at "GO"
    · exact absurd (by with_reducible assumption) hsh
    rename Fr _ _ _ _ => F9
    rename News _ _ _ _ => N9
    refine Stop.mk ?_
    refine IH (Rm.deep hA (Nat.le_refl _)) (X.keeps F9.keep) (T.keeps F9.keep) hn hn0 g1 u1 g4 k4 ?_
    intro l9 t1 t2 h9 tk9 K9 s9 e9
    (try dsimp only at s9)
    have N8 := newsNew F9 N9 K9 s9 e9
    have F8 := frKp F9 K9
    clear N9 F9 K9 e9 s9
    (try dsimp only)
    (try k_fold)
    rcases hfin with ⟨c0, hq, hR⟩ | ⟨c0, c1, hq, hR⟩ | ⟨c0, c1, c2, hq, hR⟩
    · walk_at "GO"
      skip
      all_goals first | (skip; exact absurd (by with_reducible assumption) hsh) | (skip; exact absurd hsh (by with_reducible assumption)) | ((skip; rename Fr _ _ _ _ => F9); (skip; rename News _ _ _ _ => N9); (skip; rename @LE.le Nat _ s.heap.objs.size _ => l9); skip; (have e9 := (N9 _ (.head _)).1); skip; (try dsimp only at e9); skip; rw [hR, hq] at e9; skip; exact ret _ _ _ _ _ (Fr.keep F9) l9 e9)

    · walk_at "GO"
      skip
      all_goals first | (skip; exact absurd (by with_reducible assumption) hsh) | (skip; exact absurd hsh (by with_reducible assumption)) | ((skip; rename Fr _ _ _ _ => F9); (skip; rename News _ _ _ _ => N9); (skip; rename @LE.le Nat _ s.heap.objs.size _ => l9); skip; (have e9 := (N9 _ (.head _)).1); skip; (try dsimp only at e9); skip; rw [hR, hq] at e9; skip; exact ret _ _ _ _ _ (Fr.keep F9) l9 e9)

    · walk_at "GO"
      skip
      all_goals first | (skip; exact absurd (by with_reducible assumption) hsh) | (skip; exact absurd hsh (by with_reducible assumption)) | ((skip; rename Fr _ _ _ _ => F9); (skip; rename News _ _ _ _ => N9); (skip; rename @LE.le Nat _ s.heap.objs.size _ => l9); skip; (have e9 := (N9 _ (.head _)).1); skip; (try dsimp only at e9); skip; rw [hR, hq] at e9; skip; exact ret _ _ _ _ _ (Fr.keep F9) l9 e9)

end
theorem d21_pre {a b : Int} {h : Nat} (hh : 0 < h) (g1 : 2 ^ (2 * h - 1) ≤ b) (u1 : b < 2 ^ (2 * h)) (g2 : 0 ≤ a) (u2 : a < 2 ^ (2 * h) * b) :
    2 ^ (h - 1) ≤ b / 2 ^ h ∧ b / 2 ^ h < 2 ^ h ∧ b = b / 2 ^ h * 2 ^ h + b % 2 ^ h ∧ 0 ≤ b % 2 ^ h ∧ b % 2 ^ h < 2 ^ h ∧ 0 ≤ a / 2 ^ (2 * h) ∧ a / 2 ^ (2 * h) < b ∧
    0 ≤ a / 2 ^ h % 2 ^ h ∧ a / 2 ^ h % 2 ^ h < 2 ^ h ∧ 0 ≤ a % 2 ^ h ∧ a % 2 ^ h < 2 ^ h ∧ 0 < b := by
  have hp := pow2_pos h
  have hp2 := pow2_pos (2 * h)
  have hp1 := pow2_pos (2 * h - 1)
  have e1 : (2 : Int) ^ (2 * h) = 2 ^ h * 2 ^ h := by rw [← Int.pow_add]; congr 1; walk_at "OM"
  have e2 : (2 : Int) ^ (2 * h - 1) = 2 ^ (h - 1) * 2 ^ h := by rw [← Int.pow_add]; congr 1; walk_at "OM"
  refine ⟨?_, ?_, ?_, Int.emod_nonneg _ (by walk_at "OM"), Int.emod_lt_of_pos _ hp, Int.ediv_nonneg g2 (by walk_at "OM"), Int.ediv_lt_of_lt_mul hp2 (by rw [Int.mul_comm] at u2; rw [Int.mul_comm]; rw [Int.mul_comm] at u2; exact u2), Int.emod_nonneg _ (by walk_at "OM"), Int.emod_lt_of_pos _ hp, Int.emod_nonneg _ (by walk_at "OM"), Int.emod_lt_of_pos _ hp, by walk_at "OM"⟩
  · exact (Int.le_ediv_iff_mul_le hp).mpr (by rw [← e2]; exact g1)
  · exact Int.ediv_lt_of_lt_mul hp (by rw [← e1]; exact u1)
  · have := Int.mul_ediv_add_emod b (2 ^ h)
    rw [Int.mul_comm] at this
    exact this.symm
theorem d21_post {a b : Int} {h : Nat} (hb : 0 < b) :
    ((a / 2 ^ (2 * h) * 2 ^ h + a / 2 ^ h % 2 ^ h) / b) * 2 ^ h + ((a / 2 ^ (2 * h) * 2 ^ h + a / 2 ^ h % 2 ^ h) % b * 2 ^ h + a % 2 ^ h) / b = a / b ∧
    ((a / 2 ^ (2 * h) * 2 ^ h + a / 2 ^ h % 2 ^ h) % b * 2 ^ h + a % 2 ^ h) % b = a % b := by
  have hp := pow2_pos h
  have e1 : (2 : Int) ^ (2 * h) = 2 ^ h * 2 ^ h := by rw [← Int.pow_add]; congr 1; walk_at "OM"
  have e3 : a / 2 ^ (2 * h) = a / 2 ^ h / 2 ^ h := by rw [e1, Int.ediv_ediv_of_nonneg (by walk_at "OM")]
  have e4 : a / 2 ^ (2 * h) * 2 ^ h + a / 2 ^ h % 2 ^ h = a / 2 ^ h := by
    rw [e3]
    have := Int.mul_ediv_add_emod (a / 2 ^ h) (2 ^ h)
    rw [Int.mul_comm] at this
    exact this
  rw [e4]
  have h1 := Int.mul_ediv_add_emod a (2 ^ h)
  have h2 := Int.mul_ediv_add_emod (a / 2 ^ h) b
  have h3 := Int.mul_ediv_add_emod ((a / 2 ^ h) % b * 2 ^ h + a % 2 ^ h) b
  have h4 := Int.emod_nonneg ((a / 2 ^ h) % b * 2 ^ h + a % 2 ^ h) (b := b) (by walk_at "OM")
  have h5 := Int.emod_lt_of_pos ((a / 2 ^ h) % b * 2 ^ h + a % 2 ^ h) hb
  refine ediv_uniq ?_ h4 h5
  generalize hQ2 : ((a / 2 ^ h) % b * 2 ^ h + a % 2 ^ h) / b = q2 at *
  generalize hR2 : ((a / 2 ^ h) % b * 2 ^ h + a % 2 ^ h) % b = r2 at *
  generalize (a / 2 ^ h) / b = q1 at *
  generalize (a / 2 ^ h) % b = r1 at *
  generalize a / 2 ^ h = x at *
  generalize a % 2 ^ h = y at *
  generalize (2 : Int) ^ h = P at *
  clear hQ2 hR2 e1 e3 e4
  grind
theorem d21_qs {a b : Int} {h : Nat} (hb : 0 < b) (g2 : 0 ≤ a) (ha : a / 2 ^ (2 * h) < b) : 0 ≤ (a / 2 ^ (2 * h) * 2 ^ h + a / 2 ^ h % 2 ^ h) / b ∧ (a / 2 ^ (2 * h) * 2 ^ h + a / 2 ^ h % 2 ^ h) / b < 2 ^ h ∧
    0 ≤ ((a / 2 ^ (2 * h) * 2 ^ h + a / 2 ^ h % 2 ^ h) % b * 2 ^ h + a % 2 ^ h) / b ∧ ((a / 2 ^ (2 * h) * 2 ^ h + a / 2 ^ h % 2 ^ h) % b * 2 ^ h + a % 2 ^ h) / b < 2 ^ h := by
  have hp := pow2_pos h
  have hp2 := pow2_pos (2 * h)
  have k1 := Int.emod_nonneg (a / 2 ^ h) (b := 2 ^ h) (by walk_at "OM")
  have k2 := Int.emod_lt_of_pos (a / 2 ^ h) hp
  have k3 := Int.emod_nonneg a (b := 2 ^ h) (by walk_at "OM")
  have k4 := Int.emod_lt_of_pos a hp
  have k5 : 0 ≤ a / 2 ^ (2 * h) := Int.ediv_nonneg g2 (by walk_at "OM")
  generalize a / 2 ^ (2 * h) = x at *
  generalize a / 2 ^ h % 2 ^ h = y at *
  generalize a % 2 ^ h = z at *
  have k6 := Int.emod_nonneg (x * 2 ^ h + y) (b := b) (by walk_at "OM")
  have k7 := Int.emod_lt_of_pos (x * 2 ^ h + y) hb
  generalize (x * 2 ^ h + y) % b = r at *
  have m1 : 0 ≤ x * 2 ^ h := Int.mul_nonneg k5 (by walk_at "OM")
  have m2 : 0 ≤ r * 2 ^ h := Int.mul_nonneg k6 (by walk_at "OM")
  have m3 : (x + 1) * 2 ^ h ≤ b * 2 ^ h := Int.mul_le_mul_of_nonneg_right (by walk_at "OM") (by walk_at "OM")
  have m4 : (r + 1) * 2 ^ h ≤ b * 2 ^ h := Int.mul_le_mul_of_nonneg_right (by walk_at "OM") (by walk_at "OM")
  refine ⟨Int.ediv_nonneg (by walk_at "OM") (by walk_at "OM"), Int.ediv_lt_of_lt_mul hb ?_, Int.ediv_nonneg (by walk_at "OM") (by walk_at "OM"), Int.ediv_lt_of_lt_mul hb ?_⟩
  · generalize (2 : Int) ^ h = P at *; grind
  · generalize (2 : Int) ^ h = P at *; grind
theorem dbl {a b : Int} (hb : 0 < b) : (a * 2) / (b * 2) = a / b ∧ ((a * 2) % (b * 2)).fdiv 2 = a % b := by
  have h1 := Int.mul_ediv_add_emod a b
  have h2 := Int.emod_nonneg a (b := b) (by walk_at "OM")
  have h3 := Int.emod_lt_of_pos a hb
  have := ediv_uniq (a := a * 2) (b := b * 2) (q := a / b) (r := a % b * 2) (by generalize a / b = q at *; generalize a % b = r at *; grind) (by walk_at "OM") (by walk_at "OM")
  refine ⟨this.1.symm, ?_⟩
  rw [← this.2, Int.fdiv_eq_ediv_of_nonneg _ (by decide), Int.mul_ediv_cancel _ (by decide)]
section
variable {w : World} {p : Program} {loose : List Str} {mean : ExcName → Option Value} {mg mb : Str → Option Value} {A : Around} {s : Shared} {Q E : Value → Shared → Prop}
theorem divmod_F {prog : Program} {h₀ : Heap} {L : Addr} {m : Str → Option Value} {news : List (Addr × Obj)} {a b : Int} {t u : Tok} (F : Fr h₀ L s.heap m) (N : News h₀ L s.heap news) (hb : b ≠ 0) (hp : Builtin.divisionGoesByPylong a b = false)
    (h : ∀ l h' t1 t2 tk, Fr h₀ L h' m → News h₀ L h' ((l, { cls := .type "tuple", data := .seq #[.int (a.fdiv b) t1, .int (a.fmod b) t2] }) :: news) → (∀ p ∈ news, p.1 < l) → h₀.objs.size ≤ l → Q (.ref l) { s with heap := h', toks := tk }) :
    wpAny (model prog w) A (call (.builtin "divmod") [.int a t, .int b u]) Q E s :=
  divmod_int hb (h _ _ _ _ _ (F.push _) (N.push F _) (fun p hp => Heap.lt_size (N p hp).1) (frSize F)) (Or.inl hp)

local macro_rules | `(tactic| walk_at "call builtin:divmod") => `(tactic| (k_here; k_dflt (refine' divmod_F (by k_asm) (by k_asm) (by with_reducible assumption) (by with_reducible assumption) ?_); intro l' h' t1 t2 tk F' N' l1 l2; (try k_lt l1); (try k_sweep)))
set_option maxHeartbeats 4000000 in
theorem d21_small (hA : Rm 1 A) (X : (hd.heap_1 w.params).In s.heap) (T : Top p loose mean mg mb s.heap) {a b : Int} {n : Nat} {ta tb tn : Tok}
    (hb : b ≠ 0) (hc : (Builtin.Int.intBits a : Int) - n ≤ 4000) (hp : Builtin.divisionGoesByPylong a b = false)
    (ret : ∀ l t1 t2 h' tk', Kp s.heap h' → s.heap.objs.size ≤ l → h'.get? l = some { cls := .type "tuple", data := .seq #[.int (a.fdiv b) t1, .int (a.fmod b) t2] } → Q (.ref l) { s with heap := h', toks := tk' }) :
    wpAny (model PySem.Challenge.rw_tl0018_01.row.prog w) A (call (.ref 42) [.int a ta, .int b tb, .int (n : Int) tn]) Q E s := by
  obtain ⟨hdl, dp, fr, gd, un⟩ := A
  obtain rfl : hdl = none := hA.1
  revert X; k_fill; intro X
  refine' enterK (binds := [(Str.ofString "a", .int a ta), (Str.ofString "b", .int b tb), (Str.ofString "n", .int (n : Int) tn)]) X T ?k6 ?k7 ?k8 ?k9 ?kB ?c2 ?c3 ?c4 ?c5 ?_
  (case k6 => k_is); (case k7 => k_is); (case k8 => exact Rm.room (by assumption)); (case k9 => exact BindsTo.of_eq rfl); (case c5 => decide); (case kB => exact locs rfl); (case c2 => exact rfl); (case c3 => exact rfl); (case c4 => exact rfl)
  k_whole
  intro L' h' F' N'
  (try dsimp only [List.length_cons, List.length_nil])
  (try k_fold)
  walk_at "GO"
  all_goals first | (skip; exact absurd hc (by with_reducible assumption)) | (skip; (rename Fr _ _ _ _ => F9); (rename News _ _ _ _ => N9); (rename @LE.le Nat _ s.heap.objs.size _ => l9); skip; exact ret _ _ _ _ _ (Fr.keep F9) l9 (N9 _ (.head _)).1)
end
section
variable {w : World} {p : Program} {loose : List Str} {mean : ExcName → Option Value} {mg mb : Str → Option Value} {A : Around} {s : Shared} {Q E : Value → Shared → Prop}

set_option maxHeartbeats 8000000 in
theorem d21_even {r N : Nat} (hN : N ≤ 2 ^ 20) (IH : D21 w p loose mean mg mb r N) (hA : Rm (r + 2) A) (X : (hd.heap_1 w.params).In s.heap) (T : Top p loose mean mg mb s.heap) {a b : Int} {h : Nat} {ta tb tn : Tok}
    (hh : 0 < h) (hhN : h ≤ N) (g1 : 2 ^ (2 * h - 1) ≤ b) (u1 : b < 2 ^ (2 * h)) (g2 : 0 ≤ a) (u2 : a < 2 ^ (2 * h) * b) (hc : ¬ (Builtin.Int.intBits a : Int) - ((2 * h : Nat) : Int) ≤ 4000)
    (ret : ∀ l t1 t2 h' tk', Kp s.heap h' → s.heap.objs.size ≤ l → h'.get? l = some { cls := .type "tuple", data := .seq #[.int (a / b) t1, .int (a % b) t2] } → Q (.ref l) { s with heap := h', toks := tk' }) :
    wpAny (model PySem.Challenge.rw_tl0018_01.row.prog w) A (call (.ref 42) [.int a ta, .int b tb, .int ((2 * h : Nat) : Int) tn]) Q E s := by
  have hT : (h : Int).toNat = h := Int.toNat_natCast h
  have hN1 : N ≤ 1048576 := hN
  have hp := pow2_pos h
  obtain ⟨g3, u3, hb, g4, u4, g5, u5, g6, u6, g7, u7, hb0⟩ := d21_pre hh g1 u1 g2 u2
  have g2' := g2
  have p0 : Builtin.bitAnd ((2 * h : Nat) : Int) 1 = 0 := by rw [bitAnd_m1]; walk_at "OM"
  have p1 : ((2 * h : Nat) : Int).fdiv (2 ^ Int.toNat 1) = (h : Int) := by rw [show ((2 * h : Nat) : Int) = (h : Int) * 2 by walk_at "OM"]; show ((h : Int) * 2).fdiv 2 = h; rw [Int.fdiv_eq_ediv_of_nonneg _ (by decide), Int.mul_ediv_cancel _ (by decide)]
  have p5 : a.fdiv (2 ^ ((2 * h : Nat) : Int).toNat) = a / 2 ^ (2 * h) := by rw [show ((2 * h : Nat) : Int).toNat = 2 * h by walk_at "OM", fdiv_pow]
  obtain ⟨w1, w2, w3, w4⟩ := d21_qs (a := a) (b := b) (h := h) hb0 g2' u5
  obtain ⟨z1, z2⟩ := d21_post (a := a) (b := b) (h := h) hb0
  have p2 : 1 * 2 ^ (h : Int).toNat = (2 : Int) ^ h := by rw [hT, Int.one_mul]
  have s2 : (Builtin.Int.intBits 1 : Int) + h ≤ 2 ^ 27 := by
    have : Builtin.Int.intBits 1 = 1 := by decide
    walk_at "OM"
  have p3 : b.fdiv (2 ^ (h : Int).toNat) = b / 2 ^ h := by rw [hT, fdiv_pow]
  have p4 : Builtin.bitAnd b (2 ^ h - 1) = b % 2 ^ h := by rw [← Int.one_mul ((2 : Int) ^ h), and_mask (by walk_at "OM"), Int.one_mul]
  have p6 : a.fdiv (2 ^ (h : Int).toNat) = a / 2 ^ h := by rw [hT, fdiv_pow]
  have p7 : Builtin.bitAnd (a / 2 ^ h) (2 ^ h - 1) = a / 2 ^ h % 2 ^ h := by rw [← Int.one_mul ((2 : Int) ^ h), and_mask (by rw [Int.one_mul]; exact Int.ediv_nonneg g2' (by walk_at "OM")), Int.one_mul]
  have p8 : Builtin.bitAnd a (2 ^ h - 1) = a % 2 ^ h := by rw [← Int.one_mul ((2 : Int) ^ h), and_mask g2', Int.one_mul]
  obtain ⟨q1, hq1⟩ : ∃ x, (a / 2 ^ (2 * h) * 2 ^ h + a / 2 ^ h % 2 ^ h) / b = x := ⟨_, rfl⟩
  obtain ⟨r1, hr1⟩ : ∃ x, (a / 2 ^ (2 * h) * 2 ^ h + a / 2 ^ h % 2 ^ h) % b = x := ⟨_, rfl⟩
  have j1 : 0 ≤ r1 := by rw [← hr1]; exact Int.emod_nonneg _ (by walk_at "OM")
  have j2 : r1 < b := by rw [← hr1]; exact Int.emod_lt_of_pos _ hb0
  rw [hq1, hr1] at z1
  rw [hq1] at w1 w2
  rw [hr1] at w3 w4 z2
  obtain ⟨q2, hq2⟩ : ∃ x, (r1 * 2 ^ h + a % 2 ^ h) / b = x := ⟨_, rfl⟩
  obtain ⟨r2, hr2⟩ : ∃ x, (r1 * 2 ^ h + a % 2 ^ h) % b = x := ⟨_, rfl⟩
  rw [hq2] at z1 w3 w4
  rw [hr2] at z2
  have s3 : (Builtin.Int.intBits q1 : Int) + h ≤ 2 ^ 27 := by
    have := natBits w1 w2
    walk_at "OM"
  have p10 : q1 * 2 ^ (h : Int).toNat = q1 * 2 ^ h := by rw [hT]
  have p11 : Builtin.bitOr (q1 * 2 ^ h) q2 = q1 * 2 ^ h + q2 := or_add w1 w3 w4
  obtain ⟨hdl, dp, fr, gd, un⟩ := A
  obtain rfl : hdl = none := hA.1
  revert X; k_fill; intro X
  refine' enterK (binds := [(Str.ofString "a", .int a ta), (Str.ofString "b", .int b tb), (Str.ofString "n", .int ((2 * h : Nat) : Int) tn)]) X T ?k6 ?k7 ?k8 ?k9 ?kB ?c2 ?c3 ?c4 ?c5 ?_
  (case k6 => k_is); (case k7 => k_is); (case k8 => exact Rm.room (by assumption)); (case k9 => exact BindsTo.of_eq rfl); (case c5 => decide); (case kB => exact locs rfl); (case c2 => exact rfl); (case c3 => exact rfl); (case c4 => exact rfl)
  k_whole
  intro L' h' F' N'
  (try dsimp only [List.length_cons, List.length_nil])
  (try k_fold)
  walk_at "GO"
  rename Fr _ _ _ _ => F9
  rename News _ _ _ _ => N9
  refine Stop.mk ?_
  refine c_d32 hN IH (Rm.deep hA (Nat.le_refl _)) (X.keeps F9.keep) (T.keeps F9.keep) hhN hh g3 u3 hb g4 u4 g6 u6 g5 u5 ?_
  intro l9 t1 t2 h9 tk9 K9 s9 e9
  rw [hq1, hr1] at e9
  (try dsimp only at s9)
  have l1 := newsLt N9 s9
  k_lt l1
  have N8 := newsNew F9 N9 K9 s9 e9
  have F8 := frKp F9 K9
  clear N9 F9 K9 e9 s9
  (try dsimp only)
  (try k_fold)
  walk_at "GO"
  rename Fr _ _ _ _ => F9
  rename News _ _ _ _ => N9
  refine Stop.mk ?_
  refine c_d32 hN IH (Rm.deep hA (Nat.le_refl _)) (X.keeps F9.keep) (T.keeps F9.keep) hhN hh g3 u3 hb g4 u4 g7 u7 j1 j2 ?_
  intro l9 t1 t2 h9 tk9 K9 s9 e9
  rw [hq2, hr2] at e9
  (try dsimp only at s9)
  have l1 := newsLt N9 s9
  k_lt l1
  have N8 := newsNew F9 N9 K9 s9 e9
  have F8 := frKp F9 K9
  clear N9 F9 K9 e9 s9
  (try dsimp only)
  (try k_fold)
  walk_at "GO"
  rename Fr _ _ _ _ => F9
  rename News _ _ _ _ => N9
  rename @LE.le Nat _ s.heap.objs.size _ => l9
  have e9 := (N9 _ (.head _)).1
  (try dsimp only at e9)
  rw [z1, z2] at e9
  exact ret _ _ _ _ _ (Fr.keep F9) l9 e9
set_option maxHeartbeats 8000000 in
theorem d21_odd {r N : Nat} (hN : N ≤ 2 ^ 20) (IH : D21 w p loose mean mg mb r N) (hA : Rm (r + 2) A) (X : (hd.heap_1 w.params).In s.heap) (T : Top p loose mean mg mb s.heap) {a b : Int} {h n : Nat} {ta tb tn : Tok}
    (hh : 0 < h) (hhN : h ≤ N) (hn : n + 1 = 2 * h) (g1 : 2 ^ (n - 1) ≤ b) (u1 : b < 2 ^ (n)) (g2 : 0 ≤ a) (u2 : a < 2 ^ (n) * b) (hc : ¬ (Builtin.Int.intBits a : Int) - (n : Int) ≤ 4000)
    (ret : ∀ l t1 t2 h' tk', Kp s.heap h' → s.heap.objs.size ≤ l → h'.get? l = some { cls := .type "tuple", data := .seq #[.int (a / b) t1, .int (a % b) t2] } → Q (.ref l) { s with heap := h', toks := tk' }) :
    wpAny (model PySem.Challenge.rw_tl0018_01.row.prog w) A (call (.ref 42) [.int a ta, .int b tb, .int (n : Int) tn]) Q E s := by
  have hT : (h : Int).toNat = h := Int.toNat_natCast h
  have hN1 : N ≤ 1048576 := hN
  have hp := pow2_pos h
  have hp0 := pow2_pos (n - 1)
  have eb2 : (2 : Int) ^ (2 * h - 1) = 2 ^ (n - 1) * 2 := by rw [show 2 * h - 1 = (n - 1) + 1 by walk_at "OM", Int.pow_succ]
  have eb3 : (2 : Int) ^ (2 * h) = 2 ^ n * 2 := by rw [← hn, Int.pow_succ]
  have k1 : (Builtin.Int.intBits a : Int) + 1 ≤ 2 ^ 27 := by
    have hm : a < 2 ^ (n + n) := by
      rw [Int.pow_add]
      exact Int.lt_trans u2 (Int.mul_lt_mul_of_pos_left u1 (pow2_pos n))
    have := natBits g2 hm
    walk_at "OM"
  have k2 : (Builtin.Int.intBits b : Int) + 1 ≤ 2 ^ 27 := by
    have := natBits (by walk_at "OM") u1
    walk_at "OM"
  obtain ⟨a2, ea⟩ : ∃ x, a * 2 ^ Int.toNat 1 = x := ⟨_, rfl⟩
  obtain ⟨b2, eb⟩ : ∃ x, b * 2 ^ Int.toNat 1 = x := ⟨_, rfl⟩
  have ea' : a2 = a * 2 := ea.symm
  have eb' : b2 = b * 2 := eb.symm
  obtain ⟨g3, u3, hb, g4, u4, g5, u5, g6, u6, g7, u7, hb0⟩ := d21_pre (a := a2) (b := b2) hh (by rw [eb2, eb']; walk_at "OM") (by rw [eb3, eb']; walk_at "OM") (by rw [ea']; walk_at "OM") (by rw [eb3, ea', eb']; generalize (2 : Int) ^ n = P at *; have := Int.mul_le_mul_of_nonneg_right (show a + 1 ≤ P * b by walk_at "OM") (show (0 : Int) ≤ 2 by decide); grind)
  have g2' : 0 ≤ a2 := by rw [ea']; walk_at "OM"
  have hbp : 0 < b := by walk_at "OM"
  obtain ⟨db1, db2⟩ := dbl (a := a) hbp
  rw [← ea', ← eb'] at db1 db2
  have p0 : Builtin.bitAnd (n : Int) 1 = 1 := by rw [bitAnd_m1]; walk_at "OM"
  have hn1 : 0 ≤ (n : Int) + 1 := by walk_at "OM"
  have p1 : ((n : Int) + 1).fdiv (2 ^ Int.toNat 1) = (h : Int) := by rw [show ((n : Int) + 1) = (h : Int) * 2 by walk_at "OM"]; show ((h : Int) * 2).fdiv 2 = h; rw [Int.fdiv_eq_ediv_of_nonneg _ (by decide), Int.mul_ediv_cancel _ (by decide)]
  have p5 : a2.fdiv (2 ^ ((n : Int) + 1).toNat) = a2 / 2 ^ (2 * h) := by rw [show ((n : Int) + 1).toNat = 2 * h by walk_at "OM", fdiv_pow]
  have p9 : (a2 % b2).fdiv (2 ^ Int.toNat 1) = a % b := db2
  obtain ⟨w1, w2, w3, w4⟩ := d21_qs (a := a2) (b := b2) (h := h) hb0 g2' u5
  obtain ⟨z1, z2⟩ := d21_post (a := a2) (b := b2) (h := h) hb0
  have p2 : 1 * 2 ^ (h : Int).toNat = (2 : Int) ^ h := by rw [hT, Int.one_mul]
  have s2 : (Builtin.Int.intBits 1 : Int) + h ≤ 2 ^ 27 := by
    have : Builtin.Int.intBits 1 = 1 := by decide
    walk_at "OM"
  have p3 : b2.fdiv (2 ^ (h : Int).toNat) = b2 / 2 ^ h := by rw [hT, fdiv_pow]
  have p4 : Builtin.bitAnd b2 (2 ^ h - 1) = b2 % 2 ^ h := by rw [← Int.one_mul ((2 : Int) ^ h), and_mask (by walk_at "OM"), Int.one_mul]
  have p6 : a2.fdiv (2 ^ (h : Int).toNat) = a2 / 2 ^ h := by rw [hT, fdiv_pow]
  have p7 : Builtin.bitAnd (a2 / 2 ^ h) (2 ^ h - 1) = a2 / 2 ^ h % 2 ^ h := by rw [← Int.one_mul ((2 : Int) ^ h), and_mask (by rw [Int.one_mul]; exact Int.ediv_nonneg g2' (by walk_at "OM")), Int.one_mul]
  have p8 : Builtin.bitAnd a2 (2 ^ h - 1) = a2 % 2 ^ h := by rw [← Int.one_mul ((2 : Int) ^ h), and_mask g2', Int.one_mul]
  obtain ⟨q1, hq1⟩ : ∃ x, (a2 / 2 ^ (2 * h) * 2 ^ h + a2 / 2 ^ h % 2 ^ h) / b2 = x := ⟨_, rfl⟩
  obtain ⟨r1, hr1⟩ : ∃ x, (a2 / 2 ^ (2 * h) * 2 ^ h + a2 / 2 ^ h % 2 ^ h) % b2 = x := ⟨_, rfl⟩
  have j1 : 0 ≤ r1 := by rw [← hr1]; exact Int.emod_nonneg _ (by walk_at "OM")
  have j2 : r1 < b2 := by rw [← hr1]; exact Int.emod_lt_of_pos _ hb0
  rw [hq1, hr1] at z1
  rw [hq1] at w1 w2
  rw [hr1] at w3 w4 z2
  obtain ⟨q2, hq2⟩ : ∃ x, (r1 * 2 ^ h + a2 % 2 ^ h) / b2 = x := ⟨_, rfl⟩
  obtain ⟨r2, hr2⟩ : ∃ x, (r1 * 2 ^ h + a2 % 2 ^ h) % b2 = x := ⟨_, rfl⟩
  rw [hq2] at z1 w3 w4
  rw [hr2] at z2
  have s3 : (Builtin.Int.intBits q1 : Int) + h ≤ 2 ^ 27 := by
    have := natBits w1 w2
    walk_at "OM"
  have p10 : q1 * 2 ^ (h : Int).toNat = q1 * 2 ^ h := by rw [hT]
  have p11 : Builtin.bitOr (q1 * 2 ^ h) q2 = q1 * 2 ^ h + q2 := or_add w1 w3 w4
  rw [← z2] at p9
  rw [db1] at z1
  obtain ⟨hdl, dp, fr, gd, un⟩ := A
  obtain rfl : hdl = none := hA.1
  revert X; k_fill; intro X
  refine' enterK (binds := [(Str.ofString "a", .int a ta), (Str.ofString "b", .int b tb), (Str.ofString "n", .int (n : Int) tn)]) X T ?k6 ?k7 ?k8 ?k9 ?kB ?c2 ?c3 ?c4 ?c5 ?_
  (case k6 => k_is); (case k7 => k_is); (case k8 => exact Rm.room (by assumption)); (case k9 => exact BindsTo.of_eq rfl); (case c5 => decide); (case kB => exact locs rfl); (case c2 => exact rfl); (case c3 => exact rfl); (case c4 => exact rfl)
  k_whole
  intro L' h' F' N'
  (try dsimp only [List.length_cons, List.length_nil])
  (try k_fold)
  walk_at "GO"
  rename Fr _ _ _ _ => F9
  rename News _ _ _ _ => N9
  refine Stop.mk ?_
  refine c_d32 hN IH (Rm.deep hA (Nat.le_refl _)) (X.keeps F9.keep) (T.keeps F9.keep) hhN hh g3 u3 hb g4 u4 g6 u6 g5 u5 ?_
  intro l9 t1 t2 h9 tk9 K9 s9 e9
  rw [hq1, hr1] at e9
  (try dsimp only at s9)
  have l1 := newsLt N9 s9
  k_lt l1
  have N8 := newsNew F9 N9 K9 s9 e9
  have F8 := frKp F9 K9
  clear N9 F9 K9 e9 s9
  (try dsimp only)
  (try k_fold)
  walk_at "GO"
  rename Fr _ _ _ _ => F9
  rename News _ _ _ _ => N9
  refine Stop.mk ?_
  refine c_d32 hN IH (Rm.deep hA (Nat.le_refl _)) (X.keeps F9.keep) (T.keeps F9.keep) hhN hh g3 u3 hb g4 u4 g7 u7 j1 j2 ?_
  intro l9 t1 t2 h9 tk9 K9 s9 e9
  rw [hq2, hr2] at e9
  (try dsimp only at s9)
  have l1 := newsLt N9 s9
  k_lt l1
  have N8 := newsNew F9 N9 K9 s9 e9
  have F8 := frKp F9 K9
  clear N9 F9 K9 e9 s9
  (try dsimp only)
  (try k_fold)
  walk_at "GO"
  rename Fr _ _ _ _ => F9
  rename News _ _ _ _ => N9
  rename @LE.le Nat _ s.heap.objs.size _ => l9
  have e9 := (N9 _ (.head _)).1
  (try dsimp only at e9)
  rw [z1] at e9
  exact ret _ _ _ _ _ (Fr.keep F9) l9 e9
end
section
variable {w : World} {p : Program} {loose : List Str} {mean : ExcName → Option Value} {mg mb : Str → Option Value}
theorem d21_small' {A : Around} {s : Shared} {Q E : Value → Shared → Prop} (hA : Rm 1 A) (X : (hd.heap_1 w.params).In s.heap) (T : Top p loose mean mg mb s.heap) {a b : Int} {n : Nat} {ta tb tn : Tok}
    (h0 : 0 < n) (g1 : 2 ^ (n - 1) ≤ b) (u1 : b < 2 ^ n) (hc : (Builtin.Int.intBits a : Int) - n ≤ 4000)
    (ret : ∀ l t1 t2 h' tk', Kp s.heap h' → s.heap.objs.size ≤ l → h'.get? l = some { cls := .type "tuple", data := .seq #[.int (a / b) t1, .int (a % b) t2] } → Q (.ref l) { s with heap := h', toks := tk' }) :
    wpAny (model PySem.Challenge.rw_tl0018_01.row.prog w) A (call (.ref 42) [.int a ta, .int b tb, .int (n : Int) tn]) Q E s := by
  have hp := pow2_pos (n - 1)
  have hb : 0 < b := by walk_at "OM"
  have hbit := bitsEq h0 g1 u1
  refine d21_small hA X T (by walk_at "OM") hc (noPy (by walk_at "OM")) fun l t1 t2 h' tk' k z e => ?_
  rw [Int.fdiv_eq_ediv_of_nonneg _ (by walk_at "OM"), Int.fmod_eq_emod_of_nonneg _ (by walk_at "OM")] at e
  exact ret l t1 t2 h' tk' k z e
theorem D21_zero : D21 w p loose mean mg mb 1 4000 := by
  intro A s Q E a b n ta tb tn hA X T hn h0 g1 u1 g2 u2 ret
  refine d21_small' hA X T h0 g1 u1 ?_ ret
  have hm : a < 2 ^ (n + n) := by
    rw [Int.pow_add]
    exact Int.lt_trans u2 (Int.mul_lt_mul_of_pos_left u1 (pow2_pos n))
  have := natBits g2 hm
  walk_at "OM"
theorem D21_succ {r N : Nat} (hN : N ≤ 2 ^ 20) (IH : D21 w p loose mean mg mb r N) : D21 w p loose mean mg mb (r + 2) (2 * N) := by
  intro A s Q E a b n ta tb tn hA X T hn h0 g1 u1 g2 u2 ret
  by_cases hc : (Builtin.Int.intBits a : Int) - n ≤ 4000
  · exact d21_small' (hA.mono (by walk_at "OM")) X T h0 g1 u1 hc ret
  · by_cases he : n % 2 = 0
    · obtain ⟨h, rfl⟩ : ∃ h, n = 2 * h := ⟨n / 2, by walk_at "OM"⟩
      exact d21_even hN IH hA X T (by walk_at "OM") (by walk_at "OM") g1 u1 g2 u2 hc ret
    · obtain ⟨h, hh⟩ : ∃ h, n + 1 = 2 * h := ⟨(n + 1) / 2, by walk_at "OM"⟩
      exact d21_odd hN IH hA X T (by walk_at "OM") (by walk_at "OM") hh g1 u1 g2 u2 hc ret
theorem D21_all : D21 w p loose mean mg mb 9 64000 :=
  D21_succ (N := 32000) (by decide) (D21_succ (N := 16000) (by decide) (D21_succ (N := 8000) (by decide) (D21_succ (N := 4000) (by decide) D21_zero)))
end
noncomputable def TabSt (h : Heap) (l c : Nat) (q : Str) (ps : Array Value) : Prop := ps = #[] ∨ ∃ c', ps = #[rawInt l, rawInt c, .ref c'] ∧ h.CodeRec (.ref c') q
theorem TabSt.triples {h : Heap} {l c : Nat} {q : Str} {ps : Array Value} (S : TabSt h l c q ps) : TriplesOk ps.toList := by
  rcases S with rfl | ⟨c', rfl, -⟩
  · exact True.intro
  · simp [TriplesOk, rawInt]
theorem TabSt.keeps {h h' : Heap} {l c : Nat} {q : Str} {ps : Array Value} (S : TabSt h l c q ps) (k : ∀ b o vs t, h.get? b = some o → o.data = .fields vs → vs[1]? = some (.str q t) → h'.get? b = some o) : TabSt h' l c q ps := by
  rcases S with rfl | ⟨c', rfl, b, o, vs, t, e1, e2, e3, e4⟩
  · exact Or.inl rfl
  · exact Or.inr ⟨c', rfl, b, o, vs, t, e1, k b o vs t e2 e3 e4, e3, e4⟩
theorem codeRec_kp {h h' : Heap} {v : Value} {q : Str} (x : h.CodeRec v q) (k : ∀ b o vs t, h.get? b = some o → o.data = .fields vs → vs[1]? = some (.str q t) → h'.get? b = some o) : h'.CodeRec v q := by
  obtain ⟨b, o, vs, t, e1, e2, e3, e4⟩ := x
  exact ⟨b, o, vs, t, e1, k b o vs t e2 e3 e4, e3, e4⟩
section
variable {M : Model} {A : Around} {E : Value → Shared → Prop} {s : Shared} {h₀ : Heap} {L a c P : Addr} {m mg mb : Str → Option Value} {cn : Str} {cs : Scope} {ccd : Value} {cl : List (Str × Addr)} {news : List (Addr × Obj)} {g : Obj → List (Addr × Obj)}
  {p : Program} {loose : List Str} {mean : ExcName → Option Value} {name qual q : Str} {params : Arguments} {body : List Stmt} {scope : Scope} {ps : Array Value} {pos : Pos} {firstLine : Nat} {clos : List (Str × Addr)}
theorem nest_any {Q : Value → Shared → Prop} (F : Fr h₀ L s.heap m) (N : News h₀ L s.heap news) (T : Top p loose mean mg mb h₀) (C : CodeHd h₀ c P) (hcd : ccd = .ref c) (U : UpdF P (tabObj ps) news g) (S : TabSt h₀ pos.line pos.col q ps) (hq : qual = q)
    (hcl : closureFor scope (envX cn cs L a ccd cl) = pure clos)
    (h : ∀ f c' e oe ctv doc h' tk, Fr h₀ L h' m →
      News h₀ L h' ((f, fnMade name qual params body scope clos doc ((mg "__name__").getD .none) c' ctv) :: (e, oe) :: g (tabObj #[rawInt pos.line, rawInt pos.col, .ref c'])) →
      (∀ h'' : Heap, (∀ b o, h₀.get? b = some o → h''.get? b = some o) → h''.get? e = some oe → h''.CodeRec (.ref c') q) → (∀ x ∈ news, x.1 < f) → (∀ x ∈ news, x.1 < e) → ((ps = #[] ∧ ∀ x ∈ news, x.1 < c') ∨ ps = #[rawInt pos.line, rawInt pos.col, .ref c']) → Q (.ref f) { s with heap := h', toks := tk }) :
    wpAny M A (makeFunction name qual params (.stmts body) scope (envX cn cs L a ccd cl) [] [] [] pos firstLine) Q E s := by
  subst hq
  obtain ⟨pre, post, e1, e2, e3, e4⟩ := U.split
  rcases id S with rfl | ⟨c', rfl, hc'⟩
  · refine nest_K F N T C hcd U True.intro rfl hcl fun f c' oc vs t ctv doc h' tk F' N' d1 d2 l1 l2 => ?_
    rw [Array.empty_append] at N'
    exact h f c' c' oc ctv doc h' tk F' N' (fun h'' _ e => ⟨c', oc, vs, t, rfl, e, d1, d2⟩) (fun x hx => Nat.lt_trans (l1 x hx) l2) l1 (Or.inl ⟨rfl, l1⟩)
  · have hmem : (P, tabObj #[rawInt pos.line, rawInt pos.col, .ref c']) ∈ news := by rw [e1]; exact List.mem_append_right _ (.head _)
    refine nestHit_K (c' := c') F N T C hcd hmem S.triples (by show codeAmong pos [rawInt pos.line, rawInt pos.col, .ref c'] = _; simp only [codeAmong, rawInt, beq_self_eq_true, Bool.and_self, if_true]) hcl fun f ctv doc h' tk F' N' l1 => ?_
    refine h f c' f (fnMade name qual params body scope clos doc ((mg "__name__").getD .none) c' ctv) ctv doc h' tk F' ?_ (fun h'' k _ => codeRec_kp hc' fun b o vs t e _ _ => k b o e) l1 l1 (Or.inr rfl)
    rw [e2, ← e1]
    intro x hx
    rcases List.mem_cons.mp hx with rfl | hx
    · exact N' _ (.head _)
    · exact N' _ hx
end
section
variable {prog : Program} {w : World} {A : Around} {E : Value → Shared → Prop} {s : Shared} {p : Program} {loose : List Str} {mean : ExcName → Option Value} {mg mb : Str → Option Value} {Q : Value → Shared → Prop}
  {name qual : Str} {params : Arguments} {body : List Stmt} {scope : Scope} {cl : List (Str × Addr)} {doc pm ct : Value} {c' f : Addr} {vs : List Value} {binds : List (Str × Value)}
theorem enterN (hlim : s.heap.NoLimit) (ho : s.heap.get? f = some (fnMade name qual params body scope cl doc pm c' ct)) (hcd : s.heap.CodeRec (.ref c') qual) (hroom : A.depth < recursionLimit)
    (hbind : BindsTo s (fnX name qual params body scope cl .none .none doc pm none (.ref c') ct) ⟨vs, []⟩ binds) (hloc : ∀ y ∈ binds, scope.names.lookup y.1 = some .local)
    (hco : scope.isCoroutine = false) (hgen : scope.isGenerator = false) (hk : scope.kind = .function) (hcell : ∀ x ∈ scope.names, x.2 ≠ .cell)
    (h : ∀ L' h₁, Fr s.heap L' h₁ (fun y => binds.reverse.lookup y) → News s.heap L' h₁ [] →
      wpAny (model prog w) (A.deeper (envX qual scope L' f (.ref c') cl)) (execs body (envX qual scope L' f (.ref c') cl))
        (fun fl s' => Q (match fl with | .ret v => v | _ => .none) s') (fun _ _ => False)
        { s with heap := h₁, toks := s.toks + binds.length }) :
    wpAny (model prog w) A (call (.ref f) vs) Q E s := by
  refine wpAny_call (codeAny_call_def (fd := fnX name qual params body scope cl .none .none doc pm none (.ref c') ct) (body := body) (binds := binds) hroom ho rfl hlim hcd rfl hbind hcell hloc (fun h₁ hns hk₁ => ?_) hco hgen hk)
  exact wpAny_mono (h _ h₁ ⟨hns, hk₁, Nat.le_refl _⟩ News.nil) (fun _ _ x => x) (fun _ _ x => x.elim)
end
section
variable {M : Model} {A : Around} {E : Value → Shared → Prop} {s : Shared} {h₀ : Heap} {L a c : Addr} {m : Str → Option Value} {cn x : Str} {cs : Scope} {ccd : Value} {cl : List (Str × Addr)} {v : Value} {o : Obj} {pos : Pos} {Q : Value → Shared → Prop}
theorem nameX_Bs (hx : (envX cn cs L a ccd cl).kindOf x = some .free) (hc : cl.lookup x = some c) (F : Fr h₀ L s.heap m) (hv : h₀.get? c = some o) (hd : o.data = .cell (some v)) (h : Q v s)
    (hk : cs.kind = .function) (hb : (x == ("__debug__" : Str)) = false) (hn : (x == ("__classdict__" : Str)) = false) :
    wpAny M A (eval (.Name x pos) (envX cn cs L a ccd cl)) Q E s := wpAny_Name (wpAny_loadName_free hk hx hc ⟨o, F.keep _ _ hv, hd⟩ h hn) hb
end
noncomputable def d2iV (n : Nat) : List Int → Int
  | [] => 0
  | x :: r => x + d2iV n r * 2 ^ n
theorem d2iV_append (n : Nat) (b : List Int) : ∀ a, d2iV n (a ++ b) = d2iV n a + d2iV n b * 2 ^ (a.length * n)
  | [] => by simp [d2iV]
  | x :: r => by
    show x + d2iV n (r ++ b) * 2 ^ n = x + d2iV n r * 2 ^ n + d2iV n b * 2 ^ ((r.length + 1) * n)
    rw [d2iV_append n b r, Nat.add_mul, Nat.one_mul, Int.pow_add]
    generalize (2 : Int) ^ n = P
    generalize (2 : Int) ^ (r.length * n) = R
    grind
noncomputable def sl (ns : List Int) (L R : Nat) : List Int := (ns.drop L).take (R - L)
theorem sl_split {ns : List Int} {L M R : Nat} (h1 : L ≤ M) (h2 : M ≤ R) : sl ns L R = sl ns L M ++ sl ns M R := by
  unfold sl
  rw [show R - L = (M - L) + (R - M) by walk_at "OM", List.take_add, List.drop_drop, show L + (M - L) = M by walk_at "OM"]
theorem sl_len {ns : List Int} {L R : Nat} (h : R ≤ ns.length) : (sl ns L R).length = R - L := by unfold sl; simp; walk_at "OM"
theorem sl_one {ns : List Int} {L : Nat} {x : Int} (n : Nat) (h : ns[L]? = some x) : d2iV n (sl ns L (L + 1)) = x := by
  unfold sl
  have hl := (List.getElem?_eq_some_iff.mp h)
  obtain ⟨hl, he⟩ := hl
  rw [show L + 1 - L = 1 by walk_at "OM", List.drop_eq_getElem_cons hl, he]
  simp [d2iV]
theorem newsHide {h₀ h : Heap} {L : Addr} {news : List (Addr × Obj)} {ls : List Addr} (N : News h₀ L h news) : News (hideAll h₀ ls) L h news := fun q hq => by
  refine ⟨(N q hq).1, (N q hq).2.1, ?_⟩
  cases e : (hideAll h₀ ls).get? q.1 with
  | none => rfl
  | some o =>
    have := (N q hq).2.2
    rw [of_hideAll _ e] at this; cases this
section
variable {w : World} {p : Program} {loose : List Str} {mean : ExcName → Option Value} {mg mb : Str → Option Value} {A : Around} {s : Shared} {Q E : Value → Shared → Prop}
theorem truthy_ne {prog : Program} {l : Addr} {vs : List Value} {Q : Bool → Shared → Prop} (hl : s.heap.IsList l vs.toArray) (hne : 0 < vs.length) (hfit : vs.length < 2 ^ 62) (h : Q true { s with toks := s.toks + 1 + 1 }) : wpAny (model prog w) A (truthy (.ref l)) Q E s := by
  refine wpAny_truthy_list hl (by simp only [List.size_toArray]; walk_at "OM") ?_
  have : (!vs.toArray.isEmpty) = true := by
    cases vs with
    | nil => exact absurd hne (Nat.lt_irrefl 0)
    | cons => rfl
  rw [this]; exact h
theorem len_named {prog : Program} {l : Addr} {vs : List Value} {k : Nat} (hl : s.heap.IsList l vs.toArray) (hk : vs.length = k) (hfit : vs.length < 2 ^ 62) (h : Q (.int k (s.toks + 1)) { s with toks := s.toks + 1 + 1 }) : wpAny (model prog w) A (call (.builtin "len") [.ref l]) Q E s := by
  refine call_len_list hl (by simp only [List.size_toArray]; walk_at "OM") ?_
  simp only [List.size_toArray, hk]; exact h

local macro_rules | `(tactic| walk_at "eval Name") => `(tactic| (k_here; k_dflt (refine' nameX_Bs (by exact rfl) (by exact rfl) (by with_reducible assumption) (by with_reducible assumption) (by with_reducible assumption) ?_ (by exact rfl) (by exact rfl) (by exact rfl))))
local macro_rules | `(tactic| walk_at "callWith ref") => `(tactic| (k_here; k_dflt (refine' callWith_F (by exact ⟨_, _, _, _, Fr.keep (by with_reducible assumption) _ _ (by with_reducible assumption)⟩) ?_; k_whole)))
local macro_rules | `(tactic| walk_at "FnAt") => `(tactic| (k_dflt (exact ⟨_, _, _, _, Fr.keep (by with_reducible assumption) _ _ (by with_reducible assumption)⟩)))
local macro_rules | `(tactic| walk_at "subscriptTail Name Name ref int") => `(tactic| (k_here; (with_reducible show wpAny _ _ (subscriptTail _ _ (Value.ref _) (Value.int _ _)) _ _ _); (k_dflt (refine' item_any (by exact Heap.IsList.at (by with_reducible assumption) (fun o e => Fr.keep (by assumption) _ o e)) (by with_reducible assumption) (by with_reducible assumption) (by with_reducible assumption) ?k5 (by with_unfolding_all rfl))); (try dsimp only)))
local macro_rules | `(tactic| walk_at "exec FunctionDef") => `(tactic| (k_here; k_dflt (refine' nestDef_K (by exact rfl) (by exact rfl) (by exact rfl) ?_; (refine' nest_any (by k_asm) (by k_asm) (by k_asm) (by k_asm) (by exact rfl) (by k_updF) (by assumption) (by exact rfl) (by exact rfl) ?_)); intro f' c' e' oe' ct' dc' h' tk' F' N' R' l1 l2 hq'; (try dsimp only at N'); (try k_lt l1); (try k_lt l2)))
local macro_rules | `(tactic| walk_at "truthy ref") => `(tactic| (k_here; k_dflt (refine truthy_ne (Heap.IsList.at (by with_reducible assumption) (fun o e => Fr.keep (by assumption) _ o e)) (by with_reducible assumption) (by with_reducible assumption) ?_)))
local macro_rules | `(tactic| walk_at "call builtin:len") => `(tactic| (k_here; k_dflt (refine len_named (Heap.IsList.at (by with_reducible assumption) (fun o e => Fr.keep (by assumption) _ o e)) (by with_reducible assumption) (by with_reducible assumption) ?_)))
set_option maxHeartbeats 4000000 in
theorem c_d2i (hA : Rm 9 A) (X : (hd.heap_1 w.params).In (hideAll s.heap [58])) (T : Top p loose mean mg mb (hideAll s.heap [58])) (C : CodeHd (hideAll s.heap [58]) 62 58) {ps : Array Value} (hP : s.heap.get? 58 = some (tabObj ps)) (S0 : TabSt (hideAll s.heap [58]) 92 4 (Str.ofString "_digits2int.<locals>.inner") ps)
    {l : Addr} {vs : List Value} {ns : List Int} {n : Nat} {tn : Tok} (hl : s.heap.IsList l vs.toArray) (hi : IntsV vs ns) (h0 : 0 < vs.length) {k : Nat} (hk : vs.length = k) (hfit : vs.length < 2 ^ 62) (hn0 : 0 < n) (hk64 : k ≤ 64) (hkn : k * n ≤ 2 ^ 18) (hn18 : n ≤ 2 ^ 18) (hbnd : ∀ a b, Builtin.Int.intBits (d2iV n (sl ns a b)) ≤ 2 ^ 20)
    (ret : ∀ t h' tk' ps', (∀ b o, b ≠ 58 → s.heap.get? b = some o → h'.get? b = some o) → h'.get? 58 = some (tabObj ps') → TabSt h' 92 4 (Str.ofString "_digits2int.<locals>.inner") ps' → ((ps = #[] ∧ ∃ c' : Nat, ps' = #[rawInt 92, rawInt 4, .ref c'] ∧ s.heap.objs.size ≤ c') ∨ (ps' = ps ∧ ps ≠ #[])) → Q (.int (d2iV n ns) t) { s with heap := h', toks := tk' }) :
    wpAny (model PySem.Challenge.rw_tl0018_01.row.prog w) A (call (.ref 63) [.ref l, .int (n : Int) tn]) Q E s := by
  obtain ⟨hdl, dp, fr, gd, un⟩ := A
  obtain rfl : hdl = none := hA.1
  revert X; k_fill; intro X
  refine' enterC (binds := [(Str.ofString "digits", .ref l), (Str.ofString "n", .int (n : Int) tn)]) (X.keeps fun b o e => of_hideAll _ e) (T.keeps fun b o e => of_hideAll _ e) ?k6 ?k7 ?k8 ?k9 ?kB ?c1 ?c2 ?c3 ?c4 ?_
  (case k6 => k_is); (case k7 => k_is); (case k8 => exact Rm.room (by assumption)); (case k9 => exact BindsTo.of_eq rfl); (case kB => exact rfl); (case c1 => decide); (case c2 => exact rfl); (case c3 => exact rfl); (case c4 => exact rfl)
  k_whole
  intro L' h' tk0 cells F' N' Y' htk0
  (try dsimp only)
  (try k_fold)
  refine cells3K Y' fun o1 o2 o3 hc9 d1 d2 d3 => ?_
  subst hc9
  replace d1 : o1.data = .cell none := d1
  replace d2 : o2.data = .cell (some (.int (n : Int) tn)) := d2
  replace d3 : o3.data = .cell (some (.ref l)) := d3
  clear Y'
  replace F' : Fr s.heap L' h' (fun _ => none) := F'
  have l58 : @LT.lt Nat _ 58 L' := Nat.lt_of_lt_of_le (Heap.lt_size hP) F'.above
  have F1 := hideFr (ls := [58]) F'
  have N1 : News (hideAll s.heap [58]) L' h' [(58, tabObj ps), (L' + 1 + 1 + 1, o1), (L' + 1 + 1, o2), (L' + 1, o3)] := newsCons (F'.keep _ _ hP) (neA (by walk_at "NEQ")) (hideAll_none _ (.head _)) (newsHide N')
  have hl1 : (hideAll s.heap [58]).IsList l vs.toArray := by
    obtain ⟨o, e, hc, r⟩ := hl
    exact ⟨o, hideAll_get _ e (fun q => by rw [List.mem_singleton.mp q, hP] at e; cases e; cases hc), hc, r⟩
  clear F' N'
  walk_at "GO"
  rename_i f c2 e2 oe2 ct2 dc2 h1 tk1 R2 hq2 l1 l2 h2 o4 F2 N2 d4
  have hgr : (ps = #[] ∧ ∃ c' : Nat, (#[rawInt 92, rawInt 4, .ref c2] : Array Value) = #[rawInt 92, rawInt 4, .ref c'] ∧ s.heap.objs.size ≤ c') ∨ (#[rawInt 92, rawInt 4, .ref c2] = ps ∧ ps ≠ #[]) := by
    rcases hq2 with ⟨q1, q2⟩ | q
    · refine Or.inl ⟨q1, c2, rfl, ?_⟩
      have z := q2 _ (List.mem_cons_of_mem _ (.head _))
      have z1 := F2.above
      rw [hideAll_size] at z1
      (try dsimp only at z)
      exact Nat.le_trans z1 (Nat.le_of_lt (Nat.lt_trans (by walk_at "OM") z))
    · exact Or.inr ⟨q.symm, by rw [q]; simp⟩
  have inner : ∀ (j : Nat) (A' : Around) (s' : Shared) (Q' E' : Value → Shared → Prop) (a b : Nat) (t1 t2 : Tok), Rm (j + 1) A' → a < b → b - a ≤ 2 ^ j → b ≤ k → Kp h2 s'.heap →
      (∀ t h' tk', Kp s'.heap h' → Q' (.int (d2iV n (sl ns a b)) t) { s' with heap := h', toks := tk' }) →
      wpAny (model PySem.Challenge.rw_tl0018_01.row.prog w) A' (call (.ref f) [.int (a : Int) t1, .int (b : Int) t2]) Q' E' s' := by
    have ef := (N2 _ (.head _)).1
    have ec := (N2 _ (.tail _ (.tail _ (.tail _ (.head _))))).1
    have en := (N2 _ (.tail _ (.tail _ (.tail _ (.tail _ (.head _)))))).1
    have ed := (N2 _ (.tail _ (.tail _ (.tail _ (.tail _ (.tail _ (.head _))))))).1
    have hcd := R2 h2 F2.keep (N2 _ (.tail _ (.head _))).1
    have hl2 := hl1.at fun o e => F2.keep l o e
    have hlim := (T.keeps F2.keep).nolimit
    (try dsimp only at ef ec en ed)
    clear N2 F2 R2 C S0 hP
    have leaf : ∀ (A' : Around) (s' : Shared) (Q' E' : Value → Shared → Prop) (a : Nat) (t1 t2 : Tok), Rm 1 A' → a < k → Kp h2 s'.heap →
      (∀ t h' tk', Kp s'.heap h' → Q' (.int (d2iV n (sl ns a (a + 1))) t) { s' with heap := h', toks := tk' }) →
      wpAny (model PySem.Challenge.rw_tl0018_01.row.prog w) A' (call (.ref f) [.int (a : Int) t1, .int ((a + 1 : Nat) : Int) t2]) Q' E' s' := by
      intro A' s' Q' E' a t1 t2 hA' hak kp ret'
      obtain ⟨hdl', dp', fr', gd', un'⟩ := A'
      obtain rfl : hdl' = none := hA'.1
      have hx : ns[a]? = some (ns[a]'(by rw [← hi.len, hk]; exact hak)) := List.getElem?_eq_getElem _
      obtain ⟨tv, hv⟩ := hi.get a _ hx
      rw [← sl_one n hx] at hv
      have hv' : vs.toArray[((a : Nat) : Int).toNat]? = some (.int (d2iV n (sl ns a (a + 1))) tv) := by rw [Int.toNat_natCast, List.getElem?_toArray]; exact hv
      have c0 : (a : Int) + 1 = ((a + 1 : Nat) : Int) := by walk_at "OM"
      have c1 : (0 : Int) ≤ (a : Int) := by walk_at "OM"
      have c2 : (a : Int) < 2 ^ 63 := by walk_at "OM"
      have hl3 : s'.heap.IsList l vs.toArray := hl2.at fun o e => kp _ _ e
      have ec' := kp _ _ ec
      have en' := kp _ _ en
      have ed' := kp _ _ ed
      refine' enterN (binds := [(Str.ofString "L", .int (a : Int) t1), (Str.ofString "R", .int ((a + 1 : Nat) : Int) t2)]) (hlim.keeps kp) (kp _ _ ef) (codeRec_kp hcd fun b o _ _ e _ _ => kp b o e) ?k8 ?k9 ?kB ?c2 ?c3 ?c4 ?c5 ?_
      (case k8 => exact Rm.room hA'); (case k9 => exact BindsTo.of_eq rfl); (case c5 => decide); (case kB => exact locs rfl); (case c2 => exact rfl); (case c3 => exact rfl); (case c4 => exact rfl)
      intro L3 h3 F3 N3
      (try dsimp only)
      (try k_fold)
      walk_at "GO"
      all_goals first | (skip; exact absurd c0 (by with_reducible assumption)) | (skip; (rename Fr _ _ _ _ => F9); exact ret' _ _ _ (Fr.keep F9))
    intro j
    induction j with
    | zero =>
      intro A' s' Q' E' a b t1 t2 hA' hab hm hbk kp ret'
      obtain rfl : b = a + 1 := by walk_at "OM"
      exact leaf A' s' Q' E' a t1 t2 hA' (by walk_at "OM") kp ret'
    | succ j ih =>
      intro A' s' Q' E' a b t1 t2 hA' hab hm hbk kp ret'
      by_cases hb1 : b = a + 1
      · subst hb1
        exact leaf A' s' Q' E' a t1 t2 (hA'.mono (by walk_at "OM")) (by walk_at "OM") kp ret'
      obtain ⟨md, hmd⟩ : ∃ md, (a + b) / 2 = md := ⟨_, rfl⟩
      have hm1 : a < md := by walk_at "OM"
      have hm2 : md < b := by walk_at "OM"
      have hpw : 2 ^ (j + 1) = 2 ^ j * 2 := Nat.pow_succ ..
      have hm3 : b - md ≤ 2 ^ j := by walk_at "OM"
      have hm4 : md - a ≤ 2 ^ j := by walk_at "OM"
      have c0 : ¬ (a : Int) + 1 = (b : Int) := by walk_at "OM"
      have p1 : ((a : Int) + (b : Int)).fdiv (2 ^ Int.toNat 1) = (md : Int) := by
        show ((a : Int) + (b : Int)).fdiv 2 = md
        rw [Int.fdiv_eq_ediv_of_nonneg _ (by decide)]; walk_at "OM"
      have hsh : ((md : Int) - (a : Int)) * (n : Int) = (((md - a) * n : Nat) : Int) := by rw [Int.natCast_mul]; congr 1; walk_at "OM"
      have hle : (md - a) * n ≤ k * n := Nat.mul_le_mul_right _ (by walk_at "OM")
      have hle2 : md - a ≤ (md - a) * n := Nat.le_mul_of_pos_right _ hn0
      have m1 : IntMulOk ((md : Int) - (a : Int)) (n : Int) := by
        have e20 : (2 : Int) ^ 20 = 1048576 := by decide
        have e18 : (2 : Nat) ^ 18 = 262144 := by decide
        refine IntMulOk.of_bits (Nat.le_trans (natBits (k := 20) (by walk_at "OM") (by walk_at "OM")) (by decide)) (Nat.le_trans (natBits (k := 20) (by walk_at "OM") (by walk_at "OM")) (by decide))
      have p2 : 0 ≤ ((md : Int) - (a : Int)) * (n : Int) := by rw [hsh]; exact Int.natCast_nonneg _
      have s2 : (Builtin.Int.intBits (d2iV n (sl ns md b)) : Int) + ((md : Int) - (a : Int)) * (n : Int) ≤ 2 ^ 27 := by
        have := hbnd md b
        rw [hsh]
        have e18 : (2 : Nat) ^ 18 = 262144 := by decide
        have e20 : (2 : Nat) ^ 20 = 1048576 := by decide
        have e27 : (2 : Int) ^ 27 = 134217728 := by decide
        walk_at "OM"
      obtain ⟨V2, p3⟩ : ∃ x, d2iV n (sl ns md b) * 2 ^ (((md : Int) - (a : Int)) * (n : Int)).toNat = x := ⟨_, rfl⟩
      have hfin : V2 + d2iV n (sl ns a md) = d2iV n (sl ns a b) := by
        rw [← p3, hsh, Int.toNat_natCast, sl_split (Nat.le_of_lt hm1) (Nat.le_of_lt hm2), d2iV_append, sl_len (by rw [← hi.len, hk]; walk_at "OM"), Int.add_comm]
      obtain ⟨hdl', dp', fr', gd', un'⟩ := A'
      obtain rfl : hdl' = none := hA'.1
      have ec' := kp _ _ ec
      have en' := kp _ _ en
      have ed' := kp _ _ ed
      have ef' := kp _ _ ef
      refine' enterN (binds := [(Str.ofString "L", .int (a : Int) t1), (Str.ofString "R", .int (b : Int) t2)]) (hlim.keeps kp) (kp _ _ ef) (codeRec_kp hcd fun b o _ _ e _ _ => kp b o e) ?k8 ?k9 ?kB ?c2 ?c3 ?c4 ?c5 ?_
      (case k8 => exact Rm.room hA'); (case k9 => exact BindsTo.of_eq rfl); (case c5 => decide); (case kB => exact locs rfl); (case c2 => exact rfl); (case c3 => exact rfl); (case c4 => exact rfl)
      intro L3 h3 F3 N3
      (try dsimp only)
      (try k_fold)
      rw [← hfin] at ret'
      walk_at "GO"
      · exact absurd (by with_reducible assumption) c0
      rename Fr _ _ _ _ => F9
      refine Stop.mk ?_
      refine ih _ _ _ _ md b _ _ (Rm.deep hA' (Nat.le_refl _)) hm2 hm3 hbk (fun b o e => F9.keep b o (kp b o e)) ?_
      intro t9 h9 tk9 K9
      have F8 := frKp F9 K9
      have N8 : News s'.heap L3 h9 [] := News.nil
      clear F9 K9
      (try dsimp only)
      (try k_fold)
      walk_at "GO"
      rename Fr _ _ _ _ => F9
      refine Stop.mk ?_
      refine ih _ _ _ _ a md _ _ (Rm.deep hA' (Nat.le_refl _)) hm1 hm4 (by walk_at "OM") (fun b o e => F9.keep b o (kp b o e)) ?_
      intro t9 h9 tk9 K9
      have F8 := frKp F9 K9
      have N8 : News s'.heap L3 h9 [] := News.nil
      clear F9 K9
      (try dsimp only)
      (try k_fold)
      walk_at "GO"
      rename Fr _ _ _ _ => F9
      exact ret' _ _ _ (Fr.keep F9)
  refine Stop.mk ?_
  have e58 := (N2 _ (.tail _ (.tail _ (.head _)))).1
  have hrec := R2 h2 F2.keep (N2 _ (.tail _ (.head _))).1
  refine inner 6 _ _ _ _ 0 k _ _ (Rm.deep hA (by decide)) (by walk_at "OM") (by walk_at "OM") (Nat.le_refl _) (fun b o e => e) ?_
  intro t9 h9 tk9 K9
  have hv : d2iV n (sl ns 0 k) = d2iV n ns := by unfold sl; rw [List.drop_zero, List.take_of_length_le (by rw [← hi.len]; walk_at "OM")]
  rw [hv]
  refine ret t9 h9 tk9 _ (fun b o hb e => K9 _ _ (F2.keep b o (hideAll_get _ e (by simpa using hb)))) (K9 _ _ e58) (Or.inr ⟨c2, rfl, codeRec_kp hrec fun b o _ _ e _ _ => K9 b o e⟩) hgr
end
theorem digLow {x : Int} {n i m : Nat} (h : i < m) : (x % 2 ^ (m * n)) / 2 ^ (i * n) % 2 ^ n = x / 2 ^ (i * n) % 2 ^ n := by
  have hp := pow2_pos (i * n)
  have e : (2 : Int) ^ (m * n) = 2 ^ (i * n) * (2 ^ n * 2 ^ ((m - i - 1) * n)) := by
    rw [← Int.pow_add, ← Int.pow_add]; congr 1
    have : m = i + 1 + (m - i - 1) := by walk_at "OM"
    rw [show m * n = (i + 1 + (m - i - 1)) * n by rw [← this], Nat.add_mul, Nat.add_mul, Nat.one_mul, Nat.add_assoc]
  have h1 := Int.mul_ediv_add_emod x (2 ^ (m * n))
  have e2 : x / 2 ^ (i * n) = 2 ^ n * (2 ^ ((m - i - 1) * n) * (x / 2 ^ (m * n))) + (x % 2 ^ (m * n)) / 2 ^ (i * n) := by
    have e3 : x = x % 2 ^ (m * n) + 2 ^ (i * n) * (2 ^ n * (2 ^ ((m - i - 1) * n) * (x / 2 ^ (m * n)))) := by
      rw [e] at h1 ⊢
      generalize (2 : Int) ^ (i * n) = a at *
      generalize (2 : Int) ^ n = b at *
      generalize (2 : Int) ^ ((m - i - 1) * n) = c at *
      generalize x / (a * (b * c)) = q at *
      generalize x % (a * (b * c)) = r at *
      grind
    have e4 : x / 2 ^ (i * n) = (x % 2 ^ (m * n) + 2 ^ (i * n) * (2 ^ n * (2 ^ ((m - i - 1) * n) * (x / 2 ^ (m * n))))) / 2 ^ (i * n) := by rw [← e3]
    rw [Int.add_mul_ediv_left _ _ (by walk_at "OM")] at e4
    rw [Int.add_comm] at e4
    exact e4
  rw [e2, Int.add_comm, Int.add_mul_emod_self_left]
theorem digHigh {x : Int} {n i m : Nat} : (x / 2 ^ (m * n)) / 2 ^ (i * n) % 2 ^ n = x / 2 ^ ((m + i) * n) % 2 ^ n := by
  rw [Int.ediv_ediv_of_nonneg (by have := pow2_pos (m * n); walk_at "OM"), ← Int.pow_add, Nat.add_mul]
theorem leafOut {a : Nat} {v : Value} (lv : List Value) : ∀ i, i < a ∨ a + 1 ≤ i → (lv.set a v)[i]? = lv[i]? := fun i hi => List.getElem?_set_ne (by walk_at "OM")
theorem leafIn {a n : Nat} {x : Int} {t : Tok} {lv : List Value} (ha : a < lv.length) (h0 : 0 ≤ x) (h1 : x < 2 ^ ((a + 1 - a) * n)) : ∀ i, i < a + 1 - a → ∃ t', (lv.set a (.int x t))[a + i]? = some (.int (x / 2 ^ (i * n) % 2 ^ n) t') := fun i hi => by
  obtain rfl : i = 0 := by walk_at "OM"
  rw [show a + 1 - a = 1 by walk_at "OM", Nat.one_mul] at h1
  refine ⟨t, ?_⟩
  rw [Nat.zero_mul, Int.pow_zero, Int.ediv_one, Int.emod_eq_of_lt h0 h1, Nat.add_zero, List.getElem?_set_self ha]
section
variable {w : World} {p : Program} {loose : List Str} {mean : ExcName → Option Value} {mg mb : Str → Option Value} {A : Around} {s : Shared} {Q E : Value → Shared → Prop}
theorem fdiv_named {prog : Program} {a b x : Int} {t u : Tok} (hb : b ≠ 0) (hs : b.natAbs < 1073741824) (he : a.fdiv b = x) (h : Q (.int x s.toks) { s with toks := s.toks + 1 }) : wpAny (model prog w) A (binaryOp .FloorDiv (.int a t) (.int b u)) Q E s := floordiv_int hb (he ▸ h) (Or.inl (PyProof.noPylong_small hs))
theorem ip_yes {P : Prop} [Decidable P] {a b : Prop} (hp : P) (h : a) : if P then a else b := by rw [if_pos hp]; exact h
theorem ip_no {P : Prop} [Decidable P] {a b : Prop} (hp : ¬ P) (h : b) : if P then a else b := by rw [if_neg hp]; exact h

local macro_rules | `(tactic| walk_at "eval Name") => `(tactic| (k_here; k_dflt (refine' nameX_Bs (by exact rfl) (by exact rfl) (by with_reducible assumption) (by with_reducible assumption) (by with_reducible assumption) ?_ (by exact rfl) (by exact rfl) (by exact rfl))))
local macro_rules | `(tactic| walk_at "callWith ref") => `(tactic| (k_here; k_dflt (refine' callWith_F (by exact ⟨_, _, _, _, Fr.keep (by with_reducible assumption) _ _ (by with_reducible assumption)⟩) ?_; k_whole)))
local macro_rules | `(tactic| walk_at "FnAt") => `(tactic| (k_dflt (exact ⟨_, _, _, _, Fr.keep (by with_reducible assumption) _ _ (by with_reducible assumption)⟩)))
local macro_rules | `(tactic| walk_at "subscriptTail Name Name ref int") => `(tactic| (k_here; (with_reducible show wpAny _ _ (subscriptTail _ _ (Value.ref _) (Value.int _ _)) _ _ _); (k_dflt (refine' item_any (by exact Heap.IsList.at (by with_reducible assumption) (fun o e => Fr.keep (by assumption) _ o e)) (by with_reducible assumption) (by with_reducible assumption) (by with_reducible assumption) ?k5 (by with_unfolding_all rfl))); (try dsimp only)))
local macro_rules | `(tactic| walk_at "exec FunctionDef") => `(tactic| (k_here; k_dflt (refine' nestDef_K (by exact rfl) (by exact rfl) (by exact rfl) ?_; (refine' nest_any (by k_asm) (by k_asm) (by k_asm) (by k_asm) (by exact rfl) (by k_updF) (by assumption) (by exact rfl) (by exact rfl) ?_)); intro f' c' e' oe' ct' dc' h' tk' F' N' R' l1 l2 hq'; (try dsimp only at N'); (try k_lt l1); (try k_lt l2)))
local macro_rules | `(tactic| walk_at "truthy ref") => `(tactic| (k_here; k_dflt (refine truthy_ne (Heap.IsList.at (by with_reducible assumption) (fun o e => Fr.keep (by assumption) _ o e)) (by with_reducible assumption) (by with_reducible assumption) ?_)))
local macro_rules | `(tactic| walk_at "call builtin:len") => `(tactic| (k_here; k_dflt (refine len_named (Heap.IsList.at (by with_reducible assumption) (fun o e => Fr.keep (by assumption) _ o e)) (by with_reducible assumption) (by with_reducible assumption) ?_)))
local macro_rules | `(tactic| walk_at "binaryOp FloorDiv int int") => `(tactic| (k_here; (with_reducible refine' fdiv_named (by with_reducible assumption) (by with_reducible assumption) (by with_reducible assumption) ?_)))
local macro_rules | `(tactic| walk_at "setItem ref int") => `(tactic| (k_here; k_dflt (refine setItem_F (by assumption) (by assumption) (by with_reducible assumption) (by with_reducible assumption) (by with_reducible assumption) ?_); intro h9 F9 N9; (try dsimp only)))
local macro_rules | `(tactic| walk_at "ite") => `(tactic| first | (with_reducible refine' ip_yes ?hp ?_; (case hp => first | with_reducible assumption | exact beq_iff_eq.mpr (by with_reducible assumption) | exact bne_iff_ne.mpr (by with_reducible assumption) | exact decide_eq_true (by with_reducible assumption))) | (with_reducible refine' ip_no ?hp ?_; (case hp => first | with_reducible assumption | exact ne_true_of_eq_false (by with_reducible assumption) | exact (fun hq => absurd (beq_iff_eq.mp hq) (by with_reducible assumption)) | exact ne_true_of_eq_false (decide_eq_false (by with_reducible assumption)))))
set_option maxHeartbeats 4000000 in
theorem c_i2d (hA : Rm 9 A) (X : (hd.heap_1 w.params).In (hideAll s.heap [51])) (T : Top p loose mean mg mb (hideAll s.heap [51])) (C : CodeHd (hideAll s.heap [51]) 55 51) {ps : Array Value} (hP : s.heap.get? 51 = some (tabObj ps)) (S0 : TabSt (hideAll s.heap [51]) 77 4 (Str.ofString "_int2digits.<locals>.inner") ps)
    {a : Int} {n k : Nat} {ta tn : Tok} (ha : 0 < a) (hk : ((Builtin.Int.intBits a : Int) + (n : Int) - 1).fdiv (n : Int) = (k : Int)) (hn0 : 0 < n) (hk64 : k ≤ 64) (hkn : k * n ≤ 2 ^ 18) (hn18 : n ≤ 2 ^ 18)
    (ret : ∀ l lv nn h' tk' ps', (∀ b o, b ≠ 51 → s.heap.get? b = some o → h'.get? b = some o) → h'.get? 51 = some (tabObj ps') → TabSt h' 77 4 (Str.ofString "_int2digits.<locals>.inner") ps' → ((ps = #[] ∧ ∃ c' : Nat, ps' = #[rawInt 77, rawInt 4, .ref c'] ∧ s.heap.objs.size ≤ c') ∨ ps' = ps) → s.heap.objs.size ≤ l → h'.get? l = some (lstObj lv nn) →
      lv.length = k → (∀ i, i < k → ∃ t, lv[i]? = some (.int (a / 2 ^ (i * n) % 2 ^ n) t)) → Q (.ref l) { s with heap := h', toks := tk' }) :
    wpAny (model PySem.Challenge.rw_tl0018_01.row.prog w) A (call (.ref 56) [.int a ta, .int (n : Int) tn]) Q E s := by
  obtain ⟨hdl, dp, fr, gd, un⟩ := A
  obtain rfl : hdl = none := hA.1
  revert X; k_fill; intro X
  refine' enterC (binds := [(Str.ofString "a", .int a ta), (Str.ofString "n", .int (n : Int) tn)]) (X.keeps fun b o e => of_hideAll _ e) (T.keeps fun b o e => of_hideAll _ e) ?k6 ?k7 ?k8 ?k9 ?kB ?c1 ?c2 ?c3 ?c4 ?_
  (case k6 => k_is); (case k7 => k_is); (case k8 => exact Rm.room (by assumption)); (case k9 => exact BindsTo.of_eq rfl); (case kB => exact rfl); (case c1 => decide); (case c2 => exact rfl); (case c3 => exact rfl); (case c4 => exact rfl)
  k_whole
  intro L' h' tk0 cells F' N' Y' htk0
  (try dsimp only)
  (try k_fold)
  refine cells3K Y' fun o1 o2 o3 hc9 d1 d2 d3 => ?_
  subst hc9
  replace d1 : o1.data = .cell none := d1
  replace d2 : o2.data = .cell none := d2
  replace d3 : o3.data = .cell (some (.int (n : Int) tn)) := d3
  clear Y'
  replace F' : Fr s.heap L' h' (fun y => if y = Str.ofString "a" then some (.int a ta) else none) := F'
  have l51 : @LT.lt Nat _ 51 L' := Nat.lt_of_lt_of_le (Heap.lt_size hP) F'.above
  have F1 := hideFr (ls := [51]) F'
  have N1 : News (hideAll s.heap [51]) L' h' [(51, tabObj ps), (L' + 1 + 1 + 1, o1), (L' + 1 + 1, o2), (L' + 1, o3)] := newsCons (F'.keep _ _ hP) (neA (by walk_at "NEQ")) (hideAll_none _ (.head _)) (newsHide N')
  clear F' N'
  have hnz : (n : Int) ≠ 0 := by walk_at "OM"
  have hns : (n : Int).natAbs < 1073741824 := by have e18 : (2 : Nat) ^ 18 = 262144 := by decide
                                                 walk_at "OM"
  have hk0 : 0 ≤ (k : Int) := by walk_at "OM"
  have hk1 : (k : Int) ≤ 64 := by walk_at "OM"
  have ha0 : a ≠ 0 := by walk_at "OM"
  walk_at "GO"
  · rename_i l0 hA1 lA D hB1 iA n1 sA eA eB eC lB hC1 oD dD f c2 e2 oe2 ct2 dc2 h1 tk1 R2 hq2 l1 l2 h2 o4 F2 N2 d4
    obtain rfl : n1 = k := by walk_at "OM"
    refine Stop.mk ?_
    obtain ⟨nn, ef, eD, ec, ea, en⟩ : ∃ nn, h2.get? f = some _ ∧ h2.get? D = some (lstObj (List.replicate ((n1 : Nat) : Int).toNat [Value.int 0 tk0]).flatten nn) ∧ h2.get? (L' + 1 + 1 + 1) = some o4 ∧ h2.get? (L' + 1 + 1) = some oD ∧ h2.get? (L' + 1) = some o3 :=
      ⟨_, (N2 _ (.head _)).1, (N2 _ (.tail _ (.tail _ (.head _)))).1, (N2 _ (.tail _ (.tail _ (.tail _ (.tail _ (.tail _ (.head _))))))).1, (N2 _ (.tail _ (.tail _ (.tail _ (.tail _ (.tail _ (.tail _ (.head _)))))))).1, (N2 _ (.tail _ (.tail _ (.tail _ (.tail _ (.tail _ (.tail _ (.tail _ (.head _))))))))).1⟩
    have hcd := R2 h2 F2.keep (N2 _ (.tail _ (.head _))).1
    have e51 := (N2 _ (.tail _ (.tail _ (.tail _ (.tail _ (.head _)))))).1
    have e12 : @Ne Addr f D := neA (by walk_at "NEQ")
    have hcD : @Ne Addr (L' + 1 + 1 + 1) D := neA (by walk_at "NEQ")
    have hnD : @Ne Addr (L' + 1) D := neA (by walk_at "NEQ")
    have haD : @Ne Addr (L' + 1 + 1) D := neA (by walk_at "NEQ")
    have hDs : s.heap.objs.size ≤ D := by
      have z := Nat.le_trans F2.above (Nat.le_of_lt (show @LT.lt Nat _ L' D by walk_at "OM"))
      rwa [hideAll_size] at z
    have hgr : (ps = #[] ∧ ∃ c' : Nat, (#[rawInt 77, rawInt 4, .ref c2] : Array Value) = #[rawInt 77, rawInt 4, .ref c'] ∧ s.heap.objs.size ≤ c') ∨ #[rawInt 77, rawInt 4, .ref c2] = ps := by
      rcases hq2 with ⟨q1, q2⟩ | q
      · refine Or.inl ⟨q1, c2, rfl, ?_⟩
        have z := q2 _ (.head _)
        have z1 := F2.above
        rw [hideAll_size] at z1
        (try dsimp only at z)
        have zL : @LT.lt Nat _ L' D := by walk_at "OM"
        exact Nat.le_trans z1 (Nat.le_of_lt (Nat.lt_trans zL z))
      · exact Or.inr q.symm
    have hnot : ∀ l ∈ [D], l = D := fun l hl => List.mem_singleton.mp hl
    have hnone : (hideAll s.heap [51]).get? D = none := (N2 _ (.tail _ (.tail _ (.head _)))).2.2
    have hlim : ∀ h : Heap, (∀ b o, b ≠ D → h2.get? b = some o → h.get? b = some o) → h.NoLimit := fun h k => (T.keeps fun b o e => k b o (fun q => by rw [q, hnone] at e; cases e) (F2.keep b o e)).nolimit
    have hcdB : ∀ h : Heap, (∀ b o, b ≠ D → h2.get? b = some o → h.get? b = some o) → h.CodeRec (.ref c2) _ := fun h k => codeRec_kp hcd fun b o vs t e hd _ => k b o (fun q => by rw [q, eD] at e; cases e; cases hd) e
    (try dsimp only at ef eD ec ea en)
    have inner : ∀ (j : Nat) (A' : Around) (s' : Shared) (Q' E' : Value → Shared → Prop) (x : Int) (a b : Nat) (tx t1 t2 : Tok) (lv : List Value), Rm (j + 1) A' → a < b → b - a ≤ 2 ^ j → b ≤ n1 → 0 ≤ x → x < 2 ^ ((b - a) * n) →
        (∀ b o, b ≠ D → h2.get? b = some o → s'.heap.get? b = some o) → s'.heap.get? D = some (lstObj lv nn) → lv.length = n1 →
        (∀ lv' h' tk', (∀ b o, b ≠ D → s'.heap.get? b = some o → h'.get? b = some o) → h'.get? D = some (lstObj lv' nn) → lv'.length = n1 → (∀ i, i < a ∨ b ≤ i → lv'[i]? = lv[i]?) → (∀ i, i < b - a → ∃ t, lv'[a + i]? = some (.int (x / 2 ^ (i * n) % 2 ^ n) t)) → Q' .none { s' with heap := h', toks := tk' }) →
        wpAny (model PySem.Challenge.rw_tl0018_01.row.prog w) A' (call (.ref f) [.int x tx, .int (a : Int) t1, .int (b : Int) t2]) Q' E' s' := by
      clear N2 F2 R2 C S0 hP
      have leaf : ∀ (A' : Around) (s' : Shared) (Q' E' : Value → Shared → Prop) (x : Int) (a : Nat) (tx t1 t2 : Tok) (lv : List Value), Rm 1 A' → a < n1 → 
        (∀ b o, b ≠ D → h2.get? b = some o → s'.heap.get? b = some o) → s'.heap.get? D = some (lstObj lv nn) → lv.length = n1 →
        (∀ lv' h' tk', (∀ b o, b ≠ D → s'.heap.get? b = some o → h'.get? b = some o) → h'.get? D = some (lstObj lv' nn) → lv' = lv.set a (.int x tx) → Q' .none { s' with heap := h', toks := tk' }) →
        wpAny (model PySem.Challenge.rw_tl0018_01.row.prog w) A' (call (.ref f) [.int x tx, .int (a : Int) t1, .int ((a + 1 : Nat) : Int) t2]) Q' E' s' := by
        intro A' s' Q' E' x a tx t1 t2 lv hA' hak kp eD' hlv ret'
        obtain ⟨hdl', dp', fr', gd', un'⟩ := A'
        obtain rfl : hdl' = none := hA'.1
        have c0 : (a : Int) + 1 = ((a + 1 : Nat) : Int) := by walk_at "OM"
        have c0d : decide ((a : Int) + 1 = ((a + 1 : Nat) : Int)) = true := decide_eq_true c0
        have c1 : (0 : Int) ≤ (a : Int) := by walk_at "OM"
        have c2 : (a : Int) < 2 ^ 63 := by walk_at "OM"
        have c3 : (a : Int) < lv.length := by walk_at "OM"
        have hh : ∀ b o, b ≠ D → h2.get? b = some o → (hideAll s'.heap [D]).get? b = some o := fun b o hb e => hideAll_get _ (kp b o hb e) (fun q => hb (hnot _ q))
        have ef' := hh _ _ e12 ef
        have ec' := hh _ _ hcD ec
        have en' := hh _ _ hnD en
        have ea' := hh _ _ haD ea
        refine' enterN (binds := [(Str.ofString "x", .int x tx), (Str.ofString "L", .int (a : Int) t1), (Str.ofString "R", .int ((a + 1 : Nat) : Int) t2)]) (hlim _ kp) (kp _ _ e12 ef) (hcdB _ kp) ?k8 ?k9 ?kB ?c2 ?c3 ?c4 ?c5 ?_
        (case k8 => exact Rm.room hA'); (case k9 => exact BindsTo.of_eq rfl); (case c5 => decide); (case kB => exact locs rfl); (case c2 => exact rfl); (case c3 => exact rfl); (case c4 => exact rfl)
        intro L3 h3 F3 N3
        have lDL : @LT.lt Nat _ D L3 := Nat.lt_of_lt_of_le (Heap.lt_size eD') F3.above
        have F4 := hideFr (ls := [D]) F3
        have N4 : News (hideAll s'.heap [D]) L3 h3 [(D, lstObj lv nn)] := newsCons (F3.keep _ _ eD') (neA (by walk_at "NEQ")) (hideAll_none _ (.head _)) News.nil
        clear F3 N3
        (try dsimp only)
        (try k_fold)
        walk_at "GO"
        rename Fr _ _ _ _ => F9
        rename News _ _ _ _ => N9
        exact ret' _ _ _ (fun b o hb e => F9.keep b o (hideAll_get _ e (fun q => hb (hnot _ q)))) (N9 _ (.head _)).1 rfl
      intro j
      induction j with
      | zero =>
        intro A' s' Q' E' x a b tx t1 t2 lv hA' hab hm hbk hx0 hx1 kp eD' hlv ret'
        obtain rfl : b = a + 1 := by walk_at "OM"
        refine leaf A' s' Q' E' x a tx t1 t2 lv hA' (by walk_at "OM") kp eD' hlv fun lv' h' tk' k e hlv' => ?_
        subst hlv'
        exact ret' _ h' tk' k e (by rw [List.length_set, hlv]) (leafOut lv) (leafIn (by walk_at "OM") hx0 hx1)
      | succ j ih =>
        intro A' s' Q' E' x a b tx t1 t2 lv hA' hab hm hbk hx0 hx1 kp eD' hlv ret'
        by_cases hb1 : b = a + 1
        · subst hb1
          refine leaf A' s' Q' E' x a tx t1 t2 lv (hA'.mono (by walk_at "OM")) (by walk_at "OM") kp eD' hlv fun lv' h' tk' k e hlv' => ?_
          subst hlv'
          exact ret' _ h' tk' k e (by rw [List.length_set, hlv]) (leafOut lv) (leafIn (by walk_at "OM") hx0 hx1)
        obtain ⟨md, hmd⟩ : ∃ md, (a + b) / 2 = md := ⟨_, rfl⟩
        have hm1 : a < md := by walk_at "OM"
        have hm2 : md < b := by walk_at "OM"
        have hpw : 2 ^ (j + 1) = 2 ^ j * 2 := Nat.pow_succ ..
        have hm3 : b - md ≤ 2 ^ j := by walk_at "OM"
        have hm4 : md - a ≤ 2 ^ j := by walk_at "OM"
        have c0 : ¬ (a : Int) + 1 = (b : Int) := by walk_at "OM"
        have p1 : ((a : Int) + (b : Int)).fdiv (2 ^ Int.toNat 1) = (md : Int) := by
          show ((a : Int) + (b : Int)).fdiv 2 = md
          rw [Int.fdiv_eq_ediv_of_nonneg _ (by decide)]; walk_at "OM"
        have hsh : ((md : Int) - (a : Int)) * (n : Int) = (((md - a) * n : Nat) : Int) := by rw [Int.natCast_mul]; congr 1; walk_at "OM"
        have hle : (md - a) * n ≤ n1 * n := Nat.mul_le_mul_right _ (by walk_at "OM")
        have hle2 : md - a ≤ (md - a) * n := Nat.le_mul_of_pos_right _ hn0
        have hle3 : (b - a) * n ≤ n1 * n := Nat.mul_le_mul_right _ (by walk_at "OM")
        have e18 : (2 : Nat) ^ 18 = 262144 := by decide
        have m1 : IntMulOk ((md : Int) - (a : Int)) (n : Int) := by
          have e20 : (2 : Int) ^ 20 = 1048576 := by decide
          refine IntMulOk.of_bits (Nat.le_trans (natBits (k := 20) (by walk_at "OM") (by walk_at "OM")) (by decide)) (Nat.le_trans (natBits (k := 20) (by walk_at "OM") (by walk_at "OM")) (by decide))
        have p2 : 0 ≤ ((md : Int) - (a : Int)) * (n : Int) := by rw [hsh]; exact Int.natCast_nonneg _
        have hup0 : 0 ≤ x / 2 ^ ((md - a) * n) := Int.ediv_nonneg hx0 (Int.le_of_lt (pow2_pos _))
        have hup1 : x / 2 ^ ((md - a) * n) < 2 ^ ((b - md) * n) := by
          refine Int.ediv_lt_of_lt_mul (pow2_pos _) ?_
          rw [← Int.pow_add, ← Nat.add_mul, show b - md + (md - a) = b - a by walk_at "OM"]
          exact hx1
        have hlo0 : 0 ≤ x % 2 ^ ((md - a) * n) := Int.emod_nonneg _ (Int.ne_of_gt (pow2_pos _))
        have hlo1 : x % 2 ^ ((md - a) * n) < 2 ^ ((md - a) * n) := Int.emod_lt_of_pos _ (pow2_pos _)
        obtain ⟨up, hup⟩ : ∃ u, x / 2 ^ ((md - a) * n) = u := ⟨_, rfl⟩
        obtain ⟨lo, hlo⟩ : ∃ u, x % 2 ^ ((md - a) * n) = u := ⟨_, rfl⟩
        have p3 : x.fdiv (2 ^ (((md : Int) - (a : Int)) * (n : Int)).toNat) = up := by rw [hsh, Int.toNat_natCast, fdiv_pow, hup]
        have s2 : (Builtin.Int.intBits up : Int) + ((md : Int) - (a : Int)) * (n : Int) ≤ 2 ^ 27 := by
          have := natBits (hup ▸ hup0) (hup ▸ hup1)
          have hle4 : (b - md) * n ≤ n1 * n := Nat.mul_le_mul_right _ (by walk_at "OM")
          rw [hsh]
          have e27 : (2 : Int) ^ 27 = 134217728 := by decide
          walk_at "OM"
        obtain ⟨V, p4⟩ : ∃ V, up * 2 ^ (((md : Int) - (a : Int)) * (n : Int)).toNat = V := ⟨_, rfl⟩
        have p5 : Builtin.bitXor x V = lo := by rw [← p4, hsh, Int.toNat_natCast, ← hup, xor_low hx0, hlo]
        rw [hup] at hup0 hup1
        rw [hlo] at hlo0 hlo1
        have hnD' := hnD
        obtain ⟨hdl', dp', fr', gd', un'⟩ := A'
        obtain rfl : hdl' = none := hA'.1
        have hh : ∀ b o, b ≠ D → h2.get? b = some o → (hideAll s'.heap [D]).get? b = some o := fun b o hb e => hideAll_get _ (kp b o hb e) (fun q => hb (hnot _ q))
        have ef' := hh _ _ e12 ef
        have ec' := hh _ _ hcD ec
        have en' := hh _ _ hnD en
        have ea' := hh _ _ haD ea
        refine' enterN (binds := [(Str.ofString "x", .int x tx), (Str.ofString "L", .int (a : Int) t1), (Str.ofString "R", .int (b : Int) t2)]) (hlim _ kp) (kp _ _ e12 ef) (hcdB _ kp) ?k8 ?k9 ?kB ?c2 ?c3 ?c4 ?c5 ?_
        (case k8 => exact Rm.room hA'); (case k9 => exact BindsTo.of_eq rfl); (case c5 => decide); (case kB => exact locs rfl); (case c2 => exact rfl); (case c3 => exact rfl); (case c4 => exact rfl)
        intro L3 h3 F3 N3
        have lDL : @LT.lt Nat _ D L3 := Nat.lt_of_lt_of_le (Heap.lt_size eD') F3.above
        have F4 := hideFr (ls := [D]) F3
        have N4 : News (hideAll s'.heap [D]) L3 h3 [(D, lstObj lv nn)] := newsCons (F3.keep _ _ eD') (neA (by walk_at "NEQ")) (hideAll_none _ (.head _)) News.nil
        clear F3 N3
        (try dsimp only)
        (try k_fold)
        walk_at "GO"
        rename Fr _ _ _ _ => F9
        rename News _ _ _ _ => N9
        have hDL : @Ne Addr D L3 := neA (Nat.ne_of_lt lDL)
        have kp9 : ∀ h8 : Heap, (∀ b o, b ≠ D → h8.get? b = some o → h8.get? b = some o) := fun _ _ _ _ e => e
        have e0 := (N9 _ (.head _)).1
        (try dsimp only at e0)
        refine Stop.mk ?_
        refine ih _ _ _ _ lo a md _ _ _ lv (Rm.deep hA' (Nat.le_refl _)) hm1 hm4 (by walk_at "OM") hlo0 hlo1 (fun b o hb e => F9.keep b o (hh b o hb e)) e0 hlv ?_
        intro lv1 h9 tk9 K9 eD9 hlv1 out1 in1
        have F8 := frBut F9 hDL (hideAll_none _ (.head _)) K9
        have N8 : News (hideAll s'.heap [D]) L3 h9 [(D, lstObj lv1 nn)] := newsCons eD9 hDL (hideAll_none _ (.head _)) News.nil
        clear F9 N9 K9 e0
        (try dsimp only)
        (try k_fold)
        walk_at "GO"
        rename Fr _ _ _ _ => F9
        rename News _ _ _ _ => N9
        have e0 := (N9 _ (.head _)).1
        (try dsimp only at e0)
        refine Stop.mk ?_
        refine ih _ _ _ _ up md b _ _ _ lv1 (Rm.deep hA' (Nat.le_refl _)) hm2 hm3 hbk hup0 hup1 (fun b o hb e => F9.keep b o (hh b o hb e)) e0 hlv1 ?_
        intro lv2 h9 tk9 K9 eD9' hlv2 out2 in2
        have F8 := frBut F9 hDL (hideAll_none _ (.head _)) K9
        have N8 : News (hideAll s'.heap [D]) L3 h9 [(D, lstObj lv2 nn)] := newsCons eD9' hDL (hideAll_none _ (.head _)) News.nil
        clear F9 N9 K9 e0
        (try dsimp only)
        (try k_fold)
        walk_at "GO"
        rename Fr _ _ _ _ => F9
        rename News _ _ _ _ => N9
        have e0 := (N9 _ (.head _)).1
        (try dsimp only at e0)
        refine ret' lv2 _ _ (fun b o hb e => F9.keep b o (hideAll_get _ e (fun q => hb (hnot _ q)))) e0 hlv2 ?_ ?_
        · intro i hi
          rw [out2 i (by walk_at "OM"), out1 i (by walk_at "OM")]
        · intro i hi
          by_cases him : i < md - a
          · obtain ⟨t, ht⟩ := in1 i him
            refine ⟨t, ?_⟩
            rw [out2 (a + i) (by walk_at "OM"), ht, ← hlo, digLow him]
          · obtain ⟨i', rfl⟩ : ∃ i', i = md - a + i' := ⟨i - (md - a), by walk_at "OM"⟩
            obtain ⟨t, ht⟩ := in2 i' (by walk_at "OM")
            refine ⟨t, ?_⟩
            rw [show a + (md - a + i') = md + i' by walk_at "OM", ht, ← hup, digHigh]
    have hax : a < 2 ^ (n1 * n) := by
      refine bitsGe (Int.le_of_lt ha) ?_
      rw [Int.fdiv_eq_ediv_of_nonneg _ (by walk_at "OM")] at hk
      have h3 := Int.mul_ediv_add_emod ((Builtin.Int.intBits a : Int) + (n : Int) - 1) (n : Int)
      have h4 := Int.emod_lt_of_pos ((Builtin.Int.intBits a : Int) + (n : Int) - 1) (b := (n : Int)) (by walk_at "OM")
      rw [hk] at h3
      have h5 : (n : Int) * (n1 : Int) = ((n1 * n : Nat) : Int) := by rw [Int.natCast_mul, Int.mul_comm]
      rw [h5] at h3
      walk_at "OM"
    have hn1 : 0 < n1 := Nat.pos_of_ne_zero (by rintro rfl; rw [Nat.zero_mul] at hax; simp at hax; walk_at "OM")
    have hrep : (List.replicate ((n1 : Nat) : Int).toNat [Value.int 0 tk0]).flatten.length = n1 := by simp
    refine inner 6 _ _ _ _ a 0 n1 _ _ _ _ (Rm.deep hA (by decide)) (by walk_at "OM") (by walk_at "OM") (Nat.le_refl _) (Int.le_of_lt ha) hax (fun b o _ e => e) eD hrep ?_
    intro lv' h9 tk9 K9 eD9 hlv9 out9 in9
    have F8 := frBut F2 (neA (by walk_at "NEQ")) hnone K9
    have e51' := K9 51 _ (neA (by walk_at "NEQ")) e51
    have hcd9 := hcdB h9 K9
    have eD9' := eD9
    have N8 : News (hideAll s.heap [51]) L' h9 [(D, lstObj lv' nn), (L' + 1 + 1 + 1, o4), (L' + 1 + 1, oD), (L' + 1, o3)] :=
      newsCons eD9 (N2 _ (.tail _ (.tail _ (.head _)))).2.1 hnone (newsCons (K9 _ _ hcD ec) (neA (by walk_at "NEQ")) (fresh_ge F2 (by show @LT.lt Nat _ _ _; walk_at "OM")) (newsCons (K9 _ _ haD ea) (neA (by walk_at "NEQ")) (fresh_ge F2 (by show @LT.lt Nat _ _ _; walk_at "OM")) (newsCons (K9 _ _ hnD en) (neA (by walk_at "NEQ")) (fresh_ge F2 (by show @LT.lt Nat _ _ _; walk_at "OM")) News.nil)))
    clear F2 N2 K9 eD eD9 e51 hcd
    (try dsimp only)
    (try k_fold)
    walk_at "GO"
    rename Fr _ _ _ _ => F9
    rename News _ _ _ _ => N9
    have e9 := (N9 _ (.head _)).1
    (try dsimp only at e9)
    have f51 : F9.keep = F9.keep := rfl
    exact ret D lv' nn _ _ _ (fun b o hb e => F9.keep b o (hideAll_get _ e (by simpa using hb))) e51' (Or.inr ⟨c2, rfl, hcd9⟩) hgr hDs e9 hlv9 (fun i hi => by
      have := in9 i (by walk_at "OM")
      rw [Nat.zero_add] at this
      exact this)
end
end
noncomputable def addL : List Int → List Int → List Int
  | [], b => b
  | x :: a, [] => x :: a
  | x :: a, y :: b => (x + y) :: addL a b
theorem addL_val (n : Nat) : ∀ a b, d2iV n (addL a b) = d2iV n a + d2iV n b
  | [], b => by simp [addL, d2iV]
  | x :: a, [] => by simp [addL, d2iV]
  | x :: a, y :: b => by
    show (x + y) + d2iV n (addL a b) * 2 ^ n = (x + d2iV n a * 2 ^ n) + (y + d2iV n b * 2 ^ n)
    rw [addL_val n a b]
    generalize (2 : Int) ^ n = P
    grind
theorem scale_val (n : Nat) (x : Int) : ∀ b : List Int, d2iV n (b.map (x * ·)) = x * d2iV n b
  | [] => by simp [d2iV]
  | y :: b => by
    show x * y + d2iV n (b.map (x * ·)) * 2 ^ n = x * (y + d2iV n b * 2 ^ n)
    rw [scale_val n x b]
    generalize (2 : Int) ^ n = P
    grind
noncomputable def mulL : List Int → List Int → List Int
  | [], _ => []
  | x :: a, b => addL (b.map (x * ·)) (0 :: mulL a b)
theorem mulL_val (n : Nat) : ∀ a b, d2iV n (mulL a b) = d2iV n a * d2iV n b
  | [], b => by simp [mulL, d2iV]
  | x :: a, b => by
    show d2iV n (addL (b.map (x * ·)) (0 :: mulL a b)) = (x + d2iV n a * 2 ^ n) * d2iV n b
    rw [addL_val, scale_val]
    show x * d2iV n b + (0 + d2iV n (mulL a b) * 2 ^ n) = _
    rw [mulL_val n a b]
    generalize (2 : Int) ^ n = P
    grind
noncomputable def cycL (p : Nat) (m : List Int) : List Int := addL (m.take p) (m.drop p)
theorem cyc_val {n p : Nat} {m : List Int} (h : p ≤ m.length) : d2iV n m = d2iV n (m.drop p) * (2 ^ (p * n) - 1) + d2iV n (cycL p m) := by
  have e : m = m.take p ++ m.drop p := (List.take_append_drop p m).symm
  unfold cycL
  rw [addL_val]
  have h2 : d2iV n m = d2iV n (m.take p ++ m.drop p) := by rw [← e]
  rw [h2, d2iV_append, List.length_take, Nat.min_eq_left h]
  generalize (2 : Int) ^ (p * n) = P
  grind
theorem d2iV_bound (n : Nat) : ∀ l : List Int, (∀ x ∈ l, 0 ≤ x ∧ x < 2 ^ n) → 0 ≤ d2iV n l ∧ d2iV n l < 2 ^ (l.length * n)
  | [], _ => by simp [d2iV]
  | x :: l, h => by
    have h1 := h x (.head _)
    have h2 := d2iV_bound n l fun y hy => h y (.tail _ hy)
    have hp := pow2_pos n
    show 0 ≤ x + d2iV n l * 2 ^ n ∧ x + d2iV n l * 2 ^ n < 2 ^ ((l.length + 1) * n)
    rw [Nat.add_mul, Nat.one_mul, Int.pow_add]
    have h3 : 0 ≤ d2iV n l * 2 ^ n := Int.mul_nonneg h2.1 (by walk_at "OM")
    have h4 : (d2iV n l + 1) * 2 ^ n ≤ 2 ^ (l.length * n) * 2 ^ n := Int.mul_le_mul_of_nonneg_right (by walk_at "OM") (by walk_at "OM")
    rw [Int.add_mul, Int.one_mul] at h4
    walk_at "OM"
theorem d2iV_digit (n : Nat) : ∀ (l : List Int), (∀ x ∈ l, 0 ≤ x ∧ x < 2 ^ n) → ∀ i, d2iV n l / 2 ^ (i * n) % 2 ^ n = l.getD i 0
  | [], _, i => by simp [d2iV]
  | x :: l, h, i => by
    have h1 := h x (.head _)
    have hp := pow2_pos n
    have hq := ediv_uniq (a := x + d2iV n l * 2 ^ n) (b := 2 ^ n) (q := d2iV n l) (r := x) (by walk_at "OM") h1.1 h1.2
    show (x + d2iV n l * 2 ^ n) / 2 ^ (i * n) % 2 ^ n = _
    cases i with
    | zero => simp only [Nat.zero_mul, Int.pow_zero, Int.ediv_one, List.getD_cons_zero]; exact hq.2.symm
    | succ i =>
      rw [List.getD_cons_succ, ← d2iV_digit n l (fun y hy => h y (.tail _ hy)) i, Nat.add_mul, Nat.one_mul, Nat.add_comm (i * n), Int.pow_add, ← Int.ediv_ediv_of_nonneg (by walk_at "OM"), ← hq.1]
theorem d2iV_top (n : Nat) : ∀ (l : List Int) (z : Int), (∀ x ∈ l, 0 ≤ x ∧ x < 2 ^ n) → 0 < z → 2 ^ (l.length * n) ≤ d2iV n (l ++ [z])
  | [], z, _, hz => by simp [d2iV]; walk_at "OM"
  | x :: l, z, h, hz => by
    have h1 := h x (.head _)
    have h2 := d2iV_top n l z (fun y hy => h y (.tail _ hy)) hz
    have hp := pow2_pos n
    show 2 ^ ((l.length + 1) * n) ≤ x + d2iV n (l ++ [z]) * 2 ^ n
    rw [Nat.add_mul, Nat.one_mul, Int.pow_add]
    have h4 : 2 ^ (l.length * n) * 2 ^ n ≤ d2iV n (l ++ [z]) * 2 ^ n := Int.mul_le_mul_of_nonneg_right h2 (by walk_at "OM")
    walk_at "OM"
local macro_rules | `(tactic| walk_at "ite") => `(tactic| first | (with_reducible refine' ip_yes ?hp ?_; (case hp => first | with_reducible assumption | exact beq_iff_eq.mpr (by with_reducible assumption) | exact bne_iff_ne.mpr (by with_reducible assumption) | exact decide_eq_true (by with_reducible assumption))) | (with_reducible refine' ip_no ?hp ?_; (case hp => first | with_reducible assumption | exact ne_true_of_eq_false (by with_reducible assumption) | exact (fun hq => absurd (beq_iff_eq.mp hq) (by with_reducible assumption)) | exact ne_true_of_eq_false (decide_eq_false (by with_reducible assumption)))))
section
local macro_rules | `(tactic| walk_at "call ref") => `(tactic| (k_here; k_dflt (refine Stop.mk ?_)))
section
variable {w : World} {p : Program} {loose : List Str} {mean : ExcName → Option Value} {mg mb : Str → Option Value} {A : Around} {s : Shared} {Q E : Value → Shared → Prop}
theorem tabObj_inj {a b : Array Value} (h : tabObj a = tabObj b) : a = b := by
  have := congrArg Obj.data h
  cases this
  rfl
theorem c_d2i_hit (hA : Rm 9 A) (X : (hd.heap_1 w.params).In (hideAll s.heap [58])) (T : Top p loose mean mg mb (hideAll s.heap [58])) (C : CodeHd (hideAll s.heap [58]) 62 58) {ps : Array Value} (hP : s.heap.get? 58 = some (tabObj ps)) (S0 : TabSt (hideAll s.heap [58]) 92 4 (Str.ofString "_digits2int.<locals>.inner") ps) (hne : ps ≠ #[])
    {l : Addr} {vs : List Value} {ns : List Int} {n : Nat} {tn : Tok} (hl : s.heap.IsList l vs.toArray) (hi : IntsV vs ns) (h0 : 0 < vs.length) {k : Nat} (hk : vs.length = k) (hfit : vs.length < 2 ^ 62) (hn0 : 0 < n) (hk64 : k ≤ 64) (hkn : k * n ≤ 2 ^ 18) (hn18 : n ≤ 2 ^ 18) (hbnd : ∀ a b, Builtin.Int.intBits (d2iV n (sl ns a b)) ≤ 2 ^ 20)
    (ret : ∀ t h' tk', Kp s.heap h' → Q (.int (d2iV n ns) t) { s with heap := h', toks := tk' }) :
    wpAny (model PySem.Challenge.rw_tl0018_01.row.prog w) A (call (.ref 63) [.ref l, .int (n : Int) tn]) Q E s := by
  refine c_d2i hA X T C hP S0 hl hi h0 hk hfit hn0 hk64 hkn hn18 hbnd fun t h' tk' ps' k e S g => ret t h' tk' fun b o eo => ?_
  by_cases hb : b = 58
  · subst hb
    rw [hP] at eo
    cases eo
    rcases g with ⟨e0, -⟩ | e0
    · exact absurd e0 hne
    · rw [e, e0.1]
  · exact k b o hb eo
theorem d2i_hbnd {n : Nat} {ns : List Int} (h : ∀ x ∈ ns, 0 ≤ x ∧ x < 2 ^ n) (hlen : ns.length * n ≤ 2 ^ 20) : ∀ a b, Builtin.Int.intBits (d2iV n (sl ns a b)) ≤ 2 ^ 20 := fun a b => by
  have z := d2iV_bound n (sl ns a b) fun x hx => h x (List.mem_of_mem_drop (List.mem_of_mem_take hx))
  have l1 : (sl ns a b).length ≤ ns.length := by unfold sl; simp; walk_at "OM"
  exact Nat.le_trans (natBits z.1 z.2) (Nat.le_trans (Nat.mul_le_mul_right n l1) hlen)
theorem list1 {lv : List Value} {P : Nat → Int} (hl : lv.length = 1) (h : ∀ i, i < 1 → ∃ t, lv[i]? = some (.int (P i) t)) : ∃ t, lv = [.int (P 0) t] := by
  obtain ⟨t, e⟩ := h 0 (by decide)
  obtain ⟨v, r, e1, g1⟩ := lenCons hl
  have k : lv = [v] := by rw [e1, List.eq_nil_of_length_eq_zero g1]
  rw [k] at e
  exact ⟨t, by rw [k, Option.some.inj e]⟩
theorem list2 {lv : List Value} {P : Nat → Int} (hl : lv.length = 2) (h : ∀ i, i < 2 → ∃ t, lv[i]? = some (.int (P i) t)) : ∃ t u, lv = [.int (P 0) t, .int (P 1) u] := by
  obtain ⟨t, e⟩ := h 0 (by decide)
  obtain ⟨u, e'⟩ := h 1 (by decide)
  obtain ⟨v, r, e1, g1⟩ := lenCons hl
  obtain ⟨v', r', e2, g2⟩ := lenCons g1
  have k : lv = [v, v'] := by rw [e1, e2, List.eq_nil_of_length_eq_zero g2]
  rw [k] at e e'
  have f : v = .int (P 0) t := Option.some.inj e
  have f' : v' = .int (P 1) u := Option.some.inj e'
  exact ⟨t, u, by rw [k, f, f']⟩
theorem int1 {a : Int} {t : Tok} : IntsV [.int a t] [a] := IntsV.cons IntsV.nil
theorem int2 {a b : Int} {t u : Tok} : IntsV [.int a t, .int b u] [a, b] := IntsV.cons (IntsV.cons IntsV.nil)

set_option maxHeartbeats 4000000 in
theorem c_divpos (hA : Rm 11 A) (X : (hd.heap_1 w.params).In (hideAll s.heap [51, 58])) (T : Top p loose mean mg mb (hideAll s.heap [51, 58])) (C1 : CodeHd (hideAll s.heap [51, 58]) 55 51) (C8 : CodeHd (hideAll s.heap [51, 58]) 62 58) {ps1 ps8 : Array Value} (hP1 : s.heap.get? 51 = some (tabObj ps1)) (hP8 : s.heap.get? 58 = some (tabObj ps8))
    (S1 : TabSt (hideAll s.heap [51, 58]) 77 4 (Str.ofString "_int2digits.<locals>.inner") ps1) (S8 : TabSt (hideAll s.heap [51, 58]) 92 4 (Str.ofString "_digits2int.<locals>.inner") ps8) (hne : ps8 ≠ #[])
    {a b : Int} {n : Nat} {ta tb : Tok} (ha : 0 < a) (hb0 : 2 ^ (n - 1) ≤ b) (hb1 : b < 2 ^ n) (hn0 : 0 < n) (hn6 : n ≤ 64000) (ha2 : a < 2 ^ (2 * n))
    (ret : ∀ l t1 t2 h' tk' ps1', (∀ x o, x ≠ 51 → s.heap.get? x = some o → h'.get? x = some o) → h'.get? 51 = some (tabObj ps1') → TabSt h' 77 4 (Str.ofString "_int2digits.<locals>.inner") ps1' → ((ps1 = #[] ∧ ∃ c' : Nat, ps1' = #[rawInt 77, rawInt 4, .ref c'] ∧ s.heap.objs.size ≤ c') ∨ ps1' = ps1) → s.heap.objs.size ≤ l →
      h'.get? l = some { cls := .type "tuple", data := .seq #[.int (a / b) t1, .int (a % b) t2] } → Q (.ref l) { s with heap := h', toks := tk' }) :
    wpAny (model PySem.Challenge.rw_tl0018_01.row.prog w) A (call (.ref 70) [.int a ta, .int b tb]) Q E s := by
  have hbl : Builtin.Int.intBits b = n := bitsEq hn0 hb0 hb1
  have hbp : 0 < b := Int.lt_of_lt_of_le (pow2_pos _) hb0
  have n51 : ∀ l ∈ [51], (hideAll s.heap [51, 58]).get? l = none := fun l hl => by rw [List.mem_singleton.mp hl]; exact hideAll_none _ (.head _)
  have n58 : ∀ l ∈ [58], (hideAll s.heap [51, 58]).get? l = none := fun l hl => by rw [List.mem_singleton.mp hl]; exact hideAll_none _ (.tail _ (.head _))
  have hT : (n : Int).toNat = n := Int.toNat_natCast n
  have hpn := pow2_pos n
  have z0 : (0 : Int) * 2 ^ (n : Int).toNat = 0 := Int.zero_mul _
  have s0 : (Builtin.Int.intBits 0 : Int) + n ≤ 2 ^ 27 := by
    have : Builtin.Int.intBits 0 = 0 := by decide
    walk_at "OM"
  obtain ⟨hdl, dp, fr, gd, un⟩ := A
  obtain rfl : hdl = none := hA.1
  revert X; k_fill; intro X
  refine' enterK (binds := [(Str.ofString "a", .int a ta), (Str.ofString "b", .int b tb)]) (X.keeps fun b o e => of_hideAll _ e) (T.keeps fun b o e => of_hideAll _ e) ?k6 ?k7 ?k8 ?k9 ?kB ?c2 ?c3 ?c4 ?c5 ?_
  (case k6 => k_is); (case k7 => k_is); (case k8 => exact Rm.room (by assumption)); (case k9 => exact BindsTo.of_eq rfl); (case c5 => decide); (case kB => exact locs rfl); (case c2 => exact rfl); (case c3 => exact rfl); (case c4 => exact rfl)
  k_whole
  intro L' h' F' N'
  (try dsimp only [List.length_cons, List.length_nil])
  (try k_fold)
  have l51 : @LT.lt Nat _ 51 L' := Nat.lt_of_lt_of_le (Heap.lt_size hP1) F'.above
  have l58 : @LT.lt Nat _ 58 L' := Nat.lt_of_lt_of_le (Heap.lt_size hP8) F'.above
  have F1 := hideFr (ls := [51, 58]) F'
  have N1 : News (hideAll s.heap [51, 58]) L' h' [(51, tabObj ps1), (58, tabObj ps8)] := newsCons (F'.keep _ _ hP1) (neA (by walk_at "NEQ")) (hideAll_none _ (.head _)) (newsCons (F'.keep _ _ hP8) (neA (by walk_at "NEQ")) (hideAll_none _ (.tail _ (.head _))) News.nil)
  clear F' N'
  subst hbl
  walk_at "GO"
  rename Fr _ _ _ _ => F9
  rename News _ _ _ _ => N9
  refine Stop.mk ?_
  have hbits : Builtin.Int.intBits a ≤ 2 * Builtin.Int.intBits b := natBits (Int.le_of_lt ha) ha2
  have hba : 0 < Builtin.Int.intBits a := by
    rcases Nat.eq_zero_or_pos (Builtin.Int.intBits a) with e | e
    · have := bitsGe (k := 0) (Int.le_of_lt ha) (by walk_at "OM")
      simp at this; walk_at "OM"
    · exact e
  have call1 : ∀ (k : Nat) (A' : Around) (s' : Shared) (Q' E' : Value → Shared → Prop) (t1 t2 : Tok) (m : Str → Option Value), Rm 9 A' → k ≤ 2 → ((Builtin.Int.intBits a : Int) + (Builtin.Int.intBits b : Int) - 1).fdiv (Builtin.Int.intBits b : Int) = (k : Int) →
      Fr (hideAll s.heap [51, 58]) L' s'.heap m → News (hideAll s.heap [51, 58]) L' s'.heap [(51, tabObj ps1), (58, tabObj ps8)] →
      (∀ l lv nn h' tk' ps1' z oz, Fr (hideAll s.heap [51, 58]) L' h' m → News (hideAll s.heap [51, 58]) L' h' [(l, lstObj lv nn), (z, oz), (51, tabObj ps1'), (58, tabObj ps8)] → (∀ g : Heap, (∀ x o, (hideAll s.heap [51, 58]).get? x = some o → g.get? x = some o) → g.get? z = some oz → TabSt g 77 4 (Str.ofString "_int2digits.<locals>.inner") ps1') →
        ((ps1 = #[] ∧ ∃ c' : Nat, ps1' = #[rawInt 77, rawInt 4, .ref c'] ∧ s.heap.objs.size ≤ c') ∨ ps1' = ps1) → s.heap.objs.size ≤ l → (∀ p ∈ [((51 : Addr), tabObj ps1), (58, tabObj ps8)], @LT.lt Nat _ p.1 l) → @LT.lt Nat _ L' l → z ≠ l → lv.length = k → (∀ i, i < k → ∃ t, lv[i]? = some (.int (a / 2 ^ (i * Builtin.Int.intBits b) % 2 ^ Builtin.Int.intBits b) t)) → Q' (.ref l) { s' with heap := h', toks := tk' }) →
      wpAny (model PySem.Challenge.rw_tl0018_01.row.prog w) A' (call (.ref 56) [.int a t1, .int (Builtin.Int.intBits b : Int) t2]) Q' E' s' := by
    intro k A' s' Q' E' t1 t2 m hA' hk2 hk F N ret'
    have hkn : k * Builtin.Int.intBits b ≤ 2 * Builtin.Int.intBits b := Nat.mul_le_mul_right _ hk2
    have e18 : (2 : Nat) ^ 18 = 262144 := by decide
    refine c_i2d (k := k) hA' (hideIn X F n51) (hideTop T F n51) (C1.keeps fun x o e => hideAll_get _ (F.keep _ _ e) fun q => by rw [n51 _ q] at e; cases e) (N _ (.head _)).1 (S1.keeps fun x o _ _ e _ _ => hideAll_get _ (F.keep _ _ e) fun q => by rw [n51 _ q] at e; cases e) ha hk hn0 (by walk_at "OM") (by walk_at "OM") (by walk_at "OM") ?_
    intro l lv nn h' tk' ps1' K e51 S' G hl el hlen hdig
    have hLl : @LT.lt Nat _ L' l := Nat.lt_of_lt_of_le F.ns.lt hl
    have z1 : @LT.lt Nat _ 51 s'.heap.objs.size := Heap.lt_size (N _ (.head _)).1
    have z8 : @LT.lt Nat _ 58 s'.heap.objs.size := Heap.lt_size (N _ (.tail _ (.head _))).1
    have F' := frBut F (neA (by walk_at "NEQ")) (n51 _ (.head _)) K
    have e8 := K 58 (tabObj ps8) (neA (by decide)) (N _ (.tail _ (.head _))).1
    have hsz := frSize F
    rw [hideAll_size] at hsz
    have N' : News (hideAll s.heap [51, 58]) L' h' [(51, tabObj ps1'), (58, tabObj ps8)] := newsCons e51 (neA (by walk_at "NEQ")) (n51 _ (.head _)) (newsCons e8 (neA (by walk_at "NEQ")) (n58 _ (.head _)) News.nil)
    have Nl : ∀ (z : Addr) (oz : Obj), h'.get? z = some oz → z ≠ L' → (hideAll s.heap [51, 58]).get? z = none → News (hideAll s.heap [51, 58]) L' h' [(l, lstObj lv nn), (z, oz), (51, tabObj ps1'), (58, tabObj ps8)] := fun z oz a1 a2 a3 => newsCons el (neA (by walk_at "NEQ")) (fresh_ge F hLl) (newsCons a1 a2 a3 N')
    have hG : (ps1 = #[] ∧ ∃ c' : Nat, ps1' = #[rawInt 77, rawInt 4, .ref c'] ∧ s.heap.objs.size ≤ c') ∨ ps1' = ps1 := by
      rcases G with ⟨g1, c', g2, g3⟩ | g
      · exact Or.inl ⟨g1, c', g2, Nat.le_trans hsz g3⟩
      · exact Or.inr g
    have hp : ∀ p ∈ [((51 : Addr), tabObj ps1), (58, tabObj ps8)], @LT.lt Nat _ p.1 l := by
      intro p hp
      rcases List.mem_cons.mp hp with rfl | hp
      · exact Nat.lt_of_lt_of_le z1 hl
      · rw [List.mem_singleton.mp hp]; exact Nat.lt_of_lt_of_le z8 hl
    by_cases hold : TabSt (hideAll s.heap [51, 58]) 77 4 (Str.ofString "_int2digits.<locals>.inner") ps1'
    · exact ret' l lv nn h' tk' ps1' 51 _ F' (Nl _ _ e51 (neA (by walk_at "NEQ")) (n51 _ (.head _))) (fun g k1 _ => hold.keeps fun b o _ _ e _ _ => k1 b o e) hG (Nat.le_trans hsz hl) hp hLl (neA (by walk_at "NEQ")) hlen hdig
    · rcases id S' with e | ⟨c', rfl, b0, oc, vs, t, e1, e2, e3, e4⟩
      · exact absurd (Or.inl e) hold
      · cases e1
        have hL : c' ≠ L' := by
          rintro rfl
          obtain ⟨o, es, ep, eo, hd, -⟩ := F'.ns
          rw [eo] at e2; cases e2
          rw [hd] at e3; cases e3
        have hn : (hideAll s.heap [51, 58]).get? c' = none := by
          cases q : (hideAll s.heap [51, 58]).get? c' with
          | none => rfl
          | some o =>
            have := F'.keep _ _ q
            rw [this] at e2; cases e2
            exact absurd (Or.inr ⟨c', rfl, c', _, vs, t, rfl, q, e3, e4⟩) hold
        have hcl : c' ≠ l := by
          rintro rfl
          rw [el] at e2; cases e2; cases e3
        exact ret' l lv nn h' tk' _ c' oc F' (Nl _ _ e2 hL hn) (fun g _ k2 => Or.inr ⟨c', rfl, c', oc, vs, t, rfl, k2, e3, e4⟩) hG (Nat.le_trans hsz hl) hp hLl hcl hlen hdig
  have nI : (0 : Int) < (Builtin.Int.intBits b : Int) := by walk_at "OM"
  by_cases h1 : Builtin.Int.intBits a ≤ Builtin.Int.intBits b
  · refine call1 1 _ _ _ _ _ _ _ (Rm.deep hA (by decide)) (by decide) ?_ F9 N9 ?_
    · rw [Int.fdiv_eq_ediv_of_nonneg _ (by walk_at "OM")]
      exact (ediv_uniq (r := (Builtin.Int.intBits a : Int) - 1) (by walk_at "OM") (by walk_at "OM") (by walk_at "OM")).1.symm
    intro l lv nn h9 tk9 ps1' z oz F8 N8 S8' G hl hp hLl hzl hlen hdig
    have hal : a < 2 ^ Builtin.Int.intBits b := bitsGe (Int.le_of_lt ha) h1
    have hd0 : a / 2 ^ (0 * Builtin.Int.intBits b) % 2 ^ Builtin.Int.intBits b = a := by rw [Nat.zero_mul, Int.pow_zero, Int.ediv_one, Int.emod_eq_of_lt (Int.le_of_lt ha) hal]
    obtain ⟨t0, rfl⟩ := list1 hlen hdig
    rw [hd0] at N8
    clear F9 N9 call1 hdig hlen
    (try dsimp only)
    (try k_fold)
    walk_at "GO"
    have lo1 : 0 ≤ 0 + a := by walk_at "OM"
    have hi1 : 0 + a < 2 ^ Builtin.Int.intBits b * b := by
      have : 2 ^ Builtin.Int.intBits b * 1 ≤ 2 ^ Builtin.Int.intBits b * b := Int.mul_le_mul_of_nonneg_left (by walk_at "OM") (by walk_at "OM")
      walk_at "OM"
    obtain ⟨q0, hqq0⟩ : ∃ q, (0 + a) / b = q := ⟨_, rfl⟩
    obtain ⟨r0, hrq0⟩ : ∃ q, (0 + a) % b = q := ⟨_, rfl⟩
    rename Fr _ _ _ _ => F9
    rename News _ _ _ _ => N9
    refine Stop.mk ?_
    refine D21_all (Rm.deep hA (by decide)) (X.keeps F9.keep) (T.keeps F9.keep) hn6 hn0 hb0 hb1 lo1 hi1 ?_
    intro l9 t1 t2 h9 tk9 K9 s9 e9
    rw [hqq0, hrq0] at e9
    (try dsimp only at s9)
    have l1 := newsLt N9 s9
    (k_lt l1)
    have N8 := newsNew F9 N9 K9 s9 e9
    have F8 := frKp F9 K9
    clear N9 F9 K9 e9 s9
    (try dsimp only)
    (try k_fold)
    walk_at "GO"
    rename Fr _ _ _ _ => F9
    rename News _ _ _ _ => N9
    have F7 : Fr (hideAll s.heap [51, 58]) L' _ _ := F9
    have N7 : News (hideAll s.heap [51, 58]) L' _ _ := N9
    refine Stop.mk ?_
    have e18 : (2 : Nat) ^ 18 = 262144 := by decide
    have e20 : (2 : Nat) ^ 20 = 1048576 := by decide
    have hbd : ∀ x ∈ [q0], 0 ≤ x ∧ x < 2 ^ Builtin.Int.intBits b := by
      intro x hx
      rw [List.mem_singleton.mp hx, ← hqq0]
      exact ⟨Int.ediv_nonneg lo1 (by walk_at "OM"), Int.ediv_lt_of_lt_mul hbp hi1⟩
    refine c_d2i_hit (k := 1) (vs := [.int q0 _]) (Rm.deep hA (by decide)) (hideIn X F7 n58) (hideTop T F7 n58) (C8.keeps fun x o e => hideAll_get _ (F7.keep _ _ e) fun q => by rw [n58 _ q] at e; cases e) (ps := ps8) (N7 (58, tabObj ps8) (by k_mem)).1 (S8.keeps fun x o _ _ e _ _ => hideAll_get _ (F7.keep _ _ e) fun q => by rw [n58 _ q] at e; cases e) hne (News.isList N7 (by k_mem)) int1 (by simp only [List.length_cons, List.length_nil]; walk_at "OM") rfl (by simp only [List.length_cons, List.length_nil]; walk_at "OM") hn0 (by decide) (by walk_at "OM") (by walk_at "OM") (d2i_hbnd hbd (by simp only [List.length_cons, List.length_nil]; walk_at "OM")) ?_
    intro t9 h9 tk9 K9
    have N8 := newsKp N7 K9
    have F8 := frKp F7 K9
    clear N9 F9 N7 F7 K9
    (try dsimp only)
    (try k_fold)
    walk_at "GO"
    rename Fr _ _ _ _ => F9
    rename News _ _ _ _ => N9
    rename @LE.le Nat _ (hideAll s.heap [51, 58]).objs.size _ => l9
    have e9 := (N9 _ (.head _)).1
    (try dsimp only at e9)
    have hfin : d2iV (Builtin.Int.intBits b) [q0] = a / b ∧ r0 = a % b := by
      rw [← hqq0, ← hrq0, Int.zero_add]
      exact ⟨by simp [d2iV], rfl⟩
    rw [hfin.1, hfin.2] at e9
    rw [hideAll_size] at l9
    refine ret _ _ _ _ _ _ (fun x o hx e => ?_) (N9 (51, tabObj ps1') (by k_mem)).1 (S8' _ F9.keep (N9 (z, oz) (by k_mem)).1) G l9 e9
    by_cases h58 : x = 58
    · subst h58
      rw [hP8] at e; cases e
      exact (N9 (58, tabObj ps8) (by k_mem)).1
    · exact F9.keep _ _ (hideAll_get _ e fun q => by
        rcases List.mem_cons.mp q with q | q
        · exact hx q
        · exact h58 (List.mem_singleton.mp q))

  · refine call1 2 _ _ _ _ _ _ _ (Rm.deep hA (by decide)) (by decide) ?_ F9 N9 ?_
    · rw [Int.fdiv_eq_ediv_of_nonneg _ (by walk_at "OM")]
      exact (ediv_uniq (r := (Builtin.Int.intBits a : Int) - 1 - (Builtin.Int.intBits b : Int)) (by walk_at "OM") (by walk_at "OM") (by walk_at "OM")).1.symm
    intro l lv nn h9 tk9 ps1' z oz F8 N8 S8' G hl hp hLl hzl hlen hdig
    obtain ⟨t0, t1, rfl⟩ := list2 hlen hdig
    obtain ⟨d0, hd0⟩ : ∃ d, a / 2 ^ (0 * Builtin.Int.intBits b) % 2 ^ Builtin.Int.intBits b = d := ⟨_, rfl⟩
    obtain ⟨d1, hd1⟩ : ∃ d, a / 2 ^ (1 * Builtin.Int.intBits b) % 2 ^ Builtin.Int.intBits b = d := ⟨_, rfl⟩
    rw [hd0, hd1] at N8
    clear F9 N9 call1 hdig hlen
    rw [Nat.zero_mul, Int.pow_zero, Int.ediv_one] at hd0
    rw [Nat.one_mul] at hd1
    have x0 : 0 ≤ d0 ∧ d0 < 2 ^ Builtin.Int.intBits b := ⟨hd0 ▸ Int.emod_nonneg _ (by walk_at "OM"), hd0 ▸ Int.emod_lt_of_pos _ hpn⟩
    have x1 : 0 ≤ d1 ∧ d1 < 2 ^ Builtin.Int.intBits b := ⟨hd1 ▸ Int.emod_nonneg _ (by walk_at "OM"), hd1 ▸ Int.emod_lt_of_pos _ hpn⟩
    have xa : a = d1 * 2 ^ Builtin.Int.intBits b + d0 := by
      have w1 : a / 2 ^ Builtin.Int.intBits b < 2 ^ Builtin.Int.intBits b := Int.ediv_lt_of_lt_mul hpn (by rw [← Int.pow_add, ← Nat.two_mul]; exact ha2)
      have w2 : 0 ≤ a / 2 ^ Builtin.Int.intBits b := Int.ediv_nonneg (Int.le_of_lt ha) (by walk_at "OM")
      rw [Int.emod_eq_of_lt w2 w1] at hd1
      have := Int.mul_ediv_add_emod a (2 ^ Builtin.Int.intBits b)
      rw [hd0, hd1, Int.mul_comm] at this
      exact this.symm
    (try dsimp only)
    (try k_fold)
    walk_at "GO"
    have lo1 : 0 ≤ 0 + d1 := by walk_at "OM"
    have hi1 : 0 + d1 < 2 ^ Builtin.Int.intBits b * b := by
      have : 2 ^ Builtin.Int.intBits b * 1 ≤ 2 ^ Builtin.Int.intBits b * b := Int.mul_le_mul_of_nonneg_left (by walk_at "OM") (by walk_at "OM")
      walk_at "OM"
    have rr0 : 0 ≤ (0 + d1) % b := Int.emod_nonneg _ (by walk_at "OM")
    have rr1 : (0 + d1) % b < b := Int.emod_lt_of_pos _ hbp
    obtain ⟨V, hV⟩ : ∃ V, ((0 + d1) % b) * 2 ^ (Builtin.Int.intBits b : Int).toNat = V := ⟨_, rfl⟩
    have sV : (Builtin.Int.intBits ((0 + d1) % b) : Int) + (Builtin.Int.intBits b : Int) ≤ 2 ^ 27 := by
      have := natBits rr0 (Int.lt_trans rr1 hb1)
      have e27 : (2 : Int) ^ 27 = 134217728 := by decide
      walk_at "OM"
    have lo2 : 0 ≤ V + d0 := by
      have : 0 ≤ ((0 + d1) % b) * 2 ^ (Builtin.Int.intBits b : Int).toNat := by rw [hT]; exact Int.mul_nonneg rr0 (by walk_at "OM")
      walk_at "OM"
    have hi2 : V + d0 < 2 ^ Builtin.Int.intBits b * b := by
      rw [← hV, hT]
      have : ((0 + d1) % b + 1) * 2 ^ Builtin.Int.intBits b ≤ b * 2 ^ Builtin.Int.intBits b := Int.mul_le_mul_of_nonneg_right (by walk_at "OM") (by walk_at "OM")
      rw [Int.add_mul, Int.one_mul, Int.mul_comm b] at this
      walk_at "OM"
    obtain ⟨q1, hqq1⟩ : ∃ q, (0 + d1) / b = q := ⟨_, rfl⟩
    obtain ⟨r1, hrq1⟩ : ∃ q, (0 + d1) % b = q := ⟨_, rfl⟩
    rw [hrq1] at hV sV
    rename Fr _ _ _ _ => F9
    rename News _ _ _ _ => N9
    refine Stop.mk ?_
    refine D21_all (Rm.deep hA (by decide)) (X.keeps F9.keep) (T.keeps F9.keep) hn6 hn0 hb0 hb1 lo1 hi1 ?_
    intro l9 t1 t2 h9 tk9 K9 s9 e9
    rw [hqq1, hrq1] at e9
    (try dsimp only at s9)
    have l1 := newsLt N9 s9
    (k_lt l1)
    have N8 := newsNew F9 N9 K9 s9 e9
    have F8 := frKp F9 K9
    clear N9 F9 K9 e9 s9
    (try dsimp only)
    (try k_fold)
    walk_at "GO"
    obtain ⟨q0, hqq0⟩ : ∃ q, (V + d0) / b = q := ⟨_, rfl⟩
    obtain ⟨r0, hrq0⟩ : ∃ q, (V + d0) % b = q := ⟨_, rfl⟩
    rename Fr _ _ _ _ => F9
    rename News _ _ _ _ => N9
    refine Stop.mk ?_
    refine D21_all (Rm.deep hA (by decide)) (X.keeps F9.keep) (T.keeps F9.keep) hn6 hn0 hb0 hb1 lo2 hi2 ?_
    intro l9 t1 t2 h9 tk9 K9 s9 e9
    rw [hqq0, hrq0] at e9
    (try dsimp only at s9)
    have l1 := newsLt N9 s9
    (k_lt l1)
    have N8 := newsNew F9 N9 K9 s9 e9
    have F8 := frKp F9 K9
    clear N9 F9 K9 e9 s9
    (try dsimp only)
    (try k_fold)
    walk_at "GO"
    rename Fr _ _ _ _ => F9
    rename News _ _ _ _ => N9
    have F7 : Fr (hideAll s.heap [51, 58]) L' _ _ := F9
    have N7 : News (hideAll s.heap [51, 58]) L' _ _ := N9
    refine Stop.mk ?_
    have e18 : (2 : Nat) ^ 18 = 262144 := by decide
    have e20 : (2 : Nat) ^ 20 = 1048576 := by decide
    have hbd : ∀ x ∈ [q0, q1], 0 ≤ x ∧ x < 2 ^ Builtin.Int.intBits b := by
      intro x hx
      rcases List.mem_cons.mp hx with rfl | hx
      · rw [← hqq0]
        exact ⟨Int.ediv_nonneg lo2 (by walk_at "OM"), Int.ediv_lt_of_lt_mul hbp hi2⟩
      · rw [List.mem_singleton.mp hx, ← hqq1]
        exact ⟨Int.ediv_nonneg lo1 (by walk_at "OM"), Int.ediv_lt_of_lt_mul hbp hi1⟩
    refine c_d2i_hit (k := 2) (vs := [.int q0 _, .int q1 _]) (Rm.deep hA (by decide)) (hideIn X F7 n58) (hideTop T F7 n58) (C8.keeps fun x o e => hideAll_get _ (F7.keep _ _ e) fun q => by rw [n58 _ q] at e; cases e) (ps := ps8) (N7 (58, tabObj ps8) (by k_mem)).1 (S8.keeps fun x o _ _ e _ _ => hideAll_get _ (F7.keep _ _ e) fun q => by rw [n58 _ q] at e; cases e) hne (News.isList N7 (by k_mem)) int2 (by simp only [List.length_cons, List.length_nil]; walk_at "OM") rfl (by simp only [List.length_cons, List.length_nil]; walk_at "OM") hn0 (by decide) (by walk_at "OM") (by walk_at "OM") (d2i_hbnd hbd (by simp only [List.length_cons, List.length_nil]; walk_at "OM")) ?_
    intro t9 h9 tk9 K9
    have N8 := newsKp N7 K9
    have F8 := frKp F7 K9
    clear N9 F9 N7 F7 K9
    (try dsimp only)
    (try k_fold)
    walk_at "GO"
    rename Fr _ _ _ _ => F9
    rename News _ _ _ _ => N9
    rename @LE.le Nat _ (hideAll s.heap [51, 58]).objs.size _ => l9
    have e9 := (N9 _ (.head _)).1
    (try dsimp only at e9)
    have hfin : d2iV (Builtin.Int.intBits b) [q0, q1] = a / b ∧ r0 = a % b := by
      have w1 := Int.mul_ediv_add_emod (0 + d1) b
      have w2 := Int.mul_ediv_add_emod (V + d0) b
      have w3 : 0 ≤ (V + d0) % b := Int.emod_nonneg _ (by walk_at "OM")
      have w4 : (V + d0) % b < b := Int.emod_lt_of_pos _ hbp
      rw [hqq1, hrq1] at w1
      rw [hqq0] at w2
      rw [hrq0] at w2 w3 w4
      rw [hT] at hV
      refine ediv_uniq ?_ w3 w4
      show a = (q0 + (q1 + 0 * 2 ^ Builtin.Int.intBits b) * 2 ^ Builtin.Int.intBits b) * b + r0
      rw [xa]
      generalize (2 : Int) ^ Builtin.Int.intBits b = P at *
      grind
    rw [hfin.1, hfin.2] at e9
    rw [hideAll_size] at l9
    refine ret _ _ _ _ _ _ (fun x o hx e => ?_) (N9 (51, tabObj ps1') (by k_mem)).1 (S8' _ F9.keep (N9 (z, oz) (by k_mem)).1) G l9 e9
    by_cases h58 : x = 58
    · subst h58
      rw [hP8] at e; cases e
      exact (N9 (58, tabObj ps8) (by k_mem)).1
    · exact F9.keep _ _ (hideAll_get _ e fun q => by
        rcases List.mem_cons.mp q with q | q
        · exact hx q
        · exact h58 (List.mem_singleton.mp q))
end
theorem tabRet {s : Shared} {h h' : Heap} {L : Addr} {m : Str → Option Value} {ps1 ps8 ps1' : Array Value} {q : Str} {l : Addr} {o : Obj} (F : Fr (hideAll s.heap [51, 58]) L h m) (N : News (hideAll s.heap [51, 58]) L h [(51, tabObj ps1), (58, tabObj ps8)])
    (K : ∀ b o, b ≠ 51 → h.get? b = some o → h'.get? b = some o) (e51 : h'.get? 51 = some (tabObj ps1')) (S' : TabSt h' 77 4 q ps1') (hl : h.objs.size ≤ l) (el : h'.get? l = some o) (ho : ∀ vs, o.data ≠ .fields vs) :
    ∃ z oz, Fr (hideAll s.heap [51, 58]) L h' m ∧ News (hideAll s.heap [51, 58]) L h' [(l, o), (z, oz), (51, tabObj ps1'), (58, tabObj ps8)] ∧ (∀ g : Heap, (∀ x o, (hideAll s.heap [51, 58]).get? x = some o → g.get? x = some o) → g.get? z = some oz → TabSt g 77 4 q ps1') ∧ z ≠ l ∧ @LT.lt Nat _ 51 l ∧ @LT.lt Nat _ 58 l ∧ s.heap.objs.size ≤ l := by
  have hLl : @LT.lt Nat _ L l := Nat.lt_of_lt_of_le F.ns.lt hl
  have z1 : @LT.lt Nat _ 51 h.objs.size := Heap.lt_size (N _ (.head _)).1
  have z8 : @LT.lt Nat _ 58 h.objs.size := Heap.lt_size (N _ (.tail _ (.head _))).1
  have n51 : (hideAll s.heap [51, 58]).get? 51 = none := hideAll_none _ (.head _)
  have n58 : (hideAll s.heap [51, 58]).get? 58 = none := hideAll_none _ (.tail _ (.head _))
  have nL1 : @Ne Addr 51 L := (N _ (.head _)).2.1
  have nL8 : @Ne Addr 58 L := (N _ (.tail _ (.head _))).2.1
  have F' := frBut F nL1 n51 K
  have e8 := K 58 (tabObj ps8) (neA (by decide)) (N _ (.tail _ (.head _))).1
  have hsz := frSize F
  rw [hideAll_size] at hsz
  have N' : News (hideAll s.heap [51, 58]) L h' [(51, tabObj ps1'), (58, tabObj ps8)] := newsCons e51 nL1 n51 (newsCons e8 nL8 n58 News.nil)
  have Nl : ∀ (z : Addr) (oz : Obj), h'.get? z = some oz → z ≠ L → (hideAll s.heap [51, 58]).get? z = none → News (hideAll s.heap [51, 58]) L h' [(l, o), (z, oz), (51, tabObj ps1'), (58, tabObj ps8)] := fun z oz a1 a2 a3 => newsCons el (neA (by walk_at "NEQ")) (fresh_ge F hLl) (newsCons a1 a2 a3 N')
  have r1 : @LT.lt Nat _ 51 l := Nat.lt_of_lt_of_le z1 hl
  have r2 : @LT.lt Nat _ 58 l := Nat.lt_of_lt_of_le z8 hl
  by_cases hold : TabSt (hideAll s.heap [51, 58]) 77 4 q ps1'
  · exact ⟨51, _, F', Nl _ _ e51 nL1 n51, fun g k1 _ => hold.keeps fun b o _ _ e _ _ => k1 b o e, neA (by walk_at "NEQ"), r1, r2, Nat.le_trans hsz hl⟩
  · rcases id S' with e | ⟨c', rfl, b0, oc, vs, t, e1, e2, e3, e4⟩
    · exact absurd (Or.inl e) hold
    · cases e1
      have hL : c' ≠ L := by
        rintro rfl
        obtain ⟨o, es, ep, eo, hd, -⟩ := F'.ns
        rw [eo] at e2; cases e2
        rw [hd] at e3; cases e3
      have hn : (hideAll s.heap [51, 58]).get? c' = none := by
        cases q' : (hideAll s.heap [51, 58]).get? c' with
        | none => rfl
        | some o =>
          have := F'.keep _ _ q'
          rw [this] at e2; cases e2
          exact absurd (Or.inr ⟨c', rfl, c', _, vs, t, rfl, q', e3, e4⟩) hold
      have hcl : c' ≠ l := by
        rintro rfl
        rw [el] at e2; cases e2; exact ho _ e3
      exact ⟨c', oc, F', Nl _ _ e2 hL hn, fun g _ k2 => Or.inr ⟨c', rfl, c', oc, vs, t, rfl, k2, e3, e4⟩, hcl, r1, r2, Nat.le_trans hsz hl⟩
section
variable {w : World} {p : Program} {loose : List Str} {mean : ExcName → Option Value} {mg mb : Str → Option Value}
noncomputable def IDM (w : World) (p : Program) (loose : List Str) (mean : ExcName → Option Value) (mg mb : Str → Option Value) (f : Addr) (r : Nat) (a b x y : Int) : Prop := ∀ {A : Around} {s : Shared} {Q E : Value → Shared → Prop} {ps1 ps8 : Array Value} {ta tb : Tok},
  Rm r A → (hd.heap_1 w.params).In (hideAll s.heap [51, 58]) → Top p loose mean mg mb (hideAll s.heap [51, 58]) → CodeHd (hideAll s.heap [51, 58]) 55 51 → CodeHd (hideAll s.heap [51, 58]) 62 58 → s.heap.get? 51 = some (tabObj ps1) → s.heap.get? 58 = some (tabObj ps8) →
  TabSt (hideAll s.heap [51, 58]) 77 4 (Str.ofString "_int2digits.<locals>.inner") ps1 → TabSt (hideAll s.heap [51, 58]) 92 4 (Str.ofString "_digits2int.<locals>.inner") ps8 → ps8 ≠ #[] →
  (∀ l t1 t2 h' tk' ps1', (∀ x o, x ≠ 51 → s.heap.get? x = some o → h'.get? x = some o) → h'.get? 51 = some (tabObj ps1') → TabSt h' 77 4 (Str.ofString "_int2digits.<locals>.inner") ps1' → ((ps1 = #[] ∧ ∃ c' : Nat, ps1' = #[rawInt 77, rawInt 4, .ref c'] ∧ s.heap.objs.size ≤ c') ∨ ps1' = ps1) → s.heap.objs.size ≤ l →
      h'.get? l = some { cls := .type "tuple", data := .seq #[.int x t1, .int y t2] } → Q (.ref l) { s with heap := h', toks := tk' }) →
  wpAny (model PySem.Challenge.rw_tl0018_01.row.prog w) A (call (.ref f) [.int a ta, .int b tb]) Q E s
theorem divpos_IDM {a b : Int} {n : Nat} (ha : 0 < a) (hb0 : 2 ^ (n - 1) ≤ b) (hb1 : b < 2 ^ n) (hn0 : 0 < n) (hn6 : n ≤ 64000) (ha2 : a < 2 ^ (2 * n)) : IDM w p loose mean mg mb 70 11 a b (a / b) (a % b) :=
  fun hA X T C1 C8 hP1 hP8 S1 S8 hne ret => c_divpos hA X T C1 C8 hP1 hP8 S1 S8 hne ha hb0 hb1 hn0 hn6 ha2 ret

set_option maxHeartbeats 4000000 in
theorem idm_pos {a b x y : Int} {r : Nat} (ha : 0 < a) (hb : 0 < b) (IH : IDM w p loose mean mg mb 70 r a b x y) : IDM w p loose mean mg mb 77 (r + 1) a b x y := by
  intro A s Q E ps1 ps8 ta tb hA X T C1 C8 hP1 hP8 S1 S8 hne ret
  have n51 : ∀ l ∈ [51, 58], (hideAll s.heap [51, 58]).get? l = none := fun l hl => hideAll_none _ hl
  have c0 : ¬ b = 0 := by walk_at "OM"
  have c1 : ¬ b < 0 := by walk_at "OM"
  have c2 : ¬ a < 0 := by walk_at "OM"
  obtain ⟨hdl, dp, fr, gd, un⟩ := A
  obtain rfl : hdl = none := hA.1
  revert X; k_fill; intro X
  refine' enterK (binds := [(Str.ofString "a", .int a ta), (Str.ofString "b", .int b tb)]) (X.keeps fun b o e => of_hideAll _ e) (T.keeps fun b o e => of_hideAll _ e) ?k6 ?k7 ?k8 ?k9 ?kB ?c2 ?c3 ?c4 ?c5 ?_
  (case k6 => k_is); (case k7 => k_is); (case k8 => exact Rm.room (by assumption)); (case k9 => exact BindsTo.of_eq rfl); (case c5 => decide); (case kB => exact locs rfl); (case c2 => exact rfl); (case c3 => exact rfl); (case c4 => exact rfl)
  k_whole
  intro L' h' F' N'
  (try dsimp only [List.length_cons, List.length_nil])
  (try k_fold)
  have l51 : @LT.lt Nat _ 51 L' := Nat.lt_of_lt_of_le (Heap.lt_size hP1) F'.above
  have l58 : @LT.lt Nat _ 58 L' := Nat.lt_of_lt_of_le (Heap.lt_size hP8) F'.above
  have F1 := hideFr (ls := [51, 58]) F'
  have N1 : News (hideAll s.heap [51, 58]) L' h' [(51, tabObj ps1), (58, tabObj ps8)] := newsCons (F'.keep _ _ hP1) (neA (by walk_at "NEQ")) (hideAll_none _ (.head _)) (newsCons (F'.keep _ _ hP8) (neA (by walk_at "NEQ")) (hideAll_none _ (.tail _ (.head _))) News.nil)
  clear F' N'
  walk_at "GO"
  rename Fr _ _ _ _ => F9
  rename News _ _ _ _ => N9
  refine Stop.mk ?_

  have kk : ∀ x o, (hideAll s.heap [51, 58]).get? x = some o → ∀ h : Heap, (∀ b o, (hideAll s.heap [51, 58]).get? b = some o → h.get? b = some o) → (hideAll h [51, 58]).get? x = some o := fun x o e h k => hideAll_get _ (k x o e) fun q => by rw [n51 _ q] at e; cases e
  refine IH (Rm.deep hA (Nat.le_refl _)) (hideIn X F9 n51) (hideTop T F9 n51) ?_ ?_ (N9 (51, tabObj ps1) (by k_mem)).1 (N9 (58, tabObj ps8) (by k_mem)).1 ?_ ?_ hne ?_
  · exact C1.keeps fun x o e => kk x o e _ F9.keep
  · exact C8.keeps fun x o e => kk x o e _ F9.keep
  · exact S1.keeps fun x o _ _ e _ _ => kk x o e _ F9.keep
  · exact S8.keeps fun x o _ _ e _ _ => kk x o e _ F9.keep
  intro l t1 t2 h9 tk9 ps1' K9 e51 S9 G hl el
  have hsz := frSize F9
  rw [hideAll_size] at hsz
  have hG : (ps1 = #[] ∧ ∃ c' : Nat, ps1' = #[rawInt 77, rawInt 4, .ref c'] ∧ s.heap.objs.size ≤ c') ∨ ps1' = ps1 := by
    rcases G with ⟨g1, c', g2, g3⟩ | g
    · exact Or.inl ⟨g1, c', g2, Nat.le_trans hsz g3⟩
    · exact Or.inr g
  obtain ⟨z, oz, F8, N8, S8', hzl, r1, r2, r3⟩ := tabRet F9 N9 K9 e51 S9 hl el (fun vs => by intro h; cases h)
  clear F9 N9
  (try dsimp only)
  (try k_fold)
  walk_at "GO"
  rename Fr _ _ _ _ => F9
  rename News _ _ _ _ => N9
  have l9 := r3
  have e9 := (N9 _ (.head _)).1

  refine ret _ _ _ _ _ _ (fun x o hx e => ?_) (N9 (51, tabObj ps1') (by k_mem)).1 (S8' _ F9.keep (N9 (z, oz) (by k_mem)).1) hG l9 e9
  by_cases h58 : x = 58
  · subst h58
    rw [hP8] at e; cases e
    exact (N9 (58, tabObj ps8) (by k_mem)).1
  · exact F9.keep _ _ (hideAll_get _ e fun q => by
      rcases List.mem_cons.mp q with q | q
      · exact hx q
      · exact h58 (List.mem_singleton.mp q))
set_option maxHeartbeats 4000000 in
theorem idm_neg {a b x y : Int} {r : Nat} (ha : 0 < a) (hb : 0 < b) (IH : IDM w p loose mean mg mb 77 r a b x y) : IDM w p loose mean mg mb 77 (r + 1) (-a - 1) b (Builtin.bitNot x) (b + Builtin.bitNot y) := by
  intro A s Q E ps1 ps8 ta tb hA X T C1 C8 hP1 hP8 S1 S8 hne ret
  have n51 : ∀ l ∈ [51, 58], (hideAll s.heap [51, 58]).get? l = none := fun l hl => hideAll_none _ hl
  have c0 : ¬ b = 0 := by walk_at "OM"
  have c1 : ¬ b < 0 := by walk_at "OM"
  have c2 : -a - 1 < 0 := by walk_at "OM"
  obtain ⟨hdl, dp, fr, gd, un⟩ := A
  obtain rfl : hdl = none := hA.1
  revert X; k_fill; intro X
  refine' enterK (binds := [(Str.ofString "a", .int (-a - 1) ta), (Str.ofString "b", .int b tb)]) (X.keeps fun b o e => of_hideAll _ e) (T.keeps fun b o e => of_hideAll _ e) ?k6 ?k7 ?k8 ?k9 ?kB ?c2 ?c3 ?c4 ?c5 ?_
  (case k6 => k_is); (case k7 => k_is); (case k8 => exact Rm.room (by assumption)); (case k9 => exact BindsTo.of_eq rfl); (case c5 => decide); (case kB => exact locs rfl); (case c2 => exact rfl); (case c3 => exact rfl); (case c4 => exact rfl)
  k_whole
  intro L' h' F' N'
  (try dsimp only [List.length_cons, List.length_nil])
  (try k_fold)
  have l51 : @LT.lt Nat _ 51 L' := Nat.lt_of_lt_of_le (Heap.lt_size hP1) F'.above
  have l58 : @LT.lt Nat _ 58 L' := Nat.lt_of_lt_of_le (Heap.lt_size hP8) F'.above
  have F1 := hideFr (ls := [51, 58]) F'
  have N1 : News (hideAll s.heap [51, 58]) L' h' [(51, tabObj ps1), (58, tabObj ps8)] := newsCons (F'.keep _ _ hP1) (neA (by walk_at "NEQ")) (hideAll_none _ (.head _)) (newsCons (F'.keep _ _ hP8) (neA (by walk_at "NEQ")) (hideAll_none _ (.tail _ (.head _))) News.nil)
  clear F' N'
  walk_at "GO"
  rename Fr _ _ _ _ => F9
  rename News _ _ _ _ => N9
  refine Stop.mk ?_
  rw [show Builtin.bitNot (-a - 1) = a by unfold Builtin.bitNot; walk_at "OM"]
  have kk : ∀ x o, (hideAll s.heap [51, 58]).get? x = some o → ∀ h : Heap, (∀ b o, (hideAll s.heap [51, 58]).get? b = some o → h.get? b = some o) → (hideAll h [51, 58]).get? x = some o := fun x o e h k => hideAll_get _ (k x o e) fun q => by rw [n51 _ q] at e; cases e
  refine IH (Rm.deep hA (Nat.le_refl _)) (hideIn X F9 n51) (hideTop T F9 n51) ?_ ?_ (N9 (51, tabObj ps1) (by k_mem)).1 (N9 (58, tabObj ps8) (by k_mem)).1 ?_ ?_ hne ?_
  · exact C1.keeps fun x o e => kk x o e _ F9.keep
  · exact C8.keeps fun x o e => kk x o e _ F9.keep
  · exact S1.keeps fun x o _ _ e _ _ => kk x o e _ F9.keep
  · exact S8.keeps fun x o _ _ e _ _ => kk x o e _ F9.keep
  intro l t1 t2 h9 tk9 ps1' K9 e51 S9 G hl el
  have hsz := frSize F9
  rw [hideAll_size] at hsz
  have hG : (ps1 = #[] ∧ ∃ c' : Nat, ps1' = #[rawInt 77, rawInt 4, .ref c'] ∧ s.heap.objs.size ≤ c') ∨ ps1' = ps1 := by
    rcases G with ⟨g1, c', g2, g3⟩ | g
    · exact Or.inl ⟨g1, c', g2, Nat.le_trans hsz g3⟩
    · exact Or.inr g
  obtain ⟨z, oz, F8, N8, S8', hzl, r1, r2, r3⟩ := tabRet F9 N9 K9 e51 S9 hl el (fun vs => by intro h; cases h)
  clear F9 N9
  (try dsimp only)
  (try k_fold)
  walk_at "GO"
  rename Fr _ _ _ _ => F9
  rename News _ _ _ _ => N9
  rename @LE.le Nat _ (hideAll s.heap [51, 58]).objs.size _ => l9
  rw [hideAll_size] at l9
  have e9 := (N9 _ (.head _)).1
  (try dsimp only at e9)

  refine ret _ _ _ _ _ _ (fun x o hx e => ?_) (N9 (51, tabObj ps1') (by k_mem)).1 (S8' _ F9.keep (N9 (z, oz) (by k_mem)).1) hG l9 e9
  by_cases h58 : x = 58
  · subst h58
    rw [hP8] at e; cases e
    exact (N9 (58, tabObj ps8) (by k_mem)).1
  · exact F9.keep _ _ (hideAll_get _ e fun q => by
      rcases List.mem_cons.mp q with q | q
      · exact hx q
      · exact h58 (List.mem_singleton.mp q))
set_option maxHeartbeats 4000000 in
theorem idm_bneg {a b x y : Int} {r : Nat} (hb : 0 < b) (IH : IDM w p loose mean mg mb 77 r a b x y) : IDM w p loose mean mg mb 77 (r + 1) (-a) (-b) x (-y) := by
  intro A s Q E ps1 ps8 ta tb hA X T C1 C8 hP1 hP8 S1 S8 hne ret
  have n51 : ∀ l ∈ [51, 58], (hideAll s.heap [51, 58]).get? l = none := fun l hl => hideAll_none _ hl
  have c0 : ¬ -b = 0 := by walk_at "OM"
  have c1 : -b < 0 := by walk_at "OM"
  obtain ⟨hdl, dp, fr, gd, un⟩ := A
  obtain rfl : hdl = none := hA.1
  revert X; k_fill; intro X
  refine' enterK (binds := [(Str.ofString "a", .int (-a) ta), (Str.ofString "b", .int (-b) tb)]) (X.keeps fun b o e => of_hideAll _ e) (T.keeps fun b o e => of_hideAll _ e) ?k6 ?k7 ?k8 ?k9 ?kB ?c2 ?c3 ?c4 ?c5 ?_
  (case k6 => k_is); (case k7 => k_is); (case k8 => exact Rm.room (by assumption)); (case k9 => exact BindsTo.of_eq rfl); (case c5 => decide); (case kB => exact locs rfl); (case c2 => exact rfl); (case c3 => exact rfl); (case c4 => exact rfl)
  k_whole
  intro L' h' F' N'
  (try dsimp only [List.length_cons, List.length_nil])
  (try k_fold)
  have l51 : @LT.lt Nat _ 51 L' := Nat.lt_of_lt_of_le (Heap.lt_size hP1) F'.above
  have l58 : @LT.lt Nat _ 58 L' := Nat.lt_of_lt_of_le (Heap.lt_size hP8) F'.above
  have F1 := hideFr (ls := [51, 58]) F'
  have N1 : News (hideAll s.heap [51, 58]) L' h' [(51, tabObj ps1), (58, tabObj ps8)] := newsCons (F'.keep _ _ hP1) (neA (by walk_at "NEQ")) (hideAll_none _ (.head _)) (newsCons (F'.keep _ _ hP8) (neA (by walk_at "NEQ")) (hideAll_none _ (.tail _ (.head _))) News.nil)
  clear F' N'
  walk_at "GO"
  rename Fr _ _ _ _ => F9
  rename News _ _ _ _ => N9
  refine Stop.mk ?_
  rw [Int.neg_neg, Int.neg_neg]
  have kk : ∀ x o, (hideAll s.heap [51, 58]).get? x = some o → ∀ h : Heap, (∀ b o, (hideAll s.heap [51, 58]).get? b = some o → h.get? b = some o) → (hideAll h [51, 58]).get? x = some o := fun x o e h k => hideAll_get _ (k x o e) fun q => by rw [n51 _ q] at e; cases e
  refine IH (Rm.deep hA (Nat.le_refl _)) (hideIn X F9 n51) (hideTop T F9 n51) ?_ ?_ (N9 (51, tabObj ps1) (by k_mem)).1 (N9 (58, tabObj ps8) (by k_mem)).1 ?_ ?_ hne ?_
  · exact C1.keeps fun x o e => kk x o e _ F9.keep
  · exact C8.keeps fun x o e => kk x o e _ F9.keep
  · exact S1.keeps fun x o _ _ e _ _ => kk x o e _ F9.keep
  · exact S8.keeps fun x o _ _ e _ _ => kk x o e _ F9.keep
  intro l t1 t2 h9 tk9 ps1' K9 e51 S9 G hl el
  have hsz := frSize F9
  rw [hideAll_size] at hsz
  have hG : (ps1 = #[] ∧ ∃ c' : Nat, ps1' = #[rawInt 77, rawInt 4, .ref c'] ∧ s.heap.objs.size ≤ c') ∨ ps1' = ps1 := by
    rcases G with ⟨g1, c', g2, g3⟩ | g
    · exact Or.inl ⟨g1, c', g2, Nat.le_trans hsz g3⟩
    · exact Or.inr g
  obtain ⟨z, oz, F8, N8, S8', hzl, r1, r2, r3⟩ := tabRet F9 N9 K9 e51 S9 hl el (fun vs => by intro h; cases h)
  clear F9 N9
  (try dsimp only)
  (try k_fold)
  walk_at "GO"
  rename Fr _ _ _ _ => F9
  rename News _ _ _ _ => N9
  rename @LE.le Nat _ (hideAll s.heap [51, 58]).objs.size _ => l9
  rw [hideAll_size] at l9
  have e9 := (N9 _ (.head _)).1
  (try dsimp only at e9)

  refine ret _ _ _ _ _ _ (fun x o hx e => ?_) (N9 (51, tabObj ps1') (by k_mem)).1 (S8' _ F9.keep (N9 (z, oz) (by k_mem)).1) hG l9 e9
  by_cases h58 : x = 58
  · subst h58
    rw [hP8] at e; cases e
    exact (N9 (58, tabObj ps8) (by k_mem)).1
  · exact F9.keep _ _ (hideAll_get _ e fun q => by
      rcases List.mem_cons.mp q with q | q
      · exact hx q
      · exact h58 (List.mem_singleton.mp q))
end
end
inductive EnumInv (s : Shared) (e it l : Addr) (items : Array Value) (I : Addr) (G : Nat → List Value → Prop) (k : Nat) (s' : Shared) : Prop
  | mk (h' : Heap) (tk : Nat) (mc : Str → Option Value) (ys : List Value) (i : Nat) (old : Value) (q0 : s' = { s with heap := h', toks := tk }) (q1 : s.toks ≤ tk) (q2 : IsEnum h' e it ((i : Nat) : Int) old) (q3 : h'.IsListIter it l i) (q4 : h'.IsList l items) (q5 : h'.PlainList I ys.toArray) (q6 : h'.Ns (I + 1) mc) (q7 : G i ys) (q8 : ys.length ≤ i) (q9 : i ≤ items.size) (q10 : k = items.size + 1 - i) (q11 : (∀ b o, b < I → b ≠ e → b ≠ it → s.heap.get? b = some o → h'.get? b = some o)) : EnumInv s e it l items I G k s'
section
variable {prog : Program} {w : World} {A : Around} {E : Value → Shared → Prop} {s : Shared} {env : Env} {h₀ : Heap} {m₀ : Mp} {news : List (Addr × Obj)}
theorem assign_used {elt iter tgt : Expr} {ifs : List Expr} {scope : Scope} {cl : List (Str × Addr)} {pos py spos : Pos} {y : Str} {Q : Flow → Shared → Prop}
    (hsw : swapsWith (.ListComp elt [⟨tgt, iter, ifs, 0⟩] scope pos) (some (.Name y py)) spos.line env = pure true)
    (hclos : closureFor scope env = pure cl) (hkind : scope.kind = .function) (hnames : ∀ x ∈ scope.names, x.2 = .local → scope.names.lookup x.1 = some .local)
    (h : wpAny (model prog w) A (eval iter env) (fun xv s₁ => wpAny (model prog w) A (pyIter xv) (fun it s₂ => wpAny (model prog w) A (newList []) (fun acc s₃ =>
      wpAny (model prog w) A (newFunctionEnv scope env.globals cl [] env.qual none .none (some env)) (fun cenv s₄ =>
        codeAny (model prog w) A (.compStart (.ListComp elt [⟨tgt, iter, ifs, 0⟩] scope pos) 0 it acc { cenv with scope := relabel scope env }) (compPost (model prog w) A E (some (assign (.Name y py) env)) (fun _ s' => Q .next s') acc cenv.locals) s₄) E s₃) E s₂) E s₁) E s)
    (hs : ∀ x, foldedSetIterable iter env x = pure x := by intro _; rfl) :
    wpAny (model prog w) A (exec (.Assign [.Name y py] (.ListComp elt [⟨tgt, iter, ifs, 0⟩] scope pos) spos) env) Q E s := by
  rw [exec_Assign_Name_used _ _ _ _ hsw]
  refine wpAny_bind (wpAny_standAt (wpAny_bind ?_))
  show wpAny _ A (do let _ ← comprehension (.ListComp elt [⟨tgt, iter, ifs, 0⟩] scope pos) scope env _ (newList []) false (eval iter env) (some (assign (.Name y py) env))) _ _ s
  exact wpAny_bind (wpAny_mono (wpAny_comprehension_free (use := some (assign (.Name y py) env)) (Q := fun _ s' => Q .next s') rfl hs hclos hkind hnames h)
    (fun _ s' hq => wpAny_pure (wpAny_pure hq)) fun _ _ e => e)
theorem comp_enum_U {elt iter : Expr} {n1 n2 y : Str} {p1 p2 tp py : Pos} {x1} {scope : Scope} {cl : List (Str × Addr)} {pos : Pos} {L e it l : Addr} {items : Array Value} {Q : Value → Shared → Prop}
    (G : Nat → List Value → Prop)
    (hh : A.handled = none) (hLe : env.locals = L) (F : Fr h₀ L s.heap m₀) (N : News h₀ L s.heap news)
    (he : IsEnum s.heap e it 0 .none) (hit : s.heap.IsListIter it l 0) (hl : s.heap.IsList l items) (hei : e ≠ it) (hle : l ≠ e) (hli : l ≠ it) (hLx : @LT.lt Nat _ L e ∧ @LT.lt Nat _ L it) (hne : ∀ p ∈ news, p.1 ≠ e ∧ p.1 ≠ it)
    (hG0 : G 0 [])
    (turn : ∀ C i v ys h t0 t1 tk mc, items[i]? = some v → G i ys → Fr h₀ C h (upd n2 v (upd n1 (.int (i : Int) t1) mc)) → News h₀ C h news → s.toks ≤ t0 → t0 ≤ tk →
      wpAny (model prog w) A (eval elt (compEnvC scope cl C env)) (CEnd s h fun y tk' => G (i + 1) (ys ++ [y])) (fun _ _ => False) { s with heap := h, toks := tk })
    (done : ∀ D ys nD h tk, G items.size ys → s.toks ≤ tk → s.heap.objs.size ≤ D → Fr h₀ L h (upd y (.ref D) m₀) → News h₀ L h ((D, lstObj ys nD) :: news) → Q .none { s with heap := h, toks := tk })
    (hy : env.kindOf y = some .local) (hp : (env.scope.kind == .class || (env.scope.kind == .module && env.locals != env.globals)) = false)
    (hsz : items.size ≤ sizeLine := by size_fits)
    (hcell : ∀ y ∈ scope.names, y.2 ≠ .cell := by decide) (hkind : scope.kind = .function := by rfl)
    (hx1 : scope.names.lookup n1 = some .local := by rfl) (hx2 : scope.names.lookup n2 = some .local := by rfl) :
    wpAny (model prog w) A (pyIter (.ref e)) (fun it s₂ => wpAny (model prog w) A (newList []) (fun acc s₃ =>
      wpAny (model prog w) A (newFunctionEnv scope env.globals cl [] env.qual none .none (some env)) (fun cenv s₄ =>
        codeAny (model prog w) A (.compStart (.ListComp elt [⟨.Tuple [.Name n1 p1, .Name n2 p2] x1 tp, iter, [], 0⟩] scope pos) 0 it acc { cenv with scope := relabel scope env }) (compPost (model prog w) A E (some (assign (.Name y py) env)) Q acc cenv.locals) s₄) E s₃) E s₂) E s := by
  subst hLe
  have hLt : @LT.lt Nat _ env.locals s.heap.objs.size := F.ns.lt
  refine wpAny_pyIter_enum he ?_
  refine comp_start0 (fun h₁ m1 k₁ hD hC => ?_) hcell hkind
  have hes : @LT.lt Nat _ e s.heap.objs.size := Heap.lt_size he
  have hits : @LT.lt Nat _ it s.heap.objs.size := by obtain ⟨o, ho, _⟩ := id hit; exact Heap.lt_size ho
  have hls : @LT.lt Nat _ l s.heap.objs.size := by obtain ⟨o, ho, _⟩ := id hl; exact Heap.lt_size ho
  generalize hI : s.heap.objs.size = I at *
  have h0s : ∀ b o, h₀.get? b = some o → @LT.lt Nat _ b env.locals := fun b o e => Nat.lt_of_lt_of_le (Heap.lt_size e) F.above
  have h0I : h₀.get? I = none := by
    cases q : h₀.get? I with
    | none => rfl
    | some o => exact absurd (h0s _ _ q) (by walk_at "OM")
  have loop : codeAny (model prog w) A (.compLoop (.ListComp elt [⟨.Tuple [.Name n1 p1, .Name n2 p2] x1 tp, iter, [], 0⟩] scope pos) 0 (.ref e) (.ref I) (compEnvC scope cl (I + 1) env))
      (compPost (model prog w) A E (some (assign (.Name y py) env)) Q (.ref I) (I + 1)) { s with heap := h₁ } := by
    refine compLoop_gen
      (EnumInv s e it l items I G) ?_ (items.size + 1)
      ⟨h₁, s.toks, m1, [], 0, .none, rfl, Nat.le_refl _, k₁ _ _ he, hit.at fun o e => k₁ _ _ e, hl.at fun o e => k₁ _ _ e, hD, hC, hG0, Nat.le_refl _, Nat.zero_le _, rfl, fun b o _ _ _ e => k₁ b o e⟩
    rintro k s' ⟨H, tk, mc, ys, i, old, rfl, htk, he', hit', hl', hacc', hn', hG, hyl, hi, rfl, hk⟩
    obtain ⟨nD, eD⟩ := hacc'
    have hCH : @LT.lt Nat _ (I + 1) H.objs.size := hn'.lt
    cases hv : items[i]? with
    | none =>
      have hsz : i = items.size := Nat.le_antisymm hi (by simpa using hv)
      subst hsz
      refine wpAny_pyNext_enum_end hh he' hit' hl' hv fun h₂ he₂ => ?_
      have hold : ∀ b o, b < I → b ≠ e → b ≠ it → s.heap.get? b = some o → h₂.get? b = some o := fun b o hb h1 h2 e => he₂ b o h2 (hk b o hb h1 h2 e)
      have F₂ : Fr h₀ env.locals h₂ m₀ := ⟨F.ns.at' fun o x => hold _ o hLt (neA (by walk_at "NEQ")) (neA (by walk_at "NEQ")) x, fun b o x => hold b o (show @LT.lt Nat _ b I by have := h0s b o x; walk_at "OM") (neA (by have := h0s b o x; walk_at "OM")) (neA (by have := h0s b o x; walk_at "OM")) (F.keep b o x), F.above⟩
      have N₂ : News h₀ env.locals h₂ news := fun p hp => ⟨hold _ _ (show @LT.lt Nat _ p.1 I from hI ▸ Heap.lt_size (N p hp).1) (hne p hp).1 (hne p hp).2 (N p hp).1, (N p hp).2⟩
      have N₃ := newsCons (he₂ I _ (neA (by walk_at "NEQ")) eD) (neA (by walk_at "NEQ")) h0I N₂
      show wpAny _ A (assign (.Name y py) env (.ref I)) _ E _
      refine wpAny_assign_Name (wpAny_storeName_local hy F₂.ns (fun h₃ hn₃ hs₃ => ?_) hp)
      replace hs₃ : Heap.SameBut env.locals h₂ h₃ := hs₃
      have F₃ := F₂.set hn₃ hs₃
      have N₄ := N₃.set hs₃
      refine ⟨_, (hn'.at' fun o x => hs₃.extBut _ o (neA (by walk_at "NEQ")) (he₂ _ o (neA (by walk_at "NEQ")) x)), fun h₄ hs₄ => ?_⟩
      replace hs₄ : Heap.SameBut (I + 1) h₃ h₄ := hs₄
      have nC : ∀ b o, h₀.get? b = some o → b ≠ I + 1 := fun b o x => neA (by have := h0s b o x; walk_at "OM")
      have F₅ : Fr h₀ env.locals h₄ (upd y (.ref I) m₀) := ⟨F₃.ns.sameBut hs₄ (neA (by walk_at "NEQ")), fun b o x => hs₄.extBut b o (nC b o x) (F₃.keep b o x), F₃.above⟩
      refine done I ys nD h₄ _ hG (by dsimp only; walk_at "OM") (Nat.le_refl _) F₅ (fun p hp => ⟨hs₄.extBut _ _ ?_ (N₄ p hp).1, (N₄ p hp).2⟩)
      rcases List.mem_cons.mp hp with rfl | hp
      · exact neA (by show I ≠ I + 1; walk_at "OM")
      · have : @LT.lt Nat _ p.1 I := hI ▸ Heap.lt_size (N p hp).1
        exact neA (by walk_at "NEQ")
    | some v =>
      have hlt : i < items.size := (Array.getElem?_eq_some_iff.mp hv).1
      refine wpAny_pyNext_enum_item he' hit' hl' hv hei fun h₁ heo hit₁ ht₁ hz₁ hk₁ => ?_
      dsimp only at *
      refine wpAny_letOwnedTupleGo_enum heo fun h₂ he₂ hs₂ => ?_
      replace hs₂ : Heap.SameBut e h₁ h₂ := hs₂
      have heH : @LT.lt Nat _ e H.objs.size := Heap.lt_size he'
      have ht₂ : h₂.IsTuple H.objs.size #[.int i tk, v] := ⟨_, (hs₂.2 _ (Nat.ne_of_gt heH)).trans ht₁, rfl, _, rfl⟩
      have hz₂ : h₂.objs.size = H.objs.size + 1 := hs₂.1.trans hz₁
      refine wpAny_assign_Tuple hh ht₂ rfl rfl fun h₃ hx₃ => ?_
      replace hx₃ : Heap.ExtBut h₂.objs.size h₂ h₃ := hx₃
      have old₃ : ∀ b o, b < H.objs.size → h₂.get? b = some o → h₃.get? b = some o := fun b o hb x => hx₃ b o (by rw [hz₂]; exact Nat.ne_of_lt (Nat.lt_succ_of_lt hb)) x
      have kk₃ : ∀ b o, b ≠ e → b ≠ it → H.get? b = some o → h₃.get? b = some o := fun b o hbe hbi x => old₃ b o (Heap.lt_size x) (hs₂.extBut b o hbe (hk₁ b o hbe hbi x))
      have hn₃ : h₃.Ns (I + 1) mc := hn'.at' fun o x => kk₃ _ o (neA (by walk_at "NEQ")) (neA (by walk_at "NEQ")) x
      have he₃ : IsEnum h₃ e it ((i + 1 : Nat) : Int) v := by
        have : ((i + 1 : Nat) : Int) = (i : Int) + 1 := by push_cast; rfl
        rw [this]; exact old₃ e _ heH he₂
      have hitH : @LT.lt Nat _ it H.objs.size := by obtain ⟨o, ho, _⟩ := id hit'; exact Heap.lt_size ho
      have hit₃ : h₃.IsListIter it l (i + 1) := (hit₁.extBut hs₂.extBut (Ne.symm hei)).at fun o x => old₃ it o hitH x
      refine wpAny_assignInOrder_more (wpAny_assign_Name (wpAny_storeName_local (lookup_relabel_local hx1) hn₃ (fun h₄ hn₄ hs₄ => ?_) (by simp [compEnvC, relabel, hkind])))
      refine wpAny_assignInOrder_more (wpAny_assign_Name (wpAny_storeName_local (lookup_relabel_local hx2) hn₄ (fun h₅ hn₅ hs₅ => ?_) (by simp [compEnvC, relabel, hkind])))
      refine wpAny_assignInOrder_none ?_
      replace hs₄ : Heap.SameBut (I + 1) h₃ h₄ := hs₄
      replace hs₅ : Heap.SameBut (I + 1) h₄ h₅ := hs₅
      have k45 : ∀ b o, b ≠ I + 1 → h₃.get? b = some o → h₅.get? b = some o := fun b o hb x => hs₅.extBut b o hb (hs₄.extBut b o hb x)
      have hold : ∀ b o, b < I → b ≠ e → b ≠ it → s.heap.get? b = some o → h₅.get? b = some o := fun b o hb h1 h2 x => k45 b o (neA (by have : @LT.lt Nat _ b I := hb; walk_at "OM")) (kk₃ b o h1 h2 (hk b o hb h1 h2 x))
      have F₅ : Fr h₀ (I + 1) h₅ _ := ⟨hn₅, fun b o x => hold b o (show @LT.lt Nat _ b I by have := h0s b o x; walk_at "OM") (neA (by have := h0s b o x; walk_at "OM")) (neA (by have := h0s b o x; walk_at "OM")) (F.keep b o x), Nat.le_trans F.above (show @LE.le Nat _ env.locals (I + 1) by walk_at "OM")⟩
      have N₅ : News h₀ (I + 1) h₅ news := fun p hp => ⟨hold _ _ (show @LT.lt Nat _ p.1 I from hI ▸ Heap.lt_size (N p hp).1) (hne p hp).1 (hne p hp).2 (N p hp).1, neA (by have : @LT.lt Nat _ p.1 I := hI ▸ Heap.lt_size (N p hp).1; walk_at "OM"), (N p hp).2.2⟩
      have eD₅ : h₅.get? I = some (lstObj ys nD) := k45 I _ (neA (by walk_at "NEQ")) (kk₃ I _ (neA (by walk_at "NEQ")) (neA (by walk_at "NEQ")) eD)
      have he₅ : IsEnum h₅ e it ((i + 1 : Nat) : Int) v := k45 e _ (neA (by walk_at "NEQ")) he₃
      have hit₅ : h₅.IsListIter it l (i + 1) := hit₃.at fun o x => k45 it o (neA (by walk_at "NEQ")) x
      have hl₅ : h₅.IsList l items := hl'.at fun o x => k45 l o (neA (by walk_at "NEQ")) (kk₃ l o hle hli x)
      refine wpAny_tests_nil ?_
      rw [if_pos rfl]
      refine wpAny_with_toks (n := s.toks) (by dsimp only; walk_at "OM") (never_noted (wpAny_mono (turn (I + 1) i v ys h₅ tk _ _ _ hv hG F₅ N₅ htk (by dsimp only; walk_at "OM")) (fun y s₅ h₆ htk₆ => ?_) fun _ _ e => e))
      obtain ⟨h₆, tk₆, rfl, kp, hG₆⟩ := h₆
      have hys : ys.toArray.size ≤ sizeLine := by simp; walk_at "OM"
      refine wpAny_list_append_plain (hsz := hys) ⟨nD, kp _ _ eD₅⟩ fun h₇ hl₇ hs₇ => ?_
      replace hs₇ : Heap.SameBut I h₆ h₇ := hs₇
      have k57 : ∀ b o, b ≠ I → h₅.get? b = some o → h₇.get? b = some o := fun b o hb x => hs₇.extBut b o hb (kp b o x)
      exact ⟨items.size + 1 - (i + 1), by walk_at "OM", h₇, tk₆, _, ys ++ [y], i + 1, v, rfl, htk₆, k57 e _ (neA (by walk_at "NEQ")) he₅, hit₅.at fun o x => k57 it o (neA (by walk_at "NEQ")) x, hl₅.at fun o x => k57 l o (neA (by walk_at "NEQ")) x, by simpa using hl₇, hn₅.at' fun o x => k57 _ o (neA (Nat.succ_ne_self I)) x, hG₆, by simp; walk_at "OM", hlt, rfl,
        fun b o hb h1 h2 x => k57 b o (neA (by have : @LT.lt Nat _ b I := hb; walk_at "OM")) (hold b o hb h1 h2 x)⟩
  exact codeAny_compStart_list loop (wpAny_pyIter_enum (k₁ _ _ he) loop)
theorem comp_if_V {elt iter cond : Expr} {x : Str} {px : Pos} {scope : Scope} {cl : List (Str × Addr)} {pos : Pos} {L : Addr} {r : Addr} {a b c : Int} {t u v : Tok} {n : Nat} {Q : Value → Shared → Prop}
    (G : Nat → List Value → Nat → Prop)
    (hh : A.handled = none) (F : Fr h₀ L s.heap m₀) (N : News h₀ L s.heap news)
    (hr : IsRange s.heap r a b c t u v) (hsmall : Builtin.Range.small a b c = true) (hn : Builtin.Range.rangeSize a b c = n)
    (hG0 : ∀ tk, G 0 [] tk) (mono : ∀ i ys tk tk', G i ys tk → tk ≤ tk' → G i ys tk')
    (turn : ∀ (C : Nat) i ys h t0 tk mc, i < n → G i ys t0 → s.toks ≤ t0 → t0 < tk → Fr h₀ C h (upd x (.int (a + i * c) t0) mc) → News h₀ C h news →
      wpAny (model prog w) A (isTrue cond (compEnvC scope cl C env) (eval cond (compEnvC scope cl C env))) (fun ok s₃ => if ok = true then wpAny (model prog w) A (eval elt (compEnvC scope cl C env)) (CEnd s h fun y tk' => G (i + 1) (ys ++ [y]) tk') (fun _ _ => False) s₃
        else CSkipH s h (fun _ tk' => G (i + 1) ys tk') s₃) (fun _ _ => False) { s with heap := h, toks := tk })
    (done : ∀ D ys nD h tk, G n ys tk → s.toks ≤ tk → s.heap.objs.size ≤ D → Kp s.heap h → Fr h₀ L h m₀ → News h₀ L h ((D, lstObj ys nD) :: news) → Q (.ref D) { s with heap := h, toks := tk })
    (hsz : n ≤ sizeLine := by size_fits)
    (hcell : ∀ y ∈ scope.names, y.2 ≠ .cell := by decide) (hkind : scope.kind = .function := by rfl) (hx : scope.names.lookup x = some .local := by rfl) :
    wpAny (model prog w) A (pyIter (.ref r)) (fun it s₂ => wpAny (model prog w) A (newList []) (fun acc s₃ =>
      wpAny (model prog w) A (newFunctionEnv scope env.globals cl [] env.qual none .none (some env)) (fun cenv s₄ =>
        codeAny (model prog w) A (.compStart (.ListComp elt [⟨.Name x px, iter, [cond], 0⟩] scope pos) 0 it acc { cenv with scope := relabel scope env }) (compPost (model prog w) A E none Q acc cenv.locals) s₄) E s₃) E s₂) E s := by
  refine wpAny_pyIter_range hr hsmall ?_
  have hLt : L < s.heap.objs.size := F.ns.lt
  have kp : ∀ o', Kp s.heap (s.heap.push o') := fun o' b o e => Heap.get?_push_of_some _ e
  refine comp_start0 (fun h₁ m1 k₁ hD hC => ?_) hcell hkind
  dsimp only at k₁ hD hC ⊢
  rw [Heap.size_push] at hD hC ⊢
  generalize hI : s.heap.objs.size = I at *
  have hst : IsRangeIter h₁ I (a + ((0 : Nat) : Int) * c) ((n : Int) - ((0 : Nat) : Int)) c := by
    have := k₁ _ _ (Heap.get?_push_size _ rfl)
    rw [hI] at this
    simpa [hn] using this
  have keep1 : Kp s.heap h₁ := fun b o e => k₁ b o (kp _ b o e)
  refine comp_T (n := n) (D := I + 1) (C := I + 1 + 1) (cs := fun _ => False) (It.range hh I a c n) (fun i h st => by rw [st]; rfl)
    (fun i h h' st k => k _ _ (show @LT.lt Nat _ I (I + 1) by walk_at "OM") st) (show @LT.lt Nat _ I (I + 1) by walk_at "OM") (show @LT.lt Nat _ (I + 1) (I + 1 + 1) by walk_at "OM")
    (fun q hq => hq.elim) hst hD hC (fun q hq => hq.elim)
    (frKp F keep1) (newsKp N keep1) hLt (fun p hp => ⟨?_, ?_⟩) (fun i ys _ tk => G i ys tk) (hG0 _) (fun i ys _ _ tk tk' g _ l => mono i ys tk tk' g l)
    (fun i vv mc h => ∃ m', mc = upd x vv m') ?_ ?_ ?_ hsz
  · have := Heap.lt_size (N p hp).1
    rw [hI] at this
    exact Nat.lt_succ_of_lt this
  · have := Heap.lt_size (N p hp).1
    rw [hI] at this
    exact Nat.ne_of_lt this
  · rintro i vv h mc t0 tk Q' hi hP h1 hnC hce hst' hold k
    refine asgName rfl hnC (lookup_relabel_local hx) (by simp [compEnvC, relabel, hkind]) fun h₃ hn₃ hs₃ => ?_
    replace hs₃ : Heap.SameBut (I + 1 + 1) h h₃ := hs₃
    exact k h₃ (tk + 1) _ (Nat.le_succ _) hn₃ ⟨mc, rfl⟩ (fun q hq => hq.elim) (fun b o h1 h2 h3 e => hs₃.extBut b o h1 e) (hs₃.extBut _ _ (neA (show I ≠ I + 1 + 1 by walk_at "OM")) hst')
  · rintro i vv ys h t0 tk tk₁ mc hi ⟨rfl, hlt⟩ g hl h1 h2 h3 - F' N' ⟨m', rfl⟩
    refine wpAny_tests_one (wpAny_mono (turn (I + 1 + 1) i ys h t0 tk₁ m' hi g h1 (Nat.lt_of_lt_of_le hlt h3) F' N') (fun ok s₃ h₃ => ?_) fun _ _ e => e)
    cases ok with
    | false =>
      rw [if_neg (by decide)] at h₃ ⊢
      exact h₃
    | true =>
      rw [if_pos rfl] at h₃ ⊢
      refine wpAny_mono h₃ (fun y s₄ => ?_) fun _ _ e => e
      rintro ⟨h', tk', rfl, kk, g'⟩
      exact ⟨h', tk', rfl, kk, g'⟩
  · intro ys nD h tk m g hl h1 F' N' hm hold
    refine ⟨m, hm, fun h' hs' => ?_⟩
    replace hs' : Heap.SameBut (I + 1 + 1) h h' := hs'
    have hb : ∀ b : Addr, @LT.lt Nat _ b (I + 1 + 1) → b ≠ I + 1 + 1 := fun b hb => neA (by walk_at "NEQ")
    refine done (I + 1) ys nD h' tk g h1 (show @LE.le Nat _ I (I + 1) by walk_at "OM") (fun b o e => ?_) ⟨F'.ns.sameBut hs' (hb _ (show @LT.lt Nat _ L (I + 1 + 1) by have : @LT.lt Nat _ L I := hLt; walk_at "OM")), fun b o e => hs'.extBut b o (hb b (show @LT.lt Nat _ b (I + 1 + 1) by have : @LT.lt Nat _ b L := Nat.lt_of_lt_of_le (Heap.lt_size e) F.above; have : @LT.lt Nat _ L I := hLt; walk_at "OM")) (F'.keep b o e), F'.above⟩ (fun p hp => ⟨hs'.extBut _ _ (hb _ ?_) (N' p hp).1, (N' p hp).2⟩)
    · have hlt : @LT.lt Nat _ b I := hI ▸ Heap.lt_size e
      exact hs'.extBut b o (hb b (by walk_at "OM")) (hold b o (show @LT.lt Nat _ b (I + 1) by walk_at "OM") (neA (by walk_at "NEQ")) (keep1 b o e))
    · rcases List.mem_cons.mp hp with rfl | hp
      · show @LT.lt Nat _ (I + 1) (I + 1 + 1); walk_at "OM"
      · have : @LT.lt Nat _ p.1 I := hI ▸ Heap.lt_size (N p hp).1
        walk_at "OM"
end
section
variable {prog : Program} {w : World} {A : Around} {E : Value → Shared → Prop} {s : Shared}
noncomputable def PQ (q : Int) (n : Nat) : Prop := (q = 7 ∧ n = 7) ∨ (q = 13 ∧ n = 13) ∨ (q = 19 ∧ n = 19) ∨ (q = 31 ∧ n = 31) ∨ (q = 37 ∧ n = 37)
theorem item_pick5 {value slice : PySem.Expr} {l : Addr} {t1 t2 t3 t4 t5 u : Tok} {c : Int} {Q : Value → Shared → Prop} (hl : s.heap.IsList l #[.int 7 t1, .int 13 t2, .int 19 t3, .int 31 t4, .int 37 t5]) (h : ∀ q n t, PQ q n → Q (.int q t) s)
    (hs : subscripted slice false (.ref l) (.int (c.fmod 5) u) = operate [.ref l, .int (c.fmod 5) u] (getItem (.ref l) (.int (c.fmod 5) u)) := by with_unfolding_all rfl) :
    wpAny (model prog w) A (subscriptTail value slice (.ref l) (.int (c.fmod 5) u)) Q E s := by
  have h0 : 0 ≤ c.fmod 5 := Int.fmod_nonneg_of_pos _ (by decide)
  have h1 : c.fmod 5 < 5 := Int.fmod_lt_of_pos _ (by decide)
  obtain ⟨q, n, t, hx, hq⟩ : ∃ q n t, (#[.int 7 t1, .int 13 t2, .int 19 t3, .int 31 t4, .int 37 t5] : Array Value)[(c.fmod 5).toNat]? = some (.int q t) ∧ PQ q n := by
    obtain ⟨k, hk⟩ : ∃ k : Nat, c.fmod 5 = k := ⟨_, (Int.toNat_of_nonneg h0).symm⟩
    rw [hk, Int.toNat_natCast]
    obtain rfl | rfl | rfl | rfl | rfl : k = 0 ∨ k = 1 ∨ k = 2 ∨ k = 3 ∨ k = 4 := by walk_at "OM"
    · exact ⟨7, 7, t1, rfl, by unfold PQ; walk_at "OM"⟩
    · exact ⟨13, 13, t2, rfl, by unfold PQ; walk_at "OM"⟩
    · exact ⟨19, 19, t3, rfl, by unfold PQ; walk_at "OM"⟩
    · exact ⟨31, 31, t4, rfl, by unfold PQ; walk_at "OM"⟩
    · exact ⟨37, 37, t5, rfl, by unfold PQ; walk_at "OM"⟩
  exact item_any hl h0 (by walk_at "OM") hx (h q n t hq) hs
theorem item_pick2 {value slice : PySem.Expr} {l : Addr} {vs : List Value} {u : Tok} {c ra rb : Int} {Q : Value → Shared → Prop} (hl : s.heap.IsList l vs.toArray) (hi : IntsV vs [ra, rb]) (h : ∀ r t, (r = ra ∨ r = rb) → Q (.int r t) s)
    (hs : subscripted slice false (.ref l) (.int (c.fmod 2) u) = operate [.ref l, .int (c.fmod 2) u] (getItem (.ref l) (.int (c.fmod 2) u)) := by with_unfolding_all rfl) :
    wpAny (model prog w) A (subscriptTail value slice (.ref l) (.int (c.fmod 2) u)) Q E s := by
  have h0 : 0 ≤ c.fmod 2 := Int.fmod_nonneg_of_pos _ (by decide)
  have h1 : c.fmod 2 < 2 := Int.fmod_lt_of_pos _ (by decide)
  obtain ⟨q, t, hx, hq⟩ : ∃ q t, vs.toArray[(c.fmod 2).toNat]? = some (.int q t) ∧ (q = ra ∨ q = rb) := by
    obtain ⟨k, hk⟩ : ∃ k : Nat, c.fmod 2 = k := ⟨_, (Int.toNat_of_nonneg h0).symm⟩
    rw [hk, Int.toNat_natCast, List.getElem?_toArray]
    obtain rfl | rfl : k = 0 ∨ k = 1 := by walk_at "OM"
    · obtain ⟨t, e⟩ := hi.get 0 ra rfl
      exact ⟨ra, t, e, Or.inl rfl⟩
    · obtain ⟨t, e⟩ := hi.get 1 rb rfl
      exact ⟨rb, t, e, Or.inr rfl⟩
  exact item_any hl h0 (by walk_at "OM") hx (h q t hq) hs
end
theorem smallMul {a b : Int} (a0 : 0 ≤ a) (a1 : a < 1048576) (b0 : 0 ≤ b) (b1 : b < 1048576) : IntMulOk a b := by
  have e20 : (2 : Int) ^ 20 = 1048576 := by decide
  exact IntMulOk.of_bits (Nat.le_trans (natBits (k := 20) a0 (by walk_at "OM")) (by decide)) (Nat.le_trans (natBits (k := 20) b0 (by walk_at "OM")) (by decide))
theorem CSkipH.mk {s : Shared} {h h' : Heap} {G : Heap → Nat → Prop} {tk' : Nat} (k : Kp h h') (g : G h' tk') : CSkipH s h G { s with heap := h', toks := tk' } := ⟨_, _, rfl, k, g⟩
theorem powBits {a b : Int} (a0 : 0 ≤ a) (a1 : a < 1024) (b0 : 0 ≤ b) (b1 : b ≤ 64) : (Builtin.Int.intBits a : Int) * b ≤ 2 ^ 27 := by
  have e10 : (2 : Int) ^ 10 = 1024 := by decide
  have e27 : (2 : Int) ^ 27 = 134217728 := by decide
  have h1 := natBits (x := a) (k := 10) a0 (by walk_at "OM")
  have := Int.mul_le_mul (show (Builtin.Int.intBits a : Int) ≤ 10 by walk_at "OM") b1 b0 (by decide)
  walk_at "OM"
noncomputable def powI (q root : Int) (i : Nat) : List Int := (List.range i).map fun (k : Nat) => ((1 + root) ^ (0 + (k : Int) * 1).toNat).fmod q
theorem powI_next {q root : Int} {i : Nat} : powI q root (i + 1) = powI q root i ++ [((1 + root) ^ (0 + (i : Int) * 1).toNat).fmod q] := by unfold powI; rw [List.range_succ, List.map_append]; rfl
noncomputable def rootsI (q : Int) : Nat → List Int
  | 0 => []
  | i + 1 => if ((0 + (i : Int) * 1) * (0 + (i : Int) * 1) + (0 + (i : Int) * 1) + 1).fmod q = 0 then rootsI q i ++ [0 + (i : Int) * 1] else rootsI q i
noncomputable def rootA (n : Nat) : Int := if n = 7 then 2 else if n = 13 then 3 else if n = 19 then 7 else if n = 31 then 5 else 10
noncomputable def rootB (n : Nat) : Int := if n = 7 then 4 else if n = 13 then 9 else if n = 19 then 11 else if n = 31 then 25 else 26
theorem rootsI_eq {q : Int} {n : Nat} (h : PQ q n) : rootsI q n = [rootA n, rootB n] := by
  rcases h with ⟨rfl, rfl⟩ | ⟨rfl, rfl⟩ | ⟨rfl, rfl⟩ | ⟨rfl, rfl⟩ | ⟨rfl, rfl⟩ <;> decide +kernel
theorem PQ.ranges {q : Int} {n : Nat} (h : PQ q n) : q = n ∧ 7 ≤ n ∧ n ≤ 37 ∧ Builtin.Range.small 0 q 1 = true ∧ Builtin.Range.rangeSize 0 q 1 = n ∧ Builtin.Range.small 2 q 1 = true ∧ Builtin.Range.rangeSize 2 q 1 = ((n - 2 : Nat) : Int) ∧ Builtin.Range.small 1 q 1 = true ∧ Builtin.Range.rangeSize 1 q 1 = ((n - 1 : Nat) : Int) := by
  rcases h with ⟨rfl, rfl⟩ | ⟨rfl, rfl⟩ | ⟨rfl, rfl⟩ | ⟨rfl, rfl⟩ | ⟨rfl, rfl⟩ <;> decide +kernel
theorem rootB2 {q : Int} {n : Nat} {root : Int} (h : PQ q n) (hr : root = rootA n ∨ root = rootB n) : 2 ≤ root ∧ root < 37 := by
  rcases h with ⟨rfl, rfl⟩ | ⟨rfl, rfl⟩ | ⟨rfl, rfl⟩ | ⟨rfl, rfl⟩ | ⟨rfl, rfl⟩ <;> rcases hr with rfl | rfl <;> decide
structure AboveF (a1 a2 a3 turns : Int) (V : Nat → Nat → Int) (fa fb fc : UInt64) (Hf : Nat → UInt64) : Prop where
  z1 : ([a1, a2, a3].getD (Int.toNat 0) 0).natAbs < 2 ^ 1023
  z2 : ([a1, a2, a3].getD (Int.toNat 1) 0).natAbs < 2 ^ 1023
  z3 : ([a1, a2, a3].getD (Int.toNat 2) 0).natAbs < 2 ^ 1023
  ea : Float64.ofFrac (decide ([a1, a2, a3].getD (Int.toNat 0) 0 < 0) != decide ((2 : Int) ^ Int.toNat 36 < 0)) ([a1, a2, a3].getD (Int.toNat 0) 0).natAbs ((2 : Int) ^ Int.toNat 36).natAbs = fa
  eb : Float64.ofFrac (decide ([a1, a2, a3].getD (Int.toNat 1) 0 < 0) != decide ((2 : Int) ^ Int.toNat 36 < 0)) ([a1, a2, a3].getD (Int.toNat 1) 0).natAbs ((2 : Int) ^ Int.toNat 36).natAbs = fb
  ec : Float64.ofFrac (decide ([a1, a2, a3].getD (Int.toNat 2) 0 < 0) != decide ((2 : Int) ^ Int.toNat 36 < 0)) ([a1, a2, a3].getD (Int.toNat 2) 0).natAbs ((2 : Int) ^ Int.toNat 36).natAbs = fc
  hne : (Float64.cmp (min3F fa fb fc) (max3F fa fb fc) == some Ordering.eq) = false
  h1 : ¬ Float64.isZero (Float64.add (max3F fa fb fc) (min3F fa fb fc)) = true
  h2 : ¬ Float64.isZero (Float64.sub (Float64.sub f2 (max3F fa fb fc)) (min3F fa fb fc)) = true
  h3 : ¬ Float64.isZero (Float64.sub (max3F fa fb fc) (min3F fa fb fc)) = true
  y1 : (Float64.cmpInt (rgbH fa fb fc) 0 == some Ordering.gt || Float64.cmpInt (rgbH fa fb fc) 0 == some Ordering.eq) = true
  y2 : (Float64.cmpInt (rgbH fa fb fc) 1 == some Ordering.lt) = true
  y3 : (Float64.cmpInt (Float64.mul (Float64.ofInt (2 * 2 ^ Int.toNat 36)) (rgbL fa fb fc)) (mx3 a1 a2 a3 + mn3 a1 a2 a3) != some Ordering.eq) = false
  y4 : (if 2 * 2 ^ Int.toNat 36 - (mx3 a1 a2 a3 + mn3 a1 a2 a3) < mx3 a1 a2 a3 + mn3 a1 a2 a3 then 2 * 2 ^ Int.toNat 36 - (mx3 a1 a2 a3 + mn3 a1 a2 a3) else mx3 a1 a2 a3 + mn3 a1 a2 a3).natAbs < 2 ^ 1023
  y5 : Float64.isFinite (Float64.add (Float64.mul (rgbS fa fb fc) (Float64.ofInt (if 2 * 2 ^ Int.toNat 36 - (mx3 a1 a2 a3 + mn3 a1 a2 a3) < mx3 a1 a2 a3 + mn3 a1 a2 a3 then 2 * 2 ^ Int.toNat 36 - (mx3 a1 a2 a3 + mn3 a1 a2 a3) else mx3 a1 a2 a3 + mn3 a1 a2 a3))) (Float64.ofFrac false 1 2)) = true
  y6 : wholeF (Float64.mul (rgbS fa fb fc) (Float64.ofInt (if 2 * 2 ^ Int.toNat 36 - (mx3 a1 a2 a3 + mn3 a1 a2 a3) < mx3 a1 a2 a3 + mn3 a1 a2 a3 then 2 * 2 ^ Int.toNat 36 - (mx3 a1 a2 a3 + mn3 a1 a2 a3) else mx3 a1 a2 a3 + mn3 a1 a2 a3))) = mx3 a1 a2 a3 - mn3 a1 a2 a3
  y7 : (Float64.cmp (rgbS fa fb fc) 0 == some Ordering.eq) = false
  eh : ∀ i : Nat, i < 6 → Float64.ofFrac (decide (0 + (i : Int) * 1 < 0) != decide ((6 : Int) < 0)) (0 + (i : Int) * 1).natAbs (Int.natAbs 6) = Hf i
  hW : ∀ i : Nat, i < 6 → Float64.isFinite (Float64.add (Float64.mul (Float64.ofInt (2 ^ Int.toNat 36)) (vF (hlsM1 (rgbL fa fb fc) (rgbS fa fb fc)) (hlsM2 (rgbL fa fb fc) (rgbS fa fb fc)) (Float64.add (Float64.add (Float64.sub (rgbH fa fb fc) (Hf i)) (Float64.ofInt turns)) fThird))) (Float64.ofFrac false 1 2)) = true ∧ Float64.isFinite (Float64.add (Float64.mul (Float64.ofInt (2 ^ Int.toNat 36)) (vF (hlsM1 (rgbL fa fb fc) (rgbS fa fb fc)) (hlsM2 (rgbL fa fb fc) (rgbS fa fb fc)) (Float64.add (Float64.sub (rgbH fa fb fc) (Hf i)) (Float64.ofInt turns)))) (Float64.ofFrac false 1 2)) = true ∧ Float64.isFinite (Float64.add (Float64.mul (Float64.ofInt (2 ^ Int.toNat 36)) (vF (hlsM1 (rgbL fa fb fc) (rgbS fa fb fc)) (hlsM2 (rgbL fa fb fc) (rgbS fa fb fc)) (Float64.sub (Float64.add (Float64.sub (rgbH fa fb fc) (Hf i)) (Float64.ofInt turns)) fThird))) (Float64.ofFrac false 1 2)) = true ∧ wholeF (Float64.mul (Float64.ofInt (2 ^ Int.toNat 36)) (vF (hlsM1 (rgbL fa fb fc) (rgbS fa fb fc)) (hlsM2 (rgbL fa fb fc) (rgbS fa fb fc)) (Float64.add (Float64.add (Float64.sub (rgbH fa fb fc) (Hf i)) (Float64.ofInt turns)) fThird))) = V i 0 ∧ wholeF (Float64.mul (Float64.ofInt (2 ^ Int.toNat 36)) (vF (hlsM1 (rgbL fa fb fc) (rgbS fa fb fc)) (hlsM2 (rgbL fa fb fc) (rgbS fa fb fc)) (Float64.add (Float64.sub (rgbH fa fb fc) (Hf i)) (Float64.ofInt turns)))) = V i 1 ∧ wholeF (Float64.mul (Float64.ofInt (2 ^ Int.toNat 36)) (vF (hlsM1 (rgbL fa fb fc) (rgbS fa fb fc)) (hlsM2 (rgbL fa fb fc) (rgbS fa fb fc)) (Float64.sub (Float64.add (Float64.sub (rgbH fa fb fc) (Hf i)) (Float64.ofInt turns)) fThird))) = V i 2
  yS : ∀ i : Nat, i < 3 → (colL V i).sum = 3 * (mx3 a1 a2 a3 + mn3 a1 a2 a3)
  x1 : (Float64.cmp (min3F (rgbL fa fb fc) (rgbL fa fb fc) (rgbL fa fb fc)) (max3F (rgbL fa fb fc) (rgbL fa fb fc) (rgbL fa fb fc)) == some Ordering.eq) = true
  x3 : (Float64.cmp (rgbL (rgbL fa fb fc) (rgbL fa fb fc) (rgbL fa fb fc)) (rgbL fa fb fc) == some Ordering.eq) = true
  x4 : (Float64.cmp (rgbL fa fb fc) (rgbL fa fb fc) == some Ordering.eq) = true
  yT : [V 0 0, V 0 1, V 0 2] = [a1, a2, a3]
  y8 : ∀ i : Nat, i < 6 → IntMulOk 2 (V i 0)
section
variable {w : World} {p : Program} {loose : List Str} {mean : ExcName → Option Value} {mg mb : Str → Option Value} {A : Around} {s : Shared} {Q E : Value → Shared → Prop}
theorem c_aboveF (hA : Rm 12 A) (X : (hd.heap_1 w.params).In s.heap) (T : Top p loose mean mg mb s.heap)
    {l : Addr} {a1 a2 a3 turns : Int} {u1 u2 u3 tt : Tok} (hl : s.heap.IsList l #[.int a1 u1, .int a2 u2, .int a3 u3])
    {fa fb fc : UInt64} {V : Nat → Nat → Int} {Hf : Nat → UInt64} (g : AboveF a1 a2 a3 turns V fa fb fc Hf) (ht : turns.natAbs ≤ 2) (h0 : 0 < s.toks)
    (ret : ∀ l' lv nn h' tk', Kp s.heap h' → s.heap.objs.size ≤ l' → h'.get? l' = some (lstObj lv nn) → IntsV lv (aboveI V) → Q (.ref l') { s with heap := h', toks := tk' }) :
    wpAny (model PySem.Challenge.rw_tl0018_01.row.prog w) A (call (.ref 164) [.ref l, .int turns tt]) Q E s :=
  c_above hA X T (H := 0) (L := 0) (S := 0) hl g.z1 g.z2 g.z3 g.ea g.eb g.ec g.hne g.h1 g.h2 g.h3 g.y1 g.y2 g.y3 g.y4 g.y5 g.y6 g.y7 g.eh ht g.hW g.yS g.x1 h0 g.x3 g.x4 g.yT g.y8 ret
end
theorem pow_fmod (x q : Int) (hq : 0 < q) : ∀ k : Nat, ((x.fmod q) ^ k).fmod q = (x ^ k).fmod q
  | 0 => by rw [Int.pow_zero, Int.pow_zero]
  | k + 1 => by
    rw [Int.pow_succ, Int.pow_succ]
    have h := pow_fmod x q hq k
    simp only [Int.fmod_eq_emod_of_nonneg _ (Int.le_of_lt hq)] at h ⊢
    rw [Int.mul_emod, h, Int.emod_emod_of_dvd _ (Int.dvd_refl q), ← Int.mul_emod]
theorem pw_mod {q x : Int} (hq : 0 < q) : pw q (x.fmod q) = pw q x := pow_fmod x q hq _
noncomputable def resOk (n : Nat) (root : Int) : Bool := (List.range (n - 1)).all fun y => decide (pw (n : Int) ((y : Int) + 1) ∈ powI n root 6)
theorem res_ok {q : Int} {n : Nat} {root : Int} (h : PQ q n) (hr : root = rootA n ∨ root = rootB n) : resOk n root = true := by
  rcases h with ⟨rfl, rfl⟩ | ⟨rfl, rfl⟩ | ⟨rfl, rfl⟩ | ⟨rfl, rfl⟩ | ⟨rfl, rfl⟩ <;> rcases hr with rfl | rfl <;> decide +kernel
theorem good_any {q : Int} {n : Nat} {root x : Int} (h : PQ q n) (hr : root = rootA n ∨ root = rootB n) (hx : x.fmod q ≠ 0) (hb : x.natAbs < 2 ^ 40) : Good6 (powI q root 6) q x := by
  obtain ⟨hqn, h7, h37, -⟩ := h.ranges
  have hq : 0 < q := by walk_at "OM"
  have hm : pw q x ∈ powI q root 6 := by
    have h0 := Int.fmod_nonneg_of_pos x hq
    have h1 := Int.fmod_lt_of_pos x hq
    rw [← pw_mod hq]
    obtain ⟨y, hy⟩ : ∃ y : Nat, x.fmod q = (y : Int) + 1 := ⟨(x.fmod q - 1).toNat, by walk_at "OM"⟩
    have hr' := res_ok h hr
    unfold resOk at hr'
    rw [List.all_eq_true] at hr'
    have := of_decide_eq_true (hr' y (List.mem_range.mpr (by walk_at "OM")))
    rw [hy, hqn]
    exact this
  have h6 : 0 ≤ q.fdiv 6 ∧ q.fdiv 6 ≤ 6 := by
    rw [Int.fdiv_eq_ediv_of_nonneg _ (by decide)]; walk_at "OM"
  have hbit : Builtin.Int.intBits x ≤ 40 := intBits_le_iff.mpr (by have : (2 : Nat) ^ 40 = 1099511627776 := by decide
                                                                   walk_at "OM")
  refine ⟨by walk_at "OM", h6.1, ?_, ?_, hm⟩
  · have e27 : (2 : Int) ^ 27 = 134217728 := by decide
    have := Int.mul_le_mul (show (Builtin.Int.intBits x : Int) ≤ 40 by walk_at "OM") h6.2 h6.1 (by decide)
    walk_at "OM"
  · have h0 : 0 ≤ pw q x := Int.fmod_nonneg_of_pos _ hq
    have h1 : pw q x < q := Int.fmod_lt_of_pos _ hq
    generalize pw q x = y at h0 h1
    unfold smallInt
    simp only [Bool.and_eq_true, decide_eq_true_eq]
    walk_at "OM"
noncomputable def mixC (n : Nat) (root : Int) : Int × Int × Int :=
  if n = 7 then (if root = 2 then (2, 0, 3) else (2, 3, 0)) else if n = 13 then (if root = 3 then (2, 3, 6) else (2, 6, 3)) else if n = 19 then (if root = 7 then (8, 3, 6) else (8, 6, 3)) else if n = 31 then (if root = 5 then (11, 6, 12) else (11, 12, 6)) else (if root = 10 then (8, 12, 15) else (8, 15, 12))
theorem light_eq {q : Int} {n : Nat} {root : Int} (h : PQ q n) (hr : root = rootA n ∨ root = rootB n) : lightI (powI q root 6) q (n - 2) = [2 ^ 30 * (mixC n root).1, 2 ^ 30 * (mixC n root).2.1, 2 ^ 30 * (mixC n root).2.2] := by
  rcases h with ⟨rfl, rfl⟩ | ⟨rfl, rfl⟩ | ⟨rfl, rfl⟩ | ⟨rfl, rfl⟩ | ⟨rfl, rfl⟩ <;> rcases hr with rfl | rfl <;> decide +kernel
theorem fmod_small {q x : Int} (h0 : 0 < x) (h1 : x < q) : x.fmod q ≠ 0 := by rw [Int.fmod_eq_emod_of_nonneg _ (by walk_at "OM"), Int.emod_eq_of_lt (by walk_at "OM") h1]; walk_at "OM"
theorem good_mix {q : Int} {n : Nat} {root : Int} (h : PQ q n) (hr : root = rootA n ∨ root = rootB n) (i : Nat) (hi : i < n - 2) : Good6 (powI q root 6) q (2 + i * 1) ∧ Good6 (powI q root 6) q (1 - (2 + i * 1)) := by
  obtain ⟨hqn, h7, h37, -⟩ := h.ranges
  have e40 : (2 : Nat) ^ 40 = 1099511627776 := by decide
  refine ⟨good_any h hr (fmod_small (by walk_at "OM") (by walk_at "OM")) (by walk_at "OM"), good_any h hr ?_ (by walk_at "OM")⟩
  rw [Int.fmod_eq_emod_of_nonneg _ (by walk_at "OM")]
  have := Int.add_emod_right (1 - (2 + (i : Int) * 1)) q
  rw [Int.emod_eq_of_lt (show 0 ≤ 1 - (2 + (i : Int) * 1) + q by walk_at "OM") (by walk_at "OM")] at this
  walk_at "OM"
theorem mixC_b {q : Int} {n : Nat} {root : Int} (h : PQ q n) (hr : root = rootA n ∨ root = rootB n) : 0 ≤ (mixC n root).1 ∧ (mixC n root).1 ≤ 15 ∧ 0 ≤ (mixC n root).2.1 ∧ (mixC n root).2.1 ≤ 15 ∧ 0 ≤ (mixC n root).2.2 ∧ (mixC n root).2.2 ≤ 15 := by
  rcases h with ⟨rfl, rfl⟩ | ⟨rfl, rfl⟩ | ⟨rfl, rfl⟩ | ⟨rfl, rfl⟩ | ⟨rfl, rfl⟩ <;> rcases hr with rfl | rfl <;> decide
theorem mx30 {a b c : Int} : mx3 (2 ^ 30 * a) (2 ^ 30 * b) (2 ^ 30 * c) = mx3 a b c * 2 ^ 30 := (mx3_map (f := fun x => 2 ^ 30 * x) (fun _ _ h => Int.mul_le_mul_of_nonneg_left h (by decide)) a b c).trans (Int.mul_comm _ _)
theorem mx_b {a b c : Int} (h : 0 ≤ a ∧ a ≤ 15 ∧ 0 ≤ b ∧ b ≤ 15 ∧ 0 ≤ c ∧ c ≤ 15) : 0 ≤ mx3 a b c ∧ mx3 a b c ≤ 15 := ⟨Int.le_trans h.1 (mx3_ge a b c).1, Int.max_le.mpr ⟨h.2.1, Int.max_le.mpr ⟨h.2.2.2.1, h.2.2.2.2.2⟩⟩⟩
theorem bits40 {x : Int} (h0 : 0 ≤ x) (h1 : x < 1099511627776) : Builtin.Int.intBits x ≤ 40 := by
  have e : (2 : Int) ^ 40 = 1099511627776 := by decide
  exact natBits h0 (by walk_at "OM")
theorem max_div {a b c : Int} (h : 0 ≤ a ∧ a ≤ 15 ∧ 0 ≤ b ∧ b ≤ 15 ∧ 0 ≤ c ∧ c ≤ 15) : (mx3 (2 ^ 30 * a) (2 ^ 30 * b) (2 ^ 30 * c)).fdiv (2 ^ Int.toNat 30) = mx3 a b c ∧ Builtin.divisionGoesByPylong (mx3 (2 ^ 30 * a) (2 ^ 30 * b) (2 ^ 30 * c)) (2 ^ Int.toNat 30) = false := by
  have := mx_b h
  rw [mx30]
  refine ⟨?_, noPy (Nat.le_trans (bits40 (by walk_at "OM") (by walk_at "OM")) (Nat.le_trans (by decide) (Nat.le_add_left 4000 _)))⟩
  show (mx3 a b c * 2 ^ 30).fdiv (2 ^ 30) = _
  rw [fdiv_pow]; walk_at "OM"
theorem mulWhite {k : Int} (h0 : 0 ≤ k) (h1 : k < 65) : IntMulOk k (2 ^ Int.toNat 30) := IntMulOk.of_bits (Nat.le_trans (bits40 h0 (by walk_at "OM")) (by decide)) (Nat.le_trans (bits40 (show (0 : Int) ≤ 2 ^ 30 by decide) (by decide)) (by decide))
section
variable {w : World} {A : Around} {s : Shared} {Q E : Value → Shared → Prop}
theorem fdiv_named2 {prog : Program} {a b x : Int} {t u : Tok} (hb : b ≠ 0) (hs : Builtin.divisionGoesByPylong a b = false) (he : a.fdiv b = x) (h : Q (.int x s.toks) { s with toks := s.toks + 1 }) : wpAny (model prog w) A (binaryOp .FloorDiv (.int a t) (.int b u)) Q E s := floordiv_int hb (he ▸ h) (Or.inl hs)
end
noncomputable def tintT (n : Nat) (root : Int) : List (Int × Int × Int) :=
  if n = 7 then (if root = 2 then [(2, 0, 3), (0, 1, 3), (0, 3, 2), (1, 3, 0), (3, 2, 0), (3, 0, 1)] else [(2, 3, 0), (3, 1, 0), (3, 0, 2), (1, 0, 3), (0, 2, 3), (0, 3, 1)]) else
  if n = 13 then (if root = 3 then [(2, 3, 6), (2, 6, 5), (3, 6, 2), (6, 5, 2), (6, 2, 3), (5, 2, 6)] else [(2, 6, 3), (5, 6, 2), (6, 3, 2), (6, 2, 5), (3, 2, 6), (2, 5, 6)]) else
  if n = 19 then (if root = 7 then [(8, 3, 6), (5, 3, 8), (3, 6, 8), (3, 8, 5), (6, 8, 3), (8, 5, 3)] else [(8, 6, 3), (8, 3, 5), (6, 3, 8), (3, 5, 8), (3, 8, 6), (5, 8, 3)]) else
  if n = 31 then (if root = 5 then [(11, 6, 12), (6, 7, 12), (6, 12, 11), (7, 12, 6), (12, 11, 6), (12, 6, 7)] else [(11, 12, 6), (12, 7, 6), (12, 6, 11), (7, 6, 12), (6, 11, 12), (6, 12, 7)]) else
  if n = 37 then (if root = 10 then [(8, 12, 15), (8, 15, 11), (12, 15, 8), (15, 11, 8), (15, 8, 12), (11, 8, 15)] else [(8, 15, 12), (11, 15, 8), (15, 12, 8), (15, 8, 11), (12, 8, 15), (8, 11, 15)]) else
  []
noncomputable def vT (n : Nat) (root : Int) (i ch : Nat) : Int :=
  let t := (tintT n root).getD i (0, 0, 0)
  if ch = 0 then t.1 else if ch = 1 then t.2.1 else t.2.2
noncomputable def VT (n : Nat) (root k : Int) (i ch : Nat) : Int := k * 2 ^ 30 + 2 ^ 30 * vT n root i ch
noncomputable def abT (n : Nat) (root : Int) (i : Nat) : Int := 2 * vT n root i 0 - (vT n root i 1 + vT n root i 2)
theorem above_eq (n : Nat) (root k : Int) : aboveI (VT n root k) = (List.range 6).map fun i => 2 ^ 30 * abT n root i := by
  unfold aboveI
  refine List.map_congr_left fun i _ => ?_
  unfold VT abT
  generalize vT n root i 0 = a
  generalize vT n root i 1 = b
  generalize vT n root i 2 = c
  walk_at "OM"
noncomputable def st {α : Type} (x : UInt64) (f : UInt64 → α) : α := Nat.rec (motive := fun _ => α) (f (UInt64.ofNat 0)) (fun m _ => f (UInt64.ofNat (m + 1))) x.toNat
theorem st_eq {α : Type} (x : UInt64) (f : UInt64 → α) : st x f = f x := by
  have h : UInt64.ofNat x.toNat = x := UInt64.ofNat_toNat
  have : ∀ n, (Nat.rec (motive := fun _ => α) (f (UInt64.ofNat 0)) (fun m _ => f (UInt64.ofNat (m + 1))) n : α) = f (UInt64.ofNat n) := fun n => by cases n <;> rfl
  unfold st
  rw [this, h]
noncomputable def fj (j : Int) : UInt64 := Float64.ofFrac (decide (j * 2 ^ 30 < 0) != decide ((2 : Int) ^ Int.toNat 36 < 0)) (j * 2 ^ 30).natAbs ((2 : Int) ^ Int.toNat 36).natAbs
noncomputable def hf (i : Nat) : UInt64 := Float64.ofFrac (decide (0 + (i : Int) * 1 < 0) != decide ((6 : Int) < 0)) (0 + (i : Int) * 1).natAbs (Int.natAbs 6)
noncomputable def c36 : UInt64 := 4769312005385355264
noncomputable def cHalf : UInt64 := 4602678819172646912
theorem c36_eq : Float64.ofInt (2 ^ Int.toNat 36) = c36 := by decide +kernel
theorem cHalf_eq : Float64.ofFrac false 1 2 = cHalf := by decide +kernel
noncomputable def okW (x : UInt64) (v : Int) : Bool := st (Float64.add (Float64.mul c36 x) cHalf) fun y => Float64.isFinite y && decide (Flt.toInt Float64.truncOf y = v)
theorem okW_fin {x : UInt64} {v : Int} (h : okW x v = true) : Float64.isFinite (Float64.add (Float64.mul (Float64.ofInt (2 ^ Int.toNat 36)) x) (Float64.ofFrac false 1 2)) = true ∧ wholeF (Float64.mul (Float64.ofInt (2 ^ Int.toNat 36)) x) = v := by
  unfold okW at h
  rw [st_eq, Bool.and_eq_true, decide_eq_true_eq, ← c36_eq, ← cHalf_eq] at h
  exact h
noncomputable def rampF (a b f : UInt64) : UInt64 := Float64.add a (Float64.mul (Float64.mul (Float64.sub b a) f) f6)
noncomputable def rampD (a d f : UInt64) : UInt64 := Float64.add a (Float64.mul (Float64.mul d f) f6)
noncomputable def kindOk (fs : List (UInt64 × Int)) (mn mx : Int) (c : UInt64) (v : Int) : Bool :=
  st (Float64.divmod c f1).snd fun d =>
    if (Float64.cmp d fSixth == some Ordering.lt) = true then decide ((d, v) ∈ fs)
    else if (Float64.cmp d fHalf == some Ordering.lt) = true then decide (v = mx)
    else if (Float64.cmp d fTwoThird == some Ordering.lt) = true then st (Float64.sub fTwoThird d) fun g => decide ((g, v) ∈ fs)
    else decide (v = mn)
theorem kindOk_sound {fs : List (UInt64 × Int)} {mn mx k v : Int} {a b c : UInt64} (h : kindOk fs mn mx c v = true) (ha : okW a ((k + mn) * 2 ^ 30) = true) (hb : okW b ((k + mx) * 2 ^ 30) = true) (hf : ∀ g ∈ fs, okW (rampF a b g.1) ((k + g.2) * 2 ^ 30) = true) : okW (vF a b c) ((k + v) * 2 ^ 30) = true := by
  unfold kindOk at h
  rw [st_eq] at h
  unfold vF
  generalize (Float64.divmod c f1).snd = d at h
  by_cases c1 : (Float64.cmp d fSixth == some Ordering.lt) = true
  · rw [if_pos c1] at h ⊢
    exact hf _ (of_decide_eq_true h)
  rw [if_neg c1] at h ⊢
  by_cases c2 : (Float64.cmp d fHalf == some Ordering.lt) = true
  · rw [if_pos c2] at h ⊢
    rw [of_decide_eq_true h]; exact hb
  rw [if_neg c2] at h ⊢
  by_cases c3 : (Float64.cmp d fTwoThird == some Ordering.lt) = true
  · rw [if_pos c3, st_eq] at h
    rw [if_pos c3]
    exact hf _ (of_decide_eq_true h)
  rw [if_neg c3] at h ⊢
  rw [of_decide_eq_true h]; exact ha
noncomputable def chkH (H : UInt64) (fs : List (UInt64 × Int)) (mn mx : Int) (vt : Nat → Nat → Int) (t : Int) : Bool :=
  (List.range 6).all fun i => st (Float64.add (Float64.sub H (hf i)) (Float64.ofInt t)) fun h => kindOk fs mn mx (Float64.add h fThird) (vt i 0) && kindOk fs mn mx h (vt i 1) && kindOk fs mn mx (Float64.sub h fThird) (vt i 2)
theorem chkH_sound {H : UInt64} {fs : List (UInt64 × Int)} {mn mx : Int} {vt : Nat → Nat → Int} {t : Int} (h : chkH H fs mn mx vt t = true) (i : Nat) (hi : i < 6) :
    kindOk fs mn mx (Float64.add (Float64.add (Float64.sub H (hf i)) (Float64.ofInt t)) fThird) (vt i 0) = true ∧ kindOk fs mn mx (Float64.add (Float64.sub H (hf i)) (Float64.ofInt t)) (vt i 1) = true ∧ kindOk fs mn mx (Float64.sub (Float64.add (Float64.sub H (hf i)) (Float64.ofInt t)) fThird) (vt i 2) = true := by
  unfold chkH at h
  rw [List.all_eq_true] at h
  have := h i (List.mem_range.mpr hi)
  rw [st_eq, Bool.and_eq_true, Bool.and_eq_true] at this
  exact ⟨this.1.1, this.1.2, this.2⟩
noncomputable def endS (e : Int) : Int := if 2 * 2 ^ Int.toNat 36 - e < e then 2 * 2 ^ Int.toNat 36 - e else e
noncomputable def rL (mx mn : UInt64) : UInt64 := Float64.div (Float64.add mx mn) f2
noncomputable def rS (mx mn l : UInt64) : UInt64 :=
  if (Float64.cmp l fHalf == some Ordering.lt || Float64.cmp l fHalf == some Ordering.eq) = true then Float64.div (Float64.sub mx mn) (Float64.add mx mn) else Float64.div (Float64.sub mx mn) (Float64.sub (Float64.sub f2 mx) mn)
noncomputable def rC (mx d x : UInt64) : UInt64 := Float64.div (Float64.sub mx x) d
noncomputable def rH (a b c mx d : UInt64) : UInt64 :=
  (Float64.divmod (Float64.div (if (Float64.cmp a mx == some Ordering.eq) = true then Float64.sub (rC mx d c) (rC mx d b)
    else if (Float64.cmp b mx == some Ordering.eq) = true then Float64.sub (Float64.add f2 (rC mx d a)) (rC mx d c)
    else Float64.sub (Float64.add f4 (rC mx d b)) (rC mx d a)) f6) f1).snd
theorem rH_eq (a b c : UInt64) : rH a b c (max3F a b c) (Float64.sub (max3F a b c) (min3F a b c)) = rgbH a b c := rfl
theorem rL_eq (a b c : UInt64) : rL (max3F a b c) (min3F a b c) = rgbL a b c := rfl
theorem rS_eq (a b c : UInt64) : rS (max3F a b c) (min3F a b c) (rgbL a b c) = rgbS a b c := rfl
noncomputable def c37 : UInt64 := 4773815605012725760
theorem c37_eq : Float64.ofInt (2 * 2 ^ Int.toNat 36) = c37 := by decide +kernel
noncomputable def setS (m0 m1 m2 : Int) (k : Int) (rest : UInt64 → UInt64 → UInt64 → Bool) : Bool :=
  st (fj (k + m0)) fun fa => st (fj (k + m1)) fun fb => st (fj (k + m2)) fun fc => rest fa fb fc
noncomputable def chkS (m0 m1 m2 : Int) (HA HB : UInt64) (fs : List (UInt64 × Int)) (k : Int) : Bool :=
  st (fj (k + m0)) fun fa => st (fj (k + m1)) fun fb => st (fj (k + m2)) fun fc => st (max3F fa fb fc) fun mx => st (min3F fa fb fc) fun mn => st (Float64.sub mx mn) fun d => st (Float64.add mx mn) fun u =>
  st (Float64.div u f2) fun l => st (if (Float64.cmp l fHalf == some Ordering.lt || Float64.cmp l fHalf == some Ordering.eq) = true then Float64.div d u else Float64.div d (Float64.sub (Float64.sub f2 mx) mn)) fun s => st (hlsM2 l s) fun b => st (Float64.sub (Float64.mul f2 l) b) fun a => st (Float64.sub b a) fun e =>
  st (Float64.add (Float64.mul s (Float64.ofInt (endS ((2 * k + (mx3 m0 m1 m2 + mn3 m0 m1 m2)) * 2 ^ 30)))) cHalf) fun y =>
    decide (max3F fa fc fb = mx ∧ min3F fa fc fb = mn ∧ (Float64.cmp mn mx == some Ordering.eq) = false ∧ ¬ Float64.isZero u = true ∧ ¬ Float64.isZero (Float64.sub (Float64.sub f2 mx) mn) = true ∧ ¬ Float64.isZero d = true ∧
      rH fa fb fc mx d = HA ∧ rH fa fc fb mx d = HB ∧ (Float64.cmpInt (Float64.mul c37 l) ((2 * k + (mx3 m0 m1 m2 + mn3 m0 m1 m2)) * 2 ^ 30) != some Ordering.eq) = false ∧
      Float64.isFinite y = true ∧ Flt.toInt Float64.truncOf y = (mx3 m0 m1 m2 - mn3 m0 m1 m2) * 2 ^ 30 ∧
      (Float64.cmp s 0 == some Ordering.eq) = false ∧ (Float64.cmp (Float64.div (Float64.add l l) f2) l == some Ordering.eq) = true ∧ (Float64.cmp l l == some Ordering.eq) = true ∧
      okW a ((k + mn3 m0 m1 m2) * 2 ^ 30) = true ∧ okW b ((k + mx3 m0 m1 m2) * 2 ^ 30) = true) && fs.all fun g => okW (rampD a e g.1) ((k + g.2) * 2 ^ 30)
theorem max3_self (l : UInt64) : max3F l l l = l := by unfold max3F; simp only [ite_self]
theorem min3_self (l : UInt64) : min3F l l l = l := by unfold min3F; simp only [ite_self]
structure SOk (m0 m1 m2 k : Int) (fa fb fc H : UInt64) (fs : List (UInt64 × Int)) : Prop where
  c1 : (Float64.cmp (min3F fa fb fc) (max3F fa fb fc) == some Ordering.eq) = false
  c2 : ¬ Float64.isZero (Float64.add (max3F fa fb fc) (min3F fa fb fc)) = true
  c3 : ¬ Float64.isZero (Float64.sub (Float64.sub f2 (max3F fa fb fc)) (min3F fa fb fc)) = true
  c4 : ¬ Float64.isZero (Float64.sub (max3F fa fb fc) (min3F fa fb fc)) = true
  c5 : rgbH fa fb fc = H
  c6 : (Float64.cmpInt (Float64.mul (Float64.ofInt (2 * 2 ^ Int.toNat 36)) (rgbL fa fb fc)) ((2 * k + (mx3 m0 m1 m2 + mn3 m0 m1 m2)) * 2 ^ 30) != some Ordering.eq) = false
  c7 : Float64.isFinite (Float64.add (Float64.mul (rgbS fa fb fc) (Float64.ofInt (endS ((2 * k + (mx3 m0 m1 m2 + mn3 m0 m1 m2)) * 2 ^ 30)))) (Float64.ofFrac false 1 2)) = true
  c8 : wholeF (Float64.mul (rgbS fa fb fc) (Float64.ofInt (endS ((2 * k + (mx3 m0 m1 m2 + mn3 m0 m1 m2)) * 2 ^ 30)))) = (mx3 m0 m1 m2 - mn3 m0 m1 m2) * 2 ^ 30
  c9 : (Float64.cmp (rgbS fa fb fc) 0 == some Ordering.eq) = false
  c10 : (Float64.cmp (min3F (rgbL fa fb fc) (rgbL fa fb fc) (rgbL fa fb fc)) (max3F (rgbL fa fb fc) (rgbL fa fb fc) (rgbL fa fb fc)) == some Ordering.eq) = true
  c11 : (Float64.cmp (rgbL (rgbL fa fb fc) (rgbL fa fb fc) (rgbL fa fb fc)) (rgbL fa fb fc) == some Ordering.eq) = true
  c12 : (Float64.cmp (rgbL fa fb fc) (rgbL fa fb fc) == some Ordering.eq) = true
  c13 : okW (hlsM1 (rgbL fa fb fc) (rgbS fa fb fc)) ((k + mn3 m0 m1 m2) * 2 ^ 30) = true
  c14 : okW (hlsM2 (rgbL fa fb fc) (rgbS fa fb fc)) ((k + mx3 m0 m1 m2) * 2 ^ 30) = true
  c15 : ∀ g ∈ fs, okW (rampF (hlsM1 (rgbL fa fb fc) (rgbS fa fb fc)) (hlsM2 (rgbL fa fb fc) (rgbS fa fb fc)) g.1) ((k + g.2) * 2 ^ 30) = true
theorem sOk_of {m0 m1 m2 k : Int} {fa fb fc H mx mn l s : UInt64} {fs : List (UInt64 × Int)} (hx : max3F fa fb fc = mx) (hn : min3F fa fb fc = mn) (hl : Float64.div (Float64.add mx mn) f2 = l) (hs : (if (Float64.cmp l fHalf == some Ordering.lt || Float64.cmp l fHalf == some Ordering.eq) = true then Float64.div (Float64.sub mx mn) (Float64.add mx mn) else Float64.div (Float64.sub mx mn) (Float64.sub (Float64.sub f2 mx) mn)) = s)
    (c1 : (Float64.cmp mn mx == some Ordering.eq) = false) (c2 : ¬ Float64.isZero (Float64.add mx mn) = true) (c3 : ¬ Float64.isZero (Float64.sub (Float64.sub f2 mx) mn) = true) (c4 : ¬ Float64.isZero (Float64.sub mx mn) = true) (c5 : rH fa fb fc mx (Float64.sub mx mn) = H)
    (c6 : (Float64.cmpInt (Float64.mul c37 l) ((2 * k + (mx3 m0 m1 m2 + mn3 m0 m1 m2)) * 2 ^ 30) != some Ordering.eq) = false) (c7 : Float64.isFinite (Float64.add (Float64.mul s (Float64.ofInt (endS ((2 * k + (mx3 m0 m1 m2 + mn3 m0 m1 m2)) * 2 ^ 30)))) cHalf) = true) (c8 : Flt.toInt Float64.truncOf (Float64.add (Float64.mul s (Float64.ofInt (endS ((2 * k + (mx3 m0 m1 m2 + mn3 m0 m1 m2)) * 2 ^ 30)))) cHalf) = (mx3 m0 m1 m2 - mn3 m0 m1 m2) * 2 ^ 30)
    (c9 : (Float64.cmp s 0 == some Ordering.eq) = false) (c11 : (Float64.cmp (Float64.div (Float64.add l l) f2) l == some Ordering.eq) = true) (c12 : (Float64.cmp l l == some Ordering.eq) = true) (c13 : okW (hlsM1 l s) ((k + mn3 m0 m1 m2) * 2 ^ 30) = true) (c14 : okW (hlsM2 l s) ((k + mx3 m0 m1 m2) * 2 ^ 30) = true)
    (c15 : ∀ g ∈ fs, okW (rampF (hlsM1 l s) (hlsM2 l s) g.1) ((k + g.2) * 2 ^ 30) = true) : SOk m0 m1 m2 k fa fb fc H fs := by
  subst hx hn
  have e1 : l = rgbL fa fb fc := hl.symm
  subst e1
  have e2 : s = rgbS fa fb fc := hs.symm
  subst e2
  refine ⟨c1, c2, c3, c4, c5, by rw [c37_eq]; exact c6, by rw [cHalf_eq]; exact c7, ?_, c9, ?_, ?_, c12, c13, c14, c15⟩
  · unfold wholeF; rw [cHalf_eq]; exact c8
  · rw [max3_self, min3_self]; exact c12
  · unfold rgbL at c11 ⊢
    rw [max3_self, min3_self]
    exact c11
theorem chkS_sound {m0 m1 m2 k : Int} {HA HB : UInt64} {fs : List (UInt64 × Int)} (h : chkS m0 m1 m2 HA HB fs k = true) : SOk m0 m1 m2 k (fj (k + m0)) (fj (k + m1)) (fj (k + m2)) HA fs ∧ SOk m0 m2 m1 k (fj (k + m0)) (fj (k + m2)) (fj (k + m1)) HB fs := by
  unfold chkS at h
  rw [st_eq, st_eq, st_eq, st_eq, st_eq, st_eq, st_eq, st_eq, st_eq, st_eq, st_eq, st_eq, st_eq, Bool.and_eq_true, decide_eq_true_eq, List.all_eq_true] at h
  obtain ⟨⟨q1, q2, c1, c2, c3, c4, c5, c5', c6, c7, c8, c9, c11, c12, c13, c14⟩, c15⟩ := h
  have ex : mx3 m0 m2 m1 = mx3 m0 m1 m2 := mx3_swap _ _ _
  have en : mn3 m0 m2 m1 = mn3 m0 m1 m2 := mn3_swap _ _ _
  refine ⟨sOk_of rfl rfl rfl rfl c1 c2 c3 c4 c5 c6 c7 c8 c9 c11 c12 c13 c14 c15, sOk_of q1 q2 rfl rfl c1 c2 c3 c4 c5' ?_ ?_ ?_ c9 c11 c12 ?_ ?_ c15⟩
  · rw [ex, en]; exact c6
  · rw [ex, en]; exact c7
  · rw [ex, en]; exact c8
  · rw [en]; exact c13
  · rw [ex]; exact c14
noncomputable def hueT (n : Nat) (root : Int) : UInt64 :=
  if n = 7 then (if root = 2 then 4605180818965630521 else 4597174419628082973) else
  if n = 13 then (if root = 3 then 4603804719079489536 else 4600427019358961664) else
  if n = 19 then (if root = 7 then 4606281698874543309 else 4591870180066957721) else
  if n = 31 then (if root = 5 then 4605431018944928881 else 4596173619710889528) else
  if n = 37 then (if root = 10 then 4603322190547985555 else 4601392076421969628) else
  0
noncomputable def facT (n : Nat) : List (UInt64 × Int) :=
  if n = 7 then [(4588167220373341952, 1), (4588167220373341968, 1), (4588167220373341976, 1), (4588167220373341984, 1), (4588167220373342000, 1), (4588167220373342016, 1), (4592670820000712456, 2), (4592670820000712464, 2), (4592670820000712472, 2), (4592670820000712476, 2), (4592670820000712480, 2), (4592670820000712488, 2)] else
  if n = 13 then [(4586165620538955056, 3), (4586165620538955072, 3), (4586165620538955088, 3), (4586165620538955096, 3), (4586165620538955104, 3), (4586165620538955136, 3), (4593671619917905896, 5), (4593671619917905904, 5), (4593671619917905912, 5), (4593671619917905916, 5), (4593671619917905920, 5), (4593671619917905922, 5), (4593671619917905924, 5), (4593671619917905928, 5)] else
  if n = 19 then [(4589468260265693440, 5), (4589468260265693448, 5), (4589468260265693456, 5), (4589468260265693460, 5), (4589468260265693464, 5), (4589468260265693472, 5), (4589468260265693480, 5), (4591870180066957704, 6), (4591870180066957712, 6), (4591870180066957720, 6), (4591870180066957721, 6), (4591870180066957724, 6), (4591870180066957728, 6), (4591870180066957736, 6)] else
  if n = 31 then [(4583663620745971456, 7), (4583663620745971472, 7), (4583663620745971480, 7), (4583663620745971488, 7), (4583663620745971520, 7), (4583663620745971552, 7), (4594172019876502628, 11), (4594172019876502632, 11), (4594172019876502636, 11), (4594172019876502638, 11), (4594172019876502640, 11), (4594172019876502644, 11)] else
  if n = 37 then [(4589811391665874056, 11), (4589811391665874064, 11), (4589811391665874068, 11), (4589811391665874072, 11), (4589811391665874076, 11), (4589811391665874080, 11), (4591527048666777096, 12), (4591527048666777104, 12), (4591527048666777112, 12), (4591527048666777116, 12), (4591527048666777120, 12)] else
  []
noncomputable def chkOne (n : Nat) (k : Nat) : Bool := if (k : Int) < 65 - mx3 (mixC n (rootA n)).1 (mixC n (rootA n)).2.1 (mixC n (rootA n)).2.2 then chkS (mixC n (rootA n)).1 (mixC n (rootA n)).2.1 (mixC n (rootA n)).2.2 (hueT n (rootA n)) (hueT n (rootB n)) (facT n) k else true
noncomputable def chkPart (n a : Nat) : Bool := (List.range 13).all fun j => chkOne n (13 * a + j)
noncomputable def chkAll (n : Nat) : Bool := (List.range 5).all fun a => chkPart n a
theorem all5 {n : Nat} (h0 : chkPart n 0 = true) (h1 : chkPart n 1 = true) (h2 : chkPart n 2 = true) (h3 : chkPart n 3 = true) (h4 : chkPart n 4 = true) : chkAll n = true := by
  show (chkPart n 0 && (chkPart n 1 && (chkPart n 2 && (chkPart n 3 && (chkPart n 4 && true))))) = true
  rw [h0, h1, h2, h3, h4]; rfl
noncomputable def chkAllH (n : Nat) (root : Int) : Bool := (List.range 5).all fun t => chkH (hueT n root) (facT n) (mn3 (mixC n root).1 (mixC n root).2.1 (mixC n root).2.2) (mx3 (mixC n root).1 (mixC n root).2.1 (mixC n root).2.2) (vT n root) ((t : Int) - 2)
theorem ca_7 : chkAll 7 = true := all5 (by decide +kernel) (by decide +kernel) (by decide +kernel) (by decide +kernel) (by decide +kernel)
theorem ca_13 : chkAll 13 = true := all5 (by decide +kernel) (by decide +kernel) (by decide +kernel) (by decide +kernel) (by decide +kernel)
theorem ca_19 : chkAll 19 = true := all5 (by decide +kernel) (by decide +kernel) (by decide +kernel) (by decide +kernel) (by decide +kernel)
theorem ca_31 : chkAll 31 = true := all5 (by decide +kernel) (by decide +kernel) (by decide +kernel) (by decide +kernel) (by decide +kernel)
theorem ca_37 : chkAll 37 = true := all5 (by decide +kernel) (by decide +kernel) (by decide +kernel) (by decide +kernel) (by decide +kernel)
theorem ch_7_2 : chkAllH 7 2 = true := by decide +kernel
theorem ch_7_4 : chkAllH 7 4 = true := by decide +kernel
theorem ch_13_3 : chkAllH 13 3 = true := by decide +kernel
theorem ch_13_9 : chkAllH 13 9 = true := by decide +kernel
theorem ch_19_7 : chkAllH 19 7 = true := by decide +kernel
theorem ch_19_11 : chkAllH 19 11 = true := by decide +kernel
theorem ch_31_5 : chkAllH 31 5 = true := by decide +kernel
theorem ch_31_25 : chkAllH 31 25 = true := by decide +kernel
theorem ch_37_10 : chkAllH 37 10 = true := by decide +kernel
theorem ch_37_26 : chkAllH 37 26 = true := by decide +kernel
theorem tally_len {q f k : Int} {n : Nat} (h : PQ q n) : (tallyI q f k n).length = n := by rw [tallyLen]; have := h.ranges.1; walk_at "OM"
theorem pow64 {w : Nat} (h : 6 ≤ w) : (64 : Int) ≤ 2 ^ w := by
  obtain ⟨k, rfl⟩ : ∃ k, w = 6 + k := ⟨w - 6, by walk_at "OM"⟩
  rw [Int.pow_add]
  have := pow2_pos k
  have e : (2 : Int) ^ 6 = 64 := by decide
  rw [e]; walk_at "OM"
noncomputable def digN (n : Nat) (root q e c : Int) (D : Nat) : Int := if D = 0 then q else q + abT n root (ix (pw q (4 * e ^ 3 * c ^ 2 * (D : Int))) (powI q root 6))
theorem absBits {x : Int} {k : Nat} (h0 : -(2 ^ k) < x) (h1 : x < 2 ^ k) : Builtin.Int.intBits x ≤ k := by
  refine intBits_le_iff.mpr ?_
  have : ((2 ^ k : Nat) : Int) = 2 ^ k := by push_cast; rfl
  walk_at "OM"
theorem mulBits {a b : Int} {k l : Nat} (ha : -(2 ^ k) < a ∧ a < 2 ^ k) (hb : -(2 ^ l) < b ∧ b < 2 ^ l) (hk : k ≤ 2 ^ 20) (hl : l ≤ 2 ^ 20) : IntMulOk a b :=
  IntMulOk.of_bits (Nat.le_trans (absBits ha.1 ha.2) hk) (Nat.le_trans (absBits hb.1 hb.2) hl)
noncomputable def dueF (n : Nat) (root q e c : Int) (i : Nat) : Int := 2 ^ Int.toNat 30 * q + 2 ^ 30 * abT n root (ix (pw q (4 * e ^ Int.toNat 3 * c ^ Int.toNat 2 * (1 + (i : Int) * 1))) (powI q root 6))
theorem mulLt {a b A B : Int} (a0 : 0 ≤ a) (a1 : a ≤ A) (b0 : 0 ≤ b) (b1 : b ≤ B) : 0 ≤ a * b ∧ a * b ≤ A * B := ⟨Int.mul_nonneg a0 b0, Int.mul_le_mul a1 b1 b0 (by walk_at "OM")⟩
theorem okSmall {a b : Int} (a0 : 0 ≤ a) (a1 : a < 1099511627776) (b0 : 0 ≤ b) (b1 : b < 1099511627776) : IntMulOk a b :=
  IntMulOk.of_bits (Nat.le_trans (bits40 a0 a1) (by decide)) (Nat.le_trans (bits40 b0 b1) (by decide))
theorem fmod_mul_ne {q : Int} {n : Nat} (h : PQ q n) {x y : Int} (hx : x.fmod q ≠ 0) (hy : y.fmod q ≠ 0) : (x * y).fmod q ≠ 0 := by
  obtain ⟨hqn, h7, h37, -⟩ := h.ranges
  have hq : 0 < q := by walk_at "OM"
  simp only [Int.fmod_eq_emod_of_nonneg _ (Int.le_of_lt hq)] at hx hy ⊢
  rw [Int.mul_emod]
  have a0 := Int.emod_nonneg x (show q ≠ 0 by walk_at "OM")
  have a1 := Int.emod_lt_of_pos x hq
  have b0 := Int.emod_nonneg y (show q ≠ 0 by walk_at "OM")
  have b1 := Int.emod_lt_of_pos y hq
  obtain ⟨a, ha⟩ := Int.eq_ofNat_of_zero_le a0
  obtain ⟨b, hb⟩ := Int.eq_ofNat_of_zero_le b0
  rw [ha] at a1 hx ⊢
  rw [hb] at b1 hy ⊢
  have chk : ∀ m ∈ [7, 13, 19, 31, 37], ∀ a < m, ∀ b < m, a ≠ 0 → b ≠ 0 → a * b % m ≠ 0 := by decide +kernel
  have hm : n ∈ [7, 13, 19, 31, 37] := by rcases h with ⟨-, rfl⟩ | ⟨-, rfl⟩ | ⟨-, rfl⟩ | ⟨-, rfl⟩ | ⟨-, rfl⟩ <;> decide
  have := chk n hm a (by walk_at "OM") b (by walk_at "OM") (by walk_at "OM") (by walk_at "OM")
  rw [hqn]
  intro hc
  apply this
  have hc' : ((a * b % n : Nat) : Int) = 0 := by push_cast; exact hc
  walk_at "OM"
theorem due_ok {q root e c : Int} {n : Nat} (h : PQ q n) (hr : root = rootA n ∨ root = rootB n) (he : 1 ≤ e ∧ e < q) (hc : 1 ≤ c ∧ c < q) (i : Nat) (hi : i < n - 1) :
    IntMulOk (2 ^ Int.toNat 30) q ∧ (Builtin.Int.intBits e : Int) * 3 ≤ 2 ^ 27 ∧ (Builtin.Int.intBits c : Int) * 2 ≤ 2 ^ 27 ∧ IntMulOk 4 (e ^ Int.toNat 3) ∧ IntMulOk (4 * e ^ Int.toNat 3) (c ^ Int.toNat 2) ∧
      IntMulOk (4 * e ^ Int.toNat 3 * c ^ Int.toNat 2) (1 + (i : Int) * 1) ∧ Good6 (powI q root 6) q (4 * e ^ Int.toNat 3 * c ^ Int.toNat 2 * (1 + (i : Int) * 1)) ∧ ix (pw q (4 * e ^ Int.toNat 3 * c ^ Int.toNat 2 * (1 + (i : Int) * 1))) (powI q root 6) < 6 := by
  obtain ⟨hqn, h7, h37, -⟩ := h.ranges
  have e3 : e ^ Int.toNat 3 = e * e * e := by show e ^ 3 = _; rw [Int.pow_succ, Int.pow_succ, Int.pow_succ, Int.pow_zero, Int.one_mul]
  have c2 : c ^ Int.toNat 2 = c * c := by show c ^ 2 = _; rw [Int.pow_succ, Int.pow_succ, Int.pow_zero, Int.one_mul]
  have b1 := mulLt (show 0 ≤ e by walk_at "OM") (show e ≤ 36 by walk_at "OM") (show 0 ≤ e by walk_at "OM") (show e ≤ 36 by walk_at "OM")
  have b2 := mulLt b1.1 b1.2 (show 0 ≤ e by walk_at "OM") (show e ≤ 36 by walk_at "OM")
  have b3 := mulLt (show 0 ≤ c by walk_at "OM") (show c ≤ 36 by walk_at "OM") (show 0 ≤ c by walk_at "OM") (show c ≤ 36 by walk_at "OM")
  have b4 := mulLt (show (0 : Int) ≤ 4 by decide) (Int.le_refl 4) b2.1 b2.2
  have b5 := mulLt b4.1 b4.2 b3.1 b3.2
  have b6 := mulLt b5.1 b5.2 (show 0 ≤ 1 + (i : Int) * 1 by walk_at "OM") (show 1 + (i : Int) * 1 ≤ 36 by walk_at "OM")
  rw [e3, c2]
  have hx : (4 * (e * e * e) * (c * c) * (1 + (i : Int) * 1)).fmod q ≠ 0 := by
    have f4 : (4 : Int).fmod q ≠ 0 := fmod_small (by decide) (by walk_at "OM")
    have fe : e.fmod q ≠ 0 := fmod_small (by walk_at "OM") (by walk_at "OM")
    have fc : c.fmod q ≠ 0 := fmod_small (by walk_at "OM") (by walk_at "OM")
    have fi : (1 + (i : Int) * 1).fmod q ≠ 0 := fmod_small (by walk_at "OM") (by walk_at "OM")
    exact fmod_mul_ne h (fmod_mul_ne h (fmod_mul_ne h f4 (fmod_mul_ne h (fmod_mul_ne h fe fe) fe)) (fmod_mul_ne h fc fc)) fi
  have g := good_any (x := 4 * (e * e * e) * (c * c) * (1 + (i : Int) * 1)) h hr hx (by
    have e40 : (2 : Nat) ^ 40 = 1099511627776 := by decide
    walk_at "OM")
  refine ⟨okSmall (by decide) (by decide) (by walk_at "OM") (by walk_at "OM"), powBits (by walk_at "OM") (by walk_at "OM") (by decide) (by decide), powBits (by walk_at "OM") (by walk_at "OM") (by decide) (by decide), okSmall (by decide) (by decide) (by walk_at "OM") (by walk_at "OM"), okSmall (by walk_at "OM") (by walk_at "OM") (by walk_at "OM") (by walk_at "OM"), okSmall (by walk_at "OM") (by walk_at "OM") (by walk_at "OM") (by walk_at "OM"), g, ?_⟩
  have := ix_get g.mem
  have hl : (powI q root 6).length = 6 := by simp [powI]
  have := (List.getElem?_eq_some_iff.mp this).1
  walk_at "OM"
noncomputable def g2T (n : Nat) : Int := if n = 7 then 3 else if n = 13 then 2 else if n = 19 then 2 else if n = 31 then 3 else 2
noncomputable def cl2 (n : Nat) (e : Int) : Nat := if (e ^ ((n - 1) / 2)).fmod n = 1 then 0 else 1
noncomputable def cl3 (n : Nat) (c : Int) : Nat := if (c ^ ((n - 1) / 3)).fmod n = 1 then 0 else if (c ^ ((n - 1) / 3)).fmod n = ((g2T n) ^ ((n - 1) / 3)).fmod n then 1 else 2
noncomputable def rep2 (n : Nat) (i : Nat) : Int := if i = 0 then 1 else g2T n
noncomputable def rep3 (n : Nat) (i : Nat) : Int := if i = 0 then 1 else if i = 1 then g2T n else g2T n * g2T n
noncomputable def one2 (n e : Nat) : Bool := decide (tallyI n ((e : Int) + 1) 2 n = tallyI n (rep2 n (cl2 n ((e : Int) + 1))) 2 n)
noncomputable def part9 (f : Nat → Bool) (n a : Nat) : Bool := (List.range 9).all fun j => decide (n - 1 ≤ 9 * a + j) || f (9 * a + j)
noncomputable def ck2 (n : Nat) : Bool := (List.range 4).all fun a => part9 (one2 n) n a
noncomputable def one3 (n c : Nat) : Bool := decide (tallyI n (-((c : Int) + 1)) 3 n = tallyI n (-(rep3 n (cl3 n ((c : Int) + 1)))) 3 n)
noncomputable def ck3 (n : Nat) : Bool := (List.range 4).all fun a => part9 (one3 n) n a
theorem all4 {f : Nat → Bool} {n : Nat} (h0 : part9 f n 0 = true) (h1 : part9 f n 1 = true) (h2 : part9 f n 2 = true) (h3 : part9 f n 3 = true) : ((List.range 4).all fun a => part9 f n a) = true := by
  show (part9 f n 0 && (part9 f n 1 && (part9 f n 2 && (part9 f n 3 && true)))) = true
  rw [h0, h1, h2, h3]; rfl
theorem all36 {f : Nat → Bool} {n : Nat} (hn : n ≤ 37) (h : ((List.range 4).all fun a => part9 f n a) = true) (k : Nat) (hk : k < n - 1) : f k = true := by
  rw [List.all_eq_true] at h
  have B := h (k / 9) (List.mem_range.mpr (Nat.div_lt_of_lt_mul (show k < 9 * 4 from Nat.lt_of_lt_of_le hk (Nat.le_trans (Nat.sub_le_sub_right hn 1) (by decide)))))
  unfold part9 at B
  rw [List.all_eq_true] at B
  replace B := B (k % 9) (List.mem_range.mpr (Nat.mod_lt _ (by decide)))
  rw [Nat.div_add_mod, Bool.or_eq_true, decide_eq_true_eq] at B
  exact B.resolve_left (by walk_at "OM")
noncomputable def ckP (n : Nat) : Bool := (List.range (n - 1)).all fun e => (List.range (n - 1)).all fun c => decide (pw n (4 * ((e : Int) + 1) ^ 3 * ((c : Int) + 1) ^ 2) = pw n (4 * (rep2 n (cl2 n ((e : Int) + 1))) ^ 3 * (rep3 n (cl3 n ((c : Int) + 1))) ^ 2))
noncomputable def ckT (n : Nat) : Bool := (List.range 2).all fun i => (tallyI n (rep2 n i) 2 n).all (fun x => decide (0 ≤ x ∧ x < 64)) && (List.range 3).all fun j => (tallyI n (-(rep3 n j)) 3 n).all (fun x => decide (0 ≤ x ∧ x < 64))
noncomputable def digG (n : Nat) (root q g : Int) (D : Nat) : Int := if D = 0 then q else q + abT n root (ix ((g * pw q (D : Int)).fmod q) (powI q root 6))
noncomputable def ckD (n : Nat) (root : Int) : Bool := (List.range 2).all fun i => (List.range 3).all fun j =>
  decide (cycL n (mulL (tallyI n (rep2 n i) 2 n) (tallyI n (-(rep3 n j)) 3 n)) = (List.range n).map (digG n root n (pw n (4 * (rep2 n i) ^ 3 * (rep3 n j) ^ 2)))) &&
  (List.range n).all fun D => decide (0 < digG n root n (pw n (4 * (rep2 n i) ^ 3 * (rep3 n j) ^ 2)) D ∧ digG n root n (pw n (4 * (rep2 n i) ^ 3 * (rep3 n j) ^ 2)) D < 63)
theorem k2_7 : ck2 7 = true := by decide +kernel
theorem k3_7 : ck3 7 = true := by decide +kernel
theorem kP_7 : ckP 7 = true := by decide +kernel
theorem kT_7 : ckT 7 = true := by decide +kernel
theorem kD_7_2 : ckD 7 2 = true := by decide +kernel
theorem kD_7_4 : ckD 7 4 = true := by decide +kernel
theorem k2_13 : ck2 13 = true := by decide +kernel
theorem k3_13 : ck3 13 = true := by decide +kernel
theorem kP_13 : ckP 13 = true := by decide +kernel
theorem kT_13 : ckT 13 = true := by decide +kernel
theorem kD_13_3 : ckD 13 3 = true := by decide +kernel
theorem kD_13_9 : ckD 13 9 = true := by decide +kernel
theorem k2_19 : ck2 19 = true := by decide +kernel
theorem k3_19 : ck3 19 = true := by decide +kernel
theorem kP_19 : ckP 19 = true := by decide +kernel
theorem kT_19 : ckT 19 = true := by decide +kernel
theorem kD_19_7 : ckD 19 7 = true := by decide +kernel
theorem kD_19_11 : ckD 19 11 = true := by decide +kernel
theorem k2_31 : ck2 31 = true := all4 (by decide +kernel) (by decide +kernel) (by decide +kernel) (by decide +kernel)
theorem k3_31 : ck3 31 = true := all4 (by decide +kernel) (by decide +kernel) (by decide +kernel) (by decide +kernel)
theorem kP_31 : ckP 31 = true := by decide +kernel
theorem kT_31 : ckT 31 = true := by decide +kernel
theorem kD_31_5 : ckD 31 5 = true := by decide +kernel
theorem kD_31_25 : ckD 31 25 = true := by decide +kernel
theorem k2_37 : ck2 37 = true := all4 (by decide +kernel) (by decide +kernel) (by decide +kernel) (by decide +kernel)
theorem k3_37 : ck3 37 = true := all4 (by decide +kernel) (by decide +kernel) (by decide +kernel) (by decide +kernel)
theorem kP_37 : ckP 37 = true := by decide +kernel
theorem kT_37 : ckT 37 = true := by decide +kernel
theorem kD_37_10 : ckD 37 10 = true := by decide +kernel
theorem kD_37_26 : ckD 37 26 = true := by decide +kernel
theorem ck_all {q : Int} {n : Nat} (h : PQ q n) : ck2 n = true ∧ ck3 n = true ∧ ckP n = true ∧ ckT n = true := by
  rcases h with ⟨-, rfl⟩ | ⟨-, rfl⟩ | ⟨-, rfl⟩ | ⟨-, rfl⟩ | ⟨-, rfl⟩
  · exact ⟨k2_7, k3_7, kP_7, kT_7⟩
  · exact ⟨k2_13, k3_13, kP_13, kT_13⟩
  · exact ⟨k2_19, k3_19, kP_19, kT_19⟩
  · exact ⟨k2_31, k3_31, kP_31, kT_31⟩
  · exact ⟨k2_37, k3_37, kP_37, kT_37⟩
theorem ckD_all {q root : Int} {n : Nat} (h : PQ q n) (hr : root = rootA n ∨ root = rootB n) : ckD n root = true := by
  rcases h with ⟨-, rfl⟩ | ⟨-, rfl⟩ | ⟨-, rfl⟩ | ⟨-, rfl⟩ | ⟨-, rfl⟩ <;> rcases hr with rfl | rfl
  · exact kD_7_2
  · exact kD_7_4
  · exact kD_13_3
  · exact kD_13_9
  · exact kD_19_7
  · exact kD_19_11
  · exact kD_31_5
  · exact kD_31_25
  · exact kD_37_10
  · exact kD_37_26
theorem cl2_lt (n : Nat) (e : Int) : cl2 n e < 2 := by unfold cl2; split <;> walk_at "OM"
theorem cl3_lt (n : Nat) (e : Int) : cl3 n e < 3 := by unfold cl3; split <;> (try split) <;> walk_at "OM"
section
variable {q root e c : Int} {n : Nat} (h : PQ q n) (hr : root = rootA n ∨ root = rootB n) (he : 1 ≤ e ∧ e < q) (hc : 1 ≤ c ∧ c < q)
include h he
theorem e_nat : ∃ k, k < n - 1 ∧ e = (k : Int) + 1 := by
  have h0 := h.ranges.1
  have h1 := Int.toNat_of_nonneg (Int.sub_nonneg_of_le he.1)
  have h2 := he.2
  clear h he
  generalize (e - 1).toNat = k at h1
  exact ⟨k, Nat.lt_sub_of_add_lt (show k + 1 < n by walk_at "OM"), by walk_at "OM"⟩
theorem tal2 : tallyI q e 2 n = tallyI q (rep2 n (cl2 n e)) 2 n := by
  obtain ⟨hqn, -, h37, -⟩ := h.ranges
  obtain ⟨k, hk, rfl⟩ := e_nat h he
  rw [hqn]
  exact of_decide_eq_true (all36 (f := one2 n) h37 (ck_all h).1 k hk)
theorem tal3 : tallyI q (-e) 3 n = tallyI q (-(rep3 n (cl3 n e))) 3 n := by
  obtain ⟨hqn, -, h37, -⟩ := h.ranges
  obtain ⟨k, hk, rfl⟩ := e_nat h he
  rw [hqn]
  exact of_decide_eq_true (all36 (f := one3 n) h37 (ck_all h).2.1 k hk)
theorem tal2_in : ∀ x ∈ tallyI q e 2 n, 0 ≤ x ∧ x < 64 := by
  obtain ⟨hqn, -⟩ := h.ranges
  rw [tal2 h he, hqn]
  have := (ck_all h).2.2.2
  unfold ckT at this
  rw [List.all_eq_true] at this
  have := this _ (List.mem_range.mpr (cl2_lt n e))
  rw [Bool.and_eq_true, List.all_eq_true] at this
  exact fun x hx => of_decide_eq_true (this.1 x hx)
theorem tal3_in : ∀ x ∈ tallyI q (-e) 3 n, 0 ≤ x ∧ x < 64 := by
  obtain ⟨hqn, -⟩ := h.ranges
  rw [tal3 h he, hqn]
  have := (ck_all h).2.2.2
  unfold ckT at this
  rw [List.all_eq_true] at this
  have := this 0 (List.mem_range.mpr (by decide))
  rw [Bool.and_eq_true] at this
  have := this.2
  rw [List.all_eq_true] at this
  have := this _ (List.mem_range.mpr (cl3_lt n e))
  rw [List.all_eq_true] at this
  exact fun x hx => of_decide_eq_true (this x hx)
include hc
theorem pwEq : pw q (4 * e ^ 3 * c ^ 2) = pw q (4 * (rep2 n (cl2 n e)) ^ 3 * (rep3 n (cl3 n c)) ^ 2) := by
  obtain ⟨hqn, -⟩ := h.ranges
  obtain ⟨k, hk, rfl⟩ := e_nat h he
  obtain ⟨j, hj, rfl⟩ := e_nat h hc
  have := (ck_all h).2.2.1
  unfold ckP at this
  rw [List.all_eq_true] at this
  have := this k (List.mem_range.mpr hk)
  rw [List.all_eq_true] at this
  rw [hqn]
  exact of_decide_eq_true (this j (List.mem_range.mpr hj))
theorem digEq (D : Nat) : digN n root q e c D = digG n root q (pw q (4 * (rep2 n (cl2 n e)) ^ 3 * (rep3 n (cl3 n c)) ^ 2)) D := by
  have hq : 0 < q := by have := h.ranges.1; have := h.ranges.2.1; walk_at "OM"
  unfold digN digG
  rw [← pwEq h he hc]
  have hm : pw q (4 * e ^ 3 * c ^ 2 * (D : Int)) = (pw q (4 * e ^ 3 * c ^ 2) * pw q (D : Int)).fmod q := by
    unfold pw
    rw [Int.mul_pow]
    simp only [Int.fmod_eq_emod_of_nonneg _ (Int.le_of_lt hq)]
    rw [← Int.mul_emod]
  rw [hm]
include hr
theorem cycEq : cycL n (mulL (tallyI q e 2 n) (tallyI q (-c) 3 n)) = (List.range n).map (digN n root q e c) := by
  obtain ⟨hqn, -⟩ := h.ranges
  rw [tal2 h he, tal3 h hc]
  have := ckD_all h hr
  unfold ckD at this
  rw [List.all_eq_true] at this
  have := this _ (List.mem_range.mpr (cl2_lt n e))
  rw [List.all_eq_true] at this
  have := this _ (List.mem_range.mpr (cl3_lt n c))
  rw [Bool.and_eq_true] at this
  have := of_decide_eq_true this.1
  rw [List.map_congr_left fun D _ => digEq (root := root) h he hc D, hqn]
  exact this
theorem digBd (D : Nat) (hD : D < n) : 0 < digN n root q e c D ∧ digN n root q e c D < 63 := by
  obtain ⟨hqn, -⟩ := h.ranges
  have := ckD_all h hr
  unfold ckD at this
  rw [List.all_eq_true] at this
  have := this _ (List.mem_range.mpr (cl2_lt n e))
  rw [List.all_eq_true] at this
  have := this _ (List.mem_range.mpr (cl3_lt n c))
  rw [Bool.and_eq_true, List.all_eq_true] at this
  have := of_decide_eq_true (this.2 D (List.mem_range.mpr hD))
  rw [digEq h he hc, hqn]
  exact this
end
theorem addL_len : ∀ a b : List Int, b.length ≤ (addL a b).length
  | [], b => by simp [addL]
  | x :: a, [] => by simp
  | x :: a, y :: b => by
    show b.length + 1 ≤ (addL a b).length + 1
    have := addL_len a b
    walk_at "OM"
theorem addL_len' : ∀ a b : List Int, a.length ≤ (addL a b).length
  | [], b => by simp
  | x :: a, [] => by simp [addL]
  | x :: a, y :: b => by
    show a.length + 1 ≤ (addL a b).length + 1
    have := addL_len' a b
    walk_at "OM"
theorem mulL_len {a b : List Int} (h : 0 < a.length) : b.length ≤ (mulL a b).length := by
  cases a with
  | nil => simp at h
  | cons x a =>
    show b.length ≤ (addL (b.map (x * ·)) (0 :: mulL a b)).length
    have := addL_len' (b.map (x * ·)) (0 :: mulL a b)
    simpa using this
theorem num_ok2 {q root e c : Int} {n wn : Nat} (h : PQ q n) (hr : root = rootA n ∨ root = rootB n) (he : 1 ≤ e ∧ e < q) (hc : 1 ≤ c ∧ c < q) (hw : 6 ≤ wn) :
    ∃ K R, d2iV wn (tallyI q e 2 n) * d2iV wn (tallyI q (-c) 3 n) = K * (2 ^ (n * wn) - 1) + R ∧ 0 < R ∧ R < 2 ^ (n * wn) - 1 ∧ 1 < d2iV wn (tallyI q e 2 n) * d2iV wn (tallyI q (-c) 3 n) ∧ d2iV wn (tallyI q e 2 n) * d2iV wn (tallyI q (-c) 3 n) < 2 ^ (2 * (n * wn)) ∧
      0 ≤ K ∧ 0 ≤ d2iV wn (tallyI q e 2 n) ∧ d2iV wn (tallyI q e 2 n) < 2 ^ (n * wn) ∧ 0 ≤ d2iV wn (tallyI q (-c) 3 n) ∧ d2iV wn (tallyI q (-c) 3 n) < 2 ^ (n * wn) ∧
      (∀ i, i < n → R / 2 ^ (i * wn) % 2 ^ wn = digN n root q e c i) ∧ ((Builtin.Int.intBits R : Int) + (wn : Int) - 1).fdiv (wn : Int) = (n : Int) := by
  obtain ⟨hqn, h7, h37, -⟩ := h.ranges
  have h64 := pow64 hw
  have bA : ∀ x ∈ tallyI q e 2 n, 0 ≤ x ∧ x < 2 ^ wn := fun x hx => by have := tal2_in h he x hx; walk_at "OM"
  have bC : ∀ x ∈ tallyI q (-c) 3 n, 0 ≤ x ∧ x < 2 ^ wn := fun x hx => by have := tal3_in h hc x hx; walk_at "OM"
  have lA : (tallyI q e 2 n).length = n := tally_len h
  have lC : (tallyI q (-c) 3 n).length = n := tally_len h
  have dA := d2iV_bound wn _ bA
  have dC := d2iV_bound wn _ bC
  rw [lA] at dA
  rw [lC] at dC
  have hm := mulL_val wn (tallyI q e 2 n) (tallyI q (-c) 3 n)
  have hcy := cyc_val (n := wn) (p := n) (m := mulL (tallyI q e 2 n) (tallyI q (-c) 3 n)) (by have := mulL_len (a := tallyI q e 2 n) (b := tallyI q (-c) 3 n) (by walk_at "OM"); walk_at "OM")
  rw [hm, cycEq h hr he hc] at hcy
  have bD : ∀ D, D < n → 0 < digN n root q e c D ∧ digN n root q e c D < 63 := fun D hD => digBd h hr he hc D hD
  generalize hP2 : d2iV wn (tallyI q e 2 n) = P2 at *
  generalize hP3 : d2iV wn (tallyI q (-c) 3 n) = P3 at *
  generalize d2iV wn ((mulL (tallyI q e 2 n) (tallyI q (-c) 3 n)).drop n) = K at *
  obtain ⟨m, hmn⟩ : ∃ m, n = m + 1 := ⟨n - 1, by walk_at "OM"⟩
  have hb : ∀ x ∈ (List.range n).map (digN n root q e c), 0 ≤ x ∧ x < 2 ^ wn := fun x hx => by
    obtain ⟨D, hD, rfl⟩ := List.mem_map.mp hx
    have := bD D (List.mem_range.mp hD)
    walk_at "OM"
  have hdg := d2iV_digit wn _ hb
  have hbd := d2iV_bound wn _ hb
  have htop : 2 ^ (m * wn) ≤ d2iV wn ((List.range n).map (digN n root q e c)) := by
    rw [hmn, List.range_succ, List.map_append]
    have := d2iV_top wn ((List.range m).map (digN n root q e c)) (digN n root q e c m) (fun x hx => by
      obtain ⟨D, hD, rfl⟩ := List.mem_map.mp hx
      have := bD D (by have := List.mem_range.mp hD; walk_at "OM")
      walk_at "OM") (bD m (by walk_at "OM")).1
    rw [List.length_map, List.length_range] at this
    rw [hmn] at this
    exact this
  have hR1 : d2iV wn ((List.range n).map (digN n root q e c)) + 1 < 2 ^ (n * wn) := by
    have e0 : (List.range n).map (digN n root q e c) = digN n root q e c 0 :: ((List.range m).map fun i => digN n root q e c (i + 1)) := by
      rw [hmn, List.range_succ_eq_map, List.map_cons, List.map_map]; rfl
    have := d2iV_bound wn ((digN n root q e c 0 + 1) :: ((List.range m).map fun i => digN n root q e c (i + 1))) (fun x hx => by
      rcases List.mem_cons.mp hx with rfl | hx
      · have := bD 0 (by walk_at "OM"); walk_at "OM"
      · obtain ⟨D, hD, rfl⟩ := List.mem_map.mp hx
        have := bD (D + 1) (by have := List.mem_range.mp hD; walk_at "OM")
        walk_at "OM")
    rw [List.length_cons, List.length_map, List.length_range, ← hmn] at this
    rw [e0]
    have e1 : d2iV wn ((digN n root q e c 0 + 1) :: ((List.range m).map fun i => digN n root q e c (i + 1))) = d2iV wn (digN n root q e c 0 :: ((List.range m).map fun i => digN n root q e c (i + 1))) + 1 := by
      show (digN n root q e c 0 + 1) + _ = digN n root q e c 0 + _ + 1
      walk_at "OM"
    walk_at "OM"
  generalize hR : d2iV wn ((List.range n).map (digN n root q e c)) = R at *
  have hpm := pow2_pos (m * wn)
  have hp2 : (2 : Int) ≤ 2 ^ (m * wn) := by
    obtain ⟨j, hj⟩ : ∃ j, m * wn = j + 1 := ⟨m * wn - 1, by have : 6 * 6 ≤ m * wn := Nat.mul_le_mul (by walk_at "OM") hw; walk_at "OM"⟩
    rw [hj, Int.pow_succ]
    have := pow2_pos j
    walk_at "OM"
  have hPn : 0 ≤ P2 * P3 := Int.mul_nonneg dA.1 dC.1
  have hK : 0 ≤ K := by
    apply Classical.byContradiction
    intro hc
    have : K * (2 ^ (n * wn) - 1) ≤ (-1) * (2 ^ (n * wn) - 1) := Int.mul_le_mul_of_nonneg_right (by walk_at "OM") (by walk_at "OM")
    walk_at "OM"
  have hKm : 0 ≤ K * (2 ^ (n * wn) - 1) := Int.mul_nonneg hK (by walk_at "OM")
  refine ⟨K, R, hcy, by walk_at "OM", by walk_at "OM", by walk_at "OM", ?_, hK, dA.1, dA.2, dC.1, dC.2, fun i hi => ?_, ?_⟩
  · rw [Nat.two_mul, Int.pow_add]
    have : P2 * P3 ≤ (2 ^ (n * wn) - 1) * (2 ^ (n * wn) - 1) := Int.mul_le_mul (by walk_at "OM") (by walk_at "OM") dC.1 (by walk_at "OM")
    have hx := pow2_pos (n * wn)
    generalize (2 : Int) ^ (n * wn) = X at *
    have : (X - 1) * (X - 1) < X * X := by
      have : (X - 1) * (X - 1) = X * X - 2 * X + 1 := by grind
      walk_at "OM"
    walk_at "OM"
  · rw [hdg i]
    simp [hi]
  · have b1 := natBits (k := n * wn) (by walk_at "OM") (show R < 2 ^ (n * wn) by walk_at "OM")
    have b2 : m * wn < Builtin.Int.intBits R := by
      apply Classical.byContradiction
      intro hc
      have := bitsGe (k := m * wn) (by walk_at "OM") (show Builtin.Int.intBits R ≤ m * wn by walk_at "OM")
      walk_at "OM"
    rw [Int.fdiv_eq_ediv_of_nonneg _ (by walk_at "OM")]
    have e1 : n * wn = m * wn + wn := by rw [hmn, Nat.add_mul, Nat.one_mul]
    have e2 : ((n : Nat) : Int) * (wn : Int) = ((m * wn + wn : Nat) : Int) := by rw [← e1, Int.natCast_mul]
    exact (ediv_uniq (r := (Builtin.Int.intBits R : Int) - ((m * wn : Nat) : Int) - 1) (by rw [e2]; walk_at "OM") (by walk_at "OM") (by walk_at "OM")).1.symm
theorem ca_n {q : Int} {n : Nat} (h : PQ q n) : chkAll n = true := by
  rcases h with ⟨-, rfl⟩ | ⟨-, rfl⟩ | ⟨-, rfl⟩ | ⟨-, rfl⟩ | ⟨-, rfl⟩
  · exact ca_7
  · exact ca_13
  · exact ca_19
  · exact ca_31
  · exact ca_37
theorem ch_n {q root : Int} {n : Nat} (h : PQ q n) (hr : root = rootA n ∨ root = rootB n) : chkAllH n root = true := by
  rcases h with ⟨-, rfl⟩ | ⟨-, rfl⟩ | ⟨-, rfl⟩ | ⟨-, rfl⟩ | ⟨-, rfl⟩ <;> rcases hr with rfl | rfl
  · exact ch_7_2
  · exact ch_7_4
  · exact ch_13_3
  · exact ch_13_9
  · exact ch_19_7
  · exact ch_19_11
  · exact ch_31_5
  · exact ch_31_25
  · exact ch_37_10
  · exact ch_37_26
theorem mixB {q : Int} {n : Nat} (h : PQ q n) : (mixC n (rootB n)).1 = (mixC n (rootA n)).1 ∧ (mixC n (rootB n)).2.1 = (mixC n (rootA n)).2.2 ∧ (mixC n (rootB n)).2.2 = (mixC n (rootA n)).2.1 := by
  rcases h with ⟨-, rfl⟩ | ⟨-, rfl⟩ | ⟨-, rfl⟩ | ⟨-, rfl⟩ | ⟨-, rfl⟩ <;> decide
theorem s_all {q root : Int} {n kn : Nat} (h : PQ q n) (hr : root = rootA n ∨ root = rootB n) (hk : (kn : Int) < 65 - mx3 (mixC n root).1 (mixC n root).2.1 (mixC n root).2.2) (hk0 : kn < 65) :
    SOk (mixC n root).1 (mixC n root).2.1 (mixC n root).2.2 kn (fj (kn + (mixC n root).1)) (fj (kn + (mixC n root).2.1)) (fj (kn + (mixC n root).2.2)) (hueT n root) (facT n) := by
  have A := ca_n h
  unfold chkAll at A
  rw [List.all_eq_true] at A
  have B := A (kn / 13) (List.mem_range.mpr (Nat.div_lt_of_lt_mul (show kn < 13 * 5 from hk0)))
  unfold chkPart at B
  rw [List.all_eq_true] at B
  replace B := B (kn % 13) (List.mem_range.mpr (Nat.mod_lt _ (by decide)))
  rw [Nat.div_add_mod] at B
  unfold chkOne at B
  obtain ⟨b1, b2, b3⟩ := mixB h
  have ex : mx3 (mixC n (rootA n)).1 (mixC n (rootA n)).2.2 (mixC n (rootA n)).2.1 = mx3 (mixC n (rootA n)).1 (mixC n (rootA n)).2.1 (mixC n (rootA n)).2.2 := mx3_swap _ _ _
  rcases hr with rfl | rfl
  · rw [if_pos hk] at B
    exact (chkS_sound B).1
  · rw [b1, b2, b3, ex] at hk
    rw [if_pos hk] at B
    rw [b1, b2, b3]
    exact (chkS_sound B).2
noncomputable def smallT (n : Nat) (root : Int) : Bool :=
  decide ((Float64.cmpInt (hueT n root) 0 == some Ordering.gt || Float64.cmpInt (hueT n root) 0 == some Ordering.eq) = true ∧ (Float64.cmpInt (hueT n root) 1 == some Ordering.lt) = true) &&
  decide (vT n root 0 0 = (mixC n root).1 ∧ vT n root 0 1 = (mixC n root).2.1 ∧ vT n root 0 2 = (mixC n root).2.2) &&
  (List.range 3).all (fun i => decide (vT n root 0 i + (vT n root 1 i + (vT n root 2 i + (vT n root 3 i + (vT n root 4 i + vT n root 5 i)))) = 3 * (mx3 (mixC n root).1 (mixC n root).2.1 (mixC n root).2.2 + mn3 (mixC n root).1 (mixC n root).2.1 (mixC n root).2.2))) &&
  (List.range 6).all (fun i => decide (0 ≤ vT n root i 0 ∧ vT n root i 0 ≤ 15))
theorem small_all {q root : Int} {n : Nat} (h : PQ q n) (hr : root = rootA n ∨ root = rootB n) : smallT n root = true := by
  rcases h with ⟨-, rfl⟩ | ⟨-, rfl⟩ | ⟨-, rfl⟩ | ⟨-, rfl⟩ | ⟨-, rfl⟩ <;> rcases hr with rfl | rfl <;> decide +kernel
theorem nat1023 {x : Int} (h0 : -1099511627776 < x) (h1 : x < 1099511627776) : x.natAbs < 2 ^ 1023 := by
  have e40 : (2 : Nat) ^ 40 = 1099511627776 := by decide
  have : (2 : Nat) ^ 40 ≤ 2 ^ 1023 := Nat.pow_le_pow_right (by decide) (by decide)
  walk_at "OM"
theorem ofJ (k m : Int) : Float64.ofFrac (decide (k * 2 ^ 30 + 2 ^ 30 * m < 0) != decide ((2 : Int) ^ Int.toNat 36 < 0)) (k * 2 ^ 30 + 2 ^ 30 * m).natAbs ((2 : Int) ^ Int.toNat 36).natAbs = fj (k + m) := by
  unfold fj
  rw [show k * 2 ^ 30 + 2 ^ 30 * m = (k + m) * 2 ^ 30 by walk_at "OM"]
theorem kP30 (k m : Int) : k * 2 ^ 30 + 2 ^ 30 * m = (k + m) * 2 ^ 30 := by walk_at "OM"
theorem kPmono (k x y : Int) (h : x ≤ y) : k * 2 ^ 30 + 2 ^ 30 * x ≤ k * 2 ^ 30 + 2 ^ 30 * y := by walk_at "OM"
theorem mxk (k a b c : Int) : mx3 (k * 2 ^ 30 + 2 ^ 30 * a) (k * 2 ^ 30 + 2 ^ 30 * b) (k * 2 ^ 30 + 2 ^ 30 * c) = (k + mx3 a b c) * 2 ^ 30 := (mx3_map (f := fun x => k * 2 ^ 30 + 2 ^ 30 * x) (kPmono k) a b c).trans (kP30 k _)
theorem mnk (k a b c : Int) : mn3 (k * 2 ^ 30 + 2 ^ 30 * a) (k * 2 ^ 30 + 2 ^ 30 * b) (k * 2 ^ 30 + 2 ^ 30 * c) = (k + mn3 a b c) * 2 ^ 30 := (mn3_map (f := fun x => k * 2 ^ 30 + 2 ^ 30 * x) (kPmono k) a b c).trans (kP30 k _)
theorem above_ok2 {q : Int} {n : Nat} {root k turns : Int} (h : PQ q n) (hr : root = rootA n ∨ root = rootB n) (hk : 0 ≤ k ∧ k < 65 - mx3 (mixC n root).1 (mixC n root).2.1 (mixC n root).2.2) (ht : turns.natAbs ≤ 2) :
    ∃ fa fb fc Hf, AboveF (k * 2 ^ 30 + 2 ^ 30 * (mixC n root).1) (k * 2 ^ 30 + 2 ^ 30 * (mixC n root).2.1) (k * 2 ^ 30 + 2 ^ 30 * (mixC n root).2.2) turns (VT n root k) fa fb fc Hf := by
  have A2 := ch_n h hr
  have mbd := mixC_b h hr
  have mxb := mx_b mbd
  have S := small_all h hr
  unfold smallT at S
  rw [Bool.and_eq_true, Bool.and_eq_true, Bool.and_eq_true, decide_eq_true_eq, decide_eq_true_eq, List.all_eq_true, List.all_eq_true] at S
  obtain ⟨⟨⟨⟨s1, s2⟩, s3, s4, s5⟩, s6⟩, s7⟩ := S
  unfold chkAllH at A2
  rw [List.all_eq_true] at A2
  obtain ⟨kn, rfl⟩ := Int.eq_ofNat_of_zero_le hk.1
  obtain ⟨tn, htn⟩ : ∃ tn : Nat, turns = (tn : Int) - 2 := ⟨(turns + 2).toNat, by walk_at "OM"⟩
  obtain ⟨c1, c2, c3, c4, c5, c6, c7, c8, c9, c10, c11, c12, c13, c14, c15⟩ := s_all h hr hk.2 (by walk_at "OM")
  have B2 := A2 tn (List.mem_range.mpr (by walk_at "OM"))
  rw [← htn] at B2
  clear A2
  generalize (mixC n root).1 = m0 at *
  generalize (mixC n root).2.1 = m1 at *
  generalize (mixC n root).2.2 = m2 at *
  have hM := mxk kn m0 m1 m2
  have hN := mnk kn m0 m1 m2
  have hE : mx3 (kn * 2 ^ 30 + 2 ^ 30 * m0) (kn * 2 ^ 30 + 2 ^ 30 * m1) (kn * 2 ^ 30 + 2 ^ 30 * m2) + mn3 (kn * 2 ^ 30 + 2 ^ 30 * m0) (kn * 2 ^ 30 + 2 ^ 30 * m1) (kn * 2 ^ 30 + 2 ^ 30 * m2) = (2 * kn + (mx3 m0 m1 m2 + mn3 m0 m1 m2)) * 2 ^ 30 := by rw [hM, hN]; walk_at "OM"
  have hD : mx3 (kn * 2 ^ 30 + 2 ^ 30 * m0) (kn * 2 ^ 30 + 2 ^ 30 * m1) (kn * 2 ^ 30 + 2 ^ 30 * m2) - mn3 (kn * 2 ^ 30 + 2 ^ 30 * m0) (kn * 2 ^ 30 + 2 ^ 30 * m1) (kn * 2 ^ 30 + 2 ^ 30 * m2) = (mx3 m0 m1 m2 - mn3 m0 m1 m2) * 2 ^ 30 := by rw [hM, hN]; walk_at "OM"
  have hmn : 0 ≤ mn3 m0 m1 m2 ∧ mn3 m0 m1 m2 ≤ 15 := by unfold mn3; walk_at "OM"
  have hVT : ∀ i ch, VT n root kn i ch = (kn + vT n root i ch) * 2 ^ 30 := fun i ch => by unfold VT; walk_at "OM"
  have hpt : (2 : Int) ^ Int.toNat 36 = 68719476736 := by decide
  refine ⟨fj (kn + m0), fj (kn + m1), fj (kn + m2), hf, ?_⟩
  refine ⟨nat1023 (by show _ < kn * 2 ^ 30 + 2 ^ 30 * m0; walk_at "OM") (by show kn * 2 ^ 30 + 2 ^ 30 * m0 < _; walk_at "OM"), nat1023 (by show _ < kn * 2 ^ 30 + 2 ^ 30 * m1; walk_at "OM") (by show kn * 2 ^ 30 + 2 ^ 30 * m1 < _; walk_at "OM"), nat1023 (by show _ < kn * 2 ^ 30 + 2 ^ 30 * m2; walk_at "OM") (by show kn * 2 ^ 30 + 2 ^ 30 * m2 < _; walk_at "OM"),
    ofJ kn m0, ofJ kn m1, ofJ kn m2, c1, c2, c3, c4, by rw [c5]; exact s1, by rw [c5]; exact s2, by rw [hE]; exact c6, ?_, by rw [hE]; exact c7, by rw [hE, hD]; exact c8, c9, fun i _ => rfl, fun i hi => ?_, fun i hi => ?_, c10, c11, c12, ?_, fun i hi => ?_⟩
  · rw [hE, hpt]
    split
    · exact nat1023 (by walk_at "OM") (by walk_at "OM")
    · exact nat1023 (by walk_at "OM") (by walk_at "OM")
  · obtain ⟨k1, k2, k3⟩ := chkH_sound B2 i hi
    rw [c5]
    have z1 := okW_fin (kindOk_sound k1 c13 c14 c15)
    have z2 := okW_fin (kindOk_sound k2 c13 c14 c15)
    have z3 := okW_fin (kindOk_sound k3 c13 c14 c15)
    rw [hVT, hVT, hVT]
    exact ⟨z1.1, z2.1, z3.1, z1.2, z2.2, z3.2⟩
  · have hs := of_decide_eq_true (s6 i (List.mem_range.mpr hi))
    rw [hE]
    have e0 : (colL (VT n root kn) i).sum = VT n root kn 0 i + (VT n root kn 1 i + (VT n root kn 2 i + (VT n root kn 3 i + (VT n root kn 4 i + (VT n root kn 5 i + 0))))) := by
      obtain rfl | rfl | rfl : i = 0 ∨ i = 1 ∨ i = 2 := by walk_at "OM"
      · rfl
      · rfl
      · rfl
    rw [e0]
    simp only [hVT]
    walk_at "OM"
  · rw [hVT, hVT, hVT, s3, s4, s5]
    rw [show (kn + m0) * 2 ^ 30 = kn * 2 ^ 30 + 2 ^ 30 * m0 by walk_at "OM", show (kn + m1) * 2 ^ 30 = kn * 2 ^ 30 + 2 ^ 30 * m1 by walk_at "OM", show (kn + m2) * 2 ^ 30 = kn * 2 ^ 30 + 2 ^ 30 * m2 by walk_at "OM"]
  · have hs := of_decide_eq_true (s7 i (List.mem_range.mpr hi))
    rw [hVT]
    exact okSmall (by decide) (by decide) (by walk_at "OM") (by walk_at "OM")
section
variable {w : World} {p : Program} {loose : List Str} {mean : ExcName → Option Value} {mg mb : Str → Option Value}
theorem idm_law {P G K R up dn : Int} {nn : Nat} (hu : up = 1 ∨ up = -1) (hd : dn = 1 ∨ dn = -1) (hP : P = K * G + R) (hR : 0 < R) (hRG : R < G) (h1 : 1 < P) (hP2 : P < 2 ^ (2 * nn)) (hG0 : 2 ^ (nn - 1) ≤ G) (hG1 : G < 2 ^ nn) (hn : 0 < nn) (hn6 : nn ≤ 64000) :
    ∃ x y, IDM w p loose mean mg mb 77 14 (up * P) (dn * G) x y ∧ x * (dn * G) + y = up * P ∧ (up = dn → dn * y = R) ∧ (up ≠ dn → G - dn * y = R) ∧ (x = K ∨ x = -K - 1) ∧ (y = R ∨ y = -R ∨ y = G - R ∨ y = R - G) := by
  have hGp : 0 < G := by walk_at "OM"
  have q1 := ediv_uniq (a := P) (b := G) (q := K) (r := R) hP (by walk_at "OM") hRG
  have q2 := ediv_uniq (a := P - 1) (b := G) (q := K) (r := R - 1) (by walk_at "OM") (by walk_at "OM") (by walk_at "OM")
  have d1 : IDM w p loose mean mg mb 77 12 P G (P / G) (P % G) := idm_pos (by walk_at "OM") hGp (divpos_IDM (by walk_at "OM") hG0 hG1 hn hn6 hP2)
  have d2 : IDM w p loose mean mg mb 77 13 (-P) G (Builtin.bitNot ((P - 1) / G)) (G + Builtin.bitNot ((P - 1) % G)) := by
    have d0 : IDM w p loose mean mg mb 77 12 (P - 1) G ((P - 1) / G) ((P - 1) % G) := idm_pos (by walk_at "OM") hGp (divpos_IDM (by walk_at "OM") hG0 hG1 hn hn6 (by walk_at "OM"))
    have this : IDM w p loose mean mg mb 77 13 (-(P - 1) - 1) G (Builtin.bitNot ((P - 1) / G)) (G + Builtin.bitNot ((P - 1) % G)) := idm_neg (by walk_at "OM") hGp @d0
    rw [show -(P - 1) - 1 = -P by walk_at "OM"] at this
    exact @this
  rw [← q1.1, ← q1.2] at d1
  rw [← q2.1, ← q2.2] at d2
  have e1 : Builtin.bitNot K = -K - 1 := rfl
  have e2 : Builtin.bitNot (R - 1) = -R := by unfold Builtin.bitNot; walk_at "OM"
  rw [e1, e2] at d2
  rcases hu with rfl | rfl <;> rcases hd with rfl | rfl
  · refine ⟨K, R, ?_, ?_, fun _ => by walk_at "OM", fun h => absurd rfl h, by walk_at "OM", by walk_at "OM"⟩
    · rw [Int.one_mul, Int.one_mul]; intro A s Q E ps1 ps8 ta tb hA; exact @d1 A s Q E ps1 ps8 ta tb (hA.mono (by decide))
    · rw [Int.one_mul, Int.one_mul]; exact hP.symm
  · refine ⟨-K - 1, -(G + -R), ?_, ?_, fun h => by walk_at "OM", fun _ => by walk_at "OM", by walk_at "OM", by walk_at "OM"⟩
    · have this : IDM w p loose mean mg mb 77 14 (- -P) (-G) (-K - 1) (-(G + -R)) := idm_bneg hGp @d2
      rw [Int.neg_neg] at this
      rw [Int.one_mul, Int.neg_one_mul]; intro A s Q E ps1 ps8 ta tb hA; exact @this A s Q E ps1 ps8 ta tb (hA.mono (by decide))
    · rw [hP]; grind
  · refine ⟨-K - 1, G + -R, ?_, ?_, fun h => by walk_at "OM", fun _ => by walk_at "OM", by walk_at "OM", by walk_at "OM"⟩
    · rw [Int.one_mul, Int.neg_one_mul]; intro A s Q E ps1 ps8 ta tb hA; exact @d2 A s Q E ps1 ps8 ta tb (hA.mono (by decide))
    · rw [hP]; grind
  · refine ⟨K, -R, ?_, ?_, fun _ => by walk_at "OM", fun h => absurd rfl h, by walk_at "OM", by walk_at "OM"⟩
    · rw [Int.neg_one_mul, Int.neg_one_mul]; have this : IDM w p loose mean mg mb 77 13 (-P) (-G) K (-R) := idm_bneg hGp @d1
      intro A s Q E ps1 ps8 ta tb hA; exact @this A s Q E ps1 ps8 ta tb (hA.mono (by decide))
    · rw [hP]; grind
end
theorem due_eq {n wn : Nat} {root q e c R : Int} (hn : 7 ≤ n) (hdig : ∀ i, i < n → R / 2 ^ (i * wn) % 2 ^ wn = digN n root q e c i) :
    (List.range n).map (fun i => 2 ^ Int.toNat 30 * (R / 2 ^ (i * wn) % 2 ^ wn)) = [2 ^ Int.toNat 30 * q] ++ (List.range (n - 1)).map (dueF n root q e c) := by
  rw [List.map_congr_left (g := fun i => 2 ^ Int.toNat 30 * digN n root q e c i) (fun i hi => by rw [hdig i (List.mem_range.mp hi)])]
  obtain ⟨m, rfl⟩ : ∃ m, n = m + 1 := ⟨n - 1, by walk_at "OM"⟩
  rw [List.range_succ_eq_map, List.map_cons, List.map_map, Nat.add_sub_cancel]
  show 2 ^ Int.toNat 30 * digN (m + 1) root q e c 0 :: _ = 2 ^ Int.toNat 30 * q :: _
  have h0 : digN (m + 1) root q e c 0 = q := rfl
  rw [h0]
  congr 1
  refine List.map_congr_left fun i _ => ?_
  show 2 ^ Int.toNat 30 * digN (m + 1) root q e c (i + 1) = dueF (m + 1) root q e c i
  have h1 : digN (m + 1) root q e c (i + 1) = q + abT (m + 1) root (ix (pw q (4 * e ^ 3 * c ^ 2 * ((i + 1 : Nat) : Int))) (powI q root 6)) := rfl
  rw [h1, Int.mul_add]
  unfold dueF
  rw [show 1 + (i : Int) * 1 = ((i + 1 : Nat) : Int) by walk_at "OM"]
  rfl
theorem tally2_b2 {q e : Int} {n : Nat} (h : PQ q n) (he : 1 ≤ e ∧ e < q) (i : Nat) (hi : i < n) : (Builtin.Int.intBits (0 + (i : Int) * 1) : Int) * 2 ≤ 2 ^ 27 ∧ IntMulOk e ((0 + (i : Int) * 1) ^ (2 : Int).toNat) := by
  obtain ⟨hqn, h7, h37, -⟩ := h.ranges
  have e2 : (0 + (i : Int) * 1) ^ (2 : Int).toNat = (0 + (i : Int) * 1) * (0 + (i : Int) * 1) := by show _ ^ 2 = _; rw [Int.pow_succ, Int.pow_succ, Int.pow_zero, Int.one_mul]
  have b := mulLt (show 0 ≤ 0 + (i : Int) * 1 by walk_at "OM") (show 0 + (i : Int) * 1 ≤ 36 by walk_at "OM") (show 0 ≤ 0 + (i : Int) * 1 by walk_at "OM") (show 0 + (i : Int) * 1 ≤ 36 by walk_at "OM")
  rw [e2]
  exact ⟨powBits (by walk_at "OM") (by walk_at "OM") (by decide) (by decide), okSmall (by walk_at "OM") (by walk_at "OM") (by walk_at "OM") (by walk_at "OM")⟩
theorem tally3_b2 {q c : Int} {n : Nat} (h : PQ q n) (hc : 1 ≤ c ∧ c < q) (i : Nat) (hi : i < n) : (Builtin.Int.intBits (0 + (i : Int) * 1) : Int) * 3 ≤ 2 ^ 27 ∧ IntMulOk (-c) ((0 + (i : Int) * 1) ^ (3 : Int).toNat) := by
  obtain ⟨hqn, h7, h37, -⟩ := h.ranges
  have e3 : (0 + (i : Int) * 1) ^ (3 : Int).toNat = (0 + (i : Int) * 1) * (0 + (i : Int) * 1) * (0 + (i : Int) * 1) := by show _ ^ 3 = _; rw [Int.pow_succ, Int.pow_succ, Int.pow_succ, Int.pow_zero, Int.one_mul]
  have b := mulLt (show 0 ≤ 0 + (i : Int) * 1 by walk_at "OM") (show 0 + (i : Int) * 1 ≤ 36 by walk_at "OM") (show 0 ≤ 0 + (i : Int) * 1 by walk_at "OM") (show 0 + (i : Int) * 1 ≤ 36 by walk_at "OM")
  have b2 := mulLt b.1 b.2 (show 0 ≤ 0 + (i : Int) * 1 by walk_at "OM") (show 0 + (i : Int) * 1 ≤ 36 by walk_at "OM")
  rw [e3]
  have e40 : (2 : Int) ^ 40 = 1099511627776 := by decide
  exact ⟨powBits (by walk_at "OM") (by walk_at "OM") (by decide) (by decide), mulBits (k := 40) (l := 40) ⟨by walk_at "OM", by walk_at "OM"⟩ ⟨by walk_at "OM", by walk_at "OM"⟩ (by decide) (by decide)⟩
theorem tally2_lt {q e : Int} {n w : Nat} (h : PQ q n) (he : 1 ≤ e ∧ e < q) (hw : 6 ≤ w) : ∀ x ∈ tallyI q e 2 n, 0 ≤ x ∧ x < 2 ^ w := fun x hx => by
  have := tal2_in h he x hx
  have := pow64 hw
  walk_at "OM"
theorem tally3_lt {q c : Int} {n w : Nat} (h : PQ q n) (hc : 1 ≤ c ∧ c < q) (hw : 6 ≤ w) : ∀ x ∈ tallyI q (-c) 3 n, 0 ≤ x ∧ x < 2 ^ w := fun x hx => by
  have := tal3_in h hc x hx
  have := pow64 hw
  walk_at "OM"
theorem newsAllLt {h₀ h : Heap} {L : Addr} {news : List (Addr × Obj)} (N : News h₀ L h news) : ∀ p ∈ news, @LT.lt Nat _ p.1 h.objs.size := fun p hp => Heap.lt_size (N p hp).1
theorem frLtS {h₀ h : Heap} {L : Addr} {m : Str → Option Value} (F : Fr h₀ L h m) : @LT.lt Nat _ L h.objs.size := F.ns.lt
theorem sumArr {prog : Program} {w : World} {A : Around} {E : Value → Shared → Prop} {s : Shared} {l : Addr} {arr : Array Value} {ns : List Int} {Q : Value → Shared → Prop} (hh : A.handled = none) (hl : s.heap.IsList l arr) (hi : IntsAre arr.toList ns)
    (h : ∀ h' tk t', Kp s.heap h' → Q (.int ns.sum t') { s with heap := h', toks := tk }) :
    wpAny (model prog w) A (call (.builtin "sum") [.ref l]) Q E s := sumKp hh (vs := arr.toList) hl hi h
theorem slice3_Kp {prog : Program} {w : World} {A : Around} {E : Value → Shared → Prop} {s : Shared} {h₀ : Heap} {L : Addr} {m : Mp} {news : List (Addr × Obj)} {value slice : PySem.Expr} {l : Addr} {items : Array Value} {vl vu vk : Value} {lo hi st : Option Int} {ops : List Value} {Q : Value → Shared → Prop}
    (F : Fr h₀ L s.heap m) (N : News h₀ L s.heap news) (hl : s.heap.IsList l items) (pl : IsPart vl lo) (pu : IsPart vu hi) (pk : IsPart vk st) (h0 : st ≠ some 0)
    (h : ∀ h', Kp s.heap h' → Fr h₀ L h' m → News h₀ L h' ((s.heap.objs.size + 1, { cls := .type "list", data := .seq (slicePick items lo hi st) }) :: news) → Q (.ref (s.heap.objs.size + 1)) { s with heap := h' })
    (hs : subscripted slice false (.ref l) (.ref s.heap.objs.size) = operate ops (getItem (.ref l) (.ref s.heap.objs.size)) := by with_unfolding_all rfl)
    (ht : ∀ r, letTemporaryGo value (.ref l) r = pure () := by intro _; with_unfolding_all rfl)
    (hsz : items.size ≤ sizeLine := by size_fits) :
    wpAny (model prog w) A (subscriptTail value slice (.ref l) (.ref s.heap.objs.size)) Q E { s with heap := s.heap.push { cls := .type "slice", data := .fields #[vl, vu, vk] } } := by
  refine subscriptTail_ops (Heap.IsList.typeIs (s := { s with heap := s.heap.push { cls := .type "slice", data := .fields #[vl, vu, vk] } }) (hl.push _)) list_getitem_lookup
    (wpAny_getItem_list_slice (hl.push _) (Heap.IsSliceOf.new ..) pl pu pk h0 ?_ hsz) hs ht
  have N1 := News.push (F.push { cls := .type "slice", data := .fields #[vl, vu, vk] }) (N.grown fun _ _ e => Heap.get?_push_of_some _ e) { cls := .type "list", data := .seq (slicePick items lo hi st) }
  rw [Heap.size_push] at N1
  show Q (.ref (s.heap.push _).objs.size) _
  rw [Heap.size_push]
  exact h _ (fun b o e => Heap.get?_push_of_some _ (Heap.get?_push_of_some _ e)) ((F.push _).push _) N1
theorem IntsV.fourK {P : Prop} {vs : List Value} {zs : List Int} (h : IntsV vs zs) (hz : zs.length = 4) (k : ∀ c0 c1 c2 c3 t0 t1 t2 t3, zs = [c0, c1, c2, c3] → vs = [.int c0 t0, .int c1 t1, .int c2 t2, .int c3 t3] → P) : P := by
  obtain ⟨a, y0, f0, g0⟩ := lenCons hz
  obtain ⟨b, y1, f1, g1⟩ := lenCons g0
  obtain ⟨c, y2, f2, g2⟩ := lenCons g1
  obtain ⟨d, y3, f3, g3⟩ := lenCons g2
  have e : zs = [a, b, c, d] := by rw [f0, f1, f2, f3, List.eq_nil_of_length_eq_zero g3]
  rw [e] at h
  obtain ⟨u0, r0, e0, h0⟩ := h.inv
  obtain ⟨u1, r1, e1, h1⟩ := h0.inv
  obtain ⟨u2, r2, e2, h2⟩ := h1.inv
  obtain ⟨u3, r3, e3, h3⟩ := h2.inv
  exact k a b c d u0 u1 u2 u3 e (by rw [e0, e1, e2, e3, h3.inv0])
theorem d2iRet {g h h' : Heap} {L : Addr} {m : Mp} {news : List (Addr × Obj)} {u : Obj → List (Addr × Obj)} {ps' : Array Value} {q : Str} (F : Fr g L h m) (N : News g L h news) (U : UpdF 58 (tabObj #[]) news u)
    (K : ∀ b o, b ≠ 58 → h.get? b = some o → h'.get? b = some o) (e58 : h'.get? 58 = some (tabObj ps')) (S' : TabSt h' 92 4 q ps') (G : ((#[] : Array Value) = #[] ∧ ∃ c' : Nat, ps' = #[rawInt 92, rawInt 4, .ref c'] ∧ h.objs.size ≤ c') ∨ (ps' = #[] ∧ (#[] : Array Value) ≠ #[])) :
    ∃ c' oc, Fr g L h' m ∧ News g L h' ((c', oc) :: u (tabObj ps')) ∧ ps' ≠ #[] ∧ (∀ g' : Heap, g'.get? c' = some oc → TabSt g' 92 4 q ps') ∧ (∀ p ∈ news, @LT.lt Nat _ p.1 c') := by
  have z := N _ (updMem U)
  have F' := frBut F z.2.1 z.2.2 K
  have N' := newsUpd N U K e58
  rcases G with ⟨-, c', rfl, hc⟩ | ⟨-, hn⟩
  · rcases S' with e | ⟨c2, e, b0, oc, vs, t, e1, e2, e3, e4⟩
    · simp at e
    · have : c2 = c' := by simpa using e.symm
      subst this
      cases e1
      have hLc : @LT.lt Nat _ L c2 := Nat.lt_of_lt_of_le F.ns.lt hc
      exact ⟨c2, oc, F', newsCons e2 (neA (by walk_at "NEQ")) (fresh_ge F hLc) N', by simp, fun g' k => Or.inr ⟨c2, rfl, c2, oc, vs, t, rfl, k, e3, e4⟩, fun p hp => Nat.lt_of_lt_of_le (Heap.lt_size (N p hp).1) hc⟩
  · exact absurd rfl hn
theorem idmRet {g h h' : Heap} {L : Addr} {m : Mp} {news : List (Addr × Obj)} {u : Obj → List (Addr × Obj)} {ps' : Array Value} {q : Str} {l : Addr} {o : Obj} (F : Fr g L h m) (N : News g L h news) (U : UpdF 51 (tabObj #[]) news u)
    (K : ∀ b o, b ≠ 51 → h.get? b = some o → h'.get? b = some o) (e51 : h'.get? 51 = some (tabObj ps')) (S' : TabSt h' 77 4 q ps') (G : ((#[] : Array Value) = #[] ∧ ∃ c' : Nat, ps' = #[rawInt 77, rawInt 4, .ref c'] ∧ h.objs.size ≤ c') ∨ ps' = #[]) (hl : h.objs.size ≤ l) (el : h'.get? l = some o) :
    ∃ z oz, Fr g L h' m ∧ News g L h' ((l, o) :: (z, oz) :: u (tabObj ps')) ∧ (∀ g' : Heap, g'.get? z = some oz → TabSt g' 77 4 q ps') ∧ (∀ p ∈ news, @LT.lt Nat _ p.1 l) ∧ (z = 51 → ps' = #[]) := by
  have z := N _ (updMem U)
  have F' := frBut F z.2.1 z.2.2 K
  have N' := newsUpd N U K e51
  have hLl : @LT.lt Nat _ L l := Nat.lt_of_lt_of_le F.ns.lt hl
  have hp : ∀ p ∈ news, @LT.lt Nat _ p.1 l := fun p hp => Nat.lt_of_lt_of_le (Heap.lt_size (N p hp).1) hl
  have h51 : @LT.lt Nat _ 51 h.objs.size := Heap.lt_size z.1
  rcases G with ⟨-, c', rfl, hc⟩ | rfl
  · rcases S' with e | ⟨c2, e, b0, oc, vs, t, e1, e2, e3, e4⟩
    · simp at e
    · have : c2 = c' := by simpa using e.symm
      subst this
      cases e1
      have hLc : @LT.lt Nat _ L c2 := Nat.lt_of_lt_of_le F.ns.lt hc
      exact ⟨c2, oc, F', newsCons el (neA (by walk_at "NEQ")) (fresh_ge F hLl) (newsCons e2 (neA (by walk_at "NEQ")) (fresh_ge F hLc) N'), fun g' k => Or.inr ⟨c2, rfl, c2, oc, vs, t, rfl, k, e3, e4⟩, hp, fun q => absurd q (neA (by walk_at "NEQ"))⟩
  · exact ⟨51, _, F', newsCons el (neA (by walk_at "NEQ")) (fresh_ge F hLl) (newsCons e51 z.2.1 z.2.2 N'), fun g' _ => Or.inl rfl, hp, fun _ => rfl⟩
theorem ifexp_cut {prog : Program} {w : World} {A : Around} {E : Value → Shared → Prop} {s s' : Shared} {g : Heap} {L : Addr} {m : Mp} {news : List (Addr × Obj)} {t : Sem Value} {R : Int} {Q : Value → Shared → Prop} (F : Fr g L s'.heap m) (N : News g L s'.heap news)
    (hcut : wpAny (model prog w) A t (CEnd s s'.heap (fun v _ => ∃ u, v = .int R u)) E s') (k : ∀ u h' tk', Fr g L h' m → News g L h' news → Q (.int R u) { s with heap := h', toks := tk' }) : wpAny (model prog w) A t Q E s' := by
  refine wpAny_mono hcut (fun v s1 hh => ?_) fun _ _ e => e
  obtain ⟨h', tk', rfl, K, u, rfl⟩ := hh
  exact k u h' tk' (frKp F K) (newsKp N K)
theorem kHide {g h : Heap} {L : Addr} {m : Mp} {a : Addr} (F : Fr g L h m) (n : g.get? a = none) : ∀ b o, g.get? b = some o → (hideAll h [a]).get? b = some o := fun b o e => hideAll_get _ (F.keep _ _ e) fun q => by rw [List.mem_singleton.mp q, n] at e; cases e
theorem kHide2 {g h : Heap} {L : Addr} {m : Mp} (F : Fr g L h m) (n1 : g.get? 51 = none) (n8 : g.get? 58 = none) : ∀ b o, g.get? b = some o → (hideAll h [51, 58]).get? b = some o := fun b o e => hideAll_get _ (F.keep _ _ e) fun q => by
  rcases List.mem_cons.mp q with q | q
  · rw [q, n1] at e; cases e
  · rw [List.mem_singleton.mp q, n8] at e; cases e
noncomputable def isFn (K : Frag) (a : Addr) : Bool := match K.lookup a with | some ⟨_, _, .func _, _⟩ => true | _ => false
theorem hdA {q : Int} (hq : 2 ≤ q) (c : Int) : 1 ≤ 1 + c.fmod (q - 1) ∧ 1 + c.fmod (q - 1) < q := by
  have h := Int.fmod_nonneg_of_pos c (show 0 < q - 1 by walk_at "OM")
  have h' := Int.fmod_lt_of_pos c (show 0 < q - 1 by walk_at "OM")
  clear hq
  generalize c.fmod (q - 1) = x at h h' ⊢
  exact ⟨by walk_at "OM", by walk_at "OM"⟩
theorem hdB (x : Int) : 1 - x.fmod 2 * 2 = 1 ∨ 1 - x.fmod 2 * 2 = -1 := by
  have h := Int.fmod_nonneg_of_pos x (show (0 : Int) < 2 by decide)
  have h' := Int.fmod_lt_of_pos x (show (0 : Int) < 2 by decide)
  generalize x.fmod 2 = y at h h' ⊢
  walk_at "OM"
theorem hdC (x : Int) : (x.fmod 5 - 2).natAbs ≤ 2 := by
  have h := Int.fmod_nonneg_of_pos x (show (0 : Int) < 5 by decide)
  have h' := Int.fmod_lt_of_pos x (show (0 : Int) < 5 by decide)
  generalize x.fmod 5 = y at h h' ⊢
  walk_at "OM"
theorem hdD (x : Int) : 6 ≤ 6 + x.fmod 1000 ∧ 6 + x.fmod 1000 < 1006 := ⟨Int.add_le_add_left (Int.fmod_nonneg_of_pos x (by decide)) 6, Int.add_lt_add_left (Int.fmod_lt_of_pos x (by decide)) 6⟩
theorem hdrK {P : Prop} {c0 c1 c2 c3 q : Int} (hq : 2 ≤ q) (k : ∀ (ei ci up dn turns : Int) (wn : Nat), 1 + c1.fmod (q - 1) = ei → 1 + c2.fmod (q - 1) = ci → 1 - (c1.fdiv (q - 1)).fmod 2 * 2 = up → 1 - (c2.fdiv (q - 1)).fmod 2 * 2 = dn → (c0.fdiv 10).fmod 5 - 2 = turns → 6 + c3.fmod 1000 = (wn : Int) →
    (1 ≤ ei ∧ ei < q) → (1 ≤ ci ∧ ci < q) → (up = 1 ∨ up = -1) → (dn = 1 ∨ dn = -1) → turns.natAbs ≤ 2 → (6 ≤ (wn : Int) ∧ (wn : Int) < 1006) → P) : P := by
  have e6 := hdD c3
  have ew : 6 + c3.fmod 1000 = ((6 + c3.fmod 1000).toNat : Int) := (Int.toNat_of_nonneg (Int.le_trans (by decide) e6.1)).symm
  exact k _ _ _ _ _ (6 + c3.fmod 1000).toNat rfl rfl rfl rfl rfl ew (hdA hq c1) (hdA hq c2) (hdB _) (hdB _) (hdC _) (ew ▸ e6)
theorem lawNumsK {P : Prop} {n wn : Nat} {q A C K R up dn : Int} (hn7 : 7 ≤ n) (hn37 : n ≤ 37) (w6 : 6 ≤ wn) (w1 : wn < 1006) (hqn : q = n) (e3 : up = 1 ∨ up = -1) (e4 : dn = 1 ∨ dn = -1)
    (hKR : A * C = K * (2 ^ (n * wn) - 1) + R) (hR0 : 0 < R) (hRG : R < 2 ^ (n * wn) - 1) (hPP1 : 1 < A * C) (hPPn : A * C < 2 ^ (2 * (n * wn))) (hK0 : 0 ≤ K) (p20 : 0 ≤ A) (p21 : A < 2 ^ (n * wn)) (p30 : 0 ≤ C) (p31 : C < 2 ^ (n * wn))
    (k : ∀ x y, IntMulOk A C → IntMulOk (wn : Int) q → 0 ≤ (wn : Int) * q → (Builtin.Int.intBits 2 : Int) * ((wn : Int) * q) ≤ 2 ^ 27 → IntMulOk up (A * C) → IntMulOk dn (2 ^ ((wn : Int) * q).toNat - 1) → IntMulOk x (dn * (2 ^ ((wn : Int) * q).toNat - 1)) → IntMulOk dn y →
      (x * (dn * (2 ^ ((wn : Int) * q).toNat - 1)) + y != up * (A * C)) = false → IDM w p loose mean mg mb 77 14 (up * (A * C)) (dn * (2 ^ ((wn : Int) * q).toNat - 1)) x y → (up = dn → dn * y = R) → (up ≠ dn → 2 ^ ((wn : Int) * q).toNat - 1 - dn * y = R) → P) : P := by
  have e18 : (2 : Nat) ^ 18 = 262144 := by decide
  have e20 : (2 : Nat) ^ 20 = 1048576 := by decide
  have hnw : n * wn ≤ 37 * 1006 := Nat.mul_le_mul hn37 (by walk_at "OM")
  have hnn := pow2_pos (n * wn)
  have hnwq : (wn : Int) * q = ((n * wn : Nat) : Int) := by rw [hqn, Int.natCast_mul, Int.mul_comm]
  have hG : (2 : Int) ^ ((wn : Int) * q).toNat = 2 ^ (n * wn) := by rw [hnwq, Int.toNat_natCast]
  have mP : IntMulOk A C := mulBits (k := n * wn) (l := n * wn) ⟨by walk_at "OM", p21⟩ ⟨by walk_at "OM", p31⟩ (by walk_at "OM") (by walk_at "OM")
  have mW : IntMulOk (wn : Int) q := smallMul (by walk_at "OM") (by walk_at "OM") (by walk_at "OM") (by walk_at "OM")
  have pW0 : 0 ≤ (wn : Int) * q := by rw [hnwq]; exact Int.natCast_nonneg _
  have pW1 : (Builtin.Int.intBits 2 : Int) * ((wn : Int) * q) ≤ 2 ^ 27 := by
    have e2' : Builtin.Int.intBits 2 = 2 := by decide
    have e27 : (2 : Int) ^ 27 = 134217728 := by decide
    rw [e2', hnwq]; walk_at "OM"
  have mU : IntMulOk up (A * C) := mulBits (k := 1) (l := 2 * (n * wn)) (by rcases e3 with rfl | rfl <;> decide) ⟨by have := pow2_pos (2 * (n * wn)); walk_at "OM", hPPn⟩ (by decide) (by walk_at "OM")
  have mD : IntMulOk dn (2 ^ ((wn : Int) * q).toNat - 1) := by
    rw [hG]
    exact mulBits (k := 1) (l := n * wn) (by rcases e4 with rfl | rfl <;> decide) ⟨by walk_at "OM", by walk_at "OM"⟩ (by decide) (by walk_at "OM")
  have hnw6 : 6 ≤ n * wn := Nat.le_trans (show 6 ≤ 7 * 6 by decide) (Nat.mul_le_mul hn7 (by walk_at "OM"))
  obtain ⟨x, y, hI, hx, hy1, hy2, hxK, hyR⟩ := idm_law (w := w) (p := p) (loose := loose) (mean := mean) (mg := mg) (mb := mb) (nn := n * wn) e3 e4 hKR hR0 hRG hPP1 hPPn
    (by obtain ⟨j, hj⟩ : ∃ j, n * wn = j + 1 := ⟨n * wn - 1, by walk_at "OM"⟩
        rw [hj, Int.pow_succ]; show 2 ^ j ≤ _; have := pow2_pos j; walk_at "OM") (by walk_at "OM") (by walk_at "OM") (by walk_at "OM")
  have hKn : K < 2 ^ (n * wn) := by
    apply Classical.byContradiction
    intro hc
    have h1 : 2 ^ (n * wn) * (2 ^ (n * wn) - 1) ≤ K * (2 ^ (n * wn) - 1) := Int.mul_le_mul_of_nonneg_right (by walk_at "OM") (by walk_at "OM")
    have h2 : A * C ≤ (2 ^ (n * wn) - 1) * (2 ^ (n * wn) - 1) := Int.mul_le_mul (by walk_at "OM") (by walk_at "OM") p30 (by walk_at "OM")
    generalize (2 : Int) ^ (n * wn) = P at *
    have h3 : (P - 1) * (P - 1) < P * (P - 1) := by grind
    walk_at "OM"
  have mX : IntMulOk x (dn * (2 ^ ((wn : Int) * q).toNat - 1)) := by
    rw [hG]
    refine mulBits (k := n * wn + 1) (l := n * wn + 1) ?_ ?_ (by walk_at "OM") (by walk_at "OM")
    · rw [Int.pow_succ]; rcases hxK with rfl | rfl <;> constructor <;> walk_at "OM"
    · rw [Int.pow_succ]; rcases e4 with rfl | rfl <;> constructor <;> walk_at "OM"
  have mY : IntMulOk dn y := by
    refine mulBits (k := 1) (l := n * wn + 1) (by rcases e4 with rfl | rfl <;> decide) ?_ (by decide) (by walk_at "OM")
    rw [Int.pow_succ]; rcases hyR with rfl | rfl | rfl | rfl <;> constructor <;> walk_at "OM"
  rw [← hG] at hI hx hy2
  exact k x y mP mW pW0 pW1 mU mD mX mY (by rw [hx]; exact bne_self_eq_false _) @hI hy1 hy2
theorem IntsV.threeK {P : Prop} {vs : List Value} {a b c : Int} (h : IntsV vs [a, b, c]) (k : ∀ u1 u2 u3, vs = [.int a u1, .int b u2, .int c u3] → P) : P := by
  obtain ⟨u1, u2, u3, e⟩ := h.three
  exact k u1 u2 u3 e
theorem whB {M : Int} (h : 0 ≤ M ∧ M ≤ 15) (c : Int) : 65 - M ≠ 0 ∧ (0 ≤ c.fmod (65 - M) ∧ c.fmod (65 - M) < 65 - M) ∧ c.fmod (65 - M) < 65 := by
  have hp : 0 < 65 - M := by walk_at "OM"
  have h' := Int.fmod_lt_of_pos c hp
  exact ⟨Int.ne_of_gt hp, ⟨Int.fmod_nonneg_of_pos c hp, h'⟩, Int.lt_of_lt_of_le h' (by walk_at "OM")⟩
theorem mixK {P : Prop} {q root c0 turns : Int} {n : Nat} {vM : List Value} (hPQ : PQ q n) (hroot : root = rootA n ∨ root = rootB n) (e5 : turns.natAbs ≤ 2) (iM : IntsV vM (lightI (powI q root 6) q (n - 2)))
    (kk : ∀ m0 m1 m2 M k u0 u1 u2 fa fb fc Hf, vM = [.int (2 ^ 30 * m0) u0, .int (2 ^ 30 * m1) u1, .int (2 ^ 30 * m2) u2] → (mx3 (2 ^ 30 * m0) (2 ^ 30 * m1) (2 ^ 30 * m2)).fdiv (2 ^ Int.toNat 30) = M → Builtin.divisionGoesByPylong (mx3 (2 ^ 30 * m0) (2 ^ 30 * m1) (2 ^ 30 * m2)) (2 ^ Int.toNat 30) = false → 65 - M ≠ 0 →
      (c0.fdiv 50).fmod (65 - M) = k → IntMulOk ((c0.fdiv 50).fmod (65 - M)) (2 ^ Int.toNat 30) → (0 ≤ k ∧ k < 65 - M) → (0 ≤ M ∧ M ≤ 15) → AboveF (k * 2 ^ 30 + 2 ^ 30 * m0) (k * 2 ^ 30 + 2 ^ 30 * m1) (k * 2 ^ 30 + 2 ^ 30 * m2) turns (VT n root k) fa fb fc Hf → P) : P := by
  rw [light_eq hPQ hroot] at iM
  have md := max_div (mixC_b hPQ hroot)
  have mxb := mx_b (mixC_b hPQ hroot)
  obtain ⟨u0, u1, u2, e⟩ := iM.three
  have w := whB mxb (c0.fdiv 50)
  obtain ⟨fa, fb, fc, Hf, hAb⟩ := above_ok2 hPQ hroot w.2.1 e5
  exact kk _ _ _ _ _ u0 u1 u2 fa fb fc Hf e md.1 md.2 w.1 rfl (mulWhite w.2.1.1 w.2.2) w.2.1 mxb hAb
theorem fnAt_of {K : Frag} {h : Heap} {a : Addr} (X : K.In h) (e : isFn K a = true) : FnAt a h := by
  unfold isFn at e
  split at e
  · rename_i oc od fd sl hq
    exact ⟨oc, od, fd, sl, X _ _ hq⟩
  · cases e
theorem fnAt_fr {g h : Heap} {L q : Addr} {m : Mp} (x : FnAt q g) (F : Fr g L h m) : FnAt q h := by
  obtain ⟨a, b, c, d, e⟩ := x
  exact ⟨a, b, c, d, F.keep _ _ e⟩
section
variable {w : World} {p : Program} {loose : List Str} {mean : ExcName → Option Value} {mg mb : Str → Option Value} {A : Around} {s : Shared} {Q E : Value → Shared → Prop}
local macro_rules | `(tactic| walk_at "compareOp Eq ref ref") => `(tactic| (k_here; k_dflt (refine Stop.mk ?_)))
local macro_rules | `(tactic| walk_at "binaryOp Add ref ref") => `(tactic| (k_here; k_dflt (refine Stop.mk ?_)))
local macro_rules | `(tactic| walk_at "exec Assign cons IfExp") => `(tactic| (k_dflt (refine Stop.mk ?_)))
local macro_rules | `(tactic| walk_at "call ref") => `(tactic| (k_here; k_dflt (refine Stop.mk ?_)))
local macro_rules | `(tactic| walk_at "call ref") => `(tactic| walk_at "HKCALL")
local macro_rules | `(tactic| walk_at "pyIter ref") => `(tactic| (k_dflt (refine Stop.mk ?_)))

local macro_rules | `(tactic| walk_at "call builtin:max") => `(tactic| (k_here; (refine wpAny_with_toks (Nat.le_refl _) ?_); (with_reducible show wpAny _ _ (call (Value.builtin _) [Value.ref _]) _ _ _); (with_unfolding_all refine' kso_max (by k_asm) (by k_asm) (by kso_list) (by l_ints) (by kso_len) (by with_unfolding_all rfl) ?_; k_whole); intro h' M' t' k' F' N' a' b'; (try kso_open a'); (try kso_open b'); (try k_sweep); have e' := mx3_of a' b'; subst e'; clear a' b'; intro htk'; (try dsimp only at htk')))
local macro_rules | `(tactic| walk_at "subscriptTail Name Constant ref int") => `(tactic| (k_here; (with_reducible show wpAny _ _ (subscriptTail _ _ (Value.ref _) (Value.int _ _)) _ _ _); (k_dflt (refine' item_any (by exact News.isList (by assumption) (by k_mem)) (by decide) (by decide) (by ((try dsimp only [Int.toNat]); exact rfl)) ?k5 (by with_unfolding_all rfl))); (try dsimp only [Int.toNat, List.getElem_toArray, List.getElem_cons_zero])))
local macro_rules | `(tactic| walk_at "eval ListComp") => `(tactic| (k_dflt (refine evalCompT (by with_unfolding_all rfl) (by rfl) (by decide) ?_)))
local macro_rules | `(tactic| walk_at "exec Assign cons ListComp") => `(tactic| (refine' wpAny_Assign_Name ?_ (by with_unfolding_all rfl)))
local macro_rules | `(tactic| walk_at "call type:enumerate") => `(tactic| (k_here; (have hz8 := newsAllLt (by assumption)); (have hL8 := frLtS (by assumption)); (refine call_enumerate_list (News.isList (by assumption) (by k_mem)) ?_); intro h9 he9 hit9 hz9 K9; replace K9 : Kp _ _ := K9; walk_at "MYK"))
local macro_rules | `(tactic| walk_at "binaryOp FloorDiv int int") => `(tactic| (k_here; (with_reducible refine' fdiv_named2 ?kn ?ks ?ke ?_); (case kn => first | with_reducible assumption | decide); (case ks => with_reducible assumption); (case ke => with_reducible assumption)))
local macro_rules | `(tactic| walk_at "subscriptTail Name Call ref int") => `(tactic| (k_here; (with_reducible show wpAny _ _ (subscriptTail _ _ (Value.ref _) (Value.int _ _)) _ _ _); (k_dflt (refine' item_any (by exact News.isList (by assumption) (by k_mem)) (by with_reducible assumption) (by with_reducible assumption) (by with_reducible assumption) ?k5 (by with_unfolding_all rfl))); (try dsimp only)))
local macro_rules | `(tactic| walk_at "callWith ref") => `(tactic| (k_here; k_dflt (refine' callWith_F (by exact fnAt_fr (by with_reducible assumption) (by with_reducible assumption)) ?_; k_whole)))
local macro_rules | `(tactic| walk_at "FnAt") => `(tactic| (k_dflt (exact fnAt_fr (by with_reducible assumption) (by with_reducible assumption))))
local macro_rules | `(tactic| walk_at "binaryOp Pow int int") => `(tactic| (k_here; (with_reducible refine' pow_int ?kn ?ks ?_); (case kn => first | with_reducible assumption | decide); (case ks => first | with_reducible assumption | decide)))
local macro_rules | `(tactic| walk_at "call builtin:sum") => `(tactic| (k_here; k_dflt (refine' sumArr (by rfl) (by exact News.isList (by assumption) (.head _)) (by exact IntsAre.pick (by assumption) _ _ _) ?_); intro h9 tk9 t9 K9; walk_at "MYK"))
local macro_rules | `(tactic| walk_at "subscriptTail Name Slice ref ref") => `(tactic| ((with_reducible show wpAny _ _ (subscriptTail _ (PySem.Expr.Slice _ _ (some _) _) _ _) _ _ _); (refine slice3_Kp (by assumption) (by assumption) (Heap.IsList.at (by assumption) (fun o e => Fr.keep (by assumption) _ o e)) (by first | exact .none | exact .int _ _) (by first | exact .none | exact .int _ _) (by first | exact .none | exact .int _ _) (by decide) ?_ (hsz := by (rename _ ≤ sizeLine => hz); exact hz)); intro h9 K9 F9 N9; (try dsimp only)))
local macro_rules | `(tactic| walk_at "subscriptTail ListComp Name cons BinOp ref int") => `(tactic| (k_here; k_dflt (refine item_pick2 (News.isList (by assumption) (by k_mem)) (by assumption) ?_); intro r9 tr9 hr9))
local macro_rules | `(tactic| walk_at "subscriptTail List cons BinOp ref int") => `(tactic| (k_here; k_dflt (refine item_pick5 (News.isList (by assumption) (by k_mem)) ?_); intro q9 n9 tq9 hq9))

set_option maxHeartbeats 4000000 in
theorem c_law (hA : Rm 20 A) (X : (hd.heap_1 w.params).In (hideAll s.heap [51, 58])) (T : Top p loose mean mg mb (hideAll s.heap [51, 58])) (C1 : CodeHd (hideAll s.heap [51, 58]) 55 51) (C8 : CodeHd (hideAll s.heap [51, 58]) 62 58) (hP1 : s.heap.get? 51 = some (tabObj #[])) (hP8 : s.heap.get? 58 = some (tabObj #[]))
    {l : Addr} {vs : List Value} {ns : List Int} (hl : s.heap.IsList l vs.toArray) (hi : IntsV vs ns) (hlen : ns.length ≤ 63)
    (ret : ∀ h' tk', (∀ b o, b ≠ 51 → b ≠ 58 → s.heap.get? b = some o → h'.get? b = some o) → (∃ ps, h'.get? 51 = some (tabObj ps)) → (∃ ps, h'.get? 58 = some (tabObj ps)) → Q (.bool true) { s with heap := h', toks := tk' }) :
    wpAny (model PySem.Challenge.rw_tl0018_01.row.prog w) A (call (.ref 176) [.ref l]) Q E s := by
  have f84 : FnAt 84 (hideAll s.heap [51, 58]) := fnAt_of X (by kernel_rfl)
  have f91 : FnAt 91 (hideAll s.heap [51, 58]) := fnAt_of X (by kernel_rfl)
  have f98 : FnAt 98 (hideAll s.heap [51, 58]) := fnAt_of X (by kernel_rfl)
  have f105 : FnAt 105 (hideAll s.heap [51, 58]) := fnAt_of X (by kernel_rfl)
  have f140 : FnAt 140 (hideAll s.heap [51, 58]) := fnAt_of X (by kernel_rfl)
  have f154 : FnAt 154 (hideAll s.heap [51, 58]) := fnAt_of X (by kernel_rfl)
  have f159 : FnAt 159 (hideAll s.heap [51, 58]) := fnAt_of X (by kernel_rfl)
  have f164 : FnAt 164 (hideAll s.heap [51, 58]) := fnAt_of X (by kernel_rfl)
  have f171 : FnAt 171 (hideAll s.heap [51, 58]) := fnAt_of X (by kernel_rfl)
  have f56 : FnAt 56 (hideAll s.heap [51, 58]) := fnAt_of X (by kernel_rfl)
  have f63 : FnAt 63 (hideAll s.heap [51, 58]) := fnAt_of X (by kernel_rfl)
  have f77 : FnAt 77 (hideAll s.heap [51, 58]) := fnAt_of X (by kernel_rfl)
  obtain ⟨hdl, dp, fr, gd, un⟩ := A
  obtain rfl : hdl = none := hA.1
  revert X; k_fill; intro X
  refine' enterC (binds := [(Str.ofString "script", .ref l)]) (X.keeps fun b o e => of_hideAll _ e) (T.keeps fun b o e => of_hideAll _ e) ?k6 ?k7 ?k8 ?k9 ?kB ?c1 ?c2 ?c3 ?c4 ?_
  (case k6 => k_is); (case k7 => k_is); (case k8 => exact Rm.room (by assumption)); (case k9 => exact BindsTo.of_eq rfl); (case kB => exact rfl); (case c1 => decide); (case c2 => exact rfl); (case c3 => exact rfl); (case c4 => exact rfl)
  k_whole
  intro L' h' tk0 cells F' N' Y' htk0
  (try dsimp only)
  (try k_fold)
  refine cells8K Y' fun o8 o7 o6 o5 o4 o3 o2 o1 hc9 d8 d7 d6 d5 d4 d3 d2 d1 => ?_
  subst hc9
  replace d8 : o8.data = .cell none := d8
  replace d7 : o7.data = .cell none := d7
  replace d6 : o6.data = .cell none := d6
  replace d5 : o5.data = .cell none := d5
  replace d4 : o4.data = .cell none := d4
  replace d3 : o3.data = .cell none := d3
  replace d2 : o2.data = .cell none := d2
  replace d1 : o1.data = .cell (some (.ref l)) := d1
  clear Y'
  replace F' : Fr s.heap L' h' (fun _ => none) := F'
  have l51 : @LT.lt Nat _ 51 L' := Nat.lt_of_lt_of_le (Heap.lt_size hP1) F'.above
  have l58 : @LT.lt Nat _ 58 L' := Nat.lt_of_lt_of_le (Heap.lt_size hP8) F'.above
  have F1 := hideFr (ls := [51, 58]) F'
  have N1 := newsCons (F'.keep _ _ hP1) (neA (by walk_at "NEQ")) (hideAll_none [51, 58] (.head _)) (newsCons (F'.keep _ _ hP8) (neA (by walk_at "NEQ")) (hideAll_none _ (.tail _ (.head _))) (newsHide (ls := [51, 58]) N'))
  clear F' N'
  have iL : IntsAre vs ns := hi.are
  have hzL : vs.toArray.size ≤ sizeLine := Nat.le_trans (show vs.length ≤ 63 by rw [hi.len]; exact hlen) (by decide)
  have hl1 : (hideAll s.heap [51, 58]).IsList l vs.toArray := by
    obtain ⟨o, e, hc, r⟩ := hl
    exact ⟨o, hideAll_get _ e (fun q => by
      rcases List.mem_cons.mp q with q | q
      · rw [q, hP1] at e; cases e; cases hc
      · rw [List.mem_singleton.mp q, hP8] at e; cases e; cases hc), hc, r⟩
  refine wpAny_execs_cons ?_
  refine assign_used (by with_unfolding_all rfl) (by with_unfolding_all rfl) rfl (by decide) ?_
  walk_at "GO"
  rename IsEnum _ _ _ _ _ => he9
  rename Fr _ _ _ _ => F9
  rename News _ _ _ _ => N9
  rename Heap.IsListIter _ _ _ _ => hit9
  rename ∀ p ∈ _, @LT.lt Nat _ _ _ => hz8
  rename @LT.lt Nat _ L' (Array.size _) => hL8
  (try dsimp only at he9 hit9 hz8 hL8)
  refine Stop.mk ?_
  refine comp_enum_U (fun i ys => ∃ zs, IntsV ys zs ∧ zs.length = i) rfl rfl F9 N9 he9 hit9 (News.isList N9 (by k_mem)) (Nat.succ_ne_self _) (Nat.ne_of_lt (Nat.lt_succ_of_lt (hz8 _ (by k_mem)))) (Nat.ne_of_lt (hz8 _ (by k_mem))) ⟨Nat.lt_succ_of_lt hL8, hL8⟩ (fun p hp => ⟨Nat.ne_of_lt (Nat.lt_succ_of_lt (hz8 _ hp)), Nat.ne_of_lt (hz8 _ hp)⟩) ⟨[], IntsV.nil, rfl⟩ ?_ ?_ rfl rfl
  · intro C i v ys h t0 t1 tk mc hv hG F N h1 h2
    obtain ⟨zs, g1, g2⟩ := hG
    clear F9 N9 he9 hit9 hz8 hL8
    (try dsimp only at *)
    have hi4 : i < 4 := (Array.getElem?_eq_some_iff.mp hv).1
    obtain rfl | rfl | rfl | rfl : i = 0 ∨ i = 1 ∨ i = 2 ∨ i = 3 := by walk_at "OM"
    all_goals simp only [List.getElem?_toArray, List.getElem?_cons_zero, List.getElem?_cons_succ, Option.some.injEq] at hv
    all_goals subst hv
    · walk_at "GO"
      any_goals exact CEnd.mk (by walk_at "KPCHAIN") ⟨_, IntsV.snoc g1, by rw [List.length_append, g2]; rfl⟩
      all_goals first | exact Str.ofString "" | exact Value.none | exact ([] : List (Str × Addr)) | exact (0 : Nat)
    · walk_at "GO"
      any_goals exact CEnd.mk (by walk_at "KPCHAIN") ⟨_, IntsV.snoc g1, by rw [List.length_append, g2]; rfl⟩
      all_goals first | exact Str.ofString "" | exact Value.none | exact ([] : List (Str × Addr)) | exact (0 : Nat)
    · walk_at "GO"
      any_goals exact CEnd.mk (by walk_at "KPCHAIN") ⟨_, IntsV.snoc g1, by rw [List.length_append, g2]; rfl⟩
      all_goals first | exact Str.ofString "" | exact Value.none | exact ([] : List (Str × Addr)) | exact (0 : Nat)
    · walk_at "GO"
      any_goals exact CEnd.mk (by walk_at "KPCHAIN") ⟨_, IntsV.snoc g1, by rw [List.length_append, g2]; rfl⟩
      all_goals first | exact Str.ofString "" | exact Value.none | exact ([] : List (Str × Addr)) | exact (0 : Nat)
  · intro D ys nD h tk hG h1 h2 F N
    obtain ⟨zs, g1, g2⟩ := hG
    have l9 := newsLt N9 h2
    k_lt l9
    clear F9 N9 he9 hit9 hz8 hL8
    refine g1.fourK g2 fun c0 c1 c2 c3 t0 t1 t2 t3 hz9 hv9 => ?_
    subst hz9
    subst hv9
    (try dsimp only at *)
    (try dsimp only)
    walk_at "GO"
    rename PQ _ _ => hPQ
    rename IsRange _ _ _ _ _ _ _ _ => hR9
    rename Fr _ _ _ _ => F9
    rename News _ _ _ _ => N9
    rename_i q n tq hB oP FB NB dP h9
    refine and9 hPQ.ranges fun hqn hn7 hn37 hs0 hr0 hs2 hr2 hs1 hr1 => ?_
    have N8 := (newsPick (p := (D, lstObj [Value.int c0 t0, Value.int c1 t1, Value.int c2 t2, Value.int c3 t3] nD)) (by k_mem) N9 (newsPick (p := (51, tabObj #[])) (by k_mem) N9 (newsPick (p := (58, tabObj #[])) (by k_mem) N9 (newsPick (p := (L' + 1, o1)) (by k_mem) N9 (newsPick (p := (L' + 1 + 1, oP)) (by k_mem) N9 (newsPick (p := (L' + 1 + 1 + 1, o3)) (by k_mem) N9 (newsPick (p := (L' + 1 + 1 + 1 + 1, o4)) (by k_mem) N9 (newsPick (p := (L' + 1 + 1 + 1 + 1 + 1, o5)) (by k_mem) N9 (newsPick (p := (L' + 1 + 1 + 1 + 1 + 1 + 1, o6)) (by k_mem) N9 (newsPick (p := (L' + 1 + 1 + 1 + 1 + 1 + 1 + 1, o7)) (by k_mem) N9 (newsPick (p := (L' + 1 + 1 + 1 + 1 + 1 + 1 + 1 + 1, o8)) (by k_mem) N9 News.nil)))))))))))
    clear FB NB N9
    have hq0 : q ≠ 0 := by walk_at "OM"
    have hq1 : 0 < q := by walk_at "OM"
    refine Stop.mk ?_
    refine comp_if_V (n := n) (fun i ys tk => IntsV ys (rootsI q i)) rfl F9 N8 hR9 hs0 hr0 (fun _ => IntsV.nil) (fun _ _ _ _ g _ => g) ?_ ?_ (hsz := Nat.le_trans hn37 (by decide))
    · rintro C i ys h t0 tk mc hi g h1 h2 F N
      have g1 : IntsV ys (rootsI q i) := g
      clear g F9 N8 hR9
      (try dsimp only at *)
      have m1 : IntMulOk (0 + (i : Int) * 1) (0 + (i : Int) * 1) := smallMul (by walk_at "OM") (by walk_at "OM") (by walk_at "OM") (by walk_at "OM")
      have gs : rootsI q (i + 1) = if ((0 + (i : Int) * 1) * (0 + (i : Int) * 1) + (0 + (i : Int) * 1) + 1).fmod q = 0 then rootsI q i ++ [0 + (i : Int) * 1] else rootsI q i := rfl
      by_cases hc : ((0 + (i : Int) * 1) * (0 + (i : Int) * 1) + (0 + (i : Int) * 1) + 1).fmod q = 0
      · rw [if_pos hc] at gs
        walk_at "GO"
        any_goals exact CEnd.mk (by walk_at "KPCHAIN") (gs ▸ g1.snoc)
        all_goals first | exact Str.ofString "" | exact Value.none | exact ([] : List (Str × Addr)) | exact (0 : Nat)
      · rw [if_neg hc] at gs
        walk_at "GO"
        any_goals exact CSkipH.mk (by walk_at "KPCHAIN") (gs ▸ g1)
        all_goals first | exact Str.ofString "" | exact Value.none | exact ([] : List (Str × Addr)) | exact (0 : Nat)
    · intro D2 ys2 nD2 h3 tk3 g h4 h5 k3 F N
      have g3 : IntsV ys2 (rootsI q n) := g
      rw [rootsI_eq hPQ] at g3
      (try dsimp only at *)
      have l3 := newsLt N8 h5
      k_lt l3
      clear g F9 N8 hR9
      walk_at "GO"
      (try dsimp only at *)
      rename IsRange _ _ _ _ _ _ _ _ => hR9
      rename Fr _ _ _ _ => F9
      rename News _ _ _ _ => N9
      rename _ ∨ _ => hroot
      rename_i root troot hB1 oR dR hB2 hB3 oE dE hB4 oC dC hB5 hB6 hB7 FB NB h9
      have N8 := (newsPick (p := (D, lstObj [Value.int c0 t0, Value.int c1 t1, Value.int c2 t2, Value.int c3 t3] nD)) (by k_mem) N9 (newsPick (p := (51, tabObj #[])) (by k_mem) N9 (newsPick (p := (58, tabObj #[])) (by k_mem) N9 (newsPick (p := (L' + 1, o1)) (by k_mem) N9 (newsPick (p := (L' + 1 + 1, oP)) (by k_mem) N9 (newsPick (p := (L' + 1 + 1 + 1, oR)) (by k_mem) N9 (newsPick (p := (L' + 1 + 1 + 1 + 1, oE)) (by k_mem) N9 (newsPick (p := (L' + 1 + 1 + 1 + 1 + 1, oC)) (by k_mem) N9 (newsPick (p := (L' + 1 + 1 + 1 + 1 + 1 + 1, o6)) (by k_mem) N9 (newsPick (p := (L' + 1 + 1 + 1 + 1 + 1 + 1 + 1, o7)) (by k_mem) N9 (newsPick (p := (L' + 1 + 1 + 1 + 1 + 1 + 1 + 1 + 1, o8)) (by k_mem) N9 (News.nil))))))))))))
      clear FB NB N9
      refine hdrK (c0 := c0) (c1 := c1) (c2 := c2) (c3 := c3) (q := q) (by walk_at "OM") fun ei ci up dn turns wn hei hci hup hdn hturns hwd e1 e2 e3 e4 e5 e6 => ?_
      rw [hei] at dE
      rw [hci] at dC
      rw [hup, hdn, hturns, hwd] at F9
      have hrt : 2 ≤ root ∧ root < 37 := rootB2 hPQ hroot
      clear hei hci hup hdn hturns hwd
      refine Stop.mk ?_
      refine comp_range_V (n := 6) (fun i ys tk => IntsT tk ys (powI q root i)) rfl F9 N8 hR9 rfl rfl (fun _ => IntsT.nil) (fun _ _ _ _ g l => g.mono l) ?_ ?_
      · rintro C i ys h t0 tk mc hi g hlen h1 h2 F N
        have g1 : IntsT t0 ys (powI q root i) := g
        clear g F9 N8 hR9
        (try dsimp only at *)
        have p1 : 0 ≤ 0 + (i : Int) * 1 := by walk_at "OM"
        have p2 : (Builtin.Int.intBits (1 + root) : Int) * (0 + (i : Int) * 1) ≤ 2 ^ 27 := powBits (by walk_at "OM") (by walk_at "OM") (by walk_at "OM") (by walk_at "OM")
        walk_at "GO"
        any_goals (refine CEnd.mk (by walk_at "KPCHAIN") ?_; rw [powI_next]; exact IntsT.snoc (g1.mono (show @LE.le Nat _ _ _ by (try dsimp only); walk_at "OM")) (show @LT.lt Nat _ 0 _ by (try dsimp only); walk_at "OM") (show @LT.lt Nat _ _ _ by (try dsimp only); walk_at "OM"))
        all_goals first | exact Str.ofString "" | exact Value.none | exact ([] : List (Str × Addr)) | exact (0 : Nat)
      · intro D3 ys3 nD3 h4 tk4 g hlen3 h6 h7 k4 F N
        have g4 : IntsT tk4 ys3 (powI q root 6) := g
        (try dsimp only at *)
        have l4 := newsLt N8 h7
        k_lt l4
        clear g F9 N8 hR9 k4
        walk_at "GO"
        rename Fr _ _ _ _ => F9
        rename News _ _ _ _ => N9
        rename_i hP oQ dQ
        refine Stop.mk ?_
        refine wpAny_with_toks (Nat.le_refl _) ?_
        refine c_mix (n := n - 2) (Rm.deep hA (by decide)) (X.keeps F9.keep) (T.keeps F9.keep) (show Heap.IsList _ D3 ys3.toArray from News.isList N9 (by k_mem)) (g4.mono (by walk_at "MYLE")) e5 (by walk_at "OM") hr2 hs2 (fun i hi => good_mix hPQ hroot i hi) ?_
        intro lM vM nM h5 tk5 K5 s5 eM iM htk5
        (try dsimp only at htk5)
        have l5 := newsLt N9 s5
        k_lt l5
        have N8 := newsNew F9 N9 K5 s5 eM
        have F8 := frKp F9 K5
        clear F9 N9 K5 s5 eM
        refine mixK (c0 := c0) hPQ hroot e5 iM fun m0 m1 m2 M k u0 u1 u2 fa fb fc Hf hvM md1 md2 md3 hk md4 hk0 mxb hAb => ?_
        subst hvM
        clear iM
        (try dsimp only)
        (try k_fold)
        walk_at "GO"
        rename Fr _ _ _ _ => F9
        rename News _ _ _ _ => N9
        rename_i hA1 hA2 tA kA hP5 oW dW
        (try dsimp only at *)
        rw [hk] at dW
        clear md1 md2 md3 md4 hA1 hA2
        refine Stop.mk ?_
        refine comp_seq_V (fun j ys tk => IntsV ys ([k * 2 ^ 30 + 2 ^ 30 * m0, k * 2 ^ 30 + 2 ^ 30 * m1, k * 2 ^ 30 + 2 ^ 30 * m2].take j)) rfl F9 N9 (Or.inl (News.isList N9 (.head _))) (fun _ => IntsV.nil) (fun _ _ _ _ g _ => g) ?_ ?_
        · rintro C j vv ys h t0 tk mc hv g hl h1 h2 F N
          have g1 : IntsV ys ([k * 2 ^ 30 + 2 ^ 30 * m0, k * 2 ^ 30 + 2 ^ 30 * m1, k * 2 ^ 30 + 2 ^ 30 * m2].take j) := g
          clear g F9 N9
          (try dsimp only at *)
          have hj : j < 3 := (Array.getElem?_eq_some_iff.mp hv).1
          obtain rfl | rfl | rfl : j = 0 ∨ j = 1 ∨ j = 2 := by walk_at "OM"
          all_goals simp only [List.getElem?_toArray, List.getElem?_cons_zero, List.getElem?_cons_succ, Option.some.injEq] at hv
          all_goals subst hv
          · walk_at "GO"
            any_goals exact CEnd.mk (by walk_at "KPCHAIN") (g1.next rfl)
            all_goals first | exact Str.ofString "" | exact Value.none | exact ([] : List (Str × Addr)) | exact (0 : Nat)
          · walk_at "GO"
            any_goals exact CEnd.mk (by walk_at "KPCHAIN") (g1.next rfl)
            all_goals first | exact Str.ofString "" | exact Value.none | exact ([] : List (Str × Addr)) | exact (0 : Nat)
          · walk_at "GO"
            any_goals exact CEnd.mk (by walk_at "KPCHAIN") (g1.next rfl)
            all_goals first | exact Str.ofString "" | exact Value.none | exact ([] : List (Str × Addr)) | exact (0 : Nat)
        · intro D4 ys4 nD4 h8 tk8 g hlen4 h9' h10 k5 F N
          have g5 : IntsV ys4 [k * 2 ^ 30 + 2 ^ 30 * m0, k * 2 ^ 30 + 2 ^ 30 * m1, k * 2 ^ 30 + 2 ^ 30 * m2] := g
          (try dsimp only at *)
          have l6 := newsLt N9 h10
          k_lt l6
          clear g F9 N9 k5
          refine g5.threeK fun v0 v1 v2 hv9 => ?_
          subst hv9
          clear g5
          walk_at "GO"
          rename Fr _ _ _ _ => F9
          rename News _ _ _ _ => N9
          refine Stop.mk ?_
          refine wpAny_with_toks (Nat.le_refl _) ?_
          refine c_aboveF (Rm.deep hA (by decide)) (X.keeps F9.keep) (T.keeps F9.keep) (News.isList N9 (.head _)) hAb e5 (show @LT.lt Nat _ 0 _ by (try dsimp only); walk_at "OM") ?_
          intro lA vA nA hh6 tk6 K6 s6 eA iA htk6
          (try dsimp only at htk6)
          rw [above_eq] at iA
          have l7 := newsLt N9 s6
          k_lt l7
          have N8 := newsNew F9 N9 K6 s6 eA
          have F8 := frKp F9 K6
          clear F9 N9 K6 s6 eA hAb
          (try dsimp only)
          (try k_fold)
          walk_at "GO"
          rename Fr _ _ _ _ => F9
          rename News _ _ _ _ => N9
          rename_i hP6 oAb dAb
          (try dsimp only at dAb)
          have n58 : (hideAll s.heap [51, 58]).get? 58 = none := hideAll_none _ (.tail _ (.head _))
          have n51 : (hideAll s.heap [51, 58]).get? 51 = none := hideAll_none _ (.head _)
          refine Stop.mk ?_
          refine wpAny_with_toks (Nat.le_refl _) ?_
          refine c_tally (n := n) (Rm.deep hA (by decide)) (X.keeps F9.keep) (T.keeps F9.keep) hqn hq1 (by walk_at "OM") hs0 hr0 (by decide) (fun i hi => tally2_b2 hPQ e1 i hi) ?_
          intro lT vT nT h11 tk11 K11 s11 eT iT htk11
          (try dsimp only at htk11)
          have l8 := newsLt N9 s11
          k_lt l8
          have N8 := newsNew F9 N9 K11 s11 eT
          have F8 := frKp F9 K11
          clear F9 N9 K11 s11 eT
          (try dsimp only)
          (try k_fold)
          walk_at "GO"
          rename Fr _ _ _ _ => F9
          rename News _ _ _ _ => N9
          have hlT : vT.length = n := by rw [iT.len, tally_len hPQ]
          have e18 : (2 : Nat) ^ 18 = 262144 := by decide
          have e20 : (2 : Nat) ^ 20 = 1048576 := by decide
          have hnw : n * wn ≤ 37 * 1006 := Nat.mul_le_mul hn37 (by walk_at "OM")
          refine Stop.mk ?_
          refine wpAny_with_toks (Nat.le_refl _) ?_
          refine c_d2i (k := n) (n := wn) (Rm.deep hA (by decide)) (X.keeps (kHide F9 n58)) (T.keeps (kHide F9 n58)) (C8.keeps (kHide F9 n58)) (ps := #[]) (N9 (58, tabObj #[]) (by k_mem)).1 (Or.inl rfl) (show Heap.IsList _ lT vT.toArray from News.isList N9 (by k_mem)) iT (by walk_at "OM") hlT (by walk_at "OM") (by walk_at "OM") (by walk_at "OM") (by walk_at "OM") (by walk_at "OM") (d2i_hbnd (tally2_lt hPQ e1 (by walk_at "OM")) (by rw [tally_len hPQ]; walk_at "OM")) ?_
          intro t12 h12 tk12 ps8 K12 e58 S12 G12 htk12
          (try dsimp only at htk12)
          obtain ⟨cA, oA, hh9⟩ := d2iRet F9 N9 (by k_updF) K12 e58 S12 G12
          refine and5 hh9 fun F8 N8 hps8 S8 lcA => ?_
          clear hh9
          (try dsimp only at N8)
          k_lt lcA
          clear F9 N9 K12 e58 S12 G12
          (try dsimp only)
          (try k_fold)
          walk_at "GO"
          rename Fr _ _ _ _ => F9
          rename News _ _ _ _ => N9
          refine Stop.mk ?_
          refine wpAny_with_toks (Nat.le_refl _) ?_
          refine c_tally (n := n) (Rm.deep hA (by decide)) (X.keeps F9.keep) (T.keeps F9.keep) hqn hq1 (by walk_at "OM") hs0 hr0 (by decide) (fun i hi => tally3_b2 hPQ e2 i hi) ?_
          intro lU vU nU h13 tk13 K13 s13 eU iU htk13
          (try dsimp only at htk13)
          have l9 := newsLt N9 s13
          k_lt l9
          have N8 := newsNew F9 N9 K13 s13 eU
          have F8 := frKp F9 K13
          clear F9 N9 K13 s13 eU
          (try dsimp only)
          (try k_fold)
          walk_at "GO"
          rename Fr _ _ _ _ => F9
          rename News _ _ _ _ => N9
          have hlU : vU.length = n := by rw [iU.len, tally_len hPQ]
          refine Stop.mk ?_
          refine wpAny_with_toks (Nat.le_refl _) ?_
          refine c_d2i_hit (k := n) (n := wn) (Rm.deep hA (by decide)) (X.keeps (kHide F9 n58)) (T.keeps (kHide F9 n58)) (C8.keeps (kHide F9 n58)) (ps := ps8) (N9 (58, tabObj ps8) (by k_mem)).1 (S8 _ (hideAll_get _ (N9 (cA, oA) (by k_mem)).1 (fun q => neA (show ¬ @Eq Nat cA 58 by walk_at "OM") (List.mem_singleton.mp q)))) hps8 (show Heap.IsList _ lU vU.toArray from News.isList N9 (by k_mem)) iU (by walk_at "OM") hlU (by walk_at "OM") (by walk_at "OM") (by walk_at "OM") (by walk_at "OM") (by walk_at "OM") (d2i_hbnd (tally3_lt hPQ e2 (by walk_at "OM")) (by rw [tally_len hPQ]; walk_at "OM")) ?_
          intro t14 h14 tk14 K14 htk14
          (try dsimp only at htk14)
          have N8 := newsKp N9 K14
          have F8 := frKp F9 K14
          clear F9 N9 K14
          (try dsimp only)
          (try k_fold)
          obtain ⟨K, R, hh9⟩ := num_ok2 (wn := wn) hPQ hroot e1 e2 (by walk_at "OM")
          refine and12 hh9 fun hKR hR0 hRG hPP1 hPPn hK0 p20 p21 p30 p31 hdig hkk => ?_
          clear hh9
          refine lawNumsK (w := w) (p := p) (loose := loose) (mean := mean) (mg := mg) (mb := mb) hn7 hn37 (by walk_at "OM") (by walk_at "OM") hqn e3 e4 hKR hR0 hRG hPP1 hPPn hK0 p20 p21 p30 p31 fun x y mP mW pW0 pW1 mU mD mX mY hneq hI hy1 hy2 => ?_
          clear hKR hPP1 hPPn hK0 p20 p21 p30 p31
          walk_at "GO"
          rename Fr _ _ _ _ => F9
          rename News _ _ _ _ => N9
          refine Stop.mk ?_
          refine wpAny_with_toks (Nat.le_refl _) ?_
          refine hI (Rm.deep hA (by decide)) (X.keeps (kHide2 F9 n51 n58)) (T.keeps (kHide2 F9 n51 n58)) (C1.keeps (kHide2 F9 n51 n58)) (C8.keeps (kHide2 F9 n51 n58)) (ps1 := #[]) (ps8 := ps8) (N9 (51, tabObj #[]) (by k_mem)).1 (N9 (58, tabObj ps8) (by k_mem)).1 (Or.inl rfl) (S8 _ (hideAll_get _ (N9 (cA, oA) (by k_mem)).1 (fun q => by
            rcases List.mem_cons.mp q with q | q
            · exact neA (show ¬ @Eq Nat cA 51 by walk_at "OM") q
            · exact neA (show ¬ @Eq Nat cA 58 by walk_at "OM") (List.mem_singleton.mp q)))) hps8 ?_
          intro lQ tQ1 tQ2 h15 tk15 ps1 K15 e51 S15 G15 hl15 eQ htk15
          (try dsimp only at htk15)
          obtain ⟨z, oz, hh9⟩ := idmRet F9 N9 (by k_updF) K15 e51 S15 G15 hl15 eQ
          refine and5 hh9 fun F8 N8 S1 lQl hz51 => ?_
          clear hh9
          (try dsimp only at N8)
          k_lt lQl
          clear F9 N9 K15 e51 S15 G15 hl15 eQ
          (try dsimp only)
          (try k_fold)
          walk_at "GO"
          rename Fr _ _ _ _ => F9
          rename News _ _ _ _ => N9
          refine Stop.mk ?_
          refine wpAny_Assign_Name ?_
          refine wpAny_with_toks (Nat.le_refl _) ?_
          refine ifexp_cut (s := s) (R := R) F9 N9 ?_ ?_
          · refine wpAny_IfExp ?_
            by_cases hud : up = dn
            · have hcd : (up == dn) = true := beq_iff_eq.mpr hud
              walk_at "GO"
              any_goals exact CEnd.mk (by walk_at "KPCHAIN") ⟨_, congrArg (fun q => Value.int q _) (hy1 hud)⟩
              all_goals first | exact Str.ofString "" | exact Value.none | exact ([] : List (Str × Addr)) | exact (0 : Nat)
            · have hcd : (up == dn) = false := beq_eq_false_iff_ne.mpr hud
              walk_at "GO"
              any_goals exact CEnd.mk (by walk_at "KPCHAIN") ⟨_, congrArg (fun q => Value.int q _) (hy2 hud)⟩
              all_goals first | exact Str.ofString "" | exact Value.none | exact ([] : List (Str × Addr)) | exact (0 : Nat)
          · intro uR h16 tk16 F N htk16
            (try dsimp only at htk16)
            clear F9 N9
            (try dsimp only)
            (try k_fold)
            walk_at "GO"
            rename Fr _ _ _ _ => F9
            rename News _ _ _ _ => N9
            rename IsRange _ _ _ _ _ _ _ _ => hR9
            refine Stop.mk ?_
            refine comp_range_V (n := n - 1) (fun i ys tk => IntsV ys ((List.range i).map (dueF n root q ei ci))) rfl F9 N9 hR9 hs1 hr1 (fun _ => IntsV.nil) (fun _ _ _ _ g l => g) ?_ ?_ (hsz := Nat.le_trans (Nat.sub_le _ _) (Nat.le_trans hn37 (by decide)))
            · rintro C i ys h t0 tk mc hi g hlen h1 h2 F N
              have g1 : IntsV ys ((List.range i).map (dueF n root q ei ci)) := g
              clear g F9 N9 hR9
              (try dsimp only at *)
              refine and8 (due_ok hPQ hroot e1 e2 i hi) fun du1 du2 du3 du4 du5 du6 du7 du8 => ?_
              obtain ⟨X9, hX9⟩ : ∃ x, ix (pw q (4 * ei ^ Int.toNat 3 * ci ^ Int.toNat 2 * (1 + (i : Int) * 1))) (powI q root 6) = x := ⟨_, rfl⟩
              have hX6 : X9 < 6 := by walk_at "OM"
              have du9 : 0 ≤ ((ix (pw q (4 * ei ^ Int.toNat 3 * ci ^ Int.toNat 2 * (1 + (i : Int) * 1))) (powI q root 6) : Nat) : Int) := Int.natCast_nonneg _
              have du10 : ((ix (pw q (4 * ei ^ Int.toNat 3 * ci ^ Int.toNat 2 * (1 + (i : Int) * 1))) (powI q root 6) : Nat) : Int) < 2 ^ 63 := by walk_at "OM"
              obtain ⟨tv9, hv9⟩ := iA.get X9 (2 ^ 30 * abT n root X9) (by simp [hX6])
              have du11 : vA.toArray[((ix (pw q (4 * ei ^ Int.toNat 3 * ci ^ Int.toNat 2 * (1 + (i : Int) * 1))) (powI q root 6) : Nat) : Int).toNat]? = some (.int (2 ^ 30 * abT n root X9) tv9) := by rw [hX9, Int.toNat_natCast, List.getElem?_toArray]; exact hv9
              have gs : (List.range (i + 1)).map (dueF n root q ei ci) = (List.range i).map (dueF n root q ei ci) ++ [2 ^ Int.toNat 30 * q + 2 ^ 30 * abT n root X9] := by
                rw [List.range_succ, List.map_append]
                show _ ++ [dueF n root q ei ci i] = _
                unfold dueF
                rw [hX9]
              walk_at "GO"
              any_goals first | exact Str.ofString "" | exact Value.none | exact ([] : List (Str × Addr)) | exact (0 : Nat) | skip
              rename Fr _ _ _ _ => F9
              rename News _ _ _ _ => N9
              refine Stop.mk ?_
              refine wpAny_with_toks (Nat.le_refl _) ?_
              refine c_six (Rm.deep hA (by decide)) (X.keeps F9.keep) (T.keeps F9.keep) (show Heap.IsList _ D3 ys3.toArray from News.isList N9 (by k_mem)) (g4.mono (show @LE.le Nat _ _ _ by (try dsimp only); walk_at "OM")) du7 ?_
              intro t9 h9 tk9 K9 htk9 htk9'
              have N8 := newsKp N9 K9
              have F8 := frKp F9 K9
              clear F9 N9
              (try dsimp only)
              (try k_fold)
              walk_at "GO"
              any_goals exact CEnd.mk (by walk_at "KPCHAIN") (gs ▸ g1.snoc)
              all_goals first | exact Str.ofString "" | exact Value.none | exact ([] : List (Str × Addr)) | exact (0 : Nat)
            · intro D5 ys5 nD5 h17 tk17 g hlen5 h18 h19 k17 F N
              have g6 : IntsV ys5 ((List.range (n - 1)).map (dueF n root q ei ci)) := g
              (try dsimp only at *)
              have l10 := newsLt N9 h19
              k_lt l10
              clear g F9 N9 hR9 k17
              walk_at "GO"
              rename Fr _ _ _ _ => F9
              rename News _ _ _ _ => N9
              refine Stop.mk ?_
              refine kmk_add_ints (vs := [.int (2 ^ Int.toNat 30 * q) _]) (ns := [2 ^ Int.toNat 30 * q]) F9 N9 (News.isList N9 (by k_mem)) (show Heap.IsList _ D5 ys5.toArray from News.isList N9 (by k_mem)) int1.are g6.are ?_ ?_
              · intro DU us hU F N lU' iUs
                (try k_lt lU')
                clear F9 N9
                (try dsimp only)
                (try k_fold)
                walk_at "GO"
                rename Fr _ _ _ _ => F9
                rename News _ _ _ _ => N9
                have S1' : ∀ g' : Heap, g'.get? z = some oz → TabSt (hideAll g' [51]) 77 4 (Str.ofString "_int2digits.<locals>.inner") ps1 := fun g' e => by
                  by_cases hz : z = 51
                  · rw [hz51 hz]; exact Or.inl rfl
                  · exact S1 _ (hideAll_get _ e (fun q => hz (List.mem_singleton.mp q)))
                have n7 : ∀ {x : Nat}, @LT.lt Nat _ 51 x → @Ne Addr x 51 := fun hx => neA (Nat.ne_of_gt hx)
                refine Stop.mk ?_
                refine c_i2d (k := n) (ps := ps1) (Rm.deep hA (by decide)) (X.keeps (kHide F9 n51)) (T.keeps (kHide F9 n51)) (C1.keeps (kHide F9 n51)) (N9 (51, tabObj ps1) (by k_mem)).1 (S1' _ (N9 (z, oz) (by k_mem)).1) hR0 hkk (by walk_at "OM") (by walk_at "OM") (by walk_at "OM") (by walk_at "OM") ?_
                intro lD vD nD6 h20 tk20 ps1' K20 e51 S20 G20 hl20 eD hlD hdD
                have F8 := frBut F9 (N9 (51, tabObj ps1) (by k_mem)).2.1 n51 K20
                have hLl : @LT.lt Nat _ L' lD := Nat.lt_of_lt_of_le F9.ns.lt hl20
                have mU := N9 (DU, W.listOf us.toArray 0) (by k_mem)
                have m51 := N9 (51, tabObj ps1) (by k_mem)
                have m58 := N9 (58, tabObj ps8) (by k_mem)
                have hUD : @LT.lt Nat _ DU lD := Nat.lt_of_lt_of_le (Heap.lt_size mU.1) hl20
                have N8 : News (hideAll s.heap [51, 58]) L' h20 [(lD, lstObj vD nD6), (DU, W.listOf us.toArray 0), (51, tabObj ps1'), (58, tabObj ps8)] := newsCons eD (neA (by walk_at "NEQ")) (fresh_ge F9 hLl) (newsCons (K20 DU _ (n7 (by walk_at "OM")) mU.1) mU.2.1 mU.2.2 (newsCons e51 m51.2.1 n51 (newsCons (K20 58 _ (neA (by decide)) m58.1) m58.2.1 n58 News.nil)))
                clear F9 N9 K20 e51 S20 G20 hl20 eD mU m51 m58
                (try dsimp only)
                (try k_fold)
                walk_at "GO"
                rename Fr _ _ _ _ => F9
                rename News _ _ _ _ => N9
                refine Stop.mk ?_
                refine comp_seq_V (fun j ys tk => IntsV ys ((List.range j).map fun i => 2 ^ Int.toNat 30 * (R / 2 ^ (i * wn) % 2 ^ wn))) rfl F9 N9 (Or.inl (show Heap.IsList _ lD vD.toArray from News.isList N9 (.head _))) (fun _ => IntsV.nil) (fun _ _ _ _ g _ => g) ?_ ?_ (hsz := show vD.toArray.size ≤ sizeLine from Nat.le_trans (show vD.length ≤ 64 by walk_at "OM") (by decide))
                · rintro C j vv ys h t0 tk mc hv g hl h1 h2 F N
                  have g1 : IntsV ys ((List.range j).map fun i => 2 ^ Int.toNat 30 * (R / 2 ^ (i * wn) % 2 ^ wn)) := g
                  clear g F9 N9
                  (try dsimp only at *)
                  have hj : j < n := by have := (Array.getElem?_eq_some_iff.mp hv).1; simp at this; walk_at "OM"
                  obtain ⟨td, ed⟩ := hdD j hj
                  rw [List.getElem?_toArray, ed] at hv
                  cases hv
                  have wp := pow2_pos wn
                  have dm : IntMulOk (2 ^ Int.toNat 30) (R / 2 ^ (j * wn) % 2 ^ wn) := mulBits (k := 31) (l := wn) (by decide) ⟨by have := Int.emod_nonneg (R / 2 ^ (j * wn)) (show (2 : Int) ^ wn ≠ 0 by walk_at "OM"); walk_at "OM", Int.emod_lt_of_pos _ wp⟩ (by decide) (by walk_at "OM")
                  have gs : (List.range (j + 1)).map (fun i => 2 ^ Int.toNat 30 * (R / 2 ^ (i * wn) % 2 ^ wn)) = (List.range j).map (fun i => 2 ^ Int.toNat 30 * (R / 2 ^ (i * wn) % 2 ^ wn)) ++ [2 ^ Int.toNat 30 * (R / 2 ^ (j * wn) % 2 ^ wn)] := by rw [List.range_succ, List.map_append]; rfl
                  walk_at "GO"
                  any_goals exact CEnd.mk (by walk_at "KPCHAIN") (gs ▸ g1.snoc)
                  all_goals first | exact Str.ofString "" | exact Value.none | exact ([] : List (Str × Addr)) | exact (0 : Nat)
                · intro D7 ys7 nD7 h21 tk21 g hlen7 h22 h23 k21 F N
                  have g7 : IntsV ys7 ((List.range n).map fun i => 2 ^ Int.toNat 30 * (R / 2 ^ (i * wn) % 2 ^ wn)) := by
                    have hz : vD.toArray.size = n := hlD
                    rw [hz] at g
                    exact g
                  (try dsimp only at *)
                  have l11 := newsLt N9 h23
                  k_lt l11
                  clear g F9 N9 k21
                  walk_at "GO"
                  rename Fr _ _ _ _ => F9
                  rename News _ _ _ _ => N9
                  refine Stop.mk ?_
                  refine ke_eq_ints (show Heap.IsList _ D7 ys7.toArray from News.isList N9 (by k_mem)) (show Heap.IsList _ DU us.toArray from News.isList N9 (by k_mem)) g7.are iUs (Rm.units (Rm.deep (n := 8) hA (by decide))) ?_
                  rw [decide_eq_true (due_eq hn7 hdig)]
                  exact ret _ _ (fun b o h1 h2 e => F9.keep b o (hideAll_get _ e (fun q => by
                    rcases List.mem_cons.mp q with q | q
                    · exact h1 q
                    · exact h2 (List.mem_singleton.mp q)))) ⟨_, (N9 (51, tabObj ps1') (by k_mem)).1⟩ ⟨_, (N9 (58, tabObj ps8) (by k_mem)).1⟩
              · simp only [List.length_cons, List.length_nil, List.length_map, List.length_range]
                exact Nat.le_trans (show 0 + 1 + (n - 1) ≤ 64 by walk_at "OM") (by decide)
end
theorem IntsV.ofAre : ∀ {vs : List Value} {ns : List Int}, IntsAre vs ns → IntsV vs ns
  | _, _, .nil => IntsV.nil
  | _, _, .cons n t r => IntsV.cons (IntsV.ofAre r)
theorem rmCaller : Rm 20 callerA := ⟨rfl, by decide +kernel, by decide +kernel⟩
end Mine

set_option maxRecDepth 100000 in
set_option maxHeartbeats 8000000 in
theorem PySem.Challenge.cw_tl0018_01_holds : PySem.Challenge.rw_tl0018_01.Holds := by
  refine Mine.hd ?_
  k_fill
  intro w s₀ s₁ mg mb G Y fa o pm cd doc dV kV ho hd' hcd hD hmg hg args vals as hpre hlay hrd hwl hlo
  have KX := km_in_of Y
  km_tabs Y
  have X := (Ground.X G).1
  have V := (Ground.X G).2
  refine Ground.open G ?_
  intro T B D TE TW
  try (refine guard_noD D (by decide +kernel) ?_; clear D)
  km_lay T hmg ho hd' cd
  wrow_args hpre hlay hrd hwl hlo
  clear hcd hD hd'
  rename_i script _ _ _ _ _ _ l vs _ hL _ _ _ hI _ hlen _
  have hm : mg (PySem.Str.ofString "law") = some (.ref 176) := mg_of KX (Top.g T) (by kernel_rfl)
  have hfa : fa = 176 := by
    have h1 : mg (PySem.Str.ofString "law") = some (.ref fa) := hmg
    rw [hm] at h1
    cases h1; rfl
  subst hfa
  have sw : ∀ b o, (ghostOf s₁.heap [(62, 58), (55, 51)]).get? b = some o → (hideAll s₁.heap [51, 58]).get? b = some o := fun b o e => hideAll_get _ (of_hideAll _ e) fun q => by
    have hn : (ghostOf s₁.heap [(62, 58), (55, 51)]).get? b = none := hideAll_none _ (by
      rcases List.mem_cons.mp q with q | q
      · rw [q]; exact .tail _ (.head _)
      · rw [List.mem_singleton.mp q]; exact .head _)
    rw [hn] at e; cases e
  have hCC := ghost_code hT9
  have hk51 : s₁.heap.get? 51 = some (tabObj #[]) := hT8 51 (.tail _ (.head _))
  have hk58 : s₁.heap.get? 58 = some (tabObj #[]) := hT8 58 (.head _)
  refine Mine.c_law Mine.rmCaller ((ghost_K hT9 KX (by kernel_rfl)).keeps sw) ((ghost_top hT9 T).keeps sw) (hCC.2.1.keeps sw) (hCC.1.keeps sw) hk51 hk58 hL (Mine.IntsV.ofAre hI) (by omega) ?_
  intro h' tk' k e51 e58
  obtain ⟨p1, e51⟩ := e51
  obtain ⟨p8, e58⟩ := e58
  have t8 := ((hT9 _ (.head _)).1.tab (hT9 _ (.head _)).2).isCodeTable
  have t1 := ((hT9 _ (.tail _ (.head _))).1.tab (hT9 _ (.tail _ (.head _))).2).isCodeTable
  refine ⟨Or.inl ⟨.bool true, .bool true, [], rfl, fun _ => rfl, .bool true, (by first | (with_unfolding_all rfl) | kernel_rfl), fun _ => ⟨List.nodup_nil, fun _ h => nomatch h⟩⟩, ⟨fun b o e => ?_, fun b o e => ?_⟩, rfl, .of_eq hg⟩
  · by_cases h1 : b = 51
    · subst h1
      rw [hk51] at e; cases e
      exact .inr (.inl ⟨t1, rfl, #[], p1, rfl, by rw [Array.empty_append]; exact e51⟩)
    by_cases h2 : b = 58
    · subst h2
      rw [hk58] at e; cases e
      exact .inr (.inl ⟨t8, rfl, #[], p8, rfl, by rw [Array.empty_append]; exact e58⟩)
    exact .inl (k b o h1 h2 e)
  · by_cases h1 : b = 51
    · subst h1; exact ⟨_, e51⟩
    by_cases h2 : b = 58
    · subst h2; exact ⟨_, e58⟩
    exact ⟨o, k b o h1 h2 e⟩
