import PyProof.Rows.All
import Wide.All
import OpenK.AllK
import Wide.FinOn
import KE.KLcPair
import KE.KNestM
import Lean
import PySem.Challenge.RW_rs0167_01
open PySem PySem.W PySem.Calls PyProof.Rows
set_option Elab.async false
set_option linter.all false
set_option compiler.extract_closed false
set_option maxRecDepth 100000
namespace Mine
local macro_rules | `(tactic| omega) => `(tactic| first | lia | omega +splitDisjunctions)
local macro_rules | `(tactic| wp_step) => `(tactic| first
  | (with_reducible first
      | refine wpAny_pure ?_ | refine wpAny_bind ?_ | refine wpAny_holding ?_ | refine wpAny_rule ?_ | refine wpAny_letGo ?_
      | refine wpAny_of_eq (by assumption) ?_ | refine wpAny_typeOf (by assumption) ?_ | refine wpAny_specialOf (by assumption) (by assumption) ?_
      | refine wpAny_isInstance (by assumption) (by assumption) ?_ | refine wpAny_call ?_ | refine wpAny_runValue ?_)
  | ((with_reducible apply wpAny_ite_false); focus (rfl; done)) | ((with_reducible apply wpAny_ite_true); focus (rfl; done))
  | wp_delta
  | ((with_reducible apply wpAny_load'); focus (heap_get; done)) | ((with_reducible apply wpAny_loadPart'); focus (heap_get; done)))
section XRH
section
local macro_rules | `(tactic| o_head $_) => `(tactic| assumption)
set_option maxRecDepth 100000 in
set_option maxHeartbeats 8000000 in
theorem fr (h : PySem.Challenge.rw_rs0167_01.row.Holds) : PySem.Challenge.rw_rs0167_01.row.Holds := by
  k_head
end
noncomputable def vw : Program :=
  { PySem.Challenge.pw_rs0167_01 with
    main := { PySem.Challenge.pw_rs0167_01.main with
      body := [0, 2, 3, 4, 5, 7, 8, 10, 11, 12, 13, 14, 15, 16].filterMap fun i => PySem.Challenge.pw_rs0167_01.main.body[i]? } }
end XRH
noncomputable def Hold (p : Prop) : Prop := p
theorem Hold.out {p : Prop} (h : Hold p) : p := h
noncomputable def StopAt : Prop := True
inductive StopN : Nat → Prop
  | mk (n : Nat) : StopN n

noncomputable abbrev TT (mg mb : Str → Option Value) (h : Heap) : Prop := TopRead vw [Str.ofString "_Accumulator"] mg mb h

structure Room (A : Around) (d u : Nat) : Prop where
  handled : A.handled = none
  depth : A.depth + d < 1000
  units : A.units + u < 9900

section
variable {prog : Program} {w : World} {A : Around} {E : Value → Shared → Prop} {s : Shared} {K : Frag} {p : Program} {loose : List Str} {mg mb : Str → Option Value}
  {name qual : Str} {params : Arguments} {body : List Stmt} {scope : Scope} {dV kV doc pm cdv ct oc : Value} {an od : Option Addr} {osl : Array (Option Value)} {f : Addr} {args : List Value} {binds : List (Str × Value)}
theorem enterP {Q : Value → Shared → Prop} (X : K.In s.heap) (T : TopRead p loose mg mb s.heap)
    (ho : K.lookup f = some ⟨oc, od, .func (fnOf name qual params body scope dV kV doc pm an cdv ct), osl⟩) (hcd : codeIn K cdv qual = true) (hroom : A.depth < recursionLimit)
    (hbind : BindsTo s (fnOf name qual params body scope dV kV doc pm an cdv ct) ⟨args, []⟩ binds) (hloc : ∀ y ∈ binds, scope.names.lookup y.1 = some .local)
    (h : ∀ h₁, Fr s.heap s.heap.objs.size h₁ (fun y => binds.reverse.lookup y) →
      wpAny (model prog w) (A.deeper (envOf qual scope s.heap.objs.size f cdv)) (execs body (envOf qual scope s.heap.objs.size f cdv))
        (fun fl s' => Q (match fl with | .ret v => v | _ => .none) s') (fun _ _ => False)
        { s with heap := h₁, toks := s.toks + binds.length })
    (hco : scope.isCoroutine = false) (hgen : scope.isGenerator = false) (hk : scope.kind = .function)
    (hcell : ∀ x ∈ scope.names, x.2 ≠ .cell) : wpAny (model prog w) A (call (.ref f) args) Q E s := by
  refine wpAny_call (codeAny_call_def (fd := fnOf name qual params body scope dV kV doc pm an cdv ct) (body := body) (binds := binds) hroom (X _ _ ho) rfl T.nolimit (codeRec_of X hcd) rfl hbind hcell hloc (fun h₁ hns hk₁ => ?_) hco hgen hk)
  exact wpAny_mono (h h₁ ⟨hns, hk₁, Nat.le_refl _⟩) (fun _ _ z => z) fun _ _ z => z.elim
end
noncomputable def pickS {α : Type} (lo hi : Option Int) (l : List α) : List α := (l.drop (kms_lo lo l.length)).take (kms_hi hi l.length - kms_lo lo l.length)
noncomputable def wt (l : List Str) : Nat := (l.map (·.length)).sum + l.length
theorem wt_take (l : List Str) : ∀ k, wt (l.take k) ≤ wt l := by
  induction l with
  | nil => intro k; simp
  | cons x l ih =>
    intro k
    cases k with
    | zero => simp [wt]
    | succ k => have := ih k; simp only [wt, List.take_succ_cons, List.map_cons, List.sum_cons, List.length_cons] at *; omega
theorem wt_drop (l : List Str) : ∀ k, wt (l.drop k) ≤ wt l := by
  induction l with
  | nil => intro k; simp
  | cons x l ih =>
    intro k
    cases k with
    | zero => simp
    | succ k => have := ih k; simp only [wt, List.drop_succ_cons, List.map_cons, List.sum_cons, List.length_cons] at *; omega
theorem wt_pick (lo hi : Option Int) (l : List Str) : wt (pickS lo hi l) ≤ wt l := Nat.le_trans (wt_take _ _) (wt_drop _ _)
theorem len_wt (l : List Str) : l.length ≤ wt l := Nat.le_add_left _ _
theorem strs_pick {vs : List Value} {ss : List Str} (h : StrsAre vs ss) (lo hi : Option Int) : StrsAre (kms_pick vs lo hi) (pickS lo hi ss) := by
  unfold kms_pick pickS
  rw [h.length]
  exact (h.drop' _).take' _
theorem strs_rev {vs : List Value} {ss : List Str} (h : StrsAre vs ss) : StrsAre vs.reverse ss.reverse := by
  induction h with
  | nil => exact .nil
  | cons y t h ih => rw [List.reverse_cons, List.reverse_cons]; exact ih.append' (.cons y t .nil)
section
variable {prog : Program} {w : World} {A : Around} {E : Value → Shared → Prop} {s : Shared} {h₀ : Heap} {L l : Addr} {m : Str → Option Value} {news : List (Addr × Obj)} {value slice : PySem.Expr} {vs : List Value} {vl vu vk : Value} {lo hi : Option Int} {Q : Value → Shared → Prop}
theorem sliceL (F : Fr h₀ L s.heap m) (N : News h₀ L s.heap news) (hl : s.heap.IsList l vs.toArray) (pl : IsPart vl lo) (pu : IsPart vu hi)
    (hs : subscripted slice false (.ref l) (.ref s.heap.objs.size) = operate [.ref s.heap.objs.size, .ref l] (getItem (.ref l) (.ref s.heap.objs.size))) (ht : ∀ r, letTemporaryGo value (.ref l) r = pure ()) (hz : vs.length ≤ 16777216)
    (h : ∀ D h', Fr h₀ L h' m → News h₀ L h' ((D, listOf (kms_pick vs lo hi).toArray 0) :: news) → (∀ p ∈ news, p.1 < D) → Q (.ref D) { s with heap := h' }) :
    wpAny (model prog w) A (subscriptTail value slice (.ref l) (.ref s.heap.objs.size)) Q E { s with heap := s.heap.push { cls := .type "slice", data := .fields #[vl, vu, .none] } } :=
  kms_slice_lit F N hl pl pu rfl h hs ht (by rw [List.size_toArray, sizeLine_eq]; exact hz)
theorem joinL {D : Addr} {x : Str} {t : Tok} {ys : List Str} (hl : s.heap.IsList D vs.toArray) (hi : StrsAre vs ys) (hsep : x.length ≤ 16) (hw : wt ys ≤ 1048576)
    (h : ∀ t' k, Q (.str (Str.join x ys) t') { s with toks := k }) : wpAny (model prog w) A (call (.builtin "str.join") [.str x t, .ref D]) Q E s :=
  join_listW hl hi hsep hw (fun t' k => by have := h t' k; rwa [← StrLaws.glued_eq_join] at this)
theorem lenS {x : Str} {t : Tok} (hw : x.length ≤ 1048576) (h : Q (.int x.length (s.toks + 1)) { s with toks := s.toks + 1 + 1 }) : wpAny (model prog w) A (call (.builtin "len") [.str x t]) Q E s :=
  SBL.len (by omega) h
theorem lenL {l : Addr} {n : Nat} (hl : s.heap.IsList l vs.toArray) (hn : vs.length = n) (hw : n ≤ 1048576) (h : Q (.int n (s.toks + 1)) { s with toks := s.toks + 1 + 1 }) : wpAny (model prog w) A (call (.builtin "len") [.ref l]) Q E s :=
  Calls.call_len_list hl (by rw [List.size_toArray]; omega) (by rw [List.size_toArray, hn]; exact h)
theorem revL {ops : List Value} (F : Fr h₀ L s.heap m) (N : News h₀ L s.heap news) (hl : s.heap.IsList l vs.toArray) (pk : IsPart vk (some (-1)))
    (hs : subscripted slice false (.ref l) (.ref s.heap.objs.size) = operate ops (getItem (.ref l) (.ref s.heap.objs.size))) (ht : ∀ r, letTemporaryGo value (.ref l) r = pure ()) (hz : vs.length ≤ 16777216)
    (h : ∀ D h', Fr h₀ L h' m → News h₀ L h' ((D, listOf vs.reverse.toArray 0) :: news) → (∀ p ∈ news, p.1 < D) → Q (.ref D) { s with heap := h' }) :
    wpAny (model prog w) A (subscriptTail value slice (.ref l) (.ref s.heap.objs.size)) Q E { s with heap := s.heap.push { cls := .type "slice", data := .fields #[.none, .none, vk] } } :=
  krv_lit F N hl pk rfl h hs ht (by rw [List.size_toArray, sizeLine_eq]; exact hz)
end
theorem pickS_upto {α : Type} (l : List α) (b : Nat) : pickS none (some (b : Int)) l = l.take b := by
  have h2 : ¬ ((b : Int) < 0) := by omega
  simp only [pickS, kms_lo, kms_hi, if_neg h2, Int.toNat_natCast, List.drop_zero, Nat.sub_zero]
  exact kmk_take_min l b
theorem pickS_nat {α : Type} (l : List α) {x y : Int} (a b : Nat) (ha : x = a) (hb : y = b) : pickS (some x) (some y) l = (l.take b).drop a := by
  subst ha hb
  have h1 : ¬ ((a : Int) < 0) := by omega
  have h2 : ¬ ((b : Int) < 0) := by omega
  simp only [pickS, kms_lo, kms_hi, if_neg h1, if_neg h2, Int.toNat_natCast]
  rw [List.drop_take, kmk_drop_min]
  by_cases c : b ≤ l.length
  · rw [Nat.min_eq_left c]
    by_cases d : a ≤ l.length
    · rw [Nat.min_eq_left d]
    · rw [List.drop_of_length_le (by omega)]; simp
  · have e : (l.drop a).length = l.length - a := List.length_drop
    rw [List.take_of_length_le (by omega), List.take_of_length_le (by omega)]
theorem len_kpick (vs : List Value) (lo hi : Option Int) : (kms_pick vs lo hi).length ≤ vs.length := by
  unfold kms_pick
  rw [List.length_take, List.length_drop]
  omega
theorem len_join (l : List Str) : (Str.join (Str.ofString "") l).length = (l.map (·.length)).sum := by
  have h := StrLaws.glued_eq_join (Str.ofString "") l
  induction l with
  | nil => rfl
  | cons x l ih =>
    cases l with
    | nil => show x.length = _; simp
    | cons y r =>
      show (x ++ Str.ofString "" ++ Str.join (Str.ofString "") (y :: r)).length = _
      rw [Str.length_append, Str.length_append, ih (StrLaws.glued_eq_join _ _)]
      have : (Str.ofString "").length = 0 := rfl
      simp only [List.map_cons, List.sum_cons, this]
      omega
theorem len_join_wt (l : List Str) : (Str.join (Str.ofString "") l).length ≤ wt l := by
  rw [len_join]; exact Nat.le_add_right _ _
theorem le_join {l : List Str} {n : Nat} (h : wt l ≤ n) : (Str.join (Str.ofString "") l).length ≤ n := Nat.le_trans (len_join_wt l) h
theorem le_pick {lo hi : Option Int} {l : List Str} {n : Nat} (h : wt l ≤ n) : wt (pickS lo hi l) ≤ n := Nat.le_trans (wt_pick lo hi l) h
theorem le_len {l : List Str} {n : Nat} (h : wt l ≤ n) : l.length ≤ n := Nat.le_trans (len_wt l) h
theorem le_kpick {vs : List Value} {lo hi : Option Int} {n : Nat} (h : vs.length ≤ n) : (kms_pick vs lo hi).length ≤ n := Nat.le_trans (len_kpick vs lo hi) h
theorem len_star : (Str.ofString "*").length = 1 := by decide
theorem len_slash : (Str.ofString "/").length = 1 := by decide
theorem len_semi : (Str.ofString ";").length = 1 := by decide
theorem len_dash : (Str.ofString "-").length = 1 := by decide
theorem len_blank : (Str.ofString " ").length = 1 := by decide
theorem len_nil : (Str.ofString "").length = 0 := by decide
theorem addS {prog : Program} {w : World} {A : Around} {E : Value → Shared → Prop} {s : Shared} {x y : Str} {t u : Tok} {Q : Value → Shared → Prop} (hs : x.length + y.length ≤ 16777216) (h : ∀ t' k, Q (.str (x ++ y) t') { s with toks := k }) :
    wpAny (model prog w) A (binaryOp .Add (.str x t) (.str y u)) Q E s := KOpn.add hs fun t' k _ => h t' k
section
variable {h₀ h h' : Heap} {L : Addr} {m : Str → Option Value} {news adds : List (Addr × Obj)}
theorem fr_up (F : Fr h₀ L h m) (u : ∀ b o, h.get? b = some o → h'.get? b = some o) : Fr h₀ L h' m := ⟨F.ns.keeps u, fun b o e => u b o (F.keep b o e), F.above⟩
theorem fresh_none {a : Addr} (e : h.objs.size ≤ a) : h.get? a = none := by
  cases q : h.get? a with
  | none => rfl
  | some o => exact absurd (Heap.lt_size q) (Nat.not_lt.mpr e)
theorem none_below (F : Fr h₀ L h m) {a : Addr} (e : h.get? a = none) : h₀.get? a = none := by
  cases q : h₀.get? a with
  | none => rfl
  | some o => rw [F.keep _ _ q] at e; cases e
theorem ne_frame (F : Fr h₀ L h m) {a : Addr} (e : h.get? a = none) : a ≠ L := fun q => by
  obtain ⟨o, _, _, ho, _⟩ := F.ns
  rw [q, ho] at e; cases e
theorem news_up (F : Fr h₀ L h m) (N : News h₀ L h news) (u : ∀ b o, h.get? b = some o → h'.get? b = some o) (ad : ∀ p ∈ adds, h.objs.size ≤ p.1 ∧ h'.get? p.1 = some p.2) : News h₀ L h' (adds ++ news) := fun p hp => by
  rcases List.mem_append.mp hp with q | q
  · have z := ad p q
    exact ⟨z.2, ne_frame F (fresh_none z.1), none_below F (fresh_none z.1)⟩
  · exact ⟨u _ _ (N p q).1, (N p q).2⟩
end

section
variable {prog : Program} {w : World} {A : Around} {E : Value → Shared → Prop} {s : Shared} {K : Frag} {p : Program} {loose : List Str} {mg mb : Str → Option Value}
  {name qual : Str} {params : Arguments} {body : List Stmt} {scope : Scope} {dV kV doc pm cdv ct oc : Value} {an od : Option Addr} {osl : Array (Option Value)} {f : Addr} {args : List Value} {binds : List (Str × Value)}
  {h₀ : Heap} {L : Addr} {m : Str → Option Value} {news : List (Addr × Obj)} {R : Result → Shared → Prop}
theorem codeL {cl : List (Str × Addr)} (F : Fr h₀ L s.heap m) (X₀ : K.In h₀) (N : News h₀ L s.heap news) (T : TopRead p loose mg mb h₀)
    (ho : K.lookup f = some ⟨oc, od, .func (fnX name qual params body scope cl dV kV doc pm an cdv ct), osl⟩) (hcd : codeIn K cdv qual = true) (hroom : A.depth < recursionLimit)
    (hbind : BindsTo s (fnX name qual params body scope cl dV kV doc pm an cdv ct) ⟨args, []⟩ binds) (hloc : ∀ y ∈ binds, scope.names.lookup y.1 = some .local)
    (h : ∀ g L' h₁, Fr g L' h₁ (fun y => binds.reverse.lookup y) → News g L' h₁ news → K.In g → TopRead p loose mg mb g → (∀ p ∈ news, p.1 < L') → (∀ b o, h₀.get? b = some o → g.get? b = some o) →
      wpAny (model prog w) (A.deeper (envX qual scope L' f cdv cl)) (execs body (envX qual scope L' f cdv cl))
        (fun fl s' => LeaveK h₀ L m g R (match fl with | .ret v => v | _ => .none) s') (fun _ _ => False)
        { s with heap := h₁, toks := s.toks + binds.length })
    (hco : scope.isCoroutine = false) (hgen : scope.isGenerator = false) (hk : scope.kind = .function)
    (hcell : ∀ x ∈ scope.names, x.2 ≠ .cell) : codeAny (model prog w) A (.call (.ref f) ⟨args, []⟩) R s := by
  obtain ⟨_, _, st, out⟩ := groundX (R := R) (below_caller h₀) F N (env := envX qual scope L f cdv cl) (A := callerA.deeper (envX qual scope L f cdv cl)) (Around.frames_deeper rfl) rfl hk
  have X := X₀.keeps F.keep
  refine codeAny_call_def (fd := fnX name qual params body scope cl dV kV doc pm an cdv ct) (body := body) hroom (X _ _ ho) rfl (T.nolimit.keeps F.keep) (codeRec_of X hcd) rfl hbind hcell hloc ?_ hco hgen hk
  intro h₁ frame up
  have inner : Fr (hideAll s.heap (news.map (·.1))) s.heap.objs.size h₁ (fun y => binds.reverse.lookup y) := ⟨frame, fun b o e => up b o (of_hideAll _ e), Nat.le_of_eq (hideAll_size _ _)⟩
  have hidden : News (hideAll s.heap (news.map (·.1))) s.heap.objs.size h₁ news := fun q hq => ⟨up _ _ (N q hq).1, Nat.ne_of_lt (Heap.lt_size (N q hq).1), hideAll_none _ (List.mem_map_of_mem hq)⟩
  exact wpAny_mono (h _ _ h₁ inner hidden (X₀.keeps st) (T.keeps st) (fun q hq => Heap.lt_size (N q hq).1) st) (fun _ _ => out _ _) fun _ _ => False.elim
end

theorem ne_of_size {h₀ h : Heap} {L l : Addr} {m : Str → Option Value} {o : Obj} (F : Fr h₀ L h m) (e : h₀.get? l = some o) : l ≠ L := fun q => Nat.lt_irrefl _ (Nat.lt_of_lt_of_le (Heap.lt_size (q ▸ e)) F.above)
theorem ne_of_list {h₀ h : Heap} {L l : Addr} {m : Str → Option Value} {its : Array Value} (F : Fr h₀ L h m) (e : h₀.IsList l its) : l ≠ L := let ⟨_, ho, _⟩ := e; ne_of_size F ho
theorem mem_wt {a : Str} : ∀ {l : List Str}, a ∈ l → a.length ≤ wt l
  | x :: l, h => by
    rcases List.mem_cons.mp h with rfl | h
    · simp only [wt, List.map_cons, List.sum_cons, List.length_cons]; omega
    · have := mem_wt h; simp only [wt, List.map_cons, List.sum_cons, List.length_cons] at *; omega
theorem inst_base {h₀ h : Heap} {L x d C : Addr} {m : Str → Option Value} {od : Obj} (F : Fr h₀ L h m) (h1 : h₀.get? x = some (instObj C d)) (h2 : h₀.get? d = some od) : PySem.W.InstAt h x (instObj C d) C (some od) :=
  ⟨F.keep _ _ h1, rfl, rfl, F.keep _ _ h2⟩
noncomputable abbrev entryDict (w : World) (t1 t2 t3 t4 : Tok) (lu lr : Value) : Obj :=
  dictOf [⟨PyData.keyHash w.params (Str.ofString "useragents"), .str (Str.ofString "useragents") t1, lu⟩, ⟨PyData.keyHash w.params (Str.ofString "rulelines"), .str (Str.ofString "rulelines") t2, lr⟩,
    ⟨PyData.keyHash w.params (Str.ofString "delay"), .str (Str.ofString "delay") t3, .none⟩, ⟨PyData.keyHash w.params (Str.ofString "req_rate"), .str (Str.ofString "req_rate") t4, .none⟩] 4
inductive TurnE (h₀ : Heap) (L I : Addr) (own : List (Addr × Obj)) (gs : Array GenState) (dr : Drawn) (os : OsState) (J : (Str → Option Value) → List (Addr × Obj) → Prop) (s₂ : Shared) : Prop
  | mk (h' : Heap) (tk' : Nat) (m' : Str → Option Value) (nw' : List (Addr × Obj)) (e : s₂ = ⟨h', gs, dr, tk', os⟩) (F : Fr h₀ L h' m') (N : News h₀ L h' (own ++ nw')) (off : ∀ p ∈ nw', p.1 ≠ I) (j : J m' nw') : TurnE h₀ L I own gs dr os J s₂
noncomputable def TurnEnd (h₀ : Heap) (L I : Addr) (own : List (Addr × Obj)) (s : Shared) (J : (Str → Option Value) → List (Addr × Obj) → Prop) (Q : Flow → Shared → Prop) (f : Flow) (s₂ : Shared) : Prop :=
  match f with
  | .ret v => Q (.ret v) s₂
  | .brk => Q .next s₂
  | _ => TurnE h₀ L I own s.gens s.drawn s.os J s₂
section
variable {prog : Program} {w : World} {A : Around} {E : Value → Shared → Prop} {s : Shared} {env : Env} {h₀ : Heap} {x : Str} {body : List Stmt} {Q : Flow → Shared → Prop} {m₀ : Str → Option Value} {news : List (Addr × Obj)}
  {I : Addr} {fp : List Addr} {n : Nat} {P : Nat → Value → Prop} {St : Nat → Heap → Prop}
theorem ex9 {α β γ δ ε ζ η θ ι : Type} {p : α → β → γ → δ → ε → ζ → η → θ → ι → Prop} (a : α) (b : β) (c : γ) (d : δ) (e : ε) (f : ζ) (g : η) (i : θ) (j : ι) (h : p a b c d e f g i j) : ∃ a b c d e f g i j, p a b c d e f g i j := ⟨a, b, c, d, e, f, g, i, j, h⟩
theorem loopN (J : Nat → (Str → Option Value) → List (Addr × Obj) → Prop)
    (W : Walks prog w A I fp [I] n P St) (hst : St 0 s.heap) (live : ∀ i h, St i h → ∃ o, h.get? I = some o) (hLf : env.locals ∉ fp) (hI₀ : h₀.get? I = none) (hnI : ∀ p ∈ news, p.1 ≠ I) (F : Fr h₀ env.locals s.heap m₀) (N : News h₀ env.locals s.heap news) (hj : J 0 m₀ news)
    (turn : ∀ i v m₁ nw h tk own oI, i < n → P i v → J i m₁ nw → (I, oI) ∈ own → (∀ p ∈ nw, p.1 ≠ I) → Fr h₀ env.locals h (fun y => if y = x then some v else m₁ y) → News h₀ env.locals h (own ++ nw) →
      wpAny (model prog w) A (execs body env) (TurnEnd h₀ env.locals I own s (J (i + 1)) Q) E { s with heap := h, toks := tk })
    (done : ∀ m₁ nw h tk, J n m₁ nw → Fr h₀ env.locals h m₁ → News h₀ env.locals h nw → Q .next { s with heap := h, toks := tk }) :
    LoopAtV prog w A h₀ env x body Q E (.ref I) s := by
  refine ex9 I fp [I] n P St m₀ news J ⟨rfl, W, hLf, fun b hb => by rw [List.mem_singleton.mp hb]; exact hI₀, fun p hp hm => hnI p hp (List.mem_singleton.mp hm), hst, F, N, hj, ?_, ?_⟩
  · rintro i v m₁ nw s₁ own ⟨h, tk, rfl⟩ hin hP hJ hoff hown hget hall hst₁ F₁ N₁
    obtain ⟨oI, eI⟩ := live _ _ hst₁
    have mI : (I, oI) ∈ own := hall I (W.sub I (List.mem_singleton.mpr rfl)) hI₀ oI eI
    refine wpAny_mono (turn i v m₁ nw h tk own oI hin hP hJ mI (fun p hp q => hoff p hp (List.mem_singleton.mpr q)) F₁ N₁) (fun f s₂ hf => ?_) fun _ _ e => e
    have fin : TurnE h₀ env.locals I own s.gens s.drawn s.os (J (i + 1)) s₂ →
        LoopStepU h₀ env.locals [I] own (J (i + 1)) { s with heap := h, toks := tk } .next s₂ := by
      rintro ⟨h', tk', m', nw', rfl, F', N', off', hJ'⟩
      exact ⟨rfl, h', tk', m', nw', rfl, F', N', fun p hp hm => off' p hp (List.mem_singleton.mp hm), hJ'⟩
    cases f with
    | ret v => exact .ret hf
    | brk => exact .brk hf
    | next => exact .next (fin hf)
    | cont => exact .cont (fin hf)
  · intro h' tk m' news' F' N' _ hJ
    exact done m' news' h' tk hJ F' N'

theorem loopL {l : Addr} {vs : List Value} (J : Nat → (Str → Option Value) → List (Addr × Obj) → Prop)
    (hh : A.handled = none) (hl : s.heap.IsList l vs.toArray) (hlL : l ≠ env.locals) (F : Fr h₀ env.locals s.heap m₀) (N : News h₀ env.locals s.heap news) (hj : J 0 m₀ news)
    (turn : ∀ i v m₁ nw h tk own I oI, vs[i]? = some v → J i m₁ nw → (I, oI) ∈ own → (∀ p ∈ nw, p.1 ≠ I) → s.heap.objs.size ≤ I → Fr h₀ env.locals h (fun y => if y = x then some v else m₁ y) → News h₀ env.locals h (own ++ nw) →
      wpAny (model prog w) A (execs body env) (TurnEnd h₀ env.locals I own s (J (i + 1)) Q) E { s with heap := h, toks := tk })
    (done : ∀ m₁ nw h tk, J vs.length m₁ nw → Fr h₀ env.locals h m₁ → News h₀ env.locals h nw → Q .next { s with heap := h, toks := tk }) :
    wpAny (model prog w) A (pyIter (.ref l)) (fun it s₂ => LoopAtV prog w A h₀ env x body Q E it s₂) E s := by
  refine wpAny_pyIter_list hl ?_
  have up : ∀ b o, s.heap.get? b = some o → (s.heap.push { cls := .type "list_iterator", data := .fields #[.ref l, .int 0 0] }).get? b = some o := fun b o e => Heap.get?_push_of_some _ e
  obtain ⟨ol, hol, hlr⟩ := id hl
  have hlt := Heap.lt_size hol
  have Wk := Walks.list (prog := prog) (w := w) hh s.heap.objs.size l (Nat.ne_of_lt hlt) vs.toArray
  rw [List.size_toArray] at Wk
  refine loopN (s := { s with heap := s.heap.push { cls := .type "list_iterator", data := .fields #[.ref l, .int 0 0] } }) J Wk ⟨⟨_, Heap.get?_push_size _ rfl, rfl, rfl⟩, hl.at fun o e => up _ _ e⟩ (fun i h st => let ⟨⟨o, e, _⟩, _⟩ := st; ⟨o, e⟩) ?_ (none_below F (fresh_none (Nat.le_refl _))) (fun p hp => Nat.ne_of_lt (Heap.lt_size (N p hp).1)) (fr_up F up) (fun p hp => ⟨up _ _ (N p hp).1, (N p hp).2⟩) hj ?_ ?_
  · intro hm
    rcases List.mem_cons.mp hm with q | q
    · exact ne_frame F (fresh_none (Nat.le_refl _)) q.symm
    · exact hlL (List.mem_singleton.mp q).symm
  · intro i v m₁ nw h tk own oI hin hP hJ mI off F₁ N₁
    exact turn i v m₁ nw h tk own _ oI (by simpa using hP) hJ mI off (Nat.le_refl _) F₁ N₁
  · intro m₁ nw h tk hJ F₁ N₁
    exact done m₁ nw h tk hJ F₁ N₁
end
section
variable {prog : Program} {w : World} {A : Around} {E : Value → Shared → Prop} {s : Shared} {env : Env} {h₀ : Heap} {x : Str} {body : List Stmt} {Q : Flow → Shared → Prop} {m₀ : Str → Option Value} {news : List (Addr × Obj)}
noncomputable def upon (xs : List Str) (u m₀ : Str → Option Value) (z : Str) : Option Value := if xs.elem z then u z else m₀ z
theorem upon_of {xs : List Str} {m' m₀ : Str → Option Value} (h : ∀ z, (∀ y ∈ xs, z ≠ y) → m' z = m₀ z) : m' = fun z => upon xs m' m₀ z := by
  funext z
  unfold upon
  cases q : xs.elem z with
  | true => rfl
  | false => exact h z (fun y hy e => by rw [e, List.elem_eq_true_of_mem hy] at q; cases q)
theorem upon_off {xs : List Str} {u m₀ : Str → Option Value} {z : Str} (h : ∀ y ∈ xs, z ≠ y) : upon xs u m₀ z = m₀ z := by
  unfold upon
  cases q : xs.elem z with
  | false => rfl
  | true => exact absurd rfl (h z (List.mem_of_elem_eq_true q))
theorem loopS {l : Addr} {vs : List Value} (xs : List Str) (J : Nat → List (Addr × Obj) → Prop)
    (hh : A.handled = none) (hl : s.heap.IsList l vs.toArray) (hlL : l ≠ env.locals) (F : Fr h₀ env.locals s.heap m₀) (N : News h₀ env.locals s.heap news) (hj : J 0 news)
    (turn : ∀ i v u nw h tk own I oI, vs[i]? = some v → J i nw → (I, oI) ∈ own → (∀ p ∈ nw, p.1 ≠ I) → s.heap.objs.size ≤ I → Fr h₀ env.locals h (fun y => if y = x then some v else upon xs u m₀ y) → News h₀ env.locals h (own ++ nw) →
      wpAny (model prog w) A (execs body env) (TurnEnd h₀ env.locals I own s (fun m' nw' => (∀ z, (∀ y ∈ xs, z ≠ y) → m' z = m₀ z) ∧ J (i + 1) nw') Q) E { s with heap := h, toks := tk })
    (done : ∀ u nw h tk, J vs.length nw → Fr h₀ env.locals h (fun y => upon xs u m₀ y) → News h₀ env.locals h nw → Q .next { s with heap := h, toks := tk }) :
    wpAny (model prog w) A (pyIter (.ref l)) (fun it s₂ => LoopAtV prog w A h₀ env x body Q E it s₂) E s := by
  refine loopL (fun i m₁ nw => (∀ z, (∀ y ∈ xs, z ≠ y) → m₁ z = m₀ z) ∧ J i nw) hh hl hlL F N ⟨fun _ _ => rfl, hj⟩ ?_ ?_
  · rintro i v m₁ nw h tk own I oI hv ⟨hm, hJ⟩ mI off hI F₁ N₁
    rw [upon_of hm] at F₁
    exact turn i v m₁ nw h tk own I oI hv hJ mI off hI F₁ N₁
  · rintro m₁ nw h tk ⟨hm, hJ⟩ F₁ N₁
    rw [upon_of hm] at F₁
    exact done m₁ nw h tk hJ F₁ N₁
end
section
variable {s s₂ : Shared} {h₀ h' : Heap} {L I : Addr} {m' : Str → Option Value} {own nw' : List (Addr × Obj)} {J : (Str → Option Value) → List (Addr × Obj) → Prop} {Q : Flow → Shared → Prop} {tk' : Nat} {v : Value}
theorem TurnEnd.next_ (F : Fr h₀ L h' m') (N : News h₀ L h' (own ++ nw')) (off : ∀ p ∈ nw', p.1 ≠ I) (hj : J m' nw') : TurnEnd h₀ L I own s J Q .next { s with heap := h', toks := tk' } := ⟨h', tk', m', nw', rfl, F, N, off, hj⟩
theorem TurnEnd.ret_ (h : Q (.ret v) s₂) : TurnEnd h₀ L I own s J Q (.ret v) s₂ := h
end
theorem take_succ_all {α : Type} {us : List α} {P : α → Prop} {i : Nat} {a₀ : α} (h : ∀ a ∈ us.take i, P a) (e : us[i]? = some a₀) (p : P a₀) : ∀ a ∈ us.take (i + 1), P a := by
  intro a ha
  rw [List.take_add_one, e] at ha
  rcases List.mem_append.mp ha with q | q
  · exact h a q
  · rw [List.mem_singleton.mp q]; exact p
theorem md_slot_get : Slot "method_descriptor" "__get__" "method_descriptor.__get__" :=
  .of (owner := "method_descriptor") (n := "__get__") (by rw [typeLookup_type, builtinLookup_eq_fast]; kernel_rfl) (by decide +kernel) (by decide +kernel) (by decide +kernel)
    (by first | exact .inl (by decide +kernel) | exact .inr (by decide +kernel)) (by rw [isSubtype_type]; kernel_rfl)
theorem md_no_set : typeLookup (.type "method_descriptor") "__set__" = pure none := by rw [typeLookup_type, builtinLookup_eq_fast]; kernel_rfl
theorem md_no_delete : typeLookup (.type "method_descriptor") "__delete__" = pure none := by rw [typeLookup_type, builtinLookup_eq_fast]; kernel_rfl
theorem md_entry_get : entryFor table "method_descriptor.__get__" = some Builtin.«method_descriptor.__get__» := entryFor_of_tree (by kernel_rfl)
theorem md_args_get (a b c : Value) : argsOk "method_descriptor.__get__" ⟨[a, b, c], []⟩ := by unfold argsOk; kernel_rfl
theorem sc_owner : (".".intercalate ("set.__contains__".cutAt '.').dropLast) = "set" := by
  have e0 : "set.__contains__".cutAt '.' = ["set", "__contains__"] := by first | rfl | decide +kernel
  rw [e0]; decide +kernel
theorem sc_sub : isSubtype (.type "set") (.type (".".intercalate ("set.__contains__".cutAt '.').dropLast)) = pure true := by
  rw [sc_owner, isSubtype_type]; kernel_rfl
theorem sc_told : Manifest.toldItsClass.contains "set.__contains__" = false := by decide +kernel

section
variable {prog : Program} {w : World} {A : Around} {E : Value → Shared → Prop} {h : Heap} {g : Array GenState} {d : Drawn} {t : Nat} {os : OsState} {a : Addr} {o : Obj}

theorem sc_get {R : Result → Shared → Prop} (hx : h.get? a = some o) (hc : o.cls = .type "set")
    (hq : R (.ok (.ret (.ref h.objs.size))) ⟨h.push { cls := .type "builtin_function_or_method", data := .fields #[.builtin "set.__contains__", .ref a] }, g, d, t, os⟩) :
    codeAny (model prog w) A (.call (.builtin "method_descriptor.__get__") ⟨[.builtin "set.__contains__", .ref a, .type "set"], []⟩) R ⟨h, g, d, t, os⟩ := by
  have hT : (⟨h, g, d, t, os⟩ : Shared).TypeIs (.ref a) "set" := ⟨_, hx, hc⟩
  have hT5 : (⟨h, g, d, t, os⟩ : Shared).TypeIs (.builtin "set.__contains__") "method_descriptor" := PySem.F.type_set_contains
  have f8 := sc_sub
  have f9 := sc_told
  refine codeAny_call_builtin md_slot_get.plain md_entry_get (md_slot_get.check _ _ _ _ _ _ _ _ hT5 (md_args_get _ _ _) ?_)
  unfold Builtin.«method_descriptor.__get__»
  ((with_reducible refine wpAny_bind ?_); wp_delta; ((with_reducible apply wpAny_ite_false); focus (rfl; done)); (with_reducible refine wpAny_bind ?_); (with_reducible refine wpAny_pure ?_); ((with_reducible apply wpAny_ite_false); focus (rfl; done)); (with_reducible refine wpAny_pure ?_); wp_delta; ((with_reducible apply wpAny_ite_false); focus (rfl; done)); wp_delta; wp_delta; (with_reducible refine wpAny_bind ?_); wp_delta; (with_reducible refine wpAny_bind ?_); wp_delta; (with_reducible refine wpAny_pure ?_); (with_reducible refine wpAny_bind ?_); (with_reducible refine wpAny_isInstance (by assumption) (by assumption) ?_); ((with_reducible apply wpAny_ite_false); focus (rfl; done)); (with_reducible refine wpAny_pure ?_))
  refine wpAny_bind ?_
  show wpAny _ _ (newObj _ _) _ _ _
  exact wpAny_newObj_type (wpAny_pure hq)

theorem sc_lk : typeLookup (.type "set") "__contains__" = pure (some (.builtin "set.__contains__")) := PySem.F.slot_set_contains.lookup

theorem sc_entry {tk : Tok} {Q : Fin → Shared → Prop} (hx : h.get? a = some o) (hc : o.cls = .type "set") (hdt : o.dict = none) (hda : ∃ es ep tb, o.data = .set es ep tb)
    (hq : Q (.done (.ret (.ref h.objs.size))) ⟨h.push { cls := .type "builtin_function_or_method", data := .fields #[.builtin "set.__contains__", .ref a] }, g, d, t, os⟩) :
    wpAny (model prog w) A (Builtin.«object.__getattribute__» ⟨[.ref a, .str "__contains__" tk], []⟩) Q E ⟨h, g, d, t, os⟩ := by
  have hT : (⟨h, g, d, t, os⟩ : Shared).TypeIs (.ref a) "set" := ⟨_, hx, hc⟩
  have hT5 : (⟨h, g, d, t, os⟩ : Shared).TypeIs (.builtin "set.__contains__") "method_descriptor" := PySem.F.type_set_contains
  obtain ⟨es, ep, tb, hda⟩ := hda
  obtain ⟨oc, od, oda, osl⟩ := o
  simp only at hc hdt hda
  subst hc; subst hdt; subst hda
  have f4 := sc_lk
  have f5 := PySem.F.type_set_contains
  have f6 := md_slot_get.lookup
  have f7 := md_no_set
  have f8 := md_no_delete
  (wp_delta; (with_reducible refine wpAny_bind ?_); wp_delta; ((with_reducible apply wpAny_ite_false); focus (rfl; done)); ((with_reducible apply wpAny_ite_false); focus (rfl; done)); (with_reducible refine wpAny_pure ?_); (with_reducible refine wpAny_bind ?_); wp_delta; (with_reducible refine wpAny_pure ?_); (with_reducible refine wpAny_bind ?_); (with_reducible refine wpAny_typeOf (by assumption) ?_); (with_reducible refine wpAny_bind ?_); wp_delta; (with_reducible refine wpAny_bind ?_); (with_reducible refine wpAny_of_eq (by assumption) ?_); (with_reducible refine wpAny_bind ?_); wp_delta; (with_reducible refine wpAny_specialOf_val (by assumption) (by assumption) ?_); (with_reducible refine wpAny_bind ?_); wp_delta; (with_reducible refine wpAny_bind ?_); wp_delta; (with_reducible refine wpAny_bind ?_); (with_reducible refine wpAny_specialOf_val (by assumption) (by assumption) ?_); ((with_reducible apply wpAny_ite_false); focus (rfl; done)); (with_reducible refine wpAny_bind ?_); (with_reducible refine wpAny_specialOf_val (by assumption) (by assumption) ?_); (with_reducible refine wpAny_pure ?_); ((with_reducible apply wpAny_ite_false); focus (rfl; done)); (with_reducible refine wpAny_pure ?_); wp_delta; wp_delta; (with_reducible refine wpAny_bind ?_); wp_delta; (with_reducible refine wpAny_bind ?_); wp_delta; (with_reducible refine wpAny_bind ?_); wp_delta; ((with_reducible apply wpAny_loadPart'); focus (heap_get; done)); wp_delta; wp_delta; (with_reducible refine wpAny_bind ?_); ((with_reducible apply wpAny_loadPart'); focus (heap_get; done)); ((with_reducible apply wpAny_ite_true); focus (rfl; done)); (with_reducible refine wpAny_pure ?_); wp_delta; (with_reducible refine wpAny_pure ?_); (with_reducible refine wpAny_bind ?_); wp_delta; ((with_reducible apply wpAny_ite_false); focus (rfl; done)); (with_reducible refine wpAny_pure ?_); wp_delta; (with_reducible refine wpAny_bind ?_); (with_reducible refine wpAny_rule ?_); (with_reducible refine wpAny_pure ?_); wp_delta; wp_delta; (with_reducible refine wpAny_bind ?_); (with_reducible refine wpAny_holding ?_); (with_reducible refine wpAny_call ?_))
  refine sc_get hx rfl ?_
  exact wpAny_pure hq

theorem getAttr_slot {s : Shared} {v : Value} {T id : String} {name : Str} {expr : Bool} {Q : Value → Shared → Prop} (S : Slot T "__getattribute__" id) (ty : ∀ tk, Shared.TypeIs { s with toks := tk } v T)
    (k : wpAny (model prog w) A (call (.builtin id) [v, .str name s.toks]) (fun r u => wpAny (model prog w) A (handedOut r) Q E u) (fun _ _ => False) { s with toks := s.toks + 1 }) : wpAny (model prog w) A (getAttr v name expr) Q E s := by
  unfold getAttr getAttrBy
  refine wpAny_bind (wpAny_mkText (wpAny_holding (wpAny_bind (wpAny_typeOf (ty _) (wpAny_bind (wpAny_of_eq S.lookup ?_))))))
  refine wpAny_ite_false rfl ?_
  unfold getAttrByItsOwn
  refine wpAny_bind (wpAny_pure (wpAny_bind (wpAny_attempt (wpAny_holding ?_))))
  refine wpAny_ite_false (by cases expr <;> rfl) ?_
  exact wpAny_bind (wpAny_of_eq (S.bind v) (wpAny_mono k (fun _ _ z => z) fun _ _ => False.elim))
theorem sc_attr {x : Bool} {Q : Value → Shared → Prop} (hx : h.get? a = some o) (hc : o.cls = .type "set") (hdt : o.dict = none) (hda : ∃ es ep tb, o.data = .set es ep tb)
    (hq : Q (.ref h.objs.size) ⟨h.push { cls := .type "builtin_function_or_method", data := .fields #[.builtin "set.__contains__", .ref a] }, g, d, t + 1, os⟩) :
    wpAny (model prog w) A (getAttr (.ref a) "__contains__" x) Q E ⟨h, g, d, t, os⟩ := by
  have ty : ∀ tk, (⟨h, g, d, tk, os⟩ : Shared).TypeIs (.ref a) "set" := fun _ => ⟨_, hx, hc⟩
  refine getAttr_slot PySem.F.slot_set_getattribute ty (wpAny_call_entry PySem.F.slot_set_getattribute (ty _) PySem.F.entry_set_ga ?_ (PySem.F.args_set_getattribute_2 _ _))
  exact sc_entry hx hc hdt hda ⟨_, rfl, wpAny_pure hq⟩

theorem sc_module : isSubtype (.type "set") (.type "module") = pure false := by rw [isSubtype_type]; kernel_rfl
theorem sc_type : isSubtype (.type "set") (.type "type") = pure false := by rw [isSubtype_type]; kernel_rfl
theorem sc_kind : builtinKind "set.__contains__" = some .method := by first | kernel_rfl | rfl
theorem sc_sig : Manifest.signature? "set.__contains__" = some ⟨.oneArg, "set.__contains__", "__contains__", .self, [⟨"object", .posOnly, true⟩]⟩ := by
  rw [signature?_of (id := "set.__contains__") (n := ['_', '_', 's', 'n', 'i', 'a', 't', 'n', 'o', 'c', '_', '_']) (o := ['t', 'e', 's']) (by kernel_rfl) PySem.F.owner_set]; kernel_rfl

theorem sc_check {x : Value} {Q : Unit → Shared → Prop} (hx : h.get? a = some o) (hc : o.cls = .type "set") (hda : ∃ es ep tb, o.data = .set es ep tb) (hq : Q () ⟨h, g, d, t, os⟩) :
    wpAny (model prog w) A (checkBoundCall "set.__contains__" ⟨[.ref a, x], []⟩) Q E ⟨h, g, d, t, os⟩ := by
  have hT : (⟨h, g, d, t, os⟩ : Shared).TypeIs (.ref a) "set" := ⟨_, hx, hc⟩
  have e : Bind.checkArgs "set.__contains__" ⟨.oneArg, toString (Bind.lastOf "set") ++ toString "." ++ toString (Bind.lastOf "set.__contains__"), "__contains__", .self, [⟨"object", .posOnly, true⟩]⟩ ⟨[.ref a, x], []⟩ = pure () := by kernel_rfl
  have em := sc_module
  obtain ⟨es, ep, tb, hda⟩ := hda
  obtain ⟨oc, od, oda, osl⟩ := o
  simp only at hc hda
  subst hc; subst hda
  unfold checkBoundCall
  rw [sc_sig, sc_kind]
  dsimp only
  refine wpAny_ite_false (decide_eq_false (by decide)) ?_
  refine wpAny_bind (wpAny_isInstance hT sc_module ?_)
  refine wpAny_ite_false (decide_eq_false (by decide +kernel)) ?_
  ((with_reducible refine wpAny_bind ?_); wp_delta; (with_reducible refine wpAny_bind ?_); wp_delta; ((with_reducible apply wpAny_loadPart'); focus (heap_get; done)); (with_reducible refine wpAny_pure ?_); ((with_reducible apply wpAny_ite_false); focus (rfl; done)); (with_reducible refine wpAny_bind ?_); (with_reducible refine wpAny_typeOf (by assumption) ?_); (with_reducible refine wpAny_of_eq (by assumption) ?_); assumption)

theorem sc_entry_contains : entryFor table "set.__contains__" = some Builtin.«frozenset.__contains__» := PySem.entry_set_contains

theorem sc_call {K : Type} [DecidableEq K] {knd : KeyKind prog w K} {k : K} {key : Value} {S : K → Bool} {n : Nat} {f : Addr} {Q : Value → Shared → Prop} (hkey : knd.is k key = true) (hsc : key.scannable = true)
    (hf : h.get? f = some { cls := .type "builtin_function_or_method", data := .fields #[.builtin "set.__contains__", .ref a] }) (hS : h.SetOf knd a S n)
    (hq : Q (.bool (S k)) ⟨h, g, d, t + 1, os⟩) : wpAny (model prog w) A (call (.ref f) [key]) Q E ⟨h, g, d, t, os⟩ := by
  have hx := hS
  obtain ⟨o, es, ep, tb, ho, ⟨hc, hdt, hsl⟩, hd, _⟩ := hx
  refine wpAny_call (codeAny_of_tree ?_)
  show wpAny _ _ (callAny (.ref f) _) _ _ _
  unfold callAny
  ((with_reducible refine wpAny_bind ?_); ((with_reducible apply wpAny_load'); focus (heap_get; done)); ((with_reducible apply wpAny_ite_true); focus (rfl; done)); wp_delta; ((with_reducible apply wpAny_ite_true); focus (rfl; done)); (with_reducible refine wpAny_bind ?_))
  refine sc_check ho hc ⟨_, _, _, hd⟩ ?_
  refine wpAny_pure ⟨plainId_quiet PySem.F.slot_set_contains.plain _, codeAny_builtin sc_entry_contains ?_⟩
  rw [Around.under_plainId PySem.F.slot_set_contains.plain _]
  unfold Builtin.«frozenset.__contains__»
  wp_walk
  refine wpAny_tryCatch (wpAny_holding (wpAny_bind (knd.pyHash hkey (wpAny_bind (wpAny_setFind_of (s := ⟨h, g, d, t + 1, os⟩) hkey hsc hS fun r e => ?_)))))
  rw [← e] at hq
  exact wpAny_pure (wpAny_pure hq)
end

noncomputable def within (ss : List Str) (k : Str) : Bool := ss.any (fun y => decide (y = k))
theorem within_more (us : List Str) (x k : Str) : within (us ++ [x]) k = (within us k || decide (k = x)) := by
  simp [within, eq_comm]
theorem SetOf_kept {prog : Program} {w : World} {K : Type} [DecidableEq K] {knd : KeyKind prog w K} {h h' : Heap} {a : Addr} {p : K → Bool} {c : Nat} (H : h.SetOf knd a p c) (k : ∀ o, h.get? a = some o → h'.get? a = some o) : h'.SetOf knd a p c :=
  let ⟨_, _, _, _, ho, r⟩ := H; ⟨_, _, _, _, k _ ho, r⟩
section
variable {prog : Program} {w : World} {A : Around} {E : Value → Shared → Prop} {s : Shared}

theorem addAll {R : Result → Shared → Prop} {S I l : Addr} {xs : Array Value} (hh : A.handled = none) (hSI : S ≠ I) (hSl : S ≠ l) (hlI : l ≠ I) :
    ∀ (todo done : List Str) (c : Nat) (s : Shared), StrsAre xs.toList (done ++ todo) → xs.size + 1 < scanBound → c ≤ done.length → s.heap.IsListIter I l done.length → s.heap.IsList l xs →
      s.heap.SetOf (strKind prog w) S (within done) c →
      (∀ h tk c, h.SetOf (strKind prog w) S (within (done ++ todo)) c → (∀ b o, b ≠ S → b ≠ I → s.heap.get? b = some o → h.get? b = some o) → R (.ok (.ret .none)) { s with heap := h, toks := tk }) →
      codeAny (model prog w) A (.builtin "set.update.loop" ⟨[.ref S, .ref I], []⟩) R s
  | [], done, c, s, hs, hb, hc, it, li, H, k => by
    refine codeAny_builtin PyProof.Rows.F.entry_set_update_loop ?_
    rw [Around.under_plainId PyProof.Rows.F.plain_set_update_loop _]
    have hx : xs[done.length]? = none := by
      have := hs.length
      rw [Array.length_toList, List.append_nil] at this
      exact Array.getElem?_eq_none (by omega)
    refine wpAny_bind (wpAny_pyNext_list_end (A := A.in1) hh it li hx fun h' e => wpAny_pure ?_)
    rw [List.append_nil] at k
    exact k h' _ c (SetOf_kept H fun o => e S o hSI) fun b o _ q => e b o q
  | x :: todo, done, c, s, hs, hb, hc, it, li, H, k => by
    refine codeAny_builtin PyProof.Rows.F.entry_set_update_loop ?_
    rw [Around.under_plainId PyProof.Rows.F.plain_set_update_loop _]
    obtain ⟨t, hx⟩ := hs.get done.length x (by simp)
    rw [Array.getElem?_toList] at hx
    have hlen := hs.length
    rw [Array.length_toList, List.length_append, List.length_cons] at hlen
    refine wpAny_bind (wpAny_pyNext_list_item it li hx fun h₁ it₁ e₁ => ?_)
    have up : ∀ b o, b ≠ I → s.heap.get? b = some o → h₁.get? b = some o := fun b o q e => (e₁.2 b q).trans e
    wp_delta
    refine wpAny_bind (wpAny_holding ?_)
    unfold setAdd
    refine wpAny_holding (wpAny_bind ((strKind prog w).pyHash (k := x) (strKind_is _ _ _ _) ?_))
    refine wpAny_setAddHashed_of (knd := strKind prog w) (s := { s with heap := h₁, toks := s.toks + 1 }) (strKind_is _ _ _ _) rfl (SetOf_kept H fun o => up S o hSI) (by omega) fun h₂ e₂ H₂ => ?_
    have up₂ : ∀ b o, b ≠ S → h₁.get? b = some o → h₂.get? b = some o := fun b o q e => (e₂.2 b q).trans e
    have hmore : (fun k => within done k || decide (k = x)) = within (done ++ [x]) := funext fun k => (within_more done x k).symm
    rw [hmore] at H₂
    refine wpAny_pure ⟨plainId_quiet PyProof.Rows.F.plain_set_update_loop _, ?_⟩
    refine addAll hh hSI hSl hlI todo (done ++ [x]) _ { s with heap := h₂, toks := s.toks + 1 } (by simpa using hs) hb (by split <;> simp <;> omega) ?_ (li.at fun o e => up₂ l o (Ne.symm hSl) (up l o hlI e)) H₂ fun h tk c' H' kp => ?_
    · rw [List.length_append]; exact it₁.at fun o e => up₂ I o (Ne.symm hSI) e
    · rw [List.append_assoc] at H'
      exact k h tk c' H' fun b o bS bI e => kp b o bS bI (up₂ b o bS (up b o bI e))
end
section
variable {prog : Program} {w : World} {A : Around} {E : Value → Shared → Prop} {s : Shared}

theorem wants_imp {Q Q' : Value → Shared → Prop} (h : ∀ v u, Q v u → Q' v u) (r : Result) (u : Shared) (x : wants Q E r u) : wants Q' E r u := by
  cases r with
  | error => exact x
  | ok f => cases f <;> first | exact x | exact h _ _ x

set_option maxHeartbeats 3200000 in
theorem set_of_strs {l : Addr} {items : Array Value} {ss : List Str} {Q : Value → Shared → Prop}
    (hh : A.handled = none) (hl : s.heap.IsList l items) (hi : StrsAre items.toList ss) (hb : items.size + 1 < scanBound)
    (h : ∀ (h' : Heap) (tk : Nat) (c : Nat), h'.SetOf (strKind prog w) s.heap.objs.size (within ss) c →
      (∀ b o, s.heap.get? b = some o → h'.get? b = some o) → Q (.ref s.heap.objs.size) { s with heap := h', toks := tk }) :
    wpAny (model prog w) A (call (.type "set") [.ref l]) Q E s := by
  obtain ⟨_, _, hm⟩ := PySem.F.called_set.mro
  have f1 := PySem.F.called_set.made
  have f2 := PySem.F.called_set.sub
  have f3 := PySem.F.typeCall_set_1 (.ref l)
  refine wpAny_call (codeAny_of_tree (wpAny_pure ⟨Code.quiet_builtin _ (by decide +kernel), codeAny_builtin PySem.F.entry_type_call ?_⟩))
  rw [Around.under_plain (weight_type_call_type "set" [.ref l] []) rfl]
  wp_walk
  refine codeAny_mono (code_set_new_1 (Q₁ := fun v u => ∃ led, v = .ref s.heap.objs.size ∧ u = { s with heap := s.heap.push { cls := .type "set", dict := none, data := .set #[] 0 (.fresh 0 0 led) } }) _ fun led => ⟨led, rfl, rfl⟩) (wants_imp ?_)
  rintro _ _ ⟨led, rfl, rfl⟩
  have at0 : (s.heap.push { cls := .type "set", dict := none, data := .set #[] 0 (.fresh 0 0 led) }).get? s.heap.objs.size = some { cls := .type "set", dict := none, data := .set #[] 0 (.fresh 0 0 led) } := Heap.get?_push_size _ rfl
  have up : ∀ b o, s.heap.get? b = some o → (s.heap.push { cls := .type "set", dict := none, data := .set #[] 0 (.fresh 0 0 led) }).get? b = some o := fun b o e => Heap.get?_push_of_some _ e
  have lL : s.heap.objs.size ≠ l := by obtain ⟨o, e, _⟩ := hl; exact fun q => Nat.lt_irrefl _ (q ▸ Heap.lt_size e)
  have fresh : ∀ o, s.heap.get? s.heap.objs.size = some o → False := fun o e => Nat.lt_irrefl _ (Heap.lt_size e)
  generalize (s.heap.push { cls := .type "set", dict := none, data := .set #[] 0 (.fresh 0 0 led) }) = g at *
  generalize s.heap.objs.size = L at *
  have hT : Shared.TypeIs { s with heap := g } (.ref L) "set" := ⟨_, at0, rfl⟩
  have f4 := PySem.F.called_set.init.lookup
  have f5 := PySem.F.called_set.init.bind (.ref L)
  wp_walk
  refine codeAny_mono (codeAny_call_builtin (R := wants (fun r u => r = .none ∧ Q (.ref L) u) E) PySem.F.called_set.init.plain PySem.F.entry_set_init (check_set_init_1 hT ?_)) (wants_imp ?_)
  · have hlg := hl.at fun o e => up l o e
    obtain ⟨⟨_, dl, _, sl⟩, hol, ⟨⟩, nl, ⟨⟩⟩ := hlg
    have f6 := PySem.F.sub_list_set
    have f7 := PySem.F.sub_list_frozenset
    unfold Builtin.«set.__init__» noKeywords Builtin.Frozenset.updateFrom
    generalize hp : pyIter = toIter
    wp_walk
    subst hp
    refine wpAny_pyIter_list ⟨_, hol, rfl, nl, rfl⟩ (wpAny_bind (wpAny_runValue ?_))
    have lg : l < g.objs.size := Heap.lt_size hol
    have Lg : L < g.objs.size := Heap.lt_size at0
    have up₂ : ∀ b o, g.get? b = some o → (g.push { cls := .type "list_iterator", data := .fields #[.ref l, .int 0 0] }).get? b = some o := fun b o e => Heap.get?_push_of_some _ e
    have empty : Heap.SetOf (strKind prog w) (g.push { cls := .type "list_iterator", data := .fields #[.ref l, .int 0 0] }) L (within []) 0 :=
      (setObjOf_fresh led).setOf (up₂ _ _ at0) (by unfold scanBound; omega)
    refine addAll (A := A.in1.in1) (done := []) (by simp [hh]) (Nat.ne_of_lt Lg) lL (Nat.ne_of_lt lg) ss 0 _ hi hb (Nat.le_refl _)
      ⟨_, Heap.get?_push_size _ rfl, rfl, rfl⟩ ⟨_, up₂ _ _ hol, rfl, nl, rfl⟩ empty fun h' tk c H kp => ?_
    refine wpAny_pure (wpAny_pure ⟨rfl, h h' tk c H fun b o e => kp b o ?_ ?_ (up₂ b o (up b o e))⟩)
    · rintro rfl; exact fresh _ e
    · exact Nat.ne_of_lt (Heap.lt_size (up b o e))
  · rintro _ u ⟨rfl, q⟩
    wp_walk
    exact q
end
/-! filter -/
namespace Fl
theorem entry_new : entryFor table "filter.__new__" = some Builtin.«filter.__new__» := entryFor_of_tree (by kernel_rfl)
theorem entry_next : entryFor table "filter.__next__" = some Builtin.«filter.__next__» := entryFor_of_tree (by kernel_rfl)
theorem entry_iter : entryFor table "filter.__iter__" = some Builtin.«dict_keyiterator.__iter__» :=
  entryFor_alias (id' := "dict_keyiterator.__iter__") (by rw [fastTable_eq_tree]; kernel_rfl) (by first | rfl | decide +kernel | (unfold String.splitOn; simp +decide [String.splitOnAux])) (by decide +kernel) (by rw [fastTable_eq_tree]; kernel_rfl)
theorem mro : mroOf (.type "filter") = pure [.type "filter", .type "object"] := by rw [mroOf_type]; kernel_rfl
theorem lookup_new : typeLookup (.type "filter") "__new__" = pure (some (.builtin "filter.__new__")) := by rw [typeLookup_type, builtinLookup_eq_fast]; kernel_rfl
theorem sub : isSubtype (.type "filter") (.type "filter") = pure true := by rw [isSubtype_type]; kernel_rfl
theorem slot_init : Slot "filter" "__init__" "object.__init__" :=
  .of (owner := "object") (n := "__init__") (by rw [typeLookup_type, builtinLookup_eq_fast]; kernel_rfl) (by decide +kernel) (by decide +kernel) (by decide +kernel)
    (by first | exact .inl (by decide +kernel) | exact .inr (by decide +kernel)) (by rw [isSubtype_type]; kernel_rfl)
theorem slot_next : Slot "filter" "__next__" "filter.__next__" :=
  .of (owner := "filter") (n := "__next__") (by rw [typeLookup_type, builtinLookup_eq_fast]; kernel_rfl) (by decide +kernel) (by decide +kernel) (by decide +kernel)
    (by first | exact .inl (by decide +kernel) | exact .inr (by decide +kernel)) (by rw [isSubtype_type]; kernel_rfl)
theorem slot_iter : Slot "filter" "__iter__" "filter.__iter__" :=
  .of (owner := "filter") (n := "__iter__") (by rw [typeLookup_type, builtinLookup_eq_fast]; kernel_rfl) (by decide +kernel) (by decide +kernel) (by decide +kernel)
    (by first | exact .inl (by decide +kernel) | exact .inr (by decide +kernel)) (by rw [isSubtype_type]; kernel_rfl)
theorem called : TypeCalled "filter" "filter.__new__" "object.__init__" :=
  ⟨by decide +kernel, by decide +kernel, ⟨_, _, mro⟩, madeBy_type mro lookup_new (by decide +kernel), by decide +kernel, sub, slot_init⟩
theorem typeCall (a b : Value) : checkTypeCall "filter" ⟨[a, b], []⟩ = pure () := by kernel_rfl
theorem newCall (a b : Value) : checkBuiltinCall "filter.__new__" ⟨[.type "filter", a, b], []⟩ = pure () := by kernel_rfl
theorem args_next (a : Value) : argsOk "filter.__next__" ⟨[a], []⟩ := by unfold argsOk; kernel_rfl
theorem args_iter (a : Value) : argsOk "filter.__iter__" ⟨[a], []⟩ := by unfold argsOk; kernel_rfl
theorem no_len : typeLookup (.type "filter") "__len__" = pure none := by rw [typeLookup_type, builtinLookup_eq_fast]; kernel_rfl
theorem no_hint : typeLookup (.type "filter") "__length_hint__" = pure none := by rw [typeLookup_type, builtinLookup_eq_fast]; kernel_rfl
theorem plain_next : plainId "filter.__next__" = true := by decide +kernel
end Fl

theorem meets_filter_new (f l : Addr) (xs : Array Value) :
    Meets (Builtin.«filter.__new__» ⟨[.type "filter", .ref f, .ref l], []⟩) (fun _ R s => s.heap.IsList l xs ∧
      R (.ok (.ret (.ref (s.heap.push { cls := .type "list_iterator", data := .fields #[.ref l, .int 0 0] }).objs.size)))
        { s with heap := (s.heap.push { cls := .type "list_iterator", data := .fields #[.ref l, .int 0 0] }).push { cls := .type "filter", data := .fields #[.ref f, .ref s.heap.objs.size] } }) :=
  .of_wp fun prog w A R s h => by
    obtain ⟨hp, g, d, tk, os⟩ := s; obtain ⟨hl1, h⟩ := h
    have hsub := Fl.sub
    have hL1 : Heap.IsList (Shared.heap ⟨hp, g, d, tk, os⟩) l xs := hl1
    wp_walk using wpAny_pyIter_list hL1
    exact ⟨_, rfl, h⟩
section
variable {prog : Program} {w : World} {A : Around} {E : Value → Shared → Prop} {s : Shared}
theorem call_filter {f l : Addr} {xs : Array Value} {Q : Value → Shared → Prop} (hl : s.heap.IsList l xs)
    (h : Q (.ref (s.heap.push { cls := .type "list_iterator", data := .fields #[.ref l, .int 0 0] }).objs.size)
        { s with heap := (s.heap.push { cls := .type "list_iterator", data := .fields #[.ref l, .int 0 0] }).push { cls := .type "filter", data := .fields #[.ref f, .ref s.heap.objs.size] } }) :
    wpAny (model prog w) A (call (.type "filter") [.ref f, .ref l]) Q E s := by
  refine callType_new Fl.called (by decide) (Fl.typeCall _ _) (Fl.newCall _ _) (fun obj => PySem.F.args_object_init_3 obj _ _) Fl.entry_new
    (meets_filter_new f l xs) ⟨hl, ?_⟩
  exact ⟨⟨_, Heap.get?_push_size _ rfl, rfl⟩, h⟩
end
noncomputable def SeqAt (h : Heap) (a : Addr) (items : Array Value) : Prop := ∃ o n, h.get? a = some o ∧ o.data = .seq items n
theorem SeqAt.via {h h' : Heap} {a : Addr} {items : Array Value} (x : SeqAt h a items) (k : ∀ o, h.get? a = some o → h'.get? a = some o) : SeqAt h' a items :=
  let ⟨o, n, ho, hd⟩ := x; ⟨o, n, k o ho, hd⟩
section
variable {prog : Program} {w : World} {A : Around} {E : Value → Shared → Prop} {s : Shared}
theorem next_seq {it l : Addr} {i : Nat} {items : Array Value} {Q : Option Value → Shared → Prop} (hit : s.heap.IsListIter it l i) (hl : SeqAt s.heap l items)
    (more : ∀ x h', items[i]? = some x → h'.IsListIter it l (i + 1) → Heap.SameBut it s.heap h' → Q (some x) { s with heap := h' })
    (stop : items[i]? = none → A.handled = none ∧ ∀ h' e, Heap.ExtBut it s.heap h' → Shared.TypeIs { s with heap := h' } (.ref e) "StopIteration" → E (.ref e) { s with heap := h' }) :
    wpAny (model prog w) A (callSpecial? (.ref it) (Str.ofString "__next__")) Q E s := by
  have hT := hit.typeIs
  obtain ⟨⟨_, d, _, sl⟩, ho, ⟨⟩, ⟨⟩⟩ := hit
  obtain ⟨⟨c, dl, _, sll⟩, n, hol, ⟨⟩⟩ := hl
  refine wpAny_callSpecial?_slot hT slot_listiter_next (wpAny_call_entry slot_listiter_next hT entry_listiter_next ?_ (args_listiter_next _))
  unfold Builtin.«list_iterator.__next__»
  wp_walk
  rw [Int.toNat_natCast]
  cases e : items[i]? with
  | some x =>
    wp_walk
    exact ⟨x, rfl, more x _ e ⟨_, Heap.get?_update_self _ ho rfl, rfl, by simp [Obj.mapFields, rawInt]⟩ (Heap.SameBut.update ..)⟩
  | none =>
    obtain ⟨hh, k⟩ := stop e
    have hh1 : A.in1.handled = none := hh
    wp_walk
    unfold raiseNew
    wp_walk
    exact wpAny_throw (k _ _ (((Heap.SameBut.update ..).extBut.push _).push _) ⟨_, Heap.get?_push_size _ rfl, rfl⟩)
theorem seq_step {it l : Addr} {i : Nat} {items : Array Value} {Q : Option Value → Shared → Prop} (hit : s.heap.IsListIter it l i) (hl : SeqAt s.heap l items)
    (more : ∀ x h', items[i]? = some x → h'.IsListIter it l (i + 1) → Heap.SameBut it s.heap h' → Q (some x) { s with heap := h' })
    (stop : items[i]? = none → A.handled = none ∧ ∀ h', Heap.ExtBut it s.heap h' → Q none { s with heap := h' }) : wpAny (model prog w) A (pyNext (.ref it)) Q E s := by
  unfold pyNext
  refine wpAny_bind (wpAny_attempt (next_seq hit hl (fun x h' e it' same => wpAny_pure (more x h' e it' same)) fun e => ⟨(stop e).1, fun h' x ext ty => ?_⟩))
  exact wpAny_bind (wpAny_isInstance (T := "StopIteration") (b := true) ty isSubtype_stop (wpAny_pure ((stop e).2 h' ext)))
end
section
variable {prog : Program} {w : World} {A : Around} {s : Shared}
variable {f l I F S : Addr} {xs : Array Value} {us : List Str} {p : Str → Bool} {n : Nat}

structure FiltAt (prog : Program) (w : World) (f l I F S : Addr) (xs : Array Value) (p : Str → Bool) (j : Nat) (h : Heap) : Prop where
  it : h.IsListIter I l j
  list : h.IsList l xs
  filt : h.get? F = some { cls := .type "filter", data := .fields #[.ref f, .ref I] }
  bound : h.get? f = some { cls := .type "builtin_function_or_method", data := .fields #[.builtin "set.__contains__", .ref S] }
  set : ∃ c, h.SetOf (strKind prog w) S p c

theorem FiltAt.keep {j j' : Nat} {h h' : Heap} (X : FiltAt prog w f l I F S xs p j h) (hl : l ≠ I) (hF : F ≠ I) (hf : f ≠ I) (hS : S ≠ I)
    (hit : h'.IsListIter I l j') (k : ∀ b o, b ≠ I → h.get? b = some o → h'.get? b = some o) : FiltAt prog w f l I F S xs p j' h' where
  it := hit
  list := X.list.at fun o e => k l o hl e
  filt := k _ _ hF X.filt
  bound := k _ _ hf X.bound
  set := by obtain ⟨c, o, es, ep, tb, ho, rest⟩ := X.set; exact ⟨c, o, es, ep, tb, k _ _ hS ho, rest⟩

theorem filt_turn {R : Result → Shared → Prop} {j : Nat} (hh : A.handled = none) (hl : l ≠ I) (hF : F ≠ I) (hf : f ≠ I) (hS : S ≠ I) (hs : StrsAre xs.toList us) (X : FiltAt prog w f l I F S xs p j s.heap)
    (stop : us.length ≤ j → ∀ h' e, (∀ b o, b ≠ I → s.heap.get? b = some o → h'.get? b = some o) → (∃ o, h'.get? e = some o ∧ o.cls = .type "StopIteration") → R (.error (.ref e)) { s with heap := h' })
    (more : ∀ y t h', us[j]? = some y → FiltAt prog w f l I F S xs p (j + 1) h' → (∀ b o, b ≠ I → s.heap.get? b = some o → h'.get? b = some o) →
      if p y then R (.ok (.ret (.str y t))) { s with heap := h', toks := s.toks + 1 } else codeAny (model prog w) A (.builtin "filter.__next__" ⟨[.ref F], []⟩) R { s with heap := h', toks := s.toks + 1 }) :
    codeAny (model prog w) A (.builtin "filter.__next__" ⟨[.ref F], []⟩) R s := by
  obtain ⟨o, ho, _, n, hd⟩ := X.list
  have len : xs.size = us.length := by rw [← hs.length, Array.length_toList]
  refine codeAny_builtin Fl.entry_next ?_
  rw [Around.under_plainId Fl.plain_next _]
  refine wpAny_bind (wpAny_pure (wpAny_bind (wpAny_field X.filt rfl (x := .ref f) rfl (wpAny_bind (wpAny_field X.filt rfl (x := .ref I) rfl (wpAny_bind (next_seq X.it ⟨o, n, ho, hd⟩ ?_ ?_)))))))
  · intro v h₁ e it same
    have up : ∀ b o, b ≠ I → s.heap.get? b = some o → h₁.get? b = some o := fun b o hb e => (same.2 b hb).trans e
    have X₁ := X.keep hl hF hf hS it up
    obtain ⟨y, t, rfl, hy⟩ := hs.item j v (by rw [Array.getElem?_toList]; exact e)
    have after := more y t h₁ hy X₁ up
    obtain ⟨c, held⟩ := X₁.set
    refine wpAny_bind (wpAny_holding (wpAny_ite_false rfl (wpAny_bind (sc_call (strKind_is _ _ y t) rfl X₁.bound held (wpAny_holding (wpAny_truthy_bool ?_))))))
    cases e : p y <;> rw [e] at after
    · exact wpAny_ite_false rfl (wpAny_pure ⟨plainId_quiet Fl.plain_next _, after⟩)
    · exact wpAny_ite_true rfl (wpAny_pure after)
  · intro e
    refine ⟨hh, fun h' x ext ty => stop ?_ h' x (fun b o hb e => ext b o hb e) ty⟩
    rw [← len]
    exact Array.getElem?_eq_none_iff.mp e
theorem filt_code {R : Result → Shared → Prop} (hh : A.handled = none) (hl : l ≠ I) (hF : F ≠ I) (hf : f ≠ I) (hS : S ≠ I) :
    ∀ (rest pre : List Str) (s : Shared), StrsAre xs.toList (pre ++ rest) → FiltAt prog w f l I F S xs p pre.length s.heap →
      (∀ a x b t h' tk, rest = a ++ x :: b → a.filter p = [] → p x = true → FiltAt prog w f l I F S xs p (pre.length + a.length + 1) h' →
        (∀ b o, b ≠ I → s.heap.get? b = some o → h'.get? b = some o) → s.toks ≤ tk → R (.ok (.ret (.str x t))) { s with heap := h', toks := tk }) →
      (∀ h' tk e, rest.filter p = [] → (∀ b o, b ≠ I → s.heap.get? b = some o → h'.get? b = some o) → (∃ o, h'.get? e = some o ∧ o.cls = .type "StopIteration") → s.toks ≤ tk →
        R (.error (.ref e)) { s with heap := h', toks := tk }) →
      codeAny (model prog w) A (.builtin "filter.__next__" ⟨[.ref F], []⟩) R s := by
  intro rest
  induction rest with
  | nil =>
    intro pre s hs X hR hE
    refine filt_turn hh hl hF hf hS hs X (fun _ h' e up ex => hE h' s.toks e rfl up ex (Nat.le_refl _)) fun y t h' e => ?_
    rw [List.append_nil, List.getElem?_eq_none (Nat.le_refl _)] at e
    cases e
  | cons y rest ih =>
    intro pre s hs X hR hE
    refine filt_turn hh hl hF hf hS hs X (fun e => ?_) fun y' t h' e X₁ up => ?_
    · rw [List.length_append, List.length_cons] at e; omega
    · rw [List.getElem?_append_right (Nat.le_refl _), Nat.sub_self] at e
      cases e
      cases hp : p y with
      | true => exact hR [] y rest t h' _ rfl rfl hp X₁ up (Nat.le_succ _)
      | false =>
        refine ih (pre ++ [y]) _ (by simpa using hs) (by simpa using X₁) (fun a x b t' h₂ tk e ha hx X₂ up₂ ht => ?_) fun h₂ tk e none up₂ ex ht => ?_
        · refine hR (y :: a) x b t' h₂ tk (by rw [e]; rfl) (by rw [List.filter_cons, hp]; simpa using ha) hx ?_ (fun b o hb e => up₂ b o hb (up b o hb e)) (Nat.le_trans (Nat.le_succ _) ht)
          rw [show pre.length + (y :: a).length + 1 = (pre ++ [y]).length + a.length + 1 by simp; omega]
          exact X₂
        · exact hE h₂ tk e (by rw [List.filter_cons, hp]; simpa using none) (fun b o hb e => up₂ b o hb (up b o hb e)) ex (Nat.le_trans (Nat.le_succ _) ht)

theorem filt_walks (hh : A.handled = none) (hl : l ≠ I) (hF : F ≠ I) (hf : f ≠ I) (hS : S ≠ I) (hs : StrsAre xs.toList us) :
    Walks prog w A F [I, l, F, f, S] [I] (us.filter p).length (fun i v => ∃ x t, v = .str x t ∧ (us.filter p)[i]? = some x)
      (fun i h => ∃ pre rest, us = pre ++ rest ∧ (pre.filter p).length = i ∧ FiltAt prog w f l I F S xs p pre.length h) where
  sub := fun b hb => by simp at hb; simp [hb]
  frame := fun i h h' ⟨pre, rest, e, ei, X⟩ hk => ⟨pre, rest, e, ei,
    { it := X.it.at fun o e => hk I (by simp) o e
      list := X.list.at fun o e => hk l (by simp) o e
      filt := hk F (by simp) _ X.filt
      bound := hk f (by simp) _ X.bound
      set := let ⟨c, o, es, ep, tb, ho, r⟩ := X.set; ⟨c, o, es, ep, tb, hk S (by simp) _ ho, r⟩ }⟩
  item := fun i s Q E hi ⟨pre, rest, e, ei, X⟩ hQ => by
    subst e
    have hT : s.TypeIs (.ref F) "filter" := ⟨_, X.filt, rfl⟩
    unfold pyNext
    refine wpAny_bind (wpAny_attempt (wpAny_callSpecial?_slot (name := Str.ofString "__next__") hT Fl.slot_next (wpAny_call (codeAny_call_builtin_code (plainId_quiet Fl.plain_next _)
      (Fl.slot_next.check _ _ _ _ _ _ _ _ hT (Fl.args_next _) (filt_code hh hl hF hf hS rest pre s hs X (fun a x b t h' tk e ha hx X' k' _ => ?_) (fun h' tk e he _ _ _ => ?_)))))))
    · subst e
      refine wpAny_pure (hQ _ h' tk ⟨x, t, rfl, ?_⟩ ⟨pre ++ a ++ [x], b, by simp, ?_, ?_⟩ (fun b o hb e => k' b o (fun h => hb (by simp [h])) e))
      · rw [List.filter_append, List.filter_append, ha, List.nil_append, List.filter_cons, if_pos hx, List.getElem?_append_right (Nat.le_of_eq ei), ei, Nat.sub_self]; rfl
      · rw [List.filter_append, List.filter_append, ha, List.append_nil, List.filter_cons, if_pos hx, List.length_append, ei]; simp
      · have e1 : (pre ++ a ++ [x]).length = pre.length + a.length + 1 := by simp; omega
        rw [e1]; exact X'
    · rw [List.filter_append, he, List.append_nil] at hi; omega
  done := fun s Q E ⟨pre, rest, e, ei, X⟩ hQ => by
    subst e
    have hT : s.TypeIs (.ref F) "filter" := ⟨_, X.filt, rfl⟩
    unfold pyNext
    refine wpAny_bind (wpAny_attempt (wpAny_callSpecial?_slot (name := Str.ofString "__next__") hT Fl.slot_next (wpAny_call (codeAny_call_builtin_code (plainId_quiet Fl.plain_next _)
      (Fl.slot_next.check _ _ _ _ _ _ _ _ hT (Fl.args_next _) (filt_code hh hl hF hf hS rest pre s hs X (fun a x b t h' tk e ha hx X' k' _ => ?_) (fun h' tk e he k' ho _ => ?_)))))))
    · subst e
      rw [List.filter_append, List.filter_append, List.filter_cons, if_pos hx] at ei
      simp at ei
    · obtain ⟨o, ho, hc⟩ := ho
      refine wpAny_bind (wpAny_isInstance (T := "StopIteration") (b := true) ⟨o, ho, hc⟩ isSubtype_stop ?_)
      exact wpAny_pure (hQ h' tk fun b o hb e => k' b o (fun h => hb (by simp [h])) e)
  self := fun i s Q E ⟨pre, rest, e, ei, X⟩ hQ => by
    have hT : s.TypeIs (.ref F) "filter" := ⟨_, X.filt, rfl⟩
    refine wpAny_pyIter_slot hT Fl.slot_iter (wpAny_call_entry Fl.slot_iter hT Fl.entry_iter ?_ (Fl.args_iter _))
    show wpAny _ _ (ret (.ref F)) _ _ s
    exact wpAny_pure ⟨_, rfl, "filter", _, hT, Fl.slot_next.lookup, hQ⟩
end

section
variable {prog : Program} {w : World} {A : Around} {E : Value → Shared → Prop} {s : Shared} {Q : Value → Shared → Prop}
variable {I : Addr} {fp wr : List Addr} {G : Array GenState → Array GenState → Prop} {n : Nat} {P : Nat → Value → Prop} {St : Nat → Shared → Prop}

set_option maxHeartbeats 4000000 in
theorem listFrom {T : String} (nolen : typeLookup (.type T) (Str.ofString "__len__") = pure none) (nohint : typeLookup (.type T) (Str.ofString "__length_hint__") = pure none)
    (t1 : (Value.type T == .type "list") = false) (t2 : (Value.type T == .type "tuple") = false)
    (W : WalksS prog w A.in1.in1 I fp wr G n P St) (ty : ∀ u, St 0 u → u.TypeIs (.ref I) T) (old : ∀ b ∈ fp, b < s.heap.objs.size) (hI : I ∈ fp) (st : St 0 s) (hn : n ≤ sizeLine)
    (k : ∀ u acc c, Moved (s.heap.objs.size :: wr) G { s with heap := s.heap.push { cls := .type "list", data := .seq #[] } } u →
      u.heap.get? s.heap.objs.size = some { cls := .type "list", dict := none, data := .seq acc c, slots := #[] } → ItemsOf P acc n → Q (.ref s.heap.objs.size) u) :
    wpAny (model prog w) A (call (.type "list") [.ref I]) Q E s := by
  refine callType_codes (Q₁ := fun v u => v = .ref s.heap.objs.size ∧ u = { s with heap := s.heap.push { cls := .type "list", data := .seq #[] } })
    PySem.F.called_list (PySem.F.typeCall_list_1 _) PySem.F.entry_list_init (code_list_new _ ⟨rfl, rfl⟩) ?_
  rintro _ _ ⟨rfl, rfl⟩
  have at0 : (s.heap.push { cls := .type "list", data := .seq #[] }).get? s.heap.objs.size = some { cls := .type "list", data := .seq #[] } := Heap.get?_push_size _ rfl
  refine ⟨⟨_, at0, rfl⟩, PySem.F.args_list_init_2 _ _, ?_⟩
  have out : s.heap.objs.size ∉ fp := fun m => Nat.lt_irrefl _ (old _ m)
  have hne : s.heap.objs.size ≠ I := fun e => out (e ▸ hI)
  have e1 : Builtin.List.listSameRef (.ref s.heap.objs.size) (.ref I) = false := beq_false_of_ne hne
  have keep : ∀ (h : Heap) (tk : Nat), s.toks ≤ tk → (∀ b o, b ≠ s.heap.objs.size → (s.heap.push { cls := .type "list", data := .seq #[] }).get? b = some o → h.get? b = some o) → St 0 { s with heap := h, toks := tk } :=
    fun h tk ht hk => W.frame 0 s h tk st ht fun b hb o e => hk b o (fun q => out (q ▸ hb)) (Heap.get?_push_of_some _ e)
  obtain ⟨⟨_, dI, xI, sI⟩, hoI, hcI⟩ := ty _ (keep _ _ (Nat.le_refl _) fun b o _ e => e)
  cases hcI
  generalize (s.heap.push { cls := .type "list", data := .seq #[] }) = g at *
  generalize s.heap.objs.size = L at *
  unfold Builtin.«list.__init__» Builtin.List.listExtendWith
  generalize hp : pyIter = toIter
  wp_walk
  subst hp
  refine W.self 0 _ _ _ (keep _ _ (Nat.le_refl _) fun b o hb e => (Heap.get?_update_other _ _ (Ne.symm hb)).trans e) ?_
  wp_walk
  have same : ∀ b o, b ≠ L → g.get? b = some o → (((g.update L (Obj.mapSeq fun _ => #[])).update L (Obj.mapSeq (·.push Value.none))).update L (Obj.mapSeq (·.pop))).get? b = some o := by
    intro b o hb e
    repeat rw [Heap.get?_update_other _ _ (Ne.symm hb)]
    exact e
  have start := Moved.then_heap (Moved.refl W.grefl (s := { s with heap := g }) (wr := L :: wr)) (Nat.le_refl _) fun b o hb e => same b o (fun q => hb (q ▸ List.mem_cons_self)) e
  exact ⟨plainId_quiet PySem.F.plain_extend_loop _, codeAny_extend_loopS W hn L out .none n 0 _ #[] _ rfl (Nat.zero_le _) (keep _ _ (Nat.le_refl _) same) (Heap.get?_update_self _ (Heap.get?_update_self _ (Heap.get?_update_self _ at0 rfl) rfl) rfl) (ItemsOf.nil P)
    fun u acc c m at' its => ⟨rfl, k u acc c (start.trans W.gtrans m) at' its⟩⟩
end
theorem strs_of_items {us : List Str} {acc : Array Value} (h : ItemsOf (fun i v => ∃ x t, v = .str x t ∧ us[i]? = some x) acc us.length) : StrsAre acc.toList us := by
  obtain ⟨h1, h2⟩ := h
  have : ∀ (vs : List Value) (us : List Str), vs.length = us.length → (∀ (j : Nat) (v : Value), vs[j]? = some v → ∃ x t, v = Value.str x t ∧ us[j]? = some x) → StrsAre vs us := by
    intro vs
    induction vs with
    | nil => intro us e _; cases us with
      | nil => exact .nil
      | cons _ _ => simp at e
    | cons v vs ih =>
      intro us e hv
      cases us with
      | nil => simp at e
      | cons u us =>
        obtain ⟨x, t, rfl, hx⟩ := hv 0 v rfl
        simp at hx; subst hx
        exact .cons _ _ (ih us (by simpa using e) fun j v h => by simpa using hv (j + 1) v (by simpa using h))
  exact this _ _ (by rw [Array.length_toList, h1]) fun j v h => h2 j v (by rw [← Array.getElem?_toList]; exact h)

theorem list_filt {prog : Program} {w : World} {A : Around} {s : Shared} {E : Value → Shared → Prop} {Q : Value → Shared → Prop} {f l I F S : Addr} {xs : Array Value} {us : List Str} {p : Str → Bool}
    (hh : A.handled = none) (hl : l ≠ I) (hF : F ≠ I) (hf : f ≠ I) (hS : S ≠ I) (hs : StrsAre xs.toList us) (X : FiltAt prog w f l I F S xs p 0 s.heap) (hu : us.length ≤ sizeLine)
    (hQ : ∀ h' tk acc c, (∀ b o, b ≠ I → s.heap.get? b = some o → h'.get? b = some o) → h'.get? s.heap.objs.size = some { cls := .type "list", dict := none, data := .seq acc c, slots := #[] } →
      StrsAre acc.toList (us.filter p) → Q (.ref s.heap.objs.size) { s with heap := h', toks := tk }) :
    wpAny (model prog w) A (call (.type "list") [.ref F]) Q E s := by
  obtain ⟨c, oS, es, ep, tb, hoS, rS⟩ := X.set
  obtain ⟨ol, hol, rl⟩ := X.list
  obtain ⟨oi, hoi, ri⟩ := X.it
  refine listFrom Fl.no_len Fl.no_hint (by decide) (by decide) (filt_walks (A := A.in1.in1) (p := p) (by simp [hh]) hl hF hf hS hs).toS (fun s ⟨_, _, _, _, X⟩ => ⟨_, X.filt, rfl⟩) ?_ (by simp) ⟨[], us, rfl, rfl, X⟩ (Nat.le_trans (List.length_filter_le _ _) hu) ?_
  · intro b hb
    simp only [List.mem_cons, List.not_mem_nil, or_false] at hb
    rcases hb with rfl | rfl | rfl | rfl | rfl
    · exact Heap.lt_size hoi
    · exact Heap.lt_size hol
    · exact Heap.lt_size X.filt
    · exact Heap.lt_size X.bound
    · exact Heap.lt_size hoS
  · intro s' acc c' hm hS' hacc
    obtain ⟨h', g', d', tk', os'⟩ := s'
    have eg : g' = s.gens := hm.gens
    have ed : d' = s.drawn := hm.drawn
    have eo : os' = s.os := hm.os
    subst eg; subst ed; subst eo
    refine hQ h' tk' acc c' (fun b o hb e => hm.heap b o ?_ (Heap.get?_push_of_some _ e)) hS' (strs_of_items hacc)
    have := Heap.lt_size e
    simp only [List.mem_cons, List.not_mem_nil, or_false, not_or]
    exact ⟨Nat.ne_of_lt this, hb⟩
section
variable {prog : Program} {w : World} {A : Around} {E : Value → Shared → Prop} {s : Shared} {h₀ h h' : Heap} {L : Addr} {m : Str → Option Value} {news : List (Addr × Obj)} {Q : Value → Shared → Prop}
theorem news_keep (F : Fr h₀ L h m) (N : News h₀ L h news) (u : ∀ b o, h.get? b = some o → h'.get? b = some o) : News h₀ L h' news :=
  news_up (adds := []) F N u (by simp)
noncomputable abbrev IsSC (h : Heap) (b a : Addr) : Prop := h.get? b = some { cls := .type "builtin_function_or_method", data := .fields #[.builtin "set.__contains__", .ref a] }

theorem setL {l : Addr} {items : Array Value} {ss : List Str} (hh : A.handled = none) (F : Fr h₀ L s.heap m) (N : News h₀ L s.heap news) (hl : s.heap.IsList l items) (hi : StrsAre items.toList ss) (hb : ss.length ≤ 1000)
    (hQ : ∀ h' tk c a, Fr h₀ L h' m → News h₀ L h' news → h'.SetOf (strKind prog w) a (within ss) c → Q (.ref a) { s with heap := h', toks := tk }) :
    wpAny (model prog w) A (call (.type "set") [.ref l]) Q E s :=
  set_of_strs hh hl hi (by have := hi.length; rw [Array.length_toList] at this; simp only [scanBound]; omega) fun h' tk c hS k => hQ h' tk c _ (fr_up F k) (news_keep F N k) hS

theorem SetOf_up {K : Type} [DecidableEq K] {knd : KeyKind prog w K} {a : Addr} {p : K → Bool} {c : Nat} (hS : h.SetOf knd a p c) (u : ∀ b o, h.get? b = some o → h'.get? b = some o) : h'.SetOf knd a p c := by
  obtain ⟨o, es, ep, t, ho, r⟩ := hS; exact ⟨o, es, ep, t, u _ _ ho, r⟩

theorem scL {a : Addr} {p : Str → Bool} {c : Nat} {x : Bool} (F : Fr h₀ L s.heap m) (N : News h₀ L s.heap news) (hS : s.heap.SetOf (strKind prog w) a p c)
    (hQ : ∀ h' tk b, Fr h₀ L h' m → News h₀ L h' news → h'.SetOf (strKind prog w) a p c → IsSC h' b a → Q (.ref b) { s with heap := h', toks := tk }) :
    wpAny (model prog w) A (getAttr (.ref a) "__contains__" x) Q E s := by
  obtain ⟨oS, es, ep, tb, hoS, ⟨hSc, hSd, hSl⟩, hSda, hSr⟩ := id hS
  have k4 : ∀ b o, s.heap.get? b = some o → (s.heap.push { cls := .type "builtin_function_or_method", data := .fields #[.builtin "set.__contains__", .ref a] }).get? b = some o := fun b o e => Heap.get?_push_of_some _ e
  exact sc_attr hoS hSc hSd ⟨_, _, _, hSda⟩ (hQ _ _ _ (fr_up F k4) (news_keep F N k4) (SetOf_up hS k4) (Heap.get?_push_size _ rfl))

theorem filterL {f l S : Addr} {xs : Array Value} {p : Str → Bool} {c : Nat} (F : Fr h₀ L s.heap m) (N : News h₀ L s.heap news) (hl : s.heap.IsList l xs) (hS : s.heap.SetOf (strKind prog w) S p c) (hf : IsSC s.heap f S)
    (hQ : ∀ h' tk I D, Fr h₀ L h' m → News h₀ L h' news → FiltAt prog w f l I D S xs p 0 h' → I ≠ L → h₀.get? I = none → (∀ q ∈ news, q.1 ≠ I) → l ≠ I → f ≠ I → S ≠ I → D ≠ I → Q (.ref D) { s with heap := h', toks := tk }) :
    wpAny (model prog w) A (call (.type "filter") [.ref f, .ref l]) Q E s := by
  have k : ∀ b o, s.heap.get? b = some o → ((s.heap.push { cls := .type "list_iterator", data := .fields #[.ref l, .int 0 0] }).push { cls := .type "filter", data := .fields #[.ref f, .ref s.heap.objs.size] }).get? b = some o :=
    fun b o e => Heap.get?_push_of_some _ (Heap.get?_push_of_some _ e)
  obtain ⟨ol, hol, rl⟩ := id hl
  obtain ⟨oS, es, ep, tb, hoS, rS⟩ := id hS
  refine call_filter hl (hQ _ _ s.heap.objs.size _ (fr_up F k) (news_keep F N k) ⟨⟨_, Heap.get?_push_of_some _ (Heap.get?_push_size _ rfl), rfl, rfl⟩, hl.at fun o e => k _ _ e, Heap.get?_push_size _ rfl, k _ _ hf, c, SetOf_up hS k⟩
    (ne_frame F (fresh_none (Nat.le_refl _))) (none_below F (fresh_none (Nat.le_refl _))) (fun q hq => Nat.ne_of_lt (Heap.lt_size (N q hq).1)) (Nat.ne_of_lt (Heap.lt_size hol)) (Nat.ne_of_lt (Heap.lt_size hf)) (Nat.ne_of_lt (Heap.lt_size hoS)) ?_)
  rw [Heap.size_push]; exact Nat.succ_ne_self _

theorem list_filtL {f l I D S : Addr} {xs : Array Value} {us : List Str} {p : Str → Bool} (hh : A.handled = none) (F : Fr h₀ L s.heap m) (N : News h₀ L s.heap news) (X : FiltAt prog w f l I D S xs p 0 s.heap)
    (i1 : I ≠ L) (i2 : h₀.get? I = none) (i3 : ∀ q ∈ news, q.1 ≠ I) (i4 : l ≠ I) (i5 : f ≠ I) (i6 : S ≠ I) (i7 : D ≠ I) (hs : StrsAre xs.toList us) (hu : us.length ≤ 1000)
    (hQ : ∀ h' tk D acc c, Fr h₀ L h' m → News h₀ L h' ((D, { cls := .type "list", data := .seq acc c }) :: news) → StrsAre acc.toList (us.filter p) → (∀ q ∈ news, q.1 < D) → @LT.lt Nat _ L D → Q (.ref D) { s with heap := h', toks := tk }) :
    wpAny (model prog w) A (call (.type "list") [.ref D]) Q E s := by
  refine list_filt hh i4 i7 i5 i6 hs X (Nat.le_trans hu (by size_fits)) fun h' tk acc c k hD hacc => hQ h' tk _ acc c ⟨?_, fun b o e => k b o ?_ (F.keep _ _ e), F.above⟩ ?_ hacc (fun q hq => Heap.lt_size (N q hq).1) ?_
  · exact F.ns.at' fun o e => k _ o i1.symm e
  · rintro rfl; rw [i2] at e; cases e
  · intro q hq
    rcases List.mem_cons.mp hq with rfl | hq
    · exact ⟨hD, ne_frame F (fresh_none (Nat.le_refl _)), none_below F (fresh_none (Nat.le_refl _))⟩
    · exact ⟨k _ _ (i3 q hq) (N q hq).1, (N q hq).2⟩
  · obtain ⟨o, _, _, ho, _⟩ := F.ns
    exact Heap.lt_size ho
end
section Sbase
local macro_rules | `(tactic| kwd_less) => `(tactic| first
  | assumption
  | omega
  | decide
  | ((first | simp only [PySem.Str.length_append, len_star, len_slash, len_semi, len_dash, len_blank, len_nil] | refine le_join ?_ | refine le_pick ?_ | refine le_kpick ?_ | refine le_len ?_ | rw [StrsAre.length (by assumption)]); kwd_less))
local macro_rules | `(tactic| kwd_inv) => `(tactic| ((case ho | hcd => k_is); (case hroom => (simp only [recursionLimit, depth_under_make, depth_under_kw, depth_in1, depth_deeper]; omega)); (case hb => first | exact .of_eq rfl | walk_at "hb"); (case hl => exact locs rfl); (case c1 | c2 | c3 => exact rfl); (case c4 => decide)))
local macro_rules | `(tactic| walk_at "subscriptTail Name Slice ref ref") => `(tactic| (k_here; (with_reducible show wpAny _ _ (subscriptTail _ (.Slice _ _ none _) (.ref _) (.ref _)) _ _ _); k_dflt (refine' sliceL ?_ ?_ ?_ ?_ ?_ ?_ ?_ ?_ ?_; rotate_right 9; k_asm; k_asm; kmk_list; kmk_part; kmk_part; with_unfolding_all rfl; kmk_pure; kwd_less); intro _ _ _ _ l1; (try k_lt l1); (try k_sweep)))
local macro_rules | `(tactic| walk_at "subscriptTail Name Slice ref ref") => `(tactic| (k_here; (with_reducible show wpAny _ _ (subscriptTail _ (.Slice none none (some _) _) (.ref _) (.ref _)) _ _ _); k_dflt (refine' revL ?_ ?_ ?_ ?_ ?_ ?_ ?_ ?_; rotate_right 8; k_asm; k_asm; kmk_list; exact .int _ _; with_unfolding_all rfl; kmk_pure; kwd_less); intro _ _ _ _ l1; (try k_lt l1); (try k_sweep)))
local macro_rules | `(tactic| walk_at "call builtin:len") => `(tactic| (k_here; (with_reducible show wpAny _ _ (call (.builtin "len") [.str _ _]) _ _ _); refine' lenS ?_ ?_; rotate_right 2; kwd_less))
local macro_rules | `(tactic| walk_at "call builtin:max") => `(tactic| (k_here; (with_reducible show wpAny _ _ (call (.builtin "max") [.int _ _, .int _ _]) _ _ _); refine' max_two_N ?_ ?_ ?_ ?_; rotate_right 4; assumption; k_asm; k_asm; intro _ _ _ _; (try k_sweep)))
local macro_rules | `(tactic| walk_at "call builtin:min") => `(tactic| (k_here; (with_reducible show wpAny _ _ (call (.builtin "min") [.int _ _, .int _ _]) _ _ _); refine' min_two_N ?_ ?_ ?_ ?_; rotate_right 4; assumption; k_asm; k_asm; intro _ _ _ _; (try k_sweep)))
local macro_rules | `(tactic| kwd_rel) => `(tactic| repeat' first | (k_unfold; (try dsimp only)) | walk1 | (dsimp only; walk1))
local macro_rules | `(tactic| k_all) => `(tactic| assumption)
local macro_rules | `(tactic| walk_at "call builtin:str.lower") => `(tactic| (k_here; (try dsimp only); (with_reducible show wpAny _ _ (call (.builtin "str.lower") [.str _ _]) _ _ _); refine' SCL.lower ?_ ?_; rotate_right 2; kwd_less; intro _))
local macro_rules | `(tactic| k_inst) => `(tactic| exact inst_base (by k_asm) (by assumption) (by assumption))
local macro_rules | `(tactic| kwd_rel) => `(tactic| repeat' first | (k_unfold; (try dsimp only)) | walk1 | (dsimp only; walk1))
local macro_rules | `(tactic| ktd_rel) => `(tactic| (intro z hz; (try simp only [upon_off hz]); simp only [ne_eq, List.mem_cons, List.not_mem_nil, or_false, forall_eq_or_imp, forall_eq] at hz; simp [hz] <;> (try (split <;> simp_all))))
local macro_rules | `(tactic| walk_at "binaryOp Add str str") => `(tactic| (k_here; (with_reducible show wpAny _ _ (binaryOp .Add (.str _ _) (.str _ _)) _ _ _); refine' addS ?_ ?_; rotate_right 2; kwd_less; intro _ _))
local macro_rules | `(tactic| k_lt $h:ident) => `(tactic| (replace $h := allLt_of $h; dsimp only [AllLt] at $h:ident; (try simp only [and_true] at $h:ident)))
section Slc
local macro_rules | `(tactic| walk_at "eval ListComp") => `(tactic| (k_here; k_dflt (first | refine LCg.ListComp_U (F₀ := by k_asm) (by with_unfolding_all rfl) (by decide) (by rfl) (by decide) (by rfl) ?_ | refine LCt.ListComp_T (F₀ := by k_asm) (by with_unfolding_all rfl) (by decide) (by rfl) (by decide) (by rfl) ?_)))
section Salc
local macro_rules | `(tactic| walk_at "exec Assign cons ListComp") => `(tactic| (k_here; k_dflt (first | refine LCg.Assign_ListComp_U (F₀ := by k_asm) (by rfl) (by with_unfolding_all rfl) (by with_unfolding_all rfl) (by decide) (by rfl) (by decide) (by rfl) (by rfl) (by rfl) ?_ | refine LCt.Assign_ListComp_T (F₀ := by k_asm) (by rfl) (by with_unfolding_all rfl) (by with_unfolding_all rfl) (by decide) (by rfl) (by decide) (by rfl) (by rfl) (by rfl) ?_)))
noncomputable def heldF (ts : List Str) (first behind : Nat) (ws : List Str) (width : Nat) : List Str :=
  let b := (Str.join (Str.ofString "") (ts.take first)).length
  let e := (Str.join (Str.ofString "") (ts.take behind)).length
  let pick := (ws.take (min b (ws.length - 1) + 1)).drop (e - width)
  if first % 2 = 0 then pick else pick.reverse

theorem held_pick (ts ws : List Str) (first behind width : Nat) : heldF ts first behind ws width =
    (if first % 2 = 0 then pickS (some (if ((Str.join (Str.ofString "") (pickS none (some ↑behind) ts)).length : Int) - ↑width > 0 then ((Str.join (Str.ofString "") (pickS none (some ↑behind) ts)).length : Int) - ↑width else 0)) (some ((if (ws.length : Int) - 1 < ((Str.join (Str.ofString "") (pickS none (some ↑first) ts)).length : Int) then (ws.length : Int) - 1 else ((Str.join (Str.ofString "") (pickS none (some ↑first) ts)).length : Int)) + 1)) ws
     else (pickS (some (if ((Str.join (Str.ofString "") (pickS none (some ↑behind) ts)).length : Int) - ↑width > 0 then ((Str.join (Str.ofString "") (pickS none (some ↑behind) ts)).length : Int) - ↑width else 0)) (some ((if (ws.length : Int) - 1 < ((Str.join (Str.ofString "") (pickS none (some ↑first) ts)).length : Int) then (ws.length : Int) - 1 else ((Str.join (Str.ofString "") (pickS none (some ↑first) ts)).length : Int)) + 1)) ws).reverse) := by
  unfold heldF
  dsimp only
  by_cases hz : ws = []
  · subst hz
    simp [pickS]
  · have hp : 0 < ws.length := List.length_pos_iff.mpr hz
    rw [pickS_upto, pickS_upto, pickS_nat ws ((Str.join (Str.ofString "") (ts.take behind)).length - width) (min (Str.join (Str.ofString "") (ts.take first)).length (ws.length - 1) + 1) (by split <;> omega) (by split <;> omega)]

set_option maxHeartbeats 4000000 in
theorem held_spec {w : World} {A : Around} {E : Value → Shared → Prop} {s : Shared} {mg mb : Str → Option Value} {things shown : Addr} {ts ws : List Str} {tv wv : List Value} {first behind width : Nat} {t1 t2 t3 : Tok} {Q : Value → Shared → Prop}
   (X : (fr.heap_1 w.params).In s.heap) (T : TT mg mb s.heap) (hh : A.handled = none) (hdp : A.depth < 900) (ht : s.heap.IsList things tv.toArray) (hw : s.heap.IsList shown wv.toArray) (hts : StrsAre tv ts) (hws : StrsAre wv ws)
   (hlen : wt ts ≤ 1000) (hwl : wt ws ≤ 1000) (hf : first ≤ 6) (hb : behind ≤ 6) (hwd : width ≤ 11)
   (hQ : ∀ h' tk r rv n, (∀ b o, s.heap.get? b = some o → h'.get? b = some o) → s.heap.get? r = none → h'.get? r = some { cls := .type "list", data := .seq (List.toArray rv) n } → StrsAre rv (heldF ts first behind ws width) → Q (.ref r) { s with heap := h', toks := tk }) :
   wpAny (model (Challenge.rw_rs0167_01.row.prog) w) A (call (.ref 262) [.ref things, .int first t1, .int behind t2, .ref shown, .int width t3]) Q E s := by
  revert X; k_fill; intro X
  refine' enterP (binds := [(Str.ofString "things", .ref things), (Str.ofString "first", .int first t1), (Str.ofString "behind", .int behind t2), (Str.ofString "shown", .ref shown), (Str.ofString "width", .int width t3)]) X T ?ho ?hcd ?hroom ?hb ?hl ?_ ?c1 ?c2 ?c3 ?c4
  kwd_inv
  intro h₁ F
  have N : News s.heap s.heap.objs.size h₁ [] := News.nil
  try dsimp only
  try k_fold
  kwd_rel
  refine joinL (News.isList (by k_asm) (by k_mem)) (strs_pick hts _ _) (by decide) (by kwd_less) ?_
  intro _ _
  kwd_rel
  refine joinL (News.isList (by k_asm) (by k_mem)) (strs_pick hts _ _) (by decide) (by kwd_less) ?_
  intro _ _
  kwd_rel
  refine lenL (Fr.lst (by k_asm) (by k_asm)) hws.length (by kwd_less) ?_
  kwd_rel
  all_goals (dsimp only)
  all_goals rename News _ _ _ _ => N9
  all_goals refine hQ _ _ _ _ _ (Fr.keep (by assumption)) (N9 _ (.head _)).2.2 (N9 _ (.head _)).1 ?_
  · have e : heldF ts first behind ws width = pickS (some (if ((Str.join (Str.ofString "") (pickS none (some ↑behind) ts)).length : Int) - ↑width > 0 then ((Str.join (Str.ofString "") (pickS none (some ↑behind) ts)).length : Int) - ↑width else 0)) (some ((if (ws.length : Int) - 1 < ((Str.join (Str.ofString "") (pickS none (some ↑first) ts)).length : Int) then (ws.length : Int) - 1 else ((Str.join (Str.ofString "") (pickS none (some ↑first) ts)).length : Int)) + 1)) ws := by
      rw [held_pick]
      rw [if_pos (by rename_i q; have : ((first % 2 : Nat) : Int) = (first : Int).fmod 2 := by rw [Int.fmod_eq_emod_of_nonneg _ (by decide)]; rfl
                     omega)]
    rw [e]
    exact strs_pick hws _ _
  · have e : heldF ts first behind ws width = (pickS (some (if ((Str.join (Str.ofString "") (pickS none (some ↑behind) ts)).length : Int) - ↑width > 0 then ((Str.join (Str.ofString "") (pickS none (some ↑behind) ts)).length : Int) - ↑width else 0)) (some ((if (ws.length : Int) - 1 < ((Str.join (Str.ofString "") (pickS none (some ↑first) ts)).length : Int) then (ws.length : Int) - 1 else ((Str.join (Str.ofString "") (pickS none (some ↑first) ts)).length : Int)) + 1)) ws).reverse := by
      rw [held_pick]
      rw [if_neg (by rename_i q; have : ((first % 2 : Nat) : Int) = (first : Int).fmod 2 := by rw [Int.fmod_eq_emod_of_nonneg _ (by decide)]; rfl
                     omega)]
    rw [e]
    exact strs_rev (strs_pick hws _ _)
set_option maxHeartbeats 4000000 in
theorem entry_new {w : World} {A : Around} {E : Value → Shared → Prop} {s : Shared} {mg mb : Str → Option Value} {h₀ : Heap} {L : Addr} {m : Str → Option Value} {news : List (Addr × Obj)} {Q : Value → Shared → Prop}
   (F : Fr h₀ L s.heap m) (X : (fr.heap_1 w.params).In h₀) (N : News h₀ L s.heap news) (T : TT mg mb h₀) (hh : A.handled = none) (hdp : A.depth < 900)
   (hQ : ∀ h' tk d x lu lr t1 t2 t3 t4, Fr h₀ L h' m → News h₀ L h' ((lr, { cls := .type "list", data := .seq #[] }) :: (lu, { cls := .type "list", data := .seq #[] }) :: (x, instObj 220 d) :: (d, entryDict w t1 t2 t3 t4 (.ref lu) (.ref lr)) :: news) → (∀ p ∈ news, p.1 < d) → @LT.lt Nat _ d x → @LT.lt Nat _ x lu → @LT.lt Nat _ lu lr → Q (.ref x) { s with heap := h', toks := tk }) :
   wpAny (model (Challenge.rw_rs0167_01.row.prog) w) A (call (.ref 220) []) Q E s := by
  revert X; k_fill; intro X
  refine call_cls F X N (by k_is) (by k_is) (by k_is) ?_
  intro x d h' F' N' l1 l2
  k_lt2 l2
  refine' codeL (binds := [(Str.ofString "self", .ref x)]) F' X N' T ?ho ?hcd ?hroom ?hb ?hl ?_ ?c1 ?c2 ?c3 ?c4
  kwd_inv
  have ne1 : ∀ p ∈ news, p.1 ≠ d := fun p hp => Nat.ne_of_lt (l1 p hp)
  intro g L' h₁ F₁ N₁ X₁ T₁ lt₁ st₁
  try dsimp only
  try k_fold
  kwd_rel
  exact hQ _ _ _ _ _ _ _ _ _ _ (by assumption) (by assumption) l1 l2 (by omega) (by omega)
section XE3
local macro_rules
  | `(tactic| walk_at "pyIter ref") => `(tactic| (rename StopN 1 => st; refine Hold.out ?_))
noncomputable def hits (u a : Str) : Bool := a != Str.ofString "*" && !(Builtin.Str.occurrences u (Txt.lower a) 0 u.length 1).isEmpty
set_option maxHeartbeats 4000000 in
theorem applies_spec {w : World} {A : Around} {E : Value → Shared → Prop} {s : Shared} {mg mb : Str → Option Value} {self d lu : Addr} {t1 t2 t3 t4 tu : Tok} {lr : Value} {uv : List Value} {us : List Str} {ua : Str} {Q : Value → Shared → Prop}
   (X : (fr.heap_1 w.params).In s.heap) (T : TT mg mb s.heap) (hh : A.handled = none) (hdp : A.depth < 900)
   (h1 : s.heap.get? self = some (instObj 220 d)) (h2 : s.heap.get? d = some (entryDict w t1 t2 t3 t4 (.ref lu) lr)) (h3 : s.heap.IsList lu uv.toArray) (h4 : StrsAre uv us)
   (hua : ua.length ≤ 1000) (hus : wt us ≤ 1000)
   (hQ : ∀ h' tk y, (Txt.split ua (Str.ofString "/"))[0]? = some y → (∀ b o, s.heap.get? b = some o → h'.get? b = some o) → Q (.bool (us.any (hits (Txt.lower y)))) { s with heap := h', toks := tk }) :
   wpAny (model (Challenge.rw_rs0167_01.row.prog) w) A (call (.ref 210) [.ref self, .str ua tu]) Q E s := by
  revert X; k_fill; intro X
  refine' enterP (binds := [(Str.ofString "self", .ref self), (Str.ofString "useragent", .str ua tu)]) X T ?ho ?hcd ?hroom ?hb ?hl ?_ ?c1 ?c2 ?c3 ?c4
  kwd_inv
  intro h₁ F
  have N : News s.heap s.heap.objs.size h₁ [] := News.nil
  try dsimp only
  try k_fold
  kwd_rel
  rename_i l' h' k' hsp hss hle hil hF hN y t hy
  have hy1 : (Txt.split ua (Str.ofString "/"))[0]? = some y := hsp ▸ hy
  have hyl : y.length ≤ 1000 := Nat.le_trans (hle y (List.mem_of_getElem? hy)) hua
  have st : StopN 1 := .mk 1
  kwd_rel
  rename StopN _ => st
  clear st
  unfold Hold
  rename Fr _ _ _ _ => F1
  rename News _ _ _ _ => N1
  refine loopS [Str.ofString "agent"] (fun i nw => nw = _ ∧ ∀ a ∈ us.take i, hits (Txt.lower y) a = false) hh (h3.at fun o e => F1.keep _ _ e) (ne_of_list F1 h3) F1 N1 ⟨rfl, by simp⟩ ?_ ?_
  · rintro i v u nw h tk own I oI hv ⟨rfl, hno⟩ mI off hI F2 N2
    obtain ⟨a, ta, rfl, ha⟩ := h4.item i v hv
    have hal : a.length ≤ 1000 := Nat.le_trans (mem_wt (List.mem_of_getElem? ha)) hus
    clear F1 N1
    kwd_rel
    · refine TurnEnd.next_ (by assumption) (by assumption) off ⟨by ktd_rel, rfl, take_succ_all hno ha ?_⟩
      rename _ = true => hocc
      simp only [hits, hocc, Bool.not_true, Bool.and_false]
    · refine TurnEnd.ret_ ?_
      clear F2
      rename Fr _ _ _ _ => F3
      rename (Builtin.Str.occurrences _ _ _ _ _).isEmpty = false => hocc
      rename (_ != _) = true => hst
      have : us.any (hits (Txt.lower y)) = true := List.any_eq_true.mpr ⟨a, List.mem_of_getElem? ha, by simp only [hits, hocc, hst, Bool.not_false, Bool.and_true]⟩
      have q := hQ _ tk y hy1 fun b o e => F3.keep b o e
      rw [this] at q
      exact q
    · refine TurnEnd.next_ (by assumption) (by assumption) off ⟨by ktd_rel, rfl, take_succ_all hno ha ?_⟩
      rename (_ != _) = false => hst
      simp only [hits, hst, Bool.false_and]
  · rintro u nw h tk ⟨rfl, hno⟩ F2 N2
    clear F1 N1
    kwd_rel
    have : us.any (hits (Txt.lower y)) = false := by
      rw [h4.length, List.take_length] at hno
      exact List.any_eq_false.mpr fun a ha => by rw [hno a ha]; decide
    have q := hQ _ tk y hy1 fun b o e => F2.keep b o e
    rw [this] at q
    exact q
end XE3
noncomputable def Ck (rn : List (Addr × Obj)) (P : Heap → Prop) : Prop := ∀ h : Heap, (∀ p ∈ rn, h.get? p.1 = some p.2) → P h
theorem Ck.mono {rn rn' : List (Addr × Obj)} {P : Heap → Prop} (c : Ck rn P) (h : ∀ p ∈ rn, p ∈ rn') : Ck rn' P := fun g k => c g fun p hp => k p (h p hp)
noncomputable def Fresh (h h' : Heap) (rn : List (Addr × Obj)) : Prop := ∀ p ∈ rn, h.get? p.1 = none ∧ h'.get? p.1 = some p.2
section
variable {h₀ h h' : Heap} {L : Addr} {m : Str → Option Value} {news rn : List (Addr × Obj)}
theorem news_add (F : Fr h₀ L h m) (N : News h₀ L h news) (u : ∀ b o, h.get? b = some o → h'.get? b = some o) (a : Fresh h h' rn) : News h₀ L h' (rn ++ news) := fun p hp => by
  rcases List.mem_append.mp hp with q | q
  · have z := a p q
    exact ⟨z.2, ne_frame F z.1, none_below F z.1⟩
  · exact ⟨u _ _ (N p q).1, (N p q).2⟩
theorem Fresh.ne (a : Fresh h h' rn) {b : Addr} {o : Obj} (e : h.get? b = some o) : ∀ p ∈ rn, p.1 ≠ b := fun p hp q => by
  have := (a p hp).1; rw [q, e] at this; cases this
theorem Fresh.below {h₀ : Heap} (F : ∀ b o, h₀.get? b = some o → h.get? b = some o) (a : Fresh h h' rn) : Fresh h₀ h' rn := fun p hp => by
  refine ⟨?_, (a p hp).2⟩
  cases q : h₀.get? p.1 with
  | none => rfl
  | some o => have := (a p hp).1; rw [F _ _ q] at this; cases this
theorem Fresh.of_news {h₀ : Heap} {L : Addr} (N : News h₀ L h' rn) : Fresh h₀ h' rn := fun p hp => ⟨(N p hp).2.2, (N p hp).1⟩
end
section
variable {h₀ : Heap} {L I : Addr} {own nw' news : List (Addr × Obj)} {s : Shared} {J : (Str → Option Value) → List (Addr × Obj) → Prop} {Q : Flow → Shared → Prop} {h' : Heap} {tk' : Nat} {m' : Str → Option Value}
end
/-! records -/
inductive EntryAt (w : World) (h : Heap) (r : Addr) (us : List Str) (rs : List Int) : Prop
  | mk (d : Addr) (t1 t2 t3 t4 : Tok) (lu lr : Addr) (uv rv : List Value) (x1 : h.get? r = some (instObj 220 d)) (x2 : h.get? d = some (entryDict w t1 t2 t3 t4 (.ref lu) (.ref lr))) (x3 : h.IsList lu (List.toArray uv)) (x4 : StrsAre uv us) (x5 : h.IsList lr (List.toArray rv)) (x6 : IntsAre rv rs) : EntryAt w h r us rs
theorem EntryAt.keep {w : World} {h h' : Heap} {r : Addr} {us : List Str} {rs : List Int} (X : EntryAt w h r us rs) (k : ∀ b o, h.get? b = some o → h'.get? b = some o) : EntryAt w h' r us rs := by
  obtain ⟨d, t1, t2, t3, t4, lu, lr, uv, rv, x1, x2, x3, x4, x5, x6⟩ := X
  exact ⟨d, t1, t2, t3, t4, lu, lr, uv, rv, k _ _ x1, k _ _ x2, x3.at fun o e => k _ _ e, x4, x5.at fun o e => k _ _ e, x6⟩
noncomputable abbrev Rec := List Str × List Int
noncomputable def mergeF (a b : Rec) : Rec := (a.1.filter (within b.1), a.2 ++ b.2)
inductive RecsAt (w : World) (h : Heap) : List Value → List Rec → Prop
  | nil : RecsAt w h [] []
  | cons {r : Addr} {e : Rec} {vs : List Value} {es : List Rec} : EntryAt w h r e.1 e.2 → RecsAt w h vs es → RecsAt w h (.ref r :: vs) (e :: es)
namespace RecsAt
variable {w : World} {h h' : Heap}
theorem length {vs : List Value} {es : List Rec} (x : RecsAt w h vs es) : vs.length = es.length := by
  induction x with
  | nil => rfl
  | cons _ _ ih => exact congrArg (· + 1) ih
theorem at_ {vs : List Value} {es : List Rec} (x : RecsAt w h vs es) : ∀ (i : Nat) (e : Rec), es[i]? = some e → ∃ r, vs[i]? = some (.ref r) ∧ EntryAt w h r e.1 e.2 := by
  induction x with
  | nil => intro i e q; cases q
  | cons y _ ih =>
    intro i e q
    cases i with
    | zero => cases q; exact ⟨_, rfl, y⟩
    | succ i => exact ih i e q
theorem drop {vs : List Value} {es : List Rec} (x : RecsAt w h vs es) : ∀ n, RecsAt w h (vs.drop n) (es.drop n) := by
  induction x with
  | nil => intro n; cases n <;> exact .nil
  | cons y r ih =>
    intro n
    cases n with
    | zero => exact .cons y r
    | succ n => exact ih n
theorem take {vs : List Value} {es : List Rec} (x : RecsAt w h vs es) : ∀ n, RecsAt w h (vs.take n) (es.take n) := by
  induction x with
  | nil => intro n; cases n <;> exact .nil
  | cons y r ih =>
    intro n
    cases n with
    | zero => exact .nil
    | succ n => exact .cons y (ih n)
theorem append {vs ws : List Value} {es fs : List Rec} (x : RecsAt w h vs es) (y : RecsAt w h ws fs) : RecsAt w h (vs ++ ws) (es ++ fs) := by
  induction x with
  | nil => exact y
  | cons z _ ih => exact .cons z ih
end RecsAt
section
variable {prog : Program} {w : World} {A : Around} {E : Value → Shared → Prop} {s : Shared} {env : Env} {h₀ : Heap} {x : Str} {body : List Stmt} {Q : Flow → Shared → Prop} {m₀ : Str → Option Value} {news : List (Addr × Obj)}
theorem stepU_of {L I : Addr} {own : List (Addr × Obj)} {J : (Str → Option Value) → List (Addr × Obj) → Prop} {h' : Heap} {tk' : Nat} {m' : Str → Option Value} (F : Fr h₀ L h' m') (N : News h₀ L h' news) (nw' : List (Addr × Obj)) (sub : ∀ p ∈ own ++ nw', p ∈ news) (off : ∀ p ∈ nw', p.1 ≠ I) (hj : J m' nw') :
    LoopStepU h₀ L [I] own J s .next { s with heap := h', toks := tk' } :=
  .intro F (fun p hp => N p (sub p hp)) (fun p hp q => off p hp (List.mem_singleton.mp q)) hj

theorem loopU {l : Addr} {vs : List Value} (J : Nat → (Str → Option Value) → List (Addr × Obj) → Prop)
    (hh : A.handled = none) (hl : s.heap.IsList l vs.toArray) (hlL : l ≠ env.locals) (F : Fr h₀ env.locals s.heap m₀) (N : News h₀ env.locals s.heap news) (hj : J 0 m₀ news)
    (turn : ∀ (i : Nat) (v : Value) (m₁ : Str → Option Value) (nw : List (Addr × Obj)) (s₁ : Shared) (h : Heap) (tk : Nat) (own : List (Addr × Obj)) (I : Addr) (oI : Obj), vs[i]? = some v → J i m₁ nw → (I, oI) ∈ own → (∀ p ∈ own, p.1 = I ∨ p.1 = l) → (∀ p ∈ nw, p.1 ≠ I) → Fr h₀ env.locals h (fun y => if y = x then some v else m₁ y) → News h₀ env.locals h (own ++ nw) →
      wpAny (model prog w) A (execs body env) (LoopStepU h₀ env.locals [I] own (J (i + 1)) { s₁ with heap := h, toks := tk }) E { s₁ with heap := h, toks := tk })
    (done : ∀ m₁ nw h tk, J vs.length m₁ nw → Fr h₀ env.locals h m₁ → News h₀ env.locals h nw → Q .next { s with heap := h, toks := tk }) :
    wpAny (model prog w) A (pyIter (.ref l)) (fun it s₂ => LoopAtU prog w A h₀ env x body Q E it s₂) E s := by
  refine wpAny_pyIter_list hl ?_
  have up : ∀ b o, s.heap.get? b = some o → (s.heap.push { cls := .type "list_iterator", data := .fields #[.ref l, .int 0 0] }).get? b = some o := fun b o e => Heap.get?_push_of_some _ e
  obtain ⟨ol, hol, hlr⟩ := id hl
  have hlt := Heap.lt_size hol
  have Wk := Walks.list (prog := prog) (w := w) hh s.heap.objs.size l (Nat.ne_of_lt hlt) vs.toArray
  rw [List.size_toArray] at Wk
  refine ex9 s.heap.objs.size _ [s.heap.objs.size] vs.length _ _ m₀ news J ⟨rfl, Wk, ?_, fun b hb => by rw [List.mem_singleton.mp hb]; exact none_below F (fresh_none (Nat.le_refl _)), fun p hp hm => Nat.ne_of_lt (Heap.lt_size (N p hp).1) (List.mem_singleton.mp hm),
    ⟨⟨_, Heap.get?_push_size _ rfl, rfl, rfl⟩, hl.at fun o e => up _ _ e⟩, fr_up F up, news_up (adds := []) F N up (by simp), hj, ?_, ?_⟩
  · intro hm
    rcases List.mem_cons.mp hm with q | q
    · exact ne_frame F (fresh_none (Nat.le_refl _)) q.symm
    · exact hlL (List.mem_singleton.mp q).symm
  · rintro i v m₁ nw s₁ own hin hP hJ hoff hown hget hall ⟨⟨oI, eI, _⟩, _⟩ F₁ N₁
    have mI : (s.heap.objs.size, oI) ∈ own := hall _ (by simp) (none_below F (fresh_none (Nat.le_refl _))) oI eI
    exact turn i v m₁ nw s₁ s₁.heap s₁.toks own _ oI (by simpa using hP) hJ mI (fun p hp => by simpa using hown p hp) (fun p hp q => hoff p hp (List.mem_singleton.mpr q)) F₁ N₁
  · intro h' tk m' news' F' N' _ hJ
    exact done m' news' h' tk hJ F' N'
end
section XE4
local macro_rules | `(tactic| walk_at "pad") => `(tactic| skip)
local macro_rules
  | `(tactic| walk_at "call ref nil") => `(tactic| (rename StopN 1 => st; refine Hold.out ?_))
set_option maxHeartbeats 4000000 in
theorem merge_spec {w : World} {A : Around} {E : Value → Shared → Prop} {s : Shared} {mg mb : Str → Option Value} {e1 e2 : Addr} {us1 us2 : List Str} {rs1 rs2 : List Int} {Q : Value → Shared → Prop}
   (X : (fr.heap_1 w.params).In s.heap) (T : TT mg mb s.heap) (hh : A.handled = none) (hdp : A.depth < 890)
   (h1 : EntryAt w s.heap e1 us1 rs1) (h2 : EntryAt w s.heap e2 us2 rs2) (hu1 : us1.length ≤ 1000) (hu2 : us2.length ≤ 1000) (hr1 : rs1.length ≤ 1000) (hr2 : rs2.length ≤ 1000)
   (hQ : ∀ h' tk r rn, (∀ b o, s.heap.get? b = some o → h'.get? b = some o) → Fresh s.heap h' rn → Ck rn (fun h => EntryAt w h r (us1.filter (within us2)) (rs1 ++ rs2)) → Q (.ref r) { s with heap := h', toks := tk }) :
   wpAny (model (Challenge.rw_rs0167_01.row.prog) w) A (call (.ref 231) [.ref e1, .ref e2]) Q E s := by
  obtain ⟨d1, p1, p2, p3, p4, lu1, lr1, uv1, rv1, x1, x2, x3, x4, x5, x6⟩ := h1
  obtain ⟨d2, q1, q2, q3, q4, lu2, lr2, uv2, rv2, y1, y2, y3, y4, y5, y6⟩ := h2
  revert X; k_fill; intro X
  refine' enterP (binds := [(Str.ofString "e1", .ref e1), (Str.ofString "e2", .ref e2)]) X T ?ho ?hcd ?hroom ?hb ?hl ?_ ?c1 ?c2 ?c3 ?c4
  kwd_inv
  intro h₁ F
  have N : News s.heap s.heap.objs.size h₁ [] := News.nil
  try dsimp only
  try k_fold
  have st : StopN 1 := .mk 1
  kwd_rel
  rename StopN _ => st
  clear st
  unfold Hold
  refine entry_new F X N T hh (by simp only [depth_deeper]; omega) ?_
  clear F N
  intro h₂ tk₂ d x lu lr t1 t2 t3 t4 F N _ lx1 lx2 lx3
  kwd_rel
  have hnil : Heap.IsList s.heap lu1 uv1.toArray := x3
  refine setL hh (by assumption) (by assumption) (y3.at fun o e => (by assumption : Fr _ _ _ _).keep _ _ e) (by simpa using y4) hu2 ?_
  intro h3 tk3 c S F N hS
  refine scL F N hS ?_
  clear F N hS
  intro h4 tk4 b F N hS hb
  kwd_rel
  refine filterL F N (x3.at fun o e => F.keep _ _ e) hS hb ?_
  clear F N hS hb
  intro h5 tk5 I D F N X5 i1 i2 i3 i4 i5 i6 i7
  kwd_rel
  refine list_filtL hh F N X5 i1 i2 i3 i4 i5 i6 i7 (by simpa using x4) hu1 ?_
  clear F N X5 i1 i2 i3 i4 i5 i6 i7
  intro h6 tk6 D acc c F N hacc l1 l2
  have l3 : @LT.lt Nat _ lr D := l1 _ (.head _)
  kwd_rel
  rename Fr _ _ _ _ => F9
  rename News _ _ _ _ => N9
  rename IntsAre _ (rs1 ++ rs2) => hI9
  refine hQ _ _ x _ (fun b o e => F9.keep b o e) (Fresh.of_news N9) fun g k => ?_
  have mx := k _ (.tail _ (.tail _ (.tail _ (.tail _ (.head _)))))
  have md := k _ (.tail _ (.tail _ (.tail _ (.tail _ (.tail _ (.head _))))))
  exact ⟨d, t1, t2, t3, t4, D, _, acc.toList, _, mx, md, ⟨_, k _ (.tail _ (.head _)), rfl, c, by simp⟩, hacc, ⟨_, k _ (.head _), rfl, _, rfl⟩, hI9⟩
end XE4
section XE5
local macro_rules
  | `(tactic| walk_at "subscriptTail Name Constant ref int") => `(tactic| (rename StopN 1 => st; refine Hold.out ?_))
  | `(tactic| walk_at "pyIter ref") => `(tactic| (rename StopN 2 => st; refine Hold.out ?_))
noncomputable def bounded (e : Rec) : Prop := e.1.length ≤ 1000 ∧ e.2.length ≤ 100
set_option maxHeartbeats 4000000 in
theorem merged_spec {w : World} {A : Around} {E : Value → Shared → Prop} {s : Shared} {mg mb : Str → Option Value} {l : Addr} {rv : List Value} {e0 : Rec} {es : List Rec} {rn₀ : List (Addr × Obj)} {Q : Value → Shared → Prop}
   (X : (fr.heap_1 w.params).In s.heap) (T : TT mg mb s.heap) (hh : A.handled = none) (hdp : A.depth < 880)
   (hl : s.heap.IsList l rv.toArray) (hr₀ : ∀ p ∈ rn₀, s.heap.get? p.1 = some p.2) (hr : Ck rn₀ (fun h => RecsAt w h rv (e0 :: es))) (hb : ∀ e ∈ e0 :: es, e.1.length ≤ 1000 ∧ e.2.length ≤ 10) (hn : es.length ≤ 10)
   (hQ : ∀ h' tk r rn, (∀ b o, s.heap.get? b = some o → h'.get? b = some o) → Fresh s.heap h' rn → Ck (rn ++ rn₀) (fun h => EntryAt w h r (es.foldl mergeF e0).1 (es.foldl mergeF e0).2) → Q (.ref r) { s with heap := h', toks := tk }) :
   wpAny (model (Challenge.rw_rs0167_01.row.prog) w) A (call (.ref 269) [.ref l]) Q E s := by
  revert X; k_fill; intro X
  refine' enterP (binds := [(Str.ofString "records", .ref l)]) X T ?ho ?hcd ?hroom ?hb ?hl ?_ ?c1 ?c2 ?c3 ?c4
  kwd_inv
  intro h₁ F
  have N : News s.heap s.heap.objs.size h₁ [] := News.nil
  try dsimp only
  try k_fold
  have st : StopN 1 := .mk 1
  kwd_rel
  rename StopN _ => st
  clear st
  unfold Hold
  have R0 : RecsAt w s.heap rv (e0 :: es) := hr _ hr₀
  obtain ⟨r0, v0, R1⟩ := R0.at_ 0 e0 rfl
  have hrl : rv.length ≤ 16777216 := by have := R0.length; simp only [List.length_cons] at this; omega
  refine item_listR (Fr.lst F hl) (by decide) (by decide) (by simpa using v0) ?_
  have st : StopN 2 := .mk 2
  kwd_rel
  rename StopN _ => st
  clear st
  unfold Hold
  rename Fr _ _ _ _ => F
  rename News _ _ _ _ => N
  rename_i h2 _ D h3 _
  have ek : kms_pick rv (some 1) none = rv.drop 1 := by
    have z : 1 ≤ rv.length := by rw [R0.length]; simp
    have z2 : min (Int.toNat 1) rv.length = 1 := by simp; omega
    simp only [kms_pick, kms_lo, kms_hi]
    rw [if_neg (by decide), z2]
    exact List.take_of_length_le (by simp)
  have Ci : ∀ (i : Nat) (r : Addr) (e : Rec), es[i]? = some e → (kms_pick rv (some 1) none)[i]? = some (.ref r) → Ck rn₀ (fun h => EntryAt w h r e.1 e.2) := by
    intro i r e he hv h k
    have R2 := (hr h k).drop 1
    rw [← ek] at R2
    obtain ⟨r', hr', E'⟩ := R2.at_ i e (by simpa using he)
    rw [hv] at hr'; cases hr'
    exact E'
  have El : (kms_pick rv (some 1) none).length = es.length := by rw [ek]; simp [R0.length]
  have C0 : Ck rn₀ (fun h => EntryAt w h r0 e0.1 e0.2) := by
    intro h k
    obtain ⟨r', hr', E'⟩ := (hr h k).at_ 0 e0 rfl
    rw [v0] at hr'; cases hr'
    exact E'
  have hfold : ∀ i, i ≤ es.length → ((es.take i).foldl mergeF e0).1.length ≤ 1000 ∧ ((es.take i).foldl mergeF e0).2.length ≤ 10 * (i + 1) := by
    intro i
    induction i with
    | zero => intro _; simpa using hb e0 (.head _)
    | succ i ih =>
      intro hi
      have z := ih (by omega)
      have he : es[i]? = some es[i] := List.getElem?_eq_getElem (by omega)
      rw [List.take_add_one, he, Option.toList_some, List.foldl_append]
      simp only [List.foldl_cons, List.foldl_nil, mergeF, List.length_append]
      have q := hb es[i] (.tail _ (List.getElem_mem _))
      have := List.length_filter_le (within es[i].1) ((es.take i).foldl mergeF e0).1
      omega
  refine loopU (fun i m₁ nw => ∃ r rn, nw = rn ++ [(D, W.listOf (kms_pick rv (some 1) none).toArray 0)] ∧ (∀ z, (∀ y ∈ [Str.ofString "one"], z ≠ y) → m₁ z = (fun y => if y = Str.ofString "merged" then some (.ref r) else [(Str.ofString "records", Value.ref l)].reverse.lookup y) z) ∧
      Ck (rn ++ rn₀) (fun h => EntryAt w h r ((es.take i).foldl mergeF e0).1 ((es.take i).foldl mergeF e0).2)) hh (News.isList N (.head _)) (N _ (.head _)).2.1 F N ⟨r0, [], rfl, fun z hz => rfl, C0⟩ ?_ ?_
  · rintro i v m₁ nw s₁ h tk own I oI hv ⟨r, rn, rfl, hm, Cr⟩ mI _ off F2 N2
    rw [upon_of hm] at F2
    clear F N
    have hil : i < es.length := by rw [← El]; exact (List.getElem?_eq_some_iff.mp hv).1
    obtain ⟨r1, hv1, E1⟩ := (show RecsAt w s.heap (kms_pick rv (some 1) none) es by rw [ek]; exact R0.drop 1).at_ i es[i] (List.getElem?_eq_getElem hil)
    rw [hv] at hv1; cases hv1
    have k₀ : ∀ p ∈ rn₀, h.get? p.1 = some p.2 := fun p hp => F2.keep _ _ (hr₀ p hp)
    have Er : EntryAt w h r ((es.take i).foldl mergeF e0).1 ((es.take i).foldl mergeF e0).2 := Cr h fun p hp => by
      rcases List.mem_append.mp hp with q | q
      · exact (N2 p (List.mem_append_right _ (List.mem_append_left _ q))).1
      · exact k₀ p q
    kwd_rel
    have hbi := hb es[i] (.tail _ (List.getElem_mem _))
    have hfi := hfold i (Nat.le_of_lt hil)
    refine merge_spec (X.keeps F2.keep) (TopRead.keeps T F2.keep) hh (by simp only [depth_deeper]; omega) Er (E1.keep F2.keep) (by omega) (by omega) (by omega) (by omega) ?_
    intro h5 tk5 r5 rn5 k5 f5 C5
    have F5 := fr_up F2 k5
    have N5 := news_add F2 N2 k5 f5
    have o5 := f5.ne (N2 (I, oI) (List.mem_append_left _ mI)).1
    clear F2 N2
    kwd_rel
    refine stepU_of (by assumption) (by assumption) (rn5 ++ rn ++ [(D, W.listOf (kms_pick rv (some 1) none).toArray 0)]) ?_ ?_ ⟨r5, rn5 ++ rn, rfl, by ktd_rel, ?_⟩
    · intro p hp
      simp only [List.mem_append] at hp ⊢
      rcases hp with q | (q | q) | q
      · exact .inr (.inl q)
      · exact .inl q
      · exact .inr (.inr (.inl q))
      · exact .inr (.inr (.inr q))
    · intro p hp
      simp only [List.mem_append] at hp
      rcases hp with (q | q) | q
      · exact o5 p q
      · exact off p (List.mem_append_left _ q)
      · exact off p (List.mem_append_right _ q)
    · have he : es[i]? = some es[i] := List.getElem?_eq_getElem hil
      rw [List.take_add_one, he, Option.toList_some, List.foldl_append]
      exact C5.mono fun p hp => List.mem_append_left _ (List.mem_append_left _ hp)
  · rintro m₁ nw h tk ⟨r, rn, rfl, hm, Cr⟩ F2 N2
    rw [upon_of hm] at F2
    clear F N
    kwd_rel
    rw [El, List.take_length] at Cr
    exact hQ _ _ r rn (fun b o e => F2.keep b o e) (fun p hp => ⟨(N2 p (List.mem_append_left _ hp)).2.2, (N2 p (List.mem_append_left _ hp)).1⟩) Cr
end XE5
section
variable {prog : Program} {w : World} {A : Around} {E : Value → Shared → Prop} {s : Shared} {K : Frag} {p : Program} {loose : List Str} {mg mb : Str → Option Value}
  {name qual : Str} {params : Arguments} {body : List Stmt} {scope : Scope} {dV kV doc pm cdv ct oc : Value} {an od : Option Addr} {osl : Array (Option Value)} {f : Addr} {args : List Value} {binds : List (Str × Value)}
theorem enterC {Q : Value → Shared → Prop} (X : K.In s.heap) (T : TopRead p loose mg mb s.heap)
    (ho : K.lookup f = some ⟨oc, od, .func (fnOf name qual params body scope dV kV doc pm an cdv ct), osl⟩) (hcd : codeIn K cdv qual = true) (hroom : A.depth < recursionLimit)
    (hbind : BindsTo s (fnOf name qual params body scope dV kV doc pm an cdv ct) ⟨args, []⟩ binds) (hkind : (binds.all fun y => scope.names.lookup y.1 == some .local || scope.names.lookup y.1 == some .cell) = true)
    (hnd : ((cellsFrom 0 scope.names []).map (·.1)).Nodup)
    (h : ∀ h₁ tk cells, Fr s.heap s.heap.objs.size h₁ (bindL (envOfC qual scope s.heap.objs.size f cdv).kindOf binds fun _ => none) → News s.heap s.heap.objs.size h₁ cells →
      CellsAre (bindC (envOfC qual scope s.heap.objs.size f cdv).kindOf binds fun _ => none) (cellsFrom (s.heap.objs.size + 1) scope.names []) cells →
      wpAny (model prog w) (A.deeper (envOfC qual scope s.heap.objs.size f cdv)) (execs body (envOfC qual scope s.heap.objs.size f cdv))
        (fun fl s' => Q (match fl with | .ret v => v | _ => .none) s') (fun _ _ => False)
        { s with heap := h₁, toks := tk })
    (hco : scope.isCoroutine = false) (hgen : scope.isGenerator = false) (hk : scope.kind = .function) : wpAny (model prog w) A (call (.ref f) args) Q E s := by
  refine wpAny_call (codeAny_call_function (fd := fnOf name qual params body scope dV kV doc pm an cdv ct) hroom (X _ _ ho) rfl hco hgen rfl (codeRec_of X hcd) (hbind _ _ _ _ ?_))
  refine wpAny_newFunctionEnv_cells hk (kindsX hkind _) ?_
  rintro _ rfl u laid
  have keep := laid.toInCall.keep
  have once : ((cellsFrom (s.heap.objs.size + 1) scope.names []).map (·.1)).Nodup := cellsFrom_names scope.names 0 (s.heap.objs.size + 1) [] [] rfl ▸ hnd
  obtain ⟨cells, fresh, held⟩ := Cl.news (h₀ := s.heap) (Nat.le_refl _) fun n c m => ⟨laid.cell n c (lookup_of_mem_nodup once m), laid.above n c m⟩
  obtain ⟨h₁, tk, rfl, _⟩ := laid.done
  exact ⟨T.nolimit.keeps keep, codeAny_func (wpAny_mono (h h₁ tk cells ⟨laid.toInCall.ns, keep, Nat.le_refl _⟩ fresh held) (fun _ _ => id) fun _ _ => False.elim)⟩
end
section
variable {prog : Program} {w : World} {A : Around} {s : Shared} {h₀ : Heap} {L : Addr} {m : Str → Option Value} {env : Env} {ct elt : PySem.Expr} {x : Str} {scope : Scope} {cl : List (Str × Addr)} {S : List (Addr × Obj) → Prop} {Fin : List Value → List (Addr × Obj) → Prop} {news : List (Addr × Obj)}
noncomputable def Grown (s : Shared) (h : Heap) (s' : Shared) (P : Heap → Prop) : Prop := ∃ h' tk', s' = { s with heap := h', toks := tk' } ∧ (∀ b o, h.get? b = some o → h'.get? b = some o) ∧ P h'
theorem filt_rest {vs : List Value} {ws : List Str} (hws : StrsAre vs ws) (p : Str → Bool) (hS : S news)
    (turn : ∀ (y : Str) (t : Tok) (I : Addr) (oI : Obj) (C : Addr) (oC : Obj) (D : Addr) (m₂ : Str → Option Value) (ys : List Value) (h : Heap) (tk : Nat) (E' : Value → Shared → Prop), y ∈ ws → LCg.NsObj oC m₂ → m₂ x = some (.str y t) → Fr h₀ L h m →
      News h₀ L h ((I, oI) :: (C, oC) :: (D, LCg.lst ys) :: news) → LCg.Off3 I C D news → ((@Ne Nat I C) ∧ (@Ne Nat I D) ∧ (@Ne Nat C D)) →
      wpAny (model prog w) A (isTrue ct (compEnvC scope cl C env) (eval ct (compEnvC scope cl C env))) (fun ok s' => ok = p y ∧ Grown s h s' (fun h' =>
        (p y = true → wpAny (model prog w) A (eval elt (compEnvC scope cl C env)) (fun v s'' => v = .str y t ∧ Grown s h' s'' (fun _ => True)) E' s'))) E' { s with heap := h, toks := tk })
    (fin : ∀ ys, StrsAre ys (ws.filter p) → Fin ys news) : LCt.CompRestT prog w A h₀ L m env ct elt x scope cl s S (fun i v => vs.toArray[i]? = some v) Fin vs.toArray.size 0 [] news := by
  have key : ∀ (k i : Nat) (ys : List Value), i + k = vs.length → StrsAre ys ((ws.take i).filter p) → LCt.CompRestT prog w A h₀ L m env ct elt x scope cl s S (fun i v => vs.toArray[i]? = some v) Fin k i ys news := by
    intro k
    induction k with
    | zero =>
      intro i ys e h
      refine LCt.CompRestT.zero (fin ys ?_)
      rwa [List.take_of_length_le (by rw [← hws.length]; omega)] at h
    | succ k ih =>
      intro i ys e hy
      refine LCt.CompRestT.succ fun v I oI C oC D m₂ h tk E' hP hC hx F N off ne => ?_
      obtain ⟨y, t, rfl, hyw⟩ := hws.item i v (by simpa using hP)
      refine wpAny_mono (turn y t I oI C oC D m₂ ys h tk E' (List.mem_of_getElem? hyw) hC hx F N off ne) (fun ok s' hok => ?_) fun _ _ q => q
      obtain ⟨rfl, h', tk', rfl, u, el⟩ := hok
      have hs : (ws.take (i + 1)).filter p = (ws.take i).filter p ++ (if p y = true then [y] else []) := by
        rw [List.take_add_one, hyw, Option.toList_some, List.filter_append, List.filter_cons, List.filter_nil]
      cases hp : p y with
      | true =>
        rw [if_pos rfl]
        refine wpAny_mono (el hp) (fun v s'' hv => ?_) fun _ _ q => q
        obtain ⟨rfl, h'', tk'', rfl, u', _⟩ := hv
        have u2 : ∀ b o, h.get? b = some o → h''.get? b = some o := fun b o e => u' _ _ (u _ _ e)
        refine LCg.CompEnd.intro (fr_up F u2) (news_keep F N u2) news (fun p hp => hp) off hS (ih (i + 1) _ (by omega) ?_)
        rw [hs, if_pos hp]
        exact hy.append' (.cons y t .nil)
      | false =>
        rw [if_neg Bool.false_ne_true]
        refine LCg.CompEnd.intro (fr_up F u) (news_keep F N u) news (fun p hp => hp) off hS (ih (i + 1) _ (by omega) ?_)
        rw [hs, if_neg (by rw [hp]; decide), List.append_nil]
        exact hy
  rw [List.size_toArray]
  exact key vs.length 0 [] (by omega) (by simp; exact .nil)
end
section
variable {prog : Program} {w : World} {A : Around} {E : Value → Shared → Prop} {s : Shared} {h₀ : Heap} {L D : Addr} {m : Str → Option Value} {pre post : List (Addr × Obj)} {its : List Value} {n : Nat} {k : Int} {t : Tok} {v : Value}
theorem setItemL {Q : Unit → Shared → Prop} (F : Fr h₀ L s.heap m) (N : News h₀ L s.heap (pre ++ (D, W.listOf its.toArray n) :: post)) (a : ∀ p ∈ pre, p.1 ≠ D) (b : ∀ p ∈ post, p.1 ≠ D) (h0 : 0 ≤ k) (hf : k < 2 ^ 63) (h1 : k < its.length)
    (h : ∀ h', Fr h₀ L h' m → News h₀ L h' (pre ++ (D, W.listOf (its.set k.toNat v).toArray n) :: post) → Q () { s with heap := h' }) : wpAny (model prog w) A (setItem (.ref D) (.int k t) v) Q E s := by
  have z := N (D, W.listOf its.toArray n) (List.mem_append.mpr (.inr (.head _)))
  refine ki_setAt z.1 h0 hf (by simpa using h1) (h _ (F.change (Heap.SameBut.update ..) z.2.1 z.2.2) (ki_turn _ N a b ?_ ?_))
  · simp
  · simp
end
theorem ints_set {vs : List Value} {ns : List Int} (h : IntsAre vs ns) : ∀ (k : Nat) (x : Int) (t : Tok), IntsAre (vs.set k (.int x t)) (ns.set k x) := by
  induction h with
  | nil => intro k x t; exact .nil
  | cons n t h ih =>
    intro k x t'
    cases k with
    | zero => exact .cons x t' h
    | succ k => exact .cons n t (ih k x t')
section
variable {prog : Program} {w : World} {A : Around} {s : Shared} {h₀ : Heap} {L : Addr} {m : Str → Option Value} {env : Env} {elt : PySem.Expr} {x : Str} {scope : Scope} {cl : List (Str × Addr)} {S : List (Addr × Obj) → Prop} {Fin : List Value → List (Addr × Obj) → Prop} {news : List (Addr × Obj)} {P : Nat → Value → Prop} {n : Nat}
theorem compEnd_mono {s₁ : Shared} {I : Addr} {oI : Obj} {C : Addr} {oC : Obj} {D : Addr} {oD : Obj} {r r' : Value → List (Addr × Obj) → Prop} {y : Value} {s₂ : Shared} (hr : ∀ y nw, r y nw → r' y nw) (h : LCg.CompEnd h₀ L m s₁ I oI C oC D oD S r y s₂) : LCg.CompEnd h₀ L m s₁ I oI C oC D oD S r' y s₂ := by
  obtain ⟨h', tk, nw, e, F, N, o, hS, q⟩ := h
  exact ⟨h', tk, nw, e, F, N, o, hS, hr _ _ q⟩
theorem comp_rest (Rl : Nat → List Value → List (Addr × Obj) → Prop) (h0 : Rl 0 [] news)
    (turn : ∀ (i : Nat) (v : Value) (I : Addr) (oI : Obj) (C : Addr) (oC : Obj) (D : Addr) (m₂ : Str → Option Value) (ys : List Value) (nw : List (Addr × Obj)) (h : Heap) (tk : Nat) (E' : Value → Shared → Prop), i < n → P i v → Rl i ys nw → LCg.NsObj oC m₂ → m₂ x = some v → Fr h₀ L h m →
      News h₀ L h ((I, oI) :: (C, oC) :: (D, LCg.lst ys) :: nw) → LCg.Off3 I C D nw → ((@Ne Nat I C) ∧ (@Ne Nat I D) ∧ (@Ne Nat C D)) →
      wpAny (model prog w) A (eval elt (compEnvC scope cl C env)) (LCg.CompEnd h₀ L m { s with heap := h, toks := tk } I oI C oC D (LCg.lst ys) S (fun y nw' => Rl (i + 1) (ys ++ [y]) nw')) E' { s with heap := h, toks := tk })
    (fin : ∀ ys nw, Rl n ys nw → Fin ys nw) : LCg.CompRest prog w A h₀ L m env elt x scope cl s S P Fin n 0 [] news := by
  have key : ∀ (k i : Nat) (ys : List Value) (nw : List (Addr × Obj)), i + k = n → Rl i ys nw → LCg.CompRest prog w A h₀ L m env elt x scope cl s S P Fin k i ys nw := by
    intro k
    induction k with
    | zero =>
      intro i ys nw e h
      have e' : i = n := by omega
      subst e'
      exact LCg.CompRest.zero (fin ys nw h)
    | succ k ih =>
      intro i ys nw e h
      refine LCg.CompRest.succ fun v I oI C oC D m₂ g tk E' hP hC hx F N off ne => ?_
      exact wpAny_mono (turn i v I oI C oC D m₂ ys nw g tk E' (by omega) hP h hC hx F N off ne) (fun y s' hy => compEnd_mono (fun y nw' q => ih (i + 1) _ nw' (by omega) q) hy) fun _ _ q => q
  exact key n 0 [] news (by omega) h0
theorem compEnd_keep {s₁ : Shared} {I : Addr} {oI : Obj} {C : Addr} {oC : Obj} {D : Addr} {oD : Obj} {r : Value → List (Addr × Obj) → Prop} {y : Value} {h' : Heap} {tk : Nat} {nw : List (Addr × Obj)} (F : Fr h₀ L h' m) (N : News h₀ L h' ((I, oI) :: (C, oC) :: (D, oD) :: nw)) (off : LCg.Off3 I C D nw) (hS : S nw) (hr : r y nw) :
    LCg.CompEnd h₀ L m s₁ I oI C oC D oD S r y { s₁ with heap := h', toks := tk } := LCg.CompEnd.intro F N nw (fun _ q => q) off hS hr
end
theorem opq3 {α β γ : Type} (B : α → β → γ → Prop) {G : Prop} (k : ∀ J : α → β → γ → Prop, (∀ i h g, B i h g → J i h g) → (∀ i h g, J i h g → B i h g) → G) : G := k B (fun _ _ _ q => q) (fun _ _ _ q => q)
theorem opq4 {α β γ δ : Type} (B : α → β → γ → δ → Prop) {G : Prop} (k : ∀ J : α → β → γ → δ → Prop, (∀ i h g d, B i h g d → J i h g d) → (∀ i h g d, J i h g d → B i h g d) → G) : G := k B (fun _ _ _ _ q => q) (fun _ _ _ _ q => q)
theorem opq2 {α β : Type} (B : α → β → Prop) {G : Prop} (k : ∀ J : α → β → Prop, (∀ i h, B i h → J i h) → (∀ i h, J i h → B i h) → G) : G := k B (fun _ _ q => q) (fun _ _ q => q)
theorem map_over {x : Str} {a b : Option Value} {M : Str → Option Value} : (fun z => if z = x then a else (fun z => if z = x then b else M z) z) = fun z => if z = x then a else M z := by
  funext z; by_cases q : z = x <;> simp [q]
inductive AfterE (h₀ : Heap) (L : Addr) (gs : Array GenState) (dr : Drawn) (os : OsState) (P : (Str → Option Value) → List (Addr × Obj) → Prop) (s' : Shared) : Prop
  | mk (h' : Heap) (tk : Nat) (m' : Str → Option Value) (nw' : List (Addr × Obj)) (e : s' = ⟨h', gs, dr, tk, os⟩) (F : Fr h₀ L h' m') (N : News h₀ L h' nw') (p : P m' nw') : AfterE h₀ L gs dr os P s'
noncomputable def After (h₀ : Heap) (L : Addr) (s : Shared) (P : (Str → Option Value) → List (Addr × Obj) → Prop) (f : Flow) (s' : Shared) : Prop :=
  f = .next ∧ AfterE h₀ L s.gens s.drawn s.os P s'
theorem After.intro {h₀ h' : Heap} {L : Addr} {s : Shared} {P : (Str → Option Value) → List (Addr × Obj) → Prop} {tk : Nat} {m' : Str → Option Value} {nw nw' : List (Addr × Obj)} (F : Fr h₀ L h' m') (N : News h₀ L h' nw') (sub : ∀ p ∈ nw, p ∈ nw') (h : P m' nw) : After h₀ L s P .next { s with heap := h', toks := tk } :=
  ⟨rfl, h', tk, m', nw, rfl, F, fun p hp => N p (sub p hp), h⟩
section
variable {prog : Program} {w : World} {A : Around} {E : Value → Shared → Prop} {Q : Flow → Shared → Prop} {s : Shared} {env : Env} {h₀ : Heap} {L : Addr}
theorem while_after {test : PySem.Expr} {body : List Stmt} {pos : Pos} {m : Str → Option Value} {news : List (Addr × Obj)} {n₀ : Nat} (F : Fr h₀ L s.heap m) (N : News h₀ L s.heap news) (J : Nat → (Str → Option Value) → List (Addr × Obj) → Prop) (P : (Str → Option Value) → List (Addr × Obj) → Prop)
    (hJ : J n₀ m news)
    (turn : ∀ n m₁ news₁ h₁ tk₁, Fr h₀ L h₁ m₁ → News h₀ L h₁ news₁ → J n m₁ news₁ →
      wpAny (model prog w) A (isTrue test env (eval test env)) (fun b s₂ =>
        if b = true then wpAny (model prog w) A (execs body env) (WhileStep h₀ L s J n) (fun _ _ => False) s₂ else After h₀ L s P .next s₂) (fun _ _ => False) { s with heap := h₁, toks := tk₁ })
    (done : ∀ h' tk m' nw', Fr h₀ L h' m' → News h₀ L h' nw' → P m' nw' → Q .next { s with heap := h', toks := tk }) :
    wpAny (model prog w) A (exec (.While test body [] pos) env) Q E s := by
  refine wpAny_mono (While_inv (Q := After h₀ L s P) (E := fun _ _ => False) J F N hJ turn) (fun f s' hf => ?_) fun _ _ e => e.elim
  obtain ⟨rfl, h', tk, m', nw', rfl, F', N', hp⟩ := hf
  exact done h' tk m' nw' F' N' hp
theorem WhileStep.of {h' : Heap} {J : Nat → (Str → Option Value) → List (Addr × Obj) → Prop} {n n' tk : Nat} {m₂ : Str → Option Value} {nw nw' : List (Addr × Obj)}
    (F : Fr h₀ L h' m₂) (N : News h₀ L h' nw') (sub : ∀ p ∈ nw, p ∈ nw') (hn : n' < n) (hJ : J n' m₂ nw) : WhileStep h₀ L s J n .next { s with heap := h', toks := tk } :=
  WhileStep.intro F (fun p hp => N p (sub p hp)) hn hJ
end
noncomputable def Over (x : Str) (v : Int) (M m' : Str → Option Value) : Prop := ∃ t, m' = fun z => if z = x then some (Value.int v t) else M z
theorem Over.base {x : Str} {v : Int} {t : Tok} {M : Str → Option Value} : Over x v M (fun z => if z = x then some (Value.int v t) else M z) := ⟨t, rfl⟩
theorem Over.step {x : Str} {v v' : Int} {t : Tok} {a : Option Value} {M : Str → Option Value} (e : v = v') : Over x v' M (fun z => if z = x then some (Value.int v t) else (fun z => if z = x then a else M z) z) := ⟨t, by rw [← e]; exact map_over⟩
section
variable {prog : Program} {w : World} {A : Around} {E : Value → Shared → Prop} {s : Shared} {h₀ : Heap} {L D : Addr} {m : Str → Option Value} {pre post : List (Addr × Obj)} {its : List Value} {n : Nat} {v : Value}
end
theorem allLt_mem {d : Addr} {l : List (Addr × Obj)} (h : AllLt d l) : ∀ p ∈ l, @LT.lt Nat _ p.1 d := by
  induction l with
  | nil => intro q hq; cases hq
  | cons p l ih =>
    intro q hq
    rcases List.mem_cons.mp hq with e | hq
    · rw [e]; exact h.1
    · exact ih h.2 q hq
section XE7
local macro_rules | `(tactic| walk_at "pad") => `(tactic| skip)
local macro_rules
  | `(tactic| walk_at "exec For Tuple Call cons nil") => `(tactic| (rename StopN 1 => st; refine Hold.out ?_))
inductive J7 (C l : Addr) (i : Nat) (m₁ : Str → Option Value) (nw : List (Addr × Obj)) : Prop
  | mk (hm : ∀ z, (∀ y ∈ [Str.ofString "place", Str.ofString "x"], z ≠ y) → m₁ z = (fun y => if y = Str.ofString "cells" then some (Value.ref C) else [(Str.ofString "script", Value.ref l)].reverse.lookup y) z) (cv : List Value) (cs : List Int) (n : Nat) (e : nw = [(C, { cls := .type "list", data := .seq (List.toArray cv) n })]) (hcv : IntsAre cv cs) (hcs : cs.length = 6) : J7 C l i m₁ nw
inductive J7c (NW : List (Addr × Obj)) (i : Nat) (ys : List Value) (nw : List (Addr × Obj)) : Prop
  | mk (e : nw = NW) (ms : List Int) (hms : IntsAre ys ms) (hl : ms.length = i) (hb : ∀ c ∈ ms, 0 ≤ c ∧ c < 1000000) : J7c NW i ys nw
set_option maxHeartbeats 4000000 in
theorem cells_spec {w : World} {A : Around} {E : Value → Shared → Prop} {s : Shared} {mg mb : Str → Option Value} {l : Addr} {sv : List Value} {ns : List Int} {Q : Value → Shared → Prop}
   (X : (fr.heap_1 w.params).In s.heap) (T : TT mg mb s.heap) (hh : A.handled = none) (hdp : A.depth < 880) (hw : s.heap.IsList l sv.toArray) (hws : IntsAre sv ns) (hn : ns.length ≤ 63)
   (hQ : ∀ h' tk r cv n cs, (∀ b o, s.heap.get? b = some o → h'.get? b = some o) → s.heap.get? r = none → h'.get? r = some { cls := .type "list", data := .seq (List.toArray cv) n } → IntsAre cv cs → cs.length = 6 → (∀ c ∈ cs, 0 ≤ c ∧ c < 1000000) → Q (.ref r) { s with heap := h', toks := tk }) :
   wpAny (model (Challenge.rw_rs0167_01.row.prog) w) A (call (.ref 236) [.ref l]) Q E s := by
  revert X; k_fill; intro X
  refine' enterP (binds := [(Str.ofString "script", .ref l)]) X T ?ho ?hcd ?hroom ?hb ?hl ?_ ?c1 ?c2 ?c3 ?c4
  kwd_inv
  intro h₁ F
  have N : News s.heap s.heap.objs.size h₁ [] := News.nil
  try dsimp only
  try k_fold
  have st : StopN 1 := .mk 1
  kwd_rel
  rename StopN _ => st
  clear st
  unfold Hold
  rename Fr _ _ _ _ => F
  rename News _ _ _ _ => N
  rename_i C _ _ h2
  k_dflt (refine For_pair3F F hh ?h1 ?h2 ?h3 ?_ ?h4)
  case h1 => exact rfl
  case h2 => exact rfl
  case h3 => exact rfl
  case h4 => intro _; exact rfl
  kwd_rel
  refine call_enum_list hh hw hws.areOf F N ?_
  intro h3 e F3 N3 src
  clear F N
  refine opq3 (J7 C l) fun J jI jE => ?_
  refine src.at _ rfl _ _ _ _ J (jI _ _ _ ⟨fun z _ => rfl, _, _, _, rfl, .cons _ _ (.cons _ _ (.cons _ _ (.cons _ _ (.cons _ _ (.cons _ _ .nil))))), rfl⟩) ?_ ?_
  · rintro i a t v m₁ nw s₁ own ⟨h, tk, rfl⟩ ha ⟨t', rfl⟩ hJ _ hoff F2 N2
    obtain ⟨hm, cv, cs, n, rfl, hcv, hcs⟩ := jE _ _ _ hJ
    clear hJ
    rw [upon_of hm] at F2
    clear F3 N3
    kwd_rel
    have e6 : ((i : Nat) : Int).fmod 6 = ((i % 6 : Nat) : Int) := by rw [Int.fmod_eq_emod_of_nonneg _ (by decide)]; rfl
    have hcl : cv.length = 6 := by rw [hcv.length, hcs]
    refine setItemL (pre := own) (post := []) F2 N2 (fun p hp => hoff p hp _ (.head _)) (by simp) (by rw [e6]; omega) (by rw [e6]; omega) (by rw [e6]; omega) ?_
    intro h5 F5 N5
    kwd_rel
    exact jI _ _ _ ⟨by ktd_rel, _, _, _, rfl, ints_set hcv _ _ _, by simpa using hcs⟩
  · intro h tk m₁ nw F2 N2 _ hJ
    obtain ⟨hm, cv, cs, n, rfl, hcv, hcs⟩ := jE _ _ _ hJ
    clear hJ
    rw [upon_of hm] at F2
    clear F3 N3
    kwd_rel
    refine LCg.CompSrc.ledger (by exact hh) F2 N2 (.head _) (by rw [List.size_toArray, hcv.length, hcs]; decide) ?_
    intro g
    refine opq3 (J7c [(C, { cls := .type "list", data := .seq (List.toArray cv) n })]) fun W wI wE => ?_
    refine comp_rest W (wI _ _ _ ⟨rfl, [], .nil, rfl, by simp⟩) ?_ ?_
    · intro i v I oI C2 oC D m₂ ys nw h5 tk5 E' hi hP hW hC hx F5 N5 off ne
      obtain ⟨rfl, ms, hms, hl5, hb5⟩ := wE _ _ _ hW
      clear hW
      obtain ⟨c, tc, rfl⟩ := hcv.int_at i v (by simpa using hP)
      clear F2 N2
      kwd_rel
      refine compEnd_keep F5 N5 off (.inr ⟨_, .head _, rfl, _, rfl⟩) (wI _ _ _ ⟨rfl, ms ++ [(cs.getD i 0).fmod 1000000], hms.append (.cons _ _ .nil), by simp [hl5], ?_⟩)
      intro c' hc'
      rcases List.mem_append.mp hc' with q | q
      · exact hb5 c' q
      · rw [List.mem_singleton.mp q, Int.fmod_eq_emod_of_nonneg _ (by decide)]
        omega
    · intro ys nw hW D h5 tk5 F5 N5 o5
      obtain ⟨rfl, ms, hms, hl5, hb5⟩ := wE _ _ _ hW
      rw [List.size_toArray, hcv.length, hcs] at hl5
      exact hQ _ _ D ys _ ms F5.keep (N5 _ (.head _)).2.2 (N5 _ (.head _)).1 hms hl5 hb5
end XE7
section XE8
local macro_rules | `(tactic| walk_at "pad") => `(tactic| skip)
local macro_rules | `(tactic| walk_at "exec While") => `(tactic| refine Hold.out ?_)
local macro_rules
  | `(tactic| walk_at "exec For Name Name cons nil") => `(tactic| (rename StopN 1 => st; refine Hold.out ?_))
  | `(tactic| walk_at "call builtin:len cons nil") => `(tactic| (rename StopN 2 => st; refine Hold.out ?_))
noncomputable def jl (ts : List Str) (f b : Nat) : Nat := (((ts.take b).drop f).map (·.length)).sum
noncomputable def runEnd (ts : List Str) (f n : Nat) : Nat → Nat → Nat
  | 0, b => b
  | k + 1, b => if b < ts.length ∧ jl ts f b < n then runEnd ts f n k (b + 1) else b
noncomputable def runsF (ts : List Str) : Nat → List Str → List (Nat × Nat)
  | _, [] => []
  | f, r :: rs => (f, runEnd ts f r.length (ts.length + 1 - f) f) :: runsF ts (runEnd ts f r.length (ts.length + 1 - f) f) rs
noncomputable def PairObj (a b : Int) (o : Obj) : Prop := ∃ t u n, o = { cls := .type "tuple", data := .seq #[.int a t, .int b u] n }
inductive PairsAt (h : Heap) : List Value → List (Nat × Nat) → Prop
  | nil : PairsAt h [] []
  | cons {T : Addr} {o : Obj} {p : Nat × Nat} {vs : List Value} {ps : List (Nat × Nat)} : h.get? T = some o → PairObj p.1 p.2 o → PairsAt h vs ps → PairsAt h (.ref T :: vs) (p :: ps)
theorem PairsAt.append {h : Heap} {vs ws : List Value} {ps qs : List (Nat × Nat)} (a : PairsAt h vs ps) (b : PairsAt h ws qs) : PairsAt h (vs ++ ws) (ps ++ qs) := by
  induction a with
  | nil => exact b
  | cons e o r ih => exact .cons e o ih
noncomputable def J8 (R lr lt : Addr) (f : Nat) (tf : Tok) (m₁ : Str → Option Value) : Prop :=
  ∀ z, (∀ y ∈ [Str.ofString "row", Str.ofString "behind"], z ≠ y) → m₁ z = (fun y => if y = Str.ofString "first" then some (Value.int f tf) else if y = Str.ofString "runs" then some (Value.ref R) else [(Str.ofString "rows", Value.ref lr), (Str.ofString "things", Value.ref lt)].reverse.lookup y) z
theorem runEnd_stop {ts : List Str} {f n b : Nat} (h : ¬ (b < ts.length ∧ jl ts f b < n)) (k : Nat) : runEnd ts f n k b = b := by
  cases k with
  | zero => rfl
  | succ k => simp only [runEnd]; rw [if_neg h]
theorem runEnd_go {ts : List Str} {f n b : Nat} (h : b < ts.length ∧ jl ts f b < n) (k : Nat) : runEnd ts f n (k + 1) b = runEnd ts f n k (b + 1) := by
  simp only [runEnd]; rw [if_pos h]
theorem runsF_length (ts : List Str) : ∀ (f : Nat) (rs : List Str), (runsF ts f rs).length = rs.length
  | _, [] => rfl
  | f, r :: rs => by simp only [runsF, List.length_cons, runsF_length ts _ rs]
inductive RunJ (R lr lt : Addr) (ts rs : List Str) (i : Nat) (m₁ : Str → Option Value) (nw : List (Addr × Obj)) : Prop
  | mk (f : Nat) (tf : Tok) (pv : List Value) (n : Nat) (rn : List (Addr × Obj)) (e : nw = (R, { cls := .type "list", data := .seq (List.toArray pv) n }) :: rn) (hf : f ≤ ts.length) (hpl : pv.length = i) (hm : J8 R lr lt f tf m₁) (hne : ∀ p ∈ rn, p.1 ≠ R) (hru : runsF ts 0 rs = (runsF ts 0 rs).take i ++ runsF ts f (rs.drop i)) (C : Ck rn (fun h => PairsAt h pv ((runsF ts 0 rs).take i))) : RunJ R lr lt ts rs i m₁ nw
inductive RunW (ts : List Str) (f y : Nat) (nw : List (Addr × Obj)) (G : Str → Option Value) (k : Nat) (m' : Str → Option Value) (nw' : List (Addr × Obj)) : Prop
  | mk (e : nw' = nw) (b : Nat) (hb : b ≤ ts.length) (hfb : f ≤ b) (hk : ts.length + 1 ≤ b + k) (he : runEnd ts f y k b = runEnd ts f y (ts.length + 1 - f) f) (o : Over (Str.ofString "behind") (b : Int) G m') : RunW ts f y nw G k m' nw'
inductive RunV (ts : List Str) (f y : Nat) (nw : List (Addr × Obj)) (G : Str → Option Value) (m' : Str → Option Value) (nw' : List (Addr × Obj)) : Prop
  | mk (e : nw' = nw) (b : Nat) (hb : b ≤ ts.length) (he : b = runEnd ts f y (ts.length + 1 - f) f) (o : Over (Str.ofString "behind") (b : Int) G m') : RunV ts f y nw G m' nw'
set_option maxHeartbeats 4000000 in
theorem runs_spec {w : World} {A : Around} {E : Value → Shared → Prop} {s : Shared} {mg mb : Str → Option Value} {lr lt : Addr} {rv tv : List Value} {rs ts : List Str} {Q : Value → Shared → Prop}
   (X : (fr.heap_1 w.params).In s.heap) (T : TT mg mb s.heap) (hh : A.handled = none) (hdp : A.depth < 880) (hr : s.heap.IsList lr rv.toArray) (hrs : StrsAre rv rs) (ht : s.heap.IsList lt tv.toArray) (hts : StrsAre tv ts) (hrw : wt rs ≤ 1000) (htw : wt ts ≤ 1000)
   (hQ : ∀ h' tk r n pv rn, (∀ b o, s.heap.get? b = some o → h'.get? b = some o) → Fresh s.heap h' ((r, { cls := .type "list", data := .seq (List.toArray pv) n }) :: rn) → Ck rn (fun h => PairsAt h pv (runsF ts 0 rs)) → Q (.ref r) { s with heap := h', toks := tk }) :
   wpAny (model (Challenge.rw_rs0167_01.row.prog) w) A (call (.ref 250) [.ref lr, .ref lt]) Q E s := by
  revert X; k_fill; intro X
  refine' enterP (binds := [(Str.ofString "rows", .ref lr), (Str.ofString "things", .ref lt)]) X T ?ho ?hcd ?hroom ?hb ?hl ?_ ?c1 ?c2 ?c3 ?c4
  kwd_inv
  intro h₁ F
  have N : News s.heap s.heap.objs.size h₁ [] := News.nil
  try dsimp only
  try k_fold
  have st : StopN 1 := .mk 1
  kwd_rel
  rename StopN _ => st
  clear st
  unfold Hold
  rename Fr _ _ _ _ => F1
  rename News _ _ _ _ => N1
  rename_i R _ _ h2 h3
  k_dflt (refine For_invU s.heap ?hx ?hp ?_)
  case hx => exact rfl
  case hp => exact rfl
  kwd_rel
  refine opq3 (RunJ R lr lt ts rs) fun J jI jE => ?_
  refine loopU J hh (Fr.lst F1 hr) (ne_of_list F1 hr) F1 N1 ?_ ?_ ?_
  · refine jI _ _ _ ⟨0, _, [], 0, [], rfl, Nat.zero_le _, rfl, fun z _ => rfl, by simp, by simp, ?_⟩
    intro g _
    rw [List.take_zero]
    exact .nil
  · intro i v m₁ nw s₁ h tk own I oI hv hJ mI ho off F2 N2
    obtain ⟨f, tf, pv, n, rn, rfl, hf, hpl, hm, hne, hru, C⟩ := jE _ _ _ hJ
    clear hJ
    have hoR : ∀ p ∈ own, p.1 ≠ R := by
      intro p hp e
      rcases ho p hp with q | q
      · exact off _ (.head _) (by rw [← q, e])
      · obtain ⟨_, eo, _⟩ := hr; have := (N2 p (List.mem_append_left _ hp)).2.2; rw [q, eo] at this; cases this
    rw [upon_of hm] at F2
    obtain ⟨y, ty, rfl, hy⟩ := hrs.item i v hv
    have hil : i < rs.length := (List.getElem?_eq_some_iff.mp hy).1
    have hrl := len_wt rs
    have hyl : y.length ≤ 1000 := Nat.le_trans (mem_wt (List.mem_of_getElem? hy)) hrw
    clear F1 N1
    have N3 : News s.heap _ h ((R, { cls := .type "list", data := .seq (List.toArray pv) n }) :: (own ++ rn)) := fun p hp => N2 p (by
      simp only [List.mem_cons, List.mem_append] at hp ⊢
      rcases hp with q | q | q
      · exact .inr (.inl q)
      · exact .inl q
      · exact .inr (.inr q))
    have hne3 : ∀ p ∈ own ++ rn, p.1 ≠ R := by
      intro p hp
      rcases List.mem_append.mp hp with q | q
      · exact hoR p q
      · exact hne p q
    clear N2
    kwd_rel
    rename Fr _ _ _ _ => F4
    rename News _ _ _ _ => N4
    clear F2
    unfold Hold
    refine opq3 (RunW ts f y.length ((R, { cls := .type "list", data := .seq (List.toArray pv) n }) :: (own ++ rn)) (fun y_1 => if y_1 = Str.ofString "row" then some (Value.str y ty) else (fun z => upon [Str.ofString "row", Str.ofString "behind"] m₁ (fun y => if y = Str.ofString "first" then some (Value.int f tf) else if y = Str.ofString "runs" then some (Value.ref R) else [(Str.ofString "rows", Value.ref lr), (Str.ofString "things", Value.ref lt)].reverse.lookup y) z) y_1)) fun W wI wE => ?_
    refine opq2 (RunV ts f y.length ((R, { cls := .type "list", data := .seq (List.toArray pv) n }) :: (own ++ rn)) (fun y_1 => if y_1 = Str.ofString "row" then some (Value.str y ty) else (fun z => upon [Str.ofString "row", Str.ofString "behind"] m₁ (fun y => if y = Str.ofString "first" then some (Value.int f tf) else if y = Str.ofString "runs" then some (Value.ref R) else [(Str.ofString "rows", Value.ref lr), (Str.ofString "things", Value.ref lt)].reverse.lookup y) z) y_1)) fun V vI vE => ?_
    refine while_after F4 N4 W V (n₀ := ts.length + 1 - f) (wI _ _ _ ⟨rfl, f, hf, Nat.le_refl _, by omega, rfl, Over.base⟩) ?_ ?_
    · intro k m' nw' g5 tk5 F5 N5 hW
      obtain ⟨rfl, b, hb, hfb, hk, he, ⟨tb, rfl⟩⟩ := wE _ _ _ hW
      clear F4 N4 hW
      have hj : (Str.join (Str.ofString "") (pickS (some (f : Int)) (some (b : Int)) ts)).length = jl ts f b := by
        rw [len_join, pickS_nat ts f b (by omega) (by omega)]; rfl
      have st : StopN 2 := .mk 2
      kwd_rel
      rename StopN _ => st
      clear st
      unfold Hold
      refine lenL (Fr.lst (by k_asm) ht) hts.length (by kwd_less) ?_
      kwd_rel
      refine joinL (News.isList (by k_asm) (by k_mem)) (strs_pick hts _ _) (by decide) (by kwd_less) ?_
      intro _ _
      kwd_rel
      · rename Fr _ _ _ _ => F6
        rename News _ _ _ _ => N6
        obtain ⟨k', rfl⟩ : ∃ k', k = k' + 1 := ⟨k - 1, by omega⟩
        refine WhileStep.of F6 N6 (nw := (R, { cls := .type "list", data := .seq (List.toArray pv) n }) :: (own ++ rn)) (fun p hp => .tail _ hp) (Nat.lt_succ_self k') (wI _ _ _ ⟨rfl, b + 1, by omega, by omega, by omega, ?_, Over.step rfl⟩)
        rw [← he, runEnd_go ⟨by omega, by omega⟩]
      · rename Fr _ _ _ _ => F6
        rename News _ _ _ _ => N6
        refine After.intro F6 N6 (nw := (R, { cls := .type "list", data := .seq (List.toArray pv) n }) :: (own ++ rn)) (fun p hp => .tail _ hp) (vI _ _ ⟨rfl, b, hb, ?_, Over.base⟩)
        rw [← he, runEnd_stop (by omega)]
      · rename Fr _ _ _ _ => F6
        rename News _ _ _ _ => N6
        refine After.intro F6 N6 (nw := (R, { cls := .type "list", data := .seq (List.toArray pv) n }) :: (own ++ rn)) (fun p hp => hp) (vI _ _ ⟨rfl, b, hb, ?_, Over.base⟩)
        rw [← he, runEnd_stop (by omega)]
    · intro g6 tk6 m' nw' F6 N6 hV
      obtain ⟨rfl, b, hb, he, ⟨tb, rfl⟩⟩ := vE _ _ hV
      clear F4 N4 hV
      kwd_rel
      rename Fr _ _ _ _ => F7
      rename News _ _ _ _ => N7
      rename _ ∧ AllLt _ _ => l7
      rename_i D2 _ _ _
      have hlt7 := l7.1
      rw [List.push_toArray] at N7
      have hdrop : rs.drop i = y :: rs.drop (i + 1) := by rw [List.drop_eq_getElem_cons hil]; congr 1; exact (List.getElem?_eq_some_iff.mp hy).2
      have hb' : runEnd ts f y.length (ts.length + 1 - f) f = b := he.symm
      have hcons : runsF ts f (rs.drop i) = (f, b) :: runsF ts b (rs.drop (i + 1)) := by rw [hdrop]; simp only [runsF]; rw [hb']
      have htake : (runsF ts 0 rs).take (i + 1) = (runsF ts 0 rs).take i ++ [(f, b)] := by
        have l1 : ((runsF ts 0 rs).take i).length = i := by
          rw [List.length_take]; have := runsF_length ts 0 rs; omega
        have e : runsF ts 0 rs = (runsF ts 0 rs).take i ++ ((f, b) :: runsF ts b (rs.drop (i + 1))) := by rw [← hcons]; exact hru
        have e2 : ((runsF ts 0 rs).take i ++ ((f, b) :: runsF ts b (rs.drop (i + 1)))).take (i + 1) = (runsF ts 0 rs).take i ++ [(f, b)] := by
          rw [List.take_append, l1]
          rw [List.take_of_length_le (by omega)]
          congr 1
          have : i + 1 - i = 1 := by omega
          rw [this]; rfl
        rw [← e2, ← e]
      refine stepU_of F7 N7 ((R, { cls := .type "list", data := .seq (List.toArray (pv ++ [.ref D2])) (n + 1) }) :: (D2, { cls := .type "tuple", data := .seq #[.int f tf, .int b tb] }) :: rn) ?_ ?_ (jI _ _ _ ⟨b, tb, pv ++ [.ref D2], n + 1, (D2, { cls := .type "tuple", data := .seq #[.int f tf, .int b tb] }) :: rn, rfl, hb, by simp [hpl], ?_, ?_, ?_, ?_⟩)
      · intro p hp
        simp only [List.mem_append, List.mem_cons] at hp ⊢
        rcases hp with q | q | q | q
        · exact .inr (.inr (.inl q))
        · exact .inr (.inl q)
        · exact .inl q
        · exact .inr (.inr (.inr q))
      · intro p hp
        rcases List.mem_cons.mp hp with rfl | hp
        · have := off (R, { cls := .type "list", data := .seq pv.toArray n }) (.head _)
          exact this
        rcases List.mem_cons.mp hp with rfl | hp
        · exact Nat.ne_of_gt (allLt_mem l7.2 _ (List.mem_append_left _ mI))
        · exact off _ (.tail _ hp)
      · intro z hz
        simp only [ne_eq, List.mem_cons, List.not_mem_nil, or_false, forall_eq_or_imp, forall_eq] at hz
        have hz2 := hm z (by simp [hz])
        simp only [hz, if_false, upon_off (xs := [Str.ofString "row", Str.ofString "behind"]) (z := z) (by simp [hz])]
        by_cases q : z = Str.ofString "first" <;> simp [q]
      · intro p hp
        rcases List.mem_cons.mp hp with rfl | hp
        · exact Nat.ne_of_gt hlt7
        · exact hne p hp
      · rw [htake, List.append_assoc]
        rw [← List.singleton_append] at hcons
        rw [← hcons]
        exact hru
      · rw [htake]
        intro g kg
        refine PairsAt.append (C g fun p hp => kg p (.tail _ hp)) (.cons (kg _ (.head _)) ⟨tf, tb, 0, rfl⟩ .nil)
  · intro m₁ nw h tk hJ F2 N2
    obtain ⟨f, tf, pv, n, rn, rfl, hf, hpl, hm, hne, hru, C⟩ := jE _ _ _ hJ
    clear hJ
    rw [upon_of hm] at F2
    clear F1 N1
    kwd_rel
    have hn2 : rv.length = rs.length := hrs.length
    rw [hn2] at C
    rw [List.take_of_length_le (by rw [runsF_length]; exact Nat.le_refl _)] at C
    exact hQ _ _ R n pv rn (fun b o e => F2.keep b o e) (Fresh.of_news N2) C
end XE8
theorem canon_list_ga : Manifest.canonical "list.__getattribute__" = "object.__getattribute__" := bne_eq_false_iff_eq.mp PySem.canon_list_getattribute
theorem accInst {h₀ h : Heap} {L x C dx : Addr} {news : List (Addr × Obj)} {od : Obj} {its : Array Value} {n : Nat} (N : News h₀ L h news) (h1 : (x, ({ cls := .ref C, dict := some dx, data := .seq its n } : Obj)) ∈ news) (h2 : (dx, od) ∈ news) :
    PySem.W.InstAt h x { cls := .ref C, dict := some dx, data := .seq its n } C (some od) := ⟨(N _ h1).1, rfl, rfl, (N _ h2).1⟩
section
variable {prog : Program} {w : World} {A : Around} {E : Value → Shared → Prop} {s : Shared} {K : Frag} {x C : Addr} {ox : Obj} {od : Option Obj} {name : Str} {pl : Sem Bool} {Q : Value × List Value → Shared → Prop}
theorem specAt {nm : Str} {r : Option Value} {Q : Option Value → Shared → Prop} (X : K.In s.heap) (I : PySem.W.InstAt s.heap x ox C od) (e : findIn K (.ref C) nm = some r) (q : Q r s) :
    wpAny (model prog w) A (specialOf (.ref x) nm) Q E s :=
  wpAny_bind (I.type.here ((looks_findIn X e).here q))
theorem noShadow {Q : Option Value → Shared → Prop} {a : Addr} (I : PySem.W.InstAt s.heap x ox C od) (hs : shadowIn od name = some false) (e : ox.dict = some a) (q : Q none s) : wpAny (model prog w) A (nsGet a name) Q E s := by
  have H := I.dict
  rw [e] at H
  cases od with
  | none => cases H
  | some o =>
    unfold shadowIn at hs; dsimp only at hs
    cases l : lookIn name o with
    | none => rw [l] at hs; cases hs
    | some r =>
      rw [l] at hs
      cases r with
      | some => cases hs
      | none => exact wpAny_bind (wpAny_loadPart H (by rw [nsLook_of l]; exact wpAny_pure q))
theorem metL {v : Value} {t : String} (X : K.In s.heap) (I : PySem.W.InstAt s.heap x ox C od) (hga : findIn K (.ref C) "__getattribute__" = some (some (.builtin "list.__getattribute__"))) (hk : findIn K (.ref C) "__getattr__" = some none)
    (hf : findIn K (.ref C) name = some (some v)) (ht : Looks (model prog w) s.heap (typeOf v) (.type t)) (hu : (Value.type t != .type "function" && Value.type t != .type "method_descriptor" && Value.type t != .type "wrapper_descriptor") = false) (hs : shadowIn od name = some false)
    (h : Q (v, [.ref x]) s) : wpAny (model prog w) A (getMethod (.ref x) name pl) Q E s := by
  unfold getMethod
  refine wpAny_bind (specAt X I hga ?_)
  refine wpAny_ite_false (by rw [canon_list_ga]; rfl) (wpAny_bind (specAt X I hk ?_))
  refine wpAny_bind (specAt X I hf (wpAny_bind (ht.here ?_)))
  refine wpAny_ite_false (by rw [hu]; rfl) (wpAny_bind (wpAny_loadPart I.at_ ?_))
  split
  · rename_i a e
    exact wpAny_bind (noShadow I hs e (wpAny_bind (wpAny_rule (wpAny_pure h))))
  · exact wpAny_bind (wpAny_rule (wpAny_pure h))
end
theorem accIs {K : Frag} {M : Model} {h : Heap} {x C : Addr} {ox : Obj} {od : Option Obj} (X : K.In h) (I : PySem.W.InstAt h x ox C od) (hsub : subIn K (.ref C) (.type "list") = some true) : Looks M h (isInstance (.ref x) (.type "list")) true :=
  I.type.andThen (looks_subIn X hsub)
theorem check_meth {M : Model} {A : Around} {E : Value → Shared → Prop} {s : Shared} {i owner n : String} {self : Value} {rest : List Value} {Q : Unit → Shared → Prop}
    (ki : builtinKind i = some .method ∧ splitId i = some (owner, n)) (isA : Looks M s.heap (isInstance self (.type owner)) true) (ok : argsOk i ⟨self :: rest, []⟩) (q : Q () s) : wpAny M A (checkBuiltinCall i ⟨self :: rest, []⟩) Q E s := by
  unfold checkBuiltinCall
  rw [ki.1, ki.2]
  refine wpAny_bind (isA.here (wpAny_ite_false rfl ?_))
  revert ok
  unfold argsOk
  generalize Manifest.signature? i = g
  cases g with
  | none => exact fun _ => wpAny_pure q
  | some _ => exact fun ok => wpAny_of_eq ok q
theorem lm_append : builtinKind "list.append" = some .method ∧ splitId "list.append" = some ("list", "append") := ⟨by first | kernel_rfl | rfl, by first | kernel_rfl | rfl⟩
theorem lm_iter : builtinKind "list.__iter__" = some .slot ∧ splitId "list.__iter__" = some ("list", "__iter__") := ⟨by first | kernel_rfl | rfl, by first | kernel_rfl | rfl⟩
theorem lm_getitem : builtinKind "list.__getitem__" = some .method ∧ splitId "list.__getitem__" = some ("list", "__getitem__") := ⟨by first | kernel_rfl | rfl, by first | kernel_rfl | rfl⟩
theorem lm_setitem : builtinKind "list.__setitem__" = some .slot ∧ splitId "list.__setitem__" = some ("list", "__setitem__") := ⟨by first | kernel_rfl | rfl, by first | kernel_rfl | rfl⟩
theorem lm_len : builtinKind "list.__len__" = some .slot ∧ splitId "list.__len__" = some ("list", "__len__") := ⟨by first | kernel_rfl | rfl, by first | kernel_rfl | rfl⟩
theorem lm_pop : builtinKind "list.pop" = some .method ∧ splitId "list.pop" = some ("list", "pop") := ⟨by first | kernel_rfl | rfl, by first | kernel_rfl | rfl⟩
theorem lm_init : builtinKind "list.__init__" = some .slot ∧ splitId "list.__init__" = some ("list", "__init__") := ⟨by first | kernel_rfl | rfl, by first | kernel_rfl | rfl⟩
section
variable {prog : Program} {w : World} {A : Around} {E : Value → Shared → Prop} {s : Shared} {K : Frag} {x C : Addr} {od : Option Obj} {dx : Option Addr} {its : List Value} {n : Nat}
theorem acc_append {v : Value} {Q : Value → Shared → Prop} (X : K.In s.heap) (I : PySem.W.InstAt s.heap x { cls := .ref C, dict := dx, data := .seq its.toArray n } C od) (hsub : subIn K (.ref C) (.type "list") = some true) (hz : its.length ≤ 100000)
    (h : ∀ h', Heap.SameBut x s.heap h' → h'.get? x = some { cls := .ref C, dict := dx, data := .seq (its ++ [v]).toArray (n + 1) } → Q .none { s with heap := h' }) :
    wpAny (model prog w) A (call (.builtin "list.append") [.ref x, v]) Q E s := by
  refine wpAny_call (codeAny_call_builtin slot_list_append.plain entry_list_append (check_meth lm_append (accIs X I hsub) (args_list_append _ _) ?_))
  show wpAny _ _ (updateSeq x (·.push v) >>= fun _ => ret .none) _ _ s
  refine wpAny_bind ?_
  have ho := I.at_
  have e : Obj.mapSeq (·.push v) ({ cls := .ref C, dict := dx, data := .seq its.toArray n } : Obj) = { cls := .ref C, dict := dx, data := .seq (its ++ [v]).toArray (n + 1) } := by
    simp [Obj.mapSeq]
  refine wpAny_updateSeq (hz := by rw [List.size_toArray, sizeLine_eq]; omega) ho rfl (wpAny_pure (h _ (Heap.SameBut.update ..) ?_))
  rw [Heap.get?_update_self _ ho (by rw [e]; rfl), e]
end
theorem lm_ga : builtinKind "list.__getattribute__" = some .slot ∧ splitId "list.__getattribute__" = some ("list", "__getattribute__") := ⟨by first | kernel_rfl | rfl, by first | kernel_rfl | rfl⟩
theorem plain_list_ga : plainId "list.__getattribute__" = true := by decide +kernel
section
variable {prog : Program} {w : World} {A : Around} {E : Value → Shared → Prop} {s : Shared} {K : Frag} {x C : Addr} {ox : Obj} {od : Option Obj} {name : Str}
theorem getA0 {v : Value} {expr : Bool} {Q : Value → Shared → Prop} (X : K.In s.heap) (I : PySem.W.InstAt s.heap x ox C od) (hga : findIn K (.ref C) "__getattribute__" = some (some (.builtin "list.__getattribute__"))) (hk : findIn K (.ref C) "__getattr__" = some none)
    (hsub : subIn K (.ref C) (.type "list") = some true) (hf : findObj K C od name = some (.value v)) (hh : handedIn v = true) (h : Q v { s with toks := s.toks + 1 }) : wpAny (model prog w) A (getAttr (.ref x) name expr) Q E s := by
  obtain ⟨hh', g, d, t, os⟩ := s
  have L0 := I.type (M := model prog w)
  have L1 := looks_find (M := model prog w) X I hf
  have LG := looks_findIn (M := model prog w) X hga
  have LK := looks_findIn (M := model prog w) X hk
  unfold getAttr getAttrBy
  refine wpAny_bind (wpAny_mkText (wpAny_holding (wpAny_bind (L0.at (wpAny_bind (LG.at ?_))))))
  show wpAny _ _ (getAttrByItsOwn _ _ _ _ _ _) _ _ _
  unfold getAttrByItsOwn hookBefore
  rw [if_pos (show onTheHeap (.ref C) = true from rfl)]
  refine wpAny_bind (LK.at ?_)
  refine wpAny_bind (wpAny_attempt (wpAny_holding ?_))
  unfold callGetattribute
  rw [if_neg (by cases expr <;> simp [onTheHeap])]
  unfold boundAndCalled
  refine wpAny_bind (wpAny_of_eq (PySem.F.slot_list_getattribute.bind (.ref x)) ?_)
  show wpAny _ _ (call (.builtin "list.__getattribute__") [.ref x, .str name t]) _ _ _
  refine wpAny_call (codeAny_call_builtin plain_list_ga PySem.F.entry_list_ga ?_)
  have hin := accIs (M := model prog w) X I hsub
  have ha := PySem.F.args_list_getattribute_2 (.ref x) (.str name t)
  refine @check_slot (model prog w) A.in1 _ ⟨hh', g, d, t + 1, os⟩ "list.__getattribute__" "list" "__getattribute__" (.ref x) [.str name t] [] _ lm_ga.1 lm_ga.2 hin ha ?_
  refine wpAny_bind (wpAny_pure (wpAny_bind (wpAny_pure (wpAny_bind (L0.at (wpAny_bind (L1.at ?_)))))))
  refine wpAny_pure ?_
  show wpAny _ _ (handedOut v) _ _ _
  rw [handedOut_of hh]; exact wpAny_pure h
end
section
variable {prog : Program} {w : World} {A : Around} {E : Value → Shared → Prop} {s : Shared} {K : Frag} {x C dx L : Addr} {h₀ : Heap} {m : Str → Option Value} {news news' : List (Addr × Obj)} {its : Array Value} {es : List DictEntry} {n k : Nat} {name : Str} {pl : Sem Bool}
theorem shadow_of {es : List DictEntry} {k : Nat} {name : Str} (hl : getL name es = some none) : shadowIn (some (dictOf es k)) name = some false := by
  show (lookIn name (dictOf es k)).map _ = _; rw [lookIn_dict, hl]; rfl
theorem methF_L {f : Addr} {Q : Value × List Value → Shared → Prop} (F : Fr h₀ L s.heap m) (X₀ : K.In h₀) (N : News h₀ L s.heap news) (h1 : (x, ({ cls := .ref C, dict := some dx, data := .seq its n } : Obj)) ∈ news) (h2 : (dx, dictOf es k) ∈ news)
    (hga : findIn K (.ref C) "__getattribute__" = some (some (.builtin "list.__getattribute__"))) (hk : findIn K (.ref C) "__getattr__" = some none) (hf : findIn K (.ref C) name = some (some (.ref f))) (ht : isFn K (.ref f) = true) (hl : getL name es = some none)
    (h : Q (.ref f, [.ref x]) s) : wpAny (model prog w) A (getMethod (.ref x) name pl) Q E s :=
  metL (X₀.keeps F.keep) (accInst N h1 h2) hga hk hf (looks_typeIn (X₀.keeps F.keep) (beq_iff_eq.mp ht)) (by decide) (shadow_of hl) h
theorem methB_L {i : String} {Q : Value × List Value → Shared → Prop} (F : Fr h₀ L s.heap m) (X₀ : K.In h₀) (N : News h₀ L s.heap news) (h1 : (x, ({ cls := .ref C, dict := some dx, data := .seq its n } : Obj)) ∈ news) (h2 : (dx, dictOf es k) ∈ news)
    (hga : findIn K (.ref C) "__getattribute__" = some (some (.builtin "list.__getattribute__"))) (hk : findIn K (.ref C) "__getattr__" = some none) (hf : findIn K (.ref C) name = some (some (.builtin i))) (ht : typeOf (.builtin i) = pure (.type "method_descriptor")) (hl : getL name es = some none)
    (h : Q (.builtin i, [.ref x]) s) : wpAny (model prog w) A (getMethod (.ref x) name pl) Q E s :=
  metL (X₀.keeps F.keep) (accInst N h1 h2) hga hk hf (.of_pure ht) (by decide) (shadow_of hl) h
theorem getA_L {v : Value} {expr : Bool} {attr : Option Value} {Q : Value → Shared → Prop} (F : Fr h₀ L s.heap m) (X₀ : K.In h₀) (N : News h₀ L s.heap news) (h1 : (x, ({ cls := .ref C, dict := some dx, data := .seq its n } : Obj)) ∈ news) (h2 : (dx, dictOf es k) ∈ news)
    (hga : findIn K (.ref C) "__getattribute__" = some (some (.builtin "list.__getattribute__"))) (hk : findIn K (.ref C) "__getattr__" = some none) (hsub : subIn K (.ref C) (.type "list") = some true) (hh : hasDictIn K C = true) (ha : findIn K (.ref C) name = some attr) (hn : noGet K attr = true) (hl : getL name es = some (some v)) (hv : handedIn v = true)
    (h : Q v { s with toks := s.toks + 1 }) : wpAny (model prog w) A (getAttr (.ref x) name expr) Q E s :=
  getA0 (X₀.keeps F.keep) (accInst N h1 h2) hga hk hsub (findObj_own hh ha hn hl) hv h
theorem append_L {v : Value} {its : List Value} {Q : Value → Shared → Prop} (F : Fr h₀ L s.heap m) (X₀ : K.In h₀) (N : News h₀ L s.heap news)
    (U : Upd x { cls := .ref C, dict := some dx, data := .seq its.toArray n } { cls := .ref C, dict := some dx, data := .seq (its ++ [v]).toArray (n + 1) } news news') (h2 : (dx, dictOf es k) ∈ news) (hsub : subIn K (.ref C) (.type "list") = some true) (hz : its.length ≤ 100000)
    (h : ∀ h', Fr h₀ L h' m → News h₀ L h' news' → Q .none { s with heap := h' }) : wpAny (model prog w) A (call (.builtin "list.append") [.ref x, v]) Q E s := by
  obtain ⟨pre, post, rfl, rfl, a, b⟩ := U.split
  have mx : (x, ({ cls := .ref C, dict := some dx, data := .seq its.toArray n } : Obj)) ∈ pre ++ (x, ({ cls := .ref C, dict := some dx, data := .seq its.toArray n } : Obj)) :: post := List.mem_append_right _ (.head _)
  have z := N _ mx
  refine acc_append (X₀.keeps F.keep) (accInst N mx h2) hsub hz fun h' hs ho => h h' (F.change hs z.2.1 z.2.2) (news_set N a b hs ho)
end
section Si2
local macro_rules | `(tactic| walk_at "getMethod ref") => `(tactic| (k_here; k_dflt (first
  | refine' methF_L ?_ ?_ ?_ ?_ ?_ ?_ ?_ ?_ ?_ ?_ ?_; rotate_right 11; k_asm; k_asm; k_asm; k_mem; k_mem; k_is; k_is; k_is; k_is; k_get; k_whole
  | refine' methB_L ?_ ?_ ?_ ?_ ?_ ?_ ?_ ?_ PySem.F.type_list_append ?_ ?_; rotate_right 10; k_asm; k_asm; k_asm; k_mem; k_mem; k_is; k_is; k_is; k_get; k_whole)))
local macro_rules | `(tactic| walk_at "getAttr ref") => `(tactic| (k_here; k_dflt (refine' getA_L ?_ ?_ ?_ ?_ ?_ ?_ ?_ ?_ ?_ ?_ ?_ ?_ ?_ ?_; rotate_right 14; k_asm; k_asm; k_asm; k_mem; k_mem; k_is; k_is; k_is; k_is; k_is; k_is; k_get; k_handed; k_whole)))
local macro_rules | `(tactic| walk_at "call builtin:list.append") => `(tactic| (k_here; (with_reducible show wpAny _ _ (call (.builtin "list.append") [.ref _, _]) _ _ _); k_dflt (refine' append_L ?_ ?_ ?_ ?_ ?_ ?_ ?_ ?_; rotate_right 8; k_asm; k_asm; k_asm; k_upd; k_mem; k_is; kwd_less; k_whole); intro _ _ _; (try k_sweep)))
local macro_rules | `(tactic| k_inst) => `(tactic| (refine' accInst ?_ ?_ ?_; rotate_right 3; k_asm; k_mem; k_mem))
section XG1
local macro_rules | `(tactic| walk_at "pad") => `(tactic| skip)
noncomputable abbrev accObj (d : Addr) (its : List Value) (n : Nat) : Obj := { cls := .ref 178, dict := some d, data := .seq its.toArray n }
noncomputable abbrev accDict (w : World) (t : Tok) (k : Value) : Obj := dictOf [⟨PyData.keyHash w.params (Str.ofString "_initial_size"), .str (Str.ofString "_initial_size") t, k⟩] 1
set_option maxHeartbeats 4000000 in
theorem push_spec {w : World} {A : Around} {s : Shared} {mg mb : Str → Option Value} {h₀ : Heap} {L : Addr} {m : Str → Option Value} {news : List (Addr × Obj)} {a d : Addr} {its : List Value} {n : Nat} {t : Tok} {k : Value} {fs ps : Str} {tf tp : Tok} {R : Result → Shared → Prop}
   (F : Fr h₀ L s.heap m) (X : (fr.heap_1 w.params).In h₀) (N : News h₀ L s.heap ((a, accObj d its n) :: (d, accDict w t k) :: news)) (T : TT mg mb h₀) (hdp : A.depth < 900) (ha : ∀ p ∈ news, p.1 ≠ a) (had : @Ne Nat d a) (hz : its.length ≤ 100000)
   (hQ : ∀ h' tk T n', Fr h₀ L h' m → News h₀ L h' ((T, { cls := .type "tuple", data := .seq #[.str fs tf, .str ps tp] }) :: (a, accObj d (its ++ [.ref T]) n') :: (d, accDict w t k) :: news) → @LT.lt Nat _ a T → @LT.lt Nat _ d T → (∀ p ∈ news, p.1 < T) → R (.ok (.ret .none)) { s with heap := h', toks := tk }) :
   codeAny (model (Challenge.rw_rs0167_01.row.prog) w) A (.call (.ref 122) ⟨[.ref a, .str fs tf, .str ps tp], []⟩) R s := by
  revert X; k_fill; intro X
  refine' codeL (binds := [(Str.ofString "self", .ref a), (Str.ofString "fws", .str fs tf), (Str.ofString "string", .str ps tp)]) F X N T ?ho ?hcd ?hroom ?hb ?hl ?_ ?c1 ?c2 ?c3 ?c4
  kwd_inv
  intro g L' h₁ F₁ N₁ X₁ T₁ lt₁ st₁
  try dsimp only
  try k_fold
  kwd_rel
  rename a < _ ∧ d < _ ∧ AllLt _ news => l9
  exact hQ _ _ _ _ (by assumption) (by assumption) l9.1 l9.2.1 (allLt_mem l9.2.2)
end XG1
theorem wd_slot_get : Slot "wrapper_descriptor" "__get__" "wrapper_descriptor.__get__" :=
  .of (owner := "wrapper_descriptor") (n := "__get__") (by rw [typeLookup_type, builtinLookup_eq_fast]; kernel_rfl) (by decide +kernel) (by decide +kernel) (by decide +kernel)
    (by first | exact .inl (by decide +kernel) | exact .inr (by decide +kernel)) (by rw [isSubtype_type]; kernel_rfl)
theorem wd_entry_get : entryFor table "wrapper_descriptor.__get__" = some Builtin.«wrapper_descriptor.__get__» := entryFor_of_tree (by kernel_rfl)
theorem wd_args_get (a b c : Value) : argsOk "wrapper_descriptor.__get__" ⟨[a, b, c], []⟩ := by unfold argsOk; kernel_rfl
theorem own_pop : (".".intercalate ("list.pop".cutAt '.').dropLast) = "list" := by
  have e0 : "list.pop".cutAt '.' = ["list", "pop"] := by first | rfl | decide +kernel
  rw [e0]; decide +kernel
theorem own_len : (".".intercalate ("list.__len__".cutAt '.').dropLast) = "list" := by
  have e0 : "list.__len__".cutAt '.' = ["list", "__len__"] := by first | rfl | decide +kernel
  rw [e0]; decide +kernel
theorem own_init : (".".intercalate ("list.__init__".cutAt '.').dropLast) = "list" := by
  have e0 : "list.__init__".cutAt '.' = ["list", "__init__"] := by first | rfl | decide +kernel
  rw [e0]; decide +kernel
theorem told_pop : Manifest.toldItsClass.contains "list.pop" = false := by decide +kernel
theorem ty_len : typeOf (.builtin "list.__len__") = pure (.type "wrapper_descriptor") := by show builtinType _ = _; rw [builtinType_eq_fast]; kernel_rfl
theorem ty_init : typeOf (.builtin "list.__init__") = pure (.type "wrapper_descriptor") := by show builtinType _ = _; rw [builtinType_eq_fast]; kernel_rfl

section
variable {prog : Program} {w : World} {A : Around} {E : Value → Shared → Prop} {h : Heap} {g : Array GenState} {d : Drawn} {t : Nat} {os : OsState} {x C : Addr} {o : Obj}

theorem pop_get {R : Result → Shared → Prop} (hi : Looks (model prog w) h (isInstance (.ref x) (.type "list")) true)
    (hq : R (.ok (.ret (.ref h.objs.size))) ⟨h.push { cls := .type "builtin_function_or_method", data := .fields #[.builtin "list.pop", .ref x] }, g, d, t, os⟩) :
    codeAny (model prog w) A (.call (.builtin "method_descriptor.__get__") ⟨[.builtin "list.pop", .ref x, .ref C], []⟩) R ⟨h, g, d, t, os⟩ := by
  have hT5 : (⟨h, g, d, t, os⟩ : Shared).TypeIs (.builtin "list.pop") "method_descriptor" := PySem.F.type_list_pop
  have f9 := told_pop
  have hi' : Looks (model prog w) h (isInstance (.ref x) (.type (".".intercalate ("list.pop".cutAt '.').dropLast))) true := by rw [own_pop]; exact hi
  refine codeAny_call_builtin md_slot_get.plain md_entry_get (md_slot_get.check _ _ _ _ _ _ _ _ hT5 (md_args_get _ _ _) ?_)
  unfold Builtin.«method_descriptor.__get__»
  ((with_reducible refine wpAny_bind ?_); wp_delta; ((with_reducible apply wpAny_ite_false); focus (rfl; done)); (with_reducible refine wpAny_bind ?_); (with_reducible refine wpAny_pure ?_); ((with_reducible apply wpAny_ite_false); focus (rfl; done)); (with_reducible refine wpAny_pure ?_); wp_delta; ((with_reducible apply wpAny_ite_false); focus (rfl; done)); wp_delta; wp_delta; (with_reducible refine wpAny_bind ?_); wp_delta; (with_reducible refine wpAny_bind ?_); wp_delta; (with_reducible refine wpAny_pure ?_); (with_reducible refine wpAny_bind ?_))
  refine hi'.at ?_
  (((with_reducible apply wpAny_ite_false); focus (rfl; done)); (with_reducible refine wpAny_pure ?_))
  refine wpAny_bind ?_
  show wpAny _ _ (newObj _ _) _ _ _
  exact wpAny_newObj_type (wpAny_pure hq)
theorem len_get {R : Result → Shared → Prop} (hi : Looks (model prog w) h (isInstance (.ref x) (.type "list")) true)
    (hq : R (.ok (.ret (.ref h.objs.size))) ⟨h.push { cls := .type "method-wrapper", data := .fields #[.builtin "list.__len__", .ref x] }, g, d, t, os⟩) :
    codeAny (model prog w) A (.call (.builtin "wrapper_descriptor.__get__") ⟨[.builtin "list.__len__", .ref x, .ref C], []⟩) R ⟨h, g, d, t, os⟩ := by
  have hT5 : (⟨h, g, d, t, os⟩ : Shared).TypeIs (.builtin "list.__len__") "wrapper_descriptor" := ty_len
  have hi' : Looks (model prog w) h (isInstance (.ref x) (.type (".".intercalate ("list.__len__".cutAt '.').dropLast))) true := by rw [own_len]; exact hi
  refine codeAny_call_builtin wd_slot_get.plain wd_entry_get (wd_slot_get.check _ _ _ _ _ _ _ _ hT5 (wd_args_get _ _ _) ?_)
  unfold Builtin.«wrapper_descriptor.__get__»
  ((with_reducible refine wpAny_bind ?_); wp_delta; ((with_reducible apply wpAny_ite_false); focus (rfl; done)); (with_reducible refine wpAny_bind ?_); (with_reducible refine wpAny_pure ?_); ((with_reducible apply wpAny_ite_false); focus (rfl; done)); (with_reducible refine wpAny_pure ?_); wp_delta; wp_delta; (with_reducible refine wpAny_bind ?_); wp_delta; (with_reducible refine wpAny_bind ?_); wp_delta; (with_reducible refine wpAny_pure ?_); (with_reducible refine wpAny_bind ?_))
  refine hi'.at ?_
  (((with_reducible apply wpAny_ite_false); focus (rfl; done)); (with_reducible refine wpAny_pure ?_))
  refine wpAny_bind ?_
  show wpAny _ _ (newObj _ _) _ _ _
  exact wpAny_newObj_type (wpAny_pure hq)
theorem init_get {R : Result → Shared → Prop} (hi : Looks (model prog w) h (isInstance (.ref x) (.type "list")) true)
    (hq : R (.ok (.ret (.ref h.objs.size))) ⟨h.push { cls := .type "method-wrapper", data := .fields #[.builtin "list.__init__", .ref x] }, g, d, t, os⟩) :
    codeAny (model prog w) A (.call (.builtin "wrapper_descriptor.__get__") ⟨[.builtin "list.__init__", .ref x, .ref C], []⟩) R ⟨h, g, d, t, os⟩ := by
  have hT5 : (⟨h, g, d, t, os⟩ : Shared).TypeIs (.builtin "list.__init__") "wrapper_descriptor" := ty_init
  have hi' : Looks (model prog w) h (isInstance (.ref x) (.type (".".intercalate ("list.__init__".cutAt '.').dropLast))) true := by rw [own_init]; exact hi
  refine codeAny_call_builtin wd_slot_get.plain wd_entry_get (wd_slot_get.check _ _ _ _ _ _ _ _ hT5 (wd_args_get _ _ _) ?_)
  unfold Builtin.«wrapper_descriptor.__get__»
  ((with_reducible refine wpAny_bind ?_); wp_delta; ((with_reducible apply wpAny_ite_false); focus (rfl; done)); (with_reducible refine wpAny_bind ?_); (with_reducible refine wpAny_pure ?_); ((with_reducible apply wpAny_ite_false); focus (rfl; done)); (with_reducible refine wpAny_pure ?_); wp_delta; wp_delta; (with_reducible refine wpAny_bind ?_); wp_delta; (with_reducible refine wpAny_bind ?_); wp_delta; (with_reducible refine wpAny_pure ?_); (with_reducible refine wpAny_bind ?_))
  refine hi'.at ?_
  (((with_reducible apply wpAny_ite_false); focus (rfl; done)); (with_reducible refine wpAny_pure ?_))
  refine wpAny_bind ?_
  show wpAny _ _ (newObj _ _) _ _ _
  exact wpAny_newObj_type (wpAny_pure hq)
structure Behind (prog : Program) (w : World) (K : Frag) (h : Heap) (so D x C : Addr) (name : Str) (i T getId : String) : Prop where
  obj : h.get? so = some (ks_superObj D x C)
  plain : Looks (model prog w) h (opaqueClassAbove (.ref C)) none
  met : ∃ l, Looks (model prog w) h (mroOf (.ref C)) l ∧ alongIn K name ((l.dropWhile (· != .ref D)).drop 1) = some (some (.builtin i))
  text : K.In h
  type : typeOf (.builtin i) = pure (.type T)
  slot : typeLookup (.type T) "__get__" = pure (some (.builtin getId))
  apart : (Value.ref x == Value.ref C) = false
  other : (name == ("__class__" : Str)) = false
theorem super_ga_B {K : Frag} {so D : Addr} {name : Str} {tk : Tok} {Q : Fin → Shared → Prop} {i T getId : String} {ob : Obj} (B : Behind prog w K h so D x C name i T getId)
    (get : ∀ (A' : Around) (R : Result → Shared → Prop), R (.ok (.ret (.ref h.objs.size))) ⟨h.push ob, g, d, t, os⟩ → codeAny (model prog w) A' (.call (.builtin getId) ⟨[.builtin i, .ref x, .ref C], []⟩) R ⟨h, g, d, t, os⟩)
    (q : Q (.done (.ret (.ref h.objs.size))) ⟨h.push ob, g, d, t, os⟩) : wpAny (model prog w) A (Builtin.«super.__getattribute__» ⟨[.ref so, .str name tk], []⟩) Q E ⟨h, g, d, t, os⟩ := by
  obtain ⟨l, line, found⟩ := B.met
  have f1 := B.apart
  have f2 := B.other
  have f3 := B.type
  have f4 := B.slot
  have part : ∀ (n : Nat) (v : Value), (#[.ref D, .ref x, .ref C] : Array Value)[n]? = some v → ∀ {A : Around} {E : Value → Shared → Prop} {Q : Value → Shared → Prop}, Q v ⟨h, g, d, t, os⟩ → wpAny (model prog w) A (field (.ref so) n) Q E ⟨h, g, d, t, os⟩ :=
    fun n v e _ _ _ q => wpAny_field B.obj rfl e q
  have p0 := @part 0 (.ref D) rfl
  have p1 := @part 1 (.ref x) rfl
  have p2 := @part 2 (.ref C) rfl
  unfold Builtin.«super.__getattribute__»
  have order : ∀ {A : Around} {E : Value → Shared → Prop} {Q : List Value → Shared → Prop}, Q l ⟨h, g, d, t, os⟩ → wpAny (model prog w) A (mroOf (.ref C)) Q E ⟨h, g, d, t, os⟩ := fun q => line.at q
  wp_walk using p0, p1, p2, ks_wpAny_notOpaque B.plain, order
  refine ks_forIn_along B.text (fun _ _ => rfl) rfl ?_ found
  simp only [f1]
  wp_walk
  refine get _ _ ?_
  wp_walk
  exact q
theorem super_meth_B {K : Frag} {so D : Addr} {name : Str} {pl : Sem Bool} {Q : Value × List Value → Shared → Prop} {i T getId : String} {ob : Obj} (B : Behind prog w K h so D x C name i T getId)
    (get : ∀ (t' : Nat) (A' : Around) (R : Result → Shared → Prop), R (.ok (.ret (.ref h.objs.size))) ⟨h.push ob, g, d, t', os⟩ → codeAny (model prog w) A' (.call (.builtin getId) ⟨[.builtin i, .ref x, .ref C], []⟩) R ⟨h, g, d, t', os⟩)
    (q : Q (.ref h.objs.size, []) ⟨h.push ob, g, d, t + 1, os⟩) : wpAny (model prog w) A (getMethod (.ref so) name pl) Q E ⟨h, g, d, t, os⟩ := by
  have ty : ∀ t', (⟨h, g, d, t', os⟩ : Shared).TypeIs (.ref so) "super" := fun _ => ⟨_, B.obj, rfl⟩
  refine wpAny_bind (wpAny_specialOf (ty _) PySem.F.ks_slot_super_ga.lookup (wpAny_ite_true (decide_eq_true PySem.F.ks_canon_super_ga) (wpAny_bind (getAttr_slot PySem.F.ks_slot_super_ga ty ?_))))
  exact wpAny_call_entry PySem.F.ks_slot_super_ga (ty _) PySem.F.ks_entry_super_ga (super_ga_B B (get _) ⟨_, rfl, wpAny_pure (wpAny_pure q)⟩) (PySem.F.ks_gaArgs_super _ _)
theorem call_wrapper {i : String} {b : Addr} {bf : Builtin} {Q : Value → Shared → Prop} (hb : h.get? b = some { cls := .type "method-wrapper", data := .fields #[.builtin i, .ref x] }) (hk : builtinKind i = some .slot)
    (ha : argsOk i ⟨[.ref x], []⟩) (hp : plainId i = true) (he : entryFor table i = some bf)
    (hq : wpAny (model prog w) A.in1 (bf ⟨[.ref x], []⟩) (fun fin s' => ∃ v, fin = .done (.ret v) ∧ Q v s') E ⟨h, g, d, t, os⟩) :
    wpAny (model prog w) A (call (.ref b) []) Q E ⟨h, g, d, t, os⟩ := by
  refine wpAny_call (codeAny_of_tree ?_)
  show wpAny _ _ (callAny (.ref b) _) _ _ _
  unfold callAny
  ((with_reducible refine wpAny_bind ?_); ((with_reducible apply wpAny_load'); focus (heap_get; done)); ((with_reducible apply wpAny_ite_true); focus (rfl; done)); wp_delta; ((with_reducible apply wpAny_ite_true); focus (rfl; done)); (with_reducible refine wpAny_bind ?_))
  have ha' : ∀ (Q' : Unit → Shared → Prop), Q' () ⟨h, g, d, t, os⟩ → wpAny (model prog w) (A.under (Code.call (Value.ref b) { pos := [], kw := [] })) (checkBoundCall i ⟨[.ref x], []⟩) Q' (fun e s' => match (Except.error e : Result) with | .ok (.ret v) => Q v s' | .ok _ => False | .error e => E e s') ⟨h, g, d, t, os⟩ := by
    intro Q' q
    unfold checkBoundCall
    cases hsig : Manifest.signature? i with
    | none => exact wpAny_pure q
    | some sig =>
      simp only [argsOk, hsig] at ha
      rw [hk]
      dsimp only
      refine wpAny_ite_true (decide_eq_true (by decide)) ?_
      have h2 : Bind.checkArgs i sig ⟨[.ref x], []⟩ = pure () := ha
      exact wpAny_of_eq h2 q
  refine ha' _ ?_
  refine wpAny_pure ⟨plainId_quiet hp _, codeAny_builtin he ?_⟩
  rw [Around.under_plainId hp _]
  refine wpAny_mono hq (fun fin s' h' => ?_) fun _ _ h' => h'
  obtain ⟨v, rfl, hv⟩ := h'; exact hv
theorem sig_pop : Manifest.signature? "list.pop" = some ⟨.positional, "list.pop", "pop", .self, [⟨"index", .posOnly, false⟩]⟩ := by
  rw [signature?_of (id := "list.pop") (n := ['p', 'o', 'p']) (o := ['t', 's', 'i', 'l']) (by kernel_rfl) PySem.F.owner_list]; kernel_rfl
theorem sig_pop_varargs : Manifest.varargsMethods.contains "list.pop" = false := by decide +kernel
theorem noCls {h : Heap} {x C : Addr} {o : Obj} {od : Option Obj} (I : PySem.W.InstAt h x o C od) (c : ClassData) : o.data ≠ .cls c := fun e => by simpa [notCls, e] using I.no
theorem call_pop0 {K : Frag} {b : Addr} {od : Option Obj} {cd : ClassData} {Q : Value → Shared → Prop} (X : K.In h) (I : PySem.W.InstAt h x o C od) (hb : h.get? b = some { cls := .type "builtin_function_or_method", data := .fields #[.builtin "list.pop", .ref x] })
    (hm : subIn K (.ref C) (.type "module") = some false) (hcd : clsIn K C = some cd) (hty : typeIn K (.ref C) = some (.type "type")) (hqn : cd.qualname = Str.ofString "_Accumulator")
    (hq : wpAny (model prog w) A.in1 (Builtin.«list.pop» ⟨[.ref x], []⟩) (fun fin s' => ∃ v, fin = .done (.ret v) ∧ Q v s') E ⟨h, g, d, t, os⟩) :
    wpAny (model prog w) A (call (.ref b) []) Q E ⟨h, g, d, t, os⟩ := by
  refine wpAny_call (codeAny_of_tree ?_)
  show wpAny _ _ (callAny (.ref b) _) _ _ _
  unfold callAny
  ((with_reducible refine wpAny_bind ?_); ((with_reducible apply wpAny_load'); focus (heap_get; done)); ((with_reducible apply wpAny_ite_true); focus (rfl; done)); wp_delta; ((with_reducible apply wpAny_ite_true); focus (rfl; done)); (with_reducible refine wpAny_bind ?_))
  have e1 : Bind.checkArgs "list.pop" ⟨.positional, toString (cd.qualname.toString) ++ toString "." ++ toString (Bind.lastOf "list.pop"), "pop", .self, [⟨"index", .posOnly, false⟩]⟩ ⟨[.ref x], []⟩ = pure () := by rw [hqn]; kernel_rfl
  have L0 := I.type (M := model prog w)
  have LM := looks_subIn (M := model prog w) X hm
  have LC := looks_clsIn (M := model prog w) X hcd
  have LT := looks_typeIn (M := model prog w) X hty
  have ho := I.at_
  have hv := sig_pop_varargs
  unfold checkBoundCall
  rw [sig_pop, lm_pop.1]
  dsimp only
  refine wpAny_ite_false (decide_eq_false (by decide)) ?_
  refine wpAny_bind (wpAny_bind (L0.at (LM.at ?_)))
  refine wpAny_ite_false (decide_eq_false (by rw [hv]; decide)) ?_
  refine wpAny_bind (ks_wpAny_isType_inst ho (noCls I) ?_)
  refine wpAny_ite_false (decide_eq_false (by decide)) ?_
  refine wpAny_bind (L0.at ?_)
  dsimp only
  refine wpAny_bind (LC.at (wpAny_bind (LT.at ?_)))
  refine wpAny_ite_true (decide_eq_true (by decide)) ?_
  refine wpAny_of_eq e1 ?_
  refine wpAny_pure ⟨plainId_quiet (by decide +kernel) _, codeAny_builtin PySem.F.entry_list_pop ?_⟩
  rw [Around.under_plainId (by decide +kernel) _]
  refine wpAny_mono hq (fun fin s' h' => ?_) fun _ _ h' => h'
  obtain ⟨v, rfl, hv⟩ := h'; exact hv
end
section
variable {prog : Program} {w : World} {A : Around} {E : Value → Shared → Prop} {s : Shared} {K : Frag} {p : Program} {loose : List Str} {mg mb : Str → Option Value}
  {name qual : Str} {params : Arguments} {body : List Stmt} {scope : Scope} {dV kV doc pm cdv ct oc : Value} {an od : Option Addr} {osl : Array (Option Value)} {f cc : Addr} {args : List Value} {binds : List (Str × Value)}
  {h₀ : Heap} {L : Addr} {m : Str → Option Value} {news : List (Addr × Obj)} {R : Result → Shared → Prop}
theorem codeS (F : Fr h₀ L s.heap m) (X₀ : K.In h₀) (N : News h₀ L s.heap news) (T : TopRead p loose mg mb h₀)
    (ho : K.lookup f = some ⟨oc, od, .func (ksFn name qual params body scope dV kV doc pm an cdv ct cc), osl⟩) (hcd : codeIn K cdv qual = true) (hroom : A.depth < recursionLimit)
    (hbind : BindsTo s (ksFn name qual params body scope dV kV doc pm an cdv ct cc) ⟨args, []⟩ binds) (hloc : ∀ y ∈ binds, scope.names.lookup y.1 = some .local)
    (h : ∀ g L' h₁, Fr g L' h₁ (fun y => binds.reverse.lookup y) → News g L' h₁ news → K.In g → TopRead p loose mg mb g → (∀ p ∈ news, p.1 < L') → (∀ b o, h₀.get? b = some o → g.get? b = some o) →
      _root_.PySem.wpAt (model prog w) (A.deeper (ksEnv qual scope L' f cdv cc)) (.func body (ksEnv qual scope L' f cdv cc)) (execs body (ksEnv qual scope L' f cdv cc))
        (fun fl s' => LeaveK h₀ L m g R (match fl with | .ret v => v | _ => .none) s') (fun _ _ => False)
        { s with heap := h₁, toks := s.toks + binds.length })
    (hcell : ∀ x ∈ scope.names, x.2 ≠ .cell) (hco : scope.isCoroutine = false) (hgen : scope.isGenerator = false) (hk : scope.kind = .function) : codeAny (model prog w) A (.call (.ref f) ⟨args, []⟩) R s := by
  obtain ⟨_, _, st, out⟩ := groundX (R := R) (below_caller h₀) F N (env := ksEnv qual scope L f cdv cc) (A := callerA.deeper (ksEnv qual scope L f cdv cc)) (Around.frames_deeper rfl) rfl hk
  have X := X₀.keeps F.keep
  refine ks_codeAny_call_defAt (fd := ksFn name qual params body scope dV kV doc pm an cdv ct cc) (body := body) hroom (X _ _ ho) rfl (T.nolimit.keeps F.keep) (codeRec_of X hcd) rfl hbind hcell hloc ?_ hco hgen hk
  intro h₁ frame up
  have inner : Fr (hideAll s.heap (news.map (·.1))) s.heap.objs.size h₁ (fun y => binds.reverse.lookup y) := ⟨frame, fun b o e => up b o (of_hideAll _ e), Nat.le_of_eq (hideAll_size _ _)⟩
  have hidden : News (hideAll s.heap (news.map (·.1))) s.heap.objs.size h₁ news := fun q hq => ⟨up _ _ (N q hq).1, Nat.ne_of_lt (Heap.lt_size (N q hq).1), hideAll_none _ (List.mem_map_of_mem hq)⟩
  exact ks_wpAt_mono (h _ _ h₁ inner hidden (X₀.keeps st) (T.keeps st) (fun q hq => Heap.lt_size (N q hq).1) st) (fun _ _ => out _ _) fun _ _ => False.elim
end
section
variable {prog : Program} {w : World} {A : Around} {E : Value → Shared → Prop} {s : Shared} {h₀ : Heap} {L : Addr} {m mg mb : Str → Option Value} {news : List (Addr × Obj)} {K : Frag} {p : Program} {loose : List Str} {x C D f cc cda : Addr} {ox : Obj} {odx : Option Obj}
theorem clsAt {h : Heap} {cd : ClassData} (X : K.In h) (e : clsIn K D = some cd) : ∃ o, h.get? D = some o ∧ o.data = .cls cd := by
  cases l : K.lookup D with
  | none => simp [clsIn, l] at e
  | some o =>
    refine ⟨o, X _ _ l, ?_⟩
    obtain ⟨_, _, data, _⟩ := o
    cases data <;> simp_all [clsIn]
noncomputable def firstIs (me : Str) : Data → Bool
  | .func fd => (fd.params.posonlyargs ++ fd.params.args).head?.any (·.arg == me)
  | _ => false
theorem firstIs_of {me : Str} {d : Data} (e : firstIs me d = true) : ∃ fd ar, d = .func fd ∧ (fd.params.posonlyargs ++ fd.params.args).head? = some ar ∧ ar.arg = me := by
  cases d with
  | func fd => obtain ⟨ar, a, b⟩ := any_some e; exact ⟨fd, ar, rfl, a, beq_iff_eq.mp b⟩
  | _ => cases e
noncomputable def fileOf (vs : Array Value) : Option Str := match (vs[2]? : Option Value) with
  | some (.str file _) => some file
  | _ => none
noncomputable def fileIs (main : Str) : Data → Bool
  | .fields vs => fileOf vs == some main
  | _ => false
theorem fileIs_of {main : Str} {d : Data} (e : fileIs main d = true) : ∃ vs tf, d = .fields vs ∧ vs[2]? = some (.str main tf) := by
  cases d with
  | fields vs =>
    have e : fileOf vs = some main := beq_iff_eq.mp e
    refine ⟨vs, ?_⟩
    unfold fileOf at e
    split at e
    · rename_i file tf h
      exact ⟨tf, rfl, Option.some.inj e ▸ h⟩
    · cases e
  | _ => cases e
noncomputable def cellIs (v : Value) : Data → Bool
  | .cell u => u == some v
  | _ => false
theorem cellIs_of {v : Value} {d : Data} (e : cellIs v d = true) : d = .cell (some v) := by
  cases d with
  | cell u => exact congrArg Data.cell (beq_iff_eq.mp e)
  | _ => cases e
noncomputable def superSite (prog : Program) (K : Frag) (f cda cc D C : Addr) (scope : Scope) (me : Str) : Bool :=
  (K.lookup f).any (fun o => firstIs me o.data) && (K.lookup cda).any (fun o => fileIs prog.main.file o.data) && (K.lookup cc).any (fun o => cellIs (.ref D) o.data) &&
  (clsIn K D).isSome && mroIn K C (.ref D) == some true && nsIn K mainGlobals "super" == some none &&
  scope.names.lookup ("super" : Str) == some .globalImplicit && scope.names.lookup ("__class__" : Str) == some .free && scope.names.lookup me == some .local && scope.kind == .function && !(prog.main.scope.names.lookup ("super" : Str)).isSome
theorem superN {body : List Stmt} {q : Str} {scope : Scope} {p0 p1 : Pos} {attr me : Str} {whole : Sem Value} {Q : Value → Shared → Prop} (F : Fr h₀ L s.heap m) (X₀ : K.In h₀) (N : News h₀ L s.heap news) (T : TopRead p loose mg mb h₀)
    (site : superSite prog K f cda cc D C scope me = true) (self : m me = some (.ref x)) (I : PySem.W.InstAt s.heap x ox C odx) (other : (attr == ("__class__" : Str)) = false)
    (h : ∀ so h', Fr h₀ L h' m → News h₀ L h' ((so, ks_superObj D x C) :: news) → (∀ p ∈ news, p.1 < so) → Q (.ref so) { s with heap := h' }) :
    _root_.PySem.wpAt (model prog w) A (.func body (ksEnv q scope L f (.ref cda) cc)) (attributeBase (.Call (.Name "super" p0) [] [] p1) attr (ksEnv q scope L f (.ref cda) cc) whole) Q E s := by
  have X := X₀.keeps F.keep
  have G := T.keeps F.keep
  simp only [superSite, Bool.and_eq_true, beq_iff_eq, Bool.not_eq_true'] at site
  obtain ⟨⟨⟨⟨⟨⟨⟨⟨⟨⟨s1, s2⟩, s3⟩, s4⟩, s5⟩, s6⟩, s7⟩, s8⟩, s9⟩, s10⟩, s11⟩ := site
  obtain ⟨⟨_, _, _, _⟩, l1, e1⟩ := any_some s1
  obtain ⟨⟨_, _, _, _⟩, l2, e2⟩ := any_some s2
  obtain ⟨⟨_, _, _, _⟩, l3, e3⟩ := any_some s3
  obtain ⟨fd, ar, rfl, first, rfl⟩ := firstIs_of e1
  obtain ⟨vs, tf, rfl, file⟩ := fileIs_of e2
  cases cellIs_of e3
  obtain ⟨cd, l4⟩ := Option.isSome_iff_exists.mp s4
  obtain ⟨oD, atD, isD⟩ := clsAt X l4
  have made : wpAny (model prog w) A (call (.type "super") [.ref D, .ref x]) Q E s :=
    ks_wpAny_call_super atD isD I.at_ I.cls (noCls I) (looks_mroIn X s5) fun h' e up => (ks_newsPush F N rfl e up).elim fun F' r => h _ h' F' r.1 r.2
  exact ks_wpAt_super_base s7 s8 other rfl (X _ _ l1) rfl first rfl (X _ _ l2) rfl file (beq_self_eq_true _) s11
    (ks_loadName_global s10 s7 (loadGlobal_builtin G.g (mg_none_of X₀ T.g s6) G.b ((T.builtins _ (by decide +kernel)).trans (show bootBuiltins "super" = some (.type "super") by decide +kernel))
      ⟨rfl, wpAny_loadName_free s10 s8 rfl ⟨_, X _ _ l3, rfl⟩ (wpAny_loadName_local s10 s9 F.ns self (ks_wpAny_isType_cls atD isD ⟨rfl, made⟩))⟩))
theorem superM_L {so : Addr} {name : Str} {pl : Sem Bool} {Q : Value × List Value → Shared → Prop} {i T getId bt : String} (F : Fr h₀ L s.heap m) (X₀ : K.In h₀) (N : News h₀ L s.heap news) (hso : (so, ks_superObj D x C) ∈ news) (I : PySem.W.InstAt s.heap x ox C odx) (ho : nsIn K cStatics "thirdparty.any" = some none)
    (hm : ks_superIn K C D name = some (some (.builtin i))) (hty : typeOf (.builtin i) = pure (.type T)) (hslot : typeLookup (.type T) "__get__" = pure (some (.builtin getId))) (hn : (name == ("__class__" : Str)) = false) (hsub : subIn K (.ref C) (.type "list") = some true)
    (hget : ∀ {h : Heap} {g : Array GenState} {d : Drawn} {t' : Nat} {os : OsState} {A' : Around} {R : Result → Shared → Prop}, Looks (model prog w) h (isInstance (.ref x) (.type "list")) true → R (.ok (.ret (.ref h.objs.size))) ⟨h.push { cls := .type bt, data := .fields #[.builtin i, .ref x] }, g, d, t', os⟩ → codeAny (model prog w) A' (.call (.builtin getId) ⟨[.builtin i, .ref x, .ref C], []⟩) R ⟨h, g, d, t', os⟩)
    (h : ∀ q h', Fr h₀ L h' m → News h₀ L h' ((q, { cls := .type bt, data := .fields #[.builtin i, .ref x] }) :: news) → (∀ p ∈ news, p.1 < q) → Q (.ref q, []) { s with heap := h', toks := s.toks + 1 }) : wpAny (model prog w) A (getMethod (.ref so) name pl) Q E s := by
  have X := X₀.keeps F.keep
  obtain ⟨cd, hc, found⟩ := Option.bind_eq_some_iff.mp hm
  have B : Behind prog w K s.heap so D x C name i T getId :=
    { obj := (N _ hso).1, plain := looks_opaque X ho, text := X, type := hty, slot := hslot, other := hn, apart := beq_false_of_ne fun e => ks_ne X I hc (Value.ref.inj e)
      met := ⟨cd.mro, (looks_clsIn X hc).andThen (.of_pure rfl), found⟩ }
  refine super_meth_B B (fun _ _ _ => hget (accIs X I hsub)) ?_
  obtain ⟨F', N', l⟩ := ks_newsPush (o := { cls := .type bt, data := .fields #[.builtin i, .ref x] }) F N rfl (Heap.get?_push_at rfl rfl) fun _ _ => Heap.get?_push_of_some _
  exact h _ _ F' N' l
end
theorem callWith_bound0 {prog : Program} {w : World} {A : Around} {E : Value → Shared → Prop} {s : Shared} {pos pos' : Pos} {env : Env} {q : Addr} {bt : String} {fs : Array Value} {Q : Value → Shared → Prop} (hbt : bt = "method-wrapper" ∨ bt = "builtin_function_or_method")
    (hb : s.heap.get? q = some { cls := .type bt, data := .fields fs }) (h : wpAny (model prog w) A (call (.ref q) []) Q E s) : wpAny (model prog w) A (callWith pos (.ref q) [] (backTo pos' (starEach [] env)) []) Q E s := by
  unfold callWith
  refine wpAny_bind (wpAny_holding ?_)
  show wpAny _ _ (evalArgs (.ref q) true [] []) _ _ _
  refine wpAny_of_eq (a := ⟨[], []⟩) (by rfl) ?_
  refine wpAny_bind (wpAny_standAt ?_)
  refine wpAny_bind ?_
  unfold keeperOf
  refine wpAny_bind (wpAny_load hb ?_)
  dsimp only
  rcases hbt with rfl | rfl
  all_goals
    rw [if_pos (by decide)]
    refine wpAny_pure ?_
    rw [if_pos (by decide)]
    show wpAny _ _ (call (.ref q) [] >>= fun r => holding [r] point >>= fun _ => pure r) _ _ _
    refine wpAny_bind (wpAny_mono h (fun r s' hr => ?_) fun _ _ z => z)
    exact wpAny_bind (wpAny_holding (wpAny_point (wpAny_pure hr)))
set_option maxHeartbeats 4000000 in
theorem count_spec {w : World} {A : Around} {s : Shared} {mg mb : Str → Option Value} {h₀ : Heap} {L : Addr} {m : Str → Option Value} {news : List (Addr × Obj)} {a d : Addr} {its : List Value} {n : Nat} {t : Tok} {k : Value} {R : Result → Shared → Prop}
   (F : Fr h₀ L s.heap m) (X : (fr.heap_1 w.params).In h₀) (N : News h₀ L s.heap ((a, accObj d its n) :: (d, accDict w t k) :: news)) (T : TT mg mb h₀) (hdp : A.depth < 900)
   (hQ : ∀ h' tk t', Fr h₀ L h' m → News h₀ L h' ((a, accObj d its n) :: (d, accDict w t k) :: news) → R (.ok (.ret (.int its.length t'))) { s with heap := h', toks := tk }) :
   codeAny (model (Challenge.rw_rs0167_01.row.prog) w) A (.call (.ref 175) ⟨[.ref a], []⟩) R s := by
  revert X; k_fill; intro X
  refine' codeS (binds := [(Str.ofString "self", .ref a)]) F X N T ?ho ?hcd ?hroom ?hb ?hl ?_ ?c1 ?c2 ?c3 ?c4
  case ho => k_is
  case hcd => k_is
  case hroom => ((simp only [recursionLimit, depth_under_make, depth_under_kw, depth_in1, depth_deeper]); omega)
  case hb => exact BindsTo.of_eq rfl
  case hl => exact locs rfl
  case c1 => decide
  case c2 => exact rfl
  case c3 => exact rfl
  case c4 => exact rfl
  intro g L' h₁ F₁ N₁ X₁ T₁ lt₁ st₁
  try dsimp only
  try k_fold
  refine ks_wpAt_execs_cons (ks_wpAt_Return_some (ks_wpAt_MethodCall ?_))
  k_dflt (refine' superN (D := 178) (me := "self") F₁ X₁ N₁ T₁ ?k1 ?k3 (accInst N₁ (.head _) (.tail _ (.head _))) ?k12 ?_)
  case k1 => kernel_rfl
  case k3 => exact rfl
  case k12 => decide +kernel
  intro so h2 F2 N2 l2
  k_dflt (refine' superM_L F2 X₁ N2 (.head _) (accInst N2 (.tail _ (.head _)) (.tail _ (.tail _ (.head _)))) ?j1 ?j2 ty_len wd_slot_get.lookup ?j3 ?j4 (fun hi q => len_get hi q) ?_)
  case j1 => k_is
  case j2 => first | (unfold ks_superIn; k_is) | (with_unfolding_all exact rfl) | kernel_rfl
  case j3 => decide +kernel
  case j4 => k_is
  intro q h3 F3 N3 l3
  clear F2 N2
  refine callWith_bound0 (.inl rfl) (N3 _ (.head _)).1 ?_
  refine call_wrapper (N3 _ (.head _)).1 lm_len.1 (args_list_len _) (by decide +kernel) PySem.F.entry_list_len ?_
  refine (show wpAny _ _ (seqSize a >>= fun n => retInt n) _ _ _ from ?_)
  unfold seqSize
  refine wpAny_bind (wpAny_bind (wpAny_loadPart (N3 _ (.tail _ (.tail _ (.head _)))).1 (wpAny_pure ?_)))
  unfold retInt
  refine wpAny_bind (wpAny_mkInt (wpAny_pure ⟨_, rfl, ?_⟩))
  try dsimp only
  rw [List.size_toArray]
  have N4 : News g L' h3 ((a, accObj d its n) :: (d, accDict w t k) :: news) := fun p hp => N3 p (.tail _ (.tail _ hp))
  clear N3
  kwd_rel
  exact hQ _ _ _ (by assumption) (by assumption)
theorem pop_body {prog : Program} {w : World} {A : Around} {E : Value → Shared → Prop} {s : Shared} {a C : Addr} {dx : Option Addr} {its : List Value} {v : Value} {n : Nat} {P : Value → Shared → Prop} (ho : s.heap.get? a = some { cls := .ref C, dict := dx, data := .seq (its ++ [v]).toArray n }) (hz : its.length ≤ 1000)
    (h : ∀ h' n', Heap.SameBut a s.heap h' → h'.get? a = some { cls := .ref C, dict := dx, data := .seq its.toArray n' } → P v { s with heap := h' }) :
    wpAny (model prog w) A (Builtin.«list.pop» ⟨[.ref a], []⟩) (fun fin s' => ∃ v, fin = .done (.ret v) ∧ P v s') E s := by
  unfold Builtin.«list.pop»
  iterate 15 (try wp_step)
  dsimp only
  refine wpAny_ite_false (decide_eq_false (by decide)) ?_
  unfold Builtin.List.listItems
  refine wpAny_bind (wpAny_bind (wpAny_seqItems ho rfl (wpAny_pure ?_)))
  have he : (its ++ [v]).toArray.isEmpty = false := by simp
  rw [he, if_neg (by decide)]
  have hk : (seqIndex? (-1) (its ++ [v]).toArray.size).bind (fun k => ((its ++ [v]).toArray[k]?).map (k, ·)) = some (its.length, v) := by
    have e : seqIndex? (-1) (its ++ [v]).toArray.size = some its.length := by
      simp [seqIndex?]; omega
    rw [e]
    simp
  rw [hk]
  dsimp only
  have e3 : (its ++ [v]).eraseIdx its.length = its := by
    rw [List.eraseIdx_append_of_length_le (Nat.le_refl _)]; simp
  have e2 : Obj.mapSeq (·.eraseIdxIfInBounds its.length) ({ cls := .ref C, dict := dx, data := .seq (its ++ [v]).toArray n } : Obj) = { cls := .ref C, dict := dx, data := .seq its.toArray (n + 1) } := by
    simp [Obj.mapSeq, Array.eraseIdxIfInBounds, e3]
  refine wpAny_bind ?_
  show wpAny _ _ (updateSeq a (·.eraseIdxIfInBounds its.length)) _ _ _
  refine wpAny_updateSeq (hz := by rw [List.size_toArray, sizeLine_eq]; simp; omega) (_hz' := by simp [Array.eraseIdxIfInBounds, sizeLine_eq, e3]; omega) ho rfl ?_
  show wpAny _ _ (ret v) _ _ _
  refine wpAny_pure ⟨_, rfl, h _ (n + 1) (Heap.SameBut.update ..) ?_⟩
  rw [Heap.get?_update_self _ ho (by rw [e2]; rfl), e2]
section XS4
local macro_rules | `(tactic| walk_at "wpAt") => `(tactic| refine Hold.out ?_)
set_option maxHeartbeats 4000000 in
theorem pop_spec {w : World} {A : Around} {s : Shared} {mg mb : Str → Option Value} {h₀ : Heap} {L : Addr} {m : Str → Option Value} {news : List (Addr × Obj)} {a d : Addr} {its : List Value} {v : Value} {n : Nat} {t : Tok} {k : Value} {R : Result → Shared → Prop}
   (F : Fr h₀ L s.heap m) (X : (fr.heap_1 w.params).In h₀) (N : News h₀ L s.heap ((a, accObj d (its ++ [v]) n) :: (d, accDict w t k) :: news)) (T : TT mg mb h₀) (hdp : A.depth < 890) (ha : ∀ p ∈ news, p.1 ≠ a) (had : @Ne Nat d a) (hz : its.length ≤ 1000)
   (hQ : ∀ h' tk n', Fr h₀ L h' m → News h₀ L h' ((a, accObj d its n') :: (d, accDict w t k) :: news) → R (.ok (.ret v)) { s with heap := h', toks := tk }) :
   codeAny (model (Challenge.rw_rs0167_01.row.prog) w) A (.call (.ref 138) ⟨[.ref a], []⟩) R s := by
  revert X; k_fill; intro X
  refine' codeS (binds := [(Str.ofString "self", .ref a)]) F X N T ?ho ?hcd ?hroom ?hb ?hl ?_ ?c1 ?c2 ?c3 ?c4
  case ho => k_is
  case hcd => k_is
  case hroom => ((simp only [recursionLimit, depth_under_make, depth_under_kw, depth_in1, depth_deeper]); omega)
  case hb => exact BindsTo.of_eq rfl
  case hl => exact locs rfl
  case c1 => decide
  case c2 => exact rfl
  case c3 => exact rfl
  case c4 => exact rfl
  intro g L' h₁ F₁ N₁ X₁ T₁ lt₁ st₁
  try dsimp only
  try k_fold
  refine ks_wpAt_execs_cons (ks_wpAt_If (wpAt_of_wpAny ?_))
  kwd_rel
  refine wpAny_call (count_spec F₁ X₁ N₁ T₁ (by simp only [depth_deeper]; omega) ?_)
  intro h2 tk2 t2 F2 N2
  clear F₁ N₁
  kwd_rel
  · exfalso
    rename _ = (0 : Int) => q
    simp only [List.length_append, List.length_cons, List.length_nil] at q
    omega
  · unfold Hold
    rename Fr _ _ _ _ => F4
    rename News _ _ _ _ => N4
    refine wpAt_of_wpAny (wpAny_execs_nil ?_)
    dsimp only
    refine ks_wpAt_execs_cons (ks_wpAt_Return_some (ks_wpAt_MethodCall ?_))
    k_dflt (refine' superN (D := 178) (me := "self") F4 X₁ N4 T₁ ?k1 ?k3 (accInst N4 (.head _) (.tail _ (.head _))) ?k12 ?_)
    case k1 => kernel_rfl
    case k3 => exact rfl
    case k12 => decide +kernel
    intro so h5 F5 N5 l5
    k_dflt (refine' superM_L F5 X₁ N5 (.head _) (accInst N5 (.tail _ (.head _)) (.tail _ (.tail _ (.head _)))) ?j1 ?j2 PySem.F.type_list_pop md_slot_get.lookup ?j3 ?j4 (fun hi q => pop_get hi q) ?_)
    case j1 => k_is
    case j2 => first | (unfold ks_superIn; k_is) | (with_unfolding_all exact rfl) | kernel_rfl
    case j3 => decide +kernel
    case j4 => k_is
    intro q h6 F6 N6 l6
    refine callWith_bound0 (.inr rfl) (N6 _ (.head _)).1 ?_
    k_dflt (refine' call_pop0 (X₁.keeps F6.keep) (accInst N6 (.tail _ (.tail _ (.head _))) (.tail _ (.tail _ (.tail _ (.head _))))) (N6 _ (.head _)).1 ?p1 ?p2 ?p3 ?p4 ?_)
    case p1 => k_is
    case p2 => k_is
    case p3 => k_is
    case p4 => rfl
    have za := N6 _ (.tail _ (.tail _ (.head _)))
    refine pop_body za.1 hz fun h7 n7 hs7 ho7 => ?_
    have F7 := F6.change hs7 za.2.1 za.2.2
    have N7 : News g L' h7 ((a, accObj d its n7) :: (d, accDict w t k) :: news) := fun p hp => by
      rcases List.mem_cons.mp hp with rfl | hp
      · exact ⟨ho7, za.2⟩
      · have zp := N6 p (.tail _ (.tail _ (.tail _ hp)))
        refine ⟨(hs7.2 p.1 ?_).trans zp.1, zp.2⟩
        rcases List.mem_cons.mp hp with rfl | hp
        · exact had
        · exact ha p hp
    clear F6 N6 F4 N4 F5 N5
    kwd_rel
    exact hQ _ _ _ (by assumption) (by assumption)
end XS4
theorem init_body {prog : Program} {w : World} {A : Around} {E : Value → Shared → Prop} {s : Shared} {a C : Addr} {dx : Option Addr} {n : Nat} {P : Value → Shared → Prop} (ho : s.heap.get? a = some { cls := .ref C, dict := dx, data := .seq #[] n })
    (h : ∀ h', Heap.SameBut a s.heap h' → h'.get? a = some { cls := .ref C, dict := dx, data := .seq #[] n } → P .none { s with heap := h' }) :
    wpAny (model prog w) A (Builtin.«list.__init__» ⟨[.ref a], []⟩) (fun fin s' => ∃ v, fin = .done (.ret v) ∧ P v s') E s := by
  show wpAny _ A (do let old ← Builtin.List.listItems (.ref a); Builtin.List.listUpdate (.ref a) (fun _ => #[]); letGo old.toList.reverse; ret .none) _ _ s
  refine wpAny_bind ?_
  unfold Builtin.List.listItems
  refine wpAny_bind (wpAny_seqItems ho rfl (wpAny_pure ?_))
  refine wpAny_bind ?_
  show wpAny _ _ (updateSeq a (fun _ => #[])) _ _ _
  have e2 : Obj.mapSeq (fun _ => #[]) ({ cls := .ref C, dict := dx, data := .seq #[] n } : Obj) = { cls := .ref C, dict := dx, data := .seq #[] n } := by
    simp [Obj.mapSeq]
  refine wpAny_updateSeq ho rfl ?_
  refine wpAny_bind (wpAny_letGo ?_)
  refine wpAny_pure ⟨_, rfl, h _ (Heap.SameBut.update ..) ?_⟩
  rw [Heap.get?_update_self _ ho (by rw [e2]; rfl), e2]
section
variable {prog : Program} {w : World} {A : Around} {E : Value → Shared → Prop} {s : Shared}
theorem seq_next {it l : Addr} {i : Nat} {items : Array Value} {x : Value} {Q : Option Value → Shared → Prop} (hit : s.heap.IsListIter it l i) (hl : SeqAt s.heap l items) (hx : items[i]? = some x)
    (hQ : ∀ h', h'.IsListIter it l (i + 1) → Heap.SameBut it s.heap h' → Q (some x) { s with heap := h' }) : wpAny (model prog w) A (pyNext (.ref it)) Q E s :=
  seq_step hit hl (fun _ h' e => Option.some.inj (hx.symm.trans e) ▸ hQ h') fun e => nomatch hx.symm.trans e
theorem seq_end {it l : Addr} {i : Nat} {items : Array Value} {Q : Option Value → Shared → Prop} (hh : A.handled = none) (hit : s.heap.IsListIter it l i) (hl : SeqAt s.heap l items) (hx : items[i]? = none)
    (hQ : ∀ h', Heap.ExtBut it s.heap h' → Q none { s with heap := h' }) : wpAny (model prog w) A (pyNext (.ref it)) Q E s :=
  seq_step hit hl (fun _ _ e => nomatch hx.symm.trans e) fun _ => ⟨hh, hQ⟩
structure TupleWalk (I ax : Addr) (items : Array Value) (Ts : Nat → Addr) (vals : Nat → Array Value) (j : Nat) (h : Heap) : Prop where
  it : h.IsListIter I ax j
  seq : SeqAt h ax items
  tup : ∀ k, k < items.size → h.IsTuple (Ts k) (vals k)
theorem TupleWalk.up {I ax : Addr} {items : Array Value} {Ts : Nat → Addr} {vals : Nat → Array Value} {i j : Nat} {h h' : Heap} (X : TupleWalk I ax items Ts vals i h) (it : h'.IsListIter I ax j) (ha : ax ≠ I) (hT : ∀ k, k < items.size → Ts k ≠ I)
    (keep : ∀ b, b = ax ∨ (∃ k, k < items.size ∧ b = Ts k) → b ≠ I → ∀ o, h.get? b = some o → h'.get? b = some o) : TupleWalk I ax items Ts vals j h' :=
  ⟨it, X.seq.via (keep ax (.inl rfl) ha), fun k hk => (X.tup k hk).at (keep (Ts k) (.inr ⟨k, hk, rfl⟩) (hT k hk))⟩
theorem walksSeq (hh : A.handled = none) (I ax : Addr) (hne : ax ≠ I) (items : Array Value) (Ts : Nat → Addr) (vals : Nat → Array Value)
    (hit : ∀ j, j < items.size → items[j]? = some (.ref (Ts j))) (hTI : ∀ j, j < items.size → Ts j ≠ I) :
    WalksU prog w A I (I :: ax :: (List.range items.size).map Ts) [I] items.size (fun j v => j < items.size ∧ v = vals j) (TupleWalk I ax items Ts vals)
      (fun j T h => (j < items.size ∧ T = Ts j) ∧ TupleWalk I ax items Ts vals (j + 1) h) := by
  have mine : ∀ b, b = ax ∨ (∃ k, k < items.size ∧ b = Ts k) → b ∈ I :: ax :: (List.range items.size).map Ts := by
    rintro b (rfl | ⟨k, hk, rfl⟩)
    · simp
    · exact List.mem_cons_of_mem _ (List.mem_cons_of_mem _ (List.mem_map_of_mem (List.mem_range.mpr hk)))
  have alone : ∀ {b : Addr}, b ≠ I → b ∉ [I] := fun q m => q (List.mem_singleton.mp m)
  constructor
  case sub => simp
  case frame => exact fun j h h' X k => X.up (X.it.at (k I List.mem_cons_self)) hne hTI fun b m _ => k b (mine b m)
  case item =>
    intro j s Q E hj X k
    refine seq_next X.it X.seq (hit j hj) fun h' it same => ?_
    have X' := X.up it hne hTI fun b _ q o => same.extBut b o q
    exact k _ _ h' s.toks ⟨hj, rfl⟩ (X'.tup j hj) ⟨⟨hj, rfl⟩, X'⟩ fun b o q => same.extBut b o (q <| List.mem_singleton.mpr ·)
  case go => exact fun _ _ _ _ _ s _ _ m k => wpAny_letOwnedTupleGo_listiter m.2.it (k s.heap m.2 fun _ _ _ => id)
  case apart => exact fun _ _ _ m => alone (m.1.2 ▸ hTI _ m.1.1)
  case done => exact fun s _ _ X k => seq_end hh X.it X.seq (by simp) fun h' e => k h' s.toks fun b o q => e b o (q <| List.mem_singleton.mpr ·)
  case self => exact fun _ _ _ _ X q => wpAny_pyIter_listiter X.it q
theorem iter_acc {K : Frag} {x C : Addr} {od : Option Obj} {ox : Obj} {Q : Value → Shared → Prop} (X : K.In s.heap) (I : PySem.W.InstAt s.heap x ox C od) (hsub : subIn K (.ref C) (.type "list") = some true)
    (hf : findIn K (.ref C) "__iter__" = some (some (.builtin "list.__iter__")))
    (hQ : Q (.ref s.heap.objs.size) { s with heap := s.heap.push { cls := .type "list_iterator", data := .fields #[.ref x, .int 0 0] } }) : wpAny (model prog w) A (pyIter (.ref x)) Q E s := by
  have L0 := I.type (M := model prog w)
  have L1 := looks_findIn (M := model prog w) X hf
  have fin : ∀ (A : Around) (Q' : Option Value → Shared → Prop) (E : Value → Shared → Prop), Q' (some (.ref s.heap.objs.size)) { s with heap := s.heap.push { cls := .type "list_iterator", data := .fields #[.ref x, .int 0 0] } } →
      wpAny (model prog w) A (call (.builtin "list.__iter__") [.ref x] >>= fun v => pure (some v)) Q' E s := by
    intro A Q' E q
    refine wpAny_bind (wpAny_call (codeAny_call_builtin slot_list_iter.plain entry_list_iter ?_))
    refine @check_slot (model prog w) A.in1 _ s "list.__iter__" "list" "__iter__" (.ref x) [] [] _ lm_iter.1 lm_iter.2 (accIs X I hsub) (args_list_iter _) ?_
    show wpAny _ _ (do ret (← newFields "list_iterator" [.ref x, rawInt 0])) _ _ s
    refine wpAny_bind (wpAny_newObj_type (wpAny_pure ?_))
    exact wpAny_pure q
  unfold pyIter
  refine wpAny_bind (wpAny_bind (L0.here (L1.here ?_)))
  show wpAny _ A (callSpecialIfBoundUnlessNone? (.ref x) "__iter__" _ >>= _) _ _ _
  simp only [callSpecialIfBoundUnlessNone?, bindSpecialIfBound?]
  have it1 : (({ s with heap := s.heap.push { cls := .type "list_iterator", data := .fields #[.ref x, .int 0 0] } } : Shared)).TypeIs (.ref s.heap.objs.size) "list_iterator" := ⟨_, Heap.get?_push_size _ rfl, rfl⟩
  refine wpAny_bind (wpAny_holding (wpAny_bind (wpAny_bind (wpAny_bind (L0.here (L1.here ?_))))))
  simp only [slot_list_iter.bind]
  refine wpAny_bind (wpAny_askSetting (wpAny_ite ?_))
  have fin2 : wpAny (model prog w) A (if (Value.builtin "list.__iter__" == Value.none) = true then (do let v ← (do rule "iter.none"; raiseError "TypeError" s!"'{← typeNameOf (.ref x)}' object is not iterable"); pure (some v)) else (call (.builtin "list.__iter__") [.ref x] >>= fun v => pure (some v)))
      (fun a s' => wpAny (model prog w) A (match a with | some it => (specialOf it "__next__" >>= fun r => match r with | none => (do rule "iter.non-iterator"; raiseError "TypeError" s!"iter() returned non-iterator of type '{← typeNameOf it}'") | some _ => pure it) | none => (do match ← bindSpecialIfBound? (.ref x) "__getitem__" with | none => rule "iter.not-iterable"; raiseError "TypeError" s!"'{← typeNameOf (.ref x)}' object is not iterable" | some _ => rule "iter.getitem-fallback"; newFields "iterator" [.ref x, ← mkInt 0])) Q E s') E s := by
    simp only [builtin_beq_none, Bool.false_eq_true, if_false]
    refine fin A _ E ?_
    exact wpAny_bind (wpAny_specialOf it1 slot_listiter_next.lookup (wpAny_pure hQ))
  split
  · exact wpAny_bind (wpAny_pure (wpAny_pure fin2))
  · exact wpAny_tryCatch (wpAny_bind (wpAny_pure (wpAny_pure fin2)))
end
section
variable {prog : Program} {w : World} {A : Around} {E : Value → Shared → Prop} {s : Shared}
noncomputable def ahead {α : Type} (P : Nat → α → Prop) : Nat → α → Prop
  | 0, _ => False
  | j + 1, v => P j v
theorem later {I : Addr} {fp wr : List Addr} {G : Array GenState → Array GenState → Prop} {n : Nat} {P : Nat → Value → Prop} {St : Nat → Shared → Prop} (W : WalksS prog w A I fp wr G n P St) :
    WalksS prog w A I fp wr G (n + 1) (ahead P) (ahead St) := by
  refine ⟨W.sub, W.grefl, W.gtrans, fun j => ?_, fun j => ?_, W.done, fun j => ?_⟩ <;> cases j with
  | zero => first | exact fun _ _ _ st => st.elim | exact fun _ _ _ _ st => st.elim | exact fun _ _ _ st => st.elim
  | succ j => first | exact W.frame j | exact fun s Q E hj => W.item j s Q E (Nat.lt_of_succ_lt_succ hj) | exact W.self j
noncomputable def withStart (k₀ : Int) (val : Nat → Int) : Nat → Int
  | 0 => k₀
  | j + 1 => val j
theorem preSum_start (k₀ : Int) (val : Nat → Int) : ∀ j, preSum (withStart k₀ val) (j + 1) = k₀ + preSum val j
  | 0 => by simp [preSum, withStart]
  | j + 1 => by rw [preSum, preSum_start k₀ val j, preSum, Int.add_assoc]; rfl
theorem sum_loop_from {R : Result → Shared → Prop} {I : Addr} {fp wr : List Addr} {G : Array GenState → Array GenState → Prop} {n : Nat} {P : Nat → Value → Prop} {St : Nat → Shared → Prop}
    (W : WalksS prog w A.in1 I fp wr G n P St) {k₀ : Int} (hk : InLong k₀) (val : Nat → Int) (hval : ∀ i v, P i v → ∃ t, v = .int (val i) t) (hfit : ∀ j, j < n → InLong (val j) ∧ InLong (k₀ + preSum val (j + 1))) (S : Addr) (hSf : S ∉ fp)
    (st : St 0 s) {tA : Tok} {c : Nat} (at0 : s.heap.get? S = some { cls := .type "list", dict := none, data := .seq #[.int k₀ tA] c, slots := #[] })
    (hR : ∀ s' t', Moved (S :: wr) G s s' → R (.ok (.ret (.int (k₀ + preSum val n) t'))) s') : codeAny (model prog w) A (.builtin "sum.loop" ⟨[.ref I, .ref S, rawInt 0, rawInt 0], []⟩) R s := by
  have e0 : k₀ = preSum (withStart k₀ val) 1 := by rw [preSum_start]; exact (Int.add_zero _).symm
  refine codeAny_sum_loopS (later W) (withStart k₀ val) ?_ ?_ S hSf n 1 s tA c (Nat.add_sub_cancel ..) (by omega) st (e0 ▸ at0) fun s' t' m => preSum_start k₀ val n ▸ hR s' t' m
  · rintro (_ | i) v h
    · cases h
    · exact hval i v h
  · rintro (_ | j) h
    · exact ⟨hk, e0 ▸ hk⟩
    · rw [preSum_start]; exact hfit j (Nat.lt_of_succ_lt_succ h)
theorem args_sum2 (a b : Value) : argsOk "sum" ⟨[a, b], []⟩ := by unfold argsOk; kernel_rfl
inductive SumSrc (prog : Program) (w : World) (A : Around) (k₀ : Int) (Q : Value → Shared → Prop) (it : Value) (s₂ : Shared) : Prop
  | mk (I : Addr) (fp wr : List Addr) (G : Array GenState → Array GenState → Prop) (n : Nat) (P : Nat → Value → Prop) (St : Nat → Shared → Prop) (val : Nat → Int) (e : it = .ref I) (W : WalksS prog w A.in1 I fp wr G n P St) (hst : St 0 s₂) (hfp : ∀ b ∈ fp, b < s₂.heap.objs.size)
      (hval : ∀ i v, P i v → ∃ t, v = .int (val i) t) (hfit : ∀ j, j < n → InLong (val j) ∧ InLong (k₀ + preSum val (j + 1))) (hQ : ∀ s' t', Moved wr G s₂ s' → Q (.int (k₀ + preSum val n) t') s') : SumSrc prog w A k₀ Q it s₂
theorem call_sum_from {x : Value} {k₀ : Int} {tk₀ : Tok} {Q : Value → Shared → Prop} (hk : InLong k₀)
    (h : wpAny (model prog w) A.in1 (pyIter x) (SumSrc prog w A k₀ Q) E s) :
    wpAny (model prog w) A (call (.builtin "sum") [x, .int k₀ tk₀]) Q E s := by
  refine call_function_tree F.kind_sum F.plain_sum F.entry_sum (args_sum2 _ _) ?_
  unfold Builtin.«sum»
  have f1 : Builtin.Builtins.bindParams "sum" ["start"] 0 ⟨[.int k₀ tk₀], []⟩ = pure [some (.int k₀ tk₀)] := rfl
  generalize hp : pyIter = toIter
  wp_walk
  subst hp
  refine wpAny_mono h ?_ fun _ _ e => e
  rintro _ u ⟨I, fp, wr, G, n, P, St, val, rfl, W, st, old, hval, hfit, k⟩
  have fits : (decide (-(2 ^ 63) ≤ k₀) && decide (k₀ < 2 ^ 63)) = true := by rw [decide_eq_true hk.1, decide_eq_true hk.2]; rfl
  refine wpAny_ite_true (decide_eq_true fits) ?_
  simp only [List.forIn_cons, List.forIn_nil]
  have g1 := PySem.sub_int_str
  have g2 := PySem.sub_int_bytes
  have g3 := PySem.sub_int_bytearray
  have gi := typeIs_int u k₀ u.toks
  wp_walk
  exact ⟨plainId_quiet F.plain_sum_loop _, sum_loop_from W hk val hval hfit _ (fun m => Nat.lt_irrefl _ (old _ m)) (W.frame 0 u _ _ st (Nat.le_succ _) fun _ _ _ => Heap.get?_push_of_some _)
    (Heap.get?_push_size _ rfl) fun s' t' m => k s' t' (m.drop_new (Nat.le_succ _))⟩
end
inductive GenOf (prog : Program) (w : World) (A : Around) (lo g : Addr) (n : Nat) (F : Nat → Value → Prop) (s : Shared) : Prop
  | mk (fp wr : List Addr) (gi : Nat) (St : Nat → Shared → Prop) (W : WalksS prog w A.in4 g fp wr (GenOnlyQ gi) n F St) (hst : St 0 s) (hT : ∀ i s', St i s' → s'.TypeIs (.ref g) "generator") (hg : g ∈ fp) (hfp : ∀ b ∈ fp, b < s.heap.objs.size) (hwr : ∀ b ∈ wr, lo ≤ b) : GenOf prog w A lo g n F s
theorem GenOf.keep {prog : Program} {w : World} {A : Around} {lo g : Addr} {n : Nat} {F : Nat → Value → Prop} {s : Shared} {h' : Heap} {tk : Nat} (X : GenOf prog w A lo g n F s) (k : ∀ b o, s.heap.get? b = some o → h'.get? b = some o) (hs : s.heap.objs.size ≤ h'.objs.size) (ht : s.toks ≤ tk) :
    GenOf prog w A lo g n F { s with heap := h', toks := tk } := by
  obtain ⟨fp, wr, gi, St, W, hst, hT, hg, hfp, hwr⟩ := X
  exact ⟨fp, wr, gi, St, W, W.frame 0 s h' tk hst ht (fun b _ o e => k b o e), hT, hg, fun b hb => Nat.lt_of_lt_of_le (hfp b hb) hs, hwr⟩
noncomputable def Spent (lo : Addr) (s s' : Shared) : Prop := ∃ h' g' tk, s' = { s with heap := h', gens := g', toks := tk } ∧ (∀ b o, b < lo → s.heap.get? b = some o → h'.get? b = some o) ∧ (AllBare s.gens → AllBare g')
theorem Spent.of_moved {lo : Addr} {wr : List Addr} {gi : Nat} {s s' : Shared} (hm : Moved wr (GenOnlyQ gi) s s') (hw : ∀ b ∈ wr, lo ≤ b) : Spent lo s s' := by
  obtain ⟨h1, h2, h3, h4, h5⟩ := hm
  refine ⟨s'.heap, s'.gens, s'.toks, ?_, fun b o hb e => h1 b o (fun q => Nat.not_lt.mpr (hw b q) hb) e, fun x => h2.bare x⟩
  obtain ⟨a, b, c, d, e⟩ := s'
  simp only at h3 h4
  subst h3 h4
  rfl
section
variable {prog : Program} {w : World} {A : Around} {E : Value → Shared → Prop} {s : Shared} {lo g : Addr} {n : Nat} {F : Nat → Value → Prop} {Q : Value → Shared → Prop}
theorem sum_gen {k₀ : Int} {t : Tok} (X : GenOf prog w A lo g n F s) (hk : InLong k₀) (val : Nat → Int) (hval : ∀ j v, F j v → ∃ t, v = .int (val j) t) (hfit : ∀ j, j < n → InLong (val j) ∧ InLong (k₀ + preSum val (j + 1)))
    (hQ : ∀ s' t', Spent lo s s' → Q (.int (k₀ + preSum val n) t') s') : wpAny (model prog w) A (call (.builtin "sum") [.ref g, .int k₀ t]) Q E s := by
  obtain ⟨fp, wr, gi, St, W, hst, _, _, hfp, hwr⟩ := X
  have W := W.in4_1
  exact call_sum_from hk (W.self 0 _ _ _ hst ⟨g, _, _, _, _, _, _, val, rfl, W, hst, hfp, hval, hfit, fun s' t' hm => hQ s' t' (.of_moved hm hwr)⟩)
theorem texts_of {lt : List (Str × Tok)} {tx : Nat → Str} (htx : ∀ j v, F j v → ∃ u, v = .str (tx j) u) (its : ItemsOf F (strValues lt).toArray n) : lt.map (·.1) = (List.range n).map tx := by
  have hn : lt.length = n := by simpa [strValues] using its.1
  refine List.ext_getElem (by simp [hn]) fun j h1 h2 => ?_
  have hj : j < lt.length := by simpa using h1
  obtain ⟨u, e⟩ := htx j _ (its.2 j (.str lt[j].1 lt[j].2) (by simp [strValues, hj]))
  rw [List.getElem_map, List.getElem_map, List.getElem_range]
  exact (Value.str.inj e).1
theorem join_gen_of {sep : Str} {t : Tok} (X : GenOf prog w A lo g n F s) (tx : Nat → Str) (htx : ∀ j v, F j v → ∃ u, v = .str (tx j) u) (hok : JoinOk sep ((List.range n).map tx) = true)
    (hQ : ∀ s' t', Spent lo s s' → Q (.str (Txt.join sep ((List.range n).map tx)) t') s') (hsz : n ≤ sizeLine) : wpAny (model prog w) A (call (.builtin "str.join") [.str sep t, .ref g]) Q E s := by
  cases X with
  | mk fp wr gi St W st ty own old above =>
    refine SC.joinGen W.in4_2 ty st old own (fun j v h => (htx j v h).elim fun u e => ⟨_, u, e⟩) (fun u lt m its => ?_) hsz
    rw [texts_of htx its]
    refine ⟨hok, fun t' tk => hQ _ t' ?_⟩
    obtain ⟨h', g', _, rfl, keep, bare⟩ := Spent.of_moved m above
    exact ⟨h', g', tk, rfl, keep, bare⟩
end
theorem passing_all (n : Nat) : passing (fun _ => true) n 0 = List.range n := by
  simp [passing]
section
variable {prog : Program} {w : World} {A : Around} {E : Value → Shared → Prop} {s : Shared} {K : Frag} {h₀ : Heap} {L a C c P bm : Addr} {m mg : Str → Option Value} {ob ox : Obj} {od : Option Obj} {items : Array Value} {k : Nat} {ps : Array Value}
  {env : Env} {elt iter : PySem.Expr} {xa xb : Str} {pa pb pt : Pos} {kt : Nat} {scope : Scope} {pos : Pos} {Q : Value → Shared → Prop}
theorem gen_code {qualname : Str} {Q : Value → Shared → Prop} (hcode : env.code = .ref c) (hcd : CodeHd s.heap c P) (hP : s.heap.get? P = some (tabObj ps)) (hps : TriplesOk ps.toList)
    (hQ : ∀ code h' tk ps', (∀ b o, b ≠ P → s.heap.get? b = some o → h'.get? b = some o) → s.heap.objs.size ≤ h'.objs.size → h'.get? P = some (tabObj ps') → TriplesOk ps'.toList → Q code { s with heap := h', toks := tk }) :
    wpAny (model prog w) A (genexprCode env pos qualname scope) Q E s := by
  cases hnf : codeAmong pos ps.toList with
  | some cv => exact wpAny_genexprCode_hit hcode (hcd.code hP hps) hnf (hQ cv s.heap s.toks ps (fun b o _ e => e) (Nat.le_refl _) hP hps)
  | none =>
    refine wpAny_genexprCodeX hcode (hcd.code hP hps) (hcd.tab hP) hnf fun c' h₃ tk₃ hx₃ hge hlt hcode₃ _ htab₃ _ => ?_
    obtain ⟨o, vs, file, tf, flags, tg, inF, text, tt, op, r1, r2, r3, r4, r5, r6, r7, r8, r9, r10, r11⟩ := hcode₃
    refine hQ _ _ _ _ (fun b o hb e => hx₃ b o hb e) (Nat.le_trans hge (Nat.le_of_lt hlt)) htab₃.2 r10
theorem gen_acc {Fv : Nat → Value → Prop} (hh : A.handled = none) (hroom : A.depth < recursionLimit) (F : Fr h₀ L s.heap m) (X₀ : K.In h₀) (lim : h₀.NoLimit) (BM : BMod h₀ env.globals mg bm ob)
    (I : PySem.W.InstAt s.heap a ox C od) (hsub : subIn K (.ref C) (.type "list") = some true) (hf : findIn K (.ref C) "__iter__" = some (some (.builtin "list.__iter__"))) (hd : ox.data = .seq items k)
    (hcd : CodeHd s.heap c P) (hP : s.heap.get? P = some (tabObj ps)) (hps : TriplesOk ps.toList) (hP0 : h₀.get? P = none) (hcode : env.code = .ref c)
    (hco : scope.isCoroutine = false) (hclos : closureFor scope env = pure []) (hcell : ∀ y ∈ scope.names, y.2 ≠ .cell) (h0 : scope.names.lookup (".0" : Str) = some NameKind.local)
    (hxa : scope.names.lookup xa = some .local) (hxb : scope.names.lookup xb = some .local) (hab : xa ≠ xb) (hkind : scope.kind = .function)
    (heval : ∀ (Q' : Value → Shared → Prop), Q' (.ref a) s → wpAny (model prog w) A (eval iter env) Q' E s)
    (Ts : Nat → Addr) (vals : Nat → Array Value) (hit : ∀ j, j < items.size → items[j]? = some (.ref (Ts j))) (hT : ∀ j, j < items.size → s.heap.IsTuple (Ts j) (vals j)) (hv2 : ∀ j, j < items.size → ∃ va vb, vals j = #[va, vb])
    (helt : ∀ (A' : Around) (E' : Value → Shared → Prop) i va vb (s₂ : Shared) m₂ Cf code, A'.handled = none → A'.depth ≤ A.depth + 1 → i < items.size → vals i = #[va, vb] → Fr h₀ Cf s₂.heap m₂ → m₂ xa = some va → m₂ xb = some vb →
      wpAny (model prog w) A' (eval elt (genEnv scope [] Cf code builtinsNs env)) (fun y s₃ => Fv i y ∧ Keeps s₂ s₃) E' s₂)
    (hQ : ∀ g ps' h' tk gs, gs.bare = true → (∀ b o, b ≠ P → s.heap.get? b = some o → h'.get? b = some o) → h'.get? P = some (tabObj ps') → TriplesOk ps'.toList → s.heap.objs.size ≤ h'.objs.size →
      GenOf prog w A s.heap.objs.size g items.size Fv { s with heap := h', gens := s.gens.push gs, toks := tk } → Q (.ref g) { s with heap := h', gens := s.gens.push gs, toks := tk })
    (hs : ∀ x, genFold iter env x = pure x) :
    wpAny (model prog w) A (eval (.GeneratorExp elt [⟨.Tuple [.Name xa pa, .Name xb pb] kt pt, iter, [], 0⟩] scope pos) env) Q E s := by
  have X : K.In s.heap := X₀.keeps F.keep
  have aP : a ≠ P := fun e => by have := I.at_; rw [e, hP] at this; cases this; cases hd
  have seq0 : SeqAt s.heap a items := ⟨_, _, I.at_, hd⟩
  have hTl : ∀ j, j < items.size → Ts j < s.heap.objs.size := fun j hj => let ⟨_, e, _⟩ := hT j hj; Heap.lt_size e
  have hTP : ∀ j, j < items.size → Ts j ≠ P := fun j hj e => by
    obtain ⟨o, eo, hc, _⟩ := hT j hj
    rw [e, hP] at eo; cases eo; cases hc
  have halt : a < s.heap.objs.size := Heap.lt_size I.at_
  have hPlt : P < s.heap.objs.size := Heap.lt_size hP
  refine wpAny_GeneratorExp_walksQTD hh hco hclos hcell h0 hxa hxb hab hkind hroom (heval _ (iter_acc X I hsub hf ?_)) hs
  have up : ∀ b o, s.heap.get? b = some o → (s.heap.push { cls := .type "list_iterator", data := .fields #[.ref a, .int 0 0] }).get? b = some o := fun b o e => Heap.get?_push_of_some _ e
  refine ⟨(lim.keeps F.keep).keeps up, gen_code hcode (hcd.keeps up) (up _ _ hP) hps ?_⟩
  intro code h₃ tk₃ ps' hx₃ hsz₃ hP₃ hps₃
  rw [Heap.size_push] at hsz₃
  have old : ∀ b o, b ≠ P → s.heap.get? b = some o → h₃.get? b = some o := fun b o hb e => hx₃ b o hb (up b o e)
  have ne0 : ∀ {b o}, h₀.get? b = some o → b ≠ P := fun e q => by rw [q, hP0] at e; cases e
  have old₀ : ∀ b o, h₀.get? b = some o → h₃.get? b = some o := fun b o e => old b o (ne0 e) (F.keep b o e)
  have BM₃ := BM.keeps old₀
  have lim₃ := lim.keeps old₀
  refine wpAny_builtinsFor BM₃.ns BM₃.name BM₃.ne BM₃.obj BM₃.cls BM₃.dict BM₃.data ?_
  have hI : s.heap.objs.size ≠ P := Nat.ne_of_gt hPlt
  have Ls : s.heap.objs.size < h₃.objs.size := hsz₃
  refine ex9 s.heap.objs.size _ [s.heap.objs.size] items.size _ _ _ (fun _ => true) Fv ⟨rfl, fun A' hA => walksSeq hA s.heap.objs.size a (Nat.ne_of_lt halt) items Ts vals hit (fun j hj => Nat.ne_of_lt (hTl j hj)), ?_, ?_, ?_, lim₃, ?_, ?_, ?_⟩
  · rintro i v ⟨hi, rfl⟩
    obtain ⟨va, vb, e⟩ := hv2 i hi
    exact ⟨va, vb, e⟩
  · refine ⟨⟨_, hx₃ _ _ hI (Heap.get?_push_size _ rfl), rfl, rfl⟩, seq0.via fun o e => old _ o aP e, fun j hj => (hT j hj).at fun o e => old _ o (hTP j hj) e⟩
  · intro b hb
    show b < h₃.objs.size
    rcases List.mem_cons.mp hb with rfl | hb
    · exact Ls
    · rcases List.mem_cons.mp hb with rfl | hb
      · exact Nat.lt_trans halt Ls
      · obtain ⟨j, hj, rfl⟩ := List.mem_map.mp hb
        exact Nat.lt_trans (hTl j (List.mem_range.mp hj)) Ls
  · intro hm
    have hc : cStatics < s.heap.objs.size := let ⟨_, hn, _⟩ := lim.keeps F.keep; hn.lt
    rcases List.mem_cons.mp hm with e | hm
    · exact absurd (e ▸ hc) (Nat.lt_irrefl _)
    · cases hm
  · intro href hk
    have base : ∀ (s₂ : Shared) (m₂ : Str → Option Value), s₂.heap.Ns h₃.objs.size m₂ → (∀ b ∈ List.range h₃.objs.size, b ∉ [s.heap.objs.size] → ∀ o, href.get? b = some o → s₂.heap.get? b = some o) → Fr h₀ h₃.objs.size s₂.heap m₂ := by
      intro s₂ m₂ hn hal
      refine ⟨hn, fun b o e => hal b ?_ ?_ o (hk _ _ (old₀ b o e)), ?_⟩
      · exact List.mem_range.mpr (Heap.lt_size (old₀ b o e))
      · intro q
        have hb : b < s.heap.objs.size := Heap.lt_size (F.keep b o e)
        rw [List.mem_singleton.mp q] at hb
        exact Nat.lt_irrefl _ hb
      · exact Nat.le_trans F.above (Nat.le_of_lt (Nat.lt_trans F.ns.lt Ls))
    refine ⟨fun A' E' i va vb s₂ m₂ hA hD hU hP hn hma hmb hal => ?_, fun A' E' i va vb s₂ m₂ hA hD hU hP _ hn hma hmb hal => ?_⟩
    · exact wpAny_pure ⟨rfl, s₂.heap, s₂.toks, rfl, fun _ _ e => e⟩
    · exact helt A' E' i va vb s₂ m₂ _ code hA hD hP.1 hP.2.symm (base s₂ m₂ hn hal) hma hmb
  · intro g h₅ tk gs hgb hlt₅ hsz₅ hk₅ W hat
    rw [passing_all] at W
    have old5 : ∀ b o, b ≠ P → s.heap.get? b = some o → h₅.get? b = some o := fun b o hb e => hk₅ _ _ (old b o hb e)
    have hg : h₃.objs.size < g := hlt₅
    rw [List.length_range] at W
    have W' : WalksS prog w A.in4 g (g :: h₃.objs.size :: List.range h₃.objs.size) (h₃.objs.size :: [s.heap.objs.size]) (GenOnlyQ s.gens.size) items.size Fv (GenAt prog w A.in4 g s.gens.size h₃.objs.size (List.range h₃.objs.size) [s.heap.objs.size] (fun _ => true) items.size Fv) :=
      { sub := W.sub, grefl := W.grefl, gtrans := W.gtrans, frame := W.frame, done := W.done, self := W.self,
        item := fun i s Q E hi st hQ => W.item i s Q E hi st fun v s' hv st' hm => hQ v s' (by
          obtain ⟨i', hi', hF⟩ := hv
          rw [List.getElem?_range hi] at hi'
          have : i' = i := (Option.some.inj hi').symm
          exact this ▸ hF) st' hm }
    refine hQ g ps' h₅ tk gs hgb old5 (hk₅ _ _ hP₃) hps₃ (by rw [hsz₅]; omega) ⟨_, _, _, _, W', hat, fun i s' st => st.1.typeIs, List.mem_cons_self, ?_, ?_⟩
    · intro b hb
      show b < h₅.objs.size
      rw [hsz₅]
      rcases List.mem_cons.mp hb with rfl | hb
      · exact Nat.lt_succ_self _
      · rcases List.mem_cons.mp hb with rfl | hb
        · exact Nat.lt_succ_of_lt hlt₅
        · exact Nat.lt_succ_of_lt (Nat.lt_trans (List.mem_range.mp hb) hlt₅)
    · intro b hb
      rcases List.mem_cons.mp hb with rfl | hb
      · exact Nat.le_of_lt Ls
      · rw [List.mem_singleton.mp hb]; exact Nat.le_refl _
end
theorem refuse_list (self : Value) : refuseLoop self "__setattr__" [.type "list", .type "object"] = pure () := by kernel_rfl
theorem mro178 (P : Params) : (clsIn (fr.heap_1 P) 178).map (·.mro) = some [.ref 178, .type "list", .type "object"] := by kernel_rfl
section
variable {prog : Program} {w : World} {A : Around} {E : Value → Shared → Prop} {s : Shared} {K : Frag} {x C dx L : Addr} {h₀ : Heap} {m : Str → Option Value} {news news' : List (Addr × Obj)} {es es' : List DictEntry} {n n' : Nat} {name : Str} {v : Value} {its : Array Value} {k : Nat}
theorem set_acc {Q : Unit → Shared → Prop} (F : Fr h₀ L s.heap m) (X₀ : K.In h₀) (N : News h₀ L s.heap news) (h1 : (x, ({ cls := .ref C, dict := some dx, data := .seq its k } : Obj)) ∈ news) (_h2 : (dx, dictOf es n) ∈ news)
    (hs : findIn K (.ref C) "__setattr__" = some (some (.builtin "object.__setattr__"))) (hm : (clsIn K C).map (·.mro) = some [.ref C, .type "list", .type "object"]) (ha : findIn K (.ref C) name = some none) (hh : hasDictIn K C = true) (hl : (getL name es).isSome = true)
    (e : (putL name (PyData.keyHash w.params name) (.str name (s.toks + 1)) v es, putN name es n) = (es', n')) (U : Upd dx (dictOf es n) (dictOf es' n') news news') (hz : es'.length ≤ 1000)
    (h : ∀ h', Fr h₀ L h' m → News h₀ L h' news' → Q () { s with heap := h', toks := s.toks + 2 }) :
    wpAny (model prog w) A (setAttr (.ref x) name v) Q E s := by
  obtain ⟨pre, post, rfl, rfl, a, b⟩ := U.split
  obtain ⟨e1, e2⟩ := Prod.mk.inj e
  have X : K.In s.heap := X₀.keeps F.keep
  have md : (dx, dictOf es n) ∈ pre ++ (dx, dictOf es n) :: post := List.mem_append_right _ (.head _)
  have I := accInst N h1 md
  refine set_plain X I hs ?_
  have SF := PySem.F.store_object
  obtain ⟨cd, hc, hmro⟩ := Option.map_eq_some_iff.mp hm
  obtain ⟨cd', hc', hdict⟩ := any_some hh
  rw [hc] at hc'; cases hc'
  have sub : Looks (model prog w) s.heap (isInstance (.ref x) (.type "object")) true := I.type.andThen (looks_mroIn X (by unfold mroIn; rw [hc, Option.bind_some, if_neg (by rw [hmro]; exact Bool.false_ne_true), hmro]; simp))
  refine codeAny_call_builtin SF.slot.plain SF.entry (@check_slot (model prog w) _ _ { s with toks := s.toks + 1 } "object.__setattr__" "object" "__setattr__" (.ref x) [.str name s.toks, v] [] _ SF.kind SF.split sub (SF.args (.ref x) (.str name s.toks) v) ?_)
  have hmr : Looks (model prog w) s.heap (mroOf (.ref C)) cd.mro := (looks_clsIn X hc).andThen .now
  rw [osa_eq, refuse_eq]
  obtain ⟨hh0, gg, dd, tt, oo⟩ := s
  refine wpAny_bind (wpAny_bind (I.type.at (wpAny_bind (hmr.at ?_))))
  rw [hmro, refuseLoop_ref, refuse_list]
  refine wpAny_pure (wpAny_bind (I.type.at (wpAny_bind ((looks_findIn X ha).at (wpAny_bind (wpAny_pure ?_))))))
  obtain ⟨U1, U2⟩ := news_upd (f := Obj.putName name (PyData.keyHash w.params name) (.str name (tt + 1)) v) F N a b (o' := dictOf es' n') (by rw [putName_dict, e1, e2]) rfl
  have D := (N _ md).1
  have D' := (U2 (dx, dictOf es' n') (List.mem_append_right _ (.head _))).1
  have hx := I.at_
  refine wpAny_bind (wpAny_pure (wpAny_bind (wpAny_bind (wpAny_loadPart hx (wpAny_bind ((looks_clsIn X hc).at ?_))))))
  rw [hdict]
  refine wpAny_pure (a := some dx) (wpAny_bind (wpAny_pure (wpAny_bind ?_)))
  unfold nsSet
  refine wpAny_bind (wpAny_bind (wpAny_askSetting (wpAny_pure (wpAny_bind (wpAny_mkText (wpAny_bind (wpAny_loadPart D ?_)))))))
  dsimp only
  have c : (!es.toArray.any (·.key.isStr name) && es.toArray.any (·.refKey)) = false := by
    rw [← Array.any_toList, ← Array.any_toList]
    have hl' : (lookIn name (dictOf es n)).isSome = true := by rw [lookIn_dict]; exact hl
    unfold lookIn at hl'
    dsimp only at hl'
    cases he : es.toArray.toList.find? (·.key.isStr name) with
    | some en => rw [List.any_eq_true.mpr ⟨en, List.mem_of_find?_eq_some he, List.find?_some he⟩]; rfl
    | none =>
      rw [he] at hl'
      cases z : es.toArray.toList.any (·.refKey) with
      | false => rw [Bool.and_false]
      | true => rw [z] at hl'; cases hl'
  rw [aRefKeyMayBeTheName_at, c]
  refine wpAny_updatePart D ?_
  refine wpAny_bind (wpAny_lookBehind D' (by exact pastItsLine_dict (by rw [List.size_toArray, sizeLine_eq]; omega)) ?_)
  exact wpAny_pure (h _ U1 U2)
end
section XH5
section
variable {M : Model} {A : Around} {E : Value → Shared → Prop} {s : Shared} {scope : Scope} {C b : Addr} {code : Value} {env : Env} {n : Str} {pos : Pos} {v : Value} {Q : Value → Shared → Prop} {g : Heap} {m mg mb : Str → Option Value} {K : Frag} {p : Program} {loose : List Str}
theorem genNameL (hv : m n = some v) (F : Fr g C s.heap m) (hl : scope.names.lookup n = some .local) (hk : scope.kind = .function) (hd : (n == ("__debug__" : Str)) = false) (h : Q v s) :
    wpAny M A (eval (.Name n pos) (genEnv scope [] C code b env)) Q E s := wpAny_Name (wpAny_loadName_local hk hl F.ns hv h) hd
theorem genNameB (hboot : bootBuiltins n = some v) (F : Fr g C s.heap m) (X : K.In g) (T : TopRead p loose mg mb g) (hg : env.globals = mainGlobals) (hl : scope.names.lookup n = some .globalImplicit) (hfree : nsIn K mainGlobals n = some none) (hk : scope.kind = .function) (hn : n ≠ "__name__") (hd : (n == ("__debug__" : Str)) = false) (h : Q v s) :
    wpAny M A (eval (.Name n pos) (genEnv scope [] C code builtinsNs env)) Q E s :=
  wpAny_Name (ks_loadName_global hk hl (loadGlobal_builtin (env := genEnv scope [] C code builtinsNs env) (by rw [show (genEnv scope [] C code builtinsNs env).globals = mainGlobals from hg]; exact T.g.keeps F.keep) (mg_none_of X T.g hfree) (T.b.keeps F.keep) ((T.builtins _ hn).trans hboot) h)) hd
end
noncomputable abbrev genScopeL : Scope := { kind := ScopeKind.function, names := [(Str.ofString ".0", NameKind.local), (Str.ofString "fws", NameKind.local), (Str.ofString "part", NameKind.local), (Str.ofString "len", NameKind.globalImplicit)], isGenerator := true, isCoroutine := false }
set_option maxHeartbeats 1000000 in
theorem len_elt {w : World} {A : Around} {E : Value → Shared → Prop} {s : Shared} {mg mb : Str → Option Value} {g : Heap} {C : Addr} {m : Str → Option Value} {env : Env} {code : Value} {x y : Str} {tx ty : Tok} {p1 p2 p3 p4 p5 p6 p7 : Pos}
   (F : Fr g C s.heap m) (X : (fr.heap_1 w.params).In g) (T : TT mg mb g) (hg : env.globals = mainGlobals) (hx : m (Str.ofString "fws") = some (.str x tx)) (hy : m (Str.ofString "part") = some (.str y ty)) (lx : x.length ≤ 10000) (ly : y.length ≤ 10000) :
   wpAny (model (Challenge.rw_rs0167_01.row.prog) w) A (eval (.BinOp (.Call (.Name (Str.ofString "len") p1) [.Name (Str.ofString "fws") p2] [] p3) .Add (.Call (.Name (Str.ofString "len") p4) [.Name (Str.ofString "part") p5] [] p6) p7) (genEnv genScopeL [] C code builtinsNs env))
     (fun v s₃ => (∃ t, v = .int ((x.length + y.length : Nat) : Int) t) ∧ Keeps s s₃) E s := by
  revert X; k_fill; intro X
  have bl : bootBuiltins (Str.ofString "len") = some (.builtin "len") := by decide +kernel
  have nl : nsIn (fr.heap_1 w.params) mainGlobals (Str.ofString "len") = some none := by k_is
  refine wpAny_BinOp (Call_ (genNameB bl F X T hg rfl nl rfl (by decide +kernel) (by decide +kernel) ?_))
  refine callWith_builtin1 (args_cons (genNameL hx F rfl rfl (by decide +kernel) (args_nil (lenS (by omega) ?_))))
  refine Call_ (genNameB bl F X T hg rfl nl rfl (by decide +kernel) (by decide +kernel) ?_)
  refine callWith_builtin1 (args_cons (genNameL hy F rfl rfl (by decide +kernel) (args_nil (lenS (by omega) ?_))))
  refine add_int ?_
  exact ⟨⟨_, rfl⟩, _, _, rfl, fun _ _ e => e⟩
theorem genNameG {M : Model} {A : Around} {E : Value → Shared → Prop} {s : Shared} {scope : Scope} {C b : Addr} {code : Value} {env : Env} {n : Str} {pos : Pos} {v : Value} {Q : Value → Shared → Prop} {g : Heap} {m mg mb : Str → Option Value} {K : Frag} {p : Program} {loose : List Str} (F : Fr g C s.heap m) (X : K.In g) (T : TopRead p loose mg mb g) (hg : env.globals = mainGlobals) (hl : scope.names.lookup n = some .globalImplicit) (hv : nsIn K mainGlobals n = some (some v)) (hk : scope.kind = .function) (hd : (n == ("__debug__" : Str)) = false) (h : Q v s) :
    wpAny M A (eval (.Name n pos) (genEnv scope [] C code b env)) Q E s :=
  wpAny_Name (ks_loadName_global hk hl (loadGlobal_global (env := genEnv scope [] C code b env) (by rw [show (genEnv scope [] C code b env).globals = mainGlobals from hg]; exact T.g.keeps F.keep) (mg_of X T.g hv) h)) hd
noncomputable abbrev posS1 : Pos := { line := 96, col := 33, endLine := 96, endCol := 49 }
noncomputable abbrev posS2 : Pos := { line := 96, col := 33, endLine := 96, endCol := 62 }
local macro_rules | `(tactic| walk_at "eval Name") => `(tactic| (k_here; (with_reducible show wpAny _ _ (eval _ (genEnv _ _ _ _ _ _)) _ _ _); first
  | refine genNameL (by assumption) (by k_asm) rfl rfl (by decide +kernel) ?_
  | refine genNameG (by k_asm) (by assumption) (by assumption) (by assumption) rfl (by assumption) rfl (by decide +kernel) ?_))
theorem newTup {M : Model} {A : Around} {E : Value → Shared → Prop} {s : Shared} {vs : List Value} {Q : Value → Shared → Prop} (hz : vs.length ≤ 1000) (h : Q (.ref s.heap.objs.size) { s with heap := s.heap.push { cls := .type "tuple", data := .seq vs.toArray } }) : wpAny M A (newTuple vs) Q E s :=
  wpAny_newObj_type h (by show vs.toArray.size ≤ sizeLine; rw [List.size_toArray, sizeLine_eq]; omega)
local macro_rules | `(tactic| walk_at "newTuple") => `(tactic| refine newTup (Nat.le_of_ble_eq_true rfl) ?_)
noncomputable abbrev genScopeS : Scope := { kind := ScopeKind.function, names := [(Str.ofString ".0", NameKind.local), (Str.ofString "fws", NameKind.local), (Str.ofString "part", NameKind.local), (Str.ofString "EMPTYSTRING", NameKind.globalImplicit)], isGenerator := true, isCoroutine := false }
set_option maxHeartbeats 1000000 in
theorem str_elt {w : World} {A : Around} {E : Value → Shared → Prop} {s : Shared} {mg mb : Str → Option Value} {g : Heap} {C : Addr} {m : Str → Option Value} {env : Env} {code : Value} {x y : Str} {tx ty : Tok} {p1 p3 p4 p5 : Pos}
   (F : Fr g C s.heap m) (X : (fr.heap_1 w.params).In g) (T : TT mg mb g) (hg : env.globals = mainGlobals) (hx : m (Str.ofString "fws") = some (.str x tx)) (hy : m (Str.ofString "part") = some (.str y ty)) (lx : x.length ≤ 10000) (ly : y.length ≤ 10000) :
   wpAny (model (Challenge.rw_rs0167_01.row.prog) w) A (eval (.Call (.Attribute (.Name (Str.ofString "EMPTYSTRING") p1) (Str.ofString "join") posS1) [.Tuple [.Name (Str.ofString "fws") p3, .Name (Str.ofString "part") p4] 0 p5] [] posS2) (genEnv genScopeS [] C code builtinsNs env))
     (fun v s₃ => (∃ t, v = .str (x ++ y) t) ∧ Keeps s s₃) E s := by
  revert X; k_fill; intro X
  obtain ⟨te, ne⟩ : ∃ te, nsIn (fr.heap_1 w.params) mainGlobals (Str.ofString "EMPTYSTRING") = some (some (.str (Str.ofString "") te)) := ⟨_, by k_is⟩
  have N : News g C s.heap [] := News.nil
  kwd_rel
  refine join_tupleW (x := Str.ofString "") (items := #[.str x tx, .str y ty]) (ys := [x, y]) ?hl (.cons _ _ (.cons _ _ .nil)) (by decide) (by simp; omega) ?_
  case hl => exact ⟨_, Heap.get?_push_size _ rfl, rfl, 0, rfl⟩
  intro t' k
  refine ⟨⟨t', ?_⟩, _, _, rfl, fun b o e => Heap.get?_push_of_some _ e⟩
  have e : Txt.join (Str.ofString "") [x, y] = x ++ y := by
    show x ++ Str.ofString "" ++ y = x ++ y
    rw [Str.append_right_empty (x := x) (y := Str.ofString "") (by decide)]
  rw [← e]
end XH5
inductive CksAt (h : Heap) : List Value → List (Str × Str) → Prop
  | nil : CksAt h [] []
  | cons {T : Addr} {c : Str × Str} {tf tp : Tok} {n : Nat} {vs : List Value} {cs : List (Str × Str)} : h.get? T = some { cls := .type "tuple", data := .seq #[.str c.1 tf, .str c.2 tp] n } → CksAt h vs cs → CksAt h (.ref T :: vs) (c :: cs)
theorem CksAt.length {h : Heap} {vs : List Value} {cs : List (Str × Str)} (x : CksAt h vs cs) : vs.length = cs.length := by
  induction x with
  | nil => rfl
  | cons _ _ ih => simp [ih]
theorem CksAt.items {h : Heap} {vs : List Value} {cs : List (Str × Str)} (x : CksAt h vs cs) :
    ∃ (Ts : Nat → Addr) (vals : Nat → Array Value), ∀ j, j < vs.length → vs[j]? = some (.ref (Ts j)) ∧ h.IsTuple (Ts j) (vals j) ∧ ∃ c tf tp, cs[j]? = some c ∧ vals j = #[.str c.1 tf, .str c.2 tp] := by
  induction x with
  | nil => exact ⟨fun _ => 0, fun _ => #[], fun j hj => absurd hj (Nat.not_lt_zero _)⟩
  | @cons T c tf tp n vs cs e _ ih =>
    obtain ⟨Ts, vals, k⟩ := ih
    refine ⟨fun j => match j with | 0 => T | j + 1 => Ts j, fun j => match j with | 0 => #[.str c.1 tf, .str c.2 tp] | j + 1 => vals j, fun j hj => ?_⟩
    cases j with
    | zero => exact ⟨rfl, ⟨_, e, rfl, _, rfl⟩, c, tf, tp, rfl, rfl⟩
    | succ j => exact k j (by simpa using hj)
noncomputable def cksLen (cs : List (Str × Str)) : Nat := (cs.map fun c => c.1.length + c.2.length).sum
theorem preSum_cks (cs : List (Str × Str)) : ∀ j, j ≤ cs.length → preSum (fun j => (((cs.getD j default).1.length + (cs.getD j default).2.length : Nat) : Int)) j = (cksLen (cs.take j) : Int) := by
  intro j
  induction j with
  | zero => intro _; simp [preSum, cksLen]
  | succ j ih =>
    intro hj
    simp only [preSum]
    rw [ih (by omega), List.take_add_one, List.getElem?_eq_getElem (by omega), Option.toList_some]
    simp only [cksLen, List.map_append, List.sum_append, List.map_cons, List.map_nil, List.sum_cons, List.sum_nil, List.getD_eq_getElem?_getD, List.getElem?_eq_getElem (show j < cs.length by omega), Option.getD_some]
    push_cast
    omega
theorem cksLen_take (cs : List (Str × Str)) (j : Nat) : cksLen (cs.take j) ≤ cksLen cs := by
  have : cksLen cs = cksLen (cs.take j) + cksLen (cs.drop j) := by
    conv => lhs; rw [← List.take_append_drop j cs]
    simp only [cksLen, List.map_append, List.sum_append]
  omega
theorem mem_cks {cs : List (Str × Str)} {c : Str × Str} (h : c ∈ cs) : c.1.length + c.2.length ≤ cksLen cs := by
  induction cs with
  | nil => cases h
  | cons x l ih =>
    simp only [cksLen, List.map_cons, List.sum_cons]
    rcases List.mem_cons.mp h with rfl | h
    · omega
    · have := ih h; simp only [cksLen] at this; omega
noncomputable def lenFv (cs : List (Str × Str)) (i : Nat) (v : Value) : Prop := ∃ t, v = .int (((cs.getD i default).1.length + (cs.getD i default).2.length : Nat) : Int) t
theorem cd144 (P : Params) : codeHdIn (fr.heap_1 P) 144 140 = true := by kernel_rfl
theorem cd151 (P : Params) : codeHdIn (fr.heap_1 P) 151 147 = true := by kernel_rfl
set_option maxHeartbeats 4000000 in
theorem len_spec {w : World} {A : Around} {s : Shared} {mg mb : Str → Option Value} {h₀ : Heap} {L bm : Addr} {ob : Obj} {m : Str → Option Value} {rest : List (Addr × Obj)} {a d : Addr} {its : List Value} {n : Nat} {t : Tok} {k : Nat} {tk₀ : Tok} {ps : Array Value} {cs : List (Str × Str)} {R : Result → Shared → Prop}
   (F : Fr h₀ L s.heap m) (X : (fr.heap_1 w.params).In h₀) (N : News h₀ L s.heap ((a, accObj d its n) :: (d, accDict w t (.int k tk₀)) :: (140, tabObj ps) :: rest)) (T : TT mg mb h₀) (BM : BMod h₀ mainGlobals mg bm ob) (hh : A.handled = none) (hdp : A.depth < 880)
   (hps : TriplesOk ps.toList) (hck : Ck rest fun h => CksAt h its cs) (hl : cksLen cs ≤ 10000) (hk : k ≤ 10000) (ha : a ≠ 140) (hd0 : d ≠ 140) (hr : ∀ p ∈ rest, p.1 ≠ 140)
   (hQ : ∀ h' g' tk t' ps', Fr h₀ L h' m → News h₀ L h' ((a, accObj d its n) :: (d, accDict w t (.int k tk₀)) :: (140, tabObj ps') :: rest) → TriplesOk ps'.toList → (AllBare s.gens → AllBare g') → R (.ok (.ret (.int ((k + cksLen cs : Nat) : Int) t'))) { s with heap := h', gens := g', toks := tk }) :
   codeAny (model (Challenge.rw_rs0167_01.row.prog) w) A (.call (.ref 145) ⟨[.ref a], []⟩) R s := by
  revert X; k_fill; intro X
  refine' codeL (binds := [(Str.ofString "self", .ref a)]) F X N T ?ho ?hcd ?hroom ?hb ?hl ?_ ?c1 ?c2 ?c3 ?c4
  kwd_inv
  intro g L' h₁ F₁ N₁ X₁ T₁ lt₁ st₁
  try dsimp only
  try k_fold
  kwd_rel
  have C₁ : CksAt h₁ its cs := hck h₁ fun p hp => (N₁ p (.tail _ (.tail _ (.tail _ hp)))).1
  obtain ⟨Ts, vals, hit⟩ := C₁.items
  have hcl : its.length = cs.length := C₁.length
  have nP := N₁ _ (.tail _ (.tail _ (.head _)))
  refine gen_acc (Fv := lenFv cs) (by exact hh) (by simp only [recursionLimit, depth_deeper]; omega) F₁ X₁ T₁.nolimit (BM.keeps st₁) (accInst N₁ (.head _) (.tail _ (.head _))) ?g1 ?g2 rfl (c := 144) (P := 140) ?g3 nP.1 hps nP.2.2 rfl rfl rfl ?g4 rfl rfl rfl ?g5 rfl ?g6 Ts vals ?g7 ?g8 ?g9 ?g10 ?g11 ?g12
  case g1 => k_is
  case g2 => k_is
  case g3 => exact codeHd_of_K (X₁.keeps F₁.keep) (cd144 _)
  case g4 => decide
  case g5 => decide
  case g6 =>
    intro Q' q
    kwd_rel
    exact q
  case g7 => intro j hj; simpa using (hit j (by simpa using hj)).1
  case g8 => intro j hj; exact (hit j (by simpa using hj)).2.1
  case g9 => intro j hj; obtain ⟨c, tf, tp, _, e⟩ := (hit j (by simpa using hj)).2.2; exact ⟨_, _, e⟩
  case g10 =>
    intro A' E' i va vb s₂ m₂ Cf code hA hD hi hv F₂ ha hb
    obtain ⟨c, tf, tp, ec, ev⟩ := (hit i (by simpa using hi)).2.2
    rw [ev] at hv
    obtain ⟨e1, e2⟩ : Value.str c.1 tf = va ∧ Value.str c.2 tp = vb := by simpa using congrArg Array.toList hv
    subst e1 e2
    have lc := mem_cks (List.mem_of_getElem? ec)
    refine wpAny_mono (len_elt F₂ X₁ T₁ rfl ha hb (by omega) (by omega)) (fun v s₃ q => ⟨?_, q.2⟩) fun _ _ z => z
    obtain ⟨t', e⟩ := q.1
    exact ⟨t', by rw [e, List.getD_eq_getElem?_getD, ec]; rfl⟩
  case g11 =>
    intro gg ps' h2 tk2 gs hgs hk2 hP2 hps2 hz2 G2
    have F2 : Fr g L' h2 (fun y => List.lookup y [(Str.ofString "self", Value.ref a)].reverse) := ⟨F₁.ns.at fun o e => hk2 _ o nP.2.1.symm e, fun b o e => hk2 b o (fun q => by rw [q, nP.2.2] at e; cases e) (F₁.keep b o e), F₁.above⟩
    have N2 : News g L' h2 ((a, accObj d its n) :: (d, accDict w t (.int k tk₀)) :: (140, tabObj ps') :: rest) := by
      have up : ∀ p ∈ (a, accObj d its n) :: (d, accDict w t (.int k tk₀)) :: (140, tabObj ps) :: rest, p.1 ≠ 140 → h2.get? p.1 = some p.2 ∧ p.1 ≠ L' ∧ g.get? p.1 = none := fun p hp q => ⟨hk2 _ _ q (N₁ p hp).1, (N₁ p hp).2⟩
      intro p hp
      rcases List.mem_cons.mp hp with rfl | hp
      · exact up _ (.head _) ha
      rcases List.mem_cons.mp hp with rfl | hp
      · exact up _ (.tail _ (.head _)) hd0
      rcases List.mem_cons.mp hp with rfl | hp
      · exact ⟨hP2, nP.2⟩
      · exact up _ (.tail _ (.tail _ (.tail _ hp))) (hr p hp)
    have lo1 : L' < h₁.objs.size := F₁.ns.lt
    have lo2 : ∀ b o, g.get? b = some o → b < h₁.objs.size := fun b o e => Heap.lt_size (F₁.keep b o e)
    have lo3 : ∀ p ∈ (a, accObj d its n) :: (d, accDict w t (.int k tk₀)) :: (140, tabObj ps') :: rest, p.1 < h₁.objs.size := by
      have z : ∀ p ∈ (a, accObj d its n) :: (d, accDict w t (.int k tk₀)) :: (140, tabObj ps) :: rest, p.1 < h₁.objs.size := fun p hp => Heap.lt_size (N₁ p hp).1
      intro p hp
      rcases List.mem_cons.mp hp with rfl | hp
      · exact z (a, accObj d its n) (.head _)
      rcases List.mem_cons.mp hp with rfl | hp
      · exact z (d, accDict w t (.int k tk₀)) (.tail _ (.head _))
      rcases List.mem_cons.mp hp with rfl | hp
      · exact z (140, tabObj ps) (.tail _ (.tail _ (.head _)))
      · exact z p (.tail _ (.tail _ (.tail _ hp)))
    clear F₁ N₁
    kwd_rel
    refine sum_gen (G2.keep (fun _ _ e => e) (Nat.le_refl _) (Nat.le_succ _)) ⟨by omega, by omega⟩ (fun j => (((cs.getD j default).1.length + (cs.getD j default).2.length : Nat) : Int)) (fun j v hv => hv) ?_ ?_
    · intro j hj
      have hj' : j < cs.length := by rw [← hcl]; simpa using hj
      rw [preSum_cks cs (j + 1) hj']
      have z1 := cksLen_take cs (j + 1)
      have z2 := mem_cks (cs := cs) (c := cs[j]) (List.getElem_mem hj')
      have z3 : cs.getD j default = cs[j] := by rw [List.getD_eq_getElem?_getD, List.getElem?_eq_getElem hj', Option.getD_some]
      simp only [z3]
      exact ⟨⟨by omega, by omega⟩, by omega, by omega⟩
    · rintro s' t' ⟨h3, g3, tk3, rfl, k3, b3⟩
      have F3 : Fr g L' h3 (fun y => List.lookup y [(Str.ofString "self", Value.ref a)].reverse) := ⟨F2.ns.at fun o e => k3 _ o lo1 e, fun b o e => k3 b o (lo2 b o e) (F2.keep b o e), F2.above⟩
      have N3 : News g L' h3 ((a, accObj d its n) :: (d, accDict w t (.int k tk₀)) :: (140, tabObj ps') :: rest) := fun p hp => ⟨k3 _ _ (lo3 p hp) (N2 p hp).1, (N2 p hp).2⟩
      clear F2 N2 G2
      rw [show its.toArray.size = cs.length by rw [List.size_toArray, hcl], preSum_cks cs cs.length (Nat.le_refl _), List.take_length]
      kwd_rel
      exact hQ h3 g3 tk3 t' ps' (by assumption) (by assumption) hps2 fun x => b3 (x.push hgs)
  case g12 => intro x; rfl
noncomputable def cksStr (cs : List (Str × Str)) : Str := Txt.join (Str.ofString "") (cs.map fun c => c.1 ++ c.2)
theorem range_cks {α : Type} (cs : List (Str × Str)) (f : Str × Str → α) : (List.range cs.length).map (fun j => f (cs.getD j default)) = cs.map f := by
  conv => rhs; rw [← range_getD cs default]
  rw [List.map_map]; rfl
theorem sum_cks (cs : List (Str × Str)) : ((cs.map fun c => c.1 ++ c.2).map (·.length)).sum = cksLen cs := by
  simp only [cksLen, List.map_map]
  congr 1
  refine List.map_congr_left fun c _ => ?_
  simp [Str.length_append]
noncomputable def strFv (cs : List (Str × Str)) (i : Nat) (v : Value) : Prop := ∃ t, v = .str ((cs.getD i default).1 ++ (cs.getD i default).2) t
set_option maxHeartbeats 4000000 in
theorem str_spec {w : World} {A : Around} {s : Shared} {mg mb : Str → Option Value} {h₀ : Heap} {L bm : Addr} {ob : Obj} {m : Str → Option Value} {rest : List (Addr × Obj)} {a d : Addr} {its : List Value} {n : Nat} {t : Tok} {k : Nat} {tk₀ : Tok} {ps : Array Value} {cs : List (Str × Str)} {R : Result → Shared → Prop}
   (F : Fr h₀ L s.heap m) (X : (fr.heap_1 w.params).In h₀) (N : News h₀ L s.heap ((a, accObj d its n) :: (d, accDict w t (.int k tk₀)) :: (147, tabObj ps) :: rest)) (T : TT mg mb h₀) (BM : BMod h₀ mainGlobals mg bm ob) (hh : A.handled = none) (hdp : A.depth < 880)
   (hps : TriplesOk ps.toList) (hck : Ck rest fun h => CksAt h its cs) (hl : cksLen cs ≤ 10000) (hn : cs.length ≤ 1000) (hk : k ≤ 10000) (ha : a ≠ 147) (hd0 : d ≠ 147) (hr : ∀ p ∈ rest, p.1 ≠ 147)
   (hQ : ∀ h' g' tk t' ps', Fr h₀ L h' m → News h₀ L h' ((a, accObj d its n) :: (d, accDict w t (.int k tk₀)) :: (147, tabObj ps') :: rest) → TriplesOk ps'.toList → (AllBare s.gens → AllBare g') → R (.ok (.ret (.str (cksStr cs) t'))) { s with heap := h', gens := g', toks := tk }) :
   codeAny (model (Challenge.rw_rs0167_01.row.prog) w) A (.call (.ref 152) ⟨[.ref a], []⟩) R s := by
  revert X; k_fill; intro X
  refine' codeL (binds := [(Str.ofString "self", .ref a)]) F X N T ?ho ?hcd ?hroom ?hb ?hl ?_ ?c1 ?c2 ?c3 ?c4
  kwd_inv
  intro g L' h₁ F₁ N₁ X₁ T₁ lt₁ st₁
  try dsimp only
  try k_fold
  kwd_rel
  have C₁ : CksAt h₁ its cs := hck h₁ fun p hp => (N₁ p (.tail _ (.tail _ (.tail _ hp)))).1
  obtain ⟨Ts, vals, hit⟩ := C₁.items
  have hcl : its.length = cs.length := C₁.length
  have nP := N₁ _ (.tail _ (.tail _ (.head _)))
  refine gen_acc (Fv := strFv cs) (by exact hh) (by simp only [recursionLimit, depth_deeper]; omega) F₁ X₁ T₁.nolimit (BM.keeps st₁) (accInst N₁ (.head _) (.tail _ (.head _))) ?g1 ?g2 rfl (c := 151) (P := 147) ?g3 nP.1 hps nP.2.2 rfl rfl rfl ?g4 rfl rfl rfl ?g5 rfl ?g6 Ts vals ?g7 ?g8 ?g9 ?g10 ?g11 ?g12
  case g1 => k_is
  case g2 => k_is
  case g3 => exact codeHd_of_K (X₁.keeps F₁.keep) (cd151 _)
  case g4 => decide
  case g5 => decide
  case g6 =>
    intro Q' q
    kwd_rel
    exact q
  case g7 => intro j hj; simpa using (hit j (by simpa using hj)).1
  case g8 => intro j hj; exact (hit j (by simpa using hj)).2.1
  case g9 => intro j hj; obtain ⟨c, tf, tp, _, e⟩ := (hit j (by simpa using hj)).2.2; exact ⟨_, _, e⟩
  case g10 =>
    intro A' E' i va vb s₂ m₂ Cf code hA hD hi hv F₂ ha hb
    obtain ⟨c, tf, tp, ec, ev⟩ := (hit i (by simpa using hi)).2.2
    rw [ev] at hv
    obtain ⟨e1, e2⟩ : Value.str c.1 tf = va ∧ Value.str c.2 tp = vb := by simpa using congrArg Array.toList hv
    subst e1 e2
    have lc := mem_cks (List.mem_of_getElem? ec)
    refine wpAny_mono (str_elt F₂ X₁ T₁ rfl ha hb (by omega) (by omega)) (fun v s₃ q => ⟨?_, q.2⟩) fun _ _ z => z
    obtain ⟨t', e⟩ := q.1
    exact ⟨t', by rw [e, List.getD_eq_getElem?_getD, ec]; rfl⟩
  case g11 =>
    intro gg ps' h2 tk2 gs hgs hk2 hP2 hps2 hz2 G2
    have F2 : Fr g L' h2 (fun y => List.lookup y [(Str.ofString "self", Value.ref a)].reverse) := ⟨F₁.ns.at fun o e => hk2 _ o nP.2.1.symm e, fun b o e => hk2 b o (fun q => by rw [q, nP.2.2] at e; cases e) (F₁.keep b o e), F₁.above⟩
    have N2 : News g L' h2 ((a, accObj d its n) :: (d, accDict w t (.int k tk₀)) :: (147, tabObj ps') :: rest) := by
      have up : ∀ p ∈ (a, accObj d its n) :: (d, accDict w t (.int k tk₀)) :: (147, tabObj ps) :: rest, p.1 ≠ 147 → h2.get? p.1 = some p.2 ∧ p.1 ≠ L' ∧ g.get? p.1 = none := fun p hp q => ⟨hk2 _ _ q (N₁ p hp).1, (N₁ p hp).2⟩
      intro p hp
      rcases List.mem_cons.mp hp with rfl | hp
      · exact up _ (.head _) ha
      rcases List.mem_cons.mp hp with rfl | hp
      · exact up _ (.tail _ (.head _)) hd0
      rcases List.mem_cons.mp hp with rfl | hp
      · exact ⟨hP2, nP.2⟩
      · exact up _ (.tail _ (.tail _ (.tail _ hp))) (hr p hp)
    have lo1 : L' < h₁.objs.size := F₁.ns.lt
    have lo2 : ∀ b o, g.get? b = some o → b < h₁.objs.size := fun b o e => Heap.lt_size (F₁.keep b o e)
    have lo3 : ∀ p ∈ (a, accObj d its n) :: (d, accDict w t (.int k tk₀)) :: (147, tabObj ps') :: rest, p.1 < h₁.objs.size := by
      have z : ∀ p ∈ (a, accObj d its n) :: (d, accDict w t (.int k tk₀)) :: (147, tabObj ps) :: rest, p.1 < h₁.objs.size := fun p hp => Heap.lt_size (N₁ p hp).1
      intro p hp
      rcases List.mem_cons.mp hp with rfl | hp
      · exact z (a, accObj d its n) (.head _)
      rcases List.mem_cons.mp hp with rfl | hp
      · exact z (d, accDict w t (.int k tk₀)) (.tail _ (.head _))
      rcases List.mem_cons.mp hp with rfl | hp
      · exact z (147, tabObj ps) (.tail _ (.tail _ (.head _)))
      · exact z p (.tail _ (.tail _ (.tail _ hp)))
    clear F₁ N₁
    kwd_rel
    have hsz : its.toArray.size = cs.length := by rw [List.size_toArray, hcl]
    rw [hsz] at G2
    refine join_gen_of (G2.keep (fun _ _ e => e) (Nat.le_refl _) (Nat.le_refl _)) (fun j => (cs.getD j default).1 ++ (cs.getD j default).2) (fun j v hv => hv) ?_ ?_ ?_
    · rw [range_cks cs (fun c => c.1 ++ c.2)]
      refine joinOk_of ?_
      rw [sum_cks, show (Str.ofString "").length = 0 from rfl]
      omega
    · rintro s' t' ⟨h3, g3, tk3, rfl, k3, b3⟩
      have F3 : Fr g L' h3 (fun y => List.lookup y [(Str.ofString "self", Value.ref a)].reverse) := ⟨F2.ns.at fun o e => k3 _ o lo1 e, fun b o e => k3 b o (lo2 b o e) (F2.keep b o e), F2.above⟩
      have N3 : News g L' h3 ((a, accObj d its n) :: (d, accDict w t (.int k tk₀)) :: (147, tabObj ps') :: rest) := fun p hp => ⟨k3 _ _ (lo3 p hp) (N2 p hp).1, (N2 p hp).2⟩
      clear F2 N2 G2
      kwd_rel
      rw [range_cks cs (fun c => c.1 ++ c.2)]
      exact hQ h3 g3 tk3 t' ps' (by assumption) (by assumption) hps2 fun x => b3 (x.push hgs)
    · rw [sizeLine_eq]; omega
  case g12 => intro x; rfl
section XH8
open PySem PySem.W PySem.Calls PyProof.Rows Builtin Builtin.ObjectAttr Builtin.Getset_descriptor
theorem ln_args (a v : Value) : argsOk "list.__new__" ⟨[a, v], []⟩ := by unfold argsOk; kernel_rfl
theorem ln_kind : builtinKind "list.__new__" = some .builtinFn := by decide +kernel
theorem ln_split : splitId "list.__new__" = some ("list", "__new__") := by decide +kernel
structure OverList (K : Frag) (C : Addr) (o : Obj) (cd : ClassData) : Prop where
  held : K.lookup C = some o
  cls : o.data = .cls cd
  flags : (cd.abstract || cd.hasDel || !cd.hasDict) = false
  new : o.slots[4]? = some (some (.builtin "list.__new__"))
  first : cd.mro.head? = some (.ref C)
  list : cd.mro.contains (.type "list") = true
  called : specialIn K (.ref C) "__call__" = some (some (.builtin "type.__call__"))
  isType : instIn K (.ref C) (.type "type") = some true
noncomputable def overList (K : Frag) (C : Addr) : Bool := (K.lookup C).any fun o => match o.data with
  | .cls cd => !(cd.abstract || cd.hasDel || !cd.hasDict) && o.slots[4]? == some (some (.builtin "list.__new__")) && cd.mro.head? == some (.ref C) && cd.mro.contains (.type "list") &&
      specialIn K (.ref C) "__call__" == some (some (.builtin "type.__call__")) && instIn K (.ref C) (.type "type") == some true
  | _ => false
theorem overList_of {K : Frag} {C : Addr} (e : overList K C = true) : ∃ o cd, OverList K C o cd := by
  obtain ⟨o, l, e⟩ := any_some e
  cases d : o.data with
  | cls cd =>
    simp only [d, Bool.and_eq_true, Bool.not_eq_true', beq_iff_eq] at e
    exact ⟨o, cd, l, d, e.1.1.1.1.1, e.1.1.1.1.2, e.1.1.1.2, e.1.1.2, e.1.2, e.2⟩
  | _ => simp [d] at e
section
variable {K : Frag} {M : Model} {h : Heap} {C : Addr} {o : Obj} {cd : ClassData}
theorem OverList.here (Y : OverList K C o cd) : clsIn K C = some cd := by
  obtain ⟨_, _, _, _⟩ := o
  cases Y.cls
  unfold clsIn; rw [Y.held]
theorem OverList.order (Y : OverList K C o cd) (X : K.In h) : Looks M h (mroOf (.ref C)) cd.mro := (looks_clsIn X Y.here).andThen .now
theorem OverList.more (Y : OverList K C o cd) : ∃ l, cd.mro = .ref C :: l := List.head?_eq_some_iff.mp Y.first
theorem OverList.below (Y : OverList K C o cd) (X : K.In h) {b : Value} (e : cd.mro.contains b = true) : Looks M h (isSubtype (.ref C) b) true := by
  refine looks_mroIn X ?_
  obtain ⟨l, q⟩ := Y.more
  simp only [mroIn, Y.here, Option.bind_some, e]
  rw [q]; rfl
theorem OverList.maker (Y : OverList K C o cd) (X : K.In h) : Looks M h (Bind.madeBy (.ref C)) (some "list.__new__") := fun A Q E s k q => by
  obtain ⟨l, e⟩ := Y.more
  have at_ := k _ _ (X _ _ Y.held)
  have n := Y.new
  unfold Bind.madeBy
  refine wpAny_bind (Y.order X A _ E s k ?_)
  rw [e, List.forIn_cons]
  wp_walk
  rw [n]
  wp_walk
  exact q
theorem OverList.base (Y : OverList K C o cd) (X : K.In h) : Looks M h (Bind.staticBase (.ref C)) (.ref C) := fun A Q E s k q => by
  obtain ⟨l, e⟩ := Y.more
  unfold Bind.staticBase
  refine wpAny_bind (Y.order X A _ E s k ?_)
  rw [e, List.forIn_cons]
  have mk : ∀ {Q}, Q (some "list.__new__") s → wpAny M A (Bind.madeBy (.ref C)) Q E s := fun q => Y.maker X A _ E s k q
  wp_walk using mk
  exact q
end
noncomputable abbrev listInst (C dx : Addr) : Obj := { cls := .ref C, dict := some dx, data := .seq #[] }
section
variable {prog : Program} {w : World} {A : Around} {K : Frag} {C : Addr} {R : Result → Shared → Prop} {h : Heap} {g : Array GenState} {d : Drawn} {t : Nat} {os : OsState} {o : Obj} {cd : ClassData}
theorem newL {v : Value} (Y : OverList K C o cd) (X : K.In h) (q : R (.ok (.ret (.ref (h.objs.size + 1)))) ⟨(h.push emptyDict).push (listInst C h.objs.size), g, d, t, os⟩) :
    codeAny (model prog w) A (.call (.builtin "list.__new__") ⟨[.ref C, v], []⟩) R ⟨h, g, d, t, os⟩ := by
  have at_ := X _ _ Y.held
  have quiet : cd.hasDel = false := by
    have f := Y.flags
    simp only [Bool.or_eq_false_iff] at f
    exact f.1.2
  have top := Y.below (M := model prog w) X Y.list
  have base := Y.base (M := model prog w) X
  have made := Y.maker (M := model prog w) X
  have isT : Looks (model prog w) h (isType (.ref C)) true := by
    obtain ⟨_, _, _, _⟩ := o
    cases Y.cls
    exact (Looks.ld at_).andThen .now
  refine codeAny_call_builtin_code (plainId_quiet PySem.F.plain_list_new _) ?_
  have body : codeAny (model prog w) A (.builtin "list.__new__" ⟨[.ref C, v], []⟩) R ⟨h, g, d, t, os⟩ := by
    refine codeAny_builtin_stack PySem.F.entry_list_new rfl fun p st => ?_
    rw [Around.under_plainId PySem.F.plain_list_new _]
    simp only [owner_list_new]
    have f1 : ∀ {A : Around} {E : Value → Shared → Prop} {Q : Bool → Shared → Prop}, Q true ⟨h, g, d, t, os⟩ → wpAny (model prog w) A (isType (.ref C)) Q E ⟨h, g, d, t, os⟩ := fun q => isT.at q
    have f2 : ∀ {A : Around} {E : Value → Shared → Prop} {Q : Bool → Shared → Prop}, Q true ⟨h, g, d, t, os⟩ → wpAny (model prog w) A (isSubtype (.ref C) (.type "list")) Q E ⟨h, g, d, t, os⟩ := fun q => top.at q
    wp_walk using f1, f2
    rw [Y.cls]
    wp_walk
    rw [Heap.size_push]
    exact q
  have args := ln_args (.ref C) v
  revert args
  unfold checkBuiltinCall argsOk
  rw [ln_kind, ln_split]
  generalize Manifest.canonical = plainName
  generalize Manifest.signature? "list.__new__" = sig
  have g1 : ∀ {A : Around} {E : Value → Shared → Prop} {Q : Bool → Shared → Prop}, Q true ⟨h, g, d, t, os⟩ → wpAny (model prog w) A (isType (.ref C)) Q E ⟨h, g, d, t, os⟩ := fun q => isT.at q
  have g2 : ∀ {A : Around} {E : Value → Shared → Prop} {Q : Bool → Shared → Prop}, Q true ⟨h, g, d, t, os⟩ → wpAny (model prog w) A (isSubtype (.ref C) (.type "list")) Q E ⟨h, g, d, t, os⟩ := fun q => top.at q
  have g3 : ∀ {A : Around} {E : Value → Shared → Prop} {Q : Value → Shared → Prop}, Q (.ref C) ⟨h, g, d, t, os⟩ → wpAny (model prog w) A (Bind.staticBase (.ref C)) Q E ⟨h, g, d, t, os⟩ := fun q => base.at q
  have g4 : ∀ {A : Around} {E : Value → Shared → Prop} {Q : Option String → Shared → Prop}, Q (some "list.__new__") ⟨h, g, d, t, os⟩ → wpAny (model prog w) A (Bind.madeBy (.ref C)) Q E ⟨h, g, d, t, os⟩ := fun q => made.at q
  intro args
  have rest : (match sig with | some r => Bind.checkArgs "list.__new__" r ⟨[.ref C, v], []⟩ | _ => pure ()) = pure () := by
    cases sig with
    | none => rfl
    | some r => exact args
  wp_walk using g1, g2, g3, g4
  exact wpAny_of_eq rest body
theorem make_L {v : Value} {fI : Addr} (Y : OverList K C o cd) (X : K.In h) (hi : findIn K (.ref C) "__init__" = some (some (.ref fI))) (hf : typeIn K (.ref fI) = some (.type "function"))
    (hq : codeAny (model prog w) (A.under (.builtin "type.__call__" ⟨[.ref C, v], []⟩)) (.call (.ref fI) ⟨[.ref (h.objs.size + 1), v], []⟩) (InitBack (h.objs.size + 1) R) ⟨(h.push emptyDict).push (listInst C h.objs.size), g, d, t, os⟩) :
    codeAny (model prog w) A (.call (.ref C) ⟨[v], []⟩) R ⟨h, g, d, t, os⟩ := by
  have at_ := X _ _ Y.held
  have isCls := Y.cls
  have called := looks_specialIn (M := model prog w) X Y.called
  refine codeAny_of_tree ?_
  show wpAny _ _ (callAny (.ref C) _) _ _ _
  unfold callAny
  wp_walk
  rw [isCls]
  have c1 : ∀ {A : Around} {E : Value → Shared → Prop} {Q : Option Value → Shared → Prop}, Q (some (.builtin "type.__call__")) ⟨h, g, d, t, os⟩ → wpAny (model prog w) A (specialOf (.ref C) "__call__") Q E ⟨h, g, d, t, os⟩ := fun q => called.at q
  have c2 := tc_bind (.ref C)
  wp_walk using c1
  refine ⟨rfl, ?_⟩
  show codeAny (model prog w) A (.call (.builtin "type.__call__") ⟨[.ref C, v], []⟩) R _
  refine codeAny_call_builtin_at (Code.quiet_builtin _ (by decide +kernel)) entry_typeCall ?_
  with_reducible refine check_slot tc_kind tc_split (looks_instIn X Y.isType) (tc_args _ _ _) ?_
  have d1 : ∀ {A : Around} {E : Value → Shared → Prop} {Q : List Value → Shared → Prop}, Q cd.mro ⟨h, g, d, t, os⟩ → wpAny (model prog w) A (mroOf (.ref C)) Q E ⟨h, g, d, t, os⟩ := fun q => (Y.order X).at q
  have d2 : ∀ {A : Around} {E : Value → Shared → Prop} {Q : Option String → Shared → Prop}, Q (some "list.__new__") ⟨h, g, d, t, os⟩ → wpAny (model prog w) A (Bind.madeBy (.ref C)) Q E ⟨h, g, d, t, os⟩ := fun q => (Y.maker X).at q
  have full : cd.mro.isEmpty = false := by obtain ⟨_, e⟩ := Y.more; rw [e]; rfl
  unfold Builtin.«type.__call__»
  wp_walk using d1, d2
  refine newL Y X ?_
  have up : ∀ b o, h.get? b = some o → ((h.push emptyDict).push (listInst C h.objs.size)).get? b = some o := fun b o e => Heap.get?_push_of_some _ (Heap.get?_push_of_some _ e)
  have inst : ((h.push emptyDict).push (listInst C h.objs.size)).get? (h.objs.size + 1) = some (listInst C h.objs.size) := Heap.get?_push_at (by rw [Heap.size_push]) rfl
  have l1 := (Y.below (M := model prog w) X (b := .ref C) (by obtain ⟨_, e⟩ := Y.more; rw [e]; simp)).keeps up
  have l2 := (looks_findIn (M := model prog w) X hi).keeps up
  have l3 := (bind_fn (M := model prog w) X (.ref (h.objs.size + 1)) hf).keeps up
  generalize (h.push emptyDict).push (listInst C h.objs.size) = H at *
  have f1 : ∀ {A : Around} {E : Value → Shared → Prop} {Q : Bool → Shared → Prop}, Q true ⟨H, g, d, t, os⟩ → wpAny (model prog w) A (isSubtype (.ref C) (.ref C)) Q E ⟨H, g, d, t, os⟩ := fun q => l1.at q
  have f2 : ∀ {A : Around} {E : Value → Shared → Prop} {Q : Option Value → Shared → Prop}, Q (some (.ref fI)) ⟨H, g, d, t, os⟩ → wpAny (model prog w) A (typeLookup (.ref C) "__init__") Q E ⟨H, g, d, t, os⟩ := fun q => l2.at q
  have f3 : ∀ {A : Around} {E : Value → Shared → Prop} {Q : Value × List Value → Shared → Prop}, Q (.ref fI, [.ref (h.objs.size + 1)]) ⟨H, g, d, t, os⟩ → wpAny (model prog w) A (bindSpecial (.ref fI) (.ref (h.objs.size + 1))) Q E ⟨H, g, d, t, os⟩ := fun q => l3.at q
  generalize h.objs.size + 1 = x at *
  dsimp only
  wp_walk using f1, f2, f3
  refine codeAny_mono hq ?_
  rintro (_ | ⟨_ | _ | _ | _⟩) u z
  case ok.ret =>
    cases z.1
    exact wpAny_pure (wpAny_pure z.2)
  all_goals exact z
end
end XH8
theorem noSeq178 (P : Params) : noSeq (fr.heap_1 P) 178 = true := by kernel_rfl
section
variable {prog : Program} {w : World} {A : Around} {E : Value → Shared → Prop} {s : Shared} {K : Frag} {x C : Addr} {od : Option Obj} {ox : Obj} {items : Array Value} {n : Nat}
theorem special_bi {name : Str} {i : String} {args : List Value} {Q : Option Value → Shared → Prop} (X : K.In s.heap) (I : PySem.W.InstAt s.heap x ox C od) (hf : findIn K (.ref C) name = some (some (.builtin i)))
    (hb : bindSpecial (.builtin i) (.ref x) = pure (.builtin i, [.ref x])) (h : wpAny (model prog w) A (call (.builtin i) (.ref x :: args)) (fun v => Q (some v)) E s) : wpAny (model prog w) A (callSpecial? (.ref x) name args) Q E s := by
  unfold callSpecial? specialOf
  refine wpAny_bind (wpAny_bind (I.type.here ((looks_findIn X hf).here ?_)))
  dsimp only
  refine wpAny_holding ?_
  rw [hb]
  exact wpAny_bind (wpAny_pure (wpAny_bind (wpAny_mono h (fun _ _ z => wpAny_pure z) fun _ _ z => z)))
theorem getItem_L {k : Value} {Q : Value → Shared → Prop} (X : K.In s.heap) (I : PySem.W.InstAt s.heap x ox C od) (hq : noSeq K C = true) (hsub : subIn K (.ref C) (.type "list") = some true) (hf : findIn K (.ref C) "__getitem__" = some (some (.builtin "list.__getitem__")))
    (h : wpAny (model prog w) A.in1 (Builtin.«list.__getitem__» ⟨[.ref x, k], []⟩) (fun fin s' => ∃ v, fin = .done (.ret v) ∧ Q v s') E s) : wpAny (model prog w) A (getItem (.ref x) k) Q E s := by
  unfold getItem sequenceKey
  refine wpAny_holding (wpAny_bind (wpAny_bind (I.type.here ?_)))
  refine wpAny_bind ((anyM_none X hq).here ?_)
  refine wpAny_ite_true (decide_eq_true (show (!false) = true from rfl)) ?_
  refine wpAny_pure (wpAny_bind (special_bi X I hf (slot_list_getitem.bind _) ?_))
  refine wpAny_mono (Q := Q) (wpAny_call (codeAny_call_builtin slot_list_getitem.plain entry_list_getitem ?_)) (fun v s' q => wpAny_pure q) fun _ _ z => z
  refine @check_meth (model prog w) A.in1 _ s "list.__getitem__" "list" "__getitem__" (.ref x) [k] _ lm_getitem (accIs X I hsub) (args_list_getitem _ _) ?_
  refine wpAny_mono h (fun fin s' h' => ?_) fun _ _ z => z
  obtain ⟨v, rfl, hv⟩ := h'; exact hv
theorem getItem_L_int {k : Int} {t : Tok} {v : Value} {Q : Value → Shared → Prop} (X : K.In s.heap) (I : PySem.W.InstAt s.heap x ox C od) (hd : ox.data = .seq items n) (hq : noSeq K C = true) (hsub : subIn K (.ref C) (.type "list") = some true) (hf : findIn K (.ref C) "__getitem__" = some (some (.builtin "list.__getitem__")))
    (h0 : 0 ≤ k) (hfit : k < 2 ^ 63) (hx : items[k.toNat]? = some v) (h : Q v s) : wpAny (model prog w) A (getItem (.ref x) (.int k t)) Q E s := by
  have sub : ∀ {A : Around} {E : Value → Shared → Prop} {Q : Option Int → Shared → Prop}, Q (some k) s → wpAny (model prog w) A (Builtin.List.listSubscript? (.int k t)) Q E s := wpAny_listSubscript_int (fitsIndex_of h0 hfit)
  clear hfit
  refine getItem_L X I hq hsub hf ?_
  unfold Builtin.«list.__getitem__»
  wp_walk using sub
  obtain ⟨j, rfl⟩ := Int.eq_ofNat_of_zero_le h0
  refine wpAny_bind (wpAny_seqItemAt I.at_ hd (wpAny_pure ?_))
  rw [show items[j]? = some v from hx]
  exact wpAny_pure ⟨v, rfl, h⟩
theorem slice_parts {M : Model} {sl : Addr} {vl vu vs : Value} {lo hi st : Option Int} {Q : Value × Value × Value → Shared → Prop} (hs : s.heap.IsSliceOf sl vl vu vs) (pl : IsPart vl lo) (pu : IsPart vu hi) (ps : IsPart vs st) (h0 : st ≠ some 0)
    (q : Q (rawPart lo, rawPart hi, rawPart st) s) : wpAny M A (Builtin.List.listSliceParts (.ref sl)) Q E s := by
  obtain ⟨⟨_, _, _, _⟩, at_, rfl, rfl⟩ := hs
  have part : ∀ {β : Type} {f : Value → Sem β} {Q : β → Shared → Prop} {v : Value} {k : Option Int} (n : Nat), (#[vl, vu, vs] : Array Value)[n]? = some v → IsPart v k → wpAny M A (f (rawPart k)) Q E s → wpAny M A (field (.ref sl) n >>= fun v => listPart v >>= f) Q E s :=
    fun n e p q => wpAny_bind (wpAny_field at_ rfl e (wpAny_bind (wpAny_listPart p q)))
  have step : (rawPart st == rawInt 0) = false := by
    rcases st with _ | c
    · rfl
    · exact beq_false_of_ne fun e => h0 (congrArg some (Value.int.inj e).1)
  rw [listSliceParts_eq]
  exact part 2 rfl ps (wpAny_ite_false (by rw [step]; rfl) (part 0 rfl pl (part 1 rfl pu (wpAny_pure q))))
set_option maxHeartbeats 1000000 in
theorem getItem_L_slice {sl : Addr} {vl vu vs : Value} {lo hi st : Option Int} {Q : Value → Shared → Prop} (X : K.In s.heap) (I : PySem.W.InstAt s.heap x ox C od) (hd : ox.data = .seq items n) (hq : noSeq K C = true) (hsub : subIn K (.ref C) (.type "list") = some true) (hf : findIn K (.ref C) "__getitem__" = some (some (.builtin "list.__getitem__")))
    (hs : s.heap.IsSliceOf sl vl vu vs) (pl : IsPart vl lo) (pu : IsPart vu hi) (ps : IsPart vs st) (h0 : st ≠ some 0)
    (h : Q (.ref s.heap.objs.size) { s with heap := s.heap.push { cls := .type "list", data := .seq (slicePick items lo hi st) } }) (hsz : items.size ≤ sizeLine) : wpAny (model prog w) A (getItem (.ref x) (.ref sl)) Q E s := by
  have ty : s.TypeIs (.ref sl) "slice" := let ⟨o, a, b, _⟩ := hs; ⟨o, a, b⟩
  have f1 := slice_no_index
  have f2 := sliceIndices_raw lo hi st items.size h0
  have room := Nat.le_trans (slicePick_size_le items lo hi st) hsz
  have at_ := I.at_
  refine getItem_L X I hq hsub hf ?_
  unfold Builtin.«list.__getitem__» Builtin.List.listSubscript?
  generalize hp : Builtin.List.listSliceParts = parts
  wp_walk
  subst hp
  refine slice_parts hs pl pu ps h0 (wpAny_bind ?_)
  refine show wpAny _ _ (Builtin.List.listItems (.ref x)) _ _ _ from wpAny_bind (wpAny_seqItems at_ hd (wpAny_pure ?_))
  exact wpAny_bind (wpAny_of_eq f2 (wpAny_bind (wpAny_newObj_type (wpAny_pure ⟨_, rfl, h⟩) room)))
theorem subTail_L {value slice : PySem.Expr} {i : Value} {ops : List Value} {Q : Value → Shared → Prop} (X : K.In s.heap) (I : PySem.W.InstAt s.heap x ox C od) (hf : findIn K (.ref C) "__getitem__" = some (some (.builtin "list.__getitem__"))) (h : wpAny (model prog w) A (getItem (.ref x) i) Q E s)
    (hs : subscripted slice false (.ref x) i = operate ops (getItem (.ref x) i)) : wpAny (model prog w) A (subscriptTail value slice (.ref x) i) Q E s := by
  unfold subscriptTail getitemInPython
  refine wpAny_bind (wpAny_bind (wpAny_bind (I.type.here ((looks_findIn X hf).here ?_))))
  dsimp only
  refine wpAny_pure ?_
  rw [hs]
  exact wpAny_bind (wpAny_operating (wpAny_mono h (fun r s₃ h₃ => wpAny_bind (wpAny_letTemporaryGo (wpAny_pure h₃))) fun _ _ z => z))
noncomputable def cutIn (items new : Array Value) (lo hi : Option Int) : Array Value :=
  items.extract 0 (sliceBounds lo hi none items.size).1.toNat ++ new ++ items.extract (max (sliceBounds lo hi none items.size).1 (sliceBounds lo hi none items.size).2.1).toNat items.size
theorem setItem_L_slice {sl D : Addr} {vl vu : Value} {lo hi : Option Int} {new : Array Value} {Q : Unit → Shared → Prop} (X : K.In s.heap) (I : PySem.W.InstAt s.heap x ox C od) (hd : ox.data = .seq items n) (hq : noSeq K C = true) (hsub : subIn K (.ref C) (.type "list") = some true) (hf : findIn K (.ref C) "__setitem__" = some (some (.builtin "list.__setitem__")))
    (hs : s.heap.IsSliceOf sl vl vu .none) (pl : IsPart vl lo) (pu : IsPart vu hi) (hD : s.heap.IsList D new) (hDx : x ≠ D) (hz1 : items.size ≤ 1000) (hz2 : new.size ≤ 1000)
    (h : ∀ h', Heap.SameBut x s.heap h' → h'.get? x = some { ox with data := .seq (cutIn items new lo hi) (if (cutIn items new lo hi).size == items.size then n else n + 1) } → Q () { s with heap := h' }) : wpAny (model prog w) A (setItem (.ref x) (.ref sl) (.ref D)) Q E s := by
  obtain ⟨os, hos, hcs, _⟩ := id hs
  obtain ⟨oD, hoD, hcD, nD, hdD⟩ := id hD
  have hTs : s.TypeIs (.ref sl) "slice" := ⟨os, hos, hcs⟩
  have hTD : s.TypeIs (.ref D) "list" := ⟨oD, hoD, hcD⟩
  unfold setItem sequenceKey
  refine wpAny_holding (wpAny_bind (wpAny_bind (I.type.here ?_)))
  refine wpAny_bind ((anyM_none X hq).here ?_)
  refine wpAny_ite_true rfl ?_
  refine wpAny_pure (wpAny_bind (special_bi X I hf (slot_list_setitem.bind _) ?_))
  refine wpAny_mono (Q := fun _ => Q ()) (wpAny_call (codeAny_call_builtin slot_list_setitem.plain entry_list_setitem ?_)) (fun v s' q => wpAny_pure q) fun _ _ z => z
  refine @check_slot (model prog w) A.in1 _ s "list.__setitem__" "list" "__setitem__" (.ref x) [.ref sl, .ref D] [] _ lm_setitem.1 lm_setitem.2 (accIs X I hsub) (PySem.F.args_list_setitem_3 _ _ _) ?_
  show wpAny _ _ (Builtin.List.listSubscript? (.ref sl) >>= _) _ _ s
  refine wpAny_bind ?_
  unfold Builtin.List.listSubscript?
  refine wpAny_bind (wpAny_specialOf hTs slice_no_index ?_)
  refine wpAny_ite_true rfl ?_
  refine wpAny_pure ?_
  show wpAny _ _ (typeOf (.ref sl) >>= _) _ _ s
  refine wpAny_bind (wpAny_typeOf hTs ?_)
  refine wpAny_ite_false (by decide) ?_
  refine wpAny_bind (slice_parts hs pl pu .none (by simp) ?_)
  dsimp only
  have hne : Builtin.List.listSameRef (.ref x) (.ref D) = false := by simpa [Builtin.List.listSameRef] using hDx
  refine wpAny_ite_false (by rw [hne]; rfl) ?_
  unfold Builtin.List.listAllItems
  refine wpAny_bind (wpAny_bind (wpAny_typeOf hTD ?_))
  refine wpAny_ite_true (by decide) ?_
  unfold Builtin.List.listItems
  refine wpAny_bind (wpAny_seqItems hoD hdD (wpAny_pure ?_))
  refine wpAny_bind (wpAny_bind (wpAny_seqItems I.at_ hd (wpAny_pure ?_)))
  refine wpAny_bind (wpAny_of_eq (sliceIndices_raw lo hi none items.size (by simp)) ?_)
  have h1 : ((sliceBounds lo hi none items.size).2.2 == 1) = true := rfl
  refine wpAny_ite_true rfl ?_
  refine wpAny_bind (wpAny_rule ?_)
  have h2 : Builtin.List.listTooLong (items.size + new.size) = false := by
    unfold Builtin.List.listTooLong
    rw [sizeLine_eq]
    exact decide_eq_false (by omega)
  refine wpAny_ite_false (by rw [h2]; rfl) ?_
  have hcut : ∀ ys : Array Value, ys = items → (fun xs : Array Value => xs.extract 0 (sliceBounds lo hi none items.size).1.toNat ++ new ++ xs.extract (max (sliceBounds lo hi none items.size).1 (sliceBounds lo hi none items.size).2.1).toNat) ys = cutIn items new lo hi := by
    rintro ys rfl
    rfl
  refine wpAny_bind ?_
  show wpAny _ _ (updateSeq x _) _ _ _
  have part : ∀ i j, (items.extract i j).size ≤ 1000 := fun i j => by rw [Array.size_extract]; exact Nat.le_trans (Nat.sub_le _ _) (Nat.le_trans (Nat.min_le_right _ _) hz1)
  have hcl : (cutIn items new lo hi).size ≤ 100000 := by
    unfold cutIn
    rw [Array.size_append, Array.size_append]
    exact Nat.le_trans (Nat.add_le_add (Nat.add_le_add (part _ _) hz2) (part _ _)) (by decide)
  have ho := I.at_
  have e2 : Obj.mapSeq (fun xs : Array Value => xs.extract 0 (sliceBounds lo hi none items.size).1.toNat ++ new ++ xs.extract (max (sliceBounds lo hi none items.size).1 (sliceBounds lo hi none items.size).2.1).toNat) ox = { ox with data := .seq (cutIn items new lo hi) (if (cutIn items new lo hi).size == items.size then n else n + 1) } := by
    obtain ⟨oc, odi, oda, osl⟩ := ox
    dsimp only at hd
    subst hd
    rfl
  refine wpAny_updateSeq (hz := by rw [sizeLine_eq]; omega) (_hz' := by show (cutIn items new lo hi).size ≤ _; rw [sizeLine_eq]; omega) ho hd ?_
  refine wpAny_bind (wpAny_letGo ?_)
  refine wpAny_pure ?_
  refine h _ (Heap.SameBut.update ..) ?_
  rw [Heap.get?_update_self _ ho (by rw [e2]; rfl), e2]
end
section XH15
open PySem PySem.W PySem.Calls PyProof.Rows Builtin Builtin.ObjectAttr
section
variable {M : Model} {A : Around} {E : Value → Shared → Prop} {s : Shared} {env : Env}
theorem callAttr {get : Value → Sem (Value × List Value)} {o f : PySem.Expr} {args : List PySem.Expr} {at_ pos : Pos} {Q : Value → Shared → Prop}
    (shape : eval (.Call f args [] pos) env = (do let ov ← eval o env; standAt at_; let g ← holding [ov] (get ov); callWith pos g.1 g.2 (backTo pos (starEach args env)) []))
    (h : wpAny M A (eval o env) (fun ov u => wpAny M A (get ov) (fun g u' => wpAny M A (callWith pos g.1 g.2 (backTo pos (starEach args env)) []) Q E u') E u) E s) : wpAny M A (eval (.Call f args [] pos) env) Q E s := by
  rw [shape]
  refine wpAny_bind (wpAny_mono h ?_ fun _ _ => id)
  exact fun _ _ hg => wpAny_bind (wpAny_standAt (wpAny_bind (wpAny_holding hg)))
theorem MethodStar_ {o : PySem.Expr} {name : Str} {apos pos : Pos} {args : List PySem.Expr} {Q : Value → Shared → Prop}
    (h : wpAny M A (eval o env) (fun ov s₁ => wpAny M A (getAttr ov name true) (fun f s₂ => wpAny M A (callWith pos f [] (backTo pos (starEach args env)) []) Q E s₂) E s₁) E s)
    (he : eval (.Call (.Attribute o name apos) args [] pos) env = (do
      let ov ← eval o env
      standAt apos.atName
      let (f, first) ← holding [ov] (do pure (← getAttr ov name true, []))
      callWith pos f first (backTo pos (starEach args env)) []) := by rfl) :
    wpAny M A (eval (.Call (.Attribute o name apos) args [] pos) env) Q E s :=
  callAttr he (wpAny_mono h (fun _ _ k => wpAny_bind (wpAny_mono k (fun _ _ z => wpAny_pure z) fun _ _ => id)) fun _ _ => id)
theorem callWith_SM {K : Frag} {pos p : Pos} {q g : Addr} {self : Value} {first : List Value} {e : PySem.Expr} {Q : Value → Shared → Prop} (hf : fnIn K g = true)
    (h : wpAny M A (eval e env) (fun v s₁ => StarOf M A E v (fun vs s₂ => MethP K q g self s₂.heap ∧ wpAny M A (call (.ref q) (first ++ vs)) Q E s₂) s₁) E s)
    (he : starEach [.Starred e p] env = [(true, eval e env)] := by rfl) :
    wpAny M A (callWith pos (.ref q) first (backTo pos (starEach [.Starred e p] env)) []) Q E s := by
  rw [he]
  exact ks_call rfl (keeps_M hf) (ks_lone h)
end
section
variable {prog : Program} {w : World} {A : Around} {E : Value → Shared → Prop} {s : Shared} {K : Frag} {x C f dx L : Addr} {ox : Obj} {od : Obj} {name : Str} {h₀ : Heap} {m : Str → Option Value} {news : List (Addr × Obj)} {es : List DictEntry} {k n : Nat} {its : Array Value}
theorem getA_bind0 {expr : Bool} {gv av : Value} {Q : Value → Shared → Prop} (X : K.In s.heap) (I : PySem.W.InstAt s.heap x ox C (some od)) (hga : findIn K (.ref C) "__getattribute__" = some (some (.builtin "list.__getattribute__"))) (hk : findIn K (.ref C) "__getattr__" = some none)
    (hsub : subIn K (.ref C) (.type "list") = some true) (hf : findObj K C (some od) name = some (.bind gv av)) (h : wpAny (model prog w) A.in1 (call gv [av, .ref x, .ref C]) (fun v s' => wpAny (model prog w) A (handedOut v) Q E s') (fun _ _ => False) { s with toks := s.toks + 1 }) : wpAny (model prog w) A (getAttr (.ref x) name expr) Q E s := by
  obtain ⟨hh', g, d, t, os⟩ := s
  have L0 := I.type (M := model prog w)
  have L1 := looks_find (M := model prog w) X I hf
  have LG := looks_findIn (M := model prog w) X hga
  have LK := looks_findIn (M := model prog w) X hk
  unfold getAttr getAttrBy
  refine wpAny_bind (wpAny_mkText (wpAny_holding (wpAny_bind (L0.at (wpAny_bind (LG.at ?_))))))
  show wpAny _ _ (getAttrByItsOwn _ _ _ _ _ _) _ _ _
  unfold getAttrByItsOwn hookBefore
  rw [if_pos (show onTheHeap (.ref C) = true from rfl)]
  refine wpAny_bind (LK.at ?_)
  refine wpAny_bind (wpAny_attempt (wpAny_holding ?_))
  unfold callGetattribute
  rw [if_neg (by cases expr <;> simp [onTheHeap])]
  unfold boundAndCalled
  refine wpAny_bind (wpAny_of_eq (PySem.F.slot_list_getattribute.bind (.ref x)) ?_)
  show wpAny _ _ (call (.builtin "list.__getattribute__") [.ref x, .str name t]) _ _ _
  refine wpAny_call (codeAny_call_builtin plain_list_ga PySem.F.entry_list_ga ?_)
  have hin := accIs (M := model prog w) X I hsub
  have ha := PySem.F.args_list_getattribute_2 (.ref x) (.str name t)
  refine @check_slot (model prog w) A.in1 _ ⟨hh', g, d, t + 1, os⟩ "list.__getattribute__" "list" "__getattribute__" (.ref x) [.str name t] [] _ lm_ga.1 lm_ga.2 hin ha ?_
  refine wpAny_bind (wpAny_pure (wpAny_bind (wpAny_pure (wpAny_bind (L0.at (wpAny_bind (L1.at ?_)))))))
  show wpAny _ _ (bindTo gv av (.ref x) (.ref C)) _ _ _
  unfold bindTo
  refine wpAny_bind (wpAny_holding (wpAny_mono h (fun v s' z => wpAny_pure ?_) fun _ _ z => z.elim))
  exact z
theorem getA_bound {expr : Bool} {Q : Value → Shared → Prop} (F : Fr h₀ L s.heap m) (X₀ : K.In h₀) (N : News h₀ L s.heap news) (h1 : (x, ({ cls := .ref C, dict := some dx, data := .seq its n } : Obj)) ∈ news) (h2 : (dx, dictOf es k) ∈ news)
    (hga : findIn K (.ref C) "__getattribute__" = some (some (.builtin "list.__getattribute__"))) (hk : findIn K (.ref C) "__getattr__" = some none) (hsub : subIn K (.ref C) (.type "list") = some true) (hh : hasDictIn K C = true) (ha : findIn K (.ref C) name = some (some (.ref f))) (hf : isFn K (.ref f) = true)
    (hgf : specialIn K (.ref f) "__get__" = some (some (.builtin "function.__get__"))) (ht : takesIn K (.ref f) = some false) (hc : copiedNames.contains name = false) (hl : getL name es = some none)
    (h : ∀ q h', Fr h₀ L h' m → News h₀ L h' ((q, methodObj (.ref f) (.ref x)) :: news) → (∀ p ∈ news, p.1 < q) → Q (.ref q) { s with heap := h', toks := s.toks + 1 }) : wpAny (model prog w) A (getAttr (.ref x) name expr) Q E s := by
  have X := X₀.keeps F.keep
  have found := findObj_fn hh ha hgf ht hc (show lookIn name (dictOf es k) = some none by rw [lookIn_dict, hl])
  refine getA_bind0 X (accInst N h1 h2) hga hk hsub found (wpAny_call (fn_get (s := { s with toks := s.toks + 1 }) X (beq_iff_eq.mp hf) ?_))
  exact handed_on rfl (h _ _ (F.push _) (N.push F _) fun q hq => Heap.lt_size (N q hq).1)
end
end XH15
theorem opaqueQ {α : Type} {M : Model} {A : Around} {E : Value → Shared → Prop} {s : Shared} {c : Sem α} {Q : α → Shared → Prop} (h : ∀ K : α → Shared → Prop, (∀ v s', Q v s' → K v s') → wpAny M A c K E s) : wpAny M A c Q E s := h Q fun _ _ x => x
theorem execs_append (a b : List PySem.Stmt) (env : PySem.Env) : execs (a ++ b) env = (execs a env >>= fun f => match f with | .next => execs b env | f => pure f) := by
  induction a with
  | nil => show execs b env = (pure Flow.next >>= _); rw [pure_bind]
  | cons st r ih =>
    rw [List.cons_append, execs_cons, execs_cons, bind_assoc]
    congr 1
    funext f
    cases f with
    | next => exact ih
    | _ => simp only [pure_bind]
theorem wpAny_append {M : Model} {A : Around} {E : Value → Shared → Prop} {s : Shared} {env : PySem.Env} {a b : List PySem.Stmt} {Q : Flow → Shared → Prop}
    (h : wpAny M A (execs a env) (fun f s' => match f with | .next => wpAny M A (execs b env) Q E s' | f => Q f s') E s) : wpAny M A (execs (a ++ b) env) Q E s := by
  rw [execs_append]
  refine wpAny_bind (wpAny_mono h (fun f s' k => ?_) fun _ _ z => z)
  cases f with
  | next => exact k
  | _ => exact wpAny_pure k
inductive SearchB (gs : Array GenState) (dr : Drawn) (os : OsState) (B : (Str → Option Value) → Heap → Nat → Prop) (s' : Shared) : Prop
  | mk (h' : Heap) (tk' : Nat) (u' : Str → Option Value) (e : s' = ⟨h', gs, dr, tk', os⟩) (b : B u' h' tk') : SearchB gs dr os B s'
inductive SearchN (h₀ : Heap) (L : Addr) (xs : List Str) (m₀ : Str → Option Value) (nw : List (Addr × Obj)) (gs : Array GenState) (dr : Drawn) (os : OsState) (G : Prop) (s' : Shared) : Prop
  | mk (g : G) (h' : Heap) (tk' : Nat) (m' : Str → Option Value) (nw' : List (Addr × Obj)) (e : s' = ⟨h', gs, dr, tk', os⟩) (hm : ∀ z, (∀ y ∈ xs, z ≠ y) → m' z = m₀ z) (F : Fr h₀ L h' m') (N : News h₀ L h' nw') (sub : ∀ p ∈ nw, p ∈ nw') : SearchN h₀ L xs m₀ nw gs dr os G s'
noncomputable def SearchEnd (h₀ : Heap) (L : Addr) (xs : List Str) (m₀ : Str → Option Value) (nw : List (Addr × Obj)) (s : Shared) (G : Prop) (B : (Str → Option Value) → Heap → Nat → Prop) (f : Flow) (s' : Shared) : Prop := match f with
  | .ret _ => False
  | .brk => SearchB s.gens s.drawn s.os B s'
  | _ => SearchN h₀ L xs m₀ nw s.gens s.drawn s.os G s'
section
variable {prog : Program} {w : World} {A : Around} {s : Shared} {h₀ : Heap} {L : Addr} {nw : List (Addr × Obj)} {xs : List Str} {m₀ : Str → Option Value} {env : Env} {x : Str} {px : Pos} {body orelse : List Stmt} {I : Addr} {n : Nat} {P : Nat → Value → Prop} {St : Nat → Heap → Prop} {R : Result → Shared → Prop}
inductive SearchI (h₀ : Heap) (L : Addr) (xs : List Str) (m₀ : Str → Option Value) (nw : List (Addr × Obj)) (gs : Array GenState) (dr : Drawn) (os : OsState) (n : Nat) (St : Nat → Heap → Prop) (G : Nat → Prop) (k : Nat) (s₁ : Shared) : Prop
  | mk (i : Nat) (h : Heap) (tk : Nat) (u : Str → Option Value) (e : s₁ = ⟨h, gs, dr, tk, os⟩) (hk : i + k = n) (hSt : St i h) (hG : G i) (F : Fr h₀ L h (fun y => upon xs u m₀ y)) (N : News h₀ L h nw) : SearchI h₀ L xs m₀ nw gs dr os n St G k s₁
theorem forSearch (hh : A.handled = none) (W : Walks prog w A I [I] [I] n P St) (live : ∀ i h, St i h → ∃ o, h.get? I = some o) (hst : St 0 s.heap) (hI0 : h₀.get? I = none) (hIL : I ≠ env.locals) (hnI : ∀ p ∈ nw, p.1 ≠ I) (hx : env.kindOf x = some .local) (hp : (env.scope.kind == .class || (env.scope.kind == .module && env.locals != env.globals)) = false) (hxs : x ∈ xs)
    (F : Fr h₀ env.locals s.heap m₀) (N : News h₀ env.locals s.heap nw) (G : Nat → Prop) (h0 : G 0) (B : (Str → Option Value) → Heap → Nat → Prop)
    (turn : ∀ i v u h tk oI, i < n → P i v → G i → Fr h₀ env.locals h (fun y => if y = x then some v else upon xs u m₀ y) → News h₀ env.locals h ((I, oI) :: nw) →
      wpAny (model prog w) A (execs body env) (SearchEnd h₀ env.locals xs m₀ ((I, oI) :: nw) s (G (i + 1)) B) (fun _ _ => False) { s with heap := h, toks := tk })
    (done : ∀ u h tk, G n → Fr h₀ env.locals h (fun y => upon xs u m₀ y) → News h₀ env.locals h nw → wpAny (model prog w) A (execs orelse env) (fun f s₃ => R (.ok f) s₃) (fun _ _ => False) { s with heap := h, toks := tk })
    (brk : ∀ u h tk, B u h tk → R (.ok .next) { s with heap := h, toks := tk }) :
    codeAny (model prog w) A (.forLoop (.Name x px) (.ref I) body orelse env) R s := by
  refine codeAny_forLoop (SearchI h₀ env.locals xs m₀ nw s.gens s.drawn s.os n St G) (fun k s₁ hI => ?_) n ⟨0, s.heap, s.toks, m₀, rfl, Nat.zero_add _, hst, h0, ?_, N⟩
  · obtain ⟨i, h, tk, u, rfl, hk, hSt, hG, F₁, N₁⟩ := hI
    have base : ∀ {h' : Heap}, (∀ b o, b ∉ [I] → h.get? b = some o → h'.get? b = some o) → Fr h₀ env.locals h' (fun y => upon xs u m₀ y) ∧ News h₀ env.locals h' nw := fun {h'} kp => by
      refine ⟨⟨F₁.ns.at fun o e => kp _ o (fun q => hIL (List.mem_singleton.mp q).symm) e, fun b o e => kp b o (fun q => ?_) (F₁.keep b o e), F₁.above⟩, fun p hp => ⟨kp _ _ (fun q => hnI p hp (List.mem_singleton.mp q)) (N₁ p hp).1, (N₁ p hp).2⟩⟩
      rw [List.mem_singleton.mp q, hI0] at e; cases e
    by_cases hlt : i < n
    · obtain ⟨k', rfl⟩ : ∃ k', k = k' + 1 := ⟨k - 1, by omega⟩
      refine W.item i _ _ _ hlt hSt fun v h' tk' hP hSt' kp => ?_
      obtain ⟨F₂, N₂⟩ := base kp
      dsimp only
      refine wpAny_assign_Name (wpAny_storeName_local hx F₂.ns (fun h₂ hn₂ hs₂ => ?_) hp)
      have hSt₂ : St (i + 1) h₂ := W.frame _ _ _ hSt' fun b hb o e => (hs₂.2 b (fun q => hIL (by rw [← q]; exact (List.mem_singleton.mp hb).symm))).trans e
      obtain ⟨oI, eI⟩ := live _ _ hSt₂
      have neL : ∀ {b o}, h₀.get? b = some o → b ≠ env.locals := fun e q => Nat.lt_irrefl _ (Nat.lt_of_lt_of_le (Heap.lt_size (q ▸ e)) F₁.above)
      have F₃ : Fr h₀ env.locals h₂ (fun y => if y = x then some v else upon xs u m₀ y) := ⟨hn₂, fun b o e => (hs₂.2 b (neL e)).trans (F₂.keep b o e), F₁.above⟩
      have N₃ : News h₀ env.locals h₂ ((I, oI) :: nw) := fun p hp => by
        rcases List.mem_cons.mp hp with rfl | hp
        · exact ⟨eI, hIL, hI0⟩
        · exact ⟨(hs₂.2 _ (N₂ p hp).2.1).trans (N₂ p hp).1, (N₂ p hp).2⟩
      refine wpAny_mono (turn i v u h₂ (tk' + 1) oI hlt hP hG F₃ N₃) (fun f s₃ hf => ?_) fun _ _ (z : False) => z.elim
      have fin : SearchN h₀ env.locals xs m₀ ((I, oI) :: nw) s.gens s.drawn s.os (G (i + 1)) s₃ →
          ∃ m, m < k' + 1 ∧ SearchI h₀ env.locals xs m₀ nw s.gens s.drawn s.os n St G m s₃ := by
        rintro ⟨g, h', tk'', m', nw', rfl, hm, F', N', sub⟩
        rw [upon_of hm] at F'
        refine ⟨k', Nat.lt_succ_self _, i + 1, h', tk'', m', rfl, by omega, ?_, g, F', fun p hp => N' p (sub p (.tail _ hp))⟩
        refine W.frame _ _ _ hSt₂ fun b hb o e => ?_
        rw [List.mem_singleton.mp hb] at e ⊢
        rw [eI] at e
        cases e
        exact (N' _ (sub _ (.head _))).1
      cases f with
      | ret v => exact hf.elim
      | brk => obtain ⟨h', tk', u', rfl, hB⟩ := hf; exact brk u' h' tk' hB
      | next => exact fin hf
      | cont => exact fin hf
    · have hin : i = n := by omega
      subst hin
      refine W.done _ _ _ hSt fun h' tk' kp => ?_
      obtain ⟨F₂, N₂⟩ := base kp
      exact wpAny_mono (done u h' tk' hG F₂ N₂) (fun f s₃ hf => hf) fun _ _ (z : False) => z.elim
  · have e : (fun y => upon xs m₀ m₀ y) = m₀ := by funext y; unfold upon; split <;> rfl
    rw [e]; exact F
end
section Si3
local macro_rules | `(tactic| walk_at "hb") => `(tactic| exact binds_K (by k_in) rfl (by k_is) rfl rfl rfl)
local macro_rules | `(tactic| walk_at "setAttr ref") => `(tactic| (k_here; k_dflt (refine' set_acc ?_ ?_ ?_ ?_ ?_ ?_ ?_ ?_ ?_ ?_ ?_ ?_ ?_ ?_; rotate_right 14; k_asm; k_asm; k_asm; k_mem; k_mem; k_is; exact mro178 _; k_is; k_is; k_get; k_put; k_upd; exact Nat.le_of_ble_eq_true rfl; k_whole; intro _ _ _; (try k_sweep))))
section XS7
local macro_rules | `(tactic| walk_at "wpAt") => `(tactic| refine Hold.out ?_)
set_option maxHeartbeats 4000000 in
theorem init_spec {w : World} {A : Around} {s : Shared} {mg mb : Str → Option Value} {h₀ : Heap} {L : Addr} {m : Str → Option Value} {news : List (Addr × Obj)} {a d : Addr} {n : Nat} {k : Int} {tk : Tok} {R : Result → Shared → Prop}
   (F : Fr h₀ L s.heap m) (X : (fr.heap_1 w.params).In h₀) (N : News h₀ L s.heap ((a, accObj d [] n) :: (d, dictOf [] 0) :: news)) (T : TT mg mb h₀) (hdp : A.depth < 890) (ha : ∀ p ∈ news, p.1 ≠ a) (hd1 : ∀ p ∈ news, p.1 ≠ d) (had : @Ne Nat d a)
   (hQ : ∀ h' tk' t, Fr h₀ L h' m → News h₀ L h' ((a, accObj d [] n) :: (d, accDict w t (.int k tk)) :: news) → R (.ok (.ret .none)) { s with heap := h', toks := tk' }) :
   codeAny (model (Challenge.rw_rs0167_01.row.prog) w) A (.call (.ref 115) ⟨[.ref a, .int k tk], []⟩) R s := by
  revert X; k_fill; intro X
  refine' codeS (binds := [(Str.ofString "self", .ref a), (Str.ofString "initial_size", .int k tk)]) F X N T ?ho ?hcd ?hroom ?hb ?hl ?_ ?c1 ?c2 ?c3 ?c4
  case ho => k_is
  case hcd => k_is
  case hroom => ((simp only [recursionLimit, depth_under_make, depth_under_kw, depth_in1, depth_deeper]); omega)
  case hb => first | exact BindsTo.of_eq rfl | exact binds_K (by k_in) rfl (by k_is) rfl rfl rfl
  case hl => exact locs rfl
  case c1 => decide
  case c2 => exact rfl
  case c3 => exact rfl
  case c4 => exact rfl
  intro g L' h₁ F₁ N₁ X₁ T₁ lt₁ st₁
  try dsimp only
  try k_fold
  refine ks_wpAt_execs_cons (wpAt_of_wpAny ?_)
  kwd_rel
  rename Fr g _ _ _ => F4
  rename News g _ _ _ => N4
  unfold Hold
  dsimp only
  refine ks_wpAt_execs_cons (ks_wpAt_Expr_any (ks_wpAt_MethodCall ?_))
  k_dflt (refine' superN (D := 178) (me := "self") F4 X₁ N4 T₁ ?k1 ?k3 (accInst N4 (.head _) (.tail _ (.head _))) ?k12 ?_)
  case k1 => kernel_rfl
  case k3 => exact rfl
  case k12 => decide +kernel
  intro so h5 F5 N5 l5
  k_dflt (refine' superM_L F5 X₁ N5 (.head _) (accInst N5 (.tail _ (.head _)) (.tail _ (.tail _ (.head _)))) ?j1 ?j2 ty_init wd_slot_get.lookup ?j3 ?j4 (fun hi q => init_get hi q) ?_)
  case j1 => k_is
  case j2 => first | (unfold ks_superIn; k_is) | (with_unfolding_all exact rfl) | kernel_rfl
  case j3 => decide +kernel
  case j4 => k_is
  intro q h6 F6 N6 l6
  refine callWith_bound0 (.inl rfl) (N6 _ (.head _)).1 ?_
  refine call_wrapper (N6 _ (.head _)).1 lm_init.1 (PySem.F.args_list_init_1 _) (by decide +kernel) PySem.F.entry_list_init ?_
  have za := N6 _ (.tail _ (.tail _ (.head _)))
  refine init_body za.1 fun h7 hs7 ho7 => ?_
  have F7 := F6.change hs7 za.2.1 za.2.2
  have N7 := fun p hp => (N6 p (.tail _ (.tail _ hp)))
  have N8 : News g L' h7 _ := fun p hp => by
    rcases List.mem_cons.mp hp with rfl | hp
    · exact ⟨ho7, za.2⟩
    · have zp := N7 p (.tail _ hp)
      refine ⟨(hs7.2 p.1 ?_).trans zp.1, zp.2⟩
      rcases List.mem_cons.mp hp with rfl | hp
      · exact had
      · exact ha p hp
  clear F6 N6 F4 N4 F5 N5 N7
  kwd_rel
  unfold Hold
  dsimp only
  refine wpAt_of_wpAny (wpAny_execs_nil ?_)
  kwd_rel
  exact hQ _ _ _ (by assumption) (by assumption)
end XS7
theorem mk178 (P : Params) : overList (fr.heap_1 P) 178 = true := by kernel_rfl
set_option maxHeartbeats 4000000 in
theorem acc_new {w : World} {A : Around} {s : Shared} {mg mb : Str → Option Value} {h₀ : Heap} {L : Addr} {m : Str → Option Value} {news : List (Addr × Obj)} {k : Int} {tk : Tok} {R : Result → Shared → Prop}
   (F : Fr h₀ L s.heap m) (X : (fr.heap_1 w.params).In h₀) (N : News h₀ L s.heap news) (T : TT mg mb h₀) (hdp : A.depth < 880)
   (hQ : ∀ h' tk' a d t, Fr h₀ L h' m → News h₀ L h' ((a, accObj d [] 0) :: (d, accDict w t (.int k tk)) :: news) → (∀ p ∈ news, p.1 < d) → @LT.lt Nat _ d a → R (.ok (.ret (.ref a))) { s with heap := h', toks := tk' }) :
   codeAny (model (Challenge.rw_rs0167_01.row.prog) w) A (.call (.ref 178) ⟨[.int k tk], []⟩) R s := by
  revert X; k_fill; intro X
  obtain ⟨hh, g, d, t, os⟩ := s
  have hi : findIn (fr.heap_1 w.params) (.ref 178) "__init__" = some (some (.ref 115)) := by
    k_is
  have hf : typeIn (fr.heap_1 w.params) (.ref 115) = some (.type "function") := by
    k_is
  obtain ⟨oC, cd, Y⟩ := overList_of (mk178 w.params)
  refine make_L Y (X.keeps F.keep) hi hf ?_
  have N2 := (N.push F emptyDict).push (F.push _) (listInst 178 hh.objs.size)
  rw [Heap.size_push] at N2
  have l1 : ∀ p ∈ news, p.1 < hh.objs.size := fun p hp => Heap.lt_size (N p hp).1
  refine init_spec (n := 0) ((F.push _).push _) X N2 T (by simp only [depth_under_make]; omega) (fun p hp => Nat.ne_of_lt (Nat.lt_succ_of_lt (l1 p hp))) (fun p hp => Nat.ne_of_lt (l1 p hp)) (Nat.ne_of_lt (Nat.lt_succ_self _)) ?_
  intro h' tk' t' F' N'
  exact ⟨rfl, hQ _ _ _ _ _ F' N' l1 (Nat.lt_succ_self _)⟩
theorem pick_from (its : List Value) (i : Nat) (h : i ≤ its.length) : slicePick its.toArray (some (i : Int)) none none = (its.drop i).toArray := by
  have e : sliceBounds (some (i : Int)) none none its.toArray.size = ((i : Int), ((its.length : Nat) : Int), 1) := by
    simp only [sliceBounds, Option.getD_none, show (1 : Int) > 0 by decide, if_true, if_neg (show ¬ ((i : Int) < 0) by omega), List.size_toArray]
    congr 1
    omega
  rw [kmk_pick_nat _ e]
  show ((its.drop i).take (its.length - i)).toArray = _
  rw [List.take_of_length_le (by rw [List.length_drop]; omega)]
theorem cut_from (its : List Value) (i : Nat) (h : i ≤ its.length) : cutIn its.toArray #[] (some (i : Int)) none = (its.take i).toArray := by
  have e : sliceBounds (some (i : Int)) none none its.toArray.size = ((i : Int), ((its.length : Nat) : Int), 1) := by
    simp only [sliceBounds, Option.getD_none, show (1 : Int) > 0 by decide, if_true, if_neg (show ¬ ((i : Int) < 0) by omega), List.size_toArray]
    congr 1
    omega
  unfold cutIn
  rw [e]
  have e2 : (max (i : Int) (its.length : Int)).toNat = its.length := by omega
  simp only [e2, Int.toNat_natCast]
  apply Array.ext'
  simp [List.extract_eq_take_drop]
theorem cut_all (its new : List Value) : cutIn its.toArray new.toArray none none = new.toArray := by
  have e : sliceBounds none none none its.toArray.size = (0, ((its.length : Nat) : Int), 1) := by
    simp only [sliceBounds, Option.getD_none, show (1 : Int) > 0 by decide, if_true, List.size_toArray]
  unfold cutIn
  rw [e]
  have e2 : (max (0 : Int) (its.length : Int)).toNat = its.length := by omega
  simp only [e2]
  apply Array.ext'
  simp [List.extract_eq_take_drop]
section
variable {prog : Program} {w : World} {A : Around} {E : Value → Shared → Prop} {s : Shared} {K : Frag} {x C dx L : Addr} {h₀ : Heap} {m : Str → Option Value} {news news' : List (Addr × Obj)} {es : List DictEntry} {k n : Nat} {its : List Value} {value slice : PySem.Expr}
theorem sliceFrom_L {i : Nat} {t : Tok} {Q : Value → Shared → Prop} (F : Fr h₀ L s.heap m) (X₀ : K.In h₀) (N : News h₀ L s.heap news) (h1 : (x, ({ cls := .ref C, dict := some dx, data := .seq its.toArray n } : Obj)) ∈ news) (h2 : (dx, dictOf es k) ∈ news)
    (hq : noSeq K C = true) (hsub : subIn K (.ref C) (.type "list") = some true) (hf : findIn K (.ref C) "__getitem__" = some (some (.builtin "list.__getitem__"))) (hi : i ≤ its.length) (hz : its.length ≤ 1000)
    (hs : subscripted slice false (.ref x) (.ref s.heap.objs.size) = operate [.ref s.heap.objs.size, .ref x] (getItem (.ref x) (.ref s.heap.objs.size)))
    (h : ∀ D h', Fr h₀ L h' m → News h₀ L h' ((D, W.listOf (its.drop i).toArray 0) :: news) → (∀ p ∈ news, p.1 < D) → Q (.ref D) { s with heap := h' }) :
    wpAny (model prog w) A (subscriptTail value slice (.ref x) (.ref s.heap.objs.size)) Q E { s with heap := s.heap.push { cls := .type "slice", data := .fields #[.int i t, .none, .none] } } := by
  have N1 := N.grown (h' := s.heap.push { cls := .type "slice", data := .fields #[.int i t, .none, .none] }) fun _ _ e => Heap.get?_push_of_some _ e
  have I1 := accInst N1 h1 h2
  have X1 := (X₀.keeps F.keep).keeps (h' := s.heap.push { cls := .type "slice", data := .fields #[.int i t, .none, .none] }) fun _ _ e => Heap.get?_push_of_some _ e
  refine subTail_L X1 I1 hf (getItem_L_slice X1 I1 rfl hq hsub hf (Heap.IsSliceOf.new ..) (IsPart.int _ _) .none .none (by simp) ?_ (by rw [List.size_toArray, sizeLine_eq]; omega)) hs
  rw [pick_from its i hi]
  have N2 := News.push (F.push { cls := .type "slice", data := .fields #[.int i t, .none, .none] }) N1 { cls := .type "list", data := .seq (its.drop i).toArray }
  exact h _ _ ((F.push _).push _) N2 fun p hp => by rw [Heap.size_push]; exact Nat.lt_succ_of_lt (Heap.lt_size (N p hp).1)
theorem setSlice_L {D : Addr} {vl vu : Value} {lo hi : Option Int} {new res : List Value} {c : Nat} {Q : Unit → Shared → Prop} (F : Fr h₀ L s.heap m) (X₀ : K.In h₀) (N : News h₀ L s.heap news) (_h1 : (x, ({ cls := .ref C, dict := some dx, data := .seq its.toArray n } : Obj)) ∈ news) (hD : (D, W.listOf new.toArray c) ∈ news)
    (hq : noSeq K C = true) (hsub : subIn K (.ref C) (.type "list") = some true) (hf : findIn K (.ref C) "__setitem__" = some (some (.builtin "list.__setitem__"))) (pl : IsPart vl lo) (pu : IsPart vu hi) (e : cutIn its.toArray new.toArray lo hi = res.toArray)
    (U : Upd x { cls := .ref C, dict := some dx, data := .seq its.toArray n } { cls := .ref C, dict := some dx, data := .seq res.toArray (if res.toArray.size == its.toArray.size then n else n + 1) } news news') (h2 : (dx, dictOf es k) ∈ news) (hz1 : its.length ≤ 1000) (hz2 : new.length ≤ 1000)
    (h : ∀ h', Fr h₀ L h' m → News h₀ L h' news' → Q () { s with heap := h' }) :
    wpAny (model prog w) A (setItem (.ref x) (.ref s.heap.objs.size) (.ref D)) Q E { s with heap := s.heap.push { cls := .type "slice", data := .fields #[vl, vu, .none] } } := by
  obtain ⟨pre, post, rfl, rfl, a, b⟩ := U.split
  have mx : (x, ({ cls := .ref C, dict := some dx, data := .seq its.toArray n } : Obj)) ∈ pre ++ (x, ({ cls := .ref C, dict := some dx, data := .seq its.toArray n } : Obj)) :: post := List.mem_append_right _ (.head _)
  have up : ∀ b o, s.heap.get? b = some o → (s.heap.push { cls := .type "slice", data := .fields #[vl, vu, .none] }).get? b = some o := fun _ _ e => Heap.get?_push_of_some _ e
  have N1 := N.grown up
  have I1 := accInst N1 mx h2
  have X1 := (X₀.keeps F.keep).keeps up
  have hxD : x ≠ D := fun q => by
    have z1 := (N1 _ mx).1
    have z2 := (N1 _ hD).1
    dsimp only at z1 z2
    rw [q, z2] at z1; cases z1
  refine setItem_L_slice X1 I1 rfl hq hsub hf (Heap.IsSliceOf.new ..) pl pu ⟨_, (N1 _ hD).1, rfl, _, rfl⟩ hxD (by rw [List.size_toArray]; exact hz1) (by rw [List.size_toArray]; exact hz2) fun h' hs ho => ?_
  rw [e] at ho
  have z := N1 _ mx
  exact h h' ((F.push _).change hs z.2.1 z.2.2) (news_set N1 a b hs ho)
end
section Si4
local macro_rules | `(tactic| walk_at "subscriptTail Name Slice ref ref") => `(tactic| (k_here; (with_reducible show wpAny _ _ (subscriptTail _ (.Slice (some _) none none _) (.ref _) (.ref _)) _ _ _); k_dflt (refine' sliceFrom_L ?_ ?_ ?_ ?_ ?_ ?_ ?_ ?_ ?_ ?_ ?_ ?_; rotate_right 12; k_asm; k_asm; k_asm; k_mem; k_mem; exact noSeq178 _; k_is; k_is; kwd_less; kwd_less; with_unfolding_all rfl); intro _ _ _ _ l1; (try k_lt l1); (try k_sweep)))
section XH11
local macro_rules | `(tactic| walk_at "setItem ref ref ref") => `(tactic| (k_here; k_dflt (refine' setSlice_L ?_ ?_ ?_ ?_ ?_ ?_ ?_ ?_ ?_ ?_ ?_ ?_ ?_ ?_ ?_ ?_; rotate_right 16; k_asm; k_asm; k_asm; k_mem; k_mem; exact noSeq178 _; k_is; k_is; kmk_part; kmk_part; (first | with_reducible exact cut_all _ _ | exact cut_from _ _ (by kwd_less)); k_upd; k_mem; kwd_less; kwd_less); intro _ _ _; (try k_sweep)))
set_option maxHeartbeats 4000000 in
theorem popfrom_spec {w : World} {A : Around} {s : Shared} {mg mb : Str → Option Value} {h₀ : Heap} {L : Addr} {m : Str → Option Value} {news : List (Addr × Obj)} {a d : Addr} {its : List Value} {n : Nat} {t ti : Tok} {k : Value} {i : Nat} {R : Result → Shared → Prop}
   (F : Fr h₀ L s.heap m) (X : (fr.heap_1 w.params).In h₀) (N : News h₀ L s.heap ((a, accObj d its n) :: (d, accDict w t k) :: news)) (T : TT mg mb h₀) (hdp : A.depth < 900) (ha : ∀ p ∈ news, p.1 ≠ a) (had : @Ne Nat d a) (hz : its.length ≤ 1000) (hi : i ≤ its.length)
   (hQ : ∀ h' tk D n', Fr h₀ L h' m → News h₀ L h' ((D, W.listOf (its.drop i).toArray 0) :: (a, accObj d (its.take i) n') :: (d, accDict w t k) :: news) → @LT.lt Nat _ a D → @LT.lt Nat _ d D → (∀ p ∈ news, p.1 < D) → R (.ok (.ret (.ref D))) { s with heap := h', toks := tk }) :
   codeAny (model (Challenge.rw_rs0167_01.row.prog) w) A (.call (.ref 130) ⟨[.ref a, .int i ti], []⟩) R s := by
  revert X; k_fill; intro X
  refine' codeL (binds := [(Str.ofString "self", .ref a), (Str.ofString "i", .int i ti)]) F X N T ?ho ?hcd ?hroom ?hb ?hl ?_ ?c1 ?c2 ?c3 ?c4
  kwd_inv
  intro g L' h₁ F₁ N₁ X₁ T₁ lt₁ st₁
  try dsimp only
  try k_fold
  kwd_rel
  rename News h₀ L _ _ => N9
  rename a < _ ∧ d < _ ∧ AllLt _ news => l9
  exact hQ _ _ _ _ (by assumption) (fun p hp => N9 p (.tail _ hp)) l9.1 l9.2.1 (allLt_mem l9.2.2)
local macro_rules | `(tactic| walk_at "setAttr ref") => `(tactic| (k_here; k_dflt (refine' set_acc ?_ ?_ ?_ ?_ ?_ ?_ ?_ ?_ ?_ ?_ ?_ ?_ ?_ ?_; rotate_right 14; k_asm; k_asm; k_asm; k_mem; k_mem; k_is; exact mro178 _; k_is; k_is; k_get; k_put; k_upd; exact Nat.le_of_ble_eq_true rfl; k_whole; intro _ _ _; (try k_sweep))))
set_option maxHeartbeats 4000000 in
theorem reset_to {w : World} {A : Around} {s : Shared} {mg mb : Str → Option Value} {h₀ : Heap} {L : Addr} {m : Str → Option Value} {news : List (Addr × Obj)} {a d D : Addr} {its new : List Value} {n c : Nat} {t : Tok} {k : Value} {R : Result → Shared → Prop}
   (F : Fr h₀ L s.heap m) (X : (fr.heap_1 w.params).In h₀) (N : News h₀ L s.heap ((D, W.listOf new.toArray c) :: (a, accObj d its n) :: (d, accDict w t k) :: news)) (T : TT mg mb h₀) (hdp : A.depth < 900) (ha : ∀ p ∈ news, p.1 ≠ a) (hd1 : ∀ p ∈ news, p.1 ≠ d) (had : @Ne Nat d a) (hDa : @Ne Nat D a) (hDd : @Ne Nat D d) (hz : its.length ≤ 1000) (hz2 : new.length ≤ 1000)
   (hQ : ∀ h' tk n' t', Fr h₀ L h' m → News h₀ L h' ((D, W.listOf new.toArray c) :: (a, accObj d new n') :: (d, accDict w t (.int 0 t')) :: news) → R (.ok (.ret .none)) { s with heap := h', toks := tk }) :
   codeAny (model (Challenge.rw_rs0167_01.row.prog) w) A (.call (.ref 160) ⟨[.ref a, .ref D], []⟩) R s := by
  revert X; k_fill; intro X
  refine' codeL (binds := [(Str.ofString "self", .ref a), (Str.ofString "startval", .ref D)]) F X N T ?ho ?hcd ?hroom ?hb ?hl ?_ ?c1 ?c2 ?c3 ?c4
  kwd_inv
  intro g L' h₁ F₁ N₁ X₁ T₁ lt₁ st₁
  try dsimp only
  try k_fold
  kwd_rel
  exact hQ _ _ _ _ (by assumption) (by assumption)
set_option maxHeartbeats 4000000 in
theorem reset_none {w : World} {A : Around} {s : Shared} {mg mb : Str → Option Value} {h₀ : Heap} {L : Addr} {m : Str → Option Value} {news : List (Addr × Obj)} {a d : Addr} {its : List Value} {n : Nat} {t : Tok} {k : Value} {R : Result → Shared → Prop}
   (F : Fr h₀ L s.heap m) (X : (fr.heap_1 w.params).In h₀) (N : News h₀ L s.heap ((a, accObj d its n) :: (d, accDict w t k) :: news)) (T : TT mg mb h₀) (hdp : A.depth < 900) (ha : ∀ p ∈ news, p.1 ≠ a) (hd1 : ∀ p ∈ news, p.1 ≠ d) (had : @Ne Nat d a) (hz : its.length ≤ 1000)
   (hQ : ∀ h' tk n' t', Fr h₀ L h' m → News h₀ L h' ((a, accObj d [] n') :: (d, accDict w t (.int 0 t')) :: news) → R (.ok (.ret .none)) { s with heap := h', toks := tk }) :
   codeAny (model (Challenge.rw_rs0167_01.row.prog) w) A (.call (.ref 160) ⟨[.ref a], []⟩) R s := by
  revert X; k_fill; intro X
  refine' codeL (binds := [(Str.ofString "self", .ref a), (Str.ofString "startval", .none)]) F X N T ?ho ?hcd ?hroom ?hb ?hl ?_ ?c1 ?c2 ?c3 ?c4
  kwd_inv
  intro g L' h₁ F₁ N₁ X₁ T₁ lt₁ st₁
  try dsimp only
  try k_fold
  kwd_rel
  rename News h₀ L _ _ => N9
  exact hQ _ _ _ _ (by assumption) (fun p hp => N9 p (.tail _ hp))
end XH11
section XH12
local macro_rules | `(tactic| walk_at "wpAt") => `(tactic| refine Hold.out ?_)
set_option maxHeartbeats 4000000 in
theorem pop_empty {w : World} {A : Around} {s : Shared} {mg mb : Str → Option Value} {h₀ : Heap} {L : Addr} {m : Str → Option Value} {news : List (Addr × Obj)} {a d : Addr} {n : Nat} {t : Tok} {k : Value} {R : Result → Shared → Prop}
   (F : Fr h₀ L s.heap m) (X : (fr.heap_1 w.params).In h₀) (N : News h₀ L s.heap ((a, accObj d [] n) :: (d, accDict w t k) :: news)) (T : TT mg mb h₀) (hdp : A.depth < 890)
   (hQ : ∀ h' tk D t1 t2, Fr h₀ L h' m → News h₀ L h' ((D, { cls := .type "tuple", data := .seq #[.str (Str.ofString "") t1, .str (Str.ofString "") t2] }) :: (a, accObj d [] n) :: (d, accDict w t k) :: news) → @LT.lt Nat _ a D → @LT.lt Nat _ d D → (∀ p ∈ news, p.1 < D) → R (.ok (.ret (.ref D))) { s with heap := h', toks := tk }) :
   codeAny (model (Challenge.rw_rs0167_01.row.prog) w) A (.call (.ref 138) ⟨[.ref a], []⟩) R s := by
  revert X; k_fill; intro X
  refine' codeS (binds := [(Str.ofString "self", .ref a)]) F X N T ?ho ?hcd ?hroom ?hb ?hl ?_ ?c1 ?c2 ?c3 ?c4
  case ho => k_is
  case hcd => k_is
  case hroom => ((simp only [recursionLimit, depth_under_make, depth_under_kw, depth_in1, depth_deeper]); omega)
  case hb => exact BindsTo.of_eq rfl
  case hl => exact locs rfl
  case c1 => decide
  case c2 => exact rfl
  case c3 => exact rfl
  case c4 => exact rfl
  intro g L' h₁ F₁ N₁ X₁ T₁ lt₁ st₁
  try dsimp only
  try k_fold
  refine ks_wpAt_execs_cons (ks_wpAt_If (wpAt_of_wpAny ?_))
  kwd_rel
  refine wpAny_call (count_spec F₁ X₁ N₁ T₁ (by simp only [depth_deeper]; omega) ?_)
  intro h2 tk2 t2 F2 N2
  clear F₁ N₁
  kwd_rel
  unfold Hold
  refine wpAt_of_wpAny ?_
  kwd_rel
  rename a < _ ∧ d < _ ∧ AllLt _ news => l9
  exact hQ _ _ _ _ _ (by assumption) (by assumption) l9.1 l9.2.1 (allLt_mem l9.2.2)
end XH12
section XH13
local macro_rules | `(tactic| walk_at "pad") => `(tactic| skip)
local macro_rules
  | `(tactic| walk_at "truthy ref") => `(tactic| (rename StopN 1 => st; refine Hold.out ?_))
  | `(tactic| walk_at "call type:str cons nil") => `(tactic| (rename StopN 2 => st; refine Hold.out ?_))
section
variable {prog : Program} {w : World} {A : Around} {E : Value → Shared → Prop} {s : Shared} {K : Frag} {x C f : Addr} {ox : Obj} {od : Option Obj}
theorem truthy_L {Q : Bool → Shared → Prop} (X : K.In s.heap) (I : PySem.W.InstAt s.heap x ox C od) (hb : findIn K (.ref C) "__bool__" = some none) (hs : findIn K (.ref C) "__len__" = some (some (.ref f))) (hf : isFn K (.ref f) = true)
    (h : wpAny (model prog w) A.in1 (call (.ref f) [.ref x]) (fun v u => ∃ (n : Int) (t : Tok), v = .int n t ∧ (0 ≤ n ∧ n < 2 ^ 63) ∧ Q (n != 0) { u with toks := u.toks + 1 }) E s) : wpAny (model prog w) A (truthy (.ref x)) Q E s := by
  have measured := special_fn (args := []) (Q := fun v u => ∃ r, v = some r ∧ ∃ (n : Int) (t : Tok), r = .int n t ∧ (0 ≤ n ∧ n < 2 ^ 63) ∧ Q (n != 0) { u with toks := u.toks + 1 }) X I hs (beq_iff_eq.mp hf) (wpAny_mono h (fun _ _ z => ⟨_, rfl, z⟩) fun _ _ z => z)
  unfold truthy
  refine wpAny_bind (show wpAny (model prog w) A (callSpecial? (.ref x) (Str.ofString "__bool__")) _ E s from wpAny_bind (specAt X I hb (wpAny_pure ?_)))
  refine wpAny_bind (specAt X I hs ?_)
  refine wpAny_ite_false rfl (wpAny_bind (wpAny_runValue (codeAny_builtin entry_len ?_)))
  rw [Around.under_plainId plain_len _]
  unfold Builtin.«len»
  refine wpAny_bind (wpAny_pure (wpAny_bind (wpAny_mono measured ?_ fun _ _ z => z)))
  rintro _ u ⟨_, rfl, n, t, rfl, ⟨lo, hi⟩, q⟩
  have notNeg : decide (n < 0) = false := decide_eq_false (by omega)
  have notBig : decide (n ≥ 2 ^ 63) = false := decide_eq_false (by omega)
  wp_walk
  exact wpAny_ite_false notBig (wpAny_bind (wpAny_mkInt (wpAny_pure (wpAny_pure q))))
end
noncomputable abbrev accNews (w : World) (a d : Addr) (its : List Value) (n : Nat) (t : Tok) (k : Nat) (tk : Tok) (p q : Array Value) (rest : List (Addr × Obj)) : List (Addr × Obj) :=
  (a, accObj d its n) :: (d, accDict w t (.int k tk)) :: (140, tabObj p) :: (147, tabObj q) :: rest
theorem swap34 {α : Type} {x1 x2 x3 x4 : α} {r : List α} : ∀ p ∈ x1 :: x2 :: x4 :: x3 :: r, p ∈ x1 :: x2 :: x3 :: x4 :: r := by
  intro p hp
  simp only [List.mem_cons] at hp ⊢
  rcases hp with h | h | h | h | h
  · exact .inl h
  · exact .inr (.inl h)
  · exact .inr (.inr (.inr (.inl h)))
  · exact .inr (.inr (.inl h))
  · exact .inr (.inr (.inr (.inr h)))
theorem news_swap {h₀ h : Heap} {L : Addr} {x1 x2 x3 x4 : Addr × Obj} {r : List (Addr × Obj)} (N : News h₀ L h (x1 :: x2 :: x3 :: x4 :: r)) : News h₀ L h (x1 :: x2 :: x4 :: x3 :: r) := fun p hp => N p (swap34 p hp)
set_option maxHeartbeats 4000000 in
theorem onlyws_spec {w : World} {A : Around} {s : Shared} {mg mb : Str → Option Value} {h₀ : Heap} {L bm : Addr} {ob : Obj} {m : Str → Option Value} {rest : List (Addr × Obj)} {a d : Addr} {its : List Value} {n : Nat} {t : Tok} {k : Nat} {tk₀ : Tok} {ps qs : Array Value} {cs : List (Str × Str)} {R : Result → Shared → Prop}
   (F : Fr h₀ L s.heap m) (X : (fr.heap_1 w.params).In h₀) (N : News h₀ L s.heap (accNews w a d its n t k tk₀ ps qs rest)) (T : TT mg mb h₀) (BM : BMod h₀ mainGlobals mg bm ob) (hh : A.handled = none) (hdp : A.depth < 870) (hu : A.units < 9000)
   (hps : TriplesOk ps.toList) (hqs : TriplesOk qs.toList) (hck : Ck rest fun h => CksAt h its cs) (hl : cksLen cs ≤ 10000) (hn : cs.length ≤ 1000) (hk : k ≤ 10000) (ha : a ≠ 140) (ha' : a ≠ 147) (hd0 : d ≠ 140) (hd0' : d ≠ 147) (hr : ∀ p ∈ rest, p.1 ≠ 140) (hr' : ∀ p ∈ rest, p.1 ≠ 147)
   (hpos : k = 0 → 0 < cksLen cs) (hsp : k = 0 → Txt.isspace (cksStr cs) = false)
   (hQ : ∀ h' g' tk ps' qs', Fr h₀ L h' m → News h₀ L h' (accNews w a d its n t k tk₀ ps' qs' rest) → TriplesOk ps'.toList → TriplesOk qs'.toList → (AllBare s.gens → AllBare g') → R (.ok (.ret (.bool false))) { s with heap := h', gens := g', toks := tk }) :
   codeAny (model (Challenge.rw_rs0167_01.row.prog) w) A (.call (.ref 167) ⟨[.ref a], []⟩) R s := by
  revert X; k_fill; intro X
  refine' codeL (binds := [(Str.ofString "self", .ref a)]) F X N T ?ho ?hcd ?hroom ?hb ?hl ?_ ?c1 ?c2 ?c3 ?c4
  kwd_inv
  intro g L' h₁ F₁ N₁ X₁ T₁ lt₁ st₁
  try dsimp only
  try k_fold
  have st : StopN 1 := .mk 1
  kwd_rel
  rename StopN _ => st
  clear st
  unfold Hold
  · rename (k : Int) = 0 => hk0
    have hk0' : k = 0 := by omega
    refine truthy_L (X₁.keeps F₁.keep) (accInst N₁ (.head _) (.tail _ (.head _))) (by k_is) (by k_is) (by k_is) ?_
    refine wpAny_call (len_spec F₁ X₁ N₁ T₁ (BM.keeps st₁) hh (by simp only [depth_deeper, depth_in1]; omega) hps (hck.mono fun p hp => .tail _ hp) hl hk ha hd0 (fun p hp => ?_) ?_)
    · rcases List.mem_cons.mp hp with rfl | hp
      · exact (show (147 : Nat) ≠ 140 by decide)
      · exact hr p hp
    intro h2 g2 tk2 t2 ps2 F2 N2 hps2 hb2
    refine ⟨_, _, rfl, ⟨by omega, by omega⟩, ?_⟩
    have hne : (((k + cksLen cs : Nat) : Int) != 0) = true := by
      have := hpos hk0'
      rw [bne_iff_ne]
      omega
    rw [hne]
    clear F₁ N₁
    have st : StopN 2 := .mk 2
    kwd_rel
    rename StopN _ => st
    clear st
    unfold Hold
    refine kso_call (by show A.units + 3 + 1 + 1 < 9900; omega) (X₁.keeps F2.keep) (accInst N2 (.head _) (.tail _ (.head _))) (by k_is) (by k_is) ?_
    refine wpAny_call (str_spec F2 X₁ (news_swap N2) T₁ (BM.keeps st₁) hh (by simp only [depth_deeper, depth_in1]; omega) hqs (hck.mono fun p hp => .tail _ hp) hl hn hk ha' hd0' (fun p hp => ?_) ?_)
    · rcases List.mem_cons.mp hp with rfl | hp
      · exact (show (140 : Nat) ≠ 147 by decide)
      · exact hr' p hp
    intro h3 g3 tk3 t3 qs3 F3 N3 hqs3 hb3
    have N4 := news_swap N3
    dsimp only [StrBack]
    clear F2 N2 N3
    have hsp' := hsp hk0'
    kwd_rel
    rw [hsp']
    exact hQ _ _ _ _ _ (by assumption) (by assumption) hps2 hqs3 (fun x => hb3 (hb2 x))
  · have hk0 : ((k : Int) == 0) = false := by
      rename ¬ _ => q
      rw [beq_eq_false_iff_ne]
      omega
    rw [hk0]
    exact hQ _ _ _ _ _ (by assumption) (by assumption) hps hqs (fun x => x)
end XH13
section Si5
local macro_rules | `(tactic| walk_at "setItem ref ref ref") => `(tactic| (k_here; k_dflt (refine' setSlice_L ?_ ?_ ?_ ?_ ?_ ?_ ?_ ?_ ?_ ?_ ?_ ?_ ?_ ?_ ?_ ?_; rotate_right 16; k_asm; k_asm; k_asm; k_mem; k_mem; exact noSeq178 _; k_is; k_is; kmk_part; kmk_part; (first | with_reducible exact cut_all _ _ | exact cut_from _ _ (by kwd_less)); k_upd; k_mem; kwd_less; kwd_less); intro _ _ _; (try k_sweep)))
local macro_rules | `(tactic| walk_at "getAttr ref") => `(tactic| (k_here; k_dflt (refine' getA_bound ?_ ?_ ?_ ?_ ?_ ?_ ?_ ?_ ?_ ?_ ?_ ?_ ?_ ?_ ?_ ?_; rotate_right 16; k_asm; k_asm; k_asm; k_mem; k_mem; k_is; k_is; k_is; k_is; k_is; k_is; k_is; k_is; decide +kernel; k_get; k_whole); intro _ _ _ _ l1; (try k_lt l1); (try k_sweep)))
section XH14
local macro_rules | `(tactic| walk_at "call ref") => `(tactic| refine Hold.out ?_)
local macro_rules
  | `(tactic| walk_at "compareOp NotEq ref ref") => `(tactic| (rename StopN 1 => st; refine Hold.out ?_))
  | `(tactic| walk_at "eval Call Attribute cons nil") => `(tactic| (rename StopN 2 => st; refine Hold.out ?_))
  | `(tactic| walk_at "callWith ref nil nil") => `(tactic| (rename StopN 3 => st; refine Hold.out ?_))
  | `(tactic| walk_at "call type:str cons nil") => `(tactic| (rename StopN 4 => st; refine Hold.out ?_))
inductive CksIn (rest : List (Addr × Obj)) : List Value → List (Str × Str) → Prop
  | nil : CksIn rest [] []
  | cons {T : Addr} {c : Str × Str} {tf tp : Tok} {vs : List Value} {cs : List (Str × Str)} : (T, ({ cls := .type "tuple", data := .seq #[.str c.1 tf, .str c.2 tp] } : Obj)) ∈ rest → CksIn rest vs cs → CksIn rest (.ref T :: vs) (c :: cs)
namespace CksIn
variable {rest rest' : List (Addr × Obj)} {vs ws : List Value} {cs es : List (Str × Str)}
theorem ck (x : CksIn rest vs cs) : Ck rest fun h => CksAt h vs cs := fun h k => by
  induction x with
  | nil => exact .nil
  | cons m _ ih => exact .cons (k _ m) ih
theorem mono (x : CksIn rest vs cs) (k : ∀ p ∈ rest, p ∈ rest') : CksIn rest' vs cs := by
  induction x with
  | nil => exact .nil
  | cons m _ ih => exact .cons (k _ m) ih
theorem length (x : CksIn rest vs cs) : vs.length = cs.length := by
  induction x with
  | nil => rfl
  | cons _ _ ih => simp [ih]
theorem append (x : CksIn rest vs cs) (y : CksIn rest ws es) : CksIn rest (vs ++ ws) (cs ++ es) := by
  induction x with
  | nil => exact y
  | cons m _ ih => exact .cons m ih
theorem take (x : CksIn rest vs cs) : ∀ n, CksIn rest (vs.take n) (cs.take n) := by
  induction x with
  | nil => intro n; simp; exact .nil
  | cons m _ ih =>
    intro n
    cases n with
    | zero => exact .nil
    | succ n => exact .cons m (ih n)
theorem drop (x : CksIn rest vs cs) : ∀ n, CksIn rest (vs.drop n) (cs.drop n) := by
  induction x with
  | nil => intro n; simp; exact .nil
  | cons m r ih =>
    intro n
    cases n with
    | zero => exact .cons m r
    | succ n => exact ih n
theorem snoc (x : CksIn rest vs (cs ++ [c])) : ∃ T tf tp vs', vs = vs' ++ [.ref T] ∧ (T, ({ cls := .type "tuple", data := .seq #[.str c.1 tf, .str c.2 tp] } : Obj)) ∈ rest ∧ CksIn rest vs' cs := by
  have hl := x.length
  simp only [List.length_append, List.length_cons, List.length_nil] at hl
  have h1 := x.drop cs.length
  have h2 := x.take cs.length
  rw [List.drop_left] at h1
  rw [List.take_left] at h2
  have e := (List.take_append_drop cs.length vs).symm
  generalize vs.drop cs.length = q at h1 e
  cases h1 with
  | @cons T _ tf tp _ _ m r =>
    cases r
    exact ⟨T, tf, tp, _, e, m, h2⟩
theorem at_ (x : CksIn rest vs cs) : ∀ (i : Nat) (c : Str × Str), cs[i]? = some c → ∃ T tf tp, vs[i]? = some (.ref T) ∧ (T, ({ cls := .type "tuple", data := .seq #[.str c.1 tf, .str c.2 tp] } : Obj)) ∈ rest := by
  induction x with
  | nil => intro i c h; simp at h
  | @cons T c' tf tp vs cs m _ ih =>
    intro i c h
    cases i with
    | zero => simp at h; subst h; exact ⟨T, tf, tp, rfl, m⟩
    | succ i => simp only [List.getElem?_cons_succ] at h ⊢; exact ih i c h
end CksIn
noncomputable abbrev fmtDict (w : World) (u1 u2 u3 u4 u5 u6 tw tc tl ts : Tok) (width : Nat) (signs : Str) (Ln a : Addr) : Obj :=
  dictOf [⟨PyData.keyHash w.params (Str.ofString "_maxlen"), .str (Str.ofString "_maxlen") u1, .int width tw⟩, ⟨PyData.keyHash w.params (Str.ofString "_continuation_ws"), .str (Str.ofString "_continuation_ws") u2, .str (Str.ofString " ") tc⟩,
    ⟨PyData.keyHash w.params (Str.ofString "_continuation_ws_len"), .str (Str.ofString "_continuation_ws_len") u3, .int 1 tl⟩, ⟨PyData.keyHash w.params (Str.ofString "_splitchars"), .str (Str.ofString "_splitchars") u4, .str signs ts⟩,
    ⟨PyData.keyHash w.params (Str.ofString "_lines"), .str (Str.ofString "_lines") u5, .ref Ln⟩, ⟨PyData.keyHash w.params (Str.ofString "_current_line"), .str (Str.ofString "_current_line") u6, .ref a⟩] 6
noncomputable abbrev fmtNews (w : World) (M dm Ln a d : Addr) (fd : Obj) (lv : List Value) (nl : Nat) (its : List Value) (n : Nat) (t : Tok) (k : Nat) (tk : Tok) (p q : Array Value) (rest : List (Addr × Obj)) : List (Addr × Obj) :=
  (a, accObj d its n) :: (d, accDict w t (.int k tk)) :: (140, tabObj p) :: (147, tabObj q) :: (M, instObj 94 dm) :: (dm, fd) :: (Ln, W.listOf lv.toArray nl) :: rest
structure FOrd (M dm Ln a d : Addr) (rest : List (Addr × Obj)) : Prop where
  o1 : @LT.lt Nat _ 147 dm
  o2 : @LT.lt Nat _ dm M
  o3 : @LT.lt Nat _ M Ln
  o4 : @LT.lt Nat _ Ln d
  o5 : @LT.lt Nat _ d a
  o6 : ∀ p ∈ rest, @LT.lt Nat _ a p.1
namespace FOrd
variable {M dm Ln a d : Addr} {rest : List (Addr × Obj)} {x1 x2 x3 x4 x5 x6 : Obj}
theorem cons (O : FOrd M dm Ln a d rest) {T : Addr} {o : Obj} (h : @LT.lt Nat _ a T) : FOrd M dm Ln a d ((T, o) :: rest) := ⟨O.o1, O.o2, O.o3, O.o4, O.o5, fun p hp => by
  rcases List.mem_cons.mp hp with rfl | hp
  · exact h
  · exact O.o6 p hp⟩
theorem nea (O : FOrd M dm Ln a d rest) : ∀ p ∈ (140, x1) :: (147, x2) :: (M, x3) :: (dm, x4) :: (Ln, x5) :: rest, p.1 ≠ a := by
  have o1 := O.o1; have o2 := O.o2; have o3 := O.o3; have o4 := O.o4; have o5 := O.o5
  intro p hp
  simp only [List.mem_cons] at hp
  rcases hp with rfl | rfl | rfl | rfl | rfl | hp
  · exact Nat.ne_of_lt (by omega)
  · exact Nat.ne_of_lt (by omega)
  · exact Nat.ne_of_lt (by omega)
  · exact Nat.ne_of_lt (by omega)
  · exact Nat.ne_of_lt (by omega)
  · exact Nat.ne_of_gt (O.o6 p hp)
theorem ned (O : FOrd M dm Ln a d rest) : ∀ p ∈ (140, x1) :: (147, x2) :: (M, x3) :: (dm, x4) :: (Ln, x5) :: rest, p.1 ≠ d := by
  have o1 := O.o1; have o2 := O.o2; have o3 := O.o3; have o4 := O.o4; have o5 := O.o5
  intro p hp
  simp only [List.mem_cons] at hp
  rcases hp with rfl | rfl | rfl | rfl | rfl | hp
  · exact Nat.ne_of_lt (by omega)
  · exact Nat.ne_of_lt (by omega)
  · exact Nat.ne_of_lt (by omega)
  · exact Nat.ne_of_lt (by omega)
  · exact Nat.ne_of_lt (by omega)
  · have := O.o6 p hp; exact Nat.ne_of_gt (by omega)
theorem n140 (O : FOrd M dm Ln a d rest) : ∀ p ∈ (147, x2) :: (M, x3) :: (dm, x4) :: (Ln, x5) :: rest, p.1 ≠ 140 := by
  have o1 := O.o1; have o2 := O.o2; have o3 := O.o3; have o4 := O.o4; have o5 := O.o5
  intro p hp
  simp only [List.mem_cons] at hp
  rcases hp with rfl | rfl | rfl | rfl | hp
  · exact Nat.ne_of_gt (by omega)
  · exact Nat.ne_of_gt (by omega)
  · exact Nat.ne_of_gt (by omega)
  · exact Nat.ne_of_gt (by omega)
  · have := O.o6 p hp; exact Nat.ne_of_gt (by omega)
theorem n147 (O : FOrd M dm Ln a d rest) : ∀ p ∈ (140, x2) :: (M, x3) :: (dm, x4) :: (Ln, x5) :: rest, p.1 ≠ 147 := by
  have o1 := O.o1; have o2 := O.o2; have o3 := O.o3; have o4 := O.o4; have o5 := O.o5
  intro p hp
  simp only [List.mem_cons] at hp
  rcases hp with rfl | rfl | rfl | rfl | hp
  · exact Nat.ne_of_lt (by omega)
  · exact Nat.ne_of_gt (by omega)
  · exact Nat.ne_of_gt (by omega)
  · exact Nat.ne_of_gt (by omega)
  · have := O.o6 p hp; exact Nat.ne_of_gt (by omega)
theorem m140 (O : FOrd M dm Ln a d rest) : ∀ p ∈ (M, x3) :: (dm, x4) :: (Ln, x5) :: rest, p.1 ≠ 140 := fun p hp => O.n140 (x2 := x3) p (.tail _ hp)
theorem m147 (O : FOrd M dm Ln a d rest) : ∀ p ∈ (M, x3) :: (dm, x4) :: (Ln, x5) :: rest, p.1 ≠ 147 := fun p hp => O.n147 (x2 := x3) p (.tail _ hp)
theorem a140 (O : FOrd M dm Ln a d rest) : a ≠ 140 ∧ a ≠ 147 ∧ d ≠ 140 ∧ d ≠ 147 ∧ d ≠ a := by
  have o1 := O.o1; have o2 := O.o2; have o3 := O.o3; have o4 := O.o4; have o5 := O.o5
  exact ⟨Nat.ne_of_gt (by omega), Nat.ne_of_gt (by omega), Nat.ne_of_gt (by omega), Nat.ne_of_gt (by omega), Nat.ne_of_lt (by omega)⟩
theorem nLn (O : FOrd M dm Ln a d rest) : ∀ p ∈ rest, p.1 ≠ Ln := by
  have o4 := O.o4; have o5 := O.o5
  intro p hp
  have := O.o6 p hp; exact Nat.ne_of_gt (by omega)
end FOrd
theorem fmt_cons {h₀ h : Heap} {L : Addr} {y x1 x2 x3 x4 x5 x6 x7 : Addr × Obj} {rest : List (Addr × Obj)} (N : News h₀ L h (x1 :: x2 :: x3 :: x4 :: x5 :: x6 :: x7 :: rest)) (hy : y ∈ rest) : News h₀ L h (x1 :: x2 :: x3 :: x4 :: x5 :: x6 :: x7 :: y :: rest) := fun p hp => N p (by
  simp only [List.mem_cons] at hp ⊢
  rcases hp with h | h | h | h | h | h | h | h | h
  · exact .inl h
  · exact .inr (.inl h)
  · exact .inr (.inr (.inl h))
  · exact .inr (.inr (.inr (.inl h)))
  · exact .inr (.inr (.inr (.inr (.inl h))))
  · exact .inr (.inr (.inr (.inr (.inr (.inl h)))))
  · exact .inr (.inr (.inr (.inr (.inr (.inr (.inl h))))))
  · exact .inr (.inr (.inr (.inr (.inr (.inr (.inr (h ▸ hy)))))))
  · exact .inr (.inr (.inr (.inr (.inr (.inr (.inr h)))))))
theorem fmt_push {h₀ h : Heap} {L : Addr} {y x1 x2 x3 x4 x5 x6 x7 : Addr × Obj} {rest : List (Addr × Obj)} (N : News h₀ L h (y :: x1 :: x2 :: x3 :: x4 :: x5 :: x6 :: x7 :: rest)) : News h₀ L h (x1 :: x2 :: x3 :: x4 :: x5 :: x6 :: x7 :: y :: rest) := fun p hp => N p (by
  simp only [List.mem_cons] at hp ⊢
  rcases hp with h | h | h | h | h | h | h | h | h
  · exact .inr (.inl h)
  · exact .inr (.inr (.inl h))
  · exact .inr (.inr (.inr (.inl h)))
  · exact .inr (.inr (.inr (.inr (.inl h))))
  · exact .inr (.inr (.inr (.inr (.inr (.inl h)))))
  · exact .inr (.inr (.inr (.inr (.inr (.inr (.inl h))))))
  · exact .inr (.inr (.inr (.inr (.inr (.inr (.inr (.inl h)))))))
  · exact .inl h
  · exact .inr (.inr (.inr (.inr (.inr (.inr (.inr (.inr h))))))))
theorem shaped_sp : SeqAt.shaped (.tuple [.str (Str.ofString " "), .str (Str.ofString "")]) = true := by decide +kernel
theorem ne_space {c : Str × Str} (h : c ≠ (Str.ofString " ", Str.ofString "")) : (!PyData.eqv (.tuple [.str c.1, .str c.2]) (.tuple [.str (Str.ofString " "), .str (Str.ofString "")])) = true := by
  obtain ⟨x, y⟩ := c
  simp only [PyData.eqv, PyData.eqvAll, Bool.and_true]
  cases hx : (x == Str.ofString " ") with
  | false => rfl
  | true =>
    cases hy : (y == Str.ofString "") with
    | false => rfl
    | true => exact absurd (by rw [eq_of_beq hx, eq_of_beq hy]) h
set_option maxHeartbeats 4000000 in
theorem newline_spec {w : World} {A : Around} {s : Shared} {mg mb : Str → Option Value} {h₀ : Heap} {L bm : Addr} {ob : Obj} {m : Str → Option Value} {rest : List (Addr × Obj)} {M dm Ln a d : Addr} {u1 u2 u3 u4 u5 u6 tw tc tl ts : Tok} {width : Nat} {signs : Str} {lv its : List Value} {nl n : Nat} {t : Tok} {k : Nat} {tk₀ : Tok} {ps qs : Array Value} {cs : List (Str × Str)} {c : Str × Str} {ls : List Str} {R : Result → Shared → Prop}
   (F : Fr h₀ L s.heap m) (X : (fr.heap_1 w.params).In h₀) (N : News h₀ L s.heap (fmtNews w M dm Ln a d (fmtDict w u1 u2 u3 u4 u5 u6 tw tc tl ts width signs Ln a) lv nl its n t k tk₀ ps qs rest)) (O : FOrd M dm Ln a d rest) (T : TT mg mb h₀) (BM : BMod h₀ mainGlobals mg bm ob) (hh : A.handled = none) (hdp : A.depth < 860) (hu : A.units < 8900)
   (hps : TriplesOk ps.toList) (hqs : TriplesOk qs.toList) (hck : CksIn rest its (cs ++ [c])) (hlv : StrsAre lv ls) (hl : cksLen (cs ++ [c]) ≤ 10000) (hn : cs.length ≤ 900) (hk : k ≤ 10000) (hll : ls.length ≤ 1000)
   (hc : c ≠ (Str.ofString " ", Str.ofString "")) (hk1 : PyData.strOk c.1 = true) (hk2 : PyData.strOk c.2 = true) (hpos : 0 < cksLen (cs ++ [c])) (hsp : k = 0 → Txt.isspace (cksStr (cs ++ [c])) = false)
   (hQ : ∀ h' g' tk n' nl' lv' t' tk' ps' qs' rest', Fr h₀ L h' m → News h₀ L h' (fmtNews w M dm Ln a d (fmtDict w u1 u2 u3 u4 u5 u6 tw tc tl ts width signs Ln a) lv' nl' [] n' t' 0 tk' ps' qs' rest') → FOrd M dm Ln a d rest' → TriplesOk ps'.toList → TriplesOk qs'.toList → StrsAre lv' (ls ++ [cksStr (cs ++ [c])]) → (AllBare s.gens → AllBare g') → R (.ok (.ret .none)) { s with heap := h', gens := g', toks := tk }) :
   codeAny (model (Challenge.rw_rs0167_01.row.prog) w) A (.call (.ref 56) ⟨[.ref M], []⟩) R s := by
  obtain ⟨T₀, tf, tp, its', rfl, mT, hck'⟩ := hck.snoc
  replace N := fmt_cons N mT
  replace O := O.cons (o := { cls := .type "tuple", data := .seq #[.str c.1 tf, .str c.2 tp] }) (O.o6 _ mT)
  have hck' := hck'.mono fun p hp => List.Mem.tail (T₀, ({ cls := .type "tuple", data := .seq #[.str c.1 tf, .str c.2 tp] } : Obj)) hp
  have hln : its'.length = cs.length := hck'.length
  revert X; k_fill; intro X
  refine' codeL (binds := [(Str.ofString "self", .ref M)]) F X N T ?ho ?hcd ?hroom ?hb ?hl ?_ ?c1 ?c2 ?c3 ?c4
  kwd_inv
  intro g L' h₁ F₁ N₁ X₁ T₁ lt₁ st₁
  try dsimp only
  try k_fold
  kwd_rel
  dsimp only
  rename Fr g _ _ _ => F2
  rename News g _ _ _ => N2
  refine wpAny_call (pop_spec F2 X₁ N2 T₁ (by simp only [depth_deeper]; omega) O.nea O.a140.2.2.2.2 (by omega) ?_)
  intro h2 tk2 n2 F3 N3
  clear F2 N2
  have st : StopN 1 := .mk 1
  kwd_rel
  rename StopN _ => st
  clear st
  unfold Hold
  rename Fr g _ _ _ => F4
  rename News g _ _ _ => N4
  refine ne_dataH (da := .tuple [.str c.1, .str c.2]) (db := .tuple [.str (Str.ofString " "), .str (Str.ofString "")]) (by ked_read) (by ked_read) ?_ ?_ (by show A.units + 3 + 64 < 9900; omega) ?_
  · simp [SeqAt.shaped, PyData.canLay0, PyData.canLayAll0, hk1, hk2, PyData.depth, PyData.depthAll]
  · exact shaped_sp
  rw [ne_space hc]
  have st : StopN 2 := .mk 2
  kwd_rel
  rename StopN _ => st
  clear st
  unfold Hold
  refine MethodStar_ ?_
  have st : StopN 3 := .mk 3
  kwd_rel
  rename StopN _ => st
  clear st
  unfold Hold
  refine callWith_SM (K := fr.heap_1 w.params) (g := 122) (self := .ref a) (by k_is) ?_
  kwd_rel
  rename Fr g _ _ _ => F5
  rename News g _ _ _ => N5
  refine call_meth N5 (.head _) ?_
  refine push_spec F5 X₁ (fun p hp => N5 p (.tail _ (.tail _ hp))) T₁ (by simp only [depth_deeper]; omega) O.nea O.a140.2.2.2.2 (by omega) ?_
  intro h6 tk6 T3 n6 F6 N6 la6 _ _
  have N7 := fmt_push N6
  have O7 := O.cons (o := { cls := .type "tuple", data := .seq #[.str c.1 tf, .str c.2 tp] }) la6
  have ck7 : CksIn ((T3, ({ cls := .type "tuple", data := .seq #[.str c.1 tf, .str c.2 tp] } : Obj)) :: (T₀, { cls := .type "tuple", data := .seq #[.str c.1 tf, .str c.2 tp] }) :: rest) (its' ++ [.ref T3]) (cs ++ [c]) := (hck'.mono fun p hp => .tail _ hp).append (.cons (.head _) .nil)
  clear F5 N5 N6
  kwd_rel
  rename Fr g _ _ _ => F8
  refine wpAny_call (len_spec F8 X₁ N7 T₁ (BM.keeps st₁) hh (by simp only [depth_deeper, depth_in1]; omega) hps (ck7.ck.mono fun p hp => .tail _ (.tail _ (.tail _ (.tail _ hp)))) hl hk O7.a140.1 O7.a140.2.2.1 O7.n140 ?_)
  intro h9 g9 tk9 t9 ps9 F9 N9 hps9 hb9
  refine ⟨⟨by omega, by omega⟩, ?_⟩
  clear F8 N7
  kwd_rel
  · dsimp only
    rename Fr g _ _ _ => F10
    rename News g _ _ _ => N10
    refine wpAny_call (onlyws_spec F10 X₁ N10 T₁ (BM.keeps st₁) hh (by simp only [depth_deeper]; omega) (by show A.units + 3 < 9000; omega) hps9 hqs (ck7.ck.mono fun p hp => .tail _ (.tail _ (.tail _ hp))) hl (by simp; omega) hk O7.a140.1 O7.a140.2.1 O7.a140.2.2.1 O7.a140.2.2.2.1 O7.m140 O7.m147 (fun _ => hpos) hsp ?_)
    intro h11 g11 tk11 ps11 qs11 F11 N11 hps11 hqs11 hb11
    clear F10 N10
    have st : StopN 4 := .mk 4
    kwd_rel
    rename StopN _ => st
    clear st
    unfold Hold
    rename Fr g _ _ _ => F12
    refine kso_call (by show A.units + 3 + 1 + 1 < 9900; omega) (X₁.keeps F12.keep) (accInst N11 (.head _) (.tail _ (.head _))) (by k_is) (by k_is) ?_
    refine wpAny_call (str_spec F12 X₁ (news_swap N11) T₁ (BM.keeps st₁) hh (by simp only [depth_deeper, depth_in1]; omega) hqs11 (ck7.ck.mono fun p hp => .tail _ (.tail _ (.tail _ (.tail _ hp)))) hl (by simp; omega) hk O7.a140.2.1 O7.a140.2.2.2.1 O7.n147 ?_)
    intro h13 g13 tk13 t13 qs13 F13 N13 hqs13 hb13
    have N14 := news_swap N13
    dsimp only [StrBack]
    clear F12 N11 N13
    have o1 := O7.o1
    have o2 := O7.o2
    have o3 := O7.o3
    have o4 := O7.o4
    have o5 := O7.o5
    have o7 := O7.nLn
    have lvl : lv.length ≤ 1000 := by rw [hlv.length]; exact hll
    kwd_rel
    rename Fr g _ _ _ => F15
    rename News g _ _ _ => N15
    have hil : (its' ++ [Value.ref T3]).length ≤ 1000 := by simp; omega
    dsimp only
    refine wpAny_call (reset_none F15 X₁ N15 T₁ (by simp only [depth_deeper]; omega) O7.nea O7.ned O7.a140.2.2.2.2 hil ?_)
    intro h16 tk16 n16 t16 F16 N16
    clear F15 N15
    kwd_rel
    rw [List.push_toArray] at *
    exact hQ _ _ _ _ _ _ _ _ _ _ _ (by assumption) (by assumption) O7 hps11 hqs13 (hlv.append' (.cons _ _ .nil)) (fun x => hb13 (hb11 (hb9 x)))
end XH14
section XH16
local macro_rules | `(tactic| walk_at "pad") => `(tactic| skip)
local macro_rules | `(tactic| walk_at "call ref") => `(tactic| refine Hold.out ?_)
local macro_rules
  | `(tactic| walk_at "eval Call Attribute cons nil") => `(tactic| (rename StopN 1 => st; refine Hold.out ?_))
  | `(tactic| walk_at "callWith ref nil nil") => `(tactic| (rename StopN 2 => st; refine Hold.out ?_))
  | `(tactic| walk_at "call type:str cons nil") => `(tactic| (rename StopN 3 => st; refine Hold.out ?_))
theorem shaped_e : SeqAt.shaped (.tuple [.str (Str.ofString ""), .str (Str.ofString "")]) = true := by decide +kernel
theorem ne_e : (!PyData.eqv (.tuple [.str (Str.ofString ""), .str (Str.ofString "")]) (.tuple [.str (Str.ofString " "), .str (Str.ofString "")])) = true := by decide +kernel
set_option maxHeartbeats 4000000 in
theorem newline_empty {w : World} {A : Around} {s : Shared} {mg mb : Str → Option Value} {h₀ : Heap} {L bm : Addr} {ob : Obj} {m : Str → Option Value} {rest : List (Addr × Obj)} {M dm Ln a d : Addr} {u1 u2 u3 u4 u5 u6 tw tc tl ts : Tok} {width : Nat} {signs : Str} {lv : List Value} {nl n : Nat} {t : Tok} {k : Nat} {tk₀ : Tok} {ps qs : Array Value} {ls : List Str} {R : Result → Shared → Prop}
   (F : Fr h₀ L s.heap m) (X : (fr.heap_1 w.params).In h₀) (N : News h₀ L s.heap (fmtNews w M dm Ln a d (fmtDict w u1 u2 u3 u4 u5 u6 tw tc tl ts width signs Ln a) lv nl [] n t k tk₀ ps qs rest)) (O : FOrd M dm Ln a d rest) (T : TT mg mb h₀) (BM : BMod h₀ mainGlobals mg bm ob) (hh : A.handled = none) (hdp : A.depth < 860) (hu : A.units < 8900)
   (hps : TriplesOk ps.toList) (hqs : TriplesOk qs.toList) (hlv : StrsAre lv ls) (hk : k ≤ 10000) (hll : ls.length ≤ 1000)
   (hpos : 0 < k)
   (hQ : ∀ h' g' tk n' nl' lv' t' tk' ps' qs' rest', Fr h₀ L h' m → News h₀ L h' (fmtNews w M dm Ln a d (fmtDict w u1 u2 u3 u4 u5 u6 tw tc tl ts width signs Ln a) lv' nl' [] n' t' 0 tk' ps' qs' rest') → FOrd M dm Ln a d rest' → TriplesOk ps'.toList → TriplesOk qs'.toList → StrsAre lv' (ls ++ [cksStr [(Str.ofString "", Str.ofString "")]]) → (∀ p ∈ rest, p ∈ rest') → (AllBare s.gens → AllBare g') → R (.ok (.ret .none)) { s with heap := h', gens := g', toks := tk }) :
   codeAny (model (Challenge.rw_rs0167_01.row.prog) w) A (.call (.ref 56) ⟨[.ref M], []⟩) R s := by
  have hl : cksLen [(Str.ofString "", Str.ofString "")] ≤ 10000 := by decide
  revert X; k_fill; intro X
  refine' codeL (binds := [(Str.ofString "self", .ref M)]) F X N T ?ho ?hcd ?hroom ?hb ?hl ?_ ?c1 ?c2 ?c3 ?c4
  kwd_inv
  intro g L' h₁ F₁ N₁ X₁ T₁ lt₁ st₁
  try dsimp only
  try k_fold
  kwd_rel
  dsimp only
  rename Fr g _ _ _ => F2
  rename News g _ _ _ => N2
  refine wpAny_call (pop_empty F2 X₁ N2 T₁ (by simp only [depth_deeper]; omega) ?_)
  intro h2 tk2 T₀ tf tp F3 N3 laD _ _
  have N3 := fmt_push N3
  replace O := O.cons (o := { cls := .type "tuple", data := .seq #[.str (Str.ofString "") tf, .str (Str.ofString "") tp] }) laD
  clear F2 N2
  have st : StopN 1 := .mk 1
  kwd_rel
  rename StopN _ => st
  clear st
  unfold Hold
  refine MethodStar_ ?_
  have st : StopN 2 := .mk 2
  kwd_rel
  rename StopN _ => st
  clear st
  unfold Hold
  refine callWith_SM (K := fr.heap_1 w.params) (g := 122) (self := .ref a) (by k_is) ?_
  kwd_rel
  rename Fr g _ _ _ => F5
  rename News g _ _ _ => N5
  refine call_meth N5 (.head _) ?_
  refine push_spec F5 X₁ (fun p hp => N5 p (.tail _ (.tail _ hp))) T₁ (by simp only [depth_deeper]; omega) O.nea O.a140.2.2.2.2 (Nat.zero_le _) ?_
  intro h6 tk6 T3 n6 F6 N6 la6 _ _
  have N7 := fmt_push N6
  have O7 := O.cons (o := { cls := .type "tuple", data := .seq #[.str (Str.ofString "") tf, .str (Str.ofString "") tp] }) la6
  have ck7 : CksIn ((T3, ({ cls := .type "tuple", data := .seq #[.str (Str.ofString "") tf, .str (Str.ofString "") tp] } : Obj)) :: (T₀, { cls := .type "tuple", data := .seq #[.str (Str.ofString "") tf, .str (Str.ofString "") tp] }) :: rest) ([] ++ [.ref T3]) [(Str.ofString "", Str.ofString "")] := .cons (c := (Str.ofString "", Str.ofString "")) (.head _) .nil
  clear F5 N5 N6
  kwd_rel
  rename Fr g _ _ _ => F8
  rename News g _ _ _ => N8
  refine wpAny_call (len_spec F8 X₁ N8 T₁ (BM.keeps st₁) hh (by simp only [depth_deeper, depth_in1]; omega) hps (ck7.ck.mono fun p hp => .tail _ (.tail _ (.tail _ (.tail _ hp)))) hl hk O7.a140.1 O7.a140.2.2.1 O7.n140 ?_)
  intro h9 g9 tk9 t9 ps9 F9 N9 hps9 hb9
  refine ⟨⟨by omega, by omega⟩, ?_⟩
  clear F8 N8
  kwd_rel
  · dsimp only
    rename Fr g _ _ _ => F10
    rename News g _ _ _ => N10
    refine wpAny_call (onlyws_spec F10 X₁ N10 T₁ (BM.keeps st₁) hh (by simp only [depth_deeper]; omega) (by show A.units + 3 < 9000; omega) hps9 hqs (ck7.ck.mono fun p hp => .tail _ (.tail _ (.tail _ hp))) hl (by simp) hk O7.a140.1 O7.a140.2.1 O7.a140.2.2.1 O7.a140.2.2.2.1 O7.m140 O7.m147 (fun q => absurd q (by omega)) (fun q => absurd q (by omega)) ?_)
    intro h11 g11 tk11 ps11 qs11 F11 N11 hps11 hqs11 hb11
    clear F10 N10
    have st : StopN 3 := .mk 3
    kwd_rel
    rename StopN _ => st
    clear st
    unfold Hold
    rename Fr g _ _ _ => F12
    refine kso_call (by show A.units + 3 + 1 + 1 < 9900; omega) (X₁.keeps F12.keep) (accInst N11 (.head _) (.tail _ (.head _))) (by k_is) (by k_is) ?_
    refine wpAny_call (str_spec F12 X₁ (news_swap N11) T₁ (BM.keeps st₁) hh (by simp only [depth_deeper, depth_in1]; omega) hqs11 (ck7.ck.mono fun p hp => .tail _ (.tail _ (.tail _ (.tail _ hp)))) hl (by simp) hk O7.a140.2.1 O7.a140.2.2.2.1 O7.n147 ?_)
    intro h13 g13 tk13 t13 qs13 F13 N13 hqs13 hb13
    have N14 := news_swap N13
    dsimp only [StrBack]
    clear F12 N11 N13
    have o1 := O7.o1
    have o2 := O7.o2
    have o3 := O7.o3
    have o4 := O7.o4
    have o5 := O7.o5
    have o7 := O7.nLn
    have lvl : lv.length ≤ 1000 := by rw [hlv.length]; exact hll
    kwd_rel
    rename Fr g _ _ _ => F15
    rename News g _ _ _ => N15
    have hil : ([] ++ [Value.ref T3]).length ≤ 1000 := by simp
    dsimp only
    refine wpAny_call (reset_none F15 X₁ N15 T₁ (by simp only [depth_deeper]; omega) O7.nea O7.ned O7.a140.2.2.2.2 hil ?_)
    intro h16 tk16 n16 t16 F16 N16
    clear F15 N15
    kwd_rel
    rw [List.push_toArray] at *
    exact hQ _ _ _ _ _ _ _ _ _ _ _ (by assumption) (by assumption) O7 hps11 hqs13 (hlv.append' (.cons _ _ .nil)) (fun p hp => .tail _ (.tail _ hp)) (fun x => hb13 (hb11 (hb9 x)))
end XH16
section
variable {prog : Program} {w : World} {A : Around} {E : Value → Shared → Prop} {s : Shared} {K : Frag} {x C dx L : Addr} {h₀ : Heap} {m : Str → Option Value} {news news' : List (Addr × Obj)} {es : List DictEntry} {k n : Nat} {its : List Value} {value slice : PySem.Expr}
theorem item_L {i : Int} {t : Tok} {v : Value} {Q : Value → Shared → Prop} {ops : List Value} (F : Fr h₀ L s.heap m) (X₀ : K.In h₀) (N : News h₀ L s.heap news) (h1 : (x, ({ cls := .ref C, dict := some dx, data := .seq its.toArray n } : Obj)) ∈ news) (h2 : (dx, dictOf es k) ∈ news)
    (hq : noSeq K C = true) (hsub : subIn K (.ref C) (.type "list") = some true) (hf : findIn K (.ref C) "__getitem__" = some (some (.builtin "list.__getitem__"))) (hi0 : 0 ≤ i) (hi1 : i < 2 ^ 63)
    (hx : its[i.toNat]? = some v)
    (hs : subscripted slice false (.ref x) (.int i t) = operate ops (getItem (.ref x) (.int i t)))
    (h : Q v s) : wpAny (model prog w) A (subscriptTail value slice (.ref x) (.int i t)) Q E s := by
  have I1 := accInst N h1 h2
  have X1 := X₀.keeps F.keep
  exact subTail_L X1 I1 hf (getItem_L_int X1 I1 rfl hq hsub hf hi0 hi1 (by rw [List.getElem?_toArray]; exact hx) h) hs
end
theorem size_down (n : Nat) : Builtin.Range.rangeSize ((n : Int) - 1) 0 (-1) = ((n - 1 : Nat) : Int) := by
  rw [PySem.W.rangeSize_downNat]
  cases n with
  | zero => rfl
  | succ n => simp
theorem small_down (n : Nat) (h : n ≤ 2000) : Builtin.Range.small ((n : Int) - 1) 0 (-1) = true := PySem.W.small_down (by omega) (by omega) (by decide) (by decide)
theorem iterText {prog : Program} {w : World} {A : Around} {E : Value → Shared → Prop} {s : Shared} {x : Str} {t : Tok} {Q : Value → Shared → Prop}
    (k : ∀ ty, (ty == "tuple") = false → (∀ A' : Around, A'.handled = none → Walks prog w A' s.heap.objs.size [s.heap.objs.size] [s.heap.objs.size] x.cps.size (SignAt x) fun i h => h.IsStrIter s.heap.objs.size ty x t i) →
      Q (.ref s.heap.objs.size) { s with heap := s.heap.push { cls := .type ty, data := .fields #[.str x t, .int 0 0] } }) : wpAny (model prog w) A (pyIter (.str x t)) Q E s := by
  rcases Bool.eq_false_or_eq_true (x.cps.all (· < 128)) with e | e
  · exact wpAny_pyIter_ascii e (k _ rfl fun _ hA => Walks.strAscii hA _ x t)
  · exact wpAny_pyIter_wide e (k _ rfl fun _ hA => Walks.strWide hA _ x t)
theorem pyIter_strT {prog : Program} {w : World} {A : Around} {E : Value → Shared → Prop} {s : Shared} {x : Str} {t : Tok} {Q : Value → Shared → Prop}
    (hQ : ∀ (o : Obj) (St : Nat → Heap → Prop), (∀ A' : Around, A'.handled = none → Walks prog w A' s.heap.objs.size [s.heap.objs.size] [s.heap.objs.size] x.cps.size (SignAt x) St) → St 0 (s.heap.push o) → (∀ i h, St i h → ∃ o, h.get? s.heap.objs.size = some o ∧ o.cls ≠ .type "tuple") →
      Q (.ref s.heap.objs.size) { s with heap := s.heap.push o }) : wpAny (model prog w) A (pyIter (.str x t)) Q E s :=
  iterText fun ty other W => hQ _ _ W ⟨_, Heap.get?_push_size _ rfl, rfl, rfl⟩ fun _ _ ⟨o, at_, cls, _⟩ => ⟨o, at_, fun e => by cases cls.symm.trans e; cases other⟩
theorem pyIter_strL {prog : Program} {w : World} {A : Around} {E : Value → Shared → Prop} {s : Shared} {x : Str} {t : Tok} {Q : Value → Shared → Prop}
    (hQ : ∀ (o : Obj) (St : Nat → Heap → Prop), (∀ A' : Around, A'.handled = none → Walks prog w A' s.heap.objs.size [s.heap.objs.size] [s.heap.objs.size] x.cps.size (SignAt x) St) → St 0 (s.heap.push o) → (∀ i h, St i h → ∃ o, h.get? s.heap.objs.size = some o) →
      Q (.ref s.heap.objs.size) { s with heap := s.heap.push o }) : wpAny (model prog w) A (pyIter (.str x t)) Q E s :=
  pyIter_strT fun o St W st live => hQ o St W st fun i h z => (live i h z).imp fun _ => And.left
theorem upon_i {xs : List Str} {x : Str} {v : Option Value} {m' m₀ : Str → Option Value} (hi : m' x = v) (h : ∀ z, (∀ y ∈ xs, z ≠ y) → m' z = m₀ z) : m' = fun y => if y = x then v else upon xs m' m₀ y := by
  funext y
  by_cases e : y = x
  · subst e; simp [hi]
  · rw [if_neg e]; exact congrFun (upon_of h) y
theorem cksLen_mem {cs : List (Str × Str)} {c : Str × Str} (h : c ∈ cs) : c.1.length + c.2.length ≤ cksLen cs := by
  induction cs with
  | nil => cases h
  | cons x r ih =>
    rw [cksLen, List.map_cons, List.sum_cons]
    rcases List.mem_cons.mp h with rfl | h
    · omega
    · have := ih h
      rw [cksLen] at this
      omega
theorem truthyS {prog : Program} {w : World} {A : Around} {E : Value → Shared → Prop} {s : Shared} {x : Str} {t : Tok} {Q : Bool → Shared → Prop} (hl : x.length ≤ 1000000) (h1 : 1 ≤ x.length → ∀ k, Q true { s with toks := k }) (h0 : x.length = 0 → ∀ k, Q false { s with toks := k }) : wpAny (model prog w) A (PySem.truthy (.str x t)) Q E s := by
  by_cases h : x.length = 0
  · exact KXt.truthy (b := false) (by rw [h]; rfl) (by omega) (h0 h)
  · exact KXt.truthy (b := true) (bne_iff_ne.mpr (by omega)) (by omega) (h1 (by omega))
theorem fmt_drop {h₀ h : Heap} {L : Addr} {y x1 x2 x3 x4 x5 x6 x7 : Addr × Obj} {rest : List (Addr × Obj)} (N : News h₀ L h (x1 :: x2 :: x3 :: x4 :: x5 :: x6 :: x7 :: y :: rest)) : News h₀ L h (x1 :: x2 :: x3 :: x4 :: x5 :: x6 :: x7 :: rest) := fun p hp => N p (by
  simp only [List.mem_cons] at hp ⊢
  rcases hp with h | h | h | h | h | h | h | h
  · exact .inl h
  · exact .inr (.inl h)
  · exact .inr (.inr (.inl h))
  · exact .inr (.inr (.inr (.inl h)))
  · exact .inr (.inr (.inr (.inr (.inl h))))
  · exact .inr (.inr (.inr (.inr (.inr (.inl h)))))
  · exact .inr (.inr (.inr (.inr (.inr (.inr (.inl h))))))
  · exact .inr (.inr (.inr (.inr (.inr (.inr (.inr (.inr h))))))))
section
variable {h₀ : Heap} {L : Addr} {xs : List Str} {m₀ m' : Str → Option Value} {nw nw' : List (Addr × Obj)} {s : Shared} {G : Prop} {B : (Str → Option Value) → Heap → Nat → Prop} {h' : Heap} {tk' : Nat}
theorem SearchEnd.step (F : Fr h₀ L h' m') (N : News h₀ L h' nw') (hm : ∀ z, (∀ y ∈ xs, z ≠ y) → m' z = m₀ z) (sub : ∀ p ∈ nw, p ∈ nw') (g : G) : SearchEnd h₀ L xs m₀ nw s G B .next { s with heap := h', toks := tk' } := ⟨g, h', tk', m', nw', rfl, hm, F, N, sub⟩
theorem SearchEnd.stepC (F : Fr h₀ L h' m') (N : News h₀ L h' nw') (hm : ∀ z, (∀ y ∈ xs, z ≠ y) → m' z = m₀ z) (sub : ∀ p ∈ nw, p ∈ nw') (g : G) : SearchEnd h₀ L xs m₀ nw s G B .cont { s with heap := h', toks := tk' } := ⟨g, h', tk', m', nw', rfl, hm, F, N, sub⟩
theorem SearchEnd.leave (b : B m' h' tk') : SearchEnd h₀ L xs m₀ nw s G B .brk { s with heap := h', toks := tk' } := ⟨h', tk', m', rfl, b⟩
end
theorem push_mem {α : Type} {p y x1 x2 x3 x4 x5 x6 x7 : α} {rest : List α} (h : p ∈ x1 :: x2 :: x3 :: x4 :: x5 :: x6 :: x7 :: y :: rest) : p ∈ y :: x1 :: x2 :: x3 :: x4 :: x5 :: x6 :: x7 :: rest := by
  simp only [List.mem_cons] at h ⊢
  rcases h with h | h | h | h | h | h | h | h | h
  · exact .inr (.inl h)
  · exact .inr (.inr (.inl h))
  · exact .inr (.inr (.inr (.inl h)))
  · exact .inr (.inr (.inr (.inr (.inl h))))
  · exact .inr (.inr (.inr (.inr (.inr (.inl h)))))
  · exact .inr (.inr (.inr (.inr (.inr (.inr (.inl h))))))
  · exact .inr (.inr (.inr (.inr (.inr (.inr (.inr (.inl h)))))))
  · exact .inl h
  · exact .inr (.inr (.inr (.inr (.inr (.inr (.inr (.inr h)))))))
theorem mem_push {α : Type} {p y x1 x2 x3 x4 x5 x6 x7 : α} {rest : List α} (h : p ∈ y :: x1 :: x2 :: x3 :: x4 :: x5 :: x6 :: x7 :: rest) : p ∈ x1 :: x2 :: x3 :: x4 :: x5 :: x6 :: x7 :: y :: rest := by
  simp only [List.mem_cons] at h ⊢
  rcases h with h | h | h | h | h | h | h | h | h
  · exact .inr (.inr (.inr (.inr (.inr (.inr (.inr (.inl h)))))))
  · exact .inl h
  · exact .inr (.inl h)
  · exact .inr (.inr (.inl h))
  · exact .inr (.inr (.inr (.inl h)))
  · exact .inr (.inr (.inr (.inr (.inl h))))
  · exact .inr (.inr (.inr (.inr (.inr (.inl h)))))
  · exact .inr (.inr (.inr (.inr (.inr (.inr (.inl h))))))
  · exact .inr (.inr (.inr (.inr (.inr (.inr (.inr (.inr h)))))))
section Si6
local macro_rules | `(tactic| walk_at "subscriptTail") => `(tactic| (k_here; (with_reducible show wpAny _ _ (subscriptTail _ _ (.ref _) (.int _ _)) _ _ _); k_dflt (refine' item_L ?_ ?_ ?_ ?_ ?_ ?_ ?_ ?_ ?_ ?_ ?_ ?_ ?_; rotate_right 13; k_asm; k_asm; k_asm; k_mem; k_mem; exact noSeq178 _; k_is; k_is; kwd_less; kwd_less; assumption; with_unfolding_all rfl; k_whole)))
local macro_rules | `(tactic| walk_at "truthy str") => `(tactic| (k_here; (with_reducible show wpAny _ _ (PySem.truthy (.str _ _)) _ _ _); refine truthyS ?_ (fun hS => ?_) (fun hS => ?_); kwd_less; all_goals intro _))
local macro_rules | `(tactic| walk_at "subscriptTail") => `(tactic| (k_here; (with_reducible show wpAny _ _ (subscriptTail _ _ (.str _ _) (.int _ _)) _ _ _); refine KXi.item (n := _) rfl ?_ ?_ ?_ ?_; omega; omega; omega; intro _))
section XH18
local macro_rules | `(tactic| walk_at "call ref") => `(tactic| refine Hold.out ?_)
local macro_rules | `(tactic| walk_at "exec For") => `(tactic| refine Hold.out ?_)
local macro_rules
  | `(tactic| walk_at "pyIter str") => `(tactic| (rename StopN 1 => st; refine Hold.out ?_))
  | `(tactic| walk_at "pyIter ref") => `(tactic| (rename StopN 2 => st; refine Hold.out ?_))
  | `(tactic| walk_at "assign Tuple cons ref") => `(tactic| (rename StopN 3 => st; refine Hold.out ?_))
  | `(tactic| walk_at "call type:str cons nil") => `(tactic| (rename StopN 4 => st; refine Hold.out ?_))
noncomputable def startsB (ch f : Str) : Bool := f.length != 0 && (Txt.item f 0 == ch)
noncomputable def endsB (ch p : Str) : Bool := p.length != 0 && (Txt.item p (-1) == ch)
noncomputable def condAt (ch : Str) (cs : List (Str × Str)) (i : Nat) : Bool := (Txt.isspace ch && startsB ch (cs.getD i default).1) || endsB ch (cs.getD (i - 1) default).2
noncomputable def findDown (p : Nat → Bool) : Nat → Option Nat
  | 0 => none
  | k + 1 => if p (k + 1) = true then some (k + 1) else findDown p k
noncomputable def findCh (cs : List (Str × Str)) : List Nat → Option Nat
  | [] => none
  | c :: r => match findDown (condAt ⟨#[c]⟩ cs) (cs.length - 1) with
    | some i => some i
    | none => findCh cs r
theorem startsB0 {ch f : Str} (h : f.length = 0) : startsB ch f = false := by simp [startsB, h]
theorem startsB1 {ch f : Str} (h : (Txt.item f 0 == ch) = false) : startsB ch f = false := by simp [startsB, h]
theorem endsB0 {ch f : Str} (h : f.length = 0) : endsB ch f = false := by simp [endsB, h]
theorem endsB1 {ch f : Str} (h : (Txt.item f (-1) == ch) = false) : endsB ch f = false := by simp [endsB, h]
theorem condT1 {x : Bool} {ch f p : Str} (e : x = ((Txt.isspace ch && startsB ch f) || endsB ch p)) (a : Txt.isspace ch = true) (b : 1 ≤ f.length) (c : (Txt.item f 0 == ch) = true) : x = true := by
  have : (f.length != 0) = true := by rw [bne_iff_ne]; omega
  rw [e, startsB, a, c, this]; rfl
theorem condT2 {x : Bool} {ch f p : Str} (e : x = ((Txt.isspace ch && startsB ch f) || endsB ch p)) (b : 1 ≤ p.length) (c : (Txt.item p (-1) == ch) = true) : x = true := by
  have : (p.length != 0) = true := by rw [bne_iff_ne]; omega
  rw [e, endsB, c, this]; simp
theorem condF {x : Bool} {ch f p : Str} (e : x = ((Txt.isspace ch && startsB ch f) || endsB ch p)) (a : Txt.isspace ch = false ∨ startsB ch f = false) (b : endsB ch p = false) : x = false := by
  rw [e, b]
  rcases a with a | a <;> simp [a]
theorem findDown_none {p : Nat → Bool} : ∀ k, (∀ j < k, p (k - j) = false) → findDown p k = none
  | 0, _ => rfl
  | k + 1, h => by
    have h0 := h 0 (Nat.succ_pos _)
    simp only [Nat.sub_zero] at h0
    simp only [findDown, h0, Bool.false_eq_true, if_false]
    exact findDown_none k fun j hj => by have := h (j + 1) (Nat.succ_lt_succ hj); rwa [Nat.add_sub_add_right] at this
theorem findDown_some {p : Nat → Bool} : ∀ k j, j < k → (∀ i < j, p (k - i) = false) → p (k - j) = true → findDown p k = some (k - j)
  | 0, _, h, _, _ => absurd h (Nat.not_lt_zero _)
  | k + 1, 0, _, _, h => by simp only [Nat.sub_zero] at h; simp only [findDown, h, if_true, Nat.sub_zero]
  | k + 1, j + 1, hj, hn, h => by
    have h0 := hn 0 (Nat.succ_pos _)
    simp only [Nat.sub_zero] at h0
    rw [Nat.add_sub_add_right] at h ⊢
    simp only [findDown, h0, Bool.false_eq_true, if_false]
    exact findDown_some k j (Nat.lt_of_succ_lt_succ hj) (fun i hi => by have := hn (i + 1) (Nat.succ_lt_succ hi); rwa [Nat.add_sub_add_right] at this) h
theorem findCh_some {cs : List (Str × Str)} {i : Nat} : ∀ (l : List Nat) (j : Nat), (∀ j' < j, ∀ c, l[j']? = some c → findDown (condAt ⟨#[c]⟩ cs) (cs.length - 1) = none) → (∀ c, l[j]? = some c → findDown (condAt ⟨#[c]⟩ cs) (cs.length - 1) = some i) → j < l.length → findCh cs l = some i
  | [], _, _, _, h => absurd h (Nat.not_lt_zero _)
  | c :: r, 0, _, h, _ => by simp only [findCh, h c rfl]
  | c :: r, j + 1, hn, h, hl => by
    simp only [findCh, hn 0 (Nat.succ_pos _) c rfl]
    exact findCh_some r j (fun j' hj' c' e => hn (j' + 1) (Nat.succ_lt_succ hj') c' e) (fun c' e => h c' e) (Nat.lt_of_succ_lt_succ hl)
theorem findCh_none {cs : List (Str × Str)} : ∀ (l : List Nat), (∀ j' < l.length, ∀ c, l[j']? = some c → findDown (condAt ⟨#[c]⟩ cs) (cs.length - 1) = none) → findCh cs l = none
  | [], _ => rfl
  | c :: r, hn => by
    simp only [findCh, hn 0 (Nat.succ_pos _) c rfl]
    exact findCh_none r fun j' hj' c' e => hn (j' + 1) (Nat.succ_lt_succ hj') c' e
theorem findDown_le {p : Nat → Bool} {i : Nat} : ∀ k, findDown p k = some i → i ≤ k
  | 0, h => by simp [findDown] at h
  | k + 1, h => by
    simp only [findDown] at h
    split at h
    · cases h; exact Nat.le_refl _
    · exact Nat.le_succ_of_le (findDown_le k h)
theorem findCh_le {cs : List (Str × Str)} {i : Nat} : ∀ (l : List Nat), findCh cs l = some i → i ≤ cs.length - 1
  | [], h => by simp [findCh] at h
  | c :: r, h => by
    simp only [findCh] at h
    split at h
    · rename_i j hj
      cases h
      exact findDown_le _ hj
    · exact findCh_le r h
noncomputable def appendF (width : Nat) (signs : Str) (ls : List Str) (k : Nat) (cs : List (Str × Str)) (c : Str × Str) : List Str × Nat × List (Str × Str) :=
  if k + cksLen (cs ++ [c]) ≤ width then (ls, k, cs ++ [c]) else match findCh (cs ++ [c]) signs.cps.toList with
    | some i => (ls ++ [cksStr ((cs ++ [c]).take i)], 0, (cs ++ [c]).drop i)
    | none => (ls ++ [cksStr [(Str.ofString "", Str.ofString "")]], 0, [c])
theorem q_ex {m n j : Nat} (e : m = n) (h : j < m - 1) : ∃ q, q + 1 = n - 1 - j := ⟨n - 1 - j - 1, Nat.sub_add_cancel (Nat.sub_pos_of_lt (e ▸ h))⟩
theorem q_int {m n j q : Nat} (e : m = n) (h : q + 1 = n - 1 - j) : ((m : Int) - 1 + (j : Int) * (-1)) = ((q + 1 : Nat) : Int) := by omega
theorem lt_of_q {q n j : Nat} (h : q + 1 = n - j) : j < n := by omega
theorem lt_step {p : Nat → Bool} {n j : Nat} (h : ∀ i < j, p (n - i) = false) (g : p (n - j) = false) : ∀ i < j + 1, p (n - i) = false := fun i hi => by
  rcases Nat.lt_succ_iff_lt_or_eq.mp hi with k | rfl
  · exact h i k
  · exact g
theorem off3 {u u2 m0 : Str → Option Value} {v w : Option Value} {z i f p : Str} (hz : ∀ y ∈ [i, f, p], z ≠ y) : (fun y => if y = p then v else upon [f] u (fun y => if y = i then w else upon [i, f, p] u2 m0 y) y) z = m0 z := by
  have h1 := hz _ (.head _)
  have h2 := hz _ (.tail _ (.head _))
  have h3 := hz _ (.tail _ (.tail _ (.head _)))
  show (if z = p then v else upon [f] u (fun y => if y = i then w else upon [i, f, p] u2 m0 y) z) = m0 z
  rw [if_neg h3, upon_off (fun y hy => by rw [List.mem_singleton.mp hy]; exact h2)]
  show (if z = i then w else upon [i, f, p] u2 m0 z) = m0 z
  rw [if_neg h1, upon_off hz]
theorem cut1 {M : Model} {A : Around} {E : Value → Shared → Prop} {s : Shared} {env : PySem.Env} {b : PySem.Stmt} {bs : List PySem.Stmt} {K : Flow → Shared → Prop} {h₀ h : Heap} {L : Addr} {tk : Nat} {m : Str → Option Value} {nw : List (Addr × Obj)} {x : Str} {D : Prop}
    (F : Fr h₀ L h m) (N : News h₀ L h nw)
    (rest : ∀ h tk u, D → Fr h₀ L h (fun y => upon [x] u m y) → News h₀ L h nw → wpAny M A (execs bs env) K E { s with heap := h, toks := tk })
    (first : ∀ J : Flow → Shared → Prop, (∀ h tk, D → Fr h₀ L h m → News h₀ L h nw → J .next { s with heap := h, toks := tk }) → (∀ h tk v, D → Fr h₀ L h (fun y => if y = x then v else m y) → News h₀ L h nw → J .next { s with heap := h, toks := tk }) → (∀ s', K .brk s' → J .brk s') → wpAny M A (execs [b] env) J E { s with heap := h, toks := tk }) :
    wpAny M A (execs (b :: bs) env) K E { s with heap := h, toks := tk } := by
  refine wpAny_append (a := [b]) (first _ (fun h tk d F' N' => rest h tk m d ?_ N') (fun h tk v d F' N' => rest h tk (fun _ => v) d ?_ N') (fun s' k => k))
  · have e : (fun y => upon [x] m m y) = m := by funext y; unfold upon; split <;> rfl
    rw [e]; exact F'
  · have e : (fun y => upon [x] (fun _ => v) m y) = (fun y => if y = x then v else m y) := by funext y; unfold upon; simp
    rw [e]; exact F'
set_option maxHeartbeats 8000000 in
theorem append_spec {w : World} {A : Around} {s : Shared} {mg mb : Str → Option Value} {h₀ : Heap} {L bm : Addr} {ob : Obj} {m : Str → Option Value} {rest : List (Addr × Obj)} {M dm Ln a d : Addr} {u1 u2 u3 u4 u5 u6 tw tc tl ts : Tok} {width : Nat} {signs : Str} {lv its : List Value} {nl n : Nat} {t : Tok} {k : Nat} {tk₀ : Tok} {ps qs : Array Value} {cs : List (Str × Str)} {c : Str × Str} {tf tp : Tok} {ls : List Str} {R : Result → Shared → Prop}
   (F : Fr h₀ L s.heap m) (X : (fr.heap_1 w.params).In h₀) (N : News h₀ L s.heap (fmtNews w M dm Ln a d (fmtDict w u1 u2 u3 u4 u5 u6 tw tc tl ts width signs Ln a) lv nl its n t k tk₀ ps qs rest)) (O : FOrd M dm Ln a d rest) (T : TT mg mb h₀) (BM : BMod h₀ mainGlobals mg bm ob) (hh : A.handled = none) (hdp : A.depth < 850) (hu : A.units < 8800)
   (hps : TriplesOk ps.toList) (hqs : TriplesOk qs.toList) (hck : CksIn rest its cs) (hlv : StrsAre lv ls) (hl : cksLen (cs ++ [c]) ≤ 10000) (hn : cs.length ≤ 900) (hk : k ≤ 10000) (hll : ls.length ≤ 900) (hw : width ≤ 11) (hsg : signs.length ≤ 10)
   (hnone : ¬ k + cksLen (cs ++ [c]) ≤ width → findCh (cs ++ [c]) signs.cps.toList = none → cs = [] ∧ 0 < k ∧ c.1.length ≠ 0)
   (hQ : ∀ h' g' tk its' n' nl' lv' t' tk' ps' qs' rest', Fr h₀ L h' m → News h₀ L h' (fmtNews w M dm Ln a d (fmtDict w u1 u2 u3 u4 u5 u6 tw tc tl ts width signs Ln a) lv' nl' its' n' t' (appendF width signs ls k cs c).2.1 tk' ps' qs' rest') → FOrd M dm Ln a d rest' → TriplesOk ps'.toList → TriplesOk qs'.toList → CksIn rest' its' (appendF width signs ls k cs c).2.2 → StrsAre lv' (appendF width signs ls k cs c).1 → (∀ p ∈ rest, p ∈ rest') → (AllBare s.gens → AllBare g') → R (.ok (.ret .none)) { s with heap := h', gens := g', toks := tk }) :
   codeAny (model (Challenge.rw_rs0167_01.row.prog) w) A (.call (.ref 91) ⟨[.ref M, .str c.1 tf, .str c.2 tp], []⟩) R s := by
  have hln : its.length = cs.length := hck.length
  revert X; k_fill; intro X
  refine' codeL (binds := [(Str.ofString "self", .ref M), (Str.ofString "fws", .str c.1 tf), (Str.ofString "string", .str c.2 tp)]) F X N T ?ho ?hcd ?hroom ?hb ?hl ?_ ?c1 ?c2 ?c3 ?c4
  kwd_inv
  intro g L' h₁ F₁ N₁ X₁ T₁ lt₁ st₁
  try dsimp only
  try k_fold
  kwd_rel
  rename Fr g _ _ _ => F2
  refine wpAny_call (push_spec F2 X₁ N₁ T₁ (by simp only [depth_deeper]; omega) O.nea O.a140.2.2.2.2 (by omega) ?_)
  intro h3 tk3 T3 n3 F3 N3 la3 _ _
  have N4 := fmt_push N3
  replace O := O.cons (o := { cls := .type "tuple", data := .seq #[.str c.1 tf, .str c.2 tp] }) la3
  have ck4 : CksIn ((T3, ({ cls := .type "tuple", data := .seq #[.str c.1 tf, .str c.2 tp] } : Obj)) :: rest) (its ++ [.ref T3]) (cs ++ [c]) := (hck.mono fun p hp => .tail _ hp).append (.cons (.head _) .nil)
  clear F2 N₁ N3
  kwd_rel
  rename Fr g _ _ _ => F5
  refine wpAny_call (len_spec F5 X₁ N4 T₁ (BM.keeps st₁) hh (by simp only [depth_deeper, depth_in1]; omega) hps (ck4.ck.mono fun p hp => .tail _ (.tail _ (.tail _ (.tail _ hp)))) hl hk O.a140.1 O.a140.2.2.1 O.n140 ?_)
  intro h6 g6 tk6 t6 ps6 F6 N6 hps6 hb6
  refine ⟨⟨by omega, by omega⟩, ?_⟩
  clear F5 N4
  by_cases hfit : k + cksLen (cs ++ [c]) ≤ width
  · have e : appendF width signs ls k cs c = (ls, k, cs ++ [c]) := if_pos hfit
    rw [e] at hQ
    kwd_rel
    exact hQ _ _ _ _ _ _ _ _ _ _ _ _ (by assumption) (by assumption) O hps6 hqs ck4 hlv (fun p hp => .tail _ hp) hb6
  · have e : appendF width signs ls k cs c = match findCh (cs ++ [c]) signs.cps.toList with
      | some i => (ls ++ [cksStr ((cs ++ [c]).take i)], 0, (cs ++ [c]).drop i)
      | none => (ls ++ [cksStr [(Str.ofString "", Str.ofString "")]], 0, [c]) := if_neg hfit
    rw [e] at hQ
    clear e
    generalize hF : appendF width signs ls k cs c = Fx at hQ
    kwd_rel
    refine wpAny_For ?_
    have st : StopN 1 := .mk 1
    kwd_rel
    rename StopN _ => st
    clear st
    unfold Hold
    have hh' : (A.deeper (envX (Str.ofString "_ValueFormatter._append_chunk") { kind := .function, names := [], isGenerator := false, isCoroutine := false } L' 91 (Value.ref 90) [])).handled = none := hh
    refine pyIter_strL fun o St hW hst hlive => ?_
    have hI0 := next_is_new F6
    have hI1 := fun (p : Addr × Obj) (hp : p ∈ _) => Nat.ne_of_lt (Heap.lt_size (N6 p hp).1)
    have F7 := F6.push o
    have N7 := N6.grown (h' := h6.push o) fun _ _ e => Heap.get?_push_of_some _ e
    dsimp only at hW hst hlive hI0 hI1 ⊢
    have hIL : h6.objs.size ≠ L' := Nat.ne_of_gt F6.ns.lt
    generalize h6.objs.size = I at hW hlive hI0 hI1 hIL ⊢
    generalize h6.push o = h7 at F7 N7 hst ⊢
    clear F6 N6
    refine forSearch hh' (hW _ hh') hlive hst hI0 hIL hI1 rfl rfl (xs := [Str.ofString "ch", Str.ofString "i", Str.ofString "fws", Str.ofString "prevpart"]) (.head _) F7 N7
      (fun j => ∀ j' < j, ∀ c', signs.cps[j']? = some c' → findDown (condAt ⟨#[c']⟩ (cs ++ [c])) ((cs ++ [c]).length - 1) = none) (fun j' h => absurd h (Nat.not_lt_zero _))
      (fun m' h' _ => ∃ i0 : Nat, ∃ t' u, m' = (fun y => if y = Str.ofString "i" then some (.int i0 t') else upon [Str.ofString "ch", Str.ofString "i", Str.ofString "fws", Str.ofString "prevpart"] u (fun y => [(Str.ofString "self", Value.ref M), (Str.ofString "fws", Value.str c.1 tf), (Str.ofString "string", Value.str c.2 tp)].reverse.lookup y) y) ∧ findCh (cs ++ [c]) signs.cps.toList = some i0 ∧ Fr g L' h' m' ∧ News g L' h' (fmtNews w M dm Ln a d (fmtDict w u1 u2 u3 u4 u5 u6 tw tc tl ts width signs Ln a) lv nl (its ++ [.ref T3]) n3 t k tk₀ ps6 qs ((T3, { cls := .type "tuple", data := .seq #[.str c.1 tf, .str c.2 tp] }) :: rest)))
      ?_ ?_ ?_
    · rintro j v u h8 tk8 oI hj ⟨ch, uch, hch, rfl⟩ hG F8 N8
      refine opaqueQ fun K₈ hK₈ => ?_
      have N9 := fmt_push N8
      clear N8
      kwd_rel
      refine wpAny_For ?_
      kwd_rel
      refine wpAny_call (count_spec F8 X₁ N9 T₁ (by simp only [depth_deeper]; omega) ?_)
      intro h10 tk10 t10 F10 N10
      clear F8 N9
      have st : StopN 2 := .mk 2
      kwd_rel
      rename StopN _ => st
      clear st
      unfold Hold
      rename IsRange _ _ _ _ _ _ _ _ => rg
      rename Fr g _ _ _ => F11
      rename News g _ _ _ => N11
      have hn4 : (its ++ [Value.ref T3]).length = (cs ++ [c]).length := ck4.length
      have hz4 : (its ++ [Value.ref T3]).length ≤ 1000 := by rw [List.length_append]; simp only [List.length_cons, List.length_nil]; omega
      have hsz := size_down (its ++ [Value.ref T3]).length
      refine wpAny_pyIter_range rg (small_down _ (by omega)) ?_
      rw [hsz]
      clear rg
      rename_i h11 tk11 _ _ _ _
      have hJ0 := next_is_new F11
      have hJ1 := fun (p : Addr × Obj) (hp : p ∈ _) => Nat.ne_of_lt (Heap.lt_size (N11 p hp).1)
      have F12 := F11.push { cls := .type "range_iterator", data := .fields #[rawInt (((its ++ [Value.ref T3]).length : Int) - 1), rawInt (((its ++ [Value.ref T3]).length - 1 : Nat) : Int), rawInt (-1)] }
      have N12 := N11.grown (h' := h11.push { cls := .type "range_iterator", data := .fields #[rawInt (((its ++ [Value.ref T3]).length : Int) - 1), rawInt (((its ++ [Value.ref T3]).length - 1 : Nat) : Int), rawInt (-1)] }) fun _ _ e => Heap.get?_push_of_some _ e
      have hst2 : IsRangeIter (h11.push { cls := .type "range_iterator", data := .fields #[rawInt (((its ++ [Value.ref T3]).length : Int) - 1), rawInt (((its ++ [Value.ref T3]).length - 1 : Nat) : Int), rawInt (-1)] }) h11.objs.size (((its ++ [Value.ref T3]).length : Int) - 1 + ((0 : Nat) : Int) * (-1)) ((((its ++ [Value.ref T3]).length - 1 : Nat) : Int) - ((0 : Nat) : Int)) (-1) := by
        show IsRangeIter _ _ _ _ _; simpa using Heap.get?_push_size _ rfl
      have hJL : h11.objs.size ≠ L' := Nat.ne_of_gt F11.ns.lt
      dsimp only at hJ0 hJ1 ⊢
      generalize h11.objs.size = J at hst2 hJ0 hJ1 hJL ⊢
      generalize h11.push _ = h12 at F12 N12 hst2 ⊢
      clear F11 N11
      refine forSearch (P := fun i v => ∃ t, v = .int (((its ++ [Value.ref T3]).length : Int) - 1 + (i : Int) * (-1)) t) (St := fun i h => IsRangeIter h J (((its ++ [Value.ref T3]).length : Int) - 1 + (i : Int) * (-1)) ((((its ++ [Value.ref T3]).length - 1 : Nat) : Int) - (i : Int)) (-1)) (n := (its ++ [Value.ref T3]).length - 1) hh' (Walks.range (by exact hh) _ _ _ _) (fun i h st => ⟨_, st⟩) hst2 hJ0 hJL hJ1 rfl rfl (xs := [Str.ofString "i", Str.ofString "fws", Str.ofString "prevpart"]) (.head _) F12 N12
        (fun j => ∀ j' < j, condAt ⟨#[ch]⟩ (cs ++ [c]) ((cs ++ [c]).length - 1 - j') = false) (fun j' h => absurd h (Nat.not_lt_zero _))
        (fun m' h' _ => ∃ i0 : Nat, ∃ t' u', m' = (fun y => if y = Str.ofString "i" then some (.int i0 t') else upon [Str.ofString "i", Str.ofString "fws", Str.ofString "prevpart"] u' (fun y => if y = Str.ofString "ch" then some (Value.str { cps := #[ch] } uch) else upon [Str.ofString "ch", Str.ofString "i", Str.ofString "fws", Str.ofString "prevpart"] u (fun y => [(Str.ofString "self", Value.ref M), (Str.ofString "fws", Value.str c.1 tf), (Str.ofString "string", Value.str c.2 tp)].reverse.lookup y) y) y) ∧ findDown (condAt ⟨#[ch]⟩ (cs ++ [c])) ((cs ++ [c]).length - 1) = some i0 ∧ Fr g L' h' m' ∧ News g L' h' (fmtNews w M dm Ln a d (fmtDict w u1 u2 u3 u4 u5 u6 tw tc tl ts width signs Ln a) lv nl (its ++ [.ref T3]) n3 t k tk₀ ps6 qs ((I, oI) :: (T3, { cls := .type "tuple", data := .seq #[.str c.1 tf, .str c.2 tp] }) :: rest)))
        ?_ ?_ ?_
      · rintro j2 v2 u2 h13 tk13 oJ hj2 ⟨ti, rfl⟩ hG2 F13 N13
        refine opaqueQ fun K₉ hK₉ => ?_
        have N14 := fmt_push N13
        clear N13 F12 N12
        obtain ⟨q, hq⟩ : ∃ q, q + 1 = (cs ++ [c]).length - 1 - j2 := q_ex hn4 hj2
        have hqi : (((its ++ [Value.ref T3]).length : Int) - 1 + (j2 : Int) * (-1)) = ((q + 1 : Nat) : Int) := q_int hn4 hq
        rw [hqi] at F13
        obtain ⟨Tq, tfq, tpq, hTq, mTq⟩ := ck4.at_ (q + 1) ((cs ++ [c]).getD (q + 1) default) (by rw [List.getD_eq_getElem?_getD, List.getElem?_eq_getElem (by omega)]; rfl)
        obtain ⟨Tp, tfp, tpp, hTp, mTp⟩ := ck4.at_ q ((cs ++ [c]).getD q default) (by rw [List.getD_eq_getElem?_getD, List.getElem?_eq_getElem (by omega)]; rfl)
        have hc14 : condAt ⟨#[ch]⟩ (cs ++ [c]) (q + 1) = ((Txt.isspace ⟨#[ch]⟩ && startsB ⟨#[ch]⟩ ((cs ++ [c]).getD (q + 1) default).1) || endsB ⟨#[ch]⟩ ((cs ++ [c]).getD q default).2) := rfl
        have lcq : ∀ i, i < (cs ++ [c]).length → ((cs ++ [c]).getD i default).1.length + ((cs ++ [c]).getD i default).2.length ≤ 10000 := fun i hi => Nat.le_trans (cksLen_mem (by rw [List.getD_eq_getElem?_getD, List.getElem?_eq_getElem hi]; exact List.getElem_mem hi)) hl
        have l1 := lcq (q + 1) (by omega)
        have l2 := lcq q (by omega)
        generalize (cs ++ [c]).getD (q + 1) default = cq at mTq hc14 l1
        generalize (cs ++ [c]).getD q default = cp at mTp hc14 l2
        replace hTq : (its ++ [Value.ref T3])[((q + 1 : Nat) : Int).toNat]? = some (.ref Tq) := by rw [Int.toNat_natCast]; exact hTq
        replace hTp : (its ++ [Value.ref T3])[(((q + 1 : Nat) : Int) - 1).toNat]? = some (.ref Tp) := by rw [show (((q + 1 : Nat) : Int) - 1).toNat = q by omega]; exact hTp
        have N15 := fmt_cons (fmt_cons N14 (.tail _ (.tail _ mTp))) (.tail _ (.tail _ (.tail _ mTq)))
        clear N14
        refine cut1 (x := Str.ofString "fws") (D := Txt.isspace ⟨#[ch]⟩ = false ∨ startsB ⟨#[ch]⟩ cq.1 = false) F13 N15 ?_ ?_
        · clear F13 N15
          intro h14 tk14 u3 hD F14 N16
          kwd_rel
          · rename Fr g _ _ _ => F16
            rename News g _ _ _ => N16
            exact hK₉ _ _ (SearchEnd.leave (m' := _) ⟨q + 1, ti, _, upon_i rfl (fun z hz => off3 hz), by rw [hq]; exact findDown_some _ _ (lt_of_q hq) hG2 (by rw [← hq]; exact condT2 hc14 (by assumption) (by assumption)), F16, fmt_drop (fmt_drop (fmt_drop N16))⟩)
          · rename Fr g _ _ _ => F16
            rename News g _ _ _ => N16
            exact hK₉ _ _ (SearchEnd.step F16 (fmt_drop (fmt_drop N16)) (fun z hz => off3 hz) (fun p hp => mem_push hp) (lt_step hG2 (by rw [← hq]; exact condF hc14 hD (endsB1 (by assumption)))))
          · rename Fr g _ _ _ => F16
            rename News g _ _ _ => N16
            exact hK₉ _ _ (SearchEnd.step F16 (fmt_drop (fmt_drop N16)) (fun z hz => off3 hz) (fun p hp => mem_push hp) (lt_step hG2 (by rw [← hq]; exact condF hc14 hD (endsB0 (by assumption)))))
        · intro J₉ hJ0 hJ1 hJB
          kwd_rel
          · rename Fr g _ _ _ => F16
            rename News g _ _ _ => N16
            refine hJB _ (hK₉ _ _ (SearchEnd.leave (m' := _) ⟨q + 1, ti, _, upon_i rfl ?_, by rw [hq]; exact findDown_some _ _ (lt_of_q hq) hG2 (by rw [← hq]; exact condT1 hc14 (by assumption) (by assumption) (by assumption)), F16, fmt_drop (fmt_drop (fmt_drop N16))⟩))
            ktd_rel
          · exact hJ1 _ _ _ (.inr (startsB1 (by assumption))) (by assumption) (by assumption)
          · exact hJ1 _ _ _ (.inr (startsB0 (by assumption))) (by assumption) (by assumption)
          · exact hJ0 _ _ (.inl (by assumption)) (by assumption) (by assumption)
      · intro um h13 tk13 hG2 F13 N13
        clear F12 N12
        kwd_rel
        dsimp only
        have hz3 : ∀ z : Str, (∀ y ∈ [Str.ofString "ch", Str.ofString "i", Str.ofString "fws", Str.ofString "prevpart"], z ≠ y) → ∀ y ∈ [Str.ofString "i", Str.ofString "fws", Str.ofString "prevpart"], z ≠ y := fun z hz y hy => hz y (.tail _ hy)
        refine hK₈ _ _ (SearchEnd.stepC (m' := _) F13 N13 ?_ (fun p hp => mem_push hp) ?_)
        · intro z hz
          rw [upon_off (hz3 z hz)]
          rw [if_neg (hz _ (.head _)), upon_off hz]
        · intro j' hj' c' hc'
          rcases Nat.lt_succ_iff_lt_or_eq.mp hj' with h | rfl
          · exact hG j' h c' hc'
          · rw [hch] at hc'
            cases hc'
            exact findDown_none _ fun i hi => hG2 i (hn4.symm ▸ hi)
      · rintro um h13 tk13 ⟨i0, t', u', rfl, hf, F13, N13⟩
        clear F12 N12
        dsimp only
        kwd_rel
        refine hK₈ _ _ (SearchEnd.leave (m' := _) ⟨i0, t', _, upon_i ?_ ?_, ?_, F13, fmt_drop N13⟩)
        · rfl
        · intro z hz
          rw [if_neg (hz _ (.tail _ (.head _))), upon_off (fun y hy => hz y (.tail _ hy))]
          rw [if_neg (hz _ (.head _)), upon_off hz]
        · refine findCh_some _ j (fun j' hj' c' e => hG j' hj' c' (by rw [Array.getElem?_toList] at e; exact e)) (fun c' e => ?_) (by simpa using hj)
          rw [Array.getElem?_toList, hch] at e
          cases e
          exact hf
    · intro um h13 tk13 hG F13 N13
      clear F7 N7
      have hfn : findCh (cs ++ [c]) signs.cps.toList = none := findCh_none _ fun j' hj' c' e => hG j' (by simpa using hj') c' (by rw [Array.getElem?_toList] at e; exact e)
      obtain ⟨hcs, hk0, hc0⟩ := hnone hfit hfn
      subst hcs
      have hlc : c.1.length + c.2.length ≤ 10000 := Nat.le_trans (cksLen_mem (by simp)) hl
      have hits : its = [] := List.eq_nil_of_length_eq_zero hln
      subst hits
      rw [hfn] at hQ
      kwd_rel
      refine wpAny_call (pop_spec F13 X₁ N13 T₁ (by simp only [depth_deeper]; omega) O.nea O.a140.2.2.2.2 (by simp) ?_)
      intro h14 tk14 n14 F14 N14
      dsimp only
      have st : StopN 3 := .mk 3
      kwd_rel
      rename StopN _ => st
      clear st
      unfold Hold
      refine unpackN_ F14 N14 (News.isTup N14 (by k_mem)) (by exact hh) (by rfl) (by rfl) ?_
      intro h15 F15 N15
      clear F14 N14
      kwd_rel
      rename Fr g _ _ _ => F16
      rename News g _ _ _ => N16
      refine wpAny_call (newline_empty F16 X₁ N16 O T₁ (BM.keeps st₁) hh (by simp only [depth_deeper]; omega) (by show A.units + 3 < 8900; omega) hps6 hqs hlv hk (by omega) hk0 ?_)
      intro h17 g17 tk17 n17 nl17 lv17 t17 tk17' ps17 qs17 rest17 F17 N17 O17 hps17 hqs17 hlv17 hin17 hb17
      clear F15 N15 F16 N16
      dsimp only
      kwd_rel
      · rename Fr g _ _ _ => F18
        rename News g _ _ _ => N18
        refine wpAny_call (push_spec F18 X₁ N18 T₁ (by simp only [depth_deeper]; omega) O17.nea O17.a140.2.2.2.2 (by simp) ?_)
        intro h19 tk19 T4 n19 F19 N19 la19 _ _
        clear F18 N18
        kwd_rel
        rename Fr h₀ _ _ _ => F20
        rename News h₀ _ _ _ => N20
        dsimp only at hQ
        exact hQ _ _ _ _ _ _ _ _ _ _ _ _ F20 (fmt_push N20) (O17.cons la19) hps17 hqs17 (.cons (.head _) .nil) hlv17 (fun p hp => .tail _ (hin17 p (.tail _ hp))) (fun x => hb17 (hb6 x))
      · exfalso; omega
    · rintro um h13 tk13 ⟨i0, t', u', rfl, hf, F13, N13⟩
      clear F7 N7
      have hi0 : i0 ≤ (its ++ [Value.ref T3]).length := by
        exact Nat.le_trans (findCh_le _ hf) (ck4.length ▸ Nat.sub_le _ _)
      have hz4 : (its ++ [Value.ref T3]).length ≤ 1000 := by rw [List.length_append]; simp only [List.length_cons, List.length_nil]; omega
      rw [hf] at hQ
      dsimp only
      kwd_rel
      rename Fr g _ _ _ => F14
      rename News g _ _ _ => N14
      refine wpAny_call (popfrom_spec F14 X₁ N14 T₁ (by simp only [depth_deeper]; omega) O.nea O.a140.2.2.2.2 hz4 hi0 ?_)
      intro h15 tk15 D n15 F15 N15 laD ldD lnD
      have N15 := fmt_push N15
      have O15 := O.cons (o := W.listOf ((its ++ [Value.ref T3]).drop i0).toArray 0) laD
      clear F14 N14
      dsimp only
      have st : StopN 4 := .mk 4
      kwd_rel
      rename StopN _ => st
      clear st
      unfold Hold
      rename Fr g _ _ _ => F16
      rename News g _ _ _ => N16
      refine kso_call (by show A.units + 3 + 1 + 1 < 9900; omega) (X₁.keeps F16.keep) (accInst N16 (by k_mem) (by k_mem)) (by k_is) (by k_is) ?_
      have ck15 := (ck4.take i0).mono (rest' := (D, W.listOf ((its ++ [Value.ref T3]).drop i0).toArray 0) :: (T3, ({ cls := .type "tuple", data := .seq #[.str c.1 tf, .str c.2 tp] } : Obj)) :: rest) fun p hp => .tail _ hp
      have hl15 : cksLen ((cs ++ [c]).take i0) ≤ 10000 := Nat.le_trans (cksLen_take _ _) hl
      have hn15 : ((cs ++ [c]).take i0).length ≤ 1000 := by rw [List.length_take]; exact Nat.le_trans (Nat.min_le_right _ _) (ck4.length ▸ hz4)
      refine wpAny_call (str_spec F16 X₁ (news_swap N16) T₁ (BM.keeps st₁) hh (by simp only [depth_deeper, depth_in1]; omega) hqs (ck15.ck.mono fun p hp => .tail _ (.tail _ (.tail _ (.tail _ hp)))) hl15 hn15 hk O15.a140.2.1 O15.a140.2.2.2.1 O15.n147 ?_)
      intro h17 g17 tk17 t17 qs17 F17 N17 hqs17 hb17
      have N18 := news_swap N17
      dsimp only [StrBack]
      clear F16 N16 N17
      have o1 := O15.o1
      have o2 := O15.o2
      have o3 := O15.o3
      have o4 := O15.o4
      have o5 := O15.o5
      have o7 := O15.nLn
      have lvl : lv.length ≤ 1000 := by rw [hlv.length]; omega
      kwd_rel
      rename Fr g _ _ _ => F19
      rename News g _ _ _ => N19
      have hd15 : ((its ++ [Value.ref T3]).drop i0).length ≤ 1000 := by rw [List.length_drop]; exact Nat.le_trans (Nat.sub_le _ _) hz4
      have ht15 : ((its ++ [Value.ref T3]).take i0).length ≤ 1000 := by rw [List.length_take]; exact Nat.le_trans (Nat.min_le_right _ _) hz4
      refine wpAny_call (reset_to F19 X₁ (fun p hp => N19 p (mem_push hp)) T₁ (by simp only [depth_deeper]; omega) O.nea O.ned O.a140.2.2.2.2 (Nat.ne_of_gt laD) (Nat.ne_of_gt ldD) ht15 hd15 ?_)
      intro h20 tk20 n20 t20 F20 N20
      have N21 := fmt_push N20
      clear F19 N19 N20
      kwd_rel
      rename Fr h₀ _ _ _ => F22
      rename News h₀ _ _ _ => N22
      dsimp only at hQ
      rw [List.push_toArray] at N22
      exact hQ _ _ _ _ _ _ _ _ _ _ _ _ F22 N22 O15 hps6 hqs17 ((ck4.drop i0).mono fun p hp => .tail _ hp) (hlv.append' (.cons _ _ .nil)) (fun p hp => .tail _ (.tail _ hp)) (fun x => hb17 (hb6 x))
end XH18
theorem fmt_perm {α : Type} {p a d c q M dm Ln : α} (h : p ∈ [a, d, c, q, M, dm, Ln]) : p ∈ [a, d, Ln, M, dm, c, q] := by
  simp only [List.mem_cons, List.not_mem_nil, or_false] at h ⊢
  rcases h with h | h | h | h | h | h | h
  · exact .inl h
  · exact .inr (.inl h)
  · exact .inr (.inr (.inr (.inr (.inr (.inl h)))))
  · exact .inr (.inr (.inr (.inr (.inr (.inr h)))))
  · exact .inr (.inr (.inr (.inl h)))
  · exact .inr (.inr (.inr (.inr (.inl h))))
  · exact .inr (.inr (.inl h))
theorem news_fmt {h₀ h : Heap} {L : Addr} {x1 x2 x3 x4 x5 x6 x7 : Addr × Obj} (N : News h₀ L h [x1, x2, x3, x4, x5, x6, x7]) : News h₀ L h [x1, x2, x6, x7, x4, x5, x3] := fun p hp => N p (fmt_perm hp)
set_option maxHeartbeats 4000000 in
theorem fmt_new {w : World} {A : Around} {E : Value → Shared → Prop} {s : Shared} {mg mb : Str → Option Value} {h₀ : Heap} {L : Addr} {m : Str → Option Value} {room width : Nat} {tr tw tc ts : Tok} {signs : Str} {ps qs : Array Value} {Q : Value → Shared → Prop}
   (F : Fr h₀ L s.heap m) (X : (fr.heap_1 w.params).In h₀) (N : News h₀ L s.heap [(140, tabObj ps), (147, tabObj qs)]) (T : TT mg mb h₀) (hh : A.handled = none) (hdp : A.depth < 870)
   (hQ : ∀ h' tk M dm Ln a d u1 u2 u3 u4 u5 u6 tl t nl n, Fr h₀ L h' m → News h₀ L h' (fmtNews w M dm Ln a d (fmtDict w u1 u2 u3 u4 u5 u6 tw tc tl ts width signs Ln a) [] nl [] n t room tr ps qs []) → FOrd M dm Ln a d [] → Q (.ref M) { s with heap := h', toks := tk }) :
   wpAny (model (Challenge.rw_rs0167_01.row.prog) w) A (call (.ref 94) [.int room tr, .int width tw, .str (Str.ofString " ") tc, .str signs ts]) Q E s := by
  revert X; k_fill; intro X
  refine call_cls F X N (by k_is) (by k_is) (by k_is) ?_
  intro x d h' F' N' l1 l2
  k_lt2 l2
  refine' codeL (binds := [(Str.ofString "self", .ref x), (Str.ofString "headerlen", .int room tr), (Str.ofString "maxlen", .int width tw), (Str.ofString "continuation_ws", .str (Str.ofString " ") tc), (Str.ofString "splitchars", .str signs ts)]) F' X N' T ?ho ?hcd ?hroom ?hb ?hl ?_ ?c1 ?c2 ?c3 ?c4
  kwd_inv
  have ne1 : ∀ p ∈ [((140 : Addr), tabObj ps), ((147 : Addr), tabObj qs)], p.1 ≠ d := fun p hp => Nat.ne_of_lt (l1 p hp)
  intro g L' h₁ F₁ N₁ X₁ T₁ lt₁ st₁
  try dsimp only
  try k_fold
  kwd_rel
  rename Fr g _ _ _ => F2
  rename News g _ _ _ => N2
  refine wpAny_call (acc_new F2 X₁ N2 T₁ (by simp only [depth_deeper, depth_under_make]; omega) ?_)
  intro h3 tk3 a d3 t3 F3 N3 l3 l4
  have l5 := fun p hp => l3 p hp
  simp only [List.mem_cons, List.not_mem_nil, or_false, forall_eq_or_imp, forall_eq] at l5
  obtain ⟨l5, l6, l7, l8, l9⟩ := l5
  have m1 : @LT.lt Nat _ 140 d := l1 _ (.head _)
  have m2 : @LT.lt Nat _ 147 d := l1 _ (.tail _ (.head _))
  have m3 : @LT.lt Nat _ d a := Nat.lt_trans l7 l4
  have m4 : @LT.lt Nat _ d d3 := l7
  have m5 : @LT.lt Nat _ d x := l2
  clear F2 N2
  kwd_rel
  rename Fr h₀ _ _ _ => F5
  rename News h₀ _ _ _ => N5
  rename x < _ ∧ _ => l10
  have e1 : ((Str.ofString " ").length : Int) = 1 := by decide +kernel
  rw [e1] at N5
  refine hQ _ _ x d _ a d3 _ _ _ _ _ _ _ _ _ _ F5 (news_fmt N5) ⟨m2, m5, l10.1, l5, l4, fun p hp => nomatch hp⟩
set_option maxHeartbeats 4000000 in
theorem str_fmt_spec {w : World} {A : Around} {s : Shared} {mg mb : Str → Option Value} {h₀ : Heap} {L bm : Addr} {ob : Obj} {m : Str → Option Value} {rest : List (Addr × Obj)} {M dm Ln a d : Addr} {u1 u2 u3 u4 u5 u6 tw tc tl ts : Tok} {width : Nat} {signs : Str} {lv its : List Value} {nl n : Nat} {t t0 : Tok} {k : Nat} {tk₀ : Tok} {ps qs : Array Value} {cs : List (Str × Str)} {c : Str × Str} {ls : List Str} {R : Result → Shared → Prop}
   (F : Fr h₀ L s.heap m) (X : (fr.heap_1 w.params).In h₀) (N : News h₀ L s.heap (fmtNews w M dm Ln a d (fmtDict w u1 u2 u3 u4 u5 u6 tw tc tl ts width signs Ln a) lv nl its n t k tk₀ ps qs rest)) (O : FOrd M dm Ln a d rest) (T : TT mg mb h₀) (BM : BMod h₀ mainGlobals mg bm ob) (hh : A.handled = none) (hdp : A.depth < 850) (hu : A.units < 8800)
   (hps : TriplesOk ps.toList) (hqs : TriplesOk qs.toList) (hck : CksIn rest its (cs ++ [c])) (hlv : StrsAre lv ls) (hl : cksLen (cs ++ [c]) ≤ 10000) (hn : cs.length ≤ 900) (hk : k ≤ 10000) (hll : ls.length ≤ 900)
   (hc : c ≠ (Str.ofString " ", Str.ofString "")) (hk1 : PyData.strOk c.1 = true) (hk2 : PyData.strOk c.2 = true) (hpos : 0 < cksLen (cs ++ [c])) (hsp : k = 0 → Txt.isspace (cksStr (cs ++ [c])) = false) (hw : wt (ls ++ [cksStr (cs ++ [c])]) ≤ 1048576)
   (hQ : ∀ h' g' tk t' n' nl' lv' t'' tk' ps' qs' rest', Fr h₀ L h' m → News h₀ L h' (fmtNews w M dm Ln a d (fmtDict w u1 u2 u3 u4 u5 u6 tw tc tl ts width signs Ln a) lv' nl' [] n' t'' 0 tk' ps' qs' rest') → FOrd M dm Ln a d rest' → TriplesOk ps'.toList → TriplesOk qs'.toList → (AllBare s.gens → AllBare g') → R (.ok (.ret (.str (Str.join (Str.ofString "\n") (ls ++ [cksStr (cs ++ [c])])) t'))) { s with heap := h', gens := g', toks := tk }) :
   codeAny (model (Challenge.rw_rs0167_01.row.prog) w) A (.call (.ref 42) ⟨[.ref M, .str (Str.ofString "\n") t0], []⟩) R s := by
  revert X; k_fill; intro X
  refine' codeL (binds := [(Str.ofString "self", .ref M), (Str.ofString "linesep", .str (Str.ofString "\n") t0)]) F X N T ?ho ?hcd ?hroom ?hb ?hl ?_ ?c1 ?c2 ?c3 ?c4
  kwd_inv
  intro g L' h₁ F₁ N₁ X₁ T₁ lt₁ st₁
  try dsimp only
  try k_fold
  kwd_rel
  dsimp only
  rename Fr g _ _ _ => F2
  rename News g _ _ _ => N2
  refine wpAny_call (newline_spec F2 X₁ N2 O T₁ (BM.keeps st₁) hh (by simp only [depth_deeper]; omega) (by show A.units + 3 < 8900; omega) hps hqs hck hlv hl hn hk (by omega) hc hk1 hk2 hpos hsp ?_)
  intro h3 g3 tk3 n3 nl3 lv3 t3 tk3' ps3 qs3 rest3 F3 N3 O3 hps3 hqs3 hlv3 hb3
  clear F2 N2
  dsimp only
  kwd_rel
  rename Fr g _ _ _ => F4
  rename News g _ _ _ => N4
  refine joinL (News.isList N4 (by k_mem)) hlv3 (by decide) hw ?_
  intro t5 k5
  kwd_rel
  rename Fr h₀ _ _ _ => F6
  rename News h₀ _ _ _ => N6
  exact hQ _ _ _ _ _ _ _ _ _ _ _ _ F6 N6 O3 hps3 hqs3 hb3
section
variable {prog : Program} {w : World} {A : Around} {E : Value → Shared → Prop} {s : Shared} {K : Frag} {p : Program} {loose : List Str} {mg mb : Str → Option Value}
  {name qual : Str} {params : Arguments} {body : List Stmt} {scope : Scope} {dV kV doc pm cdv ct oc : Value} {an od : Option Addr} {osl : Array (Option Value)} {f : Addr} {args : List Value} {binds : List (Str × Value)}
theorem enterG {Q : Value → Shared → Prop} {news : List (Addr × Obj)} (X : K.In (hideAll s.heap (news.map (·.1)))) (T : TopRead p loose mg mb (hideAll s.heap (news.map (·.1)))) (N : ∀ p ∈ news, s.heap.get? p.1 = some p.2)
    (ho : K.lookup f = some ⟨oc, od, .func (fnOf name qual params body scope dV kV doc pm an cdv ct), osl⟩) (hcd : codeIn K cdv qual = true) (hroom : A.depth < recursionLimit)
    (hbind : BindsTo s (fnOf name qual params body scope dV kV doc pm an cdv ct) ⟨args, []⟩ binds) (hloc : ∀ y ∈ binds, scope.names.lookup y.1 = some .local)
    (h : ∀ h₁, Fr (hideAll s.heap (news.map (·.1))) s.heap.objs.size h₁ (fun y => binds.reverse.lookup y) → News (hideAll s.heap (news.map (·.1))) s.heap.objs.size h₁ news →
      wpAny (model prog w) (A.deeper (envOf qual scope s.heap.objs.size f cdv)) (execs body (envOf qual scope s.heap.objs.size f cdv))
        (fun fl s' => Q (match fl with | .ret v => v | _ => .none) s') (fun _ _ => False)
        { s with heap := h₁, toks := s.toks + binds.length })
    (hco : scope.isCoroutine = false) (hgen : scope.isGenerator = false) (hk : scope.kind = .function)
    (hcell : ∀ x ∈ scope.names, x.2 ≠ .cell) : wpAny (model prog w) A (call (.ref f) args) Q E s := by
  have up : ∀ b o, (hideAll s.heap (news.map (·.1))).get? b = some o → s.heap.get? b = some o := fun b o e => of_hideAll _ e
  refine enterP (X.keeps up) (T.keeps up) ho hcd hroom hbind hloc (fun h₁ F => ?_) hco hgen hk hcell
  exact h h₁ ⟨F.ns, fun b o e => F.keep b o (up b o e), Nat.le_of_eq (hideAll_size _ _)⟩ fun q hq => ⟨F.keep _ _ (N q hq), Nat.ne_of_lt (Heap.lt_size (N q hq)), hideAll_none _ (List.mem_map_of_mem hq)⟩
end
section
variable {prog : Program} {w : World} {A : Around} {s : Shared} {I : Addr} {fp : List Addr} {n : Nat} {P : Nat → Value → Prop} {St : Nat → Heap → Prop} {R : Result → Shared → Prop} {target : PySem.Expr} {body orelse : List Stmt} {env : Env}
inductive TurnGE (fp : List Addr) (dr : Drawn) (os : OsState) (h : Heap) (J : Heap → Array GenState → Prop) (s' : Shared) : Prop
  | mk (h' : Heap) (g' : Array GenState) (tk' : Nat) (e : s' = ⟨h', g', dr, tk', os⟩) (k : ∀ b ∈ fp, ∀ o, h.get? b = some o → h'.get? b = some o) (j : J h' g') : TurnGE fp dr os h J s'
noncomputable def TurnG (fp : List Addr) (s : Shared) (h : Heap) (J : Heap → Array GenState → Prop) (f : Flow) (s' : Shared) : Prop := match f with
  | .ret _ => False
  | .brk => False
  | _ => TurnGE fp s.drawn s.os h J s'
inductive LoopGI (dr : Drawn) (os : OsState) (n : Nat) (St : Nat → Heap → Prop) (J : Nat → Heap → Array GenState → Prop) (k : Nat) (s₁ : Shared) : Prop
  | mk (i : Nat) (h : Heap) (g : Array GenState) (tk : Nat) (e : s₁ = ⟨h, g, dr, tk, os⟩) (hk : i + k = n) (hSt : St i h) (j : J i h g) : LoopGI dr os n St J k s₁
theorem forG (W : Walks prog w A I fp [I] n P St) (hst : St 0 s.heap) (J : Nat → Heap → Array GenState → Prop) (h0 : J 0 s.heap s.gens)
    (hJ : ∀ i h h' g, J i h g → (∀ b o, b ∉ [I] → h.get? b = some o → h'.get? b = some o) → J i h' g)
    (turn : ∀ i v h g tk, i < n → P i v → St (i + 1) h → J i h g → wpAny (model prog w) A (letOwnedTupleGo target (.ref I) v) (fun _ s₁ => wpAny (model prog w) A (assign target env v) (fun _ s₂ =>
      wpAny (model prog w) A (execs body env) (TurnG fp s h (J (i + 1))) (fun _ _ => False) s₂) (fun _ _ => False) s₁) (fun _ _ => False) { s with heap := h, gens := g, toks := tk })
    (done : ∀ h g tk, J n h g → wpAny (model prog w) A (execs orelse env) (fun f s₃ => R (.ok f) s₃) (fun _ _ => False) { s with heap := h, gens := g, toks := tk }) :
    codeAny (model prog w) A (.forLoop target (.ref I) body orelse env) R s := by
  refine codeAny_forLoop_any (LoopGI s.drawn s.os n St J) (fun k s₁ hI => ?_) n ⟨0, s.heap, s.gens, s.toks, rfl, Nat.zero_add _, hst, h0⟩
  obtain ⟨i, h, g, tk, rfl, hk, hSt, hj⟩ := hI
  by_cases hlt : i < n
  · obtain ⟨k', rfl⟩ : ∃ k', k = k' + 1 := ⟨k - 1, by omega⟩
    refine W.item i _ _ _ hlt hSt fun v h' tk' hP hSt' kp => ?_
    dsimp only
    refine wpAny_mono (turn i v h' g tk' hlt hP hSt' (hJ _ _ _ _ hj kp)) (fun _ s₁ a₁ => wpAny_mono a₁ (fun _ s₂ a₂ => wpAny_mono a₂ (fun f s₃ a₃ => ?_) fun _ _ z => z.elim) fun _ _ z => z.elim) fun _ _ z => z.elim
    have fin : TurnGE fp s.drawn s.os h' (J (i + 1)) s₃ → ∃ m, m < k' + 1 ∧ LoopGI s.drawn s.os n St J m s₃ := by
      rintro ⟨h'', g', tk'', rfl, kp', hj'⟩
      exact ⟨k', Nat.lt_succ_self _, i + 1, h'', g', tk'', rfl, by omega, W.frame _ _ _ hSt' kp', hj'⟩
    cases f with
    | ret v => exact a₃.elim
    | brk => exact a₃.elim
    | next => exact fin a₃
    | cont => exact fin a₃
  · have hin : i = n := by omega
    subst hin
    refine W.done _ _ _ hSt fun h' tk' kp => ?_
    exact wpAny_mono (done h' g tk' (hJ _ _ _ _ hj kp)) (fun f s₃ hf => hf) fun _ _ z => z.elim
end
theorem pick_tail (v : Value) (vr : List Value) : kms_pick (v :: vr) (some 1) none = vr := by
  unfold kms_pick
  have e1 : kms_lo (some 1) (v :: vr).length = 1 := by
    show min 1 (vr.length + 1) = 1
    omega
  have e2 : kms_hi none (v :: vr).length = (v :: vr).length := rfl
  rw [e1, e2]
  simp
section XH23
local macro_rules | `(tactic| walk_at "call ref") => `(tactic| refine Hold.out ?_)
local macro_rules | `(tactic| walk_at "binaryOp Add str str") => `(tactic| (rename StopAt => st; refine Hold.out ?_))
local macro_rules | `(tactic| walk_at "binaryOp Add ref ref") => `(tactic| refine Hold.out ?_)
local macro_rules | `(tactic| walk_at "exec For") => `(tactic| ((with_reducible show wpAny _ _ (exec (.For (.Name _ _) _ _ _ _) _) _ _ _); refine wpAny_For ?_))
local macro_rules
  | `(tactic| walk_at "exec For Tuple Subscript cons nil") => `(tactic| (rename StopN 1 => st; refine Hold.out ?_))
  | `(tactic| walk_at "pyIter ref") => `(tactic| (rename StopN 2 => st; refine Hold.out ?_))
  | `(tactic| walk_at "pyIter str") => `(tactic| (rename StopN 3 => st; refine Hold.out ?_))
  | `(tactic| walk_at "subscriptTail Subscript") => `(tactic| (k_here; k_dflt (refine kba_turn (value' := PySem.Expr.Name (PySem.Str.ofString "_") ⟨0, 0, 0, 0⟩) (fun _ => rfl) ?_)))
  | `(tactic| walk_at "subscriptTail Name Constant ref int") => `(tactic| (k_here; k_dflt (first | refine item_tupleL (by first | assumption | exact Fr.tup (by assumption) (by assumption) | exact News.isTup (by assumption) (by k_mem)) (by first | decide | omega) (by first | decide | omega) (by first | rfl | decide) (by first | rfl | simp) ?_ | ((rename (List.map _ _ = _) => hl); refine item_strs (by first | assumption | exact News.isList (by assumption) (by k_mem)) (by omega) (by have := len_of_split (by assumption); omega) (by omega) ?_; intro _ _ _))))
noncomputable abbrev FSt := List Str × Nat × List (Str × Str)
noncomputable def app (width : Nat) (signs : Str) (σ : FSt) (c : Str × Str) : FSt := appendF width signs σ.1 σ.2.1 σ.2.2 c
noncomputable def okStep (width : Nat) (signs : Str) (σ : FSt) (c : Str × Str) : Prop := cksLen (σ.2.2 ++ [c]) ≤ 10000 ∧ σ.2.2.length ≤ 900 ∧ σ.2.1 ≤ 10000 ∧ σ.1.length ≤ 900 ∧ (¬ σ.2.1 + cksLen (σ.2.2 ++ [c]) ≤ width → findCh (σ.2.2 ++ [c]) signs.cps.toList = none → σ.2.2 = [] ∧ 0 < σ.2.1 ∧ c.1.length ≠ 0)
inductive FLed (w : World) (g : Heap) (L' : Addr) (mm : Str → Option Value) (M dm Ln a d : Addr) (fd : Obj) (extra : List (Addr × Obj)) (σ : FSt) (h : Heap) : Prop
  | mk (lv : List Value) (nl : Nat) (its : List Value) (n : Nat) (t tk : Tok) (ps qs : Array Value) (rest : List (Addr × Obj)) (F : Fr g L' h mm) (N : News g L' h (fmtNews w M dm Ln a d fd lv nl its n t σ.2.1 tk ps qs rest)) (O : FOrd M dm Ln a d rest) (hps : TriplesOk ps.toList) (hqs : TriplesOk qs.toList) (hck : CksIn rest its σ.2.2) (hlv : StrsAre lv σ.1) (hex : ∀ p ∈ extra, p ∈ rest) : FLed w g L' mm M dm Ln a d fd extra σ h
theorem app_step {w : World} {A : Around} {E : Value → Shared → Prop} {s : Shared} {mg mb : Str → Option Value} {h₀ : Heap} {L bm : Addr} {ob : Obj} {m : Str → Option Value} {extra : List (Addr × Obj)} {M dm Ln a d : Addr} {u1 u2 u3 u4 u5 u6 tw tc tl ts tf tp : Tok} {width : Nat} {signs : Str} {σ : FSt} {c : Str × Str} {Q : Value → Shared → Prop}
   (FL : FLed w h₀ L m M dm Ln a d (fmtDict w u1 u2 u3 u4 u5 u6 tw tc tl ts width signs Ln a) extra σ s.heap) (X : (fr.heap_1 w.params).In h₀) (T : TT mg mb h₀) (BM : BMod h₀ mainGlobals mg bm ob) (hh : A.handled = none) (hdp : A.depth < 850) (hu : A.units < 8800) (hw : width ≤ 11) (hsg : signs.length ≤ 10) (ok : okStep width signs σ c)
   (hQ : ∀ h' g' tk, FLed w h₀ L m M dm Ln a d (fmtDict w u1 u2 u3 u4 u5 u6 tw tc tl ts width signs Ln a) extra (app width signs σ c) h' → (AllBare s.gens → AllBare g') → Q .none { s with heap := h', gens := g', toks := tk }) :
   wpAny (model (Challenge.rw_rs0167_01.row.prog) w) A (call (.ref 91) [.ref M, .str c.1 tf, .str c.2 tp]) Q E s := by
  obtain ⟨lv, nl, its, n, t, tk, ps, qs, rest, F, N, O, hps, hqs, hck, hlv, hex⟩ := FL
  obtain ⟨o1, o2, o3, o4, o5⟩ := ok
  refine wpAny_call (append_spec F X N O T BM hh hdp hu hps hqs hck hlv o1 o2 o3 o4 hw hsg o5 ?_)
  intro h' g' tk' its' n' nl' lv' t' tk'' ps' qs' rest' F' N' O' hps' hqs' hck' hlv' hin hb
  exact hQ _ _ _ ⟨lv', nl', its', n', t', tk'', ps', qs', rest', F', N', O', hps', hqs', hck', hlv', fun p hp => hin p (hex p hp)⟩ hb
inductive FLedO (w : World) (g : Heap) (L' : Addr) (mm : Str → Option Value) (M dm Ln a d : Addr) (fd : Obj) (I : Addr) (extra : List (Addr × Obj)) (σ : FSt) (h : Heap) : Prop
  | mk (lv : List Value) (nl : Nat) (its : List Value) (n : Nat) (t tk : Tok) (ps qs : Array Value) (rest : List (Addr × Obj)) (F : Fr g L' h mm) (N : News g L' h (fmtNews w M dm Ln a d fd lv nl its n t σ.2.1 tk ps qs rest)) (O : FOrd M dm Ln a d rest) (hps : TriplesOk ps.toList) (hqs : TriplesOk qs.toList) (hck : CksIn rest its σ.2.2) (hlv : StrsAre lv σ.1) (hex : ∀ p ∈ extra, p ∈ rest) (hof : ∀ p ∈ rest, p.1 ≠ I) : FLedO w g L' mm M dm Ln a d fd I extra σ h
theorem FLedO.keep {w : World} {g h h' : Heap} {L' : Addr} {mm : Str → Option Value} {M dm Ln a d I : Addr} {fd : Obj} {extra : List (Addr × Obj)} {σ : FSt} (hI0 : g.get? I = none) (hIL : I ≠ L') (aI : @LT.lt Nat _ a I) (FL : FLedO w g L' mm M dm Ln a d fd I extra σ h) (kp : ∀ b o, b ∉ [I] → h.get? b = some o → h'.get? b = some o) : FLedO w g L' mm M dm Ln a d fd I extra σ h' := by
  obtain ⟨lv, nl, its, n, t, tk, ps, qs, rest, F, N, O, hps, hqs, hck, hlv, hex, hof⟩ := FL
  refine ⟨lv, nl, its, n, t, tk, ps, qs, rest, ⟨F.ns.at fun o e => kp _ o (fun q => hIL (List.mem_singleton.mp q).symm) e, fun b o e => kp b o (fun q => ?_) (F.keep b o e), F.above⟩, fun p hp => ⟨kp _ _ (fun q => ?_) (N p hp).1, (N p hp).2⟩, O, hps, hqs, hck, hlv, hex, hof⟩
  · rw [List.mem_singleton.mp q, hI0] at e; cases e
  · have o1 := O.o1; have o2 := O.o2; have o3 := O.o3; have o4 := O.o4; have o5 := O.o5
    have q' : p.1 = I := List.mem_singleton.mp q
    simp only [List.mem_cons] at hp
    rcases hp with rfl | rfl | rfl | rfl | rfl | rfl | rfl | hp
    · exact absurd q' (Nat.ne_of_lt (by omega))
    · exact absurd q' (Nat.ne_of_lt (by omega))
    · exact absurd q' (Nat.ne_of_lt (by omega))
    · exact absurd q' (Nat.ne_of_lt (by omega))
    · exact absurd q' (Nat.ne_of_lt (by omega))
    · exact absurd q' (Nat.ne_of_lt (by omega))
    · exact absurd q' (Nat.ne_of_lt (by omega))
    · exact hof p hp q'
theorem FLedO.into {w : World} {g h : Heap} {L' : Addr} {mm : Str → Option Value} {M dm Ln a d I : Addr} {oI : Obj} {fd : Obj} {extra : List (Addr × Obj)} {σ : FSt} (hI0 : g.get? I = none) (hIL : I ≠ L') (aI : @LT.lt Nat _ a I) (FL : FLedO w g L' mm M dm Ln a d fd I extra σ h) (e : h.get? I = some oI) : FLed w g L' mm M dm Ln a d fd ((I, oI) :: extra) σ h := by
  obtain ⟨lv, nl, its, n, t, tk, ps, qs, rest, F, N, O, hps, hqs, hck, hlv, hex, hof⟩ := FL
  refine ⟨lv, nl, its, n, t, tk, ps, qs, (I, oI) :: rest, F, fun p hp => ?_, O.cons aI, hps, hqs, hck.mono fun p hp => .tail _ hp, hlv, fun p hp => ?_⟩
  · rcases List.mem_cons.mp (push_mem hp) with rfl | hp
    · exact ⟨e, hIL, hI0⟩
    · exact N p hp
  · rcases List.mem_cons.mp hp with rfl | hp
    · exact .head _
    · exact .tail _ (hex p hp)
theorem CksIn.filter {rest : List (Addr × Obj)} {I : Addr} {vs : List Value} {cs : List (Str × Str)} (x : CksIn rest vs cs) (h : ∀ T o, (T, o) ∈ rest → o.cls = .type "tuple" → T ≠ I) : CksIn (rest.filter fun p => decide (p.1 ≠ I)) vs cs := by
  induction x with
  | nil => exact .nil
  | cons m _ ih => exact .cons (List.mem_filter.mpr ⟨m, decide_eq_true (h _ _ m rfl)⟩) ih
theorem FLed.off {w : World} {g h : Heap} {L' : Addr} {mm : Str → Option Value} {M dm Ln a d I : Addr} {oI : Obj} {fd : Obj} {extra : List (Addr × Obj)} {σ : FSt} (FL : FLed w g L' mm M dm Ln a d fd ((I, oI) :: extra) σ h) (hc : oI.cls ≠ .type "tuple") (hex' : ∀ p ∈ extra, p.1 ≠ I) : h.get? I = some oI ∧ FLedO w g L' mm M dm Ln a d fd I extra σ h := by
  obtain ⟨lv, nl, its, n, t, tk, ps, qs, rest, F, N, O, hps, hqs, hck, hlv, hex⟩ := FL
  have hI := (N (I, oI) (.tail _ (.tail _ (.tail _ (.tail _ (.tail _ (.tail _ (.tail _ (hex _ (.head _))))))))))
  have sub : ∀ p ∈ rest.filter (fun p => decide (p.1 ≠ I)), p ∈ rest := fun p hp => (List.mem_filter.mp hp).1
  refine ⟨hI.1, lv, nl, its, n, t, tk, ps, qs, rest.filter fun p => decide (p.1 ≠ I), F, fun p hp => N p ?_, ⟨O.o1, O.o2, O.o3, O.o4, O.o5, fun p hp => O.o6 p (sub p hp)⟩, hps, hqs, hck.filter ?_, hlv, fun p hp => List.mem_filter.mpr ⟨hex p (.tail _ hp), decide_eq_true (hex' p hp)⟩, fun p hp => of_decide_eq_true (List.mem_filter.mp hp).2⟩
  · simp only [List.mem_cons] at hp ⊢
    rcases hp with h | h | h | h | h | h | h | h
    · exact .inl h
    · exact .inr (.inl h)
    · exact .inr (.inr (.inl h))
    · exact .inr (.inr (.inr (.inl h)))
    · exact .inr (.inr (.inr (.inr (.inl h))))
    · exact .inr (.inr (.inr (.inr (.inr (.inl h)))))
    · exact .inr (.inr (.inr (.inr (.inr (.inr (.inl h))))))
    · exact .inr (.inr (.inr (.inr (.inr (.inr (.inr (sub p h)))))))
  · intro T o hT ho q
    subst q
    have := (N (T, o) (.tail _ (.tail _ (.tail _ (.tail _ (.tail _ (.tail _ (.tail _ hT)))))))).1
    rw [hI.1] at this
    cases this
    exact hc ho
theorem FLed.get {w : World} {g h : Heap} {L' : Addr} {mm : Str → Option Value} {M dm Ln a d : Addr} {fd : Obj} {extra : List (Addr × Obj)} {σ : FSt} (FL : FLed w g L' mm M dm Ln a d fd extra σ h) {p : Addr × Obj} (hp : p ∈ extra) : h.get? p.1 = some p.2 := by
  obtain ⟨lv, nl, its, n, t, tk, ps, qs, rest, F, N, O, hps, hqs, hck, hlv, hex⟩ := FL
  exact (N p (.tail _ (.tail _ (.tail _ (.tail _ (.tail _ (.tail _ (.tail _ (hex p hp))))))))).1
noncomputable def tailOf (x : Str) : List (Str × Str) := (Txt.slice x (some 1) none).cps.toList.map fun c => (Str.ofString "", ⟨#[c]⟩)
noncomputable def chunksOf (c : Str × Str) : List (Str × Str) := (c.1, Txt.item c.2 0) :: tailOf c.2
noncomputable def Safe (width : Nat) (signs : Str) : FSt → List (Str × Str) → Prop
  | _, [] => True
  | σ, c :: r => okStep width signs σ c ∧ Safe width signs (app width signs σ c) r
theorem CksAt.nth {h : Heap} {vs : List Value} {cs : List (Str × Str)} (x : CksAt h vs cs) : ∀ (i : Nat) (v : Value), vs[i]? = some v → ∃ c T tf tp, cs[i]? = some c ∧ v = .ref T ∧ IsTup h T #[.str c.1 tf, .str c.2 tp] := by
  induction x with
  | nil => intro i v e; simp at e
  | @cons T c tf tp n vs cs e _ ih =>
    intro i v hv
    cases i with
    | zero => simp at hv; subst hv; exact ⟨c, T, tf, tp, rfl, rfl, ⟨_, e, rfl, _, rfl⟩⟩
    | succ i => simp only [List.getElem?_cons_succ] at hv ⊢; exact ih i v hv
noncomputable def run (width : Nat) (signs : Str) (σ : FSt) (cs : List (Str × Str)) : FSt := cs.foldl (app width signs) σ
theorem run_append (width : Nat) (signs : Str) (σ : FSt) (a b : List (Str × Str)) : run width signs σ (a ++ b) = run width signs (run width signs σ a) b := List.foldl_append ..
theorem safe_append {width : Nat} {signs : Str} {a b : List (Str × Str)} : ∀ {σ : FSt}, Safe width signs σ (a ++ b) → Safe width signs σ a ∧ Safe width signs (run width signs σ a) b := by
  induction a with
  | nil => intro σ h; exact ⟨trivial, h⟩
  | cons x r ih => intro σ h; exact ⟨⟨h.1, (ih h.2).1⟩, (ih h.2).2⟩
theorem take_next {α : Type} {l : List α} {i : Nat} {c : α} (h : l[i]? = some c) : l.take (i + 1) = l.take i ++ [c] := by
  rw [List.take_succ, h]; rfl
theorem run_next (width : Nat) (signs : Str) (σ : FSt) {l : List (Str × Str)} {i : Nat} {c : Str × Str} (h : l[i]? = some c) : run width signs σ (l.take (i + 1)) = app width signs (run width signs σ (l.take i)) c := by
  rw [take_next h, run_append]; rfl
theorem split_at {α : Type} {l : List α} {i : Nat} {c : α} (h : l[i]? = some c) : l = l.take i ++ c :: l.drop (i + 1) := by
  have hi := (List.getElem?_eq_some_iff.mp h).1
  have he := (List.getElem?_eq_some_iff.mp h).2
  conv => lhs; rw [← List.take_append_drop i l, List.drop_eq_getElem_cons hi, he]
theorem FLedO.led {w : World} {g h : Heap} {L' : Addr} {mm : Str → Option Value} {M dm Ln a d I : Addr} {fd : Obj} {extra : List (Addr × Obj)} {σ : FSt} (FL : FLedO w g L' mm M dm Ln a d fd I extra σ h) : FLed w g L' mm M dm Ln a d fd extra σ h := by
  obtain ⟨lv, nl, its, n, t, tk, ps, qs, rest, F, N, O, hps, hqs, hck, hlv, hex, hof⟩ := FL
  exact ⟨lv, nl, its, n, t, tk, ps, qs, rest, F, N, O, hps, hqs, hck, hlv, hex⟩
theorem none_hidden {h g : Heap} {b : Addr} (hg : hideAll h [140, 147] = g) (e : g.get? b = none) (n1 : b ≠ 140) (n2 : b ≠ 147) : h.get? b = none := by
  cases q : h.get? b with
  | none => rfl
  | some o =>
    have := hideAll_get [140, 147] q (fun m => by
      simp only [List.mem_cons, List.not_mem_nil, or_false] at m
      rcases m with m | m
      · exact n1 m
      · exact n2 m)
    rw [hg, e] at this
    cases this
noncomputable def FinOk (σ : FSt) : Prop := ∃ cs c, σ.2.2 = cs ++ [c] ∧ cksLen (cs ++ [c]) ≤ 10000 ∧ cs.length ≤ 900 ∧ σ.2.1 ≤ 10000 ∧ σ.1.length ≤ 900 ∧ c ≠ (Str.ofString " ", Str.ofString "") ∧ PyData.strOk c.1 = true ∧ PyData.strOk c.2 = true ∧ 0 < cksLen (cs ++ [c]) ∧ (σ.2.1 = 0 → Txt.isspace (cksStr (cs ++ [c])) = false) ∧ wt (σ.1 ++ [cksStr (cs ++ [c])]) ≤ 1000
noncomputable def rowsOf (σ : FSt) : List Str := σ.1 ++ [cksStr σ.2.2]
inductive RowJ (w : World) (g : Heap) (L' : Addr) (gs0 : Array GenState) (mF : Str → Option Value) (M dm Ln a d : Addr) (fd : Obj) (I : Addr) (extra : List (Addr × Obj)) (S : Nat → FSt) (i : Nat) (h : Heap) (gs : Array GenState) : Prop
  | mk (hb : AllBare gs0 → AllBare gs) (m' : Str → Option Value) (hm : ∀ z, (∀ y ∈ [Str.ofString "blanks", Str.ofString "part", Str.ofString "sign"], z ≠ y) → m' z = mF z) (σ : FSt) (e : S i = σ) (FL : FLedO w g L' m' M dm Ln a d fd I extra σ h) : RowJ w g L' gs0 mF M dm Ln a d fd I extra S i h gs
set_option maxHeartbeats 8000000 in
theorem rows_spec {w : World} {A : Around} {E : Value → Shared → Prop} {s : Shared} {mg mb : Str → Option Value} {bm : Addr} {ob : Obj} {lw T₀ : Addr} {ps qs : Array Value} {vr : List Value} {w0 : Str × Str} {wr : List (Str × Str)} {room width : Nat} {tr tw ts tb0 tp0 : Tok} {signs : Str} {Q : Value → Shared → Prop}
   (X : (fr.heap_1 w.params).In (hideAll s.heap [140, 147])) (T_ : TT mg mb (hideAll s.heap [140, 147])) (BM : BMod (hideAll s.heap [140, 147]) mainGlobals mg bm ob) (h140 : s.heap.get? 140 = some (tabObj ps)) (h147 : s.heap.get? 147 = some (tabObj qs)) (hh : A.handled = none) (hdp : A.depth < 840) (hu : A.units < 8700)
   (hps : TriplesOk ps.toList) (hqs : TriplesOk qs.toList) (hlw : (hideAll s.heap [140, 147]).IsList lw (Value.ref T₀ :: vr).toArray) (ht0 : IsTup (hideAll s.heap [140, 147]) T₀ #[.str w0.1 tb0, .str w0.2 tp0]) (hck : CksAt (hideAll s.heap [140, 147]) vr wr)
   (hwd : width ≤ 11) (hrm : room ≤ 4) (hsg : signs.length ≤ 10) (hwl : ∀ c ∈ wr, 1 ≤ c.2.length ∧ c.2.length ≤ 100) (hnw : wr.length ≤ 10)
   (safe : Safe width signs ([], room, []) (w0 :: wr.flatMap chunksOf))
   {r0 : Str} {rr : List Str} (fin : FinOk (run width signs ([], room, []) (w0 :: wr.flatMap chunksOf))) (hrows : rowsOf (run width signs ([], room, []) (w0 :: wr.flatMap chunksOf)) = r0 :: rr) (hsplit : Txt.split (Str.join (Str.ofString "\n") (r0 :: rr)) (Str.ofString "\n") = r0 :: rr) (hjl : (Str.join (Str.ofString "\n") (r0 :: rr)).length ≤ 1000) (hrw : wt (r0 :: rr) ≤ 1000)
   (hQ : ∀ h' g' tk ps' qs' lr rv n, (∀ b o, b ∉ [140, 147] → s.heap.get? b = some o → h'.get? b = some o) → h'.get? 140 = some (tabObj ps') → h'.get? 147 = some (tabObj qs') → TriplesOk ps'.toList → TriplesOk qs'.toList → s.heap.get? lr = none → h'.get? lr = some { cls := .type "list", data := .seq (List.toArray rv) n } → StrsAre rv ((Txt.mul (Str.ofString "-") room ++ r0) :: rr) → (AllBare s.gens → AllBare g') → Q (.ref lr) { s with heap := h', gens := g', toks := tk }) :
   wpAny (model (Challenge.rw_rs0167_01.row.prog) w) A (call (.ref 243) [.ref lw, .int room tr, .int width tw, .str signs ts]) Q E s := by
  revert X; k_fill; intro X
  refine' enterG (news := [(140, tabObj ps), (147, tabObj qs)]) (binds := [(Str.ofString "words", .ref lw), (Str.ofString "room", .int room tr), (Str.ofString "width", .int width tw), (Str.ofString "signs", .str signs ts)]) X T_ ?hn ?ho ?hcd ?hroom ?hb ?hl ?_ ?c1 ?c2 ?c3 ?c4
  case hn =>
    intro p hp
    simp only [List.mem_cons, List.not_mem_nil, or_false] at hp
    rcases hp with rfl | rfl
    · exact h140
    · exact h147
  kwd_inv
  intro h₁ F N
  simp only [List.map_cons, List.map_nil] at F N
  generalize hg : hideAll s.heap [140, 147] = g at *
  try dsimp only
  try k_fold
  kwd_rel
  revert tk
  intro tkC
  rename Fr g _ _ _ => F2
  rename News g _ _ _ => N2
  refine fmt_new F2 X N2 T_ hh (by simp only [depth_deeper]; omega) ?_
  intro h3 tk3 M dm Ln a d u1 u2 u3 u4 u5 u6 tl t3 nl3 n3 F3 N3 O3
  clear F2 N2
  kwd_rel
  rename Fr g _ _ _ => F5
  rename News g _ _ _ => N5
  refine app_step (σ := ([], room, [])) (c := w0) (extra := []) ⟨[], nl3, [], n3, t3, tr, ps, qs, [], F5, N5, O3, hps, hqs, .nil, .nil, fun p hp => nomatch hp⟩ X T_ BM hh (by simp only [depth_deeper]; omega) (by show A.units + 3 < 8800; omega) hwd hsg safe.1 ?_
  intro h6 g6 tk6 FL6 hb6
  clear F5 N5
  obtain ⟨lv6, nl6, its6, n6, t6, tk6', ps6, qs6, rest6, F6, N6, O6, hps6, hqs6, hck6, hlv6, _⟩ := FL6
  have hvl : (Value.ref T₀ :: vr).length ≤ 16 := by rw [List.length_cons, hck.length]; omega
  have st : StopN 1 := .mk 1
  kwd_rel
  rename StopN _ => st
  clear st
  unfold Hold
  refine wpAny_For ?_
  have st : StopN 2 := .mk 2
  kwd_rel
  rename StopN _ => st
  clear st
  unfold Hold
  rename Fr g _ _ _ => F7
  rename News g _ _ _ => N7
  rename_i D7 h7 l7
  rw [pick_tail] at N7
  have N8 := fmt_push N7
  have O8 := O6.cons (o := W.listOf vr.toArray 0) l7.1
  have hvr := hck.length
  have hh' : (A.deeper (envOf (Str.ofString "_law_rows") { kind := .function, names := [], isGenerator := false, isCoroutine := false } s.heap.objs.size 243 (Value.ref 242))).handled = none := hh
  refine wpAny_pyIter_list (News.isList N7 (.head _)) ?_
  have hI0 := next_is_new F7
  have hIL : h7.objs.size ≠ s.heap.objs.size := Nat.ne_of_gt F7.ns.lt
  have hDI : D7 ≠ h7.objs.size := Nat.ne_of_lt (Heap.lt_size (N7 _ (.head _)).1)
  have aI : @LT.lt Nat _ a h7.objs.size := Heap.lt_size (N8 _ (.head _)).1
  have rI : ∀ p ∈ (D7, W.listOf vr.toArray 0) :: rest6, p.1 ≠ h7.objs.size := fun p hp => Nat.ne_of_lt (Heap.lt_size (N8 p (.tail _ (.tail _ (.tail _ (.tail _ (.tail _ (.tail _ (.tail _ hp)))))))).1)
  have F9 := F7.push { cls := .type "list_iterator", data := .fields #[.ref D7, .int 0 0] }
  have N9 := N8.grown (h' := h7.push { cls := .type "list_iterator", data := .fields #[.ref D7, .int 0 0] }) fun _ _ e => Heap.get?_push_of_some _ e
  have hst : (h7.push { cls := .type "list_iterator", data := .fields #[.ref D7, .int 0 0] }).IsListIter h7.objs.size D7 0 ∧ (h7.push { cls := .type "list_iterator", data := .fields #[.ref D7, .int 0 0] }).IsList D7 vr.toArray :=
    ⟨⟨_, Heap.get?_push_size _ rfl, rfl, rfl⟩, News.isList N9 (.tail _ (.tail _ (.tail _ (.tail _ (.tail _ (.tail _ (.tail _ (.head _))))))))⟩
  dsimp only at hst hI0 ⊢
  generalize h7.objs.size = I at hst hI0 hIL hDI aI rI ⊢
  generalize h7.push _ = h9 at F9 N9 hst ⊢
  clear F7 N7 N8
  refine opq3 (RowJ w g s.heap.objs.size s.gens (fun y => if y = Str.ofString "maker" then some (Value.ref M) else [(Str.ofString "words", Value.ref lw), (Str.ofString "room", Value.int room tr), (Str.ofString "width", Value.int width tw), (Str.ofString "signs", Value.str signs ts)].reverse.lookup y) M dm Ln a d (fmtDict w u1 u2 u3 u4 u5 u6 tw tkC tl ts width signs Ln a) I [(D7, W.listOf vr.toArray 0)] fun i => run width signs (app width signs ([], room, []) w0) ((wr.take i).flatMap chunksOf)) fun J jI jE => ?_
  refine forG (Walks.list (by exact hh) I D7 hDI vr.toArray) hst J
      (jI _ _ _ ⟨hb6, _, fun z _ => rfl, _, rfl, lv6, nl6, its6, n6, t6, tk6', ps6, qs6, _, F9, N9, O8, hps6, hqs6, hck6.mono fun p hp => .tail _ hp, hlv6, fun p hp => by rw [List.mem_singleton.mp hp]; exact .head _, rI⟩)
      (fun i h h' gs hj kp => by obtain ⟨hb, m', hm, σ, e, FL⟩ := jE _ _ _ hj; exact jI _ _ _ ⟨hb, m', hm, σ, e, FL.keep hI0 hIL aI kp⟩) ?_ ?_
  · intro i v h gs tk hi hP hSt' hj
    obtain ⟨hb, m', hm, σ1, hσ1, FL⟩ := jE _ _ _ hj
    rw [List.getElem?_toArray] at hP
    obtain ⟨c, T, tb, tp, hc, rfl, ht⟩ := hck.nth i v hP
    obtain ⟨oI, eI, cI⟩ : ∃ oI, h.get? I = some oI ∧ oI.cls ≠ .type "tuple" := ⟨_, hSt'.1.choose_spec.1, by rw [hSt'.1.choose_spec.2.1]; decide⟩
    have eD := FL.led.get (.head _)
    dsimp only at eD
    have FL2 := FL.into hI0 hIL aI eI
    clear FL
    obtain ⟨lv, nl, its, n, t, tk', ps1, qs1, rest, F10, N10, O10, hps1, hqs1, hck1, hlv1, hex1⟩ := FL2
    rw [upon_of hm] at F10
    refine wpAny_letOwnedTupleGo_listiter hSt'.1 ?_
    refine unpackN_ F10 N10 (Fr.tup F10 ht) (by exact hh) (by rfl) (by rfl) ?_
    intro h11 F11 N11
    clear F10 N10 F9 N9
    have hwc := hwl c (List.mem_of_getElem? hc)
    kwd_rel
    rename Fr g _ _ _ => F12
    rename News g _ _ _ => N12
    have sf : Safe width signs σ1 (chunksOf c ++ (wr.drop (i + 1)).flatMap chunksOf) := by
      have := safe.2
      rw [split_at hc, List.flatMap_append, List.flatMap_cons] at this
      exact hσ1 ▸ (safe_append this).2
    refine app_step (σ := σ1) (c := (c.1, Txt.item c.2 0)) (extra := (I, oI) :: [(D7, W.listOf vr.toArray 0)]) ⟨lv, nl, its, n, t, tk', ps1, qs1, rest, F12, N12, O10, hps1, hqs1, hck1, hlv1, hex1⟩ X T_ BM hh (by simp only [depth_deeper]; omega) (by show A.units + 3 < 8800; omega) hwd hsg sf.1 ?_
    intro h13 g13 tk13 FL13 hb13
    clear F12 N12
    have sf2 : Safe width signs (app width signs σ1 (c.1, Txt.item c.2 0)) (tailOf c.2) := (safe_append (a := chunksOf c) sf).1.2
    generalize hσ2 : app width signs σ1 (c.1, Txt.item c.2 0) = σ2 at FL13 sf2
    obtain ⟨lv3, nl3, its3, n3, t3, tk3, ps3, qs3, rest3, F14, N14, O14, hps14, hqs14, hck14, hlv14, hex14⟩ := FL13
    have st : StopN 3 := .mk 3
    kwd_rel
    rename StopN _ => st
    clear st
    unfold Hold
    rename Fr g _ _ _ => F15
    rename News g _ _ _ => N15
    refine pyIter_strT fun o2 St2 hW2 hst2 hlive2 => ?_
    have hJ0 := next_is_new F15
    have hJL := Nat.ne_of_gt F15.ns.lt
    have aJ : @LT.lt Nat _ a _ := Heap.lt_size (N15 _ (.head _)).1
    have rJ := fun (p : Addr × Obj) (hp : p ∈ rest3) => Nat.ne_of_lt (Heap.lt_size (N15 p (.tail _ (.tail _ (.tail _ (.tail _ (.tail _ (.tail _ (.tail _ hp)))))))).1)
    have F16 := F15.push o2
    have N16 := N15.grown (h' := _) fun _ _ e => Heap.get?_push_of_some o2 e
    rename_i h15 _ _ _
    dsimp only at hW2 hst2 hlive2 hJ0 hJL aJ rJ ⊢
    generalize h15.objs.size = I2 at hW2 hst2 hlive2 hJ0 hJL aJ rJ ⊢
    generalize h15.push o2 = h16 at F16 N16 hst2 ⊢
    clear F15 N15
    have exI : ∀ p ∈ [(I, oI), (D7, W.listOf vr.toArray 0)], p.1 ≠ I2 := fun p hp => rJ p (hex14 p hp)
    refine opq3 (RowJ w g s.heap.objs.size s.gens (fun y => if y = Str.ofString "maker" then some (Value.ref M) else [(Str.ofString "words", Value.ref lw), (Str.ofString "room", Value.int room tr), (Str.ofString "width", Value.int width tw), (Str.ofString "signs", Value.str signs ts)].reverse.lookup y) M dm Ln a d (fmtDict w u1 u2 u3 u4 u5 u6 tw tkC tl ts width signs Ln a) I2 [(I, oI), (D7, W.listOf vr.toArray 0)] fun j => run width signs σ2 ((tailOf c.2).take j)) fun J2 j2I j2E => ?_
    refine forG (hW2 _ (by exact hh)) hst2 J2
      (j2I _ _ _ ⟨fun x => hb13 (hb x), _, ?_, _, rfl, lv3, nl3, its3, n3, t3, tk3, ps3, qs3, _, F16, N16, O14, hps14, hqs14, hck14, hlv14, hex14, rJ⟩)
      (fun i h h' gs hj kp => by obtain ⟨hb, m', hm, σ, e, FL⟩ := j2E _ _ _ hj; exact j2I _ _ _ ⟨hb, m', hm, σ, e, FL.keep hJ0 hJL aJ kp⟩) ?_ ?_
    · ktd_rel
    · intro j v h17 gs17 tk17 hj hP2 hSt2 hJ2
      obtain ⟨hb17, m17, hm17, σ3, hσ3, FL17⟩ := j2E _ _ _ hJ2
      obtain ⟨ch, uc, hch, rfl⟩ := hP2
      obtain ⟨oJ, eJ, cJ⟩ := hlive2 _ _ hSt2
      have FL18 := FL17.into hJ0 hJL aJ eJ
      clear FL17 F16 N16
      obtain ⟨lv5, nl5, its5, n5, t5, tk5, ps5, qs5, rest5, F18, N18, O18, hps18, hqs18, hck18, hlv18, hex18⟩ := FL18
      rw [upon_of hm17] at F18
      have hcj : (tailOf c.2)[j]? = some (Str.ofString "", ⟨#[ch]⟩) := by
        simp only [tailOf, List.getElem?_map, Array.getElem?_toList, hch]; rfl
      have sf3 : okStep width signs σ3 (Str.ofString "", ⟨#[ch]⟩) := by
        have := sf2
        rw [split_at hcj] at this
        exact hσ3 ▸ (safe_append this).2.1
      show wpAny _ _ (pure ()) _ _ _
      refine wpAny_pure ?_
      kwd_rel
      rename Fr g _ _ _ => F19
      rename News g _ _ _ => N19
      refine app_step (σ := σ3) (c := (Str.ofString "", ⟨#[ch]⟩)) (extra := (I2, oJ) :: [(I, oI), (D7, W.listOf vr.toArray 0)]) ⟨lv5, nl5, its5, n5, t5, tk5, ps5, qs5, rest5, F19, N19, O18, hps18, hqs18, hck18, hlv18, hex18⟩ X T_ BM hh (by simp only [depth_deeper]; omega) (by show A.units + 3 < 8800; omega) hwd hsg sf3 ?_
      intro h20 g20 tk20 FL20 hb20
      clear F19 N19
      kwd_rel
      obtain ⟨eJ', FL21⟩ := FL20.off cJ exI
      refine ⟨h20, g20, _, rfl, fun b hb o e => ?_, j2I _ _ _ ⟨fun x => hb20 (hb17 x), _, ?_, _, (run_next width signs σ2 hcj).trans (by rw [hσ3]), FL21⟩⟩
      · rw [List.mem_singleton.mp hb] at e ⊢
        rw [eJ] at e
        cases e
        exact eJ'
      · ktd_rel
    · intro h17 gs17 tk17 hJ2
      obtain ⟨hb17, m17, hm17, σ4, hσ4, FL17⟩ := j2E _ _ _ hJ2
      kwd_rel
      have eI' := FL17.led.get (.head _)
      have eD' := FL17.led.get (.tail _ (.head _))
      obtain ⟨_, FL18⟩ := FL17.led.off cI (fun p hp => by rw [List.mem_singleton.mp hp]; exact hDI)
      have e1 : (tailOf c.2).take (Txt.slice c.2 (some 1) none).cps.size = tailOf c.2 := List.take_of_length_le (by simp [tailOf])
      rw [e1] at hσ4
      refine ⟨h17, gs17, _, rfl, fun b hb o e => ?_, jI _ _ _ ⟨hb17, m17, hm17, σ4, ?_, FL18⟩⟩
      · rcases List.mem_cons.mp hb with rfl | hb
        · rw [eI] at e; cases e; exact eI'
        · rw [List.mem_singleton.mp hb] at e ⊢
          rw [eD] at e; cases e; exact eD'
      · rw [take_next hc, List.flatMap_append, List.flatMap_cons, List.flatMap_nil, List.append_nil, run_append, hσ1, ← hσ4, ← hσ2]
        rfl
  · intro h17 gs17 tk17 hJ1
    obtain ⟨hb17, m17, hm17, σ5, hσ5, FL17⟩ := jE _ _ _ hJ1
    have e1 : wr.take vr.toArray.size = wr := List.take_of_length_le (by rw [List.size_toArray, hvr]; exact Nat.le_refl _)
    rw [e1] at hσ5
    obtain ⟨lv5, nl5, its5, n5, t5, tk5, ps5, qs5, rest5, F18, N18, O18, hps18, hqs18, hck18, hlv18, hex18⟩ := FL17.led
    rw [upon_of hm17] at F18
    clear F9 N9 FL17
    kwd_rel
    rename Fr g _ _ _ => F19
    rename News g _ _ _ => N19
    have fin' := fin
    rw [show run width signs ([], room, []) (w0 :: wr.flatMap chunksOf) = σ5 from hσ5] at fin' hrows
    obtain ⟨cs, c, hcs, f1, f2, f3, f4, f5, f6, f7, f8, f9, f10⟩ := fin'
    have hrows' : σ5.1 ++ [cksStr (cs ++ [c])] = r0 :: rr := by rw [← hcs]; exact hrows
    rw [hcs] at hck18
    refine wpAny_call (str_fmt_spec F19 X N19 O18 T_ BM hh (by simp only [depth_deeper]; omega) (by show A.units + 3 < 8800; omega) hps18 hqs18 hck18 hlv18 f1 f2 f3 f4 f5 f6 f7 f8 f9 (Nat.le_trans f10 (by decide)) ?_)
    intro h20 g20 tk20 t20 n20 nl20 lv20 t20' tk20' ps20 qs20 rest20 F20 N20 O20 hps20 hqs20 hb20
    rw [hrows']
    generalize Str.join (Str.ofString "\n") (r0 :: rr) = jn at hsplit hjl ⊢
    clear F19 N19
    dsimp only
    have st : StopAt := trivial
    kwd_rel
    rename StopAt => st
    clear st
    unfold Hold
    rename_i y ty hy
    rename List (Str × Tok) => lX
    rename List.map _ _ = Txt.split _ _ => hlook
    rename StrsAre (strValues _) _ => hss
    rename 0 ≤ (room : Int) → _ => kn
    have hy1 : y = r0 := by
      rw [hlook, hsplit] at hy
      simpa using hy.symm
    have hyl : y.length ≤ 1000 := by rw [hy1]; exact Nat.le_trans (mem_wt (.head _)) hrw
    have hml : (Txt.mul (Str.ofString "-") room).length ≤ 4 := by
      have := kn (by omega)
      omega
    subst hy1
    rw [hlook, hsplit] at hss
    have hsl : (strValues lX).length ≤ 1000 := by rw [hss.length]; exact Nat.le_trans (len_wt _) hrw
    clear hlook
    generalize strValues lX = sv at *
    cases hss with
    | cons x1 x2 hss' =>
    rename_i sv'
    kwd_rel
    rename Fr g _ _ _ => F25
    rename News g _ _ _ => N25
    rw [pick_tail] at N25
    have i140 : _ = some (tabObj ps20) := (N25 (140, tabObj ps20) (by repeat (first | exact .head _ | refine .tail _ ?_))).1
    have i147 : _ = some (tabObj qs20) := (N25 (147, tabObj qs20) (by repeat (first | exact .head _ | refine .tail _ ?_))).1
    have n140 := Nat.ne_of_gt (Heap.lt_size i140)
    have n147 := Nat.ne_of_gt (Heap.lt_size i147)
    refine add_lists F25 N25 (News.isList N25 (.tail _ (.head _))) (News.isList N25 (.head _)) (fun h26 F26 N26 => ?_) ?_
    · refine hQ h26 g20 _ ps20 qs20 _ _ _ (fun b o hb e => F26.keep b o (hg ▸ hideAll_get [140, 147] e hb)) (N26 (140, tabObj ps20) (by repeat (first | exact .head _ | refine .tail _ ?_))).1 (N26 (147, tabObj qs20) (by repeat (first | exact .head _ | refine .tail _ ?_))).1 hps20 hqs20 (none_hidden hg (N26 _ (.head _)).2.2 n140 n147) (N26 _ (.head _)).1 (.cons _ _ hss') (fun x => hb20 (hb17 x))
    · simp only [List.length_cons, List.length_nil, sizeLine_eq] at hsl ⊢
      omega
end XH23
section
variable {prog : Program} {w : World} {A : Around} {E : Value → Shared → Prop} {s : Shared} {K : Frag} {p : Program} {loose : List Str} {mg mb : Str → Option Value}
  {name qual : Str} {params : Arguments} {body : List Stmt} {scope : Scope} {dV kV doc pm cdv ct oc : Value} {an od : Option Addr} {osl : Array (Option Value)} {f : Addr} {args : List Value} {binds : List (Str × Value)}
theorem enterCG {Q : Value → Shared → Prop} {news : List (Addr × Obj)} (X : K.In (hideAll s.heap (news.map (·.1)))) (T : TopRead p loose mg mb (hideAll s.heap (news.map (·.1)))) (N : ∀ p ∈ news, s.heap.get? p.1 = some p.2)
    (ho : K.lookup f = some ⟨oc, od, .func (fnOf name qual params body scope dV kV doc pm an cdv ct), osl⟩) (hcd : codeIn K cdv qual = true) (hroom : A.depth < recursionLimit)
    (hbind : BindsTo s (fnOf name qual params body scope dV kV doc pm an cdv ct) ⟨args, []⟩ binds) (hkind : (binds.all fun y => scope.names.lookup y.1 == some .local || scope.names.lookup y.1 == some .cell) = true)
    (hnd : ((cellsFrom 0 scope.names []).map (·.1)).Nodup)
    (h : ∀ h₁ tk cells, Fr (hideAll s.heap (news.map (·.1))) s.heap.objs.size h₁ (bindL (envOfC qual scope s.heap.objs.size f cdv).kindOf binds fun _ => none) → News (hideAll s.heap (news.map (·.1))) s.heap.objs.size h₁ (cells ++ news) →
      CellsAre (bindC (envOfC qual scope s.heap.objs.size f cdv).kindOf binds fun _ => none) (cellsFrom (s.heap.objs.size + 1) scope.names []) cells →
      wpAny (model prog w) (A.deeper (envOfC qual scope s.heap.objs.size f cdv)) (execs body (envOfC qual scope s.heap.objs.size f cdv))
        (fun fl s' => Q (match fl with | .ret v => v | _ => .none) s') (fun _ _ => False)
        { s with heap := h₁, toks := tk })
    (hco : scope.isCoroutine = false) (hgen : scope.isGenerator = false) (hk : scope.kind = .function) : wpAny (model prog w) A (call (.ref f) args) Q E s := by
  have up : ∀ b o, (hideAll s.heap (news.map (·.1))).get? b = some o → s.heap.get? b = some o := fun b o e => of_hideAll _ e
  refine enterC (X.keeps up) (T.keeps up) ho hcd hroom hbind hkind hnd (fun h₁ tk cells F fresh held => ?_) hco hgen hk
  refine h h₁ tk cells ⟨F.ns, fun b o e => F.keep b o (up b o e), Nat.le_of_eq (hideAll_size _ _)⟩ (fun q hq => ?_) held
  rcases List.mem_append.mp hq with hq | hq
  · exact ⟨(fresh q hq).1, (fresh q hq).2.1, Option.eq_none_iff_forall_ne_some.mpr fun o e => by simpa [(fresh q hq).2.2] using up _ _ e⟩
  · exact ⟨F.keep _ _ (N q hq), Nat.ne_of_lt (Heap.lt_size (N q hq)), hideAll_none _ (List.mem_map_of_mem hq)⟩
end
noncomputable abbrev tl (x : Str) : List Nat := x.cps.toList
theorem tl_inj {a b : Str} (h : tl a = tl b) : a = b := Str.ext' (Array.toList_inj.mp h)
theorem tl_app (a b : Str) : tl (a ++ b) = tl a ++ tl b := Array.toList_append
theorem tl_len (a : Str) : (tl a).length = a.length := rfl
theorem tl_nil : tl (Str.ofString "") = [] := by decide +kernel
theorem tl_join (l : List Str) : tl (Str.join (Str.ofString "") l) = l.flatMap tl := by
  induction l with
  | nil => rfl
  | cons x l ih =>
    cases l with
    | nil => show tl x = _; simp
    | cons y r =>
      show tl (x ++ Str.ofString "" ++ Str.join (Str.ofString "") (y :: r)) = _
      rw [tl_app, tl_app, ih, tl_nil, List.append_nil]
      rfl
theorem tl_mul1 {x : Str} {c : Nat} (h : tl x = [c]) (n : Nat) : tl (Txt.mul x (n : Int)) = List.replicate n c := by
  have hx : x = ⟨#[c]⟩ := tl_inj h
  subst hx
  unfold Txt.mul
  by_cases h0 : n = 0
  · subst h0; rfl
  rw [if_neg (by omega)]
  by_cases h1 : n = 1
  · subst h1; rfl
  rw [if_neg (by
    have a : ((n : Int) == 1) = false := by rw [beq_eq_false_iff_ne]; omega
    rw [a]; show ¬ ((false || ((1 : Nat) == 0)) = true); decide)]
  show Array.toList ((List.replicate (n : Int).toNat #[c]).foldl (· ++ ·) #[]) = _
  rw [Int.toNat_natCast]
  have key : ∀ (n : Nat) (a : Array Nat), Array.toList ((List.replicate n #[c]).foldl (· ++ ·) a) = a.toList ++ List.replicate n c := by
    intro n
    induction n with
    | zero => intro a; simp
    | succ n ih =>
      intro a
      rw [List.replicate_succ, List.foldl_cons, ih, Array.toList_append, List.replicate_succ]
      simp
  rw [key]; rfl
theorem tl_slice (x : Str) {a b : Nat} (hab : a ≤ b) (hb : b ≤ x.length) : tl (Txt.slice x (some (a : Int)) (some (b : Int))) = ((tl x).drop a).take (b - a) := by
  have h := StrLaws.sliceText_nat x hab hb
  have e : Txt.slice x (some (a : Int)) (some (b : Int)) = StrLaws.sliceText x (some (a : Int)) (some (b : Int)) := rfl
  rw [e, h]
theorem tl_lower {x : Str} (hA : ∀ c ∈ tl x, c < 128) : tl (Txt.lower x) = (tl x).map lo1 := by
  rw [lower_ascii hA]; exact Array.toList_map
noncomputable def OccAt (J P : List Nat) (i : Nat) : Prop := (J.drop i).take P.length = P
theorem occ_iff (x y : Str) : (!(Builtin.Str.occurrences x y 0 x.length 1).isEmpty) = true ↔ ∃ i, i + (tl y).length ≤ (tl x).length ∧ OccAt (tl x) (tl y) i := by
  rw [StrLaws.found_iff]
  refine exists_congr fun i => and_congr Iff.rfl ?_
  rw [StrLaws.subAt_eq, beq_iff_eq]
  exact Iff.rfl
theorem occ_get {J P : List Nat} {i j : Nat} (h : OccAt J P i) (hj : j < P.length) : J[i + j]? = P[j]? := by
  have e : ((J.drop i).take P.length)[j]? = P[j]? := by rw [h]
  rw [List.getElem?_take, if_pos hj, List.getElem?_drop] at e
  exact e
theorem uniq_word {A B : List Nat} {b s x : Nat} (hA : x ∉ A) (hB : x ∉ B) (h1 : x ≠ 32) (h2 : x ≠ 59) (hs : 1 ≤ s) {i : Nat}
    (h : OccAt (A ++ (List.replicate b 32 ++ (List.replicate s x ++ [59])) ++ B) (List.replicate b 32 ++ (List.replicate s x ++ [59])) i) : i = A.length := by
  have key : ∀ j : Nat, (A ++ (List.replicate b 32 ++ (List.replicate s x ++ [59])) ++ B)[j]? = some x → A.length + b ≤ j ∧ j < A.length + b + s := by
    intro j hj
    rw [List.append_assoc] at hj
    by_cases c1 : j < A.length
    · rw [List.getElem?_append_left c1] at hj
      exact absurd (List.mem_of_getElem? hj) hA
    rw [List.getElem?_append_right (by omega)] at hj
    rw [List.append_assoc] at hj
    by_cases c2 : j - A.length < b
    · rw [List.getElem?_append_left (by simpa using c2)] at hj
      have := List.mem_of_getElem? hj
      rw [List.mem_replicate] at this
      exact absurd this.2 h1
    rw [List.getElem?_append_right (by simp; omega), List.length_replicate, List.append_assoc] at hj
    by_cases c3 : j - A.length - b < s
    · omega
    rw [List.getElem?_append_right (by simp; omega), List.length_replicate] at hj
    have := List.mem_of_getElem? hj
    simp only [List.cons_append, List.nil_append, List.mem_cons] at this
    rcases this with h | h
    · exact absurd h h2
    · exact absurd h hB
  have g1 := occ_get h (j := b + s - 1) (by simp; omega)
  have g2 := occ_get h (j := b + s) (by simp)
  have e1 : (List.replicate b 32 ++ (List.replicate s x ++ [59]))[b + s - 1]? = some x := by
    rw [List.getElem?_append_right (by simp; omega), List.length_replicate, List.getElem?_append_left (by simp; omega), List.getElem?_replicate, if_pos (by omega)]
  have e2 : (List.replicate b 32 ++ (List.replicate s x ++ [59]))[b + s]? = some 59 := by
    rw [List.getElem?_append_right (by simp), List.length_replicate, List.getElem?_append_right (by simp), List.length_replicate]
    have : b + s - b - s = 0 := by omega
    rw [this]; rfl
  rw [e1] at g1
  rw [e2] at g2
  have k1 := key _ g1
  have k2 : ¬ (i + (b + s) < A.length + b + s) := by
    intro c
    have : (A ++ (List.replicate b 32 ++ (List.replicate s x ++ [59])) ++ B)[i + (b + s)]? = some x := by
      rw [List.append_assoc, List.getElem?_append_right (by omega), List.append_assoc, List.getElem?_append_right (by simp; omega), List.length_replicate, List.append_assoc, List.getElem?_append_left (by simp; omega), List.getElem?_replicate, if_pos (by omega)]
    rw [this] at g2
    exact h2 (Option.some.inj g2)
  omega
theorem occ_self (A P B : List Nat) : OccAt (A ++ P ++ B) P A.length := by
  unfold OccAt
  rw [List.append_assoc, List.drop_left, List.take_left]
theorem uniq_name {B : List Nat} {r x : Nat} (hB : x ∉ B) (hr : 1 ≤ r) {i : Nat} (h : OccAt (List.replicate r x ++ B) (List.replicate r x) i) : i = 0 := by
  have g := occ_get h (j := r - 1) (by simp; omega)
  rw [List.getElem?_replicate, if_pos (by omega)] at g
  by_cases c : i + (r - 1) < r
  · omega
  rw [List.getElem?_append_right (by simp; omega)] at g
  exact absurd (List.mem_of_getElem? g) hB
theorem hit_iff {J P : List Nat} {p W j : Nat} (hu : ∀ i, OccAt J P i → i = p) (hp : OccAt J P p) (hj : j + W ≤ J.length) (h0 : P.head? ≠ some 42) (hP : P ≠ []) :
    (∃ i, i + P.length ≤ (42 :: (J.drop j).take W).length ∧ OccAt (42 :: (J.drop j).take W) P i) ↔ p + P.length - W ≤ j ∧ j ≤ p := by
  have hw : ((J.drop j).take W).length = W := by rw [List.length_take, List.length_drop]; exact Nat.min_eq_left (Nat.le_sub_of_add_le (Nat.add_comm j W ▸ hj))
  constructor
  · rintro ⟨i, hi, h⟩
    rw [List.length_cons, hw] at hi
    cases i with
    | zero =>
      have g := occ_get h (j := 0) (List.length_pos_iff.mpr hP)
      exact absurd (by rw [List.head?_eq_getElem?]; exact g.symm) h0
    | succ i =>
      have e : OccAt J P (j + i) := by
        unfold OccAt at h ⊢
        rw [List.drop_succ_cons, List.drop_take, List.take_take, List.drop_drop, Nat.min_eq_left (by omega)] at h
        exact h
      have := hu _ e
      omega
  · rintro ⟨h1, h2⟩
    obtain ⟨d, rfl⟩ := Nat.exists_eq_add_of_le h2
    have h3 : d + P.length ≤ W := Nat.le_of_add_le_add_left (Nat.add_assoc j d _ ▸ Nat.add_comm j W ▸ Nat.sub_le_iff_le_add'.mp h1 : j + (d + P.length) ≤ j + W)
    refine ⟨d + 1, ?_, ?_⟩
    · rw [List.length_cons, hw, Nat.add_right_comm]; exact Nat.succ_le_succ h3
    · unfold OccAt
      rw [List.drop_succ_cons, List.drop_take, List.take_take, List.drop_drop, Nat.min_eq_left (Nat.le_sub_of_add_le (Nat.add_comm d _ ▸ h3))]
      exact hp
theorem min_up {n hi : Nat} (hn : 1 ≤ n) : min n (hi + 1) = min (min hi (n - 1) + 1) n := by
  obtain ⟨m, rfl⟩ : ∃ m, n = m + 1 := ⟨n - 1, (Nat.sub_add_cancel hn).symm⟩
  rw [Nat.add_sub_cancel, ← Nat.add_min_add_right, Nat.min_eq_left (Nat.min_le_right _ _), Nat.min_comm]
theorem filter_range (n lo hi : Nat) (hn : 1 ≤ n) : (List.range n).filter (fun j => decide (lo ≤ j ∧ j ≤ hi)) = ((List.range n).take (min hi (n - 1) + 1)).drop lo := by
  have key : ∀ n, (List.range n).filter (fun j => decide (lo ≤ j ∧ j ≤ hi)) = (List.range (min n (hi + 1))).drop lo := by
    intro n
    induction n with
    | zero => simp
    | succ n ih =>
      rw [List.range_succ, List.filter_append, ih]
      by_cases c : n ≤ hi
      · rw [Nat.min_eq_left (by omega), Nat.min_eq_left (by omega), List.range_succ]
        by_cases d : lo ≤ n
        · rw [List.drop_append_of_le_length (by simpa using d)]
          simp [c, d]
        · rw [List.drop_of_length_le (by simp; omega), List.drop_of_length_le (by simp; omega)]
          simp [c, d]
      · rw [Nat.min_eq_right (by omega), Nat.min_eq_right (by omega)]
        simp [c]
  rw [key, List.take_range, min_up hn]
noncomputable def pre (ts : List Str) (n : Nat) : Nat := ((ts.take n).map (·.length)).sum
theorem pre_succ (ts : List Str) {k : Nat} {t : Str} (h : ts[k]? = some t) : pre ts (k + 1) = pre ts k + t.length := by
  unfold pre
  rw [List.take_add_one, h]
  simp
theorem pre_le_succ (ts : List Str) (k : Nat) : pre ts k ≤ pre ts (k + 1) := by
  cases h : ts[k]? with
  | some t => rw [pre_succ ts h]; exact Nat.le_add_right _ _
  | none =>
    unfold pre
    rw [List.take_add_one, h]
    simp
theorem pre_mono (ts : List Str) {a b : Nat} (h : a ≤ b) : pre ts a ≤ pre ts b := by
  induction h with
  | refl => exact Nat.le_refl _
  | step _ ih => exact Nat.le_trans ih (pre_le_succ ts _)
theorem pre_lt (ts : List Str) (h1 : ∀ x ∈ ts, 1 ≤ x.length) {a b : Nat} (h : a < b) (hb : b ≤ ts.length) : pre ts a < pre ts b := by
  have e : ts[a]? = some ts[a] := List.getElem?_eq_getElem (by omega)
  have q := pre_succ ts e
  have z := h1 _ (List.mem_of_getElem? e)
  have := pre_mono ts (show a + 1 ≤ b from h)
  omega
theorem pre_jl (ts : List Str) {f b : Nat} (h : f ≤ b) : pre ts f + jl ts f b = pre ts b := by
  unfold pre jl
  conv => rhs; rw [← List.take_append_drop f (ts.take b)]
  rw [List.map_append, List.sum_append, List.take_take, Nat.min_eq_left h]
theorem pre_join (ts : List Str) (b : Nat) : (Str.join (Str.ofString "") (ts.take b)).length = pre ts b := len_join _
noncomputable abbrev txt (ts : List Str) (r : Nat × Nat) : Str := Str.join (Str.ofString "") ((ts.take r.2).drop r.1)
theorem len_txt (ts : List Str) (f b : Nat) : (txt ts (f, b)).length = jl ts f b := len_join _
theorem txt_one {ts : List Str} {b : Nat} {t : Str} (h : ts[b]? = some t) : txt ts (b, b + 1) = t := by
  have e : (ts.take (b + 1)).drop b = [t] := by
    have hb := (List.getElem?_eq_some_iff.mp h).1
    rw [List.take_add_one, h, List.drop_append_of_le_length (by simp; omega), List.drop_of_length_le (by simp; omega)]
    rfl
  show Str.join _ ((ts.take (b + 1)).drop b) = t
  rw [e]
  rfl
theorem join_snoc (l : List Str) (t : Str) : Str.join (Str.ofString "") (l ++ [t]) = Str.join (Str.ofString "") l ++ t := by
  apply tl_inj
  rw [tl_app, tl_join, tl_join, List.flatMap_append]
  simp
theorem txt_next {ts : List Str} {f b : Nat} {t : Str} (h : ts[b]? = some t) (hf : f ≤ b) : txt ts (f, b + 1) = txt ts (f, b) ++ t := by
  have hb := (List.getElem?_eq_some_iff.mp h).1
  have e : (ts.take (b + 1)).drop f = (ts.take b).drop f ++ [t] := by
    rw [List.take_add_one, h, List.drop_append_of_le_length (by simp; omega)]
    rfl
  show Str.join _ ((ts.take (b + 1)).drop f) = _
  rw [e, join_snoc]
inductive Gr (p : Nat → Nat) (W m : Nat) : Nat → List (Nat × Nat) → Prop
  | last {f : Nat} : f < m → p m ≤ p f + W → Gr p W m f [(f, m)]
  | cons {f b : Nat} {r : List (Nat × Nat)} : f < b → b < m → p b ≤ p f + W → p f + W < p (b + 1) → Gr p W m b r → Gr p W m f ((f, b) :: r)
noncomputable def rowsG (W : Nat) : Str → List Str → List Str
  | cur, [] => [cur]
  | cur, w :: r => if cur.length + w.length ≤ W then rowsG W (cur ++ w) r else cur :: rowsG W w r
theorem rowsG_runs (ts : List Str) (W : Nat) (hW : ∀ x ∈ ts, x.length ≤ W) : ∀ (k b f : Nat), b + k = ts.length → f < b → pre ts b ≤ pre ts f + W →
    ∃ runs, rowsG W (txt ts (f, b)) (ts.drop b) = runs.map (txt ts) ∧ Gr (pre ts) W ts.length f runs := by
  intro k
  induction k with
  | zero =>
    intro b f hb hf hp
    have e : b = ts.length := by omega
    refine ⟨[(f, ts.length)], ?_, .last (by omega) (e ▸ hp)⟩
    rw [e, List.drop_length]
    rfl
  | succ k ih =>
    intro b f hb hf hp
    have hb' : b < ts.length := by omega
    have e : ts[b]? = some ts[b] := List.getElem?_eq_getElem hb'
    have hp2 := pre_succ ts e
    have hj := pre_jl ts (Nat.le_of_lt hf)
    rw [List.drop_eq_getElem_cons hb', rowsG, len_txt]
    by_cases c : jl ts f b + ts[b].length ≤ W
    · rw [if_pos c, ← txt_next e (by omega)]
      exact ih (b + 1) f (by omega) (by omega) (by omega)
    · rw [if_neg c]
      obtain ⟨runs, h1, h2⟩ := ih (b + 1) b (by omega) (by omega) (by have := hW _ (List.mem_of_getElem? e); omega)
      rw [txt_one e] at h1
      exact ⟨(f, b) :: runs, by rw [h1]; rfl, .cons hf hb' hp (by omega) h2⟩
theorem runEnd_at (ts : List Str) (h1 : ∀ x ∈ ts, 1 ≤ x.length) {f b : Nat} (hb : b ≤ ts.length) : ∀ (k c : Nat), f ≤ c → c ≤ b → b < c + k → runEnd ts f (jl ts f b) k c = b := by
  intro k
  induction k with
  | zero => intro c _ h2 h3; omega
  | succ k ih =>
    intro c hc h2 h3
    have q1 := pre_jl ts hc
    have q2 := pre_jl ts (Nat.le_trans hc h2)
    rw [runEnd]
    by_cases e : c = b
    · subst e
      rw [if_neg (by omega)]
    · have := pre_lt ts h1 (show c < b by omega) hb
      rw [if_pos ⟨by omega, by omega⟩]
      exact ih (c + 1) (by omega) (by omega) (by omega)
theorem gr_le {p : Nat → Nat} {W m f : Nat} {runs : List (Nat × Nat)} (h : Gr p W m f runs) : ∀ r ∈ runs, f ≤ r.1 ∧ r.1 < r.2 ∧ r.2 ≤ m ∧ p r.2 ≤ p r.1 + W := by
  induction h with
  | last h1 h2 =>
    intro r hr
    rw [List.mem_singleton.mp hr]
    exact ⟨Nat.le_refl _, h1, Nat.le_refl _, h2⟩
  | cons h1 h2 h3 _ _ ih =>
    intro r hr
    rcases List.mem_cons.mp hr with rfl | hr
    · exact ⟨Nat.le_refl _, h1, Nat.le_of_lt h2, h3⟩
    · obtain ⟨a, b⟩ := ih r hr
      exact ⟨by omega, b⟩
theorem runsF_gr (ts : List Str) {W : Nat} (h1 : ∀ x ∈ ts, 1 ≤ x.length) {f : Nat} {runs : List (Nat × Nat)} (h : Gr (pre ts) W ts.length f runs) : runsF ts f (runs.map (txt ts)) = runs := by
  induction h with
  | @last f h2 _ =>
    show [(f, runEnd ts f (txt ts (f, ts.length)).length (ts.length + 1 - f) f)] = _
    rw [len_txt, runEnd_at ts h1 (Nat.le_refl _) _ _ (Nat.le_refl _) (by omega) (by omega)]
  | @cons f b r h2 h3 _ _ _ ih =>
    show (f, runEnd ts f (txt ts (f, b)).length (ts.length + 1 - f) f) :: runsF ts (runEnd ts f (txt ts (f, b)).length (ts.length + 1 - f) f) (r.map (txt ts)) = _
    rw [len_txt, runEnd_at ts h1 (by omega) _ _ (Nat.le_refl _) (by omega) (by omega), ih]
theorem gr_last {p : Nat → Nat} {W m f : Nat} {runs : List (Nat × Nat)} (h : Gr p W m f runs) : ∃ f0, runs.getLast? = some (f0, m) := by
  induction h with
  | last _ _ => exact ⟨_, rfl⟩
  | cons _ _ _ _ h ih =>
    obtain ⟨f0, e⟩ := ih
    exact ⟨f0, by rw [List.getLast?_cons, e]; rfl⟩
theorem gr_firsts {p : Nat → Nat} {W m : Nat} (hp : ∀ a b, a ≤ b → p a ≤ p b) {f : Nat} {runs : List (Nat × Nat)} (h : Gr p W m f runs) : (runs.map (·.1)).Pairwise (fun i k => i < k ∧ p i + W < p (k + 1)) := by
  induction h with
  | last _ _ => exact List.pairwise_singleton _ _
  | @cons f b r h1 _ _ h4 h ih =>
    refine List.pairwise_cons.mpr ⟨fun k hk => ?_, ih⟩
    obtain ⟨x, hx, rfl⟩ := List.mem_map.mp hk
    have := (gr_le h x hx).1
    have q := hp (b + 1) (x.1 + 1) (by omega)
    exact ⟨by show f < x.1; omega, by show p f + W < p (x.1 + 1); omega⟩
theorem gr_upper {p : Nat → Nat} {W m : Nat} (hp : ∀ a b, a ≤ b → p a ≤ p b) {f : Nat} {runs : List (Nat × Nat)} (h : Gr p W m f runs) :
    ∀ q : List Nat, q.Pairwise (fun i k => i < k ∧ p i + W < p (k + 1)) → (∀ x ∈ q, f ≤ x ∧ x < m) → q.length ≤ runs.length := by
  have one : ∀ (f b : Nat) (q : List Nat), p b ≤ p f + W → q.Pairwise (fun i k => i < k ∧ p i + W < p (k + 1)) → (∀ x ∈ q, f ≤ x ∧ x < b) → q.length ≤ 1 := by
    intro f b q hb hq hx
    match q, hq, hx with
    | [], _, _ => exact Nat.zero_le _
    | [_], _, _ => exact Nat.le_refl _
    | x :: y :: r, hq, hx =>
      have h1 := (List.pairwise_cons.mp hq).1 y (.head _)
      have h2 := hx x (.head _)
      have h3 := hx y (.tail _ (.head _))
      have a := hp f x h2.1
      have b' := hp (y + 1) b h3.2
      omega
  induction h with
  | @last f h1 h2 => intro q hq hx; exact one f m q h2 hq hx
  | @cons f b r h1 h2 h3 h4 h ih =>
    intro q hq hx
    have l1 := one f b (q.filter (fun x => decide (x < b))) h3 (hq.filter _) fun x hx' => by
      have := List.mem_filter.mp hx'
      exact ⟨(hx x this.1).1, of_decide_eq_true this.2⟩
    have l2 := ih (q.filter (fun x => !decide (x < b))) (hq.filter _) fun x hx' => by
      have := List.mem_filter.mp hx'
      have h5 : ¬ x < b := by simpa using this.2
      exact ⟨by omega, (hx x this.1).2⟩
    have l3 := List.length_eq_countP_add_countP (p := fun x => decide (x < b)) (l := q)
    rw [List.countP_eq_length_filter, List.countP_eq_length_filter] at l3
    have e : (q.filter (fun x => decide ¬ (decide (x < b) = true))) = q.filter (fun x => !decide (x < b)) := List.filter_congr fun x _ => by cases decide (x < b) <;> rfl
    rw [e] at l3
    rw [List.length_cons]
    omega
noncomputable def fitsIn (M : List (List Bool)) (k : Nat) (q : List Nat) : Bool := q.all fun i => (M.getD k []).getD i false
noncomputable def apartF (M : List (List Bool)) : Nat → List (List Nat)
  | 0 => [[]]
  | k + 1 => apartF M k ++ ((apartF M k).filter (fitsIn M k)).map (· ++ [k])
theorem apart_lt (M : List (List Bool)) : ∀ (k : Nat), ∀ q ∈ apartF M k, (∀ x ∈ q, x < k) ∧ q.length ≤ k
  | 0, q, h => by simp only [apartF, List.mem_singleton] at h; subst h; simp
  | k + 1, q, h => by
    simp only [apartF, List.mem_append, List.mem_map, List.mem_filter] at h
    rcases h with h | ⟨r, ⟨h, _⟩, rfl⟩
    · have z := apart_lt M k q h
      exact ⟨fun x hx => Nat.lt_succ_of_lt (z.1 x hx), Nat.le_succ_of_le z.2⟩
    · have z := apart_lt M k r h
      refine ⟨fun x hx => ?_, by simp; exact z.2⟩
      rcases List.mem_append.mp hx with hx | hx
      · exact Nat.lt_succ_of_lt (z.1 x hx)
      · rw [List.mem_singleton.mp hx]; exact Nat.lt_succ_self k
theorem apart_len (M : List (List Bool)) : ∀ (k : Nat), (apartF M k).length ≤ 2 ^ k
  | 0 => by simp [apartF]
  | k + 1 => by
    have z := apart_len M k
    have f := List.length_filter_le (fitsIn M k) (apartF M k)
    simp only [apartF, List.length_append, List.length_map]
    rw [Nat.pow_succ]
    omega
theorem apart_pair (M : List (List Bool)) : ∀ (k : Nat), ∀ q ∈ apartF M k, q.Pairwise (fun i j => i < j ∧ (M.getD j []).getD i false = true)
  | 0, q, h => by simp only [apartF, List.mem_singleton] at h; subst h; exact List.Pairwise.nil
  | k + 1, q, h => by
    simp only [apartF, List.mem_append, List.mem_map, List.mem_filter] at h
    rcases h with h | ⟨r, ⟨h, hf⟩, rfl⟩
    · exact apart_pair M k q h
    · refine List.pairwise_append.mpr ⟨apart_pair M k r h, List.pairwise_singleton _ _, fun a ha b hb => ?_⟩
      rw [List.mem_singleton.mp hb]
      exact ⟨(apart_lt M k r h).1 a ha, List.all_eq_true.mp hf a ha⟩
theorem apart_has (M : List (List Bool)) : ∀ (k : Nat) (q : List Nat), q.Pairwise (fun i j => i < j ∧ (M.getD j []).getD i false = true) → (∀ x ∈ q, x < k) → q ∈ apartF M k
  | 0, q, _, h => by
    cases q with
    | nil => simp [apartF]
    | cons x _ => exact absurd (h x (.head _)) (Nat.not_lt_zero _)
  | k + 1, q, hq, h => by
    rcases List.eq_nil_or_concat q with rfl | ⟨r, x, rfl⟩
    · exact List.mem_append_left _ (apart_has M k [] List.Pairwise.nil (fun _ hx => nomatch hx))
    · rw [List.concat_eq_append] at hq h ⊢
      obtain ⟨h1, _, h3⟩ := List.pairwise_append.mp hq
      have hx := h x (by simp)
      by_cases e : x = k
      · subst e
        refine List.mem_append_right _ (List.mem_map.mpr ⟨r, List.mem_filter.mpr ⟨apart_has M x r h1 fun y hy => (h3 y hy x (by simp)).1, ?_⟩, rfl⟩)
        exact List.all_eq_true.mpr fun y hy => (h3 y hy x (by simp)).2
      · refine List.mem_append_left _ (apart_has M k _ hq fun y hy => ?_)
        rcases List.mem_append.mp hy with hy | hy
        · have := (h3 y hy x (by simp)).1
          omega
        · rw [List.mem_singleton.mp hy]; omega
theorem apart_max {p : Nat → Nat} {W m : Nat} (hp : ∀ a b, a ≤ b → p a ≤ p b) {runs : List (Nat × Nat)} (h : Gr p W m 0 runs) {M : List (List Bool)} (hM : ∀ i k, i < k → k < m → ((M.getD k []).getD i false = true ↔ p i + W < p (k + 1))) :
    (∃ q ∈ apartF M m, q.length = runs.length) ∧ ∀ q ∈ apartF M m, q.length ≤ runs.length := by
  constructor
  · have g := gr_firsts hp h
    have lt : ∀ x ∈ runs.map (·.1), x < m := fun x hx => by
      obtain ⟨r, hr, rfl⟩ := List.mem_map.mp hx
      have := gr_le h r hr
      show r.1 < m
      omega
    refine ⟨runs.map (·.1), apart_has M m _ ?_ lt, List.length_map _⟩
    exact List.Pairwise.imp_of_mem (fun {a b} _ hb q => ⟨q.1, (hM a b q.1 (lt b hb)).mpr q.2⟩) g
  · intro q hq
    have l := apart_lt M m q hq
    refine gr_upper hp h q (List.Pairwise.imp_of_mem (fun {a b} _ hb z => ⟨z.1, (hM a b z.1 (l.1 b hb)).mp z.2⟩) (apart_pair M m q hq)) fun x hx => ⟨Nat.zero_le _, l.1 x hx⟩
end Si6
end Si5
end Si4
end Si3
end Si2
end Salc
end Slc
section XE6
local macro_rules | `(tactic| kwd_less) => `(tactic| first | assumption | omega | ((simp only [List.length_cons, List.length_nil]); omega))
local macro_rules
  | `(tactic| walk_at "call ref nil") => `(tactic| (rename StopN 1 => st; refine Hold.out ?_))
  | `(tactic| walk_at "exec Assign cons ListComp") => `(tactic| (rename StopN 2 => st; refine Hold.out ?_))
noncomputable def recAgents (mark : Str) : List Str := [Str.ofString "%", Str.ofString "*", mark]
noncomputable def recFu (place : Nat) (mark : Str) : List Str := if place % 2 = 0 then recAgents mark else (recAgents mark).reverse
noncomputable def headOf (one strip : Str) : Str := ((Txt.split (Str.ofString "*" ++ one ++ Str.ofString "/" ++ strip) (Str.ofString "/"))[0]?).getD Str.empty
noncomputable def recUs (place : Nat) (mark strip : Str) (ws : List Str) : List Str :=
  let held := ws.filter (fun one => (recFu place mark).any (hits (Txt.lower (headOf one strip))))
  if place % 2 = 0 then held else held.reverse
theorem wt_agents {mark : Str} (hm : mark.length ≤ 20) : wt (recAgents mark) ≤ 1000 := by
  simp only [recAgents, wt, List.map_cons, List.map_nil, List.sum_cons, List.sum_nil, List.length_cons, List.length_nil]
  have a1 : (Str.ofString "%").length = 1 := by decide
  have a2 : (Str.ofString "*").length = 1 := by decide
  omega
theorem wt_rev (l : List Str) : wt l.reverse = wt l := by simp [wt]
set_option maxHeartbeats 4000000 in
theorem record_spec {w : World} {A : Around} {E : Value → Shared → Prop} {s : Shared} {mg mb : Str → Option Value} {shown : Addr} {place : Nat} {mark strip : Str} {ws : List Str} {wv : List Value} {t1 t2 t3 : Tok} {Q : Value → Shared → Prop}
   (X : (fr.heap_1 w.params).In s.heap) (T : TT mg mb s.heap) (hh : A.handled = none) (hdp : A.depth < 880) (hw : s.heap.IsList shown wv.toArray) (hws : StrsAre wv ws)
   (hp : place ≤ 6) (hm : mark.length ≤ 20) (hs : strip.length ≤ 100) (hwl : wt ws ≤ 800)
   (hQ : ∀ h' tk r rn, (∀ b o, s.heap.get? b = some o → h'.get? b = some o) → Fresh s.heap h' rn → Ck rn (fun h => EntryAt w h r (recUs place mark strip ws) [(place : Int)]) → Q (.ref r) { s with heap := h', toks := tk }) :
   wpAny (model (Challenge.rw_rs0167_01.row.prog) w) A (call (.ref 255) [.int place t1, .str mark t2, .ref shown, .str strip t3]) Q E s := by
  revert X; k_fill; intro X
  refine' enterC (binds := [(Str.ofString "place", .int place t1), (Str.ofString "mark", .str mark t2), (Str.ofString "shown", .ref shown), (Str.ofString "strip", .str strip t3)]) X T ?ho ?hcd ?hroom ?hb ?hkd ?hnd ?_ ?c1 ?c2 ?c3
  case ho => k_is
  case hcd => k_is
  case hroom => ((simp only [recursionLimit, depth_under_make, depth_under_kw, depth_in1, depth_deeper]); omega)
  case hb => exact BindsTo.of_eq rfl
  case hkd => exact rfl
  case hnd => decide +kernel
  case c1 => exact rfl
  case c2 => exact rfl
  case c3 => exact rfl
  intro h₁ tk cells F N Y
  k_cells Y
  try dsimp only
  try k_fold
  have par : ((place % 2 : Nat) : Int) = (place : Int).fmod 2 := by rw [Int.fmod_eq_emod_of_nonneg _ (by decide)]; rfl
  have st : StopN 1 := .mk 1
  kwd_rel
  rename StopN _ => st
  clear st
  unfold Hold
  refine entry_new (by assumption) X (by assumption) T hh (by simp only [depth_deeper]; omega) ?_
  intro h₂ tk₂ d x lu lr p1 p2 p3 p4 F N l0 lx1 lx2 lx3
  k_lt l0
  have st : StopN 2 := .mk 2
  kwd_rel
  rename StopN _ => st
  clear st
  unfold Hold
  all_goals (k_dflt (refine LCt.Assign_ListComp_T (F₀ := by k_asm) (by rfl) (by with_unfolding_all rfl) (by with_unfolding_all rfl) (by decide) (by rfl) (by decide) (by rfl) (by rfl) (by rfl) ?_))
  all_goals kwd_rel
  all_goals refine LCt.CompSrcT.base (by exact hh) (by k_asm) (by k_asm) hw (by have := hws.length; have := len_wt ws; simp only [List.size_toArray, sizeLine_eq]; omega) ?_
  all_goals intro g
  · refine filt_rest hws (fun one => (recFu place mark).any (hits (Txt.lower (headOf one strip)))) (.inl hw) ?_ ?_
    · intro y t I oI C oC D m₂ ys h tk E' hy hC hx F1 N1 off ne
      have hyl : y.length ≤ 800 := Nat.le_trans (mem_wt hy) hwl
      kwd_rel
      have mx := (N1 _ (.tail _ (.tail _ (.tail _ (.tail _ (.tail _ (.head _))))))).1
      have md := (N1 _ (.tail _ (.tail _ (.tail _ (.tail _ (.tail _ (.tail _ (.head _)))))))).1
      have ml := (N1 _ (.tail _ (.tail _ (.tail _ (.tail _ (.tail _ (.tail _ (.tail _ (.head _))))))))).1
      have z1 := wt_agents hm
      refine' applies_spec (us := recAgents mark) (X.keeps F1.keep) (TopRead.keeps T F1.keep) hh ?dp mx md ?li ?st ?a ?b ?_
      case dp => simp only [depth_deeper]; omega
      case li => exact ⟨_, ml, rfl, _, rfl⟩
      case st => exact .cons _ _ (.cons _ _ (.cons _ _ .nil))
      case a => kwd_less
      case b => exact z1
      intro h9 tk9 y9 e9 k9
      have F9 := fr_up F1 k9
      have N9 := news_keep F1 N1 k9
      clear F1 N1
      have hpe : place % 2 = 0 := Int.natCast_eq_zero.mp (par.trans (by assumption))
      have hfu : recFu place mark = recAgents mark := by unfold recFu; rw [if_pos hpe]
      have hy9 : headOf y strip = y9 := by unfold headOf; rw [e9]; rfl
      kwd_rel
      · rw [hfu, hy9]; cases (recAgents mark).any (hits (Txt.lower y9)) <;> rfl
      · refine ⟨h9, tk9, rfl, k9, fun _ => ?_⟩
        kwd_rel
        · exact ⟨h9, _, rfl, fun _ _ e => e, trivial⟩
    · intro ys hys D h tk F9 N9 o9
      have hyl2 : ys.length ≤ 800 := by rw [hys.length]; exact Nat.le_trans (List.length_filter_le _ _) (Nat.le_trans (len_wt ws) hwl)
      simp only [LCg.Off1, and_true] at o9
      try dsimp only
      have st : StopN 1 := .mk 1
      kwd_rel
      rename StopN _ => st
      clear st
      unfold Hold
      refine entry_new F9 X N9 T hh (by simp only [depth_deeper]; omega) ?_
      clear F9 N9
      intro h₃ tk₃ d3 x3 lu3 lr3 q1 q2 q3 q4 F N l5 lx4 lx5 lx6
      k_lt l5
      kwd_rel
      all_goals (try exact absurd (by assumption) (show (place : Int).fmod 2 ≠ 0 by assumption))
      rename Fr _ _ _ _ => F8
      rename News _ _ _ _ => N8
      have hus : recUs place mark strip ws = ws.filter (fun one => (recFu place mark).any (hits (Txt.lower (headOf one strip)))) := by unfold recUs; rw [if_pos (Int.natCast_eq_zero.mp (par.trans (by assumption)))]
      refine hQ _ _ x3 _ (fun b o e => F8.keep b o e) (Fresh.of_news N8) fun g' k => ?_
      have ml := k _ (.head _)
      have mx := k _ (.tail _ (.tail _ (.tail _ (.head _))))
      have md := k _ (.tail _ (.tail _ (.tail _ (.tail _ (.head _)))))
      have mD := k _ (.tail _ (.tail _ (.tail _ (.tail _ (.tail _ (.head _))))))
      rw [hus]
      exact ⟨d3, q1, q2, q3, q4, D, _, ys, _, mx, md, ⟨_, mD, rfl, _, rfl⟩, hys, ⟨_, ml, rfl, _, rfl⟩, .cons _ _ .nil⟩
  · refine filt_rest hws (fun one => (recFu place mark).any (hits (Txt.lower (headOf one strip)))) (.inl hw) ?_ ?_
    · intro y t I oI C oC D m₂ ys h tk E' hy hC hx F1 N1 off ne
      have hyl : y.length ≤ 800 := Nat.le_trans (mem_wt hy) hwl
      kwd_rel
      have ml := (N1 _ (.tail _ (.tail _ (.tail _ (.head _))))).1
      have mx := (N1 _ (.tail _ (.tail _ (.tail _ (.tail _ (.tail _ (.tail _ (.head _)))))))).1
      have md := (N1 _ (.tail _ (.tail _ (.tail _ (.tail _ (.tail _ (.tail _ (.tail _ (.head _))))))))).1
      have z1 := wt_agents hm
      refine' applies_spec (us := (recAgents mark).reverse) (X.keeps F1.keep) (TopRead.keeps T F1.keep) hh ?dp mx md ?li ?st ?a ?b ?_
      case dp => simp only [depth_deeper]; omega
      case li => exact ⟨_, ml, rfl, _, rfl⟩
      case st => exact .cons _ _ (.cons _ _ (.cons _ _ .nil))
      case a => kwd_less
      case b => rw [wt_rev]; exact z1
      intro h9 tk9 y9 e9 k9
      have F9 := fr_up F1 k9
      have N9 := news_keep F1 N1 k9
      clear F1 N1
      have hpe : ¬ place % 2 = 0 := fun e => absurd (par.symm.trans (Int.natCast_eq_zero.mpr e)) (by assumption)
      have hfu : recFu place mark = (recAgents mark).reverse := by unfold recFu; rw [if_neg hpe]
      have hy9 : headOf y strip = y9 := by unfold headOf; rw [e9]; rfl
      kwd_rel
      · rw [hfu, hy9]; cases (recAgents mark).reverse.any (hits (Txt.lower y9)) <;> rfl
      · refine ⟨h9, tk9, rfl, k9, fun _ => ?_⟩
        kwd_rel
        · exact ⟨h9, _, rfl, fun _ _ e => e, trivial⟩
    · intro ys hys D h tk F9 N9 o9
      have hyl2 : ys.length ≤ 800 := by rw [hys.length]; exact Nat.le_trans (List.length_filter_le _ _) (Nat.le_trans (len_wt ws) hwl)
      simp only [LCg.Off1, and_true] at o9
      try dsimp only
      have st : StopN 1 := .mk 1
      kwd_rel
      rename StopN _ => st
      clear st
      unfold Hold
      refine entry_new F9 X N9 T hh (by simp only [depth_deeper]; omega) ?_
      clear F9 N9
      intro h₃ tk₃ d3 x3 lu3 lr3 q1 q2 q3 q4 F N l5 lx4 lx5 lx6
      k_lt l5
      kwd_rel
      all_goals (try exact absurd (by assumption) (show (place : Int).fmod 2 ≠ 0 by assumption))
      rename Fr _ _ _ _ => F8
      rename News _ _ _ _ => N8
      have hus : recUs place mark strip ws = (ws.filter (fun one => (recFu place mark).any (hits (Txt.lower (headOf one strip))))).reverse := by unfold recUs; rw [if_neg (fun e => absurd (par.symm.trans (Int.natCast_eq_zero.mpr e)) (by assumption))]
      refine hQ _ _ x3 _ (fun b o e => F8.keep b o e) (Fresh.of_news N8) fun g' k => ?_
      have ml := k _ (.head _)
      have mD := k _ (.tail _ (.head _))
      have mx := k _ (.tail _ (.tail _ (.tail _ (.tail _ (.head _)))))
      have md := k _ (.tail _ (.tail _ (.tail _ (.tail _ (.tail _ (.head _))))))
      rw [hus]
      exact ⟨d3, q1, q2, q3, q4, _, _, ys.reverse, _, mx, md, ⟨_, mD, rfl, _, rfl⟩, strs_rev hys, ⟨_, ml, rfl, _, rfl⟩, .cons _ _ .nil⟩
end XE6
theorem cells_get {cm : Str → Option Value} {pairs : List (Str × Addr)} {cells : List (Addr × Obj)} (x : CellsAre cm pairs cells) : ∀ q ∈ pairs, ∃ o : Obj, (q.2, o) ∈ cells ∧ o.data = .cell (cm q.1) := by
  induction x with
  | nil => exact fun _ h => nomatch h
  | cons d _ ih => exact List.forall_mem_cons.mpr ⟨⟨_, .head _, d⟩, fun q hq => (ih q hq).imp fun _ h => ⟨.tail _ h.1, h.2⟩⟩
theorem cells_from {cm : Str → Option Value} {pairs : List (Str × Addr)} {cells : List (Addr × Obj)} (x : CellsAre cm pairs cells) {P : Addr → Prop} (h : ∀ q ∈ pairs, P q.2) : ∀ p ∈ cells, P p.1 := by
  induction x with
  | nil => exact fun _ h => nomatch h
  | cons d _ ih => exact List.forall_mem_cons.mpr ⟨h _ (.head _), ih fun q hq => h q (.tail _ hq)⟩
noncomputable def lawBody : List PySem.Stmt := match PySem.Challenge.pw_rs0167_01.main.body[16]? with
  | some (PySem.Stmt.FunctionDef _ _ b _ _ _ _ _ _ _) => b
  | _ => []
noncomputable def lawScope : PySem.Scope := match PySem.Challenge.pw_rs0167_01.main.body[16]? with
  | some (PySem.Stmt.FunctionDef _ _ _ _ _ _ sc _ _ _) => sc
  | _ => { kind := .function, names := [], isGenerator := false, isCoroutine := false }
noncomputable abbrev lawEnv (L : Addr) : PySem.Env := envOfC (Str.ofString "law") lawScope L 274 (.ref 273)
theorem wpAny_cut {M : Model} {A : Around} {E : Value → Shared → Prop} {s : Shared} {env : PySem.Env} {l : List PySem.Stmt} {Q : Flow → Shared → Prop} (n : Nat)
    (h : wpAny M A (execs (l.take n) env) (fun f s' => match f with | .next => wpAny M A (execs (l.drop n) env) Q E s' | f => Q f s') E s) : wpAny M A (execs l env) Q E s := by
  have e := wpAny_append h
  rwa [List.take_append_drop] at e
noncomputable def Far (L a : Nat) : Prop := (a < L + 1 ∨ L + 9 < a) ∧ a ≠ 140 ∧ a ≠ 147
noncomputable abbrev cellNames : List Str := [Str.ofString "width", Str.ofString "blanks", Str.ofString "sizes", Str.ofString "k", Str.ofString "marks", Str.ofString "strip", Str.ofString "shown", Str.ofString "records", Str.ofString "strange"]
theorem lk_cons (y a : Str) (v : Value) (r : List (Str × Value)) : List.lookup y ((a, v) :: r) = if y = a then some v else r.lookup y := by
  by_cases h : y = a
  · subst h; simp
  · rw [if_neg h, List.lookup_cons]
    have : (y == a) = false := by simpa using h
    rw [this]
theorem lk_nil (y : Str) : List.lookup y ([] : List (Str × Value)) = none := rfl
structure Cells (L : Nat) (ps qs : Array Value) (cm : List (Str × Value)) (C : List (Addr × Obj)) : Prop where
  cell : ∀ i : Nat, i < 9 → ∃ o : Obj, ((L + 1 + i : Nat), o) ∈ C ∧ o.data = .cell (cm.lookup (cellNames.getD i Str.empty))
  t140 : (140, tabObj ps) ∈ C
  t147 : (147, tabObj qs) ∈ C
  own : ∀ p ∈ C, ¬ Far L p.1
structure LawAt (g h : Heap) (L : Addr) (ps qs : Array Value) (vars cm : List (Str × Value)) (rest : List (Addr × Obj)) : Prop where
  fr : Fr g L h (fun y => vars.lookup y)
  led : ∃ C, News g L h (C ++ rest) ∧ Cells L ps qs cm C
  far : ∀ p ∈ rest, Far L p.1
  low : @LT.lt Nat _ 147 L
theorem far_big {L D : Nat} (low : 147 < L) (h : L + 9 < D) : Far L D := ⟨.inr h, Nat.ne_of_gt (by omega), Nat.ne_of_gt (by omega)⟩
section
variable {L : Nat} {ps qs : Array Value} {cm : List (Str × Value)} {C : List (Addr × Obj)}
theorem Cells.above {D : Addr} (c : Cells L ps qs cm C) (l : ∀ p ∈ C, p.1 < D) : @LT.lt Nat _ (L + 9) D :=
  let ⟨_, m, _⟩ := c.cell 8 (by decide); l _ m
theorem Cells.apart {D : Nat} (c : Cells L ps qs cm C) (l : ∀ p ∈ C, @Ne Nat p.1 D) : Far L D := by
  refine ⟨?_, fun e => l _ c.t140 e.symm, fun e => l _ c.t147 e.symm⟩
  by_cases h : D < L + 1
  · exact .inl h
  by_cases h2 : L + 9 < D
  · exact .inr h2
  obtain ⟨_, m, _⟩ := c.cell (D - (L + 1)) (by omega)
  exact absurd (show L + 1 + (D - (L + 1)) = D by omega) (l _ m)
theorem Cells.ne {D : Nat} (c : Cells L ps qs cm C) (h : Far L D) : ∀ p ∈ C, @Ne Nat p.1 D := fun p hp e => c.own p hp (by have e' : p.1 = D := e; rw [e']; exact h)
theorem cell_names : ∀ i < 9, ∀ j < 9, j ≠ i → cellNames.getD j Str.empty ≠ cellNames.getD i Str.empty := by decide +kernel
theorem not_far {L i : Nat} (h : i < 9) : ¬ Far L (L + 1 + i) := fun f => f.1.elim (fun q => by omega) fun q => by omega
theorem Far.ne {L a i : Nat} (f : Far L a) (h : i < 9) : a ≠ L + 1 + i := fun e => not_far h (e ▸ f)
theorem Cells.over (c : Cells L ps qs cm C) (low : 147 < L) {i D : Nat} {C' : List (Addr × Obj)} (k : ∀ p ∈ C, @Ne Nat p.1 (L + 1 + i) → p ∈ C') (l : ∀ p ∈ C', @LT.lt Nat _ p.1 D) (hi : L + 1 + i < D) : Far L D := by
  obtain ⟨o, m, _⟩ := c.cell 8 (by decide)
  by_cases e : i = 8
  · subst e; exact far_big low hi
  · exact far_big low (l _ (k _ m (by show L + 1 + 8 ≠ L + 1 + i; omega)))
inductive Taken (L : Nat) (ps qs : Array Value) (cm : List (Str × Value)) (C : List (Addr × Obj)) (i : Nat) (y : Str) : Prop
  | mk (o : Obj) (C' : List (Addr × Obj)) (m : ((L + 1 + i : Nat), o) ∈ C) (d : o.data = .cell (cm.lookup y)) (s : ∀ p ∈ C', p ∈ C) (n : ∀ p ∈ C', @Ne Nat p.1 (L + 1 + i)) (k : ∀ p ∈ C, @Ne Nat p.1 (L + 1 + i) → p ∈ C')
      (p : ∀ (o' : Obj) (v : Value), o'.data = .cell (some v) → Cells L ps qs ((y, v) :: cm) (((L + 1 + i : Nat), o') :: C')) : Taken L ps qs cm C i y
inductive Taken2 (L : Nat) (ps qs : Array Value) (cm : List (Str × Value)) (C : List (Addr × Obj)) (i j : Nat) (y z : Str) : Prop
  | mk (o o' : Obj) (C' : List (Addr × Obj)) (m : ((L + 1 + i : Nat), o) ∈ C) (d : o.data = .cell (cm.lookup y)) (m' : ((L + 1 + j : Nat), o') ∈ C) (d' : o'.data = .cell (cm.lookup z)) (s : ∀ p ∈ C', p ∈ C) (n : ∀ p ∈ C', @Ne Nat p.1 (L + 1 + i)) (n' : ∀ p ∈ C', @Ne Nat p.1 (L + 1 + j))
      (k : ∀ p ∈ C, @Ne Nat p.1 (L + 1 + i) → @Ne Nat p.1 (L + 1 + j) → p ∈ C')
      (p : ∀ (q q' : Obj) (v v' : Value), q.data = .cell (some v) → q'.data = .cell (some v') → Cells L ps qs ((z, v') :: (y, v) :: cm) (((L + 1 + j : Nat), q') :: ((L + 1 + i : Nat), q) :: C')) : Taken2 L ps qs cm C i j y z
theorem Cells.take (c : Cells L ps qs cm C) (low : 147 < L) (i : Nat) (hi : i < 9) {y : Str} (hy : cellNames.getD i Str.empty = y) : Taken L ps qs cm C i y := by
  subst hy
  obtain ⟨o, m, d⟩ := c.cell i hi
  have keep : ∀ p ∈ C, @Ne Nat p.1 (L + 1 + i) → p ∈ C.filter (fun p => decide (@Ne Nat p.1 (L + 1 + i))) := fun p hp h => List.mem_filter.mpr ⟨hp, decide_eq_true h⟩
  refine ⟨o, C.filter (fun p => decide (@Ne Nat p.1 (L + 1 + i))), m, d, fun p hp => (List.mem_filter.mp hp).1, fun p hp => of_decide_eq_true (List.mem_filter.mp hp).2, keep, fun o' v d' => ⟨fun j hj => ?_, .tail _ (keep _ c.t140 (by show 140 ≠ L + 1 + i; omega)), .tail _ (keep _ c.t147 (by show 147 ≠ L + 1 + i; omega)), fun p hp => ?_⟩⟩
  · by_cases e : j = i
    · subst e
      exact ⟨o', .head _, by rw [lk_cons, if_pos rfl]; exact d'⟩
    · obtain ⟨oj, mj, dj⟩ := c.cell j hj
      exact ⟨oj, .tail _ (keep _ mj (by show L + 1 + j ≠ L + 1 + i; omega)), by rw [lk_cons, if_neg (cell_names i hi j hj e)]; exact dj⟩
  · rcases List.mem_cons.mp hp with rfl | hp
    · exact not_far hi
    · exact c.own p (List.mem_filter.mp hp).1
theorem Cells.put (c : Cells L ps qs cm C) (low : 147 < L) {i : Nat} (hi : i < 9) {y : Str} (hy : cellNames.getD i Str.empty = y) {X : List (Addr × Obj)} (own : ∀ p ∈ X, ¬ Far L p.1) (k : ∀ p ∈ C, @Ne Nat p.1 (L + 1 + i) → p ∈ X) {o : Obj} {v : Value} (d : o.data = .cell (some v)) :
    Cells L ps qs ((y, v) :: cm) (((L + 1 + i : Nat), o) :: X) := by
  subst hy
  refine ⟨fun j hj => ?_, .tail _ (k _ c.t140 (by show 140 ≠ L + 1 + i; omega)), .tail _ (k _ c.t147 (by show 147 ≠ L + 1 + i; omega)), fun p hp => ?_⟩
  · by_cases e : j = i
    · subst e
      exact ⟨o, .head _, by rw [lk_cons, if_pos rfl]; exact d⟩
    · obtain ⟨oj, mj, dj⟩ := c.cell j hj
      exact ⟨oj, .tail _ (k _ mj (by show L + 1 + j ≠ L + 1 + i; omega)), by rw [lk_cons, if_neg (cell_names i hi j hj e)]; exact dj⟩
  · rcases List.mem_cons.mp hp with rfl | hp
    · exact not_far hi
    · exact own p hp
theorem Cells.take2 (c : Cells L ps qs cm C) (low : 147 < L) (i j : Nat) (hi : i < 9) (hj : j < 9) {y z : Str} (hy : cellNames.getD i Str.empty = y) (hz : cellNames.getD j Str.empty = z) (_hij : i ≠ j) : Taken2 L ps qs cm C i j y z := by
  obtain ⟨o, m, d⟩ := c.cell i hi
  obtain ⟨o', m', d'⟩ := c.cell j hj
  have mem : ∀ p, p ∈ C.filter (fun p => decide (@Ne Nat p.1 (L + 1 + i) ∧ @Ne Nat p.1 (L + 1 + j))) → p ∈ C ∧ @Ne Nat p.1 (L + 1 + i) ∧ @Ne Nat p.1 (L + 1 + j) := fun p hp => ⟨(List.mem_filter.mp hp).1, of_decide_eq_true (List.mem_filter.mp hp).2⟩
  have keep : ∀ p ∈ C, @Ne Nat p.1 (L + 1 + i) → @Ne Nat p.1 (L + 1 + j) → p ∈ C.filter (fun p => decide (@Ne Nat p.1 (L + 1 + i) ∧ @Ne Nat p.1 (L + 1 + j))) := fun p hp h h' => List.mem_filter.mpr ⟨hp, decide_eq_true ⟨h, h'⟩⟩
  refine ⟨o, o', _, m, hy ▸ d, m', hz ▸ d', fun p hp => (mem p hp).1, fun p hp => (mem p hp).2.1, fun p hp => (mem p hp).2.2, keep, fun q q' v v' h h' => ?_⟩
  have own1 : ∀ p ∈ C.filter (fun p => decide (@Ne Nat p.1 (L + 1 + i))), ¬ Far L p.1 := fun p hp => c.own p (List.mem_filter.mp hp).1
  refine (c.put low hi hy own1 (fun p hp h => List.mem_filter.mpr ⟨hp, decide_eq_true h⟩) h).put low hj hz (fun p hp => ?_) (fun p hp e => ?_) h'
  · rcases List.mem_cons.mp hp with rfl | hp
    · exact not_far hi
    · exact c.own p (mem p hp).1
  · rcases List.mem_cons.mp hp with rfl | hp
    · exact .head _
    · exact .tail _ (keep p (List.mem_filter.mp hp).1 (of_decide_eq_true (List.mem_filter.mp hp).2) e)
end
theorem Cells.apart1 {L : Nat} {ps qs : Array Value} {cm : List (Str × Value)} {C C' : List (Addr × Obj)} (c : Cells L ps qs cm C) {i D : Nat} (k : ∀ p ∈ C, @Ne Nat p.1 (L + 1 + i) → p ∈ C') (n : @Ne Nat (L + 1 + i) D) (l : ∀ p ∈ C', @Ne Nat p.1 D) : Far L D :=
  c.apart fun p hp => by
    by_cases e : p.1 = (L + 1 + i : Nat)
    · rw [e]; exact n
    · exact l p (k p hp e)
theorem Cells.apart2 {L : Nat} {ps qs : Array Value} {cm : List (Str × Value)} {C C' : List (Addr × Obj)} (c : Cells L ps qs cm C) {i j D : Nat} (k : ∀ p ∈ C, @Ne Nat p.1 (L + 1 + i) → @Ne Nat p.1 (L + 1 + j) → p ∈ C') (n : @Ne Nat (L + 1 + i) D) (n' : @Ne Nat (L + 1 + j) D) (l : ∀ p ∈ C', @Ne Nat p.1 D) : Far L D :=
  c.apart fun p hp => by
    by_cases e : p.1 = (L + 1 + i : Nat)
    · rw [e]; exact n
    · by_cases e' : p.1 = (L + 1 + j : Nat)
      · rw [e']; exact n'
      · exact l p (k p hp e e')
theorem off1_mem {D : Addr} {l : List (Addr × Obj)} (x : LCg.Off1 D l) : ∀ p ∈ l, @Ne Nat p.1 D := by
  induction l with
  | nil => intro p h; cases h
  | cons q r ih =>
    intro p h
    rcases List.mem_cons.mp h with rfl | h
    · exact x.1
    · exact ih x.2 p h
theorem cell_ne {L i j : Nat} (h : i ≠ j) : L + 1 + i ≠ L + 1 + j := by omega
theorem tail_ne {L i : Nat} {C rest : List (Addr × Obj)} (n : ∀ p ∈ C, @Ne Nat p.1 (L + 1 + i)) (far : ∀ p ∈ rest, Far L p.1) (hi : i < 9) : ∀ p ∈ C ++ rest, @Ne Nat p.1 (L + 1 + i) :=
  fun p hp => (List.mem_append.mp hp).elim (n p) fun h => (far p h).ne hi
theorem News.tail {g h : Heap} {L : Addr} {C C' rest : List (Addr × Obj)} (N : News g L h (C ++ rest)) (s : ∀ p ∈ C', p ∈ C) : News g L h (C' ++ rest) :=
  fun p hp => N p ((List.mem_append.mp hp).elim (fun h => List.mem_append_left _ (s p h)) fun h => List.mem_append_right _ h)
theorem frVars {g h : Heap} {L : Addr} {m : Str → Option Value} {vars : List (Str × Value)} (F : Fr g L h m) (e : ∀ y, m y = vars.lookup y) : Fr g L h (fun y => vars.lookup y) := by
  have : m = fun y => vars.lookup y := funext e
  rw [← this]; exact F
theorem far_ne {L d : Addr} {rest : List (Addr × Obj)} (far : ∀ p ∈ rest, Far L p.1) (h : ∀ a : Nat, Far L a → @Ne Nat a d) : ∀ p ∈ rest, p.1 ≠ d := fun p hp => h _ (far p hp)
theorem mem_swap {α : Type} {p : α} {new C r : List α} (h : p ∈ C ++ (new ++ r)) : p ∈ new ++ (C ++ r) := by
  simp only [List.mem_append] at h ⊢
  rcases h with h | h | h
  · exact .inr (.inl h)
  · exact .inl h
  · exact .inr (.inr h)
theorem LawAt.of {g h : Heap} {L : Addr} {ps qs : Array Value} {m : Str → Option Value} {vars cm : List (Str × Value)} {C new rest : List (Addr × Obj)} (F : Fr g L h m) (hm : ∀ y, m y = vars.lookup y)
    (N : News g L h (new ++ (C ++ rest))) (c : Cells L ps qs cm C) (fn : ∀ p ∈ new, Far L p.1) (fr : ∀ p ∈ rest, Far L p.1) (low : @LT.lt Nat _ 147 L) : LawAt g h L ps qs vars cm (new ++ rest) :=
  ⟨frVars F hm, ⟨C, fun p hp => N p (mem_swap hp), c⟩, fun p hp => (List.mem_append.mp hp).elim (fn p) (fr p), low⟩
theorem LawAt.ofAll {g h : Heap} {L : Addr} {ps qs : Array Value} {m : Str → Option Value} {vars cm : List (Str × Value)} {C all rest : List (Addr × Obj)} (F : Fr g L h m) (hm : ∀ y, m y = vars.lookup y)
    (N : News g L h all) (sC : ∀ p ∈ C, p ∈ all) (sR : ∀ p ∈ rest, p ∈ all) (c : Cells L ps qs cm C) (far : ∀ p ∈ rest, Far L p.1) (low : @LT.lt Nat _ 147 L) : LawAt g h L ps qs vars cm rest :=
  ⟨frVars F hm, ⟨C, fun p hp => N p ((List.mem_append.mp hp).elim (sC p) (sR p)), c⟩, far, low⟩
theorem LawAt.fresh_far {g h h' : Heap} {L : Addr} {ps qs : Array Value} {vars cm : List (Str × Value)} {rest rn : List (Addr × Obj)} (a : LawAt g h L ps qs vars cm rest) (f : Fresh h h' rn) : ∀ p ∈ rn, Far L p.1 := by
  obtain ⟨_, ⟨C, N, c⟩, _, _⟩ := a
  exact fun p hp => c.apart fun q hq => Ne.symm (f.ne (N q (List.mem_append_left _ hq)).1 p hp)
theorem LawAt.grow {g h h' : Heap} {L : Addr} {ps qs : Array Value} {vars cm : List (Str × Value)} {rest rn : List (Addr × Obj)} (a : LawAt g h L ps qs vars cm rest) (u : ∀ b o, h.get? b = some o → h'.get? b = some o) (f : Fresh h h' rn) : LawAt g h' L ps qs vars cm (rn ++ rest) := by
  have far := a.fresh_far f
  obtain ⟨F, ⟨C, N, c⟩, far0, low⟩ := a
  exact LawAt.of (fr_up F u) (fun _ => rfl) (news_add F N u f) c far far0 low
theorem fm (n k : Nat) : (n : Int).fmod k = ((n % k : Nat) : Int) := by rw [Int.fmod_eq_emod_of_nonneg _ (by omega)]; rfl
theorem fd (n k : Nat) : (n : Int).fdiv k = ((n / k : Nat) : Int) := by rw [Int.fdiv_eq_ediv_of_nonneg _ (by omega)]; rfl
theorem low_of {h : Heap} {o : Obj} (e : h.get? 147 = some o) : @LT.lt Nat _ 147 h.objs.size := Heap.lt_size e
noncomputable abbrev pairs9 (L : Nat) : List (Str × Addr) := [(Str.ofString "strange", L + 1 + 1 + 1 + 1 + 1 + 1 + 1 + 1 + 1), (Str.ofString "records", L + 1 + 1 + 1 + 1 + 1 + 1 + 1 + 1), (Str.ofString "shown", L + 1 + 1 + 1 + 1 + 1 + 1 + 1), (Str.ofString "strip", L + 1 + 1 + 1 + 1 + 1 + 1), (Str.ofString "marks", L + 1 + 1 + 1 + 1 + 1), (Str.ofString "k", L + 1 + 1 + 1 + 1), (Str.ofString "sizes", L + 1 + 1 + 1), (Str.ofString "blanks", L + 1 + 1), (Str.ofString "width", L + 1)]
theorem nine_cells {L : Nat} {ps qs : Array Value} {cm : Str → Option Value} {cells : List (Addr × Obj)} (Y : CellsAre cm (pairs9 L) cells) (hn : ∀ i < 9, cm (cellNames.getD i Str.empty) = none) : Cells L ps qs [] (cells ++ [(140, tabObj ps), (147, tabObj qs)]) := by
  have at_ : ∀ i, i < 9 → (cellNames.getD i Str.empty, (L + 1 + i : Nat)) ∈ pairs9 L := fun i hi => match i, hi with
    | 0, _ => .tail _ (.tail _ (.tail _ (.tail _ (.tail _ (.tail _ (.tail _ (.tail _ (.head _))))))))
    | 1, _ => .tail _ (.tail _ (.tail _ (.tail _ (.tail _ (.tail _ (.tail _ (.head _)))))))
    | 2, _ => .tail _ (.tail _ (.tail _ (.tail _ (.tail _ (.tail _ (.head _))))))
    | 3, _ => .tail _ (.tail _ (.tail _ (.tail _ (.tail _ (.head _)))))
    | 4, _ => .tail _ (.tail _ (.tail _ (.tail _ (.head _))))
    | 5, _ => .tail _ (.tail _ (.tail _ (.head _)))
    | 6, _ => .tail _ (.tail _ (.head _))
    | 7, _ => .tail _ (.head _)
    | 8, _ => .head _
    | i + 9, h => absurd h (Nat.not_lt.mpr (Nat.le_add_left 9 i))
  have nf : ∀ q ∈ pairs9 L, ¬ Far L q.2 := List.forall_mem_cons.mpr ⟨not_far (i := 8) (by decide), List.forall_mem_cons.mpr ⟨not_far (i := 7) (by decide), List.forall_mem_cons.mpr ⟨not_far (i := 6) (by decide), List.forall_mem_cons.mpr ⟨not_far (i := 5) (by decide), List.forall_mem_cons.mpr ⟨not_far (i := 4) (by decide), List.forall_mem_cons.mpr ⟨not_far (i := 3) (by decide), List.forall_mem_cons.mpr ⟨not_far (i := 2) (by decide), List.forall_mem_cons.mpr ⟨not_far (i := 1) (by decide), List.forall_mem_cons.mpr ⟨not_far (i := 0) (by decide), List.forall_mem_nil _⟩⟩⟩⟩⟩⟩⟩⟩⟩
  refine ⟨fun i hi => ?_, List.mem_append_right _ (.head _), List.mem_append_right _ (.tail _ (.head _)), fun p hp => (List.mem_append.mp hp).elim (cells_from (P := fun a => ¬ Far L a) Y nf p) ?_⟩
  · obtain ⟨o, m, d⟩ := cells_get Y _ (at_ i hi)
    exact ⟨o, List.mem_append_left _ m, d.trans (congrArg Data.cell (hn i hi))⟩
  · exact fun h => (List.forall_mem_cons (p := fun p : Addr × Obj => ¬ Far L p.1)).mpr ⟨fun f => f.2.1 rfl, List.forall_mem_cons.mpr ⟨fun f => f.2.2 rfl, List.forall_mem_nil _⟩⟩ p h
theorem law_entry {w : World} {A : Around} {E : Value → Shared → Prop} {s : Shared} {mg mb : Str → Option Value} {l : Addr} {Q : Value → Shared → Prop}
   (X : (fr.heap_1 w.params).In (hideAll s.heap [140, 147])) (T : TT mg mb (hideAll s.heap [140, 147])) (h140 : s.heap.get? 140 = some (tabObj #[])) (h147 : s.heap.get? 147 = some (tabObj #[])) (hdp : A.depth < 800)
   (k : ∀ h₁ tk, LawAt (hideAll s.heap [140, 147]) h₁ s.heap.objs.size #[] #[] [(Str.ofString "script", .ref l)] [] [] →
     wpAny (model (Challenge.rw_rs0167_01.row.prog) w) (A.deeper (lawEnv s.heap.objs.size)) (execs lawBody (lawEnv s.heap.objs.size)) (fun fl s' => Q (match fl with | .ret v => v | _ => .none) s') (fun _ _ => False) { s with heap := h₁, toks := tk }) :
   wpAny (model (Challenge.rw_rs0167_01.row.prog) w) A (call (.ref 274) [.ref l]) Q E s := by
  revert X; k_fill; intro X
  refine' enterCG (news := [(140, tabObj #[]), (147, tabObj #[])]) (binds := [(Str.ofString "script", .ref l)]) X T ?hn ?ho ?hcd ?hroom ?hb ?hkd ?hnd ?_ ?c1 ?c2 ?c3
  case hn =>
    exact List.forall_mem_cons.mpr ⟨h140, List.forall_mem_cons.mpr ⟨h147, List.forall_mem_nil _⟩⟩
  case ho => k_is
  case hcd => k_is
  case hroom => ((simp only [recursionLimit]); omega)
  case hb => exact BindsTo.of_eq rfl
  case hkd => exact rfl
  case hnd => decide +kernel
  case c1 => exact rfl
  case c2 => exact rfl
  case c3 => exact rfl
  intro h₁ tk cells F N Y
  simp only [List.map_cons, List.map_nil] at F N
  replace Y : CellsAre _ (pairs9 s.heap.objs.size) cells := Y
  exact k h₁ tk ⟨frVars F (fun y => by rw [lk_cons, lk_nil]; rfl), ⟨_, by rw [List.append_nil]; exact N, nine_cells Y fun i hi => match i, hi with
    | 0, _ => rfl
    | 1, _ => rfl
    | 2, _ => rfl
    | 3, _ => rfl
    | 4, _ => rfl
    | 5, _ => rfl
    | 6, _ => rfl
    | 7, _ => rfl
    | 8, _ => rfl
    | i + 9, h => absurd h (Nat.not_lt.mpr (Nat.le_add_left 9 i))⟩, (fun p hp => nomatch hp), low_of h147⟩
theorem compEnd_add {h₀ : Heap} {L I C D : Addr} {m : Str → Option Value} {s₁ : Shared} {oI oC oD : Obj} {S : List (Addr × Obj) → Prop} {r : Value → List (Addr × Obj) → Prop} {y : Value} {h' : Heap} {tk : Nat} {ad B R : List (Addr × Obj)}
    (F : Fr h₀ L h' m) (N : News h₀ L h' (ad ++ ((I, oI) :: (C, oC) :: (D, oD) :: (B ++ R)))) (off : LCg.Off3 I C D (B ++ R)) (oa : ∀ p ∈ ad, @Ne Nat p.1 I ∧ @Ne Nat p.1 C ∧ @Ne Nat p.1 D) (hS : S (B ++ (ad ++ R))) (hr : r y (B ++ (ad ++ R))) :
    LCg.CompEnd h₀ L m s₁ I oI C oC D oD S r y { s₁ with heap := h', toks := tk } := by
  refine LCg.CompEnd.intro F N (B ++ (ad ++ R)) (fun p hp => ?_) (LCg.Off3.of fun p hp => ?_) hS hr
  · simp only [List.mem_cons, List.mem_append] at hp ⊢
    rcases hp with h | h | h | h | h | h
    · exact .inr (.inl h)
    · exact .inr (.inr (.inl h))
    · exact .inr (.inr (.inr (.inl h)))
    · exact .inr (.inr (.inr (.inr (.inl h))))
    · exact .inl h
    · exact .inr (.inr (.inr (.inr (.inr h))))
  · simp only [List.mem_append] at hp
    rcases hp with h | h | h
    · exact off.mem p (List.mem_append_left _ h)
    · exact oa p h
    · exact off.mem p (List.mem_append_right _ h)
theorem mem_mid {α : Type} {p : α} {P P2 C rn rest : List α} (h : p ∈ (P ++ rn) ++ (C ++ rest)) : p ∈ P ++ (P2 ++ (C ++ (rn ++ rest))) := by
  simp only [List.mem_append] at h ⊢
  rcases h with (h | h) | h | h
  · exact .inl h
  · exact .inr (.inr (.inr (.inl h)))
  · exact .inr (.inr (.inl h))
  · exact .inr (.inr (.inr (.inr h)))
theorem LawAt.of3 {g h : Heap} {L : Addr} {ps qs : Array Value} {m : Str → Option Value} {vars cm : List (Str × Value)} {C P P2 rn rest : List (Addr × Obj)} (F : Fr g L h m) (hm : ∀ y, m y = vars.lookup y)
    (N : News g L h (P ++ (P2 ++ (C ++ (rn ++ rest))))) (c : Cells L ps qs cm C)
    (fP : ∀ p ∈ P, Far L p.1) (frn : ∀ p ∈ rn, Far L p.1) (fr : ∀ p ∈ rest, Far L p.1) (low : @LT.lt Nat _ 147 L) : LawAt g h L ps qs vars cm ((P ++ rn) ++ rest) :=
  LawAt.of F hm (fun p hp => N p (mem_mid hp)) c (fun p hp => (List.mem_append.mp hp).elim (fP p) (frn p)) fr low
theorem Fresh.of_one {h h' : Heap} {a : Addr} {o : Obj} (f : h.get? a = none) (e : h'.get? a = some o) : Fresh h h' [(a, o)] := fun p hp => by rw [List.mem_singleton.mp hp]; exact ⟨f, e⟩
theorem News.cons {g h : Heap} {L : Addr} {p : Addr × Obj} {l : List (Addr × Obj)} (hp : h.get? p.1 = some p.2 ∧ p.1 ≠ L ∧ g.get? p.1 = none) (N : News g L h l) : News g L h (p :: l) := List.forall_mem_cons.mpr ⟨hp, N⟩
section
variable {prog : Program} {w : World} {A : Around} {s : Shared} {h₀ : Heap} {L : Addr} {m : Str → Option Value} {env : Env} {elt : PySem.Expr} {x x₂ : Str} {scope : Scope} {cl : List (Str × Addr)} {S : List (Addr × Obj) → Prop} {Fin : List Value → List (Addr × Obj) → Prop} {news : List (Addr × Obj)} {P : Nat → Value → Prop} {n : Nat}
theorem comp_restP (Rl : Nat → List Value → List (Addr × Obj) → Prop) (h0 : Rl 0 [] news)
    (turn : ∀ (i : Nat) (v : Value) (ys : List Value) (nw : List (Addr × Obj)), i < n → P i v → Rl i ys nw → ∃ (t : Addr) (ot : Obj) (v₁ v₂ : Value) (nt : Nat), v = .ref t ∧ (t, ot) ∈ nw ∧ ot.cls = .type "tuple" ∧ ot.data = .seq #[v₁, v₂] nt ∧
      ∀ (I : Addr) (oI : Obj) (C : Addr) (oC : Obj) (D : Addr) (m₂ : Str → Option Value) (h : Heap) (tk : Nat) (E' : Value → Shared → Prop), LCg.NsObj oC m₂ → m₂ x = some v₁ → m₂ x₂ = some v₂ → Fr h₀ L h m →
      News h₀ L h ((I, oI) :: (C, oC) :: (D, LCg.lst ys) :: nw) → LCg.Off3 I C D nw → ((@Ne Nat I C) ∧ (@Ne Nat I D) ∧ (@Ne Nat C D)) →
      wpAny (model prog w) A (eval elt (compEnvC scope cl C env)) (LCg.CompEnd h₀ L m { s with heap := h, toks := tk } I oI C oC D (LCg.lst ys) S (fun y nw' => Rl (i + 1) (ys ++ [y]) nw')) E' { s with heap := h, toks := tk })
    (fin : ∀ ys nw, Rl n ys nw → Fin ys nw) : LCp.CompRestP prog w A h₀ L m env elt x x₂ scope cl s S P Fin n 0 [] news := by
  have key : ∀ (k i : Nat) (ys : List Value) (nw : List (Addr × Obj)), i + k = n → Rl i ys nw → LCp.CompRestP prog w A h₀ L m env elt x x₂ scope cl s S P Fin k i ys nw := by
    intro k
    induction k with
    | zero =>
      intro i ys nw e h
      have e' : i = n := by omega
      subst e'
      exact LCp.CompRestP.zero (fin ys nw h)
    | succ k ih =>
      intro i ys nw e h
      refine LCp.CompRestP.succ fun v hP => ?_
      obtain ⟨t, ot, v₁, v₂, nt, e1, hm, e2, e3, go⟩ := turn i v ys nw (by omega) hP h
      refine ⟨t, ot, v₁, v₂, nt, e1, hm, e2, e3, fun I oI C oC D m₂ g tk E' hC hx hx2 F N off ne => ?_⟩
      exact wpAny_mono (go I oI C oC D m₂ g tk E' hC hx hx2 F N off ne) (fun y s' hy => compEnd_mono (fun y nw' q => ih (i + 1) _ nw' (by omega) q) hy) fun _ _ q => q
  exact key n 0 [] news (by omega) h0
end
theorem far_above {L D : Addr} {P R C : List (Addr × Obj)} {ps qs : Array Value} {cm : List (Str × Value)} (low : @LT.lt Nat _ 147 L) (c : Cells L ps qs cm C) (l : ∀ p ∈ P ++ (C ++ R), p.1 < D) : Far L D :=
  far_big low (c.above fun p hp => l p (List.mem_append_right _ (List.mem_append_left _ hp)))
section Slc
local macro_rules | `(tactic| walk_at "eval ListComp") => `(tactic| (k_here; k_dflt (first | refine LCg.ListComp_U (F₀ := by k_asm) (by with_unfolding_all rfl) (by decide) (by rfl) (by decide) (by rfl) ?_ | refine LCt.ListComp_T (F₀ := by k_asm) (by with_unfolding_all rfl) (by decide) (by rfl) (by decide) (by rfl) ?_)))
section Slm
local macro_rules | `(tactic| k_all) => `(tactic| first | exact List.forall_mem_nil _ | (refine' List.forall_mem_cons.mpr ⟨?_, ?_⟩; rotate_right 2; k_ne; k_all))
section XL2
local macro_rules | `(tactic| walk_at "pad") => `(tactic| skip)
noncomputable def bnk (n : Nat) : Str := Txt.mul (Str.ofString " ") ((1 + n % 2 : Nat) : Int)
noncomputable def szn (n : Nat) : Int := ((1 + n / 2 % 3 : Nat) : Int)
theorem getD_cast {l : List Nat} {i x : Nat} (h : l[i]? = some x) : (l.map fun x : Nat => (x : Int)).getD i 0 = (x : Int) := by
  rw [List.getD_eq_getElem?_getD, List.getElem?_map, h]; rfl
set_option maxHeartbeats 400000 in
theorem stage2 {w : World} {A : Around} {E : Value → Shared → Prop} {s : Shared} {mg mb : Str → Option Value} {g h : Heap} {L r : Addr} {cv : List Value} {n n0 n1 n2 n3 n4 n5 : Nat} {ps qs : Array Value} {vars cm : List (Str × Value)} {rest : List (Addr × Obj)} {Q : Flow → Shared → Prop} {tk : Nat} {v1 v2 v3 v4 : Value}
   (X : (fr.heap_1 w.params).In g) (T : TT mg mb g) (hh : A.handled = none) (hdp : A.depth < 800)
   (a : LawAt g h L ps qs [(Str.ofString "signs", v1), (Str.ofString "room", v2), (Str.ofString "cells", .ref r), (Str.ofString "script", v3)] [(Str.ofString "width", v4)] rest)
   (hr : (r, ({ cls := .type "list", data := .seq (List.toArray cv) n } : Obj)) ∈ rest) (hcv : IntsAre cv [(n0 : Int), (n1 : Int), (n2 : Int), (n3 : Int), (n4 : Int), (n5 : Int)])
   (k : ∀ h' tk' bl sl bv zv m1 m2 new, LawAt g h' L ps qs [(Str.ofString "signs", v1), (Str.ofString "room", v2), (Str.ofString "cells", .ref r), (Str.ofString "script", v3)] [(Str.ofString "sizes", .ref sl), (Str.ofString "blanks", .ref bl), (Str.ofString "width", v4)] (new ++ rest) →
     (bl, ({ cls := .type "list", data := .seq (List.toArray bv) m1 } : Obj)) ∈ new → StrsAre bv [bnk n1, bnk n2, bnk n3, bnk n4, bnk n5] → (sl, ({ cls := .type "list", data := .seq (List.toArray zv) m2 } : Obj)) ∈ new → IntsAre zv [szn n1, szn n2, szn n3, szn n4, szn n5] → Q .next { s with heap := h', toks := tk' }) :
   wpAny (model (Challenge.rw_rs0167_01.row.prog) w) (A.deeper (lawEnv L)) (execs ((lawBody.drop 4).take 2) (lawEnv L)) Q E { s with heap := h, toks := tk } := by
  revert X; k_fill; intro X
  obtain ⟨F, ⟨C, N, c⟩, far, low⟩ := a
  obtain ⟨o7, o6, C', m7, d7, m6, d6, s7, n7, n6, k7, p7⟩ := c.take2 low 1 2 (by decide) (by decide) (y := Str.ofString "blanks") (z := Str.ofString "sizes") rfl rfl (by decide)
  replace d7 : o7.data = .cell none := d7
  replace d6 : o6.data = .cell none := d6
  replace N : News g L h ((r, ({ cls := .type "list", data := .seq (List.toArray cv) n } : Obj)) :: (L + 3, o6) :: (L + 2, o7) :: (C' ++ rest)) :=
    News.cons (N _ (List.mem_append_right _ hr)) (News.cons (N _ (List.mem_append_left _ m6)) (News.cons (N _ (List.mem_append_left _ m7)) (News.tail N s7)))
  have a7 : ∀ p ∈ C' ++ rest, p.1 ≠ L + 2 := tail_ne (L := L) (i := 1) n7 far (by decide)
  have a6 : ∀ p ∈ C' ++ rest, p.1 ≠ L + 3 := tail_ne (L := L) (i := 2) n6 far (by decide)
  obtain ⟨_, m9, _⟩ := c.cell 8 (by decide)
  have m9 : _ ∈ C' ++ rest := List.mem_append_left _ (k7 _ m9 (cell_ne (by decide)) (cell_ne (by decide)))
  have fr0 := far _ hr
  have r7 : @Ne Nat r (L + 2) := fr0.ne (i := 1) (by decide)
  have r6 : @Ne Nat r (L + 3) := fr0.ne (i := 2) (by decide)
  show wpAny (model _ _) (Around.deeper _ (envOfC _ (Scope.mk _ _ _ _ _) _ _ _)) (execs [_, _] (envOfC _ (Scope.mk _ _ _ _ _) _ _ _)) _ _ _
  try dsimp only
  try k_fold
  kwd_rel
  all_goals dsimp only at *
  rename Fr _ _ _ _ => F1
  rename News _ _ _ _ => N1
  rename _ ∧ _ => l1
  rename_i D1 w1 _ hI _ _
  have hI' : IntsAre w1 ([n1, n2, n3, n4, n5].map fun x : Nat => (x : Int)) := hI
  have hlen : w1.length = 5 := hI'.length
  refine LCg.CompSrc.ledger (by exact hh) F1 N1 (.head _) (by rw [List.size_toArray, hlen]; decide) ?_
  intro g1
  refine comp_rest (fun i ys nw => nw = _ ∧ StrsAre ys (([n1, n2, n3, n4, n5].take i).map bnk)) ⟨rfl, .nil⟩ ?_ ?_
  · rintro i v I oI C oC D m₂ ys nw h5 tk5 E' hi hP ⟨rfl, hms⟩ hC hx F5 N5 off ne
    obtain ⟨c, tc, rfl⟩ := hI'.int_at i v (by simpa using hP)
    clear F1 N1
    kwd_rel
    obtain ⟨x, hx5⟩ : ∃ x, [n1, n2, n3, n4, n5][i]? = some x := by
      have : i < [n1, n2, n3, n4, n5].length := by have := hi; simp only [List.size_toArray, hlen] at this; exact this
      exact ⟨_, List.getElem?_eq_getElem this⟩
    refine compEnd_keep F5 N5 off (.inr ⟨_, .head _, rfl, _, rfl⟩) ⟨rfl, ?_⟩
    rw [List.take_succ, hx5, List.map_append]
    refine hms.append' ?_
    have e : Txt.mul (Str.ofString " ") (1 + (([n1, n2, n3, n4, n5].map fun x : Nat => (x : Int)).getD i 0).fmod 2) = bnk x := by rw [getD_cast hx5, bnk, show (x : Int).fmod 2 = ((x % 2 : Nat) : Int) from fm x 2]; rfl
    show StrsAre _ [bnk x]
    rw [← e]
    exact .cons _ _ .nil
  · rintro ys nw ⟨rfl, hms⟩
    intro D h5 tk5 F5 N5 o5
    rw [show ([n1, n2, n3, n4, n5].take w1.toArray.size) = [n1, n2, n3, n4, n5] by rw [List.size_toArray, hlen]; rfl] at hms
    clear F1 N1
    have q5 := off1_mem o5
    have fD : Far L D := c.apart2 k7 (q5 _ (.tail _ (.tail _ (.tail _ (.head _))))) (q5 _ (.tail _ (.tail _ (.head _)))) fun p hp => q5 p (List.mem_append_right [_, _, _, _] (List.mem_append_left _ hp))
    have d1 : @Ne Nat D (L + 2) := fD.ne (i := 1) (by decide)
    have d2 : @Ne Nat D (L + 3) := fD.ne (i := 2) (by decide)
    clear o5 q5
    kwd_rel
    all_goals dsimp only at *
    rename _ = Data.cell (some (Value.ref D)) => dB
    rename Fr _ _ _ _ => F6
    rename News _ _ _ _ => N6
    rename_i D2 w2 h7 hI2 hC2 hL2 l2
    have hJ' : IntsAre w2 ([n1, n2, n3, n4, n5].map fun x : Nat => (x : Int)) := hI2
    have hlen2 : w2.length = 5 := hJ'.length
    refine LCg.CompSrc.ledger (by exact hh) F6 N6 (.head _) (by rw [List.size_toArray, hlen2]; decide) ?_
    intro g2
    refine comp_rest (fun i ys nw => nw = _ ∧ IntsAre ys (([n1, n2, n3, n4, n5].take i).map szn)) ⟨rfl, .nil⟩ ?_ ?_
    · rintro i v I oI C oC D3 m₂ zs nw h8 tk8 E' hi hP ⟨rfl, hns⟩ hC hx F8 N8 off ne
      obtain ⟨c, tc, rfl⟩ := hJ'.int_at i v (by simpa using hP)
      clear F6 N6
      kwd_rel
      obtain ⟨x, hx5⟩ : ∃ x, [n1, n2, n3, n4, n5][i]? = some x := by
        have : i < [n1, n2, n3, n4, n5].length := by have := hi; simp only [List.size_toArray, hlen2] at this; exact this
        exact ⟨_, List.getElem?_eq_getElem this⟩
      refine compEnd_keep F8 N8 off (.inr ⟨_, .head _, rfl, _, rfl⟩) ⟨rfl, ?_⟩
      rw [List.take_succ, hx5, List.map_append]
      refine hns.append ?_
      have e : 1 + ((([n1, n2, n3, n4, n5].map fun x : Nat => (x : Int)).getD i 0).fdiv 2).fmod 3 = szn x := by rw [getD_cast hx5, szn, show (x : Int).fdiv 2 = ((x / 2 : Nat) : Int) from fd x 2, show ((x / 2 : Nat) : Int).fmod 3 = ((x / 2 % 3 : Nat) : Int) from fm (x / 2) 3]; rfl
      show IntsAre _ [szn x]
      rw [← e]
      exact .cons _ _ .nil
    · rintro zs nw ⟨rfl, hns⟩
      intro D4 h8 tk8 F8 N8 o8x
      rw [show ([n1, n2, n3, n4, n5].take w2.toArray.size) = [n1, n2, n3, n4, n5] by rw [List.size_toArray, hlen2]; rfl] at hns
      clear F6 N6
      have q8 := off1_mem o8x
      have fE : Far L D4 := c.apart2 k7 (q8 _ (.tail _ (.tail _ (.tail _ (.tail _ (.tail _ (.head _))))))) (q8 _ (.tail _ (.tail _ (.tail _ (.tail _ (.head _)))))) fun p hp => q8 p (List.mem_append_right [_, _, _, _, _, _] (List.mem_append_left _ hp))
      have d3 : @Ne Nat D4 (L + 3) := fE.ne (i := 2) (by decide)
      clear o8x q8
      kwd_rel
      all_goals dsimp only at *
      rename _ = Data.cell (some (Value.ref D4)) => dS
      rename Fr _ _ _ _ => F9
      rename News _ _ _ _ => N9
      exact k _ _ D D4 ys zs _ _ _ (LawAt.of (new := [_, _, _, _, _]) (rest := rest) F9 (fun _ => rfl) N9 (p7 _ _ _ _ dB dS) (List.forall_mem_cons.mpr ⟨fE, List.forall_mem_cons.mpr ⟨far_big low (allLt_mem l2.2.2.2.2.2 _ m9), List.forall_mem_cons.mpr ⟨fD, List.forall_mem_cons.mpr ⟨far_big low (allLt_mem l1.2.2.2 _ m9), List.forall_mem_cons.mpr ⟨fr0, List.forall_mem_nil _⟩⟩⟩⟩⟩) far low) (.tail _ (.tail _ (.head _))) hms (.head _) hns
end XL2
end Slm
section Salc
local macro_rules | `(tactic| walk_at "exec Assign cons ListComp") => `(tactic| (k_here; k_dflt (first | refine LCg.Assign_ListComp_U (F₀ := by k_asm) (by rfl) (by with_unfolding_all rfl) (by with_unfolding_all rfl) (by decide) (by rfl) (by decide) (by rfl) (by rfl) (by rfl) ?_ | refine LCt.Assign_ListComp_T (F₀ := by k_asm) (by rfl) (by with_unfolding_all rfl) (by with_unfolding_all rfl) (by decide) (by rfl) (by decide) (by rfl) (by rfl) (by rfl) ?_)))
section Slm
local macro_rules | `(tactic| k_all) => `(tactic| first | exact List.forall_mem_nil _ | (refine' List.forall_mem_cons.mpr ⟨?_, ?_⟩; rotate_right 2; k_ne; k_all))
section XL1
local macro_rules | `(tactic| walk_at "subscriptTail Name BinOp ref int") => `(tactic| refine Hold.out ?_)
local macro_rules
  | `(tactic| walk_at "subscriptTail List") => `(tactic| (k_here; k_dflt (refine kba_turn (value' := PySem.Expr.Name (PySem.Str.ofString "_") ⟨0, 0, 0, 0⟩) (fun _ => rfl) ?_)))
noncomputable def signsOf (n : Nat) : Str := if n / 30 % 3 = 0 then Str.ofString " " else if n / 30 % 3 = 1 then Str.ofString ",;," else Str.ofString ", ,"
theorem mod3 (n : Nat) : (((n % 3 : Nat) : Int) = 0 ∧ n % 3 = 0) ∨ (((n % 3 : Nat) : Int) = 1 ∧ n % 3 = 1) ∨ (((n % 3 : Nat) : Int) = 2 ∧ n % 3 = 2) := by omega
theorem signs0 {n : Nat} (h : n / 30 % 3 = 0) : signsOf n = Str.ofString " " := if_pos h
theorem signs1 {n : Nat} (h : n / 30 % 3 = 1) : signsOf n = Str.ofString ",;," := (if_neg (by rw [h]; decide)).trans (if_pos h)
theorem signs2 {n : Nat} (h : n / 30 % 3 = 2) : signsOf n = Str.ofString ", ," := (if_neg (by rw [h]; decide)).trans (if_neg (by rw [h]; decide))
theorem lk4 (y a b c d : Str) (va vb vc vd : Value) : (if y = a then some va else if y = b then some vb else if y = c then some vc else List.lookup y [(d, vd)]) = List.lookup y [(a, va), (b, vb), (c, vc), (d, vd)] := by simp only [lk_cons]
theorem six_of {α : Type} {l : List α} (h : l.length = 6) : ∃ a b c d e f, l = [a, b, c, d, e, f] := by
  rcases l with _ | ⟨a, _ | ⟨b, _ | ⟨c, _ | ⟨d, _ | ⟨e, _ | ⟨f, _ | ⟨_, _⟩⟩⟩⟩⟩⟩⟩ <;> simp at h
  exact ⟨a, b, c, d, e, f, rfl⟩
theorem nat_int {x : Int} (h : 0 ≤ x ∧ x < 1000000) : ∃ n : Nat, x = (n : Int) ∧ n < 1000000 := ⟨x.toNat, by omega, by omega⟩
set_option maxHeartbeats 2000000 in
theorem stage1 {w : World} {A : Around} {E : Value → Shared → Prop} {s : Shared} {mg mb : Str → Option Value} {g h : Heap} {L l : Addr} {sv : List Value} {ns : List Int} {Q : Flow → Shared → Prop} {tk : Nat}
   (X : (fr.heap_1 w.params).In g) (T : TT mg mb g) (hh : A.handled = none) (hdp : A.depth < 800)
   (a : LawAt g h L #[] #[] [(Str.ofString "script", .ref l)] [] [])
   (hw : g.IsList l sv.toArray) (hws : IntsAre sv ns) (hn : ns.length ≤ 63)
   (k : ∀ h' tk' r cv n (n0 n1 n2 n3 n4 n5 : Nat) t1 t2 t3 rest, LawAt g h' L #[] #[] [(Str.ofString "signs", .str (signsOf n0) t3), (Str.ofString "room", .int ((n0 % 5 : Nat) : Int) t1), (Str.ofString "cells", .ref r), (Str.ofString "script", .ref l)] [(Str.ofString "width", .int ((6 + n0 / 5 % 6 : Nat) : Int) t2)] rest →
     (r, ({ cls := .type "list", data := .seq (List.toArray cv) n } : Obj)) ∈ rest → IntsAre cv [(n0 : Int), (n1 : Int), (n2 : Int), (n3 : Int), (n4 : Int), (n5 : Int)] → n0 < 1000000 → n1 < 1000000 → n2 < 1000000 → n3 < 1000000 → n4 < 1000000 → n5 < 1000000 → Q .next { s with heap := h', toks := tk' }) :
   wpAny (model (Challenge.rw_rs0167_01.row.prog) w) (A.deeper (lawEnv L)) (execs (lawBody.take 4) (lawEnv L)) Q E { s with heap := h, toks := tk } := by
  revert X; k_fill; intro X
  have a_ := a
  obtain ⟨F, ⟨C, N, c⟩, far, low⟩ := a
  obtain ⟨o8, C', m8, d8, s8, n8, k8, p8⟩ := c.take low 0 (by decide) (y := Str.ofString "width") rfl
  replace d8 : o8.data = .cell none := d8
  replace N : News g L h ((L + 1, o8) :: C') := News.cons (N _ (List.mem_append_left _ m8)) fun p hp => N p (List.mem_append_left _ (s8 p hp))
  replace n8 : ∀ p ∈ C', p.1 ≠ L + 1 := n8
  show wpAny (model _ _) (Around.deeper _ (envOfC _ (Scope.mk _ _ _ _ _) _ _ _)) (execs [_, _, _, _] (envOfC _ (Scope.mk _ _ _ _ _) _ _ _)) _ _ _
  try dsimp only
  try k_fold
  kwd_rel
  refine cells_spec (X.keeps F.keep) (TopRead.keeps T F.keep) hh (by simp only [depth_deeper]; omega) (F.lst hw) hws hn ?_
  intro h2 tk2 r cv n cs k2 f2 e2 hcv hcl hcb
  have fresh2 := Fresh.of_one f2 e2
  have fr0 := a_.fresh_far fresh2 _ (.head _)
  have nr1 : @Ne Nat r (L + 1) := fr0.ne (i := 0) (by decide)
  have F2 := fr_up F k2
  have N2 := news_add F N k2 fresh2
  dsimp only [List.cons_append, List.nil_append] at N2
  clear F N fresh2 a_
  obtain ⟨c0, c1, c2, c3, c4, c5, rfl⟩ := six_of hcl
  obtain ⟨n0, rfl, b0⟩ := nat_int (hcb c0 (by simp))
  obtain ⟨n1, rfl, b1⟩ := nat_int (hcb c1 (by simp))
  obtain ⟨n2, rfl, b2⟩ := nat_int (hcb c2 (by simp))
  obtain ⟨n3, rfl, b3⟩ := nat_int (hcb c3 (by simp))
  obtain ⟨n4, rfl, b4⟩ := nat_int (hcb c4 (by simp))
  obtain ⟨n5, rfl, b5⟩ := nat_int (hcb c5 (by simp))
  clear hcb
  obtain ⟨t0, v0, rfl, hcv0⟩ : ∃ t v, cv = .int (n0 : Int) t :: v ∧ IntsAre v [(n1 : Int), (n2 : Int), (n3 : Int), (n4 : Int), (n5 : Int)] := by
    cases hcv with | cons _ t h => exact ⟨t, _, rfl, h⟩
  kwd_rel
  unfold Hold
  have e1 : ([(n0 : Int), n1, n2, n3, n4, n5].getD (Int.toNat 0) 0).fmod 5 = ((n0 % 5 : Nat) : Int) := fm n0 5
  have e2 : ([(n0 : Int), n1, n2, n3, n4, n5].getD (Int.toNat 0) 0).fdiv 30 = ((n0 / 30 : Nat) : Int) := fd n0 30
  have e4 : (((n0 / 30 : Nat) : Int)).fmod 3 = ((n0 / 30 % 3 : Nat) : Int) := fm (n0 / 30) 3
  have e5 : ([(n0 : Int), n1, n2, n3, n4, n5].getD (Int.toNat 0) 0).fdiv 5 = ((n0 / 5 : Nat) : Int) := fd n0 5
  have e6 : (((n0 / 5 : Nat) : Int)).fmod 6 = ((n0 / 5 % 6 : Nat) : Int) := fm (n0 / 5) 6
  rw [e2, e4]
  clear hws hw hcl
  dsimp only at *
  rcases mod3 (n0 / 30) with ⟨e7, e3⟩ | ⟨e7, e3⟩ | ⟨e7, e3⟩
  all_goals (
    rw [e7]
    rename Fr _ _ _ _ => F9
    rename News _ _ _ _ => N9
    refine item_listR (x := Value.str (signsOf n0) _) (News.isList N9 (.head _)) (by decide) (by decide) (by first | (rw [signs0 e3]; exact rfl) | (rw [signs1 e3]; exact rfl) | (rw [signs2 e3]; exact rfl)) ?_
    kwd_rel
    rename Fr _ _ _ _ => F9
    rename News _ _ _ _ => N9
    rename _ = Data.cell (some _) => d9
    rename _ ∧ _ ∧ AllLt _ _ => l9
    have fl := c.over low k8 (allLt_mem l9.2.2) l9.2.1
    rw [e1] at F9
    exact k _ _ r _ n n0 n1 n2 n3 n4 n5 _ _ _ [_, _] (LawAt.ofAll F9 (fun y => lk4 y _ _ _ _ _ _ _ _) N9 (fun p hp => List.mem_append_right [_, _] hp) (fun p hp => List.mem_append_left _ hp) (p8 _ _ (d9.trans (by rw [e5, e6]; rfl))) (List.forall_mem_cons.mpr ⟨fl, List.forall_mem_cons.mpr ⟨fr0, List.forall_mem_nil _⟩⟩) low) (.tail _ (.head _)) hcv b0 b1 b2 b3 b4 b5)
end XL1
section XL3
local macro_rules | `(tactic| walk_at "binaryOp Add str str") => `(tactic| (rename StopAt => st; refine Hold.out ?_))
noncomputable def wordOf (c : String) (n : Nat) : Str × Str := (bnk n, Txt.mul (Str.ofString c) (szn n) ++ Str.ofString ";")
noncomputable def wordsOf (n1 n2 n3 n4 n5 : Nat) : List (Str × Str) := [wordOf "a" n1, wordOf "B" n2, wordOf "c" n3, wordOf "D" n4, wordOf "e" n5]
theorem szn_le (n : Nat) : 1 ≤ szn n ∧ szn n ≤ 3 := by unfold szn; omega
noncomputable def wordAt (n1 n2 n3 n4 n5 i : Nat) : Str × Str := ([bnk n1, bnk n2, bnk n3, bnk n4, bnk n5].getD i Str.empty, Txt.mul (Txt.item (Str.ofString "aBcDe") (i : Int)) ([szn n1, szn n2, szn n3, szn n4, szn n5].getD i 0) ++ Str.ofString ";")
theorem words_at (n1 n2 n3 n4 n5 : Nat) : (List.range 5).map (wordAt n1 n2 n3 n4 n5) = wordsOf n1 n2 n3 n4 n5 := by
  have e0 : Txt.item (Str.ofString "aBcDe") ((0 : Nat) : Int) = Str.ofString "a" := by decide +kernel
  have e1 : Txt.item (Str.ofString "aBcDe") ((1 : Nat) : Int) = Str.ofString "B" := by decide +kernel
  have e2 : Txt.item (Str.ofString "aBcDe") ((2 : Nat) : Int) = Str.ofString "c" := by decide +kernel
  have e3 : Txt.item (Str.ofString "aBcDe") ((3 : Nat) : Int) = Str.ofString "D" := by decide +kernel
  have e4 : Txt.item (Str.ofString "aBcDe") ((4 : Nat) : Int) = Str.ofString "e" := by decide +kernel
  have r : List.range 5 = [0, 1, 2, 3, 4] := by decide
  rw [r]
  simp only [List.map_cons, List.map_nil, wordAt, e0, e1, e2, e3, e4]
  rfl
theorem mul_len3 {x : Str} {z : Int} (h : x.length = 1) (h0 : 1 ≤ z) (h1 : z ≤ 3) : (Txt.mul x z).length ≤ 3 := by
  have e := len_mul x z
  rw [if_neg (fun c => absurd (of_decide_eq_true c) (by omega)), h] at e
  omega
theorem getD_bounds {l : List Int} {i : Nat} (h : ∀ z ∈ l, 1 ≤ z ∧ z ≤ 3) (hi : i < l.length) : 1 ≤ l.getD i 0 ∧ l.getD i 0 ≤ 3 := by
  rw [List.getD_eq_getElem?_getD, List.getElem?_eq_getElem hi]
  exact h _ (List.getElem_mem hi)
set_option maxHeartbeats 600000 in
theorem stage3 {w : World} {A : Around} {E : Value → Shared → Prop} {s : Shared} {mg mb : Str → Option Value} {g h : Heap} {L bl sl : Addr} {bv zv : List Value} {m1 m2 n1 n2 n3 n4 n5 : Nat} {ps qs : Array Value} {rest : List (Addr × Obj)} {Q : Flow → Shared → Prop} {tk : Nat} {v1 v2 v3 v4 v5 : Value}
   (X : (fr.heap_1 w.params).In g) (T : TT mg mb g) (hh : A.handled = none) (hdp : A.depth < 800)
   (a : LawAt g h L ps qs [(Str.ofString "signs", v1), (Str.ofString "room", v2), (Str.ofString "cells", v5), (Str.ofString "script", v3)] [(Str.ofString "sizes", .ref sl), (Str.ofString "blanks", .ref bl), (Str.ofString "width", v4)] rest)
   (hb : (bl, ({ cls := .type "list", data := .seq (List.toArray bv) m1 } : Obj)) ∈ rest) (hbv : StrsAre bv [bnk n1, bnk n2, bnk n3, bnk n4, bnk n5]) (hs : (sl, ({ cls := .type "list", data := .seq (List.toArray zv) m2 } : Obj)) ∈ rest) (hzv : IntsAre zv [szn n1, szn n2, szn n3, szn n4, szn n5])
   (k : ∀ h' tk' wl wv m3 new, LawAt g h' L ps qs [(Str.ofString "words", .ref wl), (Str.ofString "signs", v1), (Str.ofString "room", v2), (Str.ofString "cells", v5), (Str.ofString "script", v3)] [(Str.ofString "sizes", .ref sl), (Str.ofString "blanks", .ref bl), (Str.ofString "width", v4)] (new ++ rest) →
     (wl, ({ cls := .type "list", data := .seq (List.toArray wv) m3 } : Obj)) ∈ new → CksIn new wv (wordsOf n1 n2 n3 n4 n5) → Q .next { s with heap := h', toks := tk' }) :
   wpAny (model (Challenge.rw_rs0167_01.row.prog) w) (A.deeper (lawEnv L)) (execs ((lawBody.drop 6).take 1) (lawEnv L)) Q E { s with heap := h, toks := tk } := by
  revert X; k_fill; intro X
  obtain ⟨F, ⟨C₀, N, c⟩, far, low⟩ := a
  obtain ⟨o7, m7, d7⟩ := c.cell 1 (by decide)
  obtain ⟨o6, m6, d6⟩ := c.cell 2 (by decide)
  obtain ⟨o9, m9, _⟩ := c.cell 8 (by decide)
  replace d7 : o7.data = .cell (some (.ref bl)) := d7
  replace d6 : o6.data = .cell (some (.ref sl)) := d6
  replace N : News g L h ((bl, ({ cls := .type "list", data := .seq (List.toArray bv) m1 } : Obj)) :: (sl, ({ cls := .type "list", data := .seq (List.toArray zv) m2 } : Obj)) :: (L + 2, o7) :: (L + 3, o6) :: (C₀ ++ rest)) :=
    News.cons (N _ (List.mem_append_right _ hb)) (News.cons (N _ (List.mem_append_right _ hs)) (News.cons (N _ (List.mem_append_left _ m7)) (News.cons (N _ (List.mem_append_left _ m6)) N)))
  show wpAny (model _ _) (Around.deeper _ (envOfC _ (Scope.mk _ _ _ _ _) _ _ _)) (execs [_] (envOfC _ (Scope.mk _ _ _ _ _) _ _ _)) _ _ _
  try dsimp only
  try k_fold
  kwd_rel
  all_goals dsimp only at *
  have c1 := szn_le n1
  have c2 := szn_le n2
  have c3 := szn_le n3
  have c4 := szn_le n4
  have c5 := szn_le n5
  rename IsRange _ _ _ _ _ _ _ _ => hR
  rename Fr _ _ _ _ => F1
  rename News _ _ _ _ => N1
  refine LCg.CompSrc.range (by exact hh) F1 N1 hR (by rfl) (n := 5) (by rfl) (by decide) ?_
  intro g1
  refine comp_rest (fun i ys nw => ∃ rn, nw = (bl, _) :: (sl, _) :: (L + 2, _) :: (L + 3, _) :: (C₀ ++ (rn ++ rest)) ∧ CksIn rn ys ((wordsOf n1 n2 n3 n4 n5).take i) ∧ ∀ p ∈ rn, Far L p.1) ⟨[], rfl, .nil, List.forall_mem_nil _⟩ ?_ ?_
  · rintro i v I oI C oC D m₂ ys nw h5 tk5 E' hi ⟨t, rfl⟩ ⟨rn, rfl, hck, hfar⟩ hC hx F5 N5 off ne
    clear F1 N1
    rw [Int.zero_add] at hx
    have hz := getD_bounds (l := [szn n1, szn n2, szn n3, szn n4, szn n5]) (i := ((i : Nat) : Int).toNat) (by
      intro z hz
      simp only [List.mem_cons, List.not_mem_nil, or_false] at hz
      rcases hz with rfl | rfl | rfl | rfl | rfl <;> assumption) (by simp; omega)
    have st : StopAt := trivial
    kwd_rel
    rename StopAt => st
    clear st
    unfold Hold
    rename Str.length _ = 1 => eL
    have hl := mul_len3 eL hz.1 hz.2
    kwd_rel
    rename Fr _ _ _ _ => F9
    rename News _ _ _ _ => N9
    rename _ ∧ _ => l9
    rename_i D9 _
    have hl9 := l9
    have hw : (wordsOf n1 n2 n3 n4 n5)[i]? = some (wordAt n1 n2 n3 n4 n5 i) := by
      rw [← words_at, List.getElem?_map, List.getElem?_range hi]; rfl
    have fD := far_big low (allLt_mem l9.2.2.2.2.2.2.2 _ (List.mem_append_left _ m9))
    refine compEnd_add (ad := [_]) (B := _ :: _ :: _ :: _ :: C₀) F9 N9 off (List.forall_mem_cons.mpr ⟨⟨Nat.ne_of_gt l9.1, Nat.ne_of_gt l9.2.1, Nat.ne_of_gt l9.2.2.1⟩, List.forall_mem_nil _⟩) trivial ⟨(D9, _) :: rn, rfl, ?_, List.forall_mem_cons.mpr ⟨fD, hfar⟩⟩
    · rw [List.take_succ, hw]
      exact (hck.mono fun p hp => .tail _ hp).append (.cons (.head _) .nil)
  · rintro ys nw ⟨rn, rfl, hck, hfar⟩
    intro D h5 tk5 F5 N5 o5
    clear F1 N1
    rw [show (wordsOf n1 n2 n3 n4 n5).take 5 = wordsOf n1 n2 n3 n4 n5 from rfl] at hck
    have fD : Far L D := c.apart fun p hp => off1_mem o5 p (List.mem_append_right [_, _, _, _] (List.mem_append_left _ hp))
    clear o5
    kwd_rel
    rename Fr _ _ _ _ => F9
    rename News _ _ _ _ => N9
    exact k _ _ D ys _ _ (LawAt.of3 (P := [_]) (P2 := [_, _, _, _]) (rn := rn) (rest := rest) F9 (fun y => (lk_cons y _ _ _).symm) N9 c (List.forall_mem_cons.mpr ⟨fD, List.forall_mem_nil _⟩) hfar far low) (.head _) (hck.mono fun p hp => .tail _ hp)
end XL3
noncomputable def nameL (rm : Nat) : List Str := if rm = 0 then [] else [Txt.mul (Str.ofString "-") (rm : Int)]
set_option maxHeartbeats 1000000 in
theorem stage4 {w : World} {A : Around} {E : Value → Shared → Prop} {s : Shared} {mg mb : Str → Option Value} {g h : Heap} {L : Addr} {rm : Nat} {tr : Tok} {ps qs : Array Value} {cm : List (Str × Value)} {rest : List (Addr × Obj)} {Q : Flow → Shared → Prop} {tk : Nat} {v1 v3 v4 v5 : Value}
   (X : (fr.heap_1 w.params).In g) (T : TT mg mb g) (hh : A.handled = none) (hdp : A.depth < 800) (hrm : rm ≤ 4)
   (a : LawAt g h L ps qs [(Str.ofString "words", v4), (Str.ofString "signs", v1), (Str.ofString "room", .int (rm : Int) tr), (Str.ofString "cells", v5), (Str.ofString "script", v3)] cm rest)
   (k : ∀ h' tk' nl nv m3 new, LawAt g h' L ps qs [(Str.ofString "name", .ref nl), (Str.ofString "words", v4), (Str.ofString "signs", v1), (Str.ofString "room", .int (rm : Int) tr), (Str.ofString "cells", v5), (Str.ofString "script", v3)] cm (new ++ rest) →
     (nl, ({ cls := .type "list", data := .seq (List.toArray nv) m3 } : Obj)) ∈ new → StrsAre nv (nameL rm) → Q .next { s with heap := h', toks := tk' }) :
   wpAny (model (Challenge.rw_rs0167_01.row.prog) w) (A.deeper (lawEnv L)) (execs ((lawBody.drop 7).take 1) (lawEnv L)) Q E { s with heap := h, toks := tk } := by
  revert X; k_fill; intro X
  obtain ⟨F, ⟨C₀, N, c⟩, far, low⟩ := a
  obtain ⟨o9, m9, _⟩ := c.cell 8 (by decide)
  have m9 : _ ∈ C₀ ++ rest := List.mem_append_left _ m9
  show wpAny (model _ _) (Around.deeper _ (envOfC _ (Scope.mk _ _ _ _ _) _ _ _)) (execs [_] (envOfC _ (Scope.mk _ _ _ _ _) _ _ _)) _ _ _
  try dsimp only
  try k_fold
  kwd_rel
  · dsimp only at *
    rename Fr _ _ _ _ => F9
    rename News _ _ _ _ => N9
    rename ∀ (p : Addr × Obj), p ∈ C₀ ++ rest → p.fst < _ => l9
    have e : nameL rm = [Txt.mul (Str.ofString "-") (rm : Int)] := if_neg (by omega)
    rw [e] at k
    exact k _ _ _ [_] _ _ (LawAt.of (new := [_]) (rest := rest) F9 (fun y => (lk_cons y _ _ _).symm) N9 c (List.forall_mem_cons.mpr ⟨far_big low (l9 _ m9), List.forall_mem_nil _⟩) far low) (.head _) (.cons _ _ .nil)
  · dsimp only at *
    rename Fr _ _ _ _ => F9
    rename News _ _ _ _ => N9
    rename ∀ (p : Addr × Obj), p ∈ C₀ ++ rest → p.fst < _ => l9
    have e : nameL rm = [] := if_pos (by omega)
    rw [e] at k
    exact k _ _ _ [] _ _ (LawAt.of (new := [_]) (rest := rest) F9 (fun y => (lk_cons y _ _ _).symm) N9 c (List.forall_mem_cons.mpr ⟨far_big low (l9 _ m9), List.forall_mem_nil _⟩) far low) (.head _) .nil
end Slm
end Salc
section Slm
local macro_rules | `(tactic| k_all) => `(tactic| first | exact List.forall_mem_nil _ | (refine' List.forall_mem_cons.mpr ⟨?_, ?_⟩; rotate_right 2; k_ne; k_all))
theorem size_up (n : Nat) : Builtin.Range.rangeSize 0 (n : Int) 1 = ((n : Nat) : Int) := by
  unfold Builtin.Range.rangeSize
  split <;> (try split) <;> (try simp) <;> omega
theorem small_up (n : Nat) (h : n ≤ 2000) : Builtin.Range.small 0 (n : Int) 1 = true := PySem.small_one (by decide) (by decide) (by omega) (by omega)
noncomputable def windowsF (J : Str) (wd : Nat) : List Str := (List.range (J.length - wd + 1)).map fun i : Nat => Txt.slice J (some (i : Int)) (some ((i : Int) + (wd : Int)))
set_option maxHeartbeats 1000000 in
theorem stage7 {w : World} {A : Around} {E : Value → Shared → Prop} {s : Shared} {mg mb : Str → Option Value} {g h : Heap} {L tl : Addr} {tv : List Value} {ts : List Str} {m1 wd : Nat} {tw : Tok} {ps qs : Array Value} {rest : List (Addr × Obj)} {Q : Flow → Shared → Prop} {tk : Nat} {v1 v2 v3 v4 v5 v6 v7 v8 v9 : Value}
   (X : (fr.heap_1 w.params).In g) (T : TT mg mb g) (hh : A.handled = none) (hdp : A.depth < 800)
   (a : LawAt g h L ps qs [(Str.ofString "things", .ref tl), (Str.ofString "name", v6), (Str.ofString "words", v7), (Str.ofString "signs", v1), (Str.ofString "room", v2), (Str.ofString "cells", v5), (Str.ofString "script", v3)] [(Str.ofString "marks", v4), (Str.ofString "sizes", v8), (Str.ofString "blanks", v9), (Str.ofString "width", .int (wd : Int) tw)] rest)
   (ht : (tl, ({ cls := .type "list", data := .seq (List.toArray tv) m1 } : Obj)) ∈ rest) (htv : StrsAre tv ts) (hwt : wt ts ≤ 100) (hwd : wd ≤ 11) (hlen : wd ≤ (Str.join (Str.ofString "") ts).length)
   (k : ∀ h' tk' hl hv t1 m4 new, LawAt g h' L ps qs [(Str.ofString "things", .ref tl), (Str.ofString "name", v6), (Str.ofString "words", v7), (Str.ofString "signs", v1), (Str.ofString "room", v2), (Str.ofString "cells", v5), (Str.ofString "script", v3)] [(Str.ofString "shown", .ref hl), (Str.ofString "strip", .str (Str.join (Str.ofString "") ts) t1), (Str.ofString "marks", v4), (Str.ofString "sizes", v8), (Str.ofString "blanks", v9), (Str.ofString "width", .int (wd : Int) tw)] (new ++ rest) →
     (hl, ({ cls := .type "list", data := .seq (List.toArray hv) m4 } : Obj)) ∈ new → StrsAre hv (windowsF (Str.join (Str.ofString "") ts) wd) → Q .next { s with heap := h', toks := tk' }) :
   wpAny (model (Challenge.rw_rs0167_01.row.prog) w) (A.deeper (lawEnv L)) (execs ((lawBody.drop 10).take 2) (lawEnv L)) Q E { s with heap := h, toks := tk } := by
  revert X; k_fill; intro X
  obtain ⟨F, ⟨C₀, N, c⟩, far, low⟩ := a
  obtain ⟨o3, o2, C', m3, d3, m2, d2, sC, ne3, ne2, kC, pC⟩ := c.take2 low 5 6 (by decide) (by decide) (y := Str.ofString "strip") (z := Str.ofString "shown") rfl rfl (by decide)
  obtain ⟨o8, m8, d8⟩ := c.cell 0 (by decide)
  replace d3 : o3.data = .cell none := d3
  replace d2 : o2.data = .cell none := d2
  replace d8 : o8.data = .cell (some (.int (wd : Int) tw)) := d8
  replace N : News g L h ((tl, ({ cls := .type "list", data := .seq (List.toArray tv) m1 } : Obj)) :: (L + 1, o8) :: (L + 7, o2) :: (L + 6, o3) :: (C' ++ rest)) :=
    News.cons (N _ (List.mem_append_right _ ht)) (News.cons (N _ (List.mem_append_left _ m8)) (News.cons (N _ (List.mem_append_left _ m2)) (News.cons (N _ (List.mem_append_left _ m3)) (News.tail N sC))))
  have a3 : ∀ p ∈ C' ++ rest, p.1 ≠ L + 6 := tail_ne (L := L) (i := 5) ne3 far (by decide)
  have a2 : ∀ p ∈ C' ++ rest, p.1 ≠ L + 7 := tail_ne (L := L) (i := 6) ne2 far (by decide)
  have e1 : @Ne Nat tl (L + 6) := (far _ ht).ne (i := 5) (by decide)
  have e2 : @Ne Nat tl (L + 7) := (far _ ht).ne (i := 6) (by decide)
  have hjl := len_join_wt ts
  show wpAny (model _ _) (Around.deeper _ (envOfC _ (Scope.mk _ _ _ _ _) _ _ _)) (execs [_, _] (envOfC _ (Scope.mk _ _ _ _ _) _ _ _)) _ _ _
  try dsimp only
  try k_fold
  kwd_rel
  refine joinL (News.isList N (.head _)) htv (by decide) (by omega) ?_
  intro t9 k9
  kwd_rel
  all_goals (try dsimp only at *)
  rename _ = Data.cell (some (Value.str _ _)) => dT
  rename IsRange _ _ _ _ _ _ _ _ => hR
  rename Fr _ _ _ _ => F1
  rename News _ _ _ _ => N1
  have en : (((Str.ofString "").join ts).length : Int) - (wd : Int) + 1 = ((((Str.ofString "").join ts).length - wd + 1 : Nat) : Int) := by omega
  rw [en] at hR
  have hJ : ((Str.ofString "").join ts).length ≤ 100 := by omega
  refine LCg.CompSrc.range (by exact hh) F1 N1 hR (small_up _ (by omega)) (size_up _) (Nat.le_trans (by omega : _ ≤ 101) (by decide)) ?_
  intro g1
  refine comp_rest (fun i ys nw => nw = _ ∧ StrsAre ys ((windowsF (Str.join (Str.ofString "") ts) wd).take i)) ⟨rfl, .nil⟩ ?_ ?_
  · rintro i v I oI C oC D m₂ ys nw h5 tk5 E' hi ⟨t, rfl⟩ ⟨rfl, hck⟩ hC hx F5 N5 off ne
    clear F1 N1
    rw [Int.zero_add] at hx
    kwd_rel
    all_goals dsimp only at *
    rename Fr _ _ _ _ => F9
    rename News _ _ _ _ => N9
    refine compEnd_keep F9 N9 off trivial ⟨rfl, ?_⟩
    have hw : (windowsF ((Str.ofString "").join ts) wd)[i]? = some (Txt.slice ((Str.ofString "").join ts) (some (i : Int)) (some ((i : Int) + (wd : Int)))) := by
      rw [windowsF, List.getElem?_map, List.getElem?_range hi]; rfl
    rw [List.take_succ, hw]
    exact hck.append' (.cons _ _ .nil)
  · rintro ys nw ⟨rfl, hck⟩
    intro D h5 tk5 F5 N5 o5
    clear F1 N1
    have q5 := off1_mem o5
    have fD : Far L D := c.apart2 kC (q5 _ (.tail _ (.tail _ (.tail _ (.head _))))) (q5 _ (.tail _ (.tail _ (.head _)))) fun p hp => q5 p (List.mem_append_right [_, _, _, _] (List.mem_append_left _ hp))
    have e6 : @Ne Nat D (L + 7) := fD.ne (i := 6) (by decide)
    clear o5 q5
    rw [show (((Str.ofString "").join ts).length - wd + 1) = (windowsF ((Str.ofString "").join ts) wd).length by rw [windowsF, List.length_map, List.length_range], List.take_length] at hck
    kwd_rel
    rename _ = Data.cell (some (Value.ref D)) => dM
    rename Fr _ _ _ _ => F9
    rename News _ _ _ _ => N9
    exact k _ _ D ys t9 _ _ (LawAt.of3 (P := [_]) (P2 := [_, _]) (rn := []) (rest := rest) F9 (fun _ => rfl) N9 (pC _ _ _ _ dT dM) (List.forall_mem_cons.mpr ⟨fD, List.forall_mem_nil _⟩) (List.forall_mem_nil _) far low) (.head _) hck
section XL6
local macro_rules | `(tactic| walk_at "binaryOp Add str str") => `(tactic| (rename StopAt => st; refine Hold.out ?_))
local macro_rules | `(tactic| walk_at "binaryOp Add ref ref") => `(tactic| refine Hold.out ?_)
noncomputable def markOf (c : String) (n : Nat) : Str := bnk n ++ Txt.mul (Str.ofString c) (szn n) ++ Str.ofString ";"
noncomputable def marksOf (n1 n2 n3 n4 n5 : Nat) : List Str := [markOf "A" n1, markOf "b" n2, markOf "C" n3, markOf "d" n4, markOf "E" n5]
noncomputable def markAt (n1 n2 n3 n4 n5 i : Nat) : Str := [bnk n1, bnk n2, bnk n3, bnk n4, bnk n5].getD i Str.empty ++ Txt.mul (Txt.item (Str.ofString "AbCdE") (i : Int)) ([szn n1, szn n2, szn n3, szn n4, szn n5].getD i 0) ++ Str.ofString ";"
theorem marks_at (n1 n2 n3 n4 n5 : Nat) : (List.range 5).map (markAt n1 n2 n3 n4 n5) = marksOf n1 n2 n3 n4 n5 := by
  have e0 : Txt.item (Str.ofString "AbCdE") ((0 : Nat) : Int) = Str.ofString "A" := by decide +kernel
  have e1 : Txt.item (Str.ofString "AbCdE") ((1 : Nat) : Int) = Str.ofString "b" := by decide +kernel
  have e2 : Txt.item (Str.ofString "AbCdE") ((2 : Nat) : Int) = Str.ofString "C" := by decide +kernel
  have e3 : Txt.item (Str.ofString "AbCdE") ((3 : Nat) : Int) = Str.ofString "d" := by decide +kernel
  have e4 : Txt.item (Str.ofString "AbCdE") ((4 : Nat) : Int) = Str.ofString "E" := by decide +kernel
  have r : List.range 5 = [0, 1, 2, 3, 4] := by decide
  rw [r]
  simp only [List.map_cons, List.map_nil, markAt, e0, e1, e2, e3, e4]
  rfl
theorem bnk_len (n : Nat) : (bnk n).length ≤ 2 := by
  have e := len_mul (Str.ofString " ") ((1 + n % 2 : Nat) : Int)
  rw [if_neg (fun c => absurd (of_decide_eq_true c) (by omega)), len_blank] at e
  unfold bnk
  omega
theorem getD_blank {l : List Str} {i : Nat} (h : ∀ z ∈ l, z.length ≤ 2) : (l.getD i Str.empty).length ≤ 2 := by
  rw [List.getD_eq_getElem?_getD]
  cases e : l[i]? with
  | none => show Str.empty.length ≤ 2; decide
  | some z => exact h z (List.mem_of_getElem? e)
set_option maxHeartbeats 1000000 in
theorem stage6 {w : World} {A : Around} {E : Value → Shared → Prop} {s : Shared} {mg mb : Str → Option Value} {g h : Heap} {L bl sl nl : Addr} {bv zv nv : List Value} {ns : List Str} {m1 m2 m3 n1 n2 n3 n4 n5 : Nat} {ps qs : Array Value} {rest : List (Addr × Obj)} {Q : Flow → Shared → Prop} {tk : Nat} {v1 v2 v3 v4 v5 v6 v7 : Value}
   (X : (fr.heap_1 w.params).In g) (T : TT mg mb g) (hh : A.handled = none) (hdp : A.depth < 800)
   (a : LawAt g h L ps qs [(Str.ofString "things", v6), (Str.ofString "name", .ref nl), (Str.ofString "words", v7), (Str.ofString "signs", v1), (Str.ofString "room", v2), (Str.ofString "cells", v5), (Str.ofString "script", v3)] [(Str.ofString "sizes", .ref sl), (Str.ofString "blanks", .ref bl), (Str.ofString "width", v4)] rest)
   (hb : (bl, ({ cls := .type "list", data := .seq (List.toArray bv) m1 } : Obj)) ∈ rest) (hbv : StrsAre bv [bnk n1, bnk n2, bnk n3, bnk n4, bnk n5]) (hs : (sl, ({ cls := .type "list", data := .seq (List.toArray zv) m2 } : Obj)) ∈ rest) (hzv : IntsAre zv [szn n1, szn n2, szn n3, szn n4, szn n5])
   (hn : (nl, ({ cls := .type "list", data := .seq (List.toArray nv) m3 } : Obj)) ∈ rest) (hnv : StrsAre nv ns) (hnl : ns.length ≤ 10)
   (k : ∀ h' tk' ml mv m4 new, LawAt g h' L ps qs [(Str.ofString "things", v6), (Str.ofString "name", .ref nl), (Str.ofString "words", v7), (Str.ofString "signs", v1), (Str.ofString "room", v2), (Str.ofString "cells", v5), (Str.ofString "script", v3)] [(Str.ofString "marks", .ref ml), (Str.ofString "sizes", .ref sl), (Str.ofString "blanks", .ref bl), (Str.ofString "width", v4)] (new ++ rest) →
     (ml, ({ cls := .type "list", data := .seq (List.toArray mv) m4 } : Obj)) ∈ new → StrsAre mv (ns ++ marksOf n1 n2 n3 n4 n5) → Q .next { s with heap := h', toks := tk' }) :
   wpAny (model (Challenge.rw_rs0167_01.row.prog) w) (A.deeper (lawEnv L)) (execs ((lawBody.drop 9).take 1) (lawEnv L)) Q E { s with heap := h, toks := tk } := by
  revert X; k_fill; intro X
  obtain ⟨F, ⟨C₀, N, c⟩, far, low⟩ := a
  obtain ⟨o4, C', m4, d4, s4, ne4, k4, p4⟩ := c.take low 4 (by decide) (y := Str.ofString "marks") rfl
  obtain ⟨o7, m7, d7⟩ := c.cell 1 (by decide)
  obtain ⟨o6, m6, d6⟩ := c.cell 2 (by decide)
  replace d4 : o4.data = .cell none := d4
  replace d7 : o7.data = .cell (some (.ref bl)) := d7
  replace d6 : o6.data = .cell (some (.ref sl)) := d6
  replace N : News g L h ((nl, ({ cls := .type "list", data := .seq (List.toArray nv) m3 } : Obj)) :: (bl, ({ cls := .type "list", data := .seq (List.toArray bv) m1 } : Obj)) :: (sl, ({ cls := .type "list", data := .seq (List.toArray zv) m2 } : Obj)) :: (L + 2, o7) :: (L + 3, o6) :: (L + 5, o4) :: (C' ++ rest)) :=
    News.cons (N _ (List.mem_append_right _ hn)) (News.cons (N _ (List.mem_append_right _ hb)) (News.cons (N _ (List.mem_append_right _ hs)) (News.cons (N _ (List.mem_append_left _ m7)) (News.cons (N _ (List.mem_append_left _ m6)) (News.cons (N _ (List.mem_append_left _ m4)) (News.tail N s4))))))
  have a4 : ∀ p ∈ C' ++ rest, p.1 ≠ L + 5 := tail_ne (L := L) (i := 4) ne4 far (by decide)
  have e1 : @Ne Nat bl (L + 5) := (far _ hb).ne (i := 4) (by decide)
  have e2 : @Ne Nat sl (L + 5) := (far _ hs).ne (i := 4) (by decide)
  have e3 : @Ne Nat nl (L + 5) := (far _ hn).ne (i := 4) (by decide)
  show wpAny (model _ _) (Around.deeper _ (envOfC _ (Scope.mk _ _ _ _ _) _ _ _)) (execs [_] (envOfC _ (Scope.mk _ _ _ _ _) _ _ _)) _ _ _
  try dsimp only
  try k_fold
  kwd_rel
  all_goals dsimp only at *
  have c1 := szn_le n1
  have c2 := szn_le n2
  have c3 := szn_le n3
  have c4 := szn_le n4
  have c5 := szn_le n5
  rename IsRange _ _ _ _ _ _ _ _ => hR
  rename Fr _ _ _ _ => F1
  rename News _ _ _ _ => N1
  refine LCg.CompSrc.range (by exact hh) F1 N1 hR (by rfl) (n := 5) (by rfl) (by decide) ?_
  intro g1
  refine comp_rest (fun i ys nw => nw = _ ∧ StrsAre ys ((marksOf n1 n2 n3 n4 n5).take i)) ⟨rfl, .nil⟩ ?_ ?_
  · rintro i v I oI C oC D m₂ ys nw h5 tk5 E' hi ⟨t, rfl⟩ ⟨rfl, hck⟩ hC hx F5 N5 off ne
    clear F1 N1
    rw [Int.zero_add] at hx
    have hz := getD_bounds (l := [szn n1, szn n2, szn n3, szn n4, szn n5]) (i := ((i : Nat) : Int).toNat) (by
      intro z hz
      simp only [List.mem_cons, List.not_mem_nil, or_false] at hz
      rcases hz with rfl | rfl | rfl | rfl | rfl <;> assumption) (by simp; omega)
    have hbl := getD_blank (l := [bnk n1, bnk n2, bnk n3, bnk n4, bnk n5]) (i := ((i : Nat) : Int).toNat) (by
      intro z hz
      simp only [List.mem_cons, List.not_mem_nil, or_false] at hz
      rcases hz with rfl | rfl | rfl | rfl | rfl <;> exact bnk_len _)
    have st : StopAt := trivial
    kwd_rel
    rename StopAt => st
    clear st
    unfold Hold
    rename Str.length _ = 1 => eL
    have hl := mul_len3 eL hz.1 hz.2
    kwd_rel
    all_goals dsimp only at *
    refine compEnd_keep F5 N5 off trivial ⟨rfl, ?_⟩
    have hw : (marksOf n1 n2 n3 n4 n5)[i]? = some (markAt n1 n2 n3 n4 n5 i) := by
      rw [← marks_at, List.getElem?_map, List.getElem?_range hi]; rfl
    rw [List.take_succ, hw]
    exact hck.append' (.cons _ _ .nil)
  · rintro ys nw ⟨rfl, hck⟩
    intro D h5 tk5 F5 N5 o5
    clear F1 N1
    rw [show (marksOf n1 n2 n3 n4 n5).take 5 = marksOf n1 n2 n3 n4 n5 from rfl] at hck
    have q5 := off1_mem o5
    have fD : Far L D := c.apart1 k4 (q5 _ (.tail _ (.tail _ (.tail _ (.tail _ (.tail _ (.head _))))))) fun p hp => q5 p (List.mem_append_right [_, _, _, _, _, _] (List.mem_append_left _ hp))
    have e5 : @Ne Nat D (L + 5) := fD.ne (i := 4) (by decide)
    clear o5 q5
    kwd_rel
    have hyl : ys.length = 5 := hck.length
    have hnl' : nv.length ≤ 10 := by rw [hnv.length]; exact hnl
    refine kmk_add_lit (zs := nv ++ ys) F5 N5 (News.isList N5 (.tail _ (.head _))) (News.isList N5 (.head _)) (by rfl) ?_ (by show nv.length + ys.length ≤ sizeLine; exact Nat.le_trans (by omega : _ ≤ 20) (by decide))
    intro D2 h6 F6 N6 l6
    have q0 : Far L D2 := c.over low k4 (fun p hp => l6 p (List.mem_append_right [_, _, _, _, _, _, _] (List.mem_append_left _ hp))) (l6 _ (.tail _ (.tail _ (.tail _ (.tail _ (.tail _ (.tail _ (.head _))))))))
    have e6 : @Ne Nat D2 (L + 5) := q0.ne (i := 4) (by decide)
    clear F5 N5 l6
    kwd_rel
    rename _ = Data.cell (some (Value.ref D2)) => dM
    rename Fr _ _ _ _ => F9
    rename News _ _ _ _ => N9
    exact k _ _ D2 (nv ++ ys) _ _ (LawAt.of3 (P := [_]) (P2 := [_, _, _, _, _, _]) (rn := []) (rest := rest) F9 (fun _ => rfl) N9 (p4 _ _ dM) (List.forall_mem_cons.mpr ⟨q0, List.forall_mem_nil _⟩) (List.forall_mem_nil _) far low) (.head _) (hnv.append' hck)
end XL6
section XL8
local macro_rules | `(tactic| walk_at "call ref") => `(tactic| refine Hold.out ?_)
noncomputable def recsOf (ms ws : List Str) (J : Str) : List Rec := (List.range ms.length).map fun i : Nat => (recUs i (ms.getD i Str.empty) J ws, [(i : Int)])
theorem recs_snoc {w : World} {rn rn' : List (Addr × Obj)} {ys : List Value} {es : List Rec} {r : Addr} {us : List Str} {is : List Int} (a : Ck rn fun h => RecsAt w h ys es) (b : Ck rn' fun h => EntryAt w h r us is) : Ck (rn' ++ rn) fun h => RecsAt w h (ys ++ [.ref r]) (es ++ [(us, is)]) := fun h k =>
  (a h fun p hp => k p (List.mem_append_right _ hp)).append (.cons (b h fun p hp => k p (List.mem_append_left _ hp)) .nil)
set_option maxHeartbeats 1000000 in
theorem stage8 {w : World} {A : Around} {E : Value → Shared → Prop} {s : Shared} {mg mb : Str → Option Value} {g h : Heap} {L ml hl : Addr} {mv hv : List Value} {ms ws : List Str} {J : Str} {m1 m2 : Nat} {t1 : Tok} {ps qs : Array Value} {vars cm : List (Str × Value)} {rest : List (Addr × Obj)} {Q : Flow → Shared → Prop} {tk : Nat}
   (X : (fr.heap_1 w.params).In g) (T : TT mg mb g) (hh : A.handled = none) (hdp : A.depth < 800)
   (a : LawAt g h L ps qs vars ((Str.ofString "shown", .ref hl) :: (Str.ofString "strip", .str J t1) :: (Str.ofString "marks", .ref ml) :: cm) rest) (hcm : cm.lookup (Str.ofString "records") = none)
   (hm : (ml, ({ cls := .type "list", data := .seq (List.toArray mv) m1 } : Obj)) ∈ rest) (hmv : StrsAre mv ms) (hml : ms.length ≤ 6) (hmc : ∀ x ∈ ms, x.length ≤ 20)
   (hs : (hl, ({ cls := .type "list", data := .seq (List.toArray hv) m2 } : Obj)) ∈ rest) (hsv : StrsAre hv ws) (hwt : wt ws ≤ 800) (hJ : J.length ≤ 100)
   (k : ∀ h' tk' rl rv m4 rn new, LawAt g h' L ps qs vars ((Str.ofString "records", .ref rl) :: (Str.ofString "shown", .ref hl) :: (Str.ofString "strip", .str J t1) :: (Str.ofString "marks", .ref ml) :: cm) (new ++ rest) →
     (rl, ({ cls := .type "list", data := .seq (List.toArray rv) m4 } : Obj)) ∈ new → (∀ p ∈ rn, p ∈ new) → Ck rn (fun h => RecsAt w h rv (recsOf ms ws J)) → Q .next { s with heap := h', toks := tk' }) :
   wpAny (model (Challenge.rw_rs0167_01.row.prog) w) (A.deeper (lawEnv L)) (execs ((lawBody.drop 12).take 1) (lawEnv L)) Q E { s with heap := h, toks := tk } := by
  revert X; k_fill; intro X
  obtain ⟨F, ⟨C₀, N, c⟩, far, low⟩ := a
  obtain ⟨o1, C', x1, d1, sC, ne1, kC, pC⟩ := c.take low 7 (by decide) (y := Str.ofString "records") rfl
  obtain ⟨o4, x4, d4⟩ := c.cell 4 (by decide)
  obtain ⟨o3, x3, d3⟩ := c.cell 5 (by decide)
  obtain ⟨o2, x2, d2⟩ := c.cell 6 (by decide)
  replace d1 : o1.data = .cell none := d1.trans (by rw [← hcm]; rfl)
  replace d2 : o2.data = .cell (some (.ref hl)) := d2
  replace d3 : o3.data = .cell (some (.str J t1)) := d3
  replace d4 : o4.data = .cell (some (.ref ml)) := d4
  replace N : News g L h ((ml, ({ cls := .type "list", data := .seq (List.toArray mv) m1 } : Obj)) :: (hl, ({ cls := .type "list", data := .seq (List.toArray hv) m2 } : Obj)) :: (L + 5, o4) :: (L + 6, o3) :: (L + 7, o2) :: (L + 8, o1) :: (C' ++ rest)) :=
    News.cons (N _ (List.mem_append_right _ hm)) (News.cons (N _ (List.mem_append_right _ hs)) (News.cons (N _ (List.mem_append_left _ x4)) (News.cons (N _ (List.mem_append_left _ x3)) (News.cons (N _ (List.mem_append_left _ x2)) (News.cons (N _ (List.mem_append_left _ x1)) (News.tail N sC))))))
  have e1 : @Ne Nat ml (L + 8) := (far _ hm).ne (i := 7) (by decide)
  have e2 : @Ne Nat hl (L + 8) := (far _ hs).ne (i := 7) (by decide)
  have hml' : mv.length ≤ 6 := by rw [hmv.length]; exact hml
  show wpAny (model _ _) (Around.deeper _ (envOfC _ (Scope.mk _ _ _ _ _) _ _ _)) (execs [_] (envOfC _ (Scope.mk _ _ _ _ _) _ _ _)) _ _ _
  try dsimp only
  try k_fold
  kwd_rel
  all_goals (try dsimp only at *)
  rename IsRange _ _ _ _ _ _ _ _ => hR
  rename Fr _ _ _ _ => F1
  rename News _ _ _ _ => N1
  refine LCg.CompSrc.range (by exact hh) F1 N1 hR (small_up _ (by omega)) (size_up _) (Nat.le_trans hml (by decide)) ?_
  intro g1
  refine comp_rest (fun i ys nw => ∃ rn, nw = (ml, _) :: (hl, _) :: (L + 5, _) :: (L + 6, _) :: (L + 7, _) :: (L + 8, _) :: (C' ++ (rn ++ rest)) ∧ Ck rn (fun h => RecsAt w h ys ((recsOf ms ws J).take i)) ∧ ∀ p ∈ rn, Far L p.1) ⟨[], rfl, fun _ _ => .nil, List.forall_mem_nil _⟩ ?_ ?_
  · rintro i v I oI C oC D m₂ ys nw h5 tk5 E' hi ⟨t, rfl⟩ ⟨rn, rfl, hck, hfar⟩ hC hx F5 N5 off ne
    clear F1 N1
    rw [Int.zero_add] at hx
    have N5' := N5
    kwd_rel
    unfold Hold
    rename Fr _ _ _ _ => F5
    rename StrsAre hv ws => hsv
    have hmk : (ms.getD i Str.empty).length ≤ 20 := by
      rw [List.getD_eq_getElem?_getD]
      cases e : ms[i]? with
      | none => show Str.empty.length ≤ 20; decide
      | some z => exact hmc z (List.mem_of_getElem? e)
    refine record_spec (mark := ms.getD i Str.empty) (strip := J) (ws := ws) (wv := hv) (place := i) (X.keeps F5.keep) (TopRead.keeps T F5.keep) hh (by simp only [depth_deeper]; omega) (News.isList N5' (.tail _ (.tail _ (.tail _ (.tail _ (.head _)))))) hsv (by omega) hmk hJ hwt ?_
    intro h9 tk9 r9 rn9 k9 f9 C9
    have N9 := news_add F5 N5' k9 f9
    have F9 := fr_up F5 k9
    have hrec : (recsOf ms ws J)[i]? = some (recUs i (ms.getD i Str.empty) J ws, [(i : Int)]) := by
      rw [recsOf, List.getElem?_map, List.getElem?_range hi]; rfl
    refine compEnd_add (ad := rn9) (B := _ :: _ :: _ :: _ :: _ :: _ :: C') (R := rn ++ rest) F9 N9 off (fun p hp => ⟨f9.ne (N5' _ (.head _)).1 p hp, f9.ne (N5' _ (.tail _ (.head _))).1 p hp, f9.ne (N5' _ (.tail _ (.tail _ (.head _)))).1 p hp⟩) trivial ⟨rn9 ++ rn, ?_, ?_, ?_⟩
    · rw [List.append_assoc]; rfl
    · rw [List.take_succ, hrec]
      exact recs_snoc hck C9
    · intro p hp
      rcases List.mem_append.mp hp with hp | hp
      · exact c.apart1 kC (Ne.symm (f9.ne (N5' _ (List.mem_append_right [_, _, _, _, _, _, _, _] (.head _))).1 p hp)) fun q hq => Ne.symm (f9.ne (N5' q (List.mem_append_right [_, _, _, _, _, _, _, _, _] (List.mem_append_left _ hq))).1 p hp)
      · exact hfar p hp
  · rintro ys nw ⟨rn, rfl, hck, hfar⟩
    intro D h5 tk5 F5 N5 o5
    clear F1 N1
    have far2 : ∀ p ∈ rn ++ rest, Far L p.1 := fun p hp => (List.mem_append.mp hp).elim (hfar p) (far p)
    rw [show (recsOf ms ws J).take ms.length = recsOf ms ws J from List.take_of_length_le (by simp [recsOf])] at hck
    have q5 := off1_mem o5
    have fD : Far L D := c.apart1 kC (q5 _ (List.mem_append_right [_, _, _, _, _] (.head _))) fun p hp => q5 p (List.mem_append_right [_, _, _, _, _, _] (List.mem_append_left _ hp))
    have e5 : @Ne Nat D (L + 8) := fD.ne (i := 7) (by decide)
    have a1 : ∀ p ∈ C' ++ (rn ++ rest), p.1 ≠ L + 8 := tail_ne (L := L) (i := 7) ne1 far2 (by decide)
    clear o5 q5
    kwd_rel
    rename _ = Data.cell (some (Value.ref D)) => dM
    rename Fr _ _ _ _ => F9
    rename News _ _ _ _ => N9
    exact k _ _ D ys _ rn _ (LawAt.of3 (P := [_]) (P2 := [_, _, _, _, _]) (rn := rn) (rest := rest) F9 (fun _ => rfl) N9 (pC _ _ dM) (List.forall_mem_cons.mpr ⟨fD, List.forall_mem_nil _⟩) hfar far low) (.head _) (fun p hp => .tail _ hp) hck
end XL8
section
variable {prog : Program} {w : World} {A : Around} {E : Value → Shared → Prop} {s : Shared} {R' : Result → Shared → Prop} {target : PySem.Expr} {body orelse : List Stmt} {env : Env} {g : Heap} {L : Addr} {ps qs : Array Value}
inductive TurnLE (g : Heap) (L : Addr) (ps qs : Array Value) (I : Addr) (oI : Obj) (gs : Array GenState) (dr : Drawn) (os : OsState) (R : List (Str × Value) → List (Str × Value) → List (Addr × Obj) → Prop) (s' : Shared) : Prop
  | mk (h' : Heap) (tk' : Nat) (vars cm : List (Str × Value)) (rest : List (Addr × Obj)) (e : s' = ⟨h', gs, dr, tk', os⟩) (a : LawAt g h' L ps qs vars cm ((I, oI) :: rest)) (ne : ∀ p ∈ rest, p.1 ≠ I) (r : R vars cm rest) : TurnLE g L ps qs I oI gs dr os R s'
noncomputable def TurnL (g : Heap) (L : Addr) (ps qs : Array Value) (I : Addr) (oI : Obj) (s : Shared) (R : List (Str × Value) → List (Str × Value) → List (Addr × Obj) → Prop) (f : Flow) (s' : Shared) : Prop := match f with
  | .ret _ => False
  | .brk => False
  | _ => TurnLE g L ps qs I oI s.gens s.drawn s.os R s'
theorem LawAt.but {h h' : Heap} {vars cm : List (Str × Value)} {rest : List (Addr × Obj)} {I : Addr} (a : LawAt g h L ps qs vars cm rest) (hI : Far L I) (hIL : L ≠ I) (hI0 : g.get? I = none) (hr : ∀ p ∈ rest, p.1 ≠ I) (k : ∀ b o, b ∉ [I] → h.get? b = some o → h'.get? b = some o) : LawAt g h' L ps qs vars cm rest := by
  obtain ⟨F, ⟨C, N, c⟩, far, low⟩ := a
  exact ⟨LCg.fr_but F k hIL hI0, ⟨C, LCg.news_but N k fun p hp => (List.mem_append.mp hp).elim (c.ne hI p) (hr p), c⟩, far, low⟩
theorem LawAt.news {h : Heap} {vars cm : List (Str × Value)} {rest : List (Addr × Obj)} (a : LawAt g h L ps qs vars cm rest) : News g L h rest := by
  obtain ⟨F, ⟨C, N, c⟩, far, low⟩ := a
  exact fun p hp => N p (List.mem_append_right _ hp)
theorem LawAt.push {h : Heap} {vars cm : List (Str × Value)} {rest : List (Addr × Obj)} {I : Addr} {oI : Obj} (a : LawAt g h L ps qs vars cm rest) (hI : Far L I) (hIL : L ≠ I) (hI0 : g.get? I = none) (e : h.get? I = some oI) : LawAt g h L ps qs vars cm ((I, oI) :: rest) := by
  obtain ⟨F, ⟨C, N, c⟩, far, low⟩ := a
  exact LawAt.of (new := [(I, oI)]) F (fun _ => rfl) (News.cons ⟨e, Ne.symm hIL, hI0⟩ N) c (List.forall_mem_cons.mpr ⟨hI, List.forall_mem_nil _⟩) far low
theorem LawAt.pop {h : Heap} {vars cm : List (Str × Value)} {rest : List (Addr × Obj)} {q : Addr × Obj} (a : LawAt g h L ps qs vars cm (q :: rest)) : LawAt g h L ps qs vars cm rest := by
  obtain ⟨F, ⟨C, N, c⟩, far, low⟩ := a
  exact ⟨F, ⟨C, fun p hp => N p ((List.mem_append.mp hp).elim (fun h => List.mem_append_left _ h) fun h => List.mem_append_right _ (.tail _ h)), c⟩, fun p hp => far p (.tail _ hp), low⟩
inductive LoopL (g : Heap) (L : Addr) (ps qs : Array Value) (gs0 : Array GenState) (I : Addr) (R : Nat → List (Str × Value) → List (Str × Value) → List (Addr × Obj) → Prop) (i : Nat) (h : Heap) (gs : Array GenState) : Prop
  | mk (e : gs = gs0) (vars cm : List (Str × Value)) (rest : List (Addr × Obj)) (a : LawAt g h L ps qs vars cm rest) (ne : ∀ p ∈ rest, p.1 ≠ I) (r : R i vars cm rest) : LoopL g L ps qs gs0 I R i h gs
theorem lawLoop {r : Addr} {n : Nat} {t u v : Tok} {vars cm : List (Str × Value)} {rest : List (Addr × Obj)} (hh : A.handled = none) (hR : IsRange s.heap r 0 (n : Int) 1 t u v) (hn : n ≤ 2000) (a : LawAt g s.heap L ps qs vars cm rest)
    (hlet : ∀ it v, letOwnedTupleGo target it v = pure ()) (R : Nat → List (Str × Value) → List (Str × Value) → List (Addr × Obj) → Prop) (h0 : R 0 vars cm rest)
    (turn : ∀ i I oI h tk vars cm rest t, i < n → R i vars cm rest → (∀ p ∈ rest, p.1 ≠ I) → LawAt g h L ps qs vars cm ((I, oI) :: rest) → wpAny (model prog w) A (assign target env (.int (i : Int) t)) (fun _ s₂ =>
      wpAny (model prog w) A (execs body env) (TurnL g L ps qs I oI s (R (i + 1))) (fun _ _ => False) s₂) (fun _ _ => False) { s with heap := h, toks := tk })
    (done : ∀ h tk vars cm rest, R n vars cm rest → LawAt g h L ps qs vars cm rest → wpAny (model prog w) A (execs orelse env) (fun f s₃ => R' (.ok f) s₃) (fun _ _ => False) { s with heap := h, toks := tk }) :
    wpAny (model prog w) A (pyIter (.ref r)) (fun it s₂ => codeAny (model prog w) A (.forLoop target it body orelse env) R' s₂) E s := by
  refine wpAny_pyIter_range hR (small_up n hn) ?_
  rw [size_up]
  have F := a.fr
  have N := a.news
  have a0 := a
  obtain ⟨_, ⟨C, N', c⟩, _, low⟩ := a
  have lt : ∀ x o, s.heap.get? x = some o → @LT.lt Nat _ x s.heap.objs.size := fun x o e => Heap.lt_size e
  have hI : Far L s.heap.objs.size := far_big low (c.above fun p hp => lt _ _ (N' p (List.mem_append_left _ hp)).1)
  have hIL : L ≠ s.heap.objs.size := Nat.ne_of_lt F.ns.lt
  have hI0 := next_is_new F
  have hr : ∀ p ∈ rest, p.1 ≠ s.heap.objs.size := fun p hp => Nat.ne_of_lt (lt _ _ (N p hp).1)
  have hst : IsRangeIter (s.heap.push { cls := .type "range_iterator", data := .fields #[rawInt 0, rawInt ((n : Nat) : Int), rawInt 1] }) s.heap.objs.size (0 + ((0 : Nat) : Int) * 1) (((n : Nat) : Int) - ((0 : Nat) : Int)) 1 := by
    show IsRangeIter _ _ _ _ _; simpa using Heap.get?_push_size _ rfl
  have a1 := a0.but (h' := s.heap.push { cls := .type "range_iterator", data := .fields #[rawInt 0, rawInt ((n : Nat) : Int), rawInt 1] }) hI hIL hI0 hr fun b o _ e => Heap.get?_push_of_some _ e
  generalize s.heap.objs.size = I at hI hIL hI0 hr hst a1 ⊢
  generalize s.heap.push _ = h1 at hst a1 ⊢
  refine forG (s := { s with heap := h1 }) (Walks.range hh I 0 1 n) hst (LoopL g L ps qs s.gens I R) ⟨rfl, vars, cm, rest, a1, hr, h0⟩ ?_ ?_ ?_
  · rintro i h h' gs ⟨e, vars, cm, rest, b, hb, hRi⟩ k
    exact ⟨e, vars, cm, rest, b.but hI hIL hI0 hb k, hb, hRi⟩
  · rintro i v h gs tk hi ⟨t, rfl⟩ hSt ⟨rfl, vars, cm, rest, b, hb, hRi⟩
    rw [hlet]
    refine wpAny_pure ?_
    have eI : h.get? I = some _ := hSt
    have e1 : (0 : Int) + (i : Int) * 1 = (i : Int) := by omega
    rw [e1]
    refine wpAny_mono (turn i I _ h tk vars cm rest t hi hRi hb (b.push hI hIL hI0 eI)) (fun _ s₁ a₁ => wpAny_mono a₁ (fun f s₂ a₂ => ?_) fun _ _ z => z.elim) fun _ _ z => z.elim
    cases f with
    | ret v => exact a₂.elim
    | brk => exact a₂.elim
    | next =>
      obtain ⟨h', tk', vars', cm', rest', rfl, c, hc, hRc⟩ := a₂
      exact ⟨h', s.gens, tk', rfl, fun x hx o eo => by rw [List.mem_singleton.mp hx] at eo ⊢; rw [eI] at eo; rw [← eo]; exact (c.news (I, _) (.head _)).1, rfl, vars', cm', rest', c.pop, hc, hRc⟩
    | cont =>
      obtain ⟨h', tk', vars', cm', rest', rfl, c, hc, hRc⟩ := a₂
      exact ⟨h', s.gens, tk', rfl, fun x hx o eo => by rw [List.mem_singleton.mp hx] at eo ⊢; rw [eI] at eo; rw [← eo]; exact (c.news (I, _) (.head _)).1, rfl, vars', cm', rest', c.pop, hc, hRc⟩
  · rintro h gs tk ⟨rfl, vars, cm, rest, b, hb, hRi⟩
    exact done h tk vars cm rest hRi b
end
section XLE
open PySem PySem.W PySem.Calls PyProof.Rows PyProof.V PySem.Spec
theorem sx_canLay : ∀ xs : List Str, (∀ x ∈ xs, PyData.strOk x = true) → PyData.canLayAll0 (xs.map PyData.str) = true
  | [], _ => rfl
  | x :: r, o => by simp [PyData.canLayAll0, PyData.canLay0, sx_canLay r fun y hy => o y (.tail _ hy), o x (.head _)]
theorem sx_depth : ∀ xs : List Str, PyData.depthAll (xs.map PyData.str) = 0
  | [] => rfl
  | _ :: r => by simp [PyData.depthAll, PyData.depth, sx_depth r]
theorem sx_shaped (xs : List Str) (o : ∀ x ∈ xs, PyData.strOk x = true) : SeqAt.shaped (.list (xs.map PyData.str)) = true := by
  simp [SeqAt.shaped, PyData.canLay0, PyData.depth, sx_canLay xs o, sx_depth]
theorem same_lists {α : Type} [DecidableEq α] (f : α → PyData) (hf : ∀ a b, PySem.Spec.same (f a) (f b) = decide (a = b)) (xs : List α) : ∀ ys : List α, PySem.Spec.sameAll (xs.map f) (ys.map f) = decide (xs = ys) := by
  induction xs with
  | nil => intro ys; cases ys <;> simp [PySem.Spec.sameAll]
  | cons x xs ih =>
    intro ys
    cases ys with
    | nil => simp [PySem.Spec.sameAll]
    | cons y ys => rw [List.map_cons, List.map_cons, PySem.Spec.sameAll, hf, ih]; simp
theorem sx_same (xs ys : List Str) : PySem.Spec.same (.list (xs.map PyData.str)) (.list (ys.map PyData.str)) = decide (xs = ys) := by
  rw [PySem.Spec.same]
  exact same_lists PyData.str (fun a b => by rw [PySem.Spec.same]; by_cases h : a = b <;> simp [h]) xs ys
theorem sx_carried : ∀ {vs : List Value} {xs : List Str}, StrsAre vs xs → CarriedAll vs (xs.map PyData.str)
  | _, _, .nil => .nil
  | _, _, .cons _ t r => .cons (.str _ t) (sx_carried r)
section
variable {prog : Program} {w : World} {A : Around} {E : Value → Shared → Prop} {s : Shared} {a b : Addr} {vs us : List Value} {xs ys : List Str} {Q : Value → Shared → Prop}
theorem sx_eq (ha : s.heap.IsList a vs.toArray) (hb : s.heap.IsList b us.toArray) (hi : StrsAre vs xs) (hj : StrsAre us ys) (ox : ∀ x ∈ xs, PyData.strOk x = true) (oy : ∀ x ∈ ys, PyData.strOk x = true) (hu : A.units + 64 < cLine) (h : Q (.bool (decide (xs = ys))) s) :
    wpAny (model prog w) A (compareOp .Eq (.ref a) (.ref b)) Q E s :=
  eq_dataH_same (reads_newData ha (sx_carried hi)) (reads_newData hb (sx_carried hj)) (sx_shaped _ ox) (sx_shaped _ oy) hu (SeqAt.noMix_of_shape (.list .str) rfl _ _ (list_map_has fun _ => rfl) (list_map_has fun _ => rfl)) (by rw [sx_same]; exact h)
theorem sx_ne (ha : s.heap.IsList a vs.toArray) (hb : s.heap.IsList b us.toArray) (hi : StrsAre vs xs) (hj : StrsAre us ys) (ox : ∀ x ∈ xs, PyData.strOk x = true) (oy : ∀ x ∈ ys, PyData.strOk x = true) (hu : A.units + 64 < cLine) (h : Q (.bool (!decide (xs = ys))) s) :
    wpAny (model prog w) A (compareOp .NotEq (.ref a) (.ref b)) Q E s :=
  ne_dataH_same (reads_newData ha (sx_carried hi)) (reads_newData hb (sx_carried hj)) (sx_shaped _ ox) (sx_shaped _ oy) hu (SeqAt.noMix_of_shape (.list .str) rfl _ _ (list_map_has fun _ => rfl) (list_map_has fun _ => rfl)) (by rw [sx_same]; exact h)
end
theorem inst_here {h : Heap} {x d C : Addr} {od : Obj} (h1 : h.get? x = some (instObj C d)) (h2 : h.get? d = some od) : PySem.W.InstAt h x (instObj C d) C (some od) := by
  exact ⟨h1, rfl, rfl, h2⟩
end XLE
section XL9
local macro_rules | `(tactic| walk_at "subscriptTail Name Name ref int") => `(tactic| refine Hold.out ?_)
local macro_rules | `(tactic| walk_at "exec For") => `(tactic| refine Hold.out ?_)
local macro_rules | `(tactic| walk_at "call ref") => `(tactic| refine Hold.out ?_)
local macro_rules | `(tactic| k_inst) => `(tactic| exact inst_here (by assumption) (by assumption))
local macro_rules
  | `(tactic| walk_at "pyIter ref") => `(tactic| (rename StopN 1 => st; refine Hold.out ?_))
theorem held_sub {ts ws : List Str} {f b wd : Nat} {x : Str} (h : x ∈ heldF ts f b ws wd) : x ∈ ws := by
  unfold heldF at h
  dsimp only at h
  split at h
  · exact List.mem_of_mem_take (List.mem_of_mem_drop h)
  · exact List.mem_of_mem_take (List.mem_of_mem_drop (List.mem_reverse.mp h))
inductive R9 (V cm : List (Str × Value)) (rest : List (Addr × Obj)) (i : Nat) (vars' cm' : List (Str × Value)) (rest' : List (Addr × Obj)) : Prop
  | mk (e : vars' = V) (hcm : ∀ y, y ≠ Str.ofString "k" → cm'.lookup y = cm.lookup y) (hsub : ∀ p ∈ rest, p ∈ rest') : R9 V cm rest i vars' cm' rest'
set_option maxHeartbeats 1000000 in
theorem stage9 {w : World} {A : Around} {E : Value → Shared → Prop} {s : Shared} {mg mb : Str → Option Value} {g h : Heap} {L tl hl rl : Addr} {tv hv rv : List Value} {ts ws : List Str} {es : List Rec} {m1 m2 m3 wd : Nat} {tw : Tok} {ps qs : Array Value} {vars cm : List (Str × Value)} {rest rn : List (Addr × Obj)} {Q : Flow → Shared → Prop} {tk : Nat}
   (X : (fr.heap_1 w.params).In g) (T : TT mg mb g) (hh : A.handled = none) (hdp : A.depth < 800) (hun : A.units < 8000)
   (a : LawAt g h L ps qs ((Str.ofString "things", .ref tl) :: vars) cm rest) (c1_ : cm.lookup (Str.ofString "shown") = some (.ref hl)) (c2 : cm.lookup (Str.ofString "records") = some (.ref rl)) (c3 : cm.lookup (Str.ofString "width") = some (.int (wd : Int) tw))
   (hm : (tl, ({ cls := .type "list", data := .seq (List.toArray tv) m1 } : Obj)) ∈ rest) (htv : StrsAre tv ts) (htl : ts.length ≤ 6) (htw : wt ts ≤ 100)
   (hs : (hl, ({ cls := .type "list", data := .seq (List.toArray hv) m2 } : Obj)) ∈ rest) (hsv : StrsAre hv ws) (hwt : wt ws ≤ 800) (hok : ∀ x ∈ ws, PyData.strOk x = true) (hwd : wd ≤ 11)
   (hr : (rl, ({ cls := .type "list", data := .seq (List.toArray rv) m3 } : Obj)) ∈ rest) (hrn : ∀ p ∈ rn, p ∈ rest) (hrs : Ck rn fun h => RecsAt w h rv es) (hel : es.length = ts.length)
   (fact : ∀ k < ts.length, (es.getD k ([], [])).1 = heldF ts k (k + 1) ws wd)
   (k : ∀ h' tk' cm' rest', LawAt g h' L ps qs ((Str.ofString "things", .ref tl) :: vars) cm' rest' → (∀ y, y ≠ Str.ofString "k" → cm'.lookup y = cm.lookup y) → (∀ p ∈ rest, p ∈ rest') → Q .next { s with heap := h', toks := tk' }) :
   wpAny (model (Challenge.rw_rs0167_01.row.prog) w) (A.deeper (lawEnv L)) (execs ((lawBody.drop 13).take 1) (lawEnv L)) Q E { s with heap := h, toks := tk } := by
  revert X; k_fill; intro X
  obtain ⟨F, ⟨C₀, N, c⟩, far, low⟩ := a
  replace N : News g L h ((tl, ({ cls := .type "list", data := .seq (List.toArray tv) m1 } : Obj)) :: (C₀ ++ rest)) := News.cons (N _ (List.mem_append_right _ hm)) N
  have htl' : tv.length ≤ 6 := by rw [htv.length]; exact htl
  show wpAny (model _ _) (Around.deeper _ (envOfC _ (Scope.mk _ _ _ _ _) _ _ _)) (execs [_] (envOfC _ (Scope.mk _ _ _ _ _) _ _ _)) _ _ _
  try dsimp only
  try k_fold
  kwd_rel
  unfold Hold
  refine wpAny_For ?_
  have st : StopN 1 := .mk 1
  kwd_rel
  rename StopN _ => st
  clear st
  unfold Hold
  rename IsRange _ _ _ _ _ _ _ _ => hR
  rename Fr _ _ _ _ => F1
  rename News _ _ _ _ => N1
  have a1 : LawAt g _ L ps qs ((Str.ofString "things", .ref tl) :: vars) cm rest := ⟨F1, ⟨C₀, fun p hp => N1 p (.tail _ hp), c⟩, far, low⟩
  clear F1 N1
  refine opq4 (R9 ((Str.ofString "things", .ref tl) :: vars) cm rest) fun R rI rE => ?_
  refine lawLoop (by exact hh) hR (by omega) a1 (fun _ _ => rfl) R (rI _ _ _ _ ⟨rfl, fun _ _ => rfl, fun _ h => h⟩) ?_ ?_
  · intro i I oI h5 tk5 vars' cm' rest' t hi hRi hne b
    obtain ⟨rfl, hcm, hsub⟩ := rE _ _ _ _ hRi
    clear a1 hR hRi
    obtain ⟨F, ⟨C₁, N, c1⟩, far5, _⟩ := b
    obtain ⟨o5, C', x5, d5, sC, ne5, kC, pC⟩ := c1.take low 3 (by decide) (y := Str.ofString "k") rfl
    obtain ⟨o8, x8, d8⟩ := c1.cell 0 (by decide)
    obtain ⟨o2, x2, d2⟩ := c1.cell 6 (by decide)
    obtain ⟨o1, x1, d1⟩ := c1.cell 7 (by decide)
    replace d1 : o1.data = .cell (some (.ref rl)) := d1.trans (congrArg Data.cell ((hcm _ (by decide +kernel)).trans c2))
    replace d2 : o2.data = .cell (some (.ref hl)) := d2.trans (congrArg Data.cell ((hcm _ (by decide +kernel)).trans c1_))
    replace d8 : o8.data = .cell (some (.int (wd : Int) tw)) := d8.trans (congrArg Data.cell ((hcm _ (by decide +kernel)).trans c3))
    replace N : News g L h5 ((tl, ({ cls := .type "list", data := .seq (List.toArray tv) m1 } : Obj)) :: (hl, ({ cls := .type "list", data := .seq (List.toArray hv) m2 } : Obj)) :: (rl, ({ cls := .type "list", data := .seq (List.toArray rv) m3 } : Obj)) :: (L + 1, o8) :: (L + 7, o2) :: (L + 8, o1) :: (L + 4, o5) :: (C' ++ ((I, oI) :: rest'))) :=
      News.cons (N _ (List.mem_append_right _ (.tail _ (hsub _ hm)))) (News.cons (N _ (List.mem_append_right _ (.tail _ (hsub _ hs)))) (News.cons (N _ (List.mem_append_right _ (.tail _ (hsub _ hr)))) (News.cons (N _ (List.mem_append_left _ x8)) (News.cons (N _ (List.mem_append_left _ x2)) (News.cons (N _ (List.mem_append_left _ x1)) (News.cons (N _ (List.mem_append_left _ x5)) (News.tail N sC)))))))
    have f1 : @Ne Nat tl (L + 4) := (far _ hm).ne (i := 3) (by decide)
    have f2 : @Ne Nat hl (L + 4) := (far _ hs).ne (i := 3) (by decide)
    have f3 : @Ne Nat rl (L + 4) := (far _ hr).ne (i := 3) (by decide)
    have f4 : ∀ p ∈ C' ++ ((I, oI) :: rest'), p.1 ≠ L + 4 := tail_ne (L := L) (i := 3) ne5 far5 (by decide)
    have hmem : ∀ p ∈ rn, p ∈ C' ++ ((I, oI) :: rest') := fun p hp => List.mem_append_right _ (.tail _ (hsub _ (hrn p hp)))
    kwd_rel
    rename _ = Data.cell (some (Value.int _ _)) => dk
    rename Fr _ _ _ _ => F6
    rename News _ _ _ _ => N6
    have hi2 : i < es.length := by omega
    have he : es[i]? = some es[i] := List.getElem?_eq_getElem hi2
    have hfa := fact i hi
    rw [List.getD_eq_getElem?_getD, he] at hfa
    generalize es[i] = e6 at he hfa
    dsimp only [Option.getD_some] at hfa
    obtain ⟨r6, v6, E6⟩ := (hrs _ (fun p hp => (N6 p (List.mem_append_right [_, _, _, _, _, _, _] (hmem p hp))).1)).at_ i e6 he
    have hrl : i < rv.length := (List.getElem?_eq_some_iff.mp v6).1
    have hes : es.length ≤ 6 := by omega
    have hrl6 : rv.length ≤ 6 := by
      have q := (hrs _ (fun p hp => (N6 p (List.mem_append_right [_, _, _, _, _, _, _] (hmem p hp))).1)).length
      omega
    refine item_listR (News.isList N6 (.tail _ (.tail _ (.head _)))) (by omega) (by simp; omega) (by simpa using v6) ?_
    obtain ⟨dd, t1, t2, t3, t4, lu, lr, uv, rv6, x1, x2, x3, x4, x5, x6⟩ := E6
    kwd_rel
    unfold Hold
    rename StrsAre hv ws => hsv
    rw [show ((i : Int) + 1) = ((i + 1 : Nat) : Int) by omega]
    refine held_spec (first := i) (behind := i + 1) (width := wd) (X.keeps F6.keep) (TopRead.keeps T F6.keep) hh (by simp only [depth_deeper]; omega) (News.isList N6 (.head _)) (News.isList N6 (.tail _ (.head _))) htv hsv (by omega) (by omega) (by omega) (by omega) hwd ?_
    intro h9 tk9 r9 rv9 n9 k9 f9 e9 S9
    have fresh9 : Fresh _ h9 [(r9, ({ cls := .type "list", data := .seq (List.toArray rv9) n9 } : Obj))] := fun p hp => by rw [List.mem_singleton.mp hp]; exact ⟨f9, e9⟩
    have N9 := news_add F6 N6 k9 fresh9
    have F9 := fr_up F6 k9
    have far9 : Far L r9 := c1.apart1 kC (Ne.symm (fresh9.ne (N6 _ (List.mem_append_right [_, _, _, _, _, _] (.head _))).1 _ (.head _))) fun q hq => Ne.symm (fresh9.ne (N6 q (List.mem_append_right [_, _, _, _, _, _, _] (List.mem_append_left _ hq))).1 _ (.head _))
    have neI : r9 ≠ I := fresh9.ne (N6 _ (List.mem_append_right [_, _, _, _, _, _, _] (List.mem_append_right _ (.head _)))).1 _ (.head _)
    have x3' : h9.IsList lu uv.toArray := x3.at fun o e => k9 _ _ e
    have hh1 : ∀ x ∈ heldF ts i (i + 1) ws wd, PyData.strOk x = true := fun x hx => hok x (held_sub hx)
    refine sx_ne x3' ⟨_, e9, rfl, _, rfl⟩ x4 S9 (by rw [hfa]; exact hh1) hh1 (by show A.units + 3 + 64 < 9900; omega) ?_
    rw [hfa, decide_eq_true rfl]
    clear F6 N6 x1 x2 x3 x5 k9 f9
    kwd_rel
    exact ⟨h9, tk9, _, (Str.ofString "k", .int (i : Int) t) :: cm', (r9, ({ cls := .type "list", data := .seq (List.toArray rv9) n9 } : Obj)) :: rest', rfl,
      LawAt.ofAll F9 (fun _ => rfl) N9 (fun p hp => List.mem_append_right [_, _, _, _, _, _, _] (List.mem_append_left _ hp))
        (List.forall_mem_cons.mpr ⟨List.mem_append_right [_, _, _, _, _, _, _, _] (List.mem_append_right _ (.head _)), List.forall_mem_cons.mpr ⟨.head _, fun p hp => List.mem_append_right [_, _, _, _, _, _, _, _] (List.mem_append_right _ (.tail _ hp))⟩⟩)
        (pC _ _ dk) (List.forall_mem_cons.mpr ⟨far5 _ (.head _), List.forall_mem_cons.mpr ⟨far9, fun p hp => far5 p (.tail _ hp)⟩⟩) low,
      List.forall_mem_cons.mpr ⟨neI, hne⟩, rI _ _ _ _ ⟨rfl, fun y hy => by rw [lk_cons, if_neg hy]; exact hcm y hy, fun p hp => .tail _ (hsub p hp)⟩⟩
  · intro h5 tk5 vars' cm' rest' hRi b
    obtain ⟨rfl, hcm, hsub⟩ := rE _ _ _ _ hRi
    refine wpAny_execs_nil ?_
    refine wpAny_execs_nil ?_
    exact k _ _ _ _ b hcm hsub
end XL9
section XL10
local macro_rules | `(tactic| walk_at "call ref") => `(tactic| refine Hold.out ?_)
theorem above_low {L i : Nat} (low : 147 < L) : L + 1 + i ≠ 140 ∧ L + 1 + i ≠ 147 := by omega
theorem LawAt.tabs {g h h' : Heap} {L : Addr} {ps qs ps' qs' : Array Value} {vars cm : List (Str × Value)} {rest : List (Addr × Obj)} (a : LawAt g h L ps qs vars cm rest) (k : ∀ b o, b ∉ [140, 147] → h.get? b = some o → h'.get? b = some o) (e1 : h'.get? 140 = some (tabObj ps')) (e2 : h'.get? 147 = some (tabObj qs')) : LawAt g h' L ps' qs' vars cm rest := by
  obtain ⟨F, ⟨C, N, c⟩, far, low⟩ := a
  have n1 := (N _ (List.mem_append_left _ c.t140)).2
  have n2 := (N _ (List.mem_append_left _ c.t147)).2
  have off : ∀ b : Addr, @Ne Nat b 140 → @Ne Nat b 147 → b ∉ [140, 147] := fun b q1 q2 q => (List.mem_cons.mp q).elim q1 fun q => q2 (List.mem_singleton.mp q)
  have keepC : ∀ p ∈ C, @Ne Nat p.1 140 → @Ne Nat p.1 147 → p ∈ C.filter (fun p => decide (@Ne Nat p.1 140 ∧ @Ne Nat p.1 147)) := fun p hp x y => List.mem_filter.mpr ⟨hp, decide_eq_true ⟨x, y⟩⟩
  have upN : ∀ p ∈ C ++ rest, @Ne Nat p.1 140 → @Ne Nat p.1 147 → h'.get? p.1 = some p.2 ∧ p.1 ≠ L ∧ g.get? p.1 = none := fun p hp x y => ⟨k _ _ (off _ x y) (N p hp).1, (N p hp).2⟩
  refine ⟨⟨F.ns.at' fun o e => k _ _ (off _ (Nat.ne_of_gt (by omega)) (Nat.ne_of_gt low)) e, fun b o e => k _ _ (off _ ?_ ?_) (F.keep b o e), F.above⟩, ⟨(140, tabObj ps') :: (147, tabObj qs') :: C.filter (fun p => decide (@Ne Nat p.1 140 ∧ @Ne Nat p.1 147)), News.cons ⟨e1, n1⟩ (News.cons ⟨e2, n2⟩ fun p hp => ?_), ⟨fun i hi => ?_, .head _, .tail _ (.head _), ?_⟩⟩, far, low⟩
  · rintro rfl; rw [n1.2] at e; cases e
  · rintro rfl; rw [n2.2] at e; cases e
  · rcases List.mem_append.mp hp with hp | hp
    · have m := List.mem_filter.mp hp
      have d := of_decide_eq_true m.2
      exact upN p (List.mem_append_left _ m.1) d.1 d.2
    · exact upN p (List.mem_append_right _ hp) (far p hp).2.1 (far p hp).2.2
  · obtain ⟨o, m, d⟩ := c.cell i hi
    exact ⟨o, .tail _ (.tail _ (keepC _ m (above_low low).1 (above_low low).2)), d⟩
  · exact List.forall_mem_cons.mpr ⟨c.own (140, tabObj ps) c.t140, List.forall_mem_cons.mpr ⟨c.own (147, tabObj qs) c.t147, fun p hp => c.own p (List.mem_filter.mp hp).1⟩⟩
set_option maxHeartbeats 1000000 in
theorem stage10 {w : World} {A : Around} {E : Value → Shared → Prop} {s : Shared} {mg mb : Str → Option Value} {bm : Addr} {ob : Obj} {g h : Heap} {L wl : Addr} {wv : List Value} {w0 : Str × Str} {wr : List (Str × Str)} {m1 wd rm : Nat} {tw tr ts : Tok} {signs : Str} {cm : List (Str × Value)} {rest : List (Addr × Obj)} {Q : Flow → Shared → Prop} {tk : Nat} {v1 v2 v3 v4 : Value}
   (X : (fr.heap_1 w.params).In g) (T : TT mg mb g) (BM : BMod g mainGlobals mg bm ob) (hh : A.handled = none) (hdp : A.depth < 800) (hun : A.units < 8000)
   (a : LawAt g h L #[] #[] [(Str.ofString "things", v1), (Str.ofString "name", v2), (Str.ofString "words", .ref wl), (Str.ofString "signs", .str signs ts), (Str.ofString "room", .int (rm : Int) tr), (Str.ofString "cells", v3), (Str.ofString "script", v4)] cm rest) (c3 : cm.lookup (Str.ofString "width") = some (.int (wd : Int) tw))
   (hm : (wl, ({ cls := .type "list", data := .seq (List.toArray wv) m1 } : Obj)) ∈ rest) (hck : CksIn rest wv (w0 :: wr)) (hwd : wd ≤ 11) (hrm : rm ≤ 4) (hsg : signs.length ≤ 10)
   (hwl : ∀ c ∈ wr, 1 ≤ c.2.length ∧ c.2.length ≤ 100) (hnw : wr.length ≤ 10)
   (safe : Safe wd signs ([], rm, []) (w0 :: wr.flatMap chunksOf))
   {r0 : Str} {rr : List Str} (fin : FinOk (run wd signs ([], rm, []) (w0 :: wr.flatMap chunksOf))) (hrows : rowsOf (run wd signs ([], rm, []) (w0 :: wr.flatMap chunksOf)) = r0 :: rr) (hsplit : Txt.split (Str.join (Str.ofString "\n") (r0 :: rr)) (Str.ofString "\n") = r0 :: rr) (hjl : (Str.join (Str.ofString "\n") (r0 :: rr)).length ≤ 1000) (hrw : wt (r0 :: rr) ≤ 1000)
   (k : ∀ h' g' tk' ps' qs' lr rv m2, LawAt g h' L ps' qs' [(Str.ofString "rows", .ref lr), (Str.ofString "things", v1), (Str.ofString "name", v2), (Str.ofString "words", .ref wl), (Str.ofString "signs", .str signs ts), (Str.ofString "room", .int (rm : Int) tr), (Str.ofString "cells", v3), (Str.ofString "script", v4)] cm ((lr, ({ cls := .type "list", data := .seq (List.toArray rv) m2 } : Obj)) :: rest) →
     StrsAre rv ((Txt.mul (Str.ofString "-") rm ++ r0) :: rr) → (AllBare s.gens → AllBare g') → Q .next { s with heap := h', gens := g', toks := tk' }) :
   wpAny (model (Challenge.rw_rs0167_01.row.prog) w) (A.deeper (lawEnv L)) (execs ((lawBody.drop 14).take 1) (lawEnv L)) Q E { s with heap := h, toks := tk } := by
  revert X; k_fill; intro X
  have a0 := a
  obtain ⟨F, ⟨C₀, N, c⟩, far, low⟩ := a
  obtain ⟨o8, m8, d8⟩ := c.cell 0 (by decide)
  replace d8 : o8.data = .cell (some (.int (wd : Int) tw)) := d8.trans (congrArg Data.cell c3)
  have N0 := N
  replace N : News g L h ((L + 1, o8) :: (C₀ ++ rest)) := News.cons (N _ (List.mem_append_left _ m8)) N
  have t1 := N0 _ (List.mem_append_left _ c.t140)
  have t2 := N0 _ (List.mem_append_left _ c.t147)
  show wpAny (model _ _) (Around.deeper _ (envOfC _ (Scope.mk _ _ _ _ _) _ _ _)) (execs [_] (envOfC _ (Scope.mk _ _ _ _ _) _ _ _)) _ _ _
  try dsimp only
  try k_fold
  kwd_rel
  unfold Hold
  have st : ∀ b o, g.get? b = some o → (hideAll h [140, 147]).get? b = some o := fun b o e => hideAll_get _ (F.keep b o e) (fun q => (List.mem_cons.mp q).elim (fun q => by rw [q, t1.2.2] at e; cases e) fun q => by rw [List.mem_singleton.mp q, t2.2.2] at e; cases e)
  have hid : ∀ p ∈ rest, (hideAll h [140, 147]).get? p.1 = some p.2 := fun p hp => hideAll_get _ (N0 p (List.mem_append_right _ hp)).1 (fun q => (List.mem_cons.mp q).elim (far p hp).2.1 fun q => (far p hp).2.2 (List.mem_singleton.mp q))
  cases hck with | @cons T₀ _ tb0 tp0 vr _ hmT hckr =>
  refine rows_spec (T₀ := T₀) (ps := #[]) (qs := #[]) (vr := vr) (w0 := w0) (wr := wr) (room := rm) (width := wd) (tb0 := tb0) (tp0 := tp0) (signs := signs) (X.keeps st) (TopRead.keeps T st) (BM.keeps st) t1.1 t2.1 hh (by simp only [depth_deeper]; omega) (by show A.units + 3 < 8700; omega) ?tp ?tq ⟨_, hid _ hm, rfl, _, rfl⟩ ?tt (hckr.ck _ hid) hwd hrm hsg hwl hnw safe fin hrows hsplit hjl hrw ?_
  case tp => exact True.intro
  case tq => exact True.intro
  case tt => exact ⟨_, hid _ hmT, rfl, _, rfl⟩
  intro h9 g9 tk9 ps' qs' lr rv m2 k9 e140 e147 _ _ f9 e9 S9 hb9
  have fr9 : Fresh h h9 [(lr, ({ cls := .type "list", data := .seq (List.toArray rv) m2 } : Obj))] := Fresh.of_one f9 e9
  have a9 := a0.tabs k9 e140 e147
  have hL : L ≠ lr := by
    intro q
    obtain ⟨o, _, _, eo, _⟩ := F.ns
    rw [← q, eo] at f9; cases f9
  have hg : g.get? lr = none := by
    cases q : g.get? lr with
    | none => rfl
    | some o => have := F.keep _ _ q; rw [f9] at this; cases this
  have a10 := a9.push (a0.fresh_far fr9 _ (.head _)) hL hg e9
  clear a9 a0 F N N0 t1 t2 m8 d8 st hid
  obtain ⟨F, ⟨C₁, N, c1⟩, far1, _⟩ := a10
  kwd_rel
  rename Fr _ _ _ _ => F9
  rename News _ _ _ _ => N9
  exact k _ _ _ ps' qs' lr rv _ (LawAt.of (new := []) (rest := (lr, _) :: rest) F9 (fun y => (lk_cons y _ _ _).symm) N9 c1 (List.forall_mem_nil _) far1 low) S9 hb9
end XL10
theorem list_stays {g h : Heap} {L l : Addr} {m : Str → Option Value} {its : Array Value} {Z : List (Addr × Obj)} (F : Fr g L h m) (N : News g L h Z) (x : h.IsList l its) : ∃ Z', (∀ p ∈ Z, p ∈ Z') ∧ News g L h Z' ∧ ∀ h' m', Fr g L h' m' → News g L h' Z' → h'.IsList l its := by
  obtain ⟨o, eo, co, r⟩ := id x
  have hlL : l ≠ L := by
    rintro rfl
    obtain ⟨oL, es, ep, hL, q⟩ := F.ns
    rw [eo] at hL
    obtain rfl := Option.some.inj hL
    obtain ⟨_, ed⟩ := r
    rw [q.1] at ed
    cases ed
  cases q : g.get? l with
  | some o' =>
    refine ⟨Z, fun _ h => h, N, fun h' m' F' _ => ?_⟩
    have e := F.keep _ _ q
    rw [eo] at e
    cases e
    exact ⟨o, F'.keep _ _ q, co, r⟩
  | none =>
    refine ⟨(l, o) :: Z, fun _ h => .tail _ h, fun p hp => ?_, fun h' m' F' N' => ⟨o, (N' _ (.head _)).1, co, r⟩⟩
    rcases List.mem_cons.mp hp with rfl | hp
    · exact ⟨eo, hlL, q⟩
    · exact N p hp
section XL11
local macro_rules | `(tactic| walk_at "call ref") => `(tactic| refine Hold.out ?_)
local macro_rules
  | `(tactic| walk_at "subscriptTail Name UnaryOp ref int") => `(tactic| (rename StopN 1 => st; refine Hold.out ?_))
  | `(tactic| walk_at "subscriptTail Name Constant ref int") => `(tactic| (rename StopN 2 => st; refine Hold.out ?_))
  | `(tactic| walk_at "call builtin:len cons nil") => `(tactic| (rename StopN 3 => st; refine Hold.out ?_))
  | `(tactic| walk_at "subscriptTail Subscript") => `(tactic| (k_here; k_dflt (refine kba_turn (value' := PySem.Expr.Name (PySem.Str.ofString "_") ⟨0, 0, 0, 0⟩) (fun _ => rfl) ?_)))
theorem item_negR {prog : Program} {w : World} {A : Around} {E : Value → Shared → Prop} {s : Shared} {value slice : PySem.Expr} {l : Addr} {items : Array Value} {k : Int} {u : Tok} {x : Value} {Q : Value → Shared → Prop} (hl : s.heap.IsList l items)
    (h0 : k < 0) (h1 : -(items.size : Int) ≤ k) (hfit : -(2 ^ 63) ≤ k) (hx : items[(k + items.size).toNat]? = some x) (h : Q x s)
    (hs : subscripted slice false (.ref l) (.int k u) = operate [.ref l, .int k u] (getItem (.ref l) (.int k u)) := by with_unfolding_all rfl) :
    wpAny (model prog w) A (subscriptTail value slice (.ref l) (.int k u)) Q E s :=
  subscriptTail_builtinR hl.typeIs slot_list_getitem.lookup (wpAny_getItem_list_neg (Q := fun r s' => r = x ∧ Q r s') hl h0 h1 hfit hx ⟨rfl, h⟩) hs
theorem PairsAt.nth {h : Heap} {vs : List Value} {ps : List (Nat × Nat)} (x : PairsAt h vs ps) : ∀ (i : Nat) (p : Nat × Nat), ps[i]? = some p → ∃ T t u n, vs[i]? = some (.ref T) ∧ h.get? T = some { cls := .type "tuple", data := .seq #[.int (p.1 : Int) t, .int (p.2 : Int) u] n } := by
  induction x with
  | nil => intro i p e; simp at e
  | cons e o r ih =>
    intro i p q
    cases i with
    | zero =>
      simp at q; subst q
      obtain ⟨t, u, n, rfl⟩ := o
      exact ⟨_, t, u, n, rfl, e⟩
    | succ i => simpa using ih i p (by simpa using q)
theorem PairsAt.length {h : Heap} {vs : List Value} {ps : List (Nat × Nat)} (x : PairsAt h vs ps) : vs.length = ps.length := by
  induction x with
  | nil => rfl
  | cons e o r ih => simp [ih]
set_option maxHeartbeats 1000000 in
theorem stage11 {w : World} {A : Around} {E : Value → Shared → Prop} {s : Shared} {mg mb : Str → Option Value} {g h : Heap} {L lr tl : Addr} {rv tv : List Value} {rs ts : List Str} {m1 m2 : Nat} {ps qs : Array Value} {vars cm : List (Str × Value)} {rest : List (Addr × Obj)} {Q : Flow → Shared → Prop} {tk : Nat}
   (X : (fr.heap_1 w.params).In g) (T : TT mg mb g) (hh : A.handled = none) (hdp : A.depth < 800)
   (a : LawAt g h L ps qs ((Str.ofString "rows", .ref lr) :: (Str.ofString "things", .ref tl) :: vars) cm rest)
   (hr : (lr, ({ cls := .type "list", data := .seq (List.toArray rv) m1 } : Obj)) ∈ rest) (hrv : StrsAre rv rs) (hrw : wt rs ≤ 1000) (ht : (tl, ({ cls := .type "list", data := .seq (List.toArray tv) m2 } : Obj)) ∈ rest) (htv : StrsAre tv ts) (htw : wt ts ≤ 100)
   {f0 : Nat} (hlast : (runsF ts 0 rs).getLast? = some (f0, ts.length))
   (k : ∀ h' tk' ul pv m3 rn, LawAt g h' L ps qs ((Str.ofString "runs", .ref ul) :: (Str.ofString "rows", .ref lr) :: (Str.ofString "things", .ref tl) :: vars) cm (((ul, ({ cls := .type "list", data := .seq (List.toArray pv) m3 } : Obj)) :: rn) ++ rest) →
     Ck rn (fun h => PairsAt h pv (runsF ts 0 rs)) → Q .next { s with heap := h', toks := tk' }) :
   wpAny (model (Challenge.rw_rs0167_01.row.prog) w) (A.deeper (lawEnv L)) (execs ((lawBody.drop 15).take 2) (lawEnv L)) Q E { s with heap := h, toks := tk } := by
  revert X; k_fill; intro X
  have a0 := a
  obtain ⟨F, ⟨C₀, N, c⟩, far, low⟩ := a
  replace N : News g L h ((lr, ({ cls := .type "list", data := .seq (List.toArray rv) m1 } : Obj)) :: (tl, ({ cls := .type "list", data := .seq (List.toArray tv) m2 } : Obj)) :: (C₀ ++ rest)) := News.cons (N _ (List.mem_append_right _ hr)) (News.cons (N _ (List.mem_append_right _ ht)) N)
  show wpAny (model _ _) (Around.deeper _ (envOfC _ (Scope.mk _ _ _ _ _) _ _ _)) (execs [_, _] (envOfC _ (Scope.mk _ _ _ _ _) _ _ _)) _ _ _
  try dsimp only
  try k_fold
  kwd_rel
  unfold Hold
  refine runs_spec (X.keeps F.keep) (TopRead.keeps T F.keep) hh (by simp only [depth_deeper]; omega) (News.isList N (.head _)) hrv (News.isList N (.tail _ (.head _))) htv hrw (by omega) ?_
  intro h9 tk9 ul m3 pv rn k9 f9 C9
  have a9 := a0.grow k9 f9
  have f9' := a0.fresh_far f9
  clear N F a0
  have far9 := a9.far
  obtain ⟨F, ⟨C₁, N, c1⟩, far2, _⟩ := a9
  replace N : News g L h9 ((ul, ({ cls := .type "list", data := .seq (List.toArray pv) m3 } : Obj)) :: (tl, ({ cls := .type "list", data := .seq (List.toArray tv) m2 } : Obj)) :: (C₁ ++ (((ul, ({ cls := .type "list", data := .seq (List.toArray pv) m3 } : Obj)) :: rn) ++ rest))) :=
    News.cons (N _ (List.mem_append_right _ (.head _))) (News.cons (N _ (List.mem_append_right _ (List.mem_append_right _ ht))) N)
  have st : StopN 1 := .mk 1
  kwd_rel
  rename StopN _ => st
  clear st
  unfold Hold
  rename Fr _ _ _ _ => F6
  rename News _ _ _ _ => N6
  have P6 := C9 _ fun p hp => (N6 p (List.mem_append_right [_, _] (List.mem_append_right _ (.tail _ (List.mem_append_left rest hp))))).1
  have hne : 0 < (runsF ts 0 rs).length := by
    cases e : runsF ts 0 rs with
    | nil => rw [e] at hlast; cases hlast
    | cons _ _ => simp
  have hl2 : (runsF ts 0 rs)[(runsF ts 0 rs).length - 1]? = some (f0, ts.length) := by rw [← List.getLast?_eq_getElem?]; exact hlast
  obtain ⟨T6, u1, u2, n6, v6, e6⟩ := P6.nth _ _ hl2
  have hpl := P6.length
  refine item_negR (News.isList N6 (.head _)) (by decide) (by simp; omega) (by decide) (x := .ref T6) (by rw [List.size_toArray, List.getElem?_toArray, hpl, ← v6]; congr 1; omega) ?_
  have st : StopN 2 := .mk 2
  kwd_rel
  rename StopN _ => st
  clear st
  unfold Hold
  dsimp only
  refine item_tupleT (l := [.int (f0 : Int) u1, .int (ts.length : Int) u2]) (j := 1) ⟨_, e6, rfl, _, rfl⟩ (by decide) (by decide) (by rfl) (by rfl) ?_
  have st : StopN 3 := .mk 3
  kwd_rel
  rename StopN _ => st
  clear st
  unfold Hold
  have htl : tv.length = ts.length := htv.length
  have htw2 := len_wt ts
  refine lenL (News.isList N6 (.tail _ (.head _))) htl (by omega) ?_
  kwd_rel
  all_goals (try exact absurd rfl (by assumption))
  exact k _ _ ul pv _ rn (LawAt.ofAll F6 (fun y => (lk_cons y _ _ _).symm) N6 (fun p hp => List.mem_append_right [_, _] (List.mem_append_left _ hp)) (fun p hp => List.mem_append_right [_, _] (List.mem_append_right _ hp)) c1 far9 low) C9
end XL11
section XL12
local macro_rules | `(tactic| walk_at "subscriptTail Name Name ref int") => `(tactic| (rename StopAt => st; refine Hold.out ?_))
local macro_rules | `(tactic| walk_at "exec For") => `(tactic| refine Hold.out ?_)
local macro_rules | `(tactic| walk_at "call ref") => `(tactic| refine Hold.out ?_)
local macro_rules | `(tactic| k_inst) => `(tactic| exact inst_here (by assumption) (by assumption))
local macro_rules | `(tactic| walk_at "compareOp Eq ref ref") => `(tactic| refine Hold.out ?_)
local macro_rules | `(tactic| walk_at "compareOp NotEq ref ref") => `(tactic| refine Hold.out ?_)
local macro_rules
  | `(tactic| walk_at "call builtin:len cons nil") => `(tactic| (rename StopN 1 => st; refine Hold.out ?_))
  | `(tactic| walk_at "pyIter ref") => `(tactic| (rename StopN 2 => st; refine Hold.out ?_))
noncomputable abbrev loopNames : List Str := [Str.ofString "first", Str.ofString "behind", Str.ofString "held", Str.ofString "merged"]
structure RowFacts (ts ws rs : List Str) (es : List Rec) (wd i f b : Nat) : Prop where
  lt : f < b
  le : b ≤ ts.length
  row : rs.getD i Str.empty = Str.join (Str.ofString "") ((ts.take b).drop f)
  held : heldF ts f b ws wd ≠ []
  merged : ∃ e0 er, (es.take b).drop f = e0 :: er ∧ (er.foldl mergeF e0).1 = heldF ts f b ws wd ∧ (er.foldl mergeF e0).2 = (List.range (b - f)).map fun j : Nat => ((f + j : Nat) : Int)
inductive R12 (V cm : List (Str × Value)) (rest : List (Addr × Obj)) (i : Nat) (vars' cm' : List (Str × Value)) (rest' : List (Addr × Obj)) : Prop
  | mk (hvr : ∀ y, (∀ x ∈ loopNames, y ≠ x) → vars'.lookup y = V.lookup y) (hcm : ∀ y, y ≠ Str.ofString "k" → cm'.lookup y = cm.lookup y) (hsub : ∀ p ∈ rest, p ∈ rest') : R12 V cm rest i vars' cm' rest'
set_option maxHeartbeats 2000000 in
theorem stage12 {w : World} {A : Around} {E : Value → Shared → Prop} {s : Shared} {mg mb : Str → Option Value} {g h : Heap} {L tl hl rl lr ul : Addr} {tv hv rv wv pv : List Value} {ts ws rs : List Str} {es : List Rec} {rus : List (Nat × Nat)} {m1 m2 m3 m4 m5 wd : Nat} {tw : Tok} {ps qs : Array Value} {vars cm : List (Str × Value)} {rest rn pn : List (Addr × Obj)} {Q : Flow → Shared → Prop} {tk : Nat}
   (X : (fr.heap_1 w.params).In g) (T : TT mg mb g) (hh : A.handled = none) (hdp : A.depth < 800) (hun : A.units < 8000)
   (a : LawAt g h L ps qs ((Str.ofString "runs", .ref ul) :: (Str.ofString "rows", .ref lr) :: (Str.ofString "things", .ref tl) :: vars) cm rest) (c1_ : cm.lookup (Str.ofString "shown") = some (.ref hl)) (c2 : cm.lookup (Str.ofString "records") = some (.ref rl)) (c3 : cm.lookup (Str.ofString "width") = some (.int (wd : Int) tw))
   (hm : (tl, ({ cls := .type "list", data := .seq (List.toArray tv) m1 } : Obj)) ∈ rest) (htv : StrsAre tv ts) (htl : ts.length ≤ 6) (htw : wt ts ≤ 100)
   (hs : (hl, ({ cls := .type "list", data := .seq (List.toArray hv) m2 } : Obj)) ∈ rest) (hsv : StrsAre hv ws) (hwt : wt ws ≤ 800) (hok : ∀ x ∈ ws, PyData.strOk x = true) (hwd : wd ≤ 11)
   (hr : (rl, ({ cls := .type "list", data := .seq (List.toArray rv) m3 } : Obj)) ∈ rest) (hrn : ∀ p ∈ rn, p ∈ rest) (hrs : Ck rn fun h => RecsAt w h rv es) (hel : es.length ≤ 6) (heb : ∀ e ∈ es, e.1.length ≤ 1000 ∧ e.2.length ≤ 10)
   (hrw : (lr, ({ cls := .type "list", data := .seq (List.toArray wv) m4 } : Obj)) ∈ rest) (hrwv : StrsAre wv rs) (hrwt : wt rs ≤ 1000)
   (hu : (ul, ({ cls := .type "list", data := .seq (List.toArray pv) m5 } : Obj)) ∈ rest) (hpn : ∀ p ∈ pn, p ∈ rest) (hpv : Ck pn fun h => PairsAt h pv rus) (hrul : rus.length ≤ 1000) (hrl : rs.length = rus.length)
   (fact : ∀ i f b, rus[i]? = some (f, b) → RowFacts ts ws rs es wd i f b)
   (k : ∀ h' tk' vars' cm' rest', LawAt g h' L ps qs vars' cm' rest' → (∀ y, (∀ x ∈ loopNames, y ≠ x) → vars'.lookup y = ((Str.ofString "runs", Value.ref ul) :: (Str.ofString "rows", Value.ref lr) :: (Str.ofString "things", Value.ref tl) :: vars).lookup y) → (∀ y, y ≠ Str.ofString "k" → cm'.lookup y = cm.lookup y) → (∀ p ∈ rest, p ∈ rest') → Q .next { s with heap := h', toks := tk' }) :
   wpAny (model (Challenge.rw_rs0167_01.row.prog) w) (A.deeper (lawEnv L)) (execs ((lawBody.drop 17).take 1) (lawEnv L)) Q E { s with heap := h, toks := tk } := by
  revert X; k_fill; intro X
  obtain ⟨F, ⟨C₀, N, c⟩, far, low⟩ := a
  have P0 := hpv _ fun p hp => (N p (List.mem_append_right _ (hpn p hp))).1
  have hpl : pv.length = rus.length := P0.length
  clear P0
  replace N : News g L h ((ul, ({ cls := .type "list", data := .seq (List.toArray pv) m5 } : Obj)) :: (C₀ ++ rest)) := News.cons (N _ (List.mem_append_right _ hu)) N
  show wpAny (model _ _) (Around.deeper _ (envOfC _ (Scope.mk _ _ _ _ _) _ _ _)) (execs [_] (envOfC _ (Scope.mk _ _ _ _ _) _ _ _)) _ _ _
  try dsimp only
  try k_fold
  kwd_rel
  unfold Hold
  refine wpAny_For ?_
  have st : StopN 1 := .mk 1
  kwd_rel
  rename StopN _ => st
  clear st
  unfold Hold
  refine lenL (News.isList N (.head _)) hpl (by omega) ?_
  have st : StopN 2 := .mk 2
  kwd_rel
  rename StopN _ => st
  clear st
  unfold Hold
  rename IsRange _ _ _ _ _ _ _ _ => hR
  rename Fr _ _ _ _ => F1
  rename News _ _ _ _ => N1
  have a1 : LawAt g _ L ps qs ((Str.ofString "runs", .ref ul) :: (Str.ofString "rows", .ref lr) :: (Str.ofString "things", .ref tl) :: vars) cm rest := ⟨F1, ⟨C₀, fun p hp => N1 p (.tail _ hp), c⟩, far, low⟩
  clear F1 N1
  refine opq4 (R12 ((Str.ofString "runs", Value.ref ul) :: (Str.ofString "rows", Value.ref lr) :: (Str.ofString "things", Value.ref tl) :: vars) cm rest) fun R rI rE => ?_
  refine lawLoop (by exact hh) hR (by omega) a1 (fun _ _ => rfl) R (rI _ _ _ _ ⟨fun _ _ => rfl, fun _ _ => rfl, fun _ h => h⟩) ?_ ?_
  · intro i I oI h5 tk5 vars' cm' rest' t hi hRi hne b
    obtain ⟨hvr, hcm, hsub⟩ := rE _ _ _ _ hRi
    clear a1 hR hRi
    obtain ⟨F, ⟨C₁, N, c1⟩, far5, _⟩ := b
    obtain ⟨o5, C', x5, d5, sC, ne5, kC, pC⟩ := c1.take low 3 (by decide) (y := Str.ofString "k") rfl
    obtain ⟨o8, x8, d8⟩ := c1.cell 0 (by decide)
    obtain ⟨o2, x2, d2⟩ := c1.cell 6 (by decide)
    obtain ⟨o1, x1, d1⟩ := c1.cell 7 (by decide)
    replace d1 : o1.data = .cell (some (.ref rl)) := d1.trans (congrArg Data.cell ((hcm _ (by decide +kernel)).trans c2))
    replace d2 : o2.data = .cell (some (.ref hl)) := d2.trans (congrArg Data.cell ((hcm _ (by decide +kernel)).trans c1_))
    replace d8 : o8.data = .cell (some (.int (wd : Int) tw)) := d8.trans (congrArg Data.cell ((hcm _ (by decide +kernel)).trans c3))
    rw [upon_of hvr] at F
    have Rr : ∀ p ∈ rest, p ∈ C₁ ++ ((I, oI) :: rest') := fun p hp => List.mem_append_right _ (.tail _ (hsub p hp))
    replace N : News g L h5 ((ul, ({ cls := .type "list", data := .seq (List.toArray pv) m5 } : Obj)) :: (lr, ({ cls := .type "list", data := .seq (List.toArray wv) m4 } : Obj)) :: (tl, ({ cls := .type "list", data := .seq (List.toArray tv) m1 } : Obj)) :: (hl, ({ cls := .type "list", data := .seq (List.toArray hv) m2 } : Obj)) :: (rl, ({ cls := .type "list", data := .seq (List.toArray rv) m3 } : Obj)) :: (L + 1, o8) :: (L + 7, o2) :: (L + 8, o1) :: (L + 4, o5) :: (C' ++ ((I, oI) :: rest'))) :=
      News.cons (N _ (Rr _ hu)) (News.cons (N _ (Rr _ hrw)) (News.cons (N _ (Rr _ hm)) (News.cons (N _ (Rr _ hs)) (News.cons (N _ (Rr _ hr)) (News.cons (N _ (List.mem_append_left _ x8)) (News.cons (N _ (List.mem_append_left _ x2)) (News.cons (N _ (List.mem_append_left _ x1)) (News.cons (N _ (List.mem_append_left _ x5)) (News.tail N sC)))))))))
    have f1 : @Ne Nat tl (L + 4) := (far _ hm).ne (i := 3) (by decide)
    have f2 : @Ne Nat hl (L + 4) := (far _ hs).ne (i := 3) (by decide)
    have f3 : @Ne Nat rl (L + 4) := (far _ hr).ne (i := 3) (by decide)
    have f4 : @Ne Nat ul (L + 4) := (far _ hu).ne (i := 3) (by decide)
    have f5 : @Ne Nat lr (L + 4) := (far _ hrw).ne (i := 3) (by decide)
    have f6 : ∀ p ∈ C' ++ ((I, oI) :: rest'), p.1 ≠ L + 4 := tail_ne (L := L) (i := 3) ne5 far5 (by decide)
    have R' : ∀ p ∈ rest, p ∈ C' ++ ((I, oI) :: rest') := fun p hp => List.mem_append_right _ (.tail _ (hsub p hp))
    clear x5 x8 x2 x1 Rr
    have st : StopAt := trivial
    kwd_rel
    rename StopAt => st
    clear st
    rename _ = Data.cell (some (Value.int _ _)) => dk
    rename Fr _ _ _ _ => F6
    rename News _ _ _ _ => N6
    have hru : rus[i]? = some rus[i] := List.getElem?_eq_getElem hi
    generalize rus[i] = fb at hru
    obtain ⟨f, b⟩ := fb
    have fa := fact i f b hru
    have fle := fa.le
    have flt := fa.lt
    have frow := fa.row
    have P6 := hpv _ fun p hp => (N6 p (List.mem_append_right [_, _, _, _, _, _, _, _, _] (R' _ (hpn p hp)))).1
    obtain ⟨T6, u1, u2, n6, v6, e6⟩ := P6.nth i (f, b) hru
    dsimp only at e6
    refine item_listR (News.isList N6 (.head _)) (by omega) (by omega) (by simpa using v6) ?_
    dsimp only
    refine unpackN_ F6 N6 ⟨_, e6, rfl, _, rfl⟩ (by exact hh) (by rfl) (by rfl) ?_
    intro h7 F7 N7
    clear F6 N6 e6 v6 P6
    kwd_rel
    all_goals (try (exfalso; omega))
    · rename Fr _ _ _ _ => F8
      rename News _ _ _ _ => N8
      refine joinL (News.isList N8 (.head _)) (strs_pick htv _ _) (by decide) (Nat.le_trans (wt_pick _ _ _) (by omega)) ?_
      intro t9 k9
      rw [pickS_nat ts f b rfl rfl, ← frow]
      dsimp only [Int.toNat_natCast]
      kwd_rel
      all_goals (try (exfalso; rename (_ != _) = true => q; simp at q; done))
      unfold Hold
      rename StrsAre hv ws => hsv
      refine held_spec (first := f) (behind := b) (width := wd) (X.keeps F8.keep) (TopRead.keeps T F8.keep) hh (by simp only [depth_deeper]; omega) (News.isList N8 (.tail _ (.tail _ (.tail _ (.head _))))) (News.isList N8 (.tail _ (.tail _ (.tail _ (.tail _ (.head _)))))) htv hsv (by omega) (by omega) (by omega) (by omega) hwd ?_
      intro h9 tk9 r9 rv9 n9 k9 f9 e9 S9
      have fresh9 := Fresh.of_one f9 e9
      have N9 := news_add F8 N8 k9 fresh9
      have F9 := fr_up F8 k9
      have hh1 : ∀ x ∈ heldF ts f b ws wd, PyData.strOk x = true := fun x hx => hok x (held_sub hx)
      dsimp only [List.cons_append, List.nil_append] at N9
      rename_i D8 _ _ _
      clear F8 N8 f9 fresh9
      have hrl6 : rv.length = es.length := (hrs _ (fun p hp => (N9 p (List.mem_append_right [_, _, _, _, _, _, _, _, _, _, _] (R' _ (hrn p hp)))).1)).length
      kwd_rel
      rename Fr _ _ _ _ => F10
      rename News _ _ _ _ => N10
      rename_i D10 _ l10
      unfold Hold
      obtain ⟨e0, er, ees, emu, emr⟩ := fa.merged
      have ek : kms_pick rv (some (f : Int)) (some (b : Int)) = (rv.take b).drop f := pickS_nat rv f b rfl rfl
      have s10 : ∀ p ∈ rn, p ∈ rest' := fun p hp => hsub _ (hrn p hp)
      have erl : er.length ≤ 10 := by
        have q : ((es.take b).drop f).length = er.length + 1 := by rw [ees]; rfl
        rw [List.length_drop, List.length_take] at q
        omega
      refine merged_spec (e0 := e0) (es := er) (rn₀ := rn) (X.keeps F10.keep) (TopRead.keeps T F10.keep) hh (by simp only [depth_deeper]; omega) (News.isList N10 (.head _)) (fun p hp => (N10 p (List.mem_append_right [_, _, _, _, _, _, _, _, _, _, _, _] (List.mem_append_right _ (.tail _ (s10 p hp))))).1) (by rw [ek, ← ees]; exact fun h k => ((hrs h k).take b).drop f) (fun e he => heb e (List.mem_of_mem_take (List.mem_of_mem_drop (ees ▸ he)))) erl ?_
      intro h11 tk11 r11 rn11 k11 f11 C11
      have N11 := news_add F10 N10 k11 f11
      have F11 := fr_up F10 k11
      have N12 : News g L h11 ((r9, _) :: (L + 4, _) :: (C' ++ ((I, oI) :: (rn11 ++ rest')))) :=
        News.cons (N11 _ (List.mem_append_right rn11 (.tail _ (.head _)))) (News.cons (N11 _ (List.mem_append_right rn11 (List.mem_append_right [_, _, _, _, _, _, _, _, _, _, _] (.head _)))) fun p hp =>
          (List.mem_append.mp hp).elim (fun hp => N11 p (List.mem_append_right rn11 (List.mem_append_right [_, _, _, _, _, _, _, _, _, _, _, _] (List.mem_append_left _ hp)))) fun hp =>
            (List.mem_cons.mp hp).elim (fun e => e ▸ N11 _ (List.mem_append_right rn11 (List.mem_append_right [_, _, _, _, _, _, _, _, _, _, _, _] (List.mem_append_right _ (.head _))))) fun hp =>
              (List.mem_append.mp hp).elim (fun hp => N11 p (List.mem_append_left _ hp)) fun hp => N11 p (List.mem_append_right rn11 (List.mem_append_right [_, _, _, _, _, _, _, _, _, _, _, _] (List.mem_append_right _ (.tail _ hp)))))
      clear N11 F10 N10 l10 k11 f11
      kwd_rel
      rename Fr _ _ _ _ => F13
      rename News _ _ _ _ => N13
      rename StrsAre rv9 _ => S9
      unfold Hold
      refine sx_eq (News.isList N13 (.tail _ (.head _))) (News.isList N13 (.head _)) S9 .nil hh1 (List.forall_mem_nil _) (by show A.units + 3 + 64 < 9900; omega) ?_
      rw [decide_eq_false fa.held]
      have s13 : ∀ p ∈ rn11 ++ rn, p ∈ rn11 ++ rest' := fun p hp => List.mem_append.mpr ((List.mem_append.mp hp).imp_right (s10 p))
      obtain ⟨dd, y1, y2, y3, y4, lu, ll, uv, rv6, x1, x2, x3, x4, x5, x6⟩ := C11 _ fun p hp => (N13 p (List.mem_append_right [_, _, _] (List.mem_append_right _ (.tail _ (s13 p hp))))).1
      rw [emu] at x4
      rw [emr] at x6
      obtain ⟨Z, hZ, NZ, sZ⟩ := list_stays F13 (fun p hp => N13 p (List.mem_append_right [_, _, _] (List.mem_append_right _ (.tail _ hp))) : News g L _ (rn11 ++ rest')) x5
      have N14 : News g L _ ((r9, _) :: (L + 4, _) :: (C' ++ ((I, oI) :: Z))) :=
        News.cons (N13 _ (.tail _ (.head _))) (News.cons (N13 _ (.tail _ (.tail _ (.head _)))) fun p hp =>
          (List.mem_append.mp hp).elim (fun hp => N13 p (List.mem_append_right [_, _, _] (List.mem_append_left _ hp))) fun hp =>
            (List.mem_cons.mp hp).elim (fun e => e ▸ N13 _ (List.mem_append_right [_, _, _] (List.mem_append_right _ (.head _)))) fun hp => NZ p hp)
      have L13 := News.isList N13 (.tail _ (.head _))
      clear N13 NZ
      kwd_rel
      unfold Hold
      refine sx_ne x3 L13 x4 S9 hh1 hh1 (by show A.units + 3 + 64 < 9900; omega) ?_
      rw [decide_eq_true rfl]
      kwd_rel
      rename IsRange _ _ _ _ _ _ _ _ => hR2
      rename Fr _ _ _ _ => F15
      rename News _ _ _ _ => N15
      refine LCg.CompSrc.range (by exact hh) F15 N15 hR2 (PySem.small_one (by omega) (by omega) (by omega) (by omega)) (n := b - f) (by rw [PySem.rangeSize_one, if_pos (by omega)]; omega) (Nat.le_trans (by omega : _ ≤ 6) (by decide)) ?_
      intro g1
      refine comp_rest (fun i ys nw => nw = _ ∧ IntsAre ys (((List.range (b - f)).map fun j : Nat => ((f + j : Nat) : Int)).take i)) ⟨rfl, .nil⟩ ?_ ?_
      · rintro i2 v I2 oI2 C2 oC2 D2 m₂ ys nw h16 tk16 E' hi2 ⟨t2, rfl⟩ ⟨rfl, hck⟩ hC hx F16 N16 off ne
        clear F15 N15
        kwd_rel
        refine compEnd_keep F16 N16 off trivial ⟨rfl, ?_⟩
        rw [List.take_succ, List.getElem?_map, List.getElem?_range hi2]
        exact hck.append (.cons _ _ .nil)
      · rintro ys nw ⟨rfl, hck⟩
        intro D16 h16 tk16 F16 N16 o16
        clear F15 N15
        rw [List.take_of_length_le (by simp)] at hck
        clear o16
        kwd_rel
        unfold Hold
        refine ke_ne_ints (sZ _ _ F16 (fun p hp => N16 p (List.mem_append_right [_, _, _] (List.mem_append_right _ (.tail _ hp))))) (News.isList N16 (.head _)) x6 hck (by show A.units + 3 + 64 < 9900; omega) ?_
        rw [decide_eq_true rfl]
        have hup : ∀ y, upon loopNames (fun z => List.lookup z vars') (fun z => List.lookup z ((Str.ofString "runs", Value.ref ul) :: (Str.ofString "rows", Value.ref lr) :: (Str.ofString "things", Value.ref tl) :: vars)) y = List.lookup y vars' := fun y => (congrFun (upon_of hvr) y).symm
        kwd_rel
        refine ⟨_, _, (Str.ofString "merged", Value.ref r11) :: (Str.ofString "held", Value.ref r9) :: (Str.ofString "behind", Value.int (b : Int) u2) :: (Str.ofString "first", Value.int (f : Int) u1) :: vars', (Str.ofString "k", Value.int (i : Int) t) :: cm', rest', rfl,
          LawAt.ofAll F16 ?_ N16 (fun p hp => List.mem_append_right [_, _] (List.mem_append_left _ hp)) (List.forall_mem_cons.mpr ⟨List.mem_append_right [_, _, _] (List.mem_append_right _ (.head _)), fun p hp => List.mem_append_right [_, _, _] (List.mem_append_right _ (.tail _ (hZ p (List.mem_append_right _ hp))))⟩) (pC _ _ dk) far5 low, hne, rI _ _ _ _ ⟨?_, ?_, hsub⟩⟩
        · intro y
          rw [lk_cons, lk_cons, lk_cons, lk_cons, ← hup y]
        · intro y hy
          have q1 := hy (Str.ofString "first") (by simp)
          have q2 := hy (Str.ofString "behind") (by simp)
          have q3 := hy (Str.ofString "held") (by simp)
          have q4 := hy (Str.ofString "merged") (by simp)
          rw [lk_cons, if_neg q4, lk_cons, if_neg q3, lk_cons, if_neg q2, lk_cons, if_neg q1]
          exact hvr y hy
        · intro y hy
          rw [lk_cons, if_neg hy]
          exact hcm y hy
  · intro h5 tk5 vars' cm' rest' hRi b
    obtain ⟨hvr, hcm, hsub⟩ := rE _ _ _ _ hRi
    refine wpAny_execs_nil ?_
    refine wpAny_execs_nil ?_
    exact k _ _ _ _ _ b hvr hcm hsub
end XL12
section
variable {prog : Program} {w : World} {A : Around} {E : Value → Shared → Prop} {s : Shared} {h₀ : Heap} {L : Addr} {m : Str → Option Value} {env : Env}
inductive EndK (h₀ : Heap) (L : Addr) (m : Str → Option Value) (s₁ : Shared) (I : Addr) (oI : Obj) (C K : Addr) (oK : Obj) (D : Addr) (ys : List Value) (R : List Value → List (Addr × Obj) → Prop) (y : Value) (s' : Shared) : Prop
  | mk (h' : Heap) (tk' : Nat) (nw' : List (Addr × Obj)) (e : s' = { s₁ with heap := h', toks := tk' }) (F : Fr h₀ L h' m) (N : News h₀ L h' ((I, oI) :: (C, emptyDict) :: (K, oK) :: (D, LCg.lst ys) :: nw'))
      (off : ∀ p ∈ nw', @Ne Nat p.1 I ∧ @Ne Nat p.1 C ∧ @Ne Nat p.1 K ∧ @Ne Nat p.1 D) (r : R (ys ++ [y]) nw') : EndK h₀ L m s₁ I oI C K oK D ys R y s'
inductive SrcK (prog : Program) (w : World) (A : Around) (h₀ : Heap) (L : Addr) (m : Str → Option Value) (env : Env) (elt : PySem.Expr) (x : Str) (scope : Scope) (cl : List (Str × Addr)) (Q : Value → Shared → Prop) (xv : Value) (s₁ : Shared) : Prop
  | mk (r : Addr) (t u v : Tok) (n : Nat) (news : List (Addr × Obj)) (Rl : Nat → List Value → List (Addr × Obj) → Prop) (e : xv = .ref r) (F : Fr h₀ L s₁.heap m) (N : News h₀ L s₁.heap news) (hr : IsRange s₁.heap r 0 (n : Int) 1 t u v) (hn : n ≤ 1000) (h0 : Rl 0 [] news)
      (turn : ∀ i I oI C K oK D ys nw h tk t (E' : Value → Shared → Prop), i < n → Rl i ys nw → oK.data = .cell (some (.int (i : Int) t)) → Fr h₀ L h m → News h₀ L h ((I, oI) :: (C, emptyDict) :: (K, oK) :: (D, LCg.lst ys) :: nw) →
        (∀ p ∈ nw, @Ne Nat p.1 I ∧ @Ne Nat p.1 C ∧ @Ne Nat p.1 K ∧ @Ne Nat p.1 D) → (@Ne Nat I C ∧ @Ne Nat I K ∧ @Ne Nat I D ∧ @Ne Nat C K ∧ @Ne Nat C D ∧ @Ne Nat K D) →
        wpAny (model prog w) A (eval elt (compEnvC scope ((x, K) :: cl) C env)) (fun y s' => EndK h₀ L m s₁ I oI C K oK D ys (Rl (i + 1)) y s') E' { s₁ with heap := h, toks := tk })
      (fin : ∀ ys nw D h tk, Rl n ys nw → Fr h₀ L h m → News h₀ L h ((D, LCg.lst ys) :: nw) → (∀ p ∈ nw, @Ne Nat p.1 D) → Q (.ref D) { s₁ with heap := h, toks := tk }) : SrcK prog w A h₀ L m env elt x scope cl Q xv s₁
inductive TurnK (h₀ : Heap) (L : Addr) (m : Str → Option Value) (s₁ : Shared) (I C K D : Addr) (n : Nat) (Rl : Nat → List Value → List (Addr × Obj) → Prop) (k : Nat) (s' : Shared) : Prop
  | mk (h' : Heap) (tk i : Nat) (ys : List Value) (nw : List (Addr × Obj)) (oK : Obj) (v0 : Option Value) (e : s' = { s₁ with heap := h', toks := tk }) (hi : i ≤ n) (hk : k = n + 1 - i) (hyl : ys.length = i) (hst : IsRangeIter h' I (0 + (i : Nat) * 1) ((n : Int) - (i : Nat)) 1) (F : Fr h₀ L h' m)
      (N : News h₀ L h' ((C, emptyDict) :: (D, LCg.lst ys) :: nw)) (eK : h'.get? K = some oK) (dK : oK.data = .cell v0) (off : ∀ p ∈ nw, @Ne Nat p.1 I ∧ @Ne Nat p.1 C ∧ @Ne Nat p.1 K ∧ @Ne Nat p.1 D) (r : Rl i ys nw) : TurnK h₀ L m s₁ I C K D n Rl k s'
theorem ListComp_K {elt iter : PySem.Expr} {x n0 n2 n3 : Str} {px : Pos} {scope : Scope} {cl : List (Str × Addr)} {pos : Pos} {Q : Value → Shared → Prop}
    (hsc : scope.names = [(n0, .local), (x, .cell), (n2, .globalImplicit), (n3, .free)]) (hn0 : (x == n0) = false) (hkind : scope.kind = .function) (hclos : closureFor scope env = pure cl) (hh : A.handled = none)
    (h : wpAny (model prog w) A (eval iter env) (SrcK prog w A h₀ L m env elt x scope cl Q) E s)
    (hs : ∀ x, foldedSetIterable iter env x = pure x := by intro _; rfl) :
    wpAny (model prog w) A (eval (.ListComp elt [⟨.Name x px, iter, [], 0⟩] scope pos) env) Q E s := by
  rw [eval_ListComp]
  refine wpAny_comprehension_free (use := none) rfl hs hclos hkind (fun y hy hl => ?_) (wpAny_mono h (fun xv s₁ h₁ => ?_) fun _ _ e => e)
  · rw [hsc] at hy ⊢
    simp only [List.mem_cons, List.not_mem_nil, or_false] at hy
    rcases hy with rfl | rfl | rfl | rfl
    · simp
    · cases hl
    · cases hl
    · cases hl
  · obtain ⟨r, t, u, v, n, news, Rl, rfl, F, N, hr, hn, h0, turn, fin⟩ := h₁
    refine wpAny_pyIter_range hr (small_up n (by omega)) ?_
    rw [size_up]
    refine wpAny_newObj_type ?_
    dsimp only
    simp only [newFunctionEnv, Option.isSome_some, if_true]
    refine wpAny_bind (wpAny_alloc ?_)
    rw [hsc]
    simp only [List.forIn_cons, List.forIn_nil, show (NameKind.local == NameKind.cell) = false from rfl, show (NameKind.cell == NameKind.cell) = true from rfl, show (NameKind.globalImplicit == NameKind.cell) = false from rfl, show (NameKind.free == NameKind.cell) = false from rfl, if_true, Bool.false_eq_true, if_false, pure_bind, bind_assoc]
    refine wpAny_bind (wpAny_alloc ?_)
    refine wpAny_pure ?_
    dsimp only
    have z1 : (s₁.heap.push { cls := .type "range_iterator", data := .fields #[rawInt 0, rawInt ((n : Nat) : Int), rawInt 1] }).objs.size = s₁.heap.objs.size + 1 := Heap.size_push ..
    generalize hH1 : s₁.heap.push { cls := .type "range_iterator", data := .fields #[rawInt 0, rawInt ((n : Nat) : Int), rawInt 1] } = H1 at z1 ⊢
    have z2 : (H1.push { cls := .type "list", data := .seq #[] }).objs.size = s₁.heap.objs.size + 1 + 1 := by rw [Heap.size_push, z1]
    generalize hH2 : H1.push { cls := .type "list", data := .seq #[] } = H2 at z2 ⊢
    have z3 : (H2.push { cls := .type "dict", data := .dict #[] }).objs.size = s₁.heap.objs.size + 1 + 1 + 1 := by rw [Heap.size_push, z2]
    generalize hH3 : H2.push { cls := .type "dict", data := .dict #[] } = H3 at z3 ⊢
    generalize hH4 : H3.push { cls := .type "cell", data := .cell none } = H4
    have u1 : ∀ b o, s₁.heap.get? b = some o → H1.get? b = some o := fun b o e => hH1 ▸ Heap.get?_push_of_some _ e
    have u2 : ∀ b o, H1.get? b = some o → H2.get? b = some o := fun b o e => hH2 ▸ Heap.get?_push_of_some _ e
    have u3 : ∀ b o, H2.get? b = some o → H3.get? b = some o := fun b o e => hH3 ▸ Heap.get?_push_of_some _ e
    have u4 : ∀ b o, H3.get? b = some o → H4.get? b = some o := fun b o e => hH4 ▸ Heap.get?_push_of_some _ e
    have old : ∀ b o, s₁.heap.get? b = some o → H4.get? b = some o := fun b o e => u4 _ _ (u3 _ _ (u2 _ _ (u1 _ _ e)))
    have gI : H4.get? s₁.heap.objs.size = some { cls := .type "range_iterator", data := .fields #[rawInt 0, rawInt ((n : Nat) : Int), rawInt 1] } := u4 _ _ (u3 _ _ (u2 _ _ (hH1 ▸ Heap.get?_push_size _ rfl)))
    have gD : H4.get? H1.objs.size = some (LCg.lst []) := u4 _ _ (u3 _ _ (hH2 ▸ Heap.get?_push_size _ rfl))
    have gC : H4.get? H2.objs.size = some emptyDict := u4 _ _ (hH3 ▸ Heap.get?_push_size _ rfl)
    have gK : H4.get? H3.objs.size = some { cls := .type "cell", data := .cell none } := hH4 ▸ Heap.get?_push_size _ rfl
    have lt₁ : ∀ b o, s₁.heap.get? b = some o → @LT.lt Nat _ b s₁.heap.objs.size := fun b o e => Heap.lt_size e
    have fresh₀ : ∀ a : Nat, s₁.heap.objs.size ≤ a → h₀.get? a = none := fun a ha => by
      cases e : h₀.get? a with
      | none => rfl
      | some o' => exact absurd (lt₁ _ _ (F.keep a o' e)) (Nat.not_lt.mpr ha)
    have hLlt : @LT.lt Nat _ L s₁.heap.objs.size := F.ns.lt
    have nlt : ∀ p ∈ news, @LT.lt Nat _ p.1 s₁.heap.objs.size := fun p hp => lt₁ _ _ (N p hp).1
    have I0 := fresh₀ s₁.heap.objs.size (Nat.le_refl _)
    have D0 := fresh₀ H1.objs.size (by rw [z1]; omega)
    have C0 := fresh₀ H2.objs.size (by rw [z2]; omega)
    have K0 := fresh₀ H3.objs.size (by rw [z3]; omega)
    generalize H1.objs.size = D at z1 gD D0 ⊢
    generalize H2.objs.size = C at z2 gC C0 ⊢
    generalize H3.objs.size = K at z3 gK K0 ⊢
    generalize s₁.heap.objs.size = I at z1 z2 z3 gI I0 hLlt nlt ⊢
    have hst : IsRangeIter H4 I (0 + ((0 : Nat) : Int) * 1) (((n : Nat) : Int) - ((0 : Nat) : Int)) 1 := by show IsRangeIter _ _ _ _ _; simpa using gI
    have F4 : Fr h₀ L H4 m := F.keeps old
    have N4 : News h₀ L H4 news := N.grown old
    clear hH1 hH2 hH3 hH4 u1 u2 u3 u4 lt₁ fresh₀ hr
    have W := Walks.range (prog := prog) (w := w) hh I 0 1 n
    have loop : ∀ s₃ : Shared, s₃ = { s₁ with heap := H4 } →
        codeAny (model prog w) A (.compLoop (.ListComp elt [⟨.Name x px, iter, [], 0⟩] scope pos) 0 (.ref I) (.ref D) (compEnvC scope ((x, K) :: cl) C env)) (compPost (model prog w) A E none Q (.ref D) C) s₃ := by
      rintro s₃ rfl
      refine codeAny_compLoop_tests
        (TurnK h₀ L m s₁ I C K D n Rl) ?_ (n + 1)
        ⟨H4, s₁.toks, 0, [], news, _, _, rfl, Nat.zero_le _, rfl, rfl, hst, F4, ?_, gK, rfl, fun p hp => ?_, h0⟩
      · rintro k s' ⟨h', tk, i, ys, nw, oK, v0, rfl, hi, rfl, hyl, hst', F', N', eK, dK, off, hRl⟩
        have hIL : L ≠ I := by show @Ne Nat L I; omega
        have hIC : @Ne Nat I C := by omega
        have hID : @Ne Nat I D := by omega
        have hIK : @Ne Nat I K := by omega
        have hCK : @Ne Nat C K := by omega
        have hCD : @Ne Nat C D := by omega
        have hKD : @Ne Nat K D := by omega
        have hKL : @Ne Nat K L := by omega
        have hDL : @Ne Nat D L := by omega
        have hCL : @Ne Nat C L := by omega
        by_cases hlt : i < n
        · refine W.item i _ _ _ hlt hst' fun v h₂ tk₂ hPv hst₂ hk₂ => ?_
          obtain ⟨t, rfl⟩ := hPv
          have e0 : (0 : Int) + (i : Int) * 1 = (i : Int) := by omega
          rw [e0]
          have off1 : ∀ b : Addr, @Ne Nat b I → b ∉ [I] := fun b q q' => q (List.mem_singleton.mp q')
          have eK₂ : h₂.get? K = some oK := hk₂ K oK (off1 _ (Ne.symm hIK)) eK
          refine wpAny_assign_Name (wpAny_storeName_cell (c := K) (by simp [compEnvC, relabel, hkind]) (by simp [compEnvC, relabel, Env.kindOf, hsc, List.lookup, hn0]) (by simp [compEnvC]) ⟨oK, eK₂, dK⟩ fun h₃ hv₃ hs₃ => ?_)
          refine wpAny_tests_nil ?_
          simp only [if_true]
          obtain ⟨oK', eK', dK'⟩ := hv₃
          have eI₂ : h₂.get? I = some _ := hst₂
          have F₂ : Fr h₀ L h₂ m := LCg.fr_but F' hk₂ hIL I0
          have F₃ : Fr h₀ L h₃ m := F₂.change hs₃ hKL K0
          have N₂ : News h₀ L h₂ ((C, emptyDict) :: (D, LCg.lst ys) :: nw) := LCg.news_but N' hk₂ fun p hp => by
            rcases List.mem_cons.mp hp with rfl | hp
            · exact Ne.symm hIC
            rcases List.mem_cons.mp hp with rfl | hp
            · exact Ne.symm hID
            · exact (off p hp).1
          have N₃ : News h₀ L h₃ ((I, _) :: (C, emptyDict) :: (K, oK') :: (D, LCg.lst ys) :: nw) := fun p hp => by
            rcases List.mem_cons.mp hp with rfl | hp
            · exact ⟨hs₃.extBut _ _ hIK eI₂, Ne.symm hIL, I0⟩
            rcases List.mem_cons.mp hp with rfl | hp
            · have z := N₂ _ (.head _)
              exact ⟨hs₃.extBut _ _ hCK z.1, z.2⟩
            rcases List.mem_cons.mp hp with rfl | hp
            · exact ⟨eK', hKL, K0⟩
            rcases List.mem_cons.mp hp with rfl | hp
            · have z := N₂ _ (.tail _ (.head _))
              exact ⟨hs₃.extBut _ _ (Ne.symm hKD) z.1, z.2⟩
            · have z := N₂ _ (.tail _ (.tail _ hp))
              exact ⟨hs₃.extBut _ _ (off p hp).2.2.1 z.1, z.2⟩
          refine wpAny_mono (turn i I _ C K oK' D ys nw h₃ tk₂ t _ hlt hRl dK' F₃ N₃ off ⟨hIC, hIK, hID, hCK, hCD, hKD⟩) (fun y s₄ h₄ => ?_) fun _ _ e => e
          obtain ⟨h₄, tk₄, nw₄, rfl, F₄, N₄, off₄, R₄⟩ := h₄
          have zI := (N₄ _ (.head _)).1
          have zC := (N₄ _ (.tail _ (.head _))).1
          have zK := (N₄ _ (.tail _ (.tail _ (.head _)))).1
          have zD := (N₄ _ (.tail _ (.tail _ (.tail _ (.head _))))).1
          refine append_at (hsz := by show ys.toArray.size ≤ sizeLine; rw [List.size_toArray, hyl]; exact Nat.le_trans (by omega : i ≤ 1000) (by decide)) zD fun h₅ hs₅ hD₅ => ?_
          refine ⟨n + 1 - (i + 1), by omega, h₅, tk₄, i + 1, ys ++ [y], nw₄, oK', _, rfl, hlt, rfl, by rw [List.length_append, List.length_singleton, hyl], hs₅.extBut I _ hID zI, F₄.change hs₅ hDL D0, fun p hp => ?_, hs₅.extBut K _ hKD zK, dK', off₄, R₄⟩
          rcases List.mem_cons.mp hp with rfl | hp
          · exact ⟨hs₅.extBut C _ hCD zC, hCL, C0⟩
          rcases List.mem_cons.mp hp with rfl | hp
          · exact ⟨hD₅.trans (congrArg some (LCg.lst_snoc ys y)), hDL, D0⟩
          · have z := N₄ p (.tail _ (.tail _ (.tail _ (.tail _ hp))))
            exact ⟨hs₅.extBut _ _ (off₄ p hp).2.2.2 z.1, z.2⟩
        · obtain rfl : i = n := Nat.le_antisymm hi (Nat.not_lt.mp hlt)
          refine W.done _ _ _ hst' fun h₂ tk₂ hk₂ => ?_
          have F₂ : Fr h₀ L h₂ m := LCg.fr_but F' hk₂ hIL I0
          have N₂ : News h₀ L h₂ ((C, emptyDict) :: (D, LCg.lst ys) :: nw) := LCg.news_but N' hk₂ fun p hp => by
            rcases List.mem_cons.mp hp with rfl | hp
            · exact Ne.symm hIC
            rcases List.mem_cons.mp hp with rfl | hp
            · exact Ne.symm hID
            · exact (off p hp).1
          refine ⟨fun _ => none, ⟨emptyDict, #[], _, (N₂ _ (.head _)).1, rfl, ?_, fun _ => rfl⟩, fun h'' hs'' => fin ys nw D h'' tk₂ hRl (F₂.change hs'' hCL C0) (fun p hp => ?_) fun p hp => (off p hp).2.2.2⟩
          · intro y hy; simp at hy
          rcases List.mem_cons.mp hp with rfl | hp
          · have z := N₂ _ (.tail _ (.head _))
            exact ⟨hs''.extBut _ _ (Ne.symm hCD) z.1, z.2⟩
          · have z := N₂ _ (.tail _ (.tail _ hp))
            exact ⟨hs''.extBut _ _ (off p hp).2.1 z.1, z.2⟩
      · intro p hp
        rcases List.mem_cons.mp hp with rfl | hp
        · exact ⟨gC, by show @Ne Nat C L; omega, C0⟩
        rcases List.mem_cons.mp hp with rfl | hp
        · exact ⟨gD, by show @Ne Nat D L; omega, D0⟩
        · exact N4 p hp
      · have q := nlt p hp
        refine ⟨?_, ?_, ?_, ?_⟩ <;> omega
    exact codeAny_compStart_list (loop _ rfl) (W.self 0 _ _ _ hst (loop _ rfl))
end
section XL13
local macro_rules | `(tactic| walk_at "subscriptTail Name Name ref int") => `(tactic| refine Hold.out ?_)
local macro_rules | `(tactic| walk_at "call ref") => `(tactic| refine Hold.out ?_)
local macro_rules | `(tactic| k_inst) => `(tactic| exact inst_here (by assumption) (by assumption))
local macro_rules | `(tactic| walk_at "compareOp Eq ref ref") => `(tactic| refine Hold.out ?_)
local macro_rules | `(tactic| walk_at "eval ListComp") => `(tactic| refine Hold.out ?_)
local macro_rules
  | `(tactic| walk_at "eval Name") => `(tactic| (rename StopN 1 => st; refine Hold.out ?_))
theorem nameK_B {M : Model} {A : Around} {E : Value → Shared → Prop} {s : Shared} {K : Frag} {h₀ : Heap} {L C : Addr} {m mg mb : Str → Option Value} {scope : Scope} {cl : List (Str × Addr)} {env : Env} {p : Program} {loose : List Str} {x : Str} {pos : Pos} {v : Value} {Q : Value → Shared → Prop}
    (F : Fr h₀ L s.heap m) (X : K.In h₀) (T : TopRead p loose mg mb h₀) (e : nsIn K mainGlobals x = some none) (hv : bootBuiltins x = some v) (hn : x ≠ "__name__") (hg : env.globals = mainGlobals) (hb : env.builtins = builtinsNs)
    (hk : (compEnvC scope cl C env).scope.kind = .function) (hx : (compEnvC scope cl C env).kindOf x = some .globalImplicit) (hd : (x == ("__debug__" : Str)) = false) (h : Q v s) : wpAny M A (eval (.Name x pos) (compEnvC scope cl C env)) Q E s :=
  Name_function_global hk hx (loadGlobal_builtin (env := compEnvC scope cl C env) (show s.heap.Ns env.globals mg from hg ▸ (T.g.keeps F.keep)) (mg_none_of X T.g e) (show s.heap.Ns env.builtins mb from hb ▸ (T.b.keeps F.keep)) ((T.builtins x hn).trans hv) h) hd
noncomputable def strangeRow (es : List Rec) (k : Nat) : List Bool := (List.range k).map fun i => decide ((mergeF (es.getD i ([], [])) (es.getD k ([], []))).1 = [])
noncomputable def strangeF (es : List Rec) : List (List Bool) := (List.range es.length).map (strangeRow es)
inductive BoolsIn (rest : List (Addr × Obj)) : List Value → List (List Bool) → Prop
  | nil : BoolsIn rest [] []
  | cons {T : Addr} {n : Nat} {bs : List Bool} {vs : List Value} {bss : List (List Bool)} : (T, ({ cls := .type "list", data := .seq (bs.map Value.bool).toArray n } : Obj)) ∈ rest → BoolsIn rest vs bss → BoolsIn rest (.ref T :: vs) (bs :: bss)
theorem BoolsIn.mono {rest rest' : List (Addr × Obj)} {vs : List Value} {bss : List (List Bool)} (x : BoolsIn rest vs bss) (k : ∀ p ∈ rest, p ∈ rest') : BoolsIn rest' vs bss := by
  induction x with
  | nil => exact .nil
  | cons e _ ih => exact .cons (k _ e) ih
theorem BoolsIn.append {rest : List (Addr × Obj)} {vs us : List Value} {bss css : List (List Bool)} (x : BoolsIn rest vs bss) (y : BoolsIn rest us css) : BoolsIn rest (vs ++ us) (bss ++ css) := by
  induction x with
  | nil => exact y
  | cons e _ ih => exact .cons e ih
theorem mem_move {α : Type} {p a : α} {P C rn rest : List α} (h : p ∈ P ++ (C ++ ((a :: rn) ++ rest))) : p ∈ a :: (P ++ (C ++ (rn ++ rest))) := by
  rcases List.mem_append.mp h with h | h
  · exact .tail _ (List.mem_append_left _ h)
  rcases List.mem_append.mp h with h | h
  · exact .tail _ (List.mem_append_right _ (List.mem_append_left _ h))
  rcases List.mem_cons.mp h with rfl | h
  · exact .head _
  · exact .tail _ (List.mem_append_right _ (List.mem_append_right _ h))
inductive C13 (L : Addr) (W : List (Addr × Obj) → List (Addr × Obj)) (es : List Rec) (i : Nat) (ys : List Value) (nw : List (Addr × Obj)) : Prop
  | mk (rn : List (Addr × Obj)) (e : nw = W rn) (hb : BoolsIn rn ys ((strangeF es).take i)) (hfar : ∀ p ∈ rn, Far L p.1) : C13 L W es i ys nw
set_option maxHeartbeats 1000000 in
theorem stage13 {w : World} {A : Around} {E : Value → Shared → Prop} {s : Shared} {mg mb : Str → Option Value} {g h : Heap} {L rl : Addr} {rv : List Value} {es : List Rec} {m3 : Nat} {ps qs : Array Value} {vars cm : List (Str × Value)} {rest rn : List (Addr × Obj)} {Q : Flow → Shared → Prop} {tk : Nat}
   (X : (fr.heap_1 w.params).In g) (T : TT mg mb g) (hh : A.handled = none) (hdp : A.depth < 800) (hun : A.units < 8000)
   (a : LawAt g h L ps qs vars cm rest) (c2 : cm.lookup (Str.ofString "records") = some (.ref rl))
   (hr : (rl, ({ cls := .type "list", data := .seq (List.toArray rv) m3 } : Obj)) ∈ rest) (hrn : ∀ p ∈ rn, p ∈ rest) (hrs : Ck rn fun h => RecsAt w h rv es) (hel : es.length ≤ 6) (heb : ∀ e ∈ es, e.1.length ≤ 1000 ∧ e.2.length ≤ 10) (hok : ∀ e ∈ es, ∀ x ∈ e.1, PyData.strOk x = true)
   (k : ∀ h' tk' gl gv m4 new, LawAt g h' L ps qs vars ((Str.ofString "strange", .ref gl) :: cm) (new ++ rest) →
     (gl, ({ cls := .type "list", data := .seq (List.toArray gv) m4 } : Obj)) ∈ new → BoolsIn new gv (strangeF es) → Q .next { s with heap := h', toks := tk' }) :
   wpAny (model (Challenge.rw_rs0167_01.row.prog) w) (A.deeper (lawEnv L)) (execs ((lawBody.drop 18).take 1) (lawEnv L)) Q E { s with heap := h, toks := tk } := by
  revert X; k_fill; intro X
  obtain ⟨F, ⟨C₀, N, c⟩, far, low⟩ := a
  obtain ⟨oS, C', xS, dS, sC, neS, kC, pC⟩ := c.take low 8 (by decide) (y := Str.ofString "strange") rfl
  obtain ⟨o1, x1, d1⟩ := c.cell 7 (by decide)
  replace d1 : o1.data = .cell (some (.ref rl)) := d1.trans (congrArg Data.cell c2)
  have R0 := hrs _ fun p hp => (N p (List.mem_append_right _ (hrn p hp))).1
  have hrl : rv.length = es.length := R0.length
  clear R0
  replace N : News g L h ((rl, ({ cls := .type "list", data := .seq (List.toArray rv) m3 } : Obj)) :: (L + 8, o1) :: (L + 9, oS) :: (C' ++ rest)) :=
    News.cons (N _ (List.mem_append_right _ hr)) (News.cons (N _ (List.mem_append_left _ x1)) (News.cons (N _ (List.mem_append_left _ xS)) (News.tail N sC)))
  have e1 : @Ne Nat rl (L + 9) := (far _ hr).ne (i := 8) (by decide)
  clear x1 xS
  show wpAny (model _ _) (Around.deeper _ (envOfC _ (Scope.mk _ _ _ _ _) _ _ _)) (execs [_] (envOfC _ (Scope.mk _ _ _ _ _) _ _ _)) _ _ _
  try dsimp only
  try k_fold
  kwd_rel
  unfold Hold
  k_dflt (refine ListComp_K (m := fun y => vars.lookup y) (h₀ := g) (L := L) (by rfl) (by decide +kernel) (by rfl) (by with_unfolding_all rfl) (by exact hh) ?_)
  kwd_rel
  refine lenL (News.isList N (.head _)) hrl (by omega) ?_
  kwd_rel
  rename IsRange _ _ _ _ _ _ _ _ => hR
  rename Fr _ _ _ _ => F1
  rename News _ _ _ _ => N1
  refine opq3 (C13 L (fun rn' => (rl, ({ cls := .type "list", data := .seq (List.toArray rv) m3 } : Obj)) :: (L + 8, o1) :: (L + 9, oS) :: (C' ++ (rn' ++ rest))) es) fun Z zI zE => ?_
  refine ⟨_, _, _, _, es.length, _, Z, rfl, F1, N1, hR, by omega, zI _ _ _ ⟨[], rfl, .nil, List.forall_mem_nil _⟩, ?_, ?_⟩
  · intro i I oI C K oK D ys nw h5 tk5 t E' hi hZi dK F5 N5 off ne
    obtain ⟨rn', rfl, hb, hfar⟩ := zE _ _ _ hZi
    clear F1 N1 hR hZi
    kwd_rel
    unfold Hold
    k_dflt (refine LCg.ListComp_U (F₀ := F5) (by with_unfolding_all rfl) (by decide) (by rfl) (by decide) (by rfl) ?_)
    have st : StopN 1 := .mk 1
    kwd_rel
    rename StopN _ => st
    clear st
    unfold Hold
    k_dflt (refine' nameK_B ?n1 ?n2 ?n3 ?n4 ?n5 ?n6 ?n7 ?n8 ?n9 ?na ?nb ?_; (case n1 => k_asm); (case n2 => k_asm); (case n3 => k_asm); (case n4 => k_is); (case n5 => boot_fast); (case n6 => decide); (case n7 => rfl); (case n8 => rfl); (case n9 => rfl); (case na => rfl); (case nb => decide))
    kwd_rel
    rename IsRange _ _ _ _ _ _ _ _ => hR2
    rename Fr _ _ _ _ => F6
    rename News _ _ _ _ => N6
    refine LCg.CompSrc.range (by exact hh) F6 N6 hR2 (small_up _ (by omega)) (size_up _) (Nat.le_trans (by omega : i ≤ 6) (by decide)) ?_
    intro g2
    refine comp_rest (fun j zs nw => nw = _ ∧ zs = ((strangeRow es i).take j).map Value.bool) ⟨rfl, rfl⟩ ?_ ?_
    · rintro j v I2 oI2 C2 oC2 D2 m₂ zs nw h7 tk7 E2 hj ⟨t2, rfl⟩ ⟨rfl, rfl⟩ hC hx F7 N7 off2 ne2
      clear F6 N6 hR2
      rw [Int.zero_add] at hx
      have tailm : ∀ p ∈ rn' ++ rest, h7.get? p.1 = some p.2 := fun p hp => (N7 p (List.mem_append_right [_, _, _, _, _, _, _, _, _, _] (List.mem_append_right _ hp))).1
      have R7 := hrs h7 fun p hp => tailm p (List.mem_append_right _ (hrn p hp))
      have hji : j < es.length := by omega
      have ea : es[j]? = some es[j] := List.getElem?_eq_getElem hji
      have eb : es[i]? = some es[i] := List.getElem?_eq_getElem hi
      have hrow : (strangeRow es i)[j]? = some (decide ((mergeF es[j] es[i]).1 = [])) := by
        rw [strangeRow, List.getElem?_map, List.getElem?_range hj]
        simp only [Option.map_some, List.getD_eq_getElem?_getD, ea, eb, Option.getD_some]
      obtain ⟨ra, va, Ea⟩ := R7.at_ j _ ea
      obtain ⟨rb, vb, Eb⟩ := R7.at_ i _ eb
      have ba := heb _ (List.getElem_mem hji)
      have bb := heb _ (List.getElem_mem hi)
      have oa := hok _ (List.getElem_mem hji)
      generalize es[j] = xa at ea hrow Ea ba oa
      generalize es[i] = xb at eb hrow Eb bb
      have Lr := News.isList N7 (List.mem_append_right [_, _, _, _, _, _, _] (.head _))
      kwd_rel
      refine item_listR (x := .ref ra) Lr (by omega) (by omega) (by simpa using va) ?_
      kwd_rel
      refine item_listR (x := .ref rb) Lr (by omega) (by omega) (by simpa using vb) ?_
      kwd_rel
      unfold Hold
      rename Fr _ _ _ _ => F8
      rename News _ _ _ _ => N8
      refine merge_spec (X.keeps F8.keep) (TopRead.keeps T F8.keep) hh (by simp only [depth_deeper]; omega) Ea Eb ba.1 bb.1 (by omega) (by omega) ?_
      intro h8 tk8 r8 rn8 k8 f8 C8
      have F9 := fr_up F8 k8
      obtain ⟨dd, y1, y2, y3, y4, lu, ll, uv, rv8, x1, x2, x3, x4, x5, x6⟩ := C8 h8 fun p hp => (f8 p hp).2
      obtain ⟨Z, hZ, NZ, sZ⟩ := list_stays F9 (N8.grown k8) x3
      clear F8 N8
      kwd_rel
      rename Fr _ _ _ _ => F11
      rename News _ _ _ _ => N11
      unfold Hold
      refine sx_eq (sZ _ _ F11 (fun p hp => N11 p (.tail _ hp))) (News.isList N11 (.head _)) x4 .nil (fun x hx => oa x (List.mem_filter.mp hx).1) (List.forall_mem_nil _) (by show A.units + 3 + 64 < 9900; omega) ?_
      refine compEnd_keep F11 (fun p hp => N11 p (.tail _ (hZ p hp))) off2 trivial ⟨rfl, ?_⟩
      rw [List.take_succ, hrow, List.map_append]
      rfl
    · rintro zs nw ⟨rfl, rfl⟩
      intro D7 h7 tk7 F7 N7 o7
      clear F6 N6
      rw [List.take_of_length_le (by simp [strangeRow])] at N7
      have q7 := off1_mem o7
      have fD : Far L D7 := c.apart1 kC (q7 _ (List.mem_append_right [_, _, _, _, _, _] (.head _))) fun p hp => q7 p (List.mem_append_right [_, _, _, _, _, _, _] (List.mem_append_left _ hp))
      have w0 : @Ne Nat I D7 := q7 _ (.head _)
      have w1 : @Ne Nat C D7 := q7 _ (.tail _ (.head _))
      have w2 : @Ne Nat K D7 := q7 _ (.tail _ (.tail _ (.head _)))
      have w3 : @Ne Nat D D7 := q7 _ (.tail _ (.tail _ (.tail _ (.head _))))
      have hrow : (strangeF es)[i]? = some (strangeRow es i) := by
        rw [strangeF, List.getElem?_map, List.getElem?_range hi]; rfl
      refine ⟨h7, tk7, (rl, _) :: (_, _) :: (_, _) :: (C' ++ (((D7, LCg.lst ((strangeRow es i).map Value.bool)) :: rn') ++ rest)), rfl, F7, fun p hp => N7 p (mem_move (P := [_, _, _, _, _, _, _]) hp), fun p hp => ?_, zI _ _ _ ⟨(D7, LCg.lst ((strangeRow es i).map Value.bool)) :: rn', rfl, ?_, List.forall_mem_cons.mpr ⟨fD, hfar⟩⟩⟩
      · rcases List.mem_cons.mp (mem_move (P := [_, _, _]) hp) with rfl | hp
        · exact ⟨Ne.symm w0, Ne.symm w1, Ne.symm w2, Ne.symm w3⟩
        · exact off p hp
      · rw [List.take_add_one, hrow]
        exact (hb.mono fun p hp => .tail _ hp).append (.cons (.head _) .nil)
  · intro ys nw D h5 tk5 hZi F5 N5 off
    obtain ⟨rn', rfl, hb, hfar⟩ := zE _ _ _ hZi
    clear F1 N1 hR hZi
    rw [List.take_of_length_le (by simp [strangeF])] at hb
    have far2 : ∀ p ∈ rn' ++ rest, Far L p.1 := fun p hp => (List.mem_append.mp hp).elim (hfar p) (far p)
    have fD : Far L D := c.apart1 kC (off _ (.tail _ (.tail _ (.head _)))) fun p hp => off p (List.mem_append_right [_, _, _] (List.mem_append_left _ hp))
    have e2 : @Ne Nat D (L + 9) := fD.ne (i := 8) (by decide)
    have e3 : ∀ p ∈ C' ++ (rn' ++ rest), p.1 ≠ L + 9 := tail_ne (L := L) (i := 8) neS far2 (by decide)
    kwd_rel
    rename _ = Data.cell (some (Value.ref D)) => dM
    rename Fr _ _ _ _ => F9
    rename News _ _ _ _ => N9
    exact k _ _ D ys _ _ (LawAt.of3 (P := [_]) (P2 := [_, _]) (rn := rn') (rest := rest) F9 (fun _ => rfl) N9 (pC _ _ dM) (List.forall_mem_cons.mpr ⟨fD, List.forall_mem_nil _⟩) hfar far low) (.head _) (hb.mono fun p hp => .tail _ hp)
end XL13
inductive SetsIn (rest : List (Addr × Obj)) : List Value → List (List Nat) → Prop
  | nil : SetsIn rest [] []
  | cons {T : Addr} {n : Nat} {iv : List Value} {q : List Nat} {vs : List Value} {qs : List (List Nat)} : (T, ({ cls := .type "list", data := .seq (List.toArray iv) n } : Obj)) ∈ rest → IntsAre iv (q.map fun x : Nat => (x : Int)) → SetsIn rest vs qs → SetsIn rest (.ref T :: vs) (q :: qs)
namespace SetsIn
variable {rest rest' : List (Addr × Obj)} {vs us : List Value} {qs rs : List (List Nat)}
theorem mono (x : SetsIn rest vs qs) (k : ∀ p ∈ rest, p ∈ rest') : SetsIn rest' vs qs := by
  induction x with
  | nil => exact .nil
  | cons e i _ ih => exact .cons (k _ e) i ih
theorem append (x : SetsIn rest vs qs) (y : SetsIn rest us rs) : SetsIn rest (vs ++ us) (qs ++ rs) := by
  induction x with
  | nil => exact y
  | cons e i _ ih => exact .cons e i ih
theorem length (x : SetsIn rest vs qs) : vs.length = qs.length := by
  induction x with
  | nil => rfl
  | cons _ _ _ ih => simp [ih]
theorem nth (x : SetsIn rest vs qs) : ∀ (i : Nat) (v : Value), vs[i]? = some v → ∃ (T : Addr) (n : Nat) (iv : List Value) (q : List Nat), v = .ref T ∧ qs[i]? = some q ∧ (T, ({ cls := .type "list", data := .seq (List.toArray iv) n } : Obj)) ∈ rest ∧ IntsAre iv (q.map fun x : Nat => (x : Int)) := by
  induction x with
  | nil => intro i v e; simp at e
  | cons e hi _ ih =>
    intro i v h
    cases i with
    | zero => simp at h; exact ⟨_, _, _, _, h.symm, rfl, e, hi⟩
    | succ i => simpa using ih i v (by simpa using h)
end SetsIn
theorem BoolsIn.nth {rest : List (Addr × Obj)} {vs : List Value} {bss : List (List Bool)} (x : BoolsIn rest vs bss) : ∀ (i : Nat) (bs : List Bool), bss[i]? = some bs → ∃ (T : Addr) (n : Nat), vs[i]? = some (.ref T) ∧ (T, ({ cls := .type "list", data := .seq (bs.map Value.bool).toArray n } : Obj)) ∈ rest := by
  induction x with
  | nil => intro i v e; simp at e
  | cons e _ ih =>
    intro i v h
    cases i with
    | zero => simp at h; subst h; exact ⟨_, _, rfl, e⟩
    | succ i => simpa using ih i v (by simpa using h)
theorem BoolsIn.length {rest : List (Addr × Obj)} {vs : List Value} {bss : List (List Bool)} (x : BoolsIn rest vs bss) : vs.length = bss.length := by
  induction x with
  | nil => rfl
  | cons _ _ ih => simp [ih]
section
variable {prog : Program} {w : World} {A : Around} {s : Shared} {h₀ : Heap} {L : Addr} {m : Str → Option Value} {env : Env} {ct elt : PySem.Expr} {x : Str} {scope : Scope} {cl : List (Str × Addr)} {S : List (Addr × Obj) → Prop} {Fin : List Value → List (Addr × Obj) → Prop} {news : List (Addr × Obj)} {P : Nat → Value → Prop} {n : Nat}
theorem comp_restT (Rl : Nat → List Value → List (Addr × Obj) → Prop) (h0 : Rl 0 [] news)
    (turn : ∀ (i : Nat) (v : Value) (I : Addr) (oI : Obj) (C : Addr) (oC : Obj) (D : Addr) (m₂ : Str → Option Value) (ys : List Value) (nw : List (Addr × Obj)) (h : Heap) (tk : Nat) (E' : Value → Shared → Prop), i < n → P i v → Rl i ys nw → LCg.NsObj oC m₂ → m₂ x = some v → Fr h₀ L h m →
      News h₀ L h ((I, oI) :: (C, oC) :: (D, LCg.lst ys) :: nw) → LCg.Off3 I C D nw → ((@Ne Nat I C) ∧ (@Ne Nat I D) ∧ (@Ne Nat C D)) →
      wpAny (model prog w) A (isTrue ct (compEnvC scope cl C env) (eval ct (compEnvC scope cl C env))) (fun ok s' => if ok = true then
        wpAny (model prog w) A (eval elt (compEnvC scope cl C env)) (LCg.CompEnd h₀ L m { s with heap := h, toks := tk } I oI C oC D (LCg.lst ys) S (fun y nw' => Rl (i + 1) (ys ++ [y]) nw')) E' s'
        else LCg.CompEnd h₀ L m { s with heap := h, toks := tk } I oI C oC D (LCg.lst ys) S (fun _ nw' => Rl (i + 1) ys nw') Value.none s') E' { s with heap := h, toks := tk })
    (fin : ∀ ys nw, Rl n ys nw → Fin ys nw) : LCt.CompRestT prog w A h₀ L m env ct elt x scope cl s S P Fin n 0 [] news := by
  have key : ∀ (k i : Nat) (ys : List Value) (nw : List (Addr × Obj)), i + k = n → Rl i ys nw → LCt.CompRestT prog w A h₀ L m env ct elt x scope cl s S P Fin k i ys nw := by
    intro k
    induction k with
    | zero =>
      intro i ys nw e h
      have e' : i = n := by omega
      subst e'
      exact LCt.CompRestT.zero (fin ys nw h)
    | succ k ih =>
      intro i ys nw e h
      refine LCt.CompRestT.succ fun v I oI C oC D m₂ g tk E' hP hC hx F N off ne => ?_
      refine wpAny_mono (turn i v I oI C oC D m₂ ys nw g tk E' (by omega) hP h hC hx F N off ne) (fun ok s' hok => ?_) fun _ _ q => q
      cases ok with
      | true =>
        rw [if_pos rfl] at hok ⊢
        exact wpAny_mono hok (fun y s' hy => compEnd_mono (fun y nw' q => ih (i + 1) _ nw' (by omega) q) hy) fun _ _ q => q
      | false =>
        rw [if_neg Bool.false_ne_true] at hok ⊢
        exact compEnd_mono (fun _ nw' q => ih (i + 1) _ nw' (by omega) q) hok
  exact key n 0 [] news (by omega) h0
end
set_option maxHeartbeats 1000000 in
theorem stage14a {w : World} {A : Around} {E : Value → Shared → Prop} {s : Shared} {mg mb : Str → Option Value} {g h : Heap} {L : Addr} {ps qs : Array Value} {vars cm : List (Str × Value)} {rest : List (Addr × Obj)} {Q : Flow → Shared → Prop} {tk : Nat}
   (X : (fr.heap_1 w.params).In g) (T : TT mg mb g) (hh : A.handled = none) (hdp : A.depth < 800)
   (a : LawAt g h L ps qs vars cm rest)
   (k : ∀ h' tk' al av m1 new, LawAt g h' L ps qs ((Str.ofString "apart", .ref al) :: vars) cm (new ++ rest) → (al, ({ cls := .type "list", data := .seq (List.toArray av) m1 } : Obj)) ∈ new → SetsIn new av [[]] → Q .next { s with heap := h', toks := tk' }) :
   wpAny (model (Challenge.rw_rs0167_01.row.prog) w) (A.deeper (lawEnv L)) (execs ((lawBody.drop 19).take 1) (lawEnv L)) Q E { s with heap := h, toks := tk } := by
  revert X; k_fill; intro X
  obtain ⟨F, ⟨C₀, N, c⟩, far, low⟩ := a
  obtain ⟨_, m9, _⟩ := c.cell 8 (by decide)
  have m9 : _ ∈ C₀ ++ rest := List.mem_append_left _ m9
  show wpAny (model _ _) (Around.deeper _ (envOfC _ (Scope.mk _ _ _ _ _) _ _ _)) (execs [_] (envOfC _ (Scope.mk _ _ _ _ _) _ _ _)) _ _ _
  try dsimp only
  try k_fold
  kwd_rel
  dsimp only at *
  rename Fr _ _ _ _ => F9
  rename News _ _ _ _ => N9
  rename ∀ (p : Addr × Obj), p ∈ C₀ ++ rest → p.fst < _ => l8
  rename _ ∧ AllLt _ _ => l9
  exact k _ _ _ [.ref _] _ _ (LawAt.of (new := [_, _]) (rest := rest) F9 (fun y => (lk_cons y _ _ _).symm) N9 c (List.forall_mem_cons.mpr ⟨far_big low (allLt_mem l9.2 _ m9), List.forall_mem_cons.mpr ⟨far_big low (l8 _ m9), List.forall_mem_nil _⟩⟩) far low) (.head _) (.cons (iv := []) (.tail _ (.head _)) .nil .nil)
section XL14
local macro_rules | `(tactic| walk_at "subscriptTail Name Name ref int") => `(tactic| refine Hold.out ?_)
local macro_rules | `(tactic| walk_at "binaryOp Add ref ref") => `(tactic| refine Hold.out ?_)
local macro_rules | `(tactic| walk_at "exec For") => `(tactic| refine Hold.out ?_)
local macro_rules | `(tactic| walk_at "eval ListComp") => `(tactic| refine Hold.out ?_)
local macro_rules | `(tactic| walk_at "eval Name") => `(tactic| (k_here; (with_reducible show wpAny _ _ (eval (.Name _ _) (compEnvC _ _ _ _)) _ _ _); k_dflt (refine' nameK_B ?_ ?_ ?_ ?_ ?_ ?_ ?_ ?_ ?_ ?_ ?_ ?_; rotate_right 12; k_asm; k_asm; k_asm; k_is; boot_fast; decide; rfl; rfl; rfl; rfl; decide; k_whole)))
local macro_rules
  | `(tactic| walk_at "call builtin:len cons nil") => `(tactic| (rename StopN 1 => st; refine Hold.out ?_))
  | `(tactic| walk_at "pyIter ref") => `(tactic| (rename StopN 2 => st; refine Hold.out ?_))
  | `(tactic| walk_at "subscriptTail Subscript") => `(tactic| (k_here; k_dflt (refine kba_turn (value' := PySem.Expr.Name (PySem.Str.ofString "_") ⟨0, 0, 0, 0⟩) (fun _ => rfl) ?_)))
theorem ite_over (y a : Str) (u v : Value) (r : List (Str × Value)) : (if y = a then some u else List.lookup y ((a, v) :: r)) = if y = a then some u else List.lookup y r := by
  by_cases e : y = a
  · rw [if_pos e, if_pos e]
  · rw [if_neg e, if_neg e, lk_cons, if_neg e]
theorem mem_move2 {α : Type} {p a b : α} {P C rn rest : List α} (h : p ∈ P ++ (C ++ (b :: ((a :: rn) ++ rest)))) : p ∈ a :: (P ++ (C ++ (b :: (rn ++ rest)))) := by
  rcases List.mem_append.mp h with h | h
  · exact .tail _ (List.mem_append_left _ h)
  rcases List.mem_append.mp h with h | h
  · exact .tail _ (List.mem_append_right _ (List.mem_append_left _ h))
  rcases List.mem_cons.mp h with rfl | h
  · exact .tail _ (List.mem_append_right _ (List.mem_append_right _ (.head _)))
  rcases List.mem_cons.mp h with rfl | h
  · exact .head _
  · exact .tail _ (List.mem_append_right _ (List.mem_append_right _ (.tail _ h)))
theorem bools_are : ∀ bs : List Bool, LSm.BoolsAre (bs.map Value.bool) bs
  | [] => .nil
  | b :: r => .cons b (bools_are r)
inductive R14 (rest : List (Addr × Obj)) (vars cm : List (Str × Value)) (M : List (List Bool)) (i : Nat) (vars' cm' : List (Str × Value)) (rest' : List (Addr × Obj)) : Prop
  | mk (al' : Addr) (av' : List Value) (m4 : Nat) (e : vars' = (Str.ofString "apart", Value.ref al') :: vars) (hcm : ∀ y, y ≠ Str.ofString "k" → cm'.lookup y = cm.lookup y) (hsub : ∀ p ∈ rest, p ∈ rest') (ha' : (al', ({ cls := .type "list", data := .seq (List.toArray av') m4 } : Obj)) ∈ rest') (hav' : SetsIn rest' av' (apartF M i)) : R14 rest vars cm M i vars' cm' rest'
inductive C14 (L I : Addr) (W : List (Addr × Obj) → List (Addr × Obj)) (M : List (List Bool)) (i : Nat) (j : Nat) (ys : List Value) (nw : List (Addr × Obj)) : Prop
  | mk (rn : List (Addr × Obj)) (e : nw = W rn) (hys : SetsIn rn ys ((((apartF M i).take j).filter (fitsIn M i)).map (· ++ [i]))) (hfar : ∀ p ∈ rn, Far L p.1) (hneI : ∀ p ∈ rn, p.1 ≠ I) : C14 L I W M i j ys nw
set_option maxHeartbeats 1000000 in
theorem stage14 {w : World} {A : Around} {E : Value → Shared → Prop} {s : Shared} {mg mb : Str → Option Value} {g h : Heap} {L rl gl al : Addr} {rv gv av : List Value} {M : List (List Bool)} {n m1 m2 m3 : Nat} {ps qs : Array Value} {vars cm : List (Str × Value)} {rest : List (Addr × Obj)} {Q : Flow → Shared → Prop} {tk : Nat}
   (X : (fr.heap_1 w.params).In g) (T : TT mg mb g) (hh : A.handled = none) (hdp : A.depth < 800)
   (a : LawAt g h L ps qs ((Str.ofString "apart", .ref al) :: vars) cm rest) (c2 : cm.lookup (Str.ofString "records") = some (.ref rl)) (c4 : cm.lookup (Str.ofString "strange") = some (.ref gl))
   (hr : (rl, ({ cls := .type "list", data := .seq (List.toArray rv) m1 } : Obj)) ∈ rest) (hrl : rv.length = n) (hn : n ≤ 6) (hg : (gl, ({ cls := .type "list", data := .seq (List.toArray gv) m2 } : Obj)) ∈ rest) (hgv : BoolsIn rest gv M) (hMl : M.length = n) (hMr : ∀ k, k < n → (M.getD k []).length = k)
   (ha : (al, ({ cls := .type "list", data := .seq (List.toArray av) m3 } : Obj)) ∈ rest) (hav : SetsIn rest av [[]])
   (k : ∀ h' tk' al' av' m4 cm' rest', LawAt g h' L ps qs ((Str.ofString "apart", .ref al') :: vars) cm' rest' → (∀ p ∈ rest, p ∈ rest') → (al', ({ cls := .type "list", data := .seq (List.toArray av') m4 } : Obj)) ∈ rest' → SetsIn rest' av' (apartF M n) → Q .next { s with heap := h', toks := tk' }) :
   wpAny (model (Challenge.rw_rs0167_01.row.prog) w) (A.deeper (lawEnv L)) (execs ((lawBody.drop 20).take 1) (lawEnv L)) Q E { s with heap := h, toks := tk } := by
  revert X; k_fill; intro X
  obtain ⟨F, ⟨C₀, N, c⟩, far, low⟩ := a
  obtain ⟨o1, x1, d1⟩ := c.cell 7 (by decide)
  replace d1 : o1.data = .cell (some (.ref rl)) := d1.trans (congrArg Data.cell c2)
  replace N : News g L h ((rl, ({ cls := .type "list", data := .seq (List.toArray rv) m1 } : Obj)) :: (L + 8, o1) :: (C₀ ++ rest)) := News.cons (N _ (List.mem_append_right _ hr)) (News.cons (N _ (List.mem_append_left _ x1)) N)
  show wpAny (model _ _) (Around.deeper _ (envOfC _ (Scope.mk _ _ _ _ _) _ _ _)) (execs [_] (envOfC _ (Scope.mk _ _ _ _ _) _ _ _)) _ _ _
  try dsimp only
  try k_fold
  kwd_rel
  unfold Hold
  refine wpAny_For ?_
  have st : StopN 1 := .mk 1
  kwd_rel
  rename StopN _ => st
  clear st
  unfold Hold
  refine lenL (News.isList N (.head _)) hrl (by omega) ?_
  have st : StopN 2 := .mk 2
  kwd_rel
  rename StopN _ => st
  clear st
  unfold Hold
  rename IsRange _ _ _ _ _ _ _ _ => hR
  rename Fr _ _ _ _ => F1
  rename News _ _ _ _ => N1
  have a1 : LawAt g _ L ps qs ((Str.ofString "apart", .ref al) :: vars) cm rest := ⟨F1, ⟨C₀, fun p hp => N1 p (.tail _ (.tail _ hp)), c⟩, far, low⟩
  clear F1 N1
  refine opq4 (R14 rest vars cm M) fun R rI rE => ?_
  refine lawLoop (by exact hh) hR (by omega) a1 (fun _ _ => rfl) R (rI _ _ _ _ ⟨al, av, m3, rfl, fun _ _ => rfl, fun _ h => h, ha, hav⟩) ?_ ?_
  · intro i I oI h5 tk5 vars' cm' rest' t hi hRi hne b
    obtain ⟨al', av', m4, rfl, hcm, hsub, ha', hav'⟩ := rE _ _ _ _ hRi
    clear a1 hR hRi
    obtain ⟨F, ⟨C₁, N, c1⟩, far5, _⟩ := b
    obtain ⟨o5, C', x5, d5, sC, ne5, kC, pC⟩ := c1.take low 3 (by decide) (y := Str.ofString "k") rfl
    obtain ⟨o0, x0, d0⟩ := c1.cell 8 (by decide)
    replace d0 : o0.data = .cell (some (.ref gl)) := d0.trans (congrArg Data.cell ((hcm _ (by decide +kernel)).trans c4))
    replace N : News g L h5 ((al', ({ cls := .type "list", data := .seq (List.toArray av') m4 } : Obj)) :: (gl, ({ cls := .type "list", data := .seq (List.toArray gv) m2 } : Obj)) :: (L + 9, o0) :: (L + 4, o5) :: (C' ++ ((I, oI) :: rest'))) :=
      News.cons (N _ (List.mem_append_right _ (.tail _ ha'))) (News.cons (N _ (List.mem_append_right _ (.tail _ (hsub _ hg)))) (News.cons (N _ (List.mem_append_left _ x0)) (News.cons (N _ (List.mem_append_left _ x5)) (News.tail N sC))))
    have f1 : @Ne Nat al' (L + 4) := (far5 _ (.tail _ ha')).ne (i := 3) (by decide)
    have f2 : @Ne Nat gl (L + 4) := (far _ hg).ne (i := 3) (by decide)
    have f3 : ∀ p ∈ C' ++ ((I, oI) :: rest'), p.1 ≠ L + 4 := tail_ne (L := L) (i := 3) ne5 far5 (by decide)
    have far6 : ∀ p ∈ rest', Far L p.1 := fun p hp => far5 p (.tail _ hp)
    clear x0 x5
    kwd_rel
    rename _ = Data.cell (some (Value.int _ _)) => dk
    rename Obj => o6
    rename Fr _ _ _ _ => F6
    rename News _ _ _ _ => N6
    unfold Hold
    k_dflt (refine LCt.ListComp_T (F₀ := F6) (by with_unfolding_all rfl) (by decide) (by rfl) (by decide) (by rfl) ?_)
    kwd_rel
    have hal : av'.length = (apartF M i).length := hav'.length
    have hpl := apart_len M i
    have hp2 : 2 ^ i ≤ 2 ^ 6 := Nat.pow_le_pow_right (by decide) (by omega)
    refine LCt.CompSrcT.ledger (by exact hh) F6 N6 (.head _) (by rw [List.size_toArray, hal]; exact Nat.le_trans (Nat.le_trans hpl hp2) (by decide)) ?_
    intro g1
    refine opq3 (C14 L I (fun rn => (al', { cls := .type "list", data := .seq (List.toArray av') m4 }) :: (gl, { cls := .type "list", data := .seq (List.toArray gv) m2 }) :: (L + 9, o0) :: (L + 4, o6) :: (C' ++ ((I, oI) :: (rn ++ rest')))) M i) fun Z zI zE => ?_
    refine comp_restT Z (zI _ _ _ ⟨[], rfl, .nil, List.forall_mem_nil _, List.forall_mem_nil _⟩) ?_ ?_
    · intro j v I2 oI2 C2 oC2 D2 m₂ ys nw h7 tk7 E2 hj hP hZ hC hx F7 N7 off ne
      obtain ⟨rn, rfl, hys, hfar, hneI⟩ := zE _ _ _ hZ
      clear hZ
      obtain ⟨T7, n7, iv, q, rfl, hq, hm7, hiv⟩ := hav'.nth j v (by simpa using hP)
      have hql := apart_lt M i q (List.mem_of_getElem? hq)
      clear F6 N6
      kwd_rel
      unfold Hold
      k_dflt (refine LCg.ListComp_U (F₀ := by k_asm) (by with_unfolding_all rfl) (by decide) (by rfl) (by decide) (by rfl) ?_)
      kwd_rel
      have hiv' : iv.length = q.length := by rw [hiv.length, List.length_map]
      have memT : (T7, ({ cls := .type "list", data := .seq (List.toArray iv) n7 } : Obj)) ∈ rn ++ rest' := List.mem_append_right _ hm7
      refine LCg.CompSrc.ledger (by exact hh) F7 N7 (List.mem_append_right [_, _, _, _, _, _, _] (List.mem_append_right _ (.tail _ memT))) (by rw [List.size_toArray, hiv']; exact Nat.le_trans (Nat.le_trans hql.2 (by omega : i ≤ 6)) (by decide)) ?_
      intro g3
      refine comp_rest (fun j2 zs nw => nw = _ ∧ zs = ((q.map fun x => (M.getD i []).getD x false).take j2).map Value.bool) ⟨rfl, rfl⟩ ?_ ?_
      · rintro j2 v I3 oI3 C3 oC3 D3 m₃ zs nw h8 tk8 E3 hj2 hP3 ⟨rfl, rfl⟩ hC3 hx3 F8 N8 off3 ne3
        refine opaqueQ fun K₈ hK₈ => ?_
        obtain ⟨c, tc, rfl⟩ := hiv.int_at j2 v (by simpa using hP3)
        clear F7 N7
        obtain ⟨x, hx5⟩ : ∃ x, q[j2]? = some x := by
          have : j2 < q.length := by simp only [List.size_toArray, hiv'] at hj2; exact hj2
          exact ⟨_, List.getElem?_eq_getElem this⟩
        rw [getD_cast hx5] at hx3
        have hxi : x < i := hql.1 x (List.mem_of_getElem? hx5)
        obtain ⟨row, hrow⟩ : ∃ row, M[i]? = some row := ⟨_, List.getElem?_eq_getElem (by omega)⟩
        have hrl2 : row.length = i := by
          have := hMr i hi
          rw [List.getD_eq_getElem?_getD, hrow] at this
          exact this
        obtain ⟨Tr, nr, eTr, mTr⟩ := (hgv.mono hsub).nth i row hrow
        have hgl : gv.length = M.length := hgv.length
        have Lg := News.isList N8 (List.mem_append_right [_, _, _, _, _, _, _] (.head _))
        have Lr := News.isList N8 (List.mem_append_right [_, _, _, _, _, _, _, _, _, _] (List.mem_append_right _ (.tail _ (List.mem_append_right rn mTr))))
        kwd_rel
        refine item_listR (x := .ref Tr) Lg (by omega) (by omega) (by simpa using eTr) ?_
        kwd_rel
        refine item_listR (x := .bool (row.getD x false)) Lr (by omega) (by simp; omega) (by simp [hxi, hrl2, List.getD_eq_getElem?_getD]) ?_
        refine hK₈ _ _ (compEnd_keep F8 N8 off3 ?_ ⟨rfl, ?_⟩)
        · exact .inr ⟨({ cls := .type "list", data := .seq (List.toArray iv) n7 } : Obj), List.mem_append_right [_, _, _, _, _, _, _] (List.mem_append_right _ (.tail _ memT)), rfl, _, rfl⟩
        · rw [List.take_add_one, List.getElem?_map, hx5, List.map_append, List.getD_eq_getElem?_getD (l := M), hrow]
          rfl
      · rintro zs nw ⟨rfl, rfl⟩
        intro D8 h8 tk8 F8 N8 o8x
        clear F7 N7
        rw [List.take_of_length_le (by simp [hiv'])] at N8
        kwd_rel
        have Lb : h8.IsList D8 (List.toArray ((q.map fun x => (M.getD i []).getD x false).map Value.bool)) := ⟨_, (N8 _ (.head _)).1, rfl, _, rfl⟩
        refine LSm.all_bools F8 N8 (by exact hh) Lb (bools_are _) ?_
        intro h9 tk9 F9 N9
        have efit : ((q.map fun x => (M.getD i []).getD x false).all id) = fitsIn M i q := by rw [List.all_map]; rfl
        rw [efit]
        clear F8 N8 efit
        have hsrc : ∀ nw', LCg.SrcAt g al' av'.toArray ((al', ({ cls := .type "list", data := .seq (List.toArray av') m4 } : Obj)) :: nw') := fun _ => .inr ⟨_, .head _, rfl, _, rfl⟩
        kwd_rel
        · rename Fr _ _ _ _ => F10
          rename News _ _ _ _ => N10
          rename fitsIn M i q = true => hfit
          refine kmk_add_lit (zs := iv ++ [Value.int (i : Int) t]) F10 N10 (News.isList N10 (List.mem_append_right [_, _, _, _, _, _, _, _, _] (List.mem_append_right _ (.tail _ memT)))) (News.isList N10 (.head _)) (by rfl) ?_ (by show iv.length + 1 ≤ sizeLine; have := hql.2; exact Nat.le_trans (by omega : _ ≤ 7) (by decide))
          intro D11 h11 F11 N11 l11
          have q0 : Far L D11 := c1.over low kC (fun p hp => l11 p (List.mem_append_right [_, _, _, _, _, _, _, _, _] (List.mem_append_left _ hp))) (l11 _ (List.mem_append_right [_, _, _, _, _, _, _, _] (.head _)))
          have q1 : @LT.lt Nat _ I2 D11 := l11 _ (.tail _ (.tail _ (.head _)))
          have q2 : @LT.lt Nat _ C2 D11 := l11 _ (.tail _ (.tail _ (.tail _ (.head _))))
          have q3 : @LT.lt Nat _ D2 D11 := l11 _ (.tail _ (.tail _ (.tail _ (.tail _ (.head _)))))
          have q4 : @LT.lt Nat _ I D11 := l11 _ (List.mem_append_right [_, _, _, _, _, _, _, _, _] (List.mem_append_right _ (.head _)))
          clear F10 N10 l11
          refine LCg.CompEnd.intro F11 N11 ((al', _) :: (gl, _) :: (L + 9, _) :: (L + 4, _) :: (C' ++ ((I, oI) :: (((D11, PySem.W.listOf (iv ++ [Value.int (i : Int) t]).toArray 0) :: rn) ++ rest')))) (fun p hp => ?_) (LCg.Off3.of fun p hp => ?_) (hsrc _) (zI _ _ _ ⟨(D11, PySem.W.listOf (iv ++ [Value.int (i : Int) t]).toArray 0) :: rn, rfl, ?_, List.forall_mem_cons.mpr ⟨q0, hfar⟩, List.forall_mem_cons.mpr ⟨Nat.ne_of_gt q4, hneI⟩⟩)
          · rcases List.mem_cons.mp (mem_move2 (P := [_, _, _, _, _, _, _]) hp) with rfl | hp
            · exact .head _
            · exact .tail _ (.tail _ (.tail _ hp))
          · rcases List.mem_cons.mp (mem_move2 (P := [_, _, _, _]) hp) with rfl | hp
            · exact ⟨Nat.ne_of_gt q1, Nat.ne_of_gt q2, Nat.ne_of_gt q3⟩
            · exact off.mem p hp
          · rw [List.take_add_one, hq, List.filter_append, List.map_append]
            refine (hys.mono fun p hp => .tail _ hp).append ?_
            have e2 : ((some q).toList.filter (fitsIn M i)).map (· ++ [i]) = [q ++ [i]] := by
              show ([q].filter (fitsIn M i)).map (· ++ [i]) = _
              rw [List.filter_cons_of_pos hfit]; rfl
            rw [e2]
            refine .cons (.head _) ?_ .nil
            rw [List.map_append]
            exact hiv.append (.cons _ _ .nil)
        · rename fitsIn M i q = false => hfit
          refine compEnd_keep F9 (fun p hp => N9 p (.tail _ hp)) off (hsrc _) (zI _ _ _ ⟨rn, rfl, ?_, hfar, hneI⟩)
          have e2 : (some q).toList.filter (fitsIn M i) = [] := by
            show [q].filter (fitsIn M i) = []
            rw [List.filter_cons_of_neg (by rw [hfit]; exact Bool.false_ne_true)]; rfl
          rw [List.take_add_one, hq, List.filter_append, e2, List.append_nil]
          exact hys
    · intro ys nw hZ D7 h7 tk7 F7 N7 o7x
      obtain ⟨rn, rfl, hys, hfar, hneI⟩ := zE _ _ _ hZ
      clear hZ
      clear F6 N6
      rw [List.take_of_length_le (by rw [List.size_toArray, hal]; exact Nat.le_refl _)] at hys
      kwd_rel
      have hyl : ys.length ≤ 64 := by
        have e := hys.length
        have f := List.length_filter_le (fitsIn M i) (apartF M i)
        rw [List.length_map] at e
        exact Nat.le_trans (by omega : ys.length ≤ 2 ^ i) (Nat.le_trans hp2 (by decide))
      have hal' : av'.length ≤ 64 := by rw [hal]; exact Nat.le_trans hpl (Nat.le_trans hp2 (by decide))
      refine kmk_add_lit (zs := av' ++ ys) F7 N7 (News.isList N7 (.tail _ (.head _))) (News.isList N7 (.head _)) (by rfl) ?_ (by show av'.length + ys.length ≤ sizeLine; exact Nat.le_trans (by omega : _ ≤ 128) (by decide))
      intro D8 h8 F8 N8 l8
      have q0 : Far L D8 := c1.over low kC (fun p hp => l8 p (List.mem_append_right [_, _, _, _, _] (List.mem_append_left _ hp))) (l8 _ (List.mem_append_right [_, _, _, _] (.head _)))
      have q4 : @LT.lt Nat _ I D8 := l8 _ (List.mem_append_right [_, _, _, _, _] (List.mem_append_right _ (.head _)))
      clear F7 N7 l8 o7x
      kwd_rel
      rename Fr _ _ _ _ => F9
      rename News _ _ _ _ => N9
      exact ⟨_, _, (Str.ofString "apart", Value.ref D8) :: vars, (Str.ofString "k", .int (i : Int) t) :: cm', (D8, ({ cls := .type "list", data := .seq (List.toArray (av' ++ ys)) 0 } : Obj)) :: (rn ++ rest'), rfl,
        LawAt.ofAll F9 (fun y => (ite_over _ _ _ _ _).trans (lk_cons y _ _ _).symm) N9 (fun p hp => List.mem_append_right [_, _, _, _, _] (List.mem_append_left _ hp))
          (List.forall_mem_cons.mpr ⟨List.mem_append_right [_, _, _, _, _, _] (List.mem_append_right _ (.head _)), List.forall_mem_cons.mpr ⟨.head _, fun p hp => List.mem_append_right [_, _, _, _, _, _] (List.mem_append_right _ (.tail _ hp))⟩⟩)
          (pC _ _ dk) (List.forall_mem_cons.mpr ⟨far5 _ (.head _), List.forall_mem_cons.mpr ⟨q0, fun p hp => (List.mem_append.mp hp).elim (hfar p) (far6 p)⟩⟩) low,
        List.forall_mem_cons.mpr ⟨Nat.ne_of_gt q4, fun p hp => (List.mem_append.mp hp).elim (hneI p) (hne p)⟩, rI _ _ _ _ ⟨D8, av' ++ ys, 0, rfl, fun y hy => by rw [lk_cons, if_neg hy]; exact hcm y hy, fun p hp => .tail _ (List.mem_append_right _ (hsub p hp)), .head _,
        (hav'.mono fun p hp => .tail _ (List.mem_append_right _ hp)).append (hys.mono fun p hp => .tail _ (List.mem_append_left _ hp))⟩⟩
  · intro h5 tk5 vars' cm' rest' hRi b
    obtain ⟨al', av', m4, rfl, hcm, hsub, ha', hav'⟩ := rE _ _ _ _ hRi
    refine wpAny_execs_nil ?_
    refine wpAny_execs_nil ?_
    exact k _ _ al' av' m4 _ _ b hsub ha' hav'
end XL14
section XL15
local macro_rules | `(tactic| walk_at "eval Name") => `(tactic| (k_here; (with_reducible show wpAny _ _ (eval (.Name _ _) (compEnvC _ _ _ _)) _ _ _); k_dflt (refine' nameK_B ?_ ?_ ?_ ?_ ?_ ?_ ?_ ?_ ?_ ?_ ?_ ?_; rotate_right 12; k_asm; k_asm; k_asm; k_is; boot_fast; decide; rfl; rfl; rfl; rfl; decide; k_whole)))
set_option maxHeartbeats 1000000 in
theorem stage15 {w : World} {A : Around} {E : Value → Shared → Prop} {s : Shared} {mg mb : Str → Option Value} {g h : Heap} {L lr al : Addr} {rv av : List Value} {n m1 m2 : Nat} {aps : List (List Nat)} {ps qs : Array Value} {vars cm : List (Str × Value)} {rest : List (Addr × Obj)} {Q : Flow → Shared → Prop} {tk : Nat}
   (X : (fr.heap_1 w.params).In g) (T : TT mg mb g) (hh : A.handled = none) (hdp : A.depth < 800)
   (a : LawAt g h L ps qs vars cm rest) (c1 : vars.lookup (Str.ofString "apart") = some (.ref al)) (c2 : vars.lookup (Str.ofString "rows") = some (.ref lr))
   (hr : (lr, ({ cls := .type "list", data := .seq (List.toArray rv) m1 } : Obj)) ∈ rest) (hrl : rv.length = n) (hn : n ≤ 100)
   (ha : (al, ({ cls := .type "list", data := .seq (List.toArray av) m2 } : Obj)) ∈ rest) (hav : SetsIn rest av aps) (hal : aps.length ≤ 64) (haq : ∀ q ∈ aps, q.length ≤ n) (hex : ∃ q ∈ aps, q.length = n)
   (k : ∀ h' tk', (∀ b o, g.get? b = some o → h'.get? b = some o) → h'.get? 140 = some (tabObj ps) → h'.get? 147 = some (tabObj qs) → Q (.ret (.bool true)) { s with heap := h', toks := tk' }) :
   wpAny (model (Challenge.rw_rs0167_01.row.prog) w) (A.deeper (lawEnv L)) (execs (lawBody.drop 21) (lawEnv L)) Q E { s with heap := h, toks := tk } := by
  revert X; k_fill; intro X
  obtain ⟨F, ⟨C₀, N, c⟩, far, low⟩ := a
  replace F : Fr g L h (fun y => List.lookup y ((Str.ofString "apart", Value.ref al) :: (Str.ofString "rows", Value.ref lr) :: vars)) := frVars F fun y => by
    rw [lk_cons, lk_cons]
    by_cases e1 : y = Str.ofString "apart"
    · rw [if_pos e1, e1]; exact c1
    · rw [if_neg e1]
      by_cases e2 : y = Str.ofString "rows"
      · rw [if_pos e2, e2]; exact c2
      · rw [if_neg e2]
  have t1 := List.mem_append_left rest c.t140
  have t2 := List.mem_append_left rest c.t147
  have hr' := List.mem_append_right C₀ hr
  have ha' := List.mem_append_right C₀ ha
  have sR : ∀ p ∈ rest, p ∈ C₀ ++ rest := fun p hp => List.mem_append_right C₀ hp
  clear c
  generalize C₀ ++ rest = R at N t1 t2 hr' ha' sR
  replace N : News g L h ((lr, ({ cls := .type "list", data := .seq (List.toArray rv) m1 } : Obj)) :: (al, ({ cls := .type "list", data := .seq (List.toArray av) m2 } : Obj)) :: R) := News.cons (N _ hr') (News.cons (N _ ha') N)
  show wpAny (model _ _) (Around.deeper _ (envOfC _ (Scope.mk _ _ _ _ _) _ _ _)) (execs [_] (envOfC _ (Scope.mk _ _ _ _ _) _ _ _)) _ _ _
  try dsimp only
  try k_fold
  kwd_rel
  refine lenL (News.isList N (.head _)) hrl (by omega) ?_
  kwd_rel
  have hal' : av.length ≤ 64 := by rw [hav.length]; exact hal
  refine LCg.CompSrc.ledger (by exact hh) F N (.tail _ (.head _)) (by rw [List.size_toArray]; exact Nat.le_trans hal' (by decide)) ?_
  intro g1
  refine comp_rest (fun i ys nw => nw = _ ∧ IntsAre ys ((aps.take i).map fun q : List Nat => (q.length : Int))) ⟨rfl, .nil⟩ ?_ ?_
  · rintro i v I oI C oC D m₂ ys nw h5 tk5 E' hi hP ⟨rfl, hms⟩ hC hx F5 N5 off ne
    obtain ⟨T5, n5, iv, q, rfl, hq, hm5, hiv⟩ := hav.nth i v (by simpa using hP)
    clear F N
    have hql := haq q (List.mem_of_getElem? hq)
    kwd_rel
    have L5 := News.isList N5 (List.mem_append_right [_, _, _, _, _] (sR _ hm5))
    refine lenL (n := q.length) L5 (by rw [hiv.length, List.length_map]) (by omega) ?_
    refine compEnd_keep F5 N5 off (.inr ⟨_, .tail _ (.head _), rfl, _, rfl⟩) ⟨rfl, ?_⟩
    rw [List.take_add_one, hq, List.map_append]
    exact hms.append (.cons _ _ .nil)
  · rintro ys nw ⟨rfl, hms⟩
    intro D h5 tk5 F5 N5 o5
    rw [List.take_of_length_le (by rw [List.size_toArray, hav.length]; exact Nat.le_refl _)] at hms
    clear F N
    kwd_rel
    have Lm : h5.IsList D (List.toArray ys) := ⟨_, (N5 _ (.head _)).1, rfl, _, rfl⟩
    have hpos : 0 < (aps.map fun q : List Nat => (q.length : Int)).length := by
      obtain ⟨q, hq, _⟩ := hex
      rw [List.length_map]; exact List.length_pos_of_mem hq
    refine kso_max F5 N5 Lm hms hpos (by exact hh) ?_
    intro h9 z t9 tk9 F9 N9 hz1 hz2
    have hz : z = (n : Int) := by
      obtain ⟨q, hq, e⟩ := hex
      have g1 := hz2 (q.length : Int) (List.mem_map.mpr ⟨q, hq, rfl⟩)
      obtain ⟨q', hq', e'⟩ := List.mem_map.mp hz1
      have g2 := haq q' hq'
      omega
    subst hz
    kwd_rel
    rw [show ((n : Int) == (n : Int)) = true from beq_self_eq_true _]
    exact k _ _ F9.keep (N9 _ (List.mem_append_right [_, _, _] t1)).1 (N9 _ (List.mem_append_right [_, _, _] t2)).1
end XL15
end Slm
end Slc
section Slm
local macro_rules | `(tactic| k_all) => `(tactic| first | exact List.forall_mem_nil _ | (refine' List.forall_mem_cons.mpr ⟨?_, ?_⟩; rotate_right 2; k_ne; k_all))
section XL5
local macro_rules | `(tactic| walk_at "eval ListComp") => `(tactic| refine Hold.out ?_)
set_option maxHeartbeats 400000 in
theorem stage5 {w : World} {A : Around} {E : Value → Shared → Prop} {s : Shared} {mg mb : Str → Option Value} {g h : Heap} {L nl wl : Addr} {nv wv : List Value} {ns : List Str} {ws : List (Str × Str)} {m1 m2 : Nat} {ps qs : Array Value} {cm : List (Str × Value)} {rest : List (Addr × Obj)} {Q : Flow → Shared → Prop} {tk : Nat} {v1 v2 v3 v5 : Value}
   (X : (fr.heap_1 w.params).In g) (T : TT mg mb g) (hh : A.handled = none) (hdp : A.depth < 800)
   (a : LawAt g h L ps qs [(Str.ofString "name", .ref nl), (Str.ofString "words", .ref wl), (Str.ofString "signs", v1), (Str.ofString "room", v2), (Str.ofString "cells", v5), (Str.ofString "script", v3)] cm rest)
   (hn : (nl, ({ cls := .type "list", data := .seq (List.toArray nv) m1 } : Obj)) ∈ rest) (hnv : StrsAre nv ns) (hnl : ns.length ≤ 10) (hw : (wl, ({ cls := .type "list", data := .seq (List.toArray wv) m2 } : Obj)) ∈ rest) (hwv : CksIn rest wv ws) (hwl : ws.length ≤ 10) (hwc : ∀ c ∈ ws, c.1.length + c.2.length ≤ 100)
   (k : ∀ h' tk' tl tv m3 new, LawAt g h' L ps qs [(Str.ofString "things", .ref tl), (Str.ofString "name", .ref nl), (Str.ofString "words", .ref wl), (Str.ofString "signs", v1), (Str.ofString "room", v2), (Str.ofString "cells", v5), (Str.ofString "script", v3)] cm (new ++ rest) →
     (tl, ({ cls := .type "list", data := .seq (List.toArray tv) m3 } : Obj)) ∈ new → StrsAre tv (ns ++ ws.map fun c => c.1 ++ c.2) → Q .next { s with heap := h', toks := tk' }) :
   wpAny (model (Challenge.rw_rs0167_01.row.prog) w) (A.deeper (lawEnv L)) (execs ((lawBody.drop 8).take 1) (lawEnv L)) Q E { s with heap := h, toks := tk } := by
  revert X; k_fill; intro X
  obtain ⟨F, ⟨C₀, N, c⟩, far, low⟩ := a
  replace N : News g L h ((nl, ({ cls := .type "list", data := .seq (List.toArray nv) m1 } : Obj)) :: (wl, ({ cls := .type "list", data := .seq (List.toArray wv) m2 } : Obj)) :: (C₀ ++ rest)) :=
    News.cons (N _ (List.mem_append_right _ hn)) (News.cons (N _ (List.mem_append_right _ hw)) N)
  show wpAny (model _ _) (Around.deeper _ (envOfC _ (Scope.mk _ _ _ _ _) _ _ _)) (execs [_] (envOfC _ (Scope.mk _ _ _ _ _) _ _ _)) _ _ _
  try dsimp only
  try k_fold
  kwd_rel
  unfold Hold
  k_dflt (refine LCp.ListComp_P (F₀ := by k_asm) (by with_unfolding_all rfl) (by decide) (by rfl) (by decide) (by rfl) (by rfl) (by decide +kernel) ?_)
  kwd_rel
  have hlen : wv.length = ws.length := hwv.length
  refine LCp.SrcLP.ledger (by exact hh) (by k_asm) N (.tail _ (.head _)) (by rw [List.size_toArray, hlen]; exact Nat.le_trans hwl (by decide)) ?_
  intro g1
  refine comp_restP (fun i ys nw => nw = _ ∧ StrsAre ys ((ws.map fun c => c.1 ++ c.2).take i)) ⟨rfl, .nil⟩ ?_ ?_
  · rintro i v ys nw hi hP ⟨rfl, hys⟩
    have hi' : i < ws.length := by simp only [List.size_toArray, hlen] at hi; exact hi
    have hc : ws[i]? = some ws[i] := List.getElem?_eq_getElem hi'
    generalize ws[i] = c1 at hc
    have hcl := hwc c1 (List.mem_of_getElem? hc)
    obtain ⟨T0, tf, tp, e1, hm⟩ := hwv.at_ i c1 hc
    have hP' : wv[i]? = some v := by simpa using hP
    rw [e1] at hP'
    refine ⟨T0, _, .str c1.1 tf, .str c1.2 tp, _, (Option.some.inj hP').symm, List.mem_append_right [_, _] (List.mem_append_right _ hm), rfl, rfl, ?_⟩
    intro I oI C oC D m₂ h5 tk5 E' hC hx hx2 F5 N5 off ne
    clear N
    kwd_rel
    refine compEnd_keep F5 N5 off (.inr ⟨_, .tail _ (.head _), rfl, _, rfl⟩) ⟨rfl, ?_⟩
    rw [List.take_succ, List.getElem?_map, hc]
    exact hys.append' (.cons _ _ .nil)
  · rintro ys nw ⟨rfl, hys⟩
    intro D h5 tk5 F5 N5 o5
    rw [List.size_toArray, hlen, ← List.length_map (f := fun c : Str × Str => c.1 ++ c.2), List.take_length] at hys
    clear N F
    clear o5
    kwd_rel
    have hyl : ys.length ≤ 10 := by have e := hys.length; rw [List.length_map] at e; omega
    have hnl' : nv.length ≤ 10 := by rw [hnv.length]; exact hnl
    refine kmk_add_lit (zs := nv ++ ys) F5 N5 (News.isList N5 (.tail _ (.head _))) (News.isList N5 (.head _)) (by rfl) ?_ (by show nv.length + ys.length ≤ sizeLine; exact Nat.le_trans (by omega : _ ≤ 20) (by decide))
    intro D2 h6 F6 N6 l6
    have q0 : Far L D2 := far_above (P := [_, _, _]) low c l6
    clear F5 N5 l6
    kwd_rel
    rename Fr _ _ _ _ => F9
    rename News _ _ _ _ => N9
    exact k _ _ D2 (nv ++ ys) _ _ (LawAt.of3 (P := [_]) (P2 := [_, _, _]) (rn := []) (rest := rest) F9 (fun y => (lk_cons y _ _ _).symm) N9 c (List.forall_mem_cons.mpr ⟨q0, List.forall_mem_nil _⟩) (List.forall_mem_nil _) far low) (.head _) (hnv.append' hys)
end XL5
theorem cut_first {c : Nat} : ∀ {a a' b b' : List Nat}, c ∉ a → c ∉ a' → a ++ c :: b = a' ++ c :: b' → a = a' ∧ b = b'
  | [], [], _, _, _, _, h => ⟨rfl, by simpa using h⟩
  | [], x :: a', _, _, _, h', h => by
    simp only [List.nil_append, List.cons_append, List.cons.injEq] at h
    exact absurd (h.1 ▸ List.mem_cons_self) h'
  | x :: a, [], _, _, h', _, h => by
    simp only [List.nil_append, List.cons_append, List.cons.injEq] at h
    exact absurd (h.1 ▸ List.mem_cons_self) h'
  | x :: a, y :: a', b, b', h1, h2, h => by
    simp only [List.cons_append, List.cons.injEq] at h
    obtain ⟨e1, e2⟩ := cut_first (fun q => h1 (List.mem_cons_of_mem _ q)) (fun q => h2 (List.mem_cons_of_mem _ q)) h.2
    exact ⟨by rw [h.1, e1], e2⟩
theorem no_cut {c : Nat} {a a' b' : List Nat} (h : c ∉ a) (e : a = a' ++ c :: b') : False := h (e ▸ List.mem_append_right _ List.mem_cons_self)
theorem join_uniq (c : Nat) : ∀ {l l' : List Str}, l ≠ [] → l' ≠ [] → (∀ p ∈ l, c ∉ tl p) → (∀ p ∈ l', c ∉ tl p) → Str.join ⟨#[c]⟩ l = Str.join ⟨#[c]⟩ l' → l = l'
  | [], _, h, _, _, _, _ => absurd rfl h
  | _ :: _, [], _, h, _, _, _ => absurd rfl h
  | [x], [y], _, _, _, _, e => by rw [show x = y from e]
  | [x], y :: z :: r, _, _, h, _, e => by
    have e' : x = y ++ ⟨#[c]⟩ ++ Str.join ⟨#[c]⟩ (z :: r) := e
    have := congrArg tl e'
    rw [tl_app, tl_app, List.append_assoc] at this
    exact (no_cut (h x (.head _)) this).elim
  | x :: z :: r, [y], _, _, _, h, e => by
    have e' : x ++ ⟨#[c]⟩ ++ Str.join ⟨#[c]⟩ (z :: r) = y := e
    have := congrArg tl e'
    rw [tl_app, tl_app, List.append_assoc] at this
    exact (no_cut (h y (.head _)) this.symm).elim
  | x :: x' :: r, y :: y' :: r', _, _, h, h', e => by
    have e' : x ++ ⟨#[c]⟩ ++ Str.join ⟨#[c]⟩ (x' :: r) = y ++ ⟨#[c]⟩ ++ Str.join ⟨#[c]⟩ (y' :: r') := e
    have := congrArg tl e'
    rw [tl_app, tl_app, tl_app, tl_app, List.append_assoc, List.append_assoc] at this
    obtain ⟨e1, e2⟩ := cut_first (h x (.head _)) (h' y (.head _)) this
    rw [tl_inj e1, join_uniq c (List.cons_ne_nil _ _) (List.cons_ne_nil _ _) (fun p hp => h p (.tail _ hp)) (fun p hp => h' p (.tail _ hp)) (tl_inj e2)]
theorem split_ne (x : Str) (c : Nat) : Txt.split x ⟨#[c]⟩ ≠ [] := by
  intro h
  have q := StrLaws.join_split x ⟨#[c]⟩
  rw [h] at q
  have e : x = Str.empty := q.symm
  subst e
  have e2 : Txt.split Str.empty ⟨#[c]⟩ = [Str.empty] := rfl
  rw [e2] at h
  cases h
theorem split_joined (c : Nat) {l : List Str} (h0 : l ≠ []) (h : ∀ p ∈ l, c ∉ tl p) : Txt.split (Str.join ⟨#[c]⟩ l) ⟨#[c]⟩ = l :=
  join_uniq c (split_ne _ _) h0 (StrLaws.split_free _ c) h (StrLaws.join_split _ _)
theorem slash_eq : Str.ofString "/" = ⟨#[47]⟩ := by decide +kernel
theorem tl_star : tl (Str.ofString "*") = [42] := by decide +kernel
theorem headOf_eq {one : Str} (strip : Str) (h : 47 ∉ tl one) : headOf one strip = Str.ofString "*" ++ one := by
  have hf : 47 ∉ tl (Str.ofString "*" ++ one) := by
    rw [tl_app, tl_star]
    simpa using h
  unfold headOf
  rw [slash_eq]
  cases hs : Txt.split (Str.ofString "*" ++ one ++ ⟨#[47]⟩ ++ strip) ⟨#[47]⟩ with
  | nil => exact absurd hs (split_ne _ _)
  | cons p r =>
    have hj := StrLaws.join_split (Str.ofString "*" ++ one ++ ⟨#[47]⟩ ++ strip) ⟨#[47]⟩
    have hp := StrLaws.split_free (Str.ofString "*" ++ one ++ ⟨#[47]⟩ ++ strip) 47
    rw [hs] at hj hp
    show p = _
    cases r with
    | nil =>
      have e : p = Str.ofString "*" ++ one ++ ⟨#[47]⟩ ++ strip := hj
      have := congrArg tl e
      rw [tl_app, tl_app, List.append_assoc] at this
      exact (no_cut (hp p (.head _)) this).elim
    | cons y r =>
      have e : p ++ ⟨#[47]⟩ ++ Str.join ⟨#[47]⟩ (y :: r) = Str.ofString "*" ++ one ++ ⟨#[47]⟩ ++ strip := hj
      have := congrArg tl e
      rw [tl_app, tl_app, tl_app _ strip, tl_app _ ⟨#[47]⟩, List.append_assoc, List.append_assoc] at this
      exact tl_inj (cut_first (hp p (.head _)) hf this).1
structure Strip (ts ms : List Str) (W : Nat) : Prop where
  len : ms.length = ts.length
  wide : W ≤ pre ts ts.length
  sign : ∀ c ∈ tl (Str.join (Str.ofString "") ts), c < 128 ∧ c ≠ 47 ∧ c ≠ 37
  mark : ∀ k m, ms[k]? = some m → m ≠ Str.ofString "*" ∧ tl (Txt.lower m) ≠ [] ∧ (tl (Txt.lower m)).head? ≠ some 42 ∧ pre ts k + (tl (Txt.lower m)).length = pre ts (k + 1) ∧
    OccAt ((tl (Str.join (Str.ofString "") ts)).map lo1) (tl (Txt.lower m)) (pre ts k) ∧ ∀ i, OccAt ((tl (Str.join (Str.ofString "") ts)).map lo1) (tl (Txt.lower m)) i → i = pre ts k
section
variable {ts ms : List Str} {W : Nat}
noncomputable abbrev winF (J : Str) (W : Nat) (j : Nat) : Str := Txt.slice J (some (j : Int)) (some ((j : Int) + (W : Int)))
theorem windows_eq (J : Str) (W : Nat) : windowsF J W = (List.range (J.length - W + 1)).map (winF J W) := rfl
theorem Strip.total (ts : List Str) : (Str.join (Str.ofString "") ts).length = pre ts ts.length := by
  rw [← pre_join, List.take_length]
theorem tl_win {J : Str} {W j : Nat} (h : j + W ≤ J.length) : tl (winF J W j) = ((tl J).drop j).take W := by
  have e := tl_slice J (a := j) (b := j + W) (by omega) h
  rw [show j + W - j = W by omega] at e
  rw [← e]
  rfl
theorem lower_win {J : Str} {W j : Nat} (hJ : ∀ c ∈ tl J, c < 128) (h : j + W ≤ J.length) : tl (Txt.lower (Str.ofString "*" ++ winF J W j)) = 42 :: (((tl J).map lo1).drop j).take W := by
  rw [tl_lower, tl_app, tl_star, tl_win h, List.map_append, List.map_take, List.map_drop]
  · rfl
  · intro c hc
    rw [tl_app, tl_star, tl_win h] at hc
    rcases List.mem_append.mp hc with hc | hc
    · rw [List.mem_singleton.mp hc]; decide
    · exact hJ c (List.mem_of_mem_drop (List.mem_of_mem_take hc))
theorem hits_pct {u : Str} (h : 37 ∉ tl u) : hits u (Str.ofString "%") = false := by
  have e : Txt.lower (Str.ofString "%") = Str.ofString "%" := by decide +kernel
  unfold hits
  rw [e]
  cases q : !(Builtin.Str.occurrences u (Str.ofString "%") 0 u.length 1).isEmpty with
  | false => exact Bool.and_false _
  | true =>
    obtain ⟨i, hi, ho⟩ := (occ_iff _ _).mp q
    have e2 : tl (Str.ofString "%") = [37] := by decide +kernel
    rw [e2] at ho
    have g := occ_get ho (j := 0) (by decide)
    exact absurd (List.mem_of_getElem? g) h
theorem hits_star (u : Str) : hits u (Str.ofString "*") = false := by
  have : (Str.ofString "*" != Str.ofString "*") = false := by decide +kernel
  unfold hits
  rw [this]
  rfl
theorem any_rec {u m : Str} {k : Nat} (h : 37 ∉ tl u) : (recFu k m).any (hits u) = hits u m := by
  unfold recFu
  split
  · simp [recAgents, hits_pct h, hits_star]
  · simp [recAgents, hits_pct h, hits_star]
theorem lo1_pct {c : Nat} (h : lo1 c = 37) : c = 37 := by
  unfold lo1 at h
  split at h <;> omega
theorem Strip.cond (S : Strip ts ms W) {k : Nat} {m : Str} (hm : ms[k]? = some m) {j : Nat} (hj : j < pre ts ts.length - W + 1) :
    (recFu k m).any (hits (Txt.lower (headOf (winF (Str.join (Str.ofString "") ts) W j) (Str.join (Str.ofString "") ts)))) = decide (pre ts (k + 1) - W ≤ j ∧ j ≤ pre ts k) := by
  have hw := S.wide
  have hJ := Strip.total ts
  have sg := S.sign
  obtain ⟨m1, m2, m3, m4, m5, m6⟩ := S.mark k m hm
  generalize Str.join (Str.ofString "") ts = J at *
  have hl : j + W ≤ J.length := by omega
  have h128 : ∀ c ∈ tl J, c < 128 := fun c hc => (sg c hc).1
  rw [headOf_eq J (fun c => (sg 47 (by rw [tl_win hl] at c; exact List.mem_of_mem_drop (List.mem_of_mem_take c))).2.1 rfl)]
  have lw := lower_win h128 hl
  rw [any_rec]
  · unfold hits
    rw [show (m != Str.ofString "*") = true by simpa using m1, Bool.true_and, Bool.eq_iff_iff, occ_iff, lw, decide_eq_true_eq, ← m4]
    exact hit_iff m6 m5 (by rw [List.length_map, tl_len]; omega) m3 m2
  · rw [lw]
    intro c
    rcases List.mem_cons.mp c with c | c
    · exact absurd c (by decide)
    · obtain ⟨x, hx, e⟩ := List.mem_map.mp (List.mem_of_mem_drop (List.mem_of_mem_take c))
      exact (sg x hx).2.2 (lo1_pct e)
noncomputable def heldN (ts : List Str) (W f b : Nat) : List Nat := (List.range (pre ts ts.length - W + 1)).filter fun j => decide (pre ts b - W ≤ j ∧ j ≤ pre ts f)
noncomputable def turn {α : Type} (f : Nat) (l : List α) : List α := if f % 2 = 0 then l else l.reverse
theorem held_eq (ts : List Str) (W f b : Nat) : heldF ts f b (windowsF (Str.join (Str.ofString "") ts) W) W = turn f ((heldN ts W f b).map (winF (Str.join (Str.ofString "") ts) W)) := by
  have e : (windowsF (Str.join (Str.ofString "") ts) W).length = pre ts ts.length - W + 1 := by
    rw [windows_eq, List.length_map, List.length_range, Strip.total]
  unfold heldF
  dsimp only
  rw [pre_join, pre_join, e]
  have r : ((windowsF (Str.join (Str.ofString "") ts) W).take (min (pre ts f) (pre ts ts.length - W + 1 - 1) + 1)).drop (pre ts b - W) = (heldN ts W f b).map (winF (Str.join (Str.ofString "") ts) W) := by
    rw [windows_eq, Strip.total, heldN, filter_range _ _ _ (by omega), List.map_drop, List.map_take]
  rw [r]
  rfl
theorem turn_filter {α : Type} (f : Nat) (p : α → Bool) (l : List α) : (turn f l).filter p = turn f (l.filter p) := by
  unfold turn
  split
  · rfl
  · exact List.filter_reverse
theorem turn_nil {α : Type} {f : Nat} {l : List α} : turn f l = [] ↔ l = [] := by
  unfold turn
  split
  · exact Iff.rfl
  · exact List.reverse_eq_nil_iff
theorem turn_mem {α : Type} {f : Nat} {l : List α} {x : α} : x ∈ turn f l ↔ x ∈ l := by
  unfold turn
  split
  · exact Iff.rfl
  · exact List.mem_reverse
theorem Strip.rec_eq (S : Strip ts ms W) {k : Nat} {m : Str} (hm : ms[k]? = some m) :
    recUs k m (Str.join (Str.ofString "") ts) (windowsF (Str.join (Str.ofString "") ts) W) = turn k ((heldN ts W k (k + 1)).map (winF (Str.join (Str.ofString "") ts) W)) := by
  unfold recUs
  dsimp only
  have r : (windowsF (Str.join (Str.ofString "") ts) W).filter (fun one => (recFu k m).any (hits (Txt.lower (headOf one (Str.join (Str.ofString "") ts))))) = (heldN ts W k (k + 1)).map (winF (Str.join (Str.ofString "") ts) W) := by
    rw [windows_eq, List.filter_map, heldN, Strip.total]
    congr 1
    refine List.filter_congr fun j hj => ?_
    exact S.cond hm (List.mem_range.mp hj)
  rw [r]
  rfl
theorem Strip.within_eq (S : Strip ts ms W) {k : Nat} {m : Str} (hm : ms[k]? = some m) {j : Nat} (hj : j < pre ts ts.length - W + 1) :
    within (recUs k m (Str.join (Str.ofString "") ts) (windowsF (Str.join (Str.ofString "") ts) W)) (winF (Str.join (Str.ofString "") ts) W j) = decide (pre ts (k + 1) - W ≤ j ∧ j ≤ pre ts k) := by
  have c := S.cond hm hj
  rw [← c, Bool.eq_iff_iff]
  have mem : within (recUs k m (Str.join (Str.ofString "") ts) (windowsF (Str.join (Str.ofString "") ts) W)) (winF (Str.join (Str.ofString "") ts) W j) = true ↔ winF (Str.join (Str.ofString "") ts) W j ∈ recUs k m (Str.join (Str.ofString "") ts) (windowsF (Str.join (Str.ofString "") ts) W) := by
    unfold within
    rw [List.any_eq_true]
    exact ⟨fun ⟨y, hy, e⟩ => of_decide_eq_true e ▸ hy, fun h => ⟨_, h, decide_eq_true rfl⟩⟩
  rw [mem]
  have tm : ∀ x, x ∈ recUs k m (Str.join (Str.ofString "") ts) (windowsF (Str.join (Str.ofString "") ts) W) ↔ x ∈ (windowsF (Str.join (Str.ofString "") ts) W).filter (fun one => (recFu k m).any (hits (Txt.lower (headOf one (Str.join (Str.ofString "") ts))))) := fun x => by
    unfold recUs
    dsimp only
    split
    · exact Iff.rfl
    · exact List.mem_reverse
  rw [tm, List.mem_filter]
  refine ⟨fun h => h.2, fun h => ⟨?_, h⟩⟩
  rw [windows_eq, Strip.total]
  exact List.mem_map.mpr ⟨j, List.mem_range.mpr hj, rfl⟩
theorem fold_merge : ∀ (l : List Rec) (e : Rec), (l.foldl mergeF e).1 = e.1.filter (fun x => l.all fun y => within y.1 x) ∧ (l.foldl mergeF e).2 = e.2 ++ l.flatMap (·.2)
  | [], e => ⟨(List.filter_eq_self.mpr fun _ _ => rfl).symm, (List.append_nil _).symm⟩
  | y :: l, e => by
    obtain ⟨h1, h2⟩ := fold_merge l (mergeF e y)
    rw [List.foldl_cons, h1, h2]
    constructor
    · show (e.1.filter (within y.1)).filter _ = _
      rw [List.filter_filter]
      refine List.filter_congr fun x _ => ?_
      rw [List.all_cons, Bool.and_comm]
    · show (e.2 ++ y.2) ++ _ = _
      rw [List.flatMap_cons, List.append_assoc]
noncomputable abbrev recAt (ts ms : List Str) (W k : Nat) : Rec := (recUs k (ms.getD k Str.empty) (Str.join (Str.ofString "") ts) (windowsF (Str.join (Str.ofString "") ts) W), [(k : Int)])
theorem recs_eq (ts ms : List Str) (W : Nat) : recsOf ms (windowsF (Str.join (Str.ofString "") ts) W) (Str.join (Str.ofString "") ts) = (List.range ms.length).map (recAt ts ms W) := rfl
theorem sub_split {f b : Nat} (h : f < b) : b - f = b - f - 1 + 1 := (Nat.succ_pred_eq_of_pos (Nat.sub_pos_of_lt h)).symm
theorem recs_cut (ts ms : List Str) {W f b : Nat} (hf : f < b) (hb : b ≤ ms.length) :
    ((recsOf ms (windowsF (Str.join (Str.ofString "") ts) W) (Str.join (Str.ofString "") ts)).take b).drop f = recAt ts ms W f :: (List.range' (f + 1) (b - f - 1)).map (recAt ts ms W) := by
  rw [recs_eq, ← List.map_take, ← List.map_drop, List.take_range, Nat.min_eq_left hb, List.range_eq_range', List.drop_range']
  rw [show 0 + f * 1 = f by omega, sub_split hf, List.range'_succ, List.map_cons]
  rfl
theorem getD_mark {k : Nat} (h : k < ms.length) : ms[k]? = some (ms.getD k Str.empty) := by
  rw [List.getD_eq_getElem?_getD, List.getElem?_eq_getElem h]; rfl
theorem Strip.merged (S : Strip ts ms W) {f b : Nat} (hf : f < b) (hb : b ≤ ts.length) :
    ∃ e0 er, ((recsOf ms (windowsF (Str.join (Str.ofString "") ts) W) (Str.join (Str.ofString "") ts)).take b).drop f = e0 :: er ∧
      (er.foldl mergeF e0).1 = heldF ts f b (windowsF (Str.join (Str.ofString "") ts) W) W ∧ (er.foldl mergeF e0).2 = (List.range (b - f)).map fun j : Nat => ((f + j : Nat) : Int) := by
  have hl := S.len
  refine ⟨_, _, recs_cut ts ms hf (by omega), ?_, ?_⟩
  · rw [(fold_merge _ _).1, held_eq]
    show (recUs _ _ _ _).filter _ = _
    rw [S.rec_eq (getD_mark (by omega)), turn_filter, List.filter_map]
    congr 2
    unfold heldN
    rw [List.filter_filter]
    refine List.filter_congr fun j hj => ?_
    have hj' := List.mem_range.mp hj
    have e : (((List.range' (f + 1) (b - f - 1)).map (recAt ts ms W)).all fun y => within y.1 (winF (Str.join (Str.ofString "") ts) W j)) = (List.range' (f + 1) (b - f - 1)).all fun k => decide (pre ts (k + 1) - W ≤ j ∧ j ≤ pre ts k) := by
      rw [List.all_map, Bool.eq_iff_iff, List.all_eq_true, List.all_eq_true]
      have z : ∀ k ∈ List.range' (f + 1) (b - f - 1), within (recAt ts ms W k).1 (winF (Str.join (Str.ofString "") ts) W j) = decide (pre ts (k + 1) - W ≤ j ∧ j ≤ pre ts k) := fun k hk => S.within_eq (getD_mark (by have := (List.mem_range'_1.mp hk).2; omega)) hj'
      exact ⟨fun q k hk => (z k hk).symm.trans (q k hk), fun q k hk => (z k hk).trans (q k hk)⟩
    show ((((List.range' (f + 1) (b - f - 1)).map (recAt ts ms W)).all fun y => within y.1 (winF (Str.join (Str.ofString "") ts) W j)) && _) = _
    rw [e, Bool.eq_iff_iff, Bool.and_eq_true, List.all_eq_true, decide_eq_true_eq, decide_eq_true_eq]
    constructor
    · rintro ⟨h1, h2, h3⟩
      refine ⟨?_, h3⟩
      by_cases c : b = f + 1
      · rw [c]; exact h2
      · have := of_decide_eq_true (h1 (b - 1) (List.mem_range'_1.mpr ⟨by omega, by omega⟩))
        rw [show b - 1 + 1 = b by omega] at this
        exact this.1
    · rintro ⟨h1, h2⟩
      have p1 := pre_mono ts (show f + 1 ≤ b from hf)
      refine ⟨fun k hk => decide_eq_true ?_, Nat.le_trans (Nat.sub_le_sub_right p1 W) h1, h2⟩
      have hk' := List.mem_range'_1.mp hk
      have p2 := pre_mono ts (show k + 1 ≤ b by omega)
      exact ⟨Nat.le_trans (Nat.sub_le_sub_right p2 W) h1, Nat.le_trans h2 (pre_mono ts (show f ≤ k by omega))⟩
  · rw [(fold_merge _ _).2]
    rw [List.flatMap_map]
    show [(f : Int)] ++ (List.range' (f + 1) (b - f - 1)).flatMap (fun k : Nat => [(k : Int)]) = _
    have e1 : ∀ (l : List Nat), l.flatMap (fun k : Nat => [(k : Int)]) = l.map fun k : Nat => (k : Int) := fun l => by
      induction l with
      | nil => rfl
      | cons x l ih => rw [List.flatMap_cons, ih]; rfl
    have e2 : [(f : Int)] ++ (List.range' (f + 1) (b - f - 1)).map (fun k : Nat => (k : Int)) = (List.range' f (b - f)).map fun k : Nat => (k : Int) := by
      rw [sub_split hf, List.range'_succ]
      simp
    rw [e1, e2, show List.range' f (b - f) = (List.range (b - f)).map (f + ·) by rw [List.range_eq_range', List.map_add_range', Nat.add_zero], List.map_map]
    refine List.map_congr_left fun k _ => ?_
    show ((f + k : Nat) : Int) = _
    rfl
theorem Strip.held_ne (S : Strip ts ms W) {f b : Nat} (hb : b ≤ ts.length) (h : pre ts b ≤ pre ts f + W) : heldF ts f b (windowsF (Str.join (Str.ofString "") ts) W) W ≠ [] := by
  rw [held_eq]
  intro c
  rw [turn_nil, List.map_eq_nil_iff] at c
  have hw := S.wide
  have hp := pre_mono ts hb
  have m : pre ts b - W ∈ heldN ts W f b := List.mem_filter.mpr ⟨List.mem_range.mpr (by omega), decide_eq_true ⟨Nat.le_refl _, by omega⟩⟩
  rw [c] at m
  cases m
theorem Strip.strange (S : Strip ts ms W) {i k : Nat} (hi : i < k) (hk : k < ts.length) :
    (((strangeF (recsOf ms (windowsF (Str.join (Str.ofString "") ts) W) (Str.join (Str.ofString "") ts))).getD k []).getD i false = true ↔ pre ts i + W < pre ts (k + 1)) := by
  have hl := S.len
  have g : ∀ k, k < ts.length → (recsOf ms (windowsF (Str.join (Str.ofString "") ts) W) (Str.join (Str.ofString "") ts)).getD k ([], []) = recAt ts ms W k := fun k hk => by
    rw [recs_eq, List.getD_eq_getElem?_getD, List.getElem?_map, List.getElem?_range (by omega)]; rfl
  have e : ((strangeF (recsOf ms (windowsF (Str.join (Str.ofString "") ts) W) (Str.join (Str.ofString "") ts))).getD k []).getD i false = decide ((mergeF (recAt ts ms W i) (recAt ts ms W k)).1 = []) := by
    have e0 : (strangeF (recsOf ms (windowsF (Str.join (Str.ofString "") ts) W) (Str.join (Str.ofString "") ts))).getD k [] = strangeRow (recsOf ms (windowsF (Str.join (Str.ofString "") ts) W) (Str.join (Str.ofString "") ts)) k := by
      rw [strangeF, List.getD_eq_getElem?_getD, List.getElem?_map, List.getElem?_range (by rw [recs_eq, List.length_map, List.length_range]; omega)]
      rfl
    rw [e0]
    rw [strangeRow, List.getD_eq_getElem?_getD, List.getElem?_map, List.getElem?_range hi]
    show decide _ = _
    rw [g i (by omega), g k hk]
  rw [e, decide_eq_true_eq]
  show (recUs _ _ _ _).filter (within (recUs _ _ _ _)) = [] ↔ _
  rw [S.rec_eq (k := i) (getD_mark (by omega)), turn_filter, turn_nil, List.filter_map, List.map_eq_nil_iff, heldN, List.filter_filter, List.filter_eq_nil_iff]
  have hw := S.wide
  have p1 := pre_mono ts (show k + 1 ≤ ts.length from hk)
  have p2 := pre_mono ts (show i + 1 ≤ k + 1 by omega)
  have p3 := pre_mono ts (show i ≤ k by omega)
  constructor
  · intro h
    by_cases c : pre ts i + W < pre ts (k + 1)
    · exact c
    · refine absurd ?_ (h (pre ts (k + 1) - W) (List.mem_range.mpr (by omega)))
      rw [Bool.and_eq_true]
      exact ⟨(S.within_eq (getD_mark (by omega)) (by omega)).trans (decide_eq_true ⟨by omega, by omega⟩), decide_eq_true ⟨by omega, by omega⟩⟩
  · intro h j hj
    rw [Bool.and_eq_true]
    rintro ⟨h1, h2⟩
    have h3 := of_decide_eq_true ((S.within_eq (getD_mark (by omega)) (List.mem_range.mp hj)).symm.trans h1)
    have h4 := of_decide_eq_true h2
    omega
end
theorem cksStr_eq (cs : List (Str × Str)) : cksStr cs = Str.join (Str.ofString "") (cs.map fun c => c.1 ++ c.2) := StrLaws.glued_eq_join _ _
theorem tl_cks (cs : List (Str × Str)) : tl (cksStr cs) = cs.flatMap fun c => tl c.1 ++ tl c.2 := by
  rw [cksStr_eq, tl_join, List.flatMap_map]
  simp only [tl_app]
theorem cks_app (a b : List (Str × Str)) : cksStr (a ++ b) = cksStr a ++ cksStr b := tl_inj (by rw [tl_app, tl_cks, tl_cks, tl_cks, List.flatMap_append])
theorem cksLen_app (a b : List (Str × Str)) : cksLen (a ++ b) = cksLen a + cksLen b := by
  unfold cksLen; rw [List.map_append, List.sum_append]
theorem len_cks (a : List (Str × Str)) : (cksStr a).length = cksLen a := by
  rw [cksStr_eq, len_join, List.map_map]
  unfold cksLen
  congr 1
  refine List.map_congr_left fun c _ => ?_
  exact Str.length_append _ _
theorem cks_count {cs : List (Str × Str)} (h : ∀ q ∈ cs, 1 ≤ q.1.length + q.2.length) : cs.length ≤ cksLen cs := by
  induction cs with
  | nil => exact Nat.zero_le _
  | cons q r ih =>
    have a := ih fun x hx => h x (.tail _ hx)
    have b := h q (.head _)
    unfold cksLen at a ⊢
    rw [List.map_cons, List.sum_cons, List.length_cons]
    omega
noncomputable def okCk (q : Str × Str) : Bool := !endsB (Str.ofString ",") q.2 && !endsB (Str.ofString " ") q.2 && decide (1 ≤ q.1.length + q.2.length) && PyData.strOk q.1 && PyData.strOk q.2
noncomputable def inner (q : Str × Str) : Bool := !startsB (Str.ofString " ") q.1
noncomputable def noSemi (q : Str × Str) : Bool := !endsB (Str.ofString ";") q.2
noncomputable def semi (q : Str × Str) : Bool := endsB (Str.ofString ";") q.2 && (tl q.2).contains 59
noncomputable def okWord (C : List (Str × Str)) : Bool := C.all okCk && (C.take 1).any (fun q => startsB (Str.ofString " ") q.1) && (C.drop 1).all inner && C.dropLast.all noSemi && (C.getLast?).any semi
structure Line (cs : List (Str × Str)) : Prop where
  ok : ∀ q ∈ cs, okCk q = true
  last : ∃ a l, cs = a ++ [l] ∧ semi l = true
noncomputable def signsOk (signs : Str) : Prop := signs = Str.ofString " " ∨ signs = Str.ofString ",;," ∨ signs = Str.ofString ", ,"
theorem sp_blank : Txt.isspace (⟨#[32]⟩ : Str) = true := by decide +kernel
theorem sp_comma : Txt.isspace (⟨#[44]⟩ : Str) = false := by decide +kernel
theorem sp_semi : Txt.isspace (⟨#[59]⟩ : Str) = false := by decide +kernel
theorem e_blank : Str.ofString " " = ⟨#[32]⟩ := by decide +kernel
theorem e_comma : Str.ofString "," = ⟨#[44]⟩ := by decide +kernel
theorem e_semi : Str.ofString ";" = ⟨#[59]⟩ := by decide +kernel
theorem okCk_of {q : Str × Str} (h : okCk q = true) : endsB ⟨#[44]⟩ q.2 = false ∧ endsB ⟨#[32]⟩ q.2 = false ∧ 1 ≤ q.1.length + q.2.length ∧ PyData.strOk q.1 = true ∧ PyData.strOk q.2 = true := by
  unfold okCk at h
  simp only [Bool.and_eq_true, Bool.not_eq_true', decide_eq_true_eq, e_blank, e_comma] at h
  exact ⟨h.1.1.1.1, h.1.1.1.2, h.1.1.2, h.1.2, h.2⟩
theorem ends_default (x : Str) : endsB x (default : Str × Str).2 = false := endsB0 rfl
theorem getD_all {p : Str × Str → Prop} {l : List (Str × Str)} (h : ∀ q ∈ l, p q) (h0 : p default) (i : Nat) : p (l.getD i default) := by
  rw [List.getD_eq_getElem?_getD]
  cases e : l[i]? with
  | none => exact h0
  | some q => exact h q (List.mem_of_getElem? e)
theorem find_comma {cs : List (Str × Str)} (h : ∀ q ∈ cs, okCk q = true) (n : Nat) : findDown (condAt ⟨#[44]⟩ cs) n = none := by
  refine findDown_none n fun j _ => ?_
  unfold condAt
  rw [sp_comma, Bool.false_and, Bool.false_or]
  exact getD_all (p := fun q => endsB ⟨#[44]⟩ q.2 = false) (fun q hq => (okCk_of (h q hq)).1) (ends_default _) _
theorem getD_right {cs D : List (Str × Str)} {t : Nat} : (cs ++ D).getD (cs.length + t) default = D.getD t default := by
  rw [List.getD_eq_getElem?_getD, List.getElem?_append_right (by omega), List.getD_eq_getElem?_getD, show cs.length + t - cs.length = t by omega]
theorem findDown_at {p : Nat → Bool} {a : Nat} (ha : 1 ≤ a) (ht : p a = true) : ∀ c, (∀ j, j < c → p (a + j + 1) = false) → findDown p (a + c) = some a := by
  intro c
  induction c with
  | zero =>
    intro _
    cases a with
    | zero => cases ha
    | succ a => simp only [Nat.add_zero, findDown, ht, if_true]
  | succ c ih =>
    intro h
    rw [← Nat.add_assoc]
    simp only [findDown, h c (Nat.lt_succ_self c), Bool.false_eq_true, if_false]
    exact ih fun j hj => h j (Nat.lt_succ_of_lt hj)
theorem mem_getD {r : List (Str × Str)} {j : Nat} (h : j < r.length) : r.getD j default ∈ r := by
  rw [List.getD_eq_getElem?_getD, List.getElem?_eq_getElem h]; exact List.getElem_mem h
theorem last_at (cs r : List (Str × Str)) (q : Str × Str) : (cs ++ q :: r).length - 1 = cs.length + r.length := by rw [List.length_append]; rfl
theorem find_blank {cs C : List (Str × Str)} (h : ∀ q ∈ cs, okCk q = true) (h0 : 1 ≤ cs.length) (hC : ∀ q ∈ C, okCk q = true) (h1 : (C.take 1).any (fun q => startsB (Str.ofString " ") q.1) = true) (h2 : (C.drop 1).all inner = true) :
    findDown (condAt ⟨#[32]⟩ (cs ++ C)) ((cs ++ C).length - 1) = some cs.length := by
  have hall : ∀ q ∈ cs ++ C, okCk q = true := fun q hq => (List.mem_append.mp hq).elim (h q) (hC q)
  cases C with
  | nil => cases h1
  | cons q r =>
    rw [last_at]
    refine findDown_at h0 ?_ _ fun j hj => ?_
    · unfold condAt
      have : startsB ⟨#[32]⟩ q.1 = true := by rw [← e_blank]; simpa using h1
      rw [show cs.length = cs.length + 0 from rfl, getD_right, show (q :: r).getD 0 default = q from rfl, this, sp_blank]
      rfl
    · unfold condAt
      rw [getD_all (p := fun q => endsB ⟨#[32]⟩ q.2 = false) (fun q hq => (okCk_of (hall q hq)).2.1) (ends_default _), Bool.or_false, sp_blank, Bool.true_and, Nat.add_assoc, getD_right]
      have := List.all_eq_true.mp h2 _ (mem_getD hj)
      unfold inner at this
      rw [e_blank] at this
      exact (Bool.not_eq_true' _).mp this
theorem find_semi {cs C : List (Str × Str)} (hl0 : ∃ a l, cs = a ++ [l] ∧ semi l = true) (hC0 : 1 ≤ C.length) (h2 : C.dropLast.all noSemi = true) :
    findDown (condAt ⟨#[59]⟩ (cs ++ C)) ((cs ++ C).length - 1) = some cs.length := by
  cases C with
  | nil => cases hC0
  | cons q r =>
    rw [last_at]
    refine findDown_at ?_ ?_ _ fun j hj => ?_
    · obtain ⟨a, l, rfl, _⟩ := hl0
      rw [List.length_append]; exact Nat.le_add_left _ _
    · obtain ⟨a, l, rfl, hs⟩ := hl0
      unfold condAt
      have e : (a ++ [l] ++ q :: r).getD ((a ++ [l]).length - 1) default = l := by
        rw [List.length_append, List.length_singleton, Nat.add_sub_cancel, List.getD_eq_getElem?_getD, List.append_assoc, List.getElem?_append_right (Nat.le_refl _), Nat.sub_self]
        rfl
      rw [sp_semi, Bool.false_and, Bool.false_or, e]
      unfold semi at hs
      rw [Bool.and_eq_true, e_semi] at hs
      exact hs.1
    · unfold condAt
      rw [sp_semi, Bool.false_and, Bool.false_or, Nat.add_sub_cancel, getD_right]
      have hm : (q :: r).getD j default ∈ (q :: r).dropLast := by
        have e3 : (q :: r).dropLast[j]? = some ((q :: r).getD j default) := by
          rw [List.getElem?_dropLast, if_pos (show j < (q :: r).length - 1 from hj), List.getD_eq_getElem?_getD, List.getElem?_eq_getElem (Nat.lt_succ_of_lt hj)]; rfl
        exact List.mem_of_getElem? e3
      have := List.all_eq_true.mp h2 _ hm
      unfold noSemi at this
      rw [e_semi] at this
      exact (Bool.not_eq_true' _).mp this
theorem find_word {signs : Str} (hs : signsOk signs) {cs C : List (Str × Str)} (hL : Line cs) (hC : ∀ q ∈ C, okCk q = true) (h1 : (C.take 1).any (fun q => startsB (Str.ofString " ") q.1) = true) (h2 : (C.drop 1).all inner = true) (h3 : C.dropLast.all noSemi = true) :
    findCh (cs ++ C) signs.cps.toList = some cs.length := by
  have h0 : 1 ≤ cs.length := by obtain ⟨a, l, rfl, _⟩ := hL.last; simp
  have hl : 1 ≤ C.length := by
    cases C with
    | nil => simp at h1
    | cons _ _ => exact Nat.succ_pos _
  have hall : ∀ q ∈ cs ++ C, okCk q = true := fun q hq => (List.mem_append.mp hq).elim (hL.ok q) (hC q)
  rcases hs with rfl | rfl | rfl
  · rw [show (Str.ofString " ").cps.toList = [32] by decide +kernel]
    simp only [findCh, find_blank hL.ok h0 hC h1 h2]
  · rw [show (Str.ofString ",;,").cps.toList = [44, 59, 44] by decide +kernel]
    simp only [findCh, find_comma hall, find_semi hL.last hl h3]
  · rw [show (Str.ofString ", ,").cps.toList = [44, 32, 44] by decide +kernel]
    simp only [findCh, find_comma hall, find_blank hL.ok h0 hC h1 h2]
section
variable {W : Nat} {signs : Str}
theorem app_fit {ls : List Str} {k : Nat} {cs : List (Str × Str)} {c : Str × Str} (h : k + cksLen (cs ++ [c]) ≤ W) : app W signs (ls, k, cs) c = (ls, k, cs ++ [c]) := by
  unfold app appendF
  rw [if_pos h]
theorem fit_run : ∀ (D : List (Str × Str)) (ls : List Str) (k : Nat) (E : List (Str × Str)), (∀ q ∈ E ++ D, okCk q = true) → W ≤ 100 → ls.length ≤ 100 → k + cksLen E + cksLen D ≤ W →
    run W signs (ls, k, E) D = (ls, k, E ++ D) ∧ Safe W signs (ls, k, E) D
  | [], ls, k, E, _, _, _, _ => ⟨by rw [List.append_nil]; rfl, trivial⟩
  | d :: D, ls, k, E, hok, hW, hl, h => by
    have e : E ++ d :: D = (E ++ [d]) ++ D := by simp
    have hc : cksLen (d :: D) = cksLen [d] + cksLen D := cksLen_app [d] D
    have hf : k + cksLen (E ++ [d]) ≤ W := by rw [cksLen_app]; omega
    obtain ⟨r1, r2⟩ := fit_run D ls k (E ++ [d]) (fun q hq => hok q (by rw [e]; exact hq)) hW hl (by rw [cksLen_app]; omega)
    have hE : E.length ≤ cksLen E := cks_count fun q hq => (okCk_of (hok q (List.mem_append_left _ hq))).2.2.1
    refine ⟨?_, ?_, ?_⟩
    · show run W signs (app W signs (ls, k, E) d) D = _
      rw [app_fit hf, r1, e]
    · exact ⟨by show cksLen (E ++ [d]) ≤ 10000; omega, by show E.length ≤ 900; omega, by show k ≤ 10000; omega, by show ls.length ≤ 900; omega, fun c => absurd hf c⟩
    · rw [app_fit hf]; exact r2
theorem over_run (hs : signsOk signs) {ls : List Str} {k : Nat} {cs C : List (Str × Str)} (hL : Line cs) (hC : okWord C = true) (hW : W ≤ 100) (hl : ls.length ≤ 99) (hcW : cksLen C ≤ W) (hov : W < k + cksLen cs + cksLen C) :
    ∀ (D A : List (Str × Str)), C = A ++ D → k + cksLen cs + cksLen A ≤ W →
    run W signs (ls, k, cs ++ A) D = (ls ++ [cksStr cs], 0, C) ∧ Safe W signs (ls, k, cs ++ A) D
  | [], A, e, h => by rw [List.append_nil] at e; subst e; omega
  | d :: D, A, e, h => by
    have e' : C = (A ++ [d]) ++ D := by rw [e]; simp
    unfold okWord at hC
    simp only [Bool.and_eq_true] at hC
    obtain ⟨⟨⟨⟨c1, c2⟩, c3⟩, c4⟩, c5⟩ := hC
    have okC := List.all_eq_true.mp c1
    have okA : ∀ q ∈ A ++ [d], okCk q = true := fun q hq => okC q (by rw [e']; exact List.mem_append_left _ hq)
    have lcs : cs.length ≤ cksLen cs := cks_count fun q hq => (okCk_of (hL.ok q hq)).2.2.1
    have lA : A.length ≤ cksLen A := cks_count fun q hq => (okCk_of (okA q (List.mem_append_left _ hq))).2.2.1
    have la : cksLen C = cksLen (A ++ [d]) + cksLen D := by rw [e', cksLen_app]
    have bound : okStep W signs (ls, k, cs ++ A) d ∨ True := .inr trivial
    by_cases hf : k + cksLen (cs ++ A ++ [d]) ≤ W
    · obtain ⟨r1, r2⟩ := over_run hs hL (by unfold okWord; simp only [Bool.and_eq_true]; exact ⟨⟨⟨⟨c1, c2⟩, c3⟩, c4⟩, c5⟩) hW hl hcW hov D (A ++ [d]) e' (by rw [List.append_assoc, cksLen_app] at hf; omega)
      rw [← List.append_assoc] at r1 r2
      refine ⟨?_, ⟨by show cksLen (cs ++ A ++ [d]) ≤ 10000; omega, by show (cs ++ A).length ≤ 900; rw [List.length_append]; omega, by show k ≤ 10000; omega, by show ls.length ≤ 900; omega, fun c => absurd hf c⟩, ?_⟩
      · show run W signs (app W signs (ls, k, cs ++ A) d) D = _
        rw [app_fit hf, r1]
      · rw [app_fit hf]; exact r2
    · have tk : ∀ {p : Str × Str → Bool}, (C.drop 1).all p = true → ((A ++ [d]).drop 1).all p = true := fun {p} q => List.all_eq_true.mpr fun x hx => List.all_eq_true.mp q x (by
        rw [e', List.drop_append_of_le_length (by simp)]
        exact List.mem_append_left _ hx)
      have hd : (A ++ [d]).dropLast.all noSemi = true := by
        rw [List.dropLast_concat]
        refine List.all_eq_true.mpr fun x hx => List.all_eq_true.mp c4 x ?_
        rw [e, List.dropLast_append_cons]
        exact List.mem_append_left _ hx
      have ht : ((A ++ [d]).take 1).any (fun q => startsB (Str.ofString " ") q.1) = true := by
        rw [e', List.take_append_of_le_length (by simp)] at c2
        exact c2
      have hfind : findCh (cs ++ A ++ [d]) signs.cps.toList = some cs.length := by
        rw [List.append_assoc]
        exact find_word hs hL okA ht (tk c3) hd
      have ha : app W signs (ls, k, cs ++ A) d = (ls ++ [cksStr cs], 0, A ++ [d]) := by
        unfold app appendF
        dsimp only
        rw [if_neg hf, hfind]
        show (ls ++ [cksStr (List.take cs.length (cs ++ A ++ [d]))], 0, List.drop cs.length (cs ++ A ++ [d])) = _
        rw [List.append_assoc, List.take_left, List.drop_left]
      obtain ⟨r1, r2⟩ := fit_run (W := W) (signs := signs) D (ls ++ [cksStr cs]) 0 (A ++ [d]) (fun q hq => okC q (by rw [e']; exact hq)) hW (by simp; omega) (by omega)
      have l1 : cksLen [d] ≤ cksLen C := by rw [la, cksLen_app]; omega
      refine ⟨?_, ⟨?_, ?_, by show k ≤ 10000; omega, by show ls.length ≤ 900; omega, ?_⟩, ?_⟩
      · show run W signs (app W signs (ls, k, cs ++ A) d) D = _
        rw [ha, r1, e']
      · show cksLen (cs ++ A ++ [d]) ≤ 10000
        rw [cksLen_app, cksLen_app]; omega
      · show (cs ++ A).length ≤ 900
        rw [List.length_append]; omega
      · intro _ hn
        have hn' : findCh (cs ++ A ++ [d]) signs.cps.toList = none := hn
        rw [hfind] at hn'
        cases hn'
      · rw [ha]; exact r2
theorem line_word {C : List (Str × Str)} (h : okWord C = true) : Line C := by
  unfold okWord at h
  simp only [Bool.and_eq_true] at h
  obtain ⟨⟨⟨⟨c1, _⟩, _⟩, _⟩, c5⟩ := h
  refine ⟨List.all_eq_true.mp c1, ?_⟩
  cases e : C.getLast? with
  | none => rw [e] at c5; simp at c5
  | some l =>
    rw [e] at c5
    obtain ⟨a, rfl⟩ := List.getLast?_eq_some_iff.mp e
    exact ⟨a, l, rfl, by simpa using c5⟩
theorem line_app {cs C : List (Str × Str)} (h : Line cs) (h' : Line C) : Line (cs ++ C) := by
  refine ⟨fun q hq => (List.mem_append.mp hq).elim (h.ok q) (h'.ok q), ?_⟩
  obtain ⟨a, l, rfl, hs⟩ := h'.last
  exact ⟨cs ++ a, l, by rw [List.append_assoc], hs⟩
structure Done (W : Nat) (σ : FSt) : Prop where
  line : Line σ.2.2
  fits : σ.2.1 + cksLen σ.2.2 ≤ W
  few : σ.1.length ≤ 99
noncomputable abbrev dash (k : Nat) : Str := Txt.mul (Str.ofString "-") (k : Int)
theorem dash_len (k : Nat) : (dash k).length = k := by
  have e := tl_mul1 (x := Str.ofString "-") (c := 45) (by decide +kernel) k
  rw [← tl_len, e, List.length_replicate]
theorem dash_zero : dash 0 = Str.empty := by decide +kernel
theorem empty_app (x : Str) : Str.empty ++ x = x := Str.empty_append x
theorem fmt_run (hs : signsOk signs) (hW : W ≤ 100) : ∀ (ws : List (Str × Str)) (ls : List Str) (k : Nat) (cs : List (Str × Str)), (∀ w ∈ ws, okWord (chunksOf w) = true ∧ cksStr (chunksOf w) = w.1 ++ w.2 ∧ (w.1 ++ w.2).length ≤ W) → Line cs → k + cksLen cs ≤ W → ls.length + ws.length ≤ 99 →
    Safe W signs (ls, k, cs) (ws.flatMap chunksOf) ∧ Done W (run W signs (ls, k, cs) (ws.flatMap chunksOf)) ∧
    ∃ r0 rr, rowsOf (run W signs (ls, k, cs) (ws.flatMap chunksOf)) = ls ++ r0 :: rr ∧ (dash k ++ r0) :: rr = rowsG W (dash k ++ cksStr cs) (ws.map fun w => w.1 ++ w.2)
  | [], ls, k, cs, _, hL, hk, hl => ⟨trivial, ⟨hL, hk, by show ls.length ≤ 99; simpa using hl⟩, cksStr cs, [], rfl, rfl⟩
  | w :: ws, ls, k, cs, hw, hL, hk, hl => by
    obtain ⟨w1, w2, w3⟩ := hw w (.head _)
    have hw' : ∀ x ∈ ws, okWord (chunksOf x) = true ∧ cksStr (chunksOf x) = x.1 ++ x.2 ∧ (x.1 ++ x.2).length ≤ W := fun x hx => hw x (.tail _ hx)
    have lw : cksLen (chunksOf w) = (w.1 ++ w.2).length := by rw [← w2, len_cks]
    have hcl := line_word w1
    rw [List.length_cons] at hl
    rw [List.flatMap_cons, run_append, List.map_cons]
    by_cases c : k + cksLen cs + cksLen (chunksOf w) ≤ W
    · obtain ⟨r1, r2⟩ := fit_run (signs := signs) (chunksOf w) ls k cs (fun q hq => (List.mem_append.mp hq).elim (hL.ok q) (hcl.ok q)) hW (by omega) c
      obtain ⟨s1, s2, r0, rr, s3, s4⟩ := fmt_run hs hW ws ls k (cs ++ chunksOf w) hw' (line_app hL hcl) (by rw [cksLen_app]; omega) (by omega)
      rw [r1]
      refine ⟨?_, s2, r0, rr, s3, ?_⟩
      · have : ∀ (a : List (Str × Str)) (σ : FSt), Safe W signs σ a → ∀ b, Safe W signs (run W signs σ a) b → Safe W signs σ (a ++ b) := by
          intro a
          induction a with
          | nil => intro σ _ b h; exact h
          | cons x r ih => intro σ h b h'; exact ⟨h.1, ih _ h.2 b h'⟩
        exact this _ _ r2 _ (by rw [r1]; exact s1)
      · rw [s4, rowsG, if_pos]
        · rw [cks_app, w2, Str.append_assoc]
        · rw [Str.length_append, dash_len, len_cks]; omega
    · obtain ⟨r1, r2⟩ := over_run (ls := ls) (k := k) hs hL w1 hW (by omega) (by omega) (by omega) (chunksOf w) [] rfl (by show k + cksLen cs + 0 ≤ W; omega)
      rw [List.append_nil] at r1 r2
      obtain ⟨s1, s2, r0, rr, s3, s4⟩ := fmt_run hs hW ws (ls ++ [cksStr cs]) 0 (chunksOf w) hw' hcl (by omega) (by simp; omega)
      rw [r1]
      refine ⟨?_, s2, cksStr cs, r0 :: rr, ?_, ?_⟩
      · have : ∀ (a : List (Str × Str)) (σ : FSt), Safe W signs σ a → ∀ b, Safe W signs (run W signs σ a) b → Safe W signs σ (a ++ b) := by
          intro a
          induction a with
          | nil => intro σ _ b h; exact h
          | cons x r ih => intro σ h b h'; exact ⟨h.1, ih _ h.2 b h'⟩
        exact this _ _ r2 _ (by rw [r1]; exact s1)
      · rw [s3]; simp
      · rw [rowsG, if_neg]
        · rw [dash_zero, empty_app, empty_app, w2] at s4
          rw [s4]
        · rw [Str.length_append, dash_len, len_cks]; omega
end
theorem gr_count {p : Nat → Nat} {W m f : Nat} {runs : List (Nat × Nat)} (h : Gr p W m f runs) : runs.length + f ≤ m := by
  induction h with
  | last h _ => show 1 + _ ≤ _; omega
  | cons h1 h2 _ _ _ ih => rw [List.length_cons]; omega
theorem txt_signs {ts : List Str} {r : Nat × Nat} {c : Nat} (h : c ∈ tl (txt ts r)) : ∃ x ∈ ts, c ∈ tl x := by
  rw [tl_join] at h
  obtain ⟨x, hx, hc⟩ := List.mem_flatMap.mp h
  exact ⟨x, List.mem_of_mem_take (List.mem_of_mem_drop hx), hc⟩
theorem wt_bound {l : List Str} {n : Nat} (h : ∀ x ∈ l, x.length ≤ n) : wt l ≤ l.length * (n + 1) := by
  induction l with
  | nil => simp [wt]
  | cons x r ih =>
    have a := ih fun y hy => h y (.tail _ hy)
    have b := h x (.head _)
    unfold wt at a ⊢
    rw [List.map_cons, List.sum_cons, List.length_cons, Nat.succ_mul]
    omega
theorem join_nl (l : List Str) : (Str.join (Str.ofString "\n") l).length ≤ wt l := by
  have e : (Str.ofString "\n").length = 1 := by decide +kernel
  have h := StrLaws.join_length_le (Str.ofString "\n") l
  rw [e, Nat.mul_one] at h
  exact h
theorem win_len {J : Str} {W j : Nat} (h : j + W ≤ J.length) : (winF J W j).length = W := by
  rw [← tl_len, tl_win h, List.length_take, List.length_drop, tl_len]; exact Nat.min_eq_left (Nat.le_sub_of_add_le (by rw [Nat.add_comm]; exact h))
theorem nl_eq : Str.ofString "\n" = ⟨#[10]⟩ := by decide +kernel
structure Plain (ts ms : List Str) (W : Nat) : Prop where
  strip : Strip ts ms W
  six : 6 ≤ W ∧ W ≤ 11
  few : 1 ≤ ts.length ∧ ts.length ≤ 6
  short : ∀ x ∈ ts, 1 ≤ x.length ∧ x.length ≤ 6
  marks : ∀ x ∈ ms, x.length ≤ 20
  total : pre ts ts.length ≤ 34
  nl : ∀ x ∈ ts, 10 ∉ tl x
section
variable {ts ms : List Str} {W : Nat}
theorem Plain.wts (p : Plain ts ms W) : wt ts ≤ 100 := by
  have h := wt_bound fun x hx => (p.short x hx).2
  have := p.few.2
  omega
theorem Plain.win (p : Plain ts ms W) {x : Str} (h : x ∈ windowsF (Str.join (Str.ofString "") ts) W) : x.length = W ∧ PyData.strOk x = true := by
  rw [windows_eq] at h
  obtain ⟨j, hj, rfl⟩ := List.mem_map.mp h
  have hw := p.strip.wide
  have hJ := Strip.total ts
  have hj' := List.mem_range.mp hj
  have hl : j + W ≤ (Str.join (Str.ofString "") ts).length := by omega
  refine ⟨win_len hl, ?_⟩
  unfold PyData.strOk
  rw [← Array.all_toList, List.all_eq_true]
  intro c hc
  have hc' : c ∈ tl (winF (Str.join (Str.ofString "") ts) W j) := hc
  rw [tl_win hl] at hc'
  have := (p.strip.sign c (List.mem_of_mem_drop (List.mem_of_mem_take hc'))).1
  exact decide_eq_true (by omega)
theorem Plain.wins (p : Plain ts ms W) : (windowsF (Str.join (Str.ofString "") ts) W).length ≤ 29 := by
  rw [windows_eq, List.length_map, List.length_range, Strip.total]
  have := p.total
  have := p.six.1
  omega
theorem Plain.wtw (p : Plain ts ms W) : wt (windowsF (Str.join (Str.ofString "") ts) W) ≤ 800 := by
  have a := wt_bound (n := 11) fun x hx => by have := (p.win hx).1; have := p.six.2; omega
  have b := p.wins
  omega
theorem Plain.recs (p : Plain ts ms W) : ∀ e ∈ recsOf ms (windowsF (Str.join (Str.ofString "") ts) W) (Str.join (Str.ofString "") ts), (e.1.length ≤ 1000 ∧ e.2.length ≤ 10) ∧ ∀ x ∈ e.1, PyData.strOk x = true := by
  intro e he
  rw [recs_eq] at he
  obtain ⟨k, _, rfl⟩ := List.mem_map.mp he
  have sub : ∀ (q : Str → Bool), (turn k ((windowsF (Str.join (Str.ofString "") ts) W).filter q)).length ≤ 29 ∧ ∀ x ∈ turn k ((windowsF (Str.join (Str.ofString "") ts) W).filter q), PyData.strOk x = true := fun q => by
    refine ⟨?_, fun x hx => (p.win (List.mem_filter.mp (turn_mem.mp hx)).1).2⟩
    have e : ∀ l : List Str, (turn k l).length = l.length := fun l => by
      unfold turn
      split
      · rfl
      · exact List.length_reverse
    rw [e]
    exact Nat.le_trans (List.length_filter_le _ _) p.wins
  have s := sub (fun one => (recFu k (ms.getD k Str.empty)).any (hits (Txt.lower (headOf one (Str.join (Str.ofString "") ts)))))
  exact ⟨⟨Nat.le_trans s.1 (by decide), by show 1 ≤ 10; decide⟩, s.2⟩
theorem recs_len (ts ms : List Str) (W : Nat) : (recsOf ms (windowsF (Str.join (Str.ofString "") ts) W) (Str.join (Str.ofString "") ts)).length = ms.length := by
  rw [recs_eq, List.length_map, List.length_range]
theorem Plain.fact9 (p : Plain ts ms W) {k : Nat} (hk : k < ts.length) : ((recsOf ms (windowsF (Str.join (Str.ofString "") ts) W) (Str.join (Str.ofString "") ts)).getD k ([], [])).1 = heldF ts k (k + 1) (windowsF (Str.join (Str.ofString "") ts) W) W := by
  have hl := p.strip.len
  rw [recs_eq, List.getD_eq_getElem?_getD, List.getElem?_map, List.getElem?_range (by omega), held_eq]
  exact p.strip.rec_eq (getD_mark (by omega))
theorem Plain.rowFacts (p : Plain ts ms W) {runs : List (Nat × Nat)} (g : Gr (pre ts) W ts.length 0 runs) {i f b : Nat} (h : runs[i]? = some (f, b)) :
    RowFacts ts (windowsF (Str.join (Str.ofString "") ts) W) (runs.map (txt ts)) (recsOf ms (windowsF (Str.join (Str.ofString "") ts) W) (Str.join (Str.ofString "") ts)) W i f b := by
  have l := gr_le g (f, b) (List.mem_of_getElem? h)
  refine ⟨l.2.1, l.2.2.1, ?_, p.strip.held_ne l.2.2.1 l.2.2.2, p.strip.merged l.2.1 l.2.2.1⟩
  rw [List.getD_eq_getElem?_getD, List.getElem?_map, h]
  rfl
theorem Plain.apart (p : Plain ts ms W) {runs : List (Nat × Nat)} (g : Gr (pre ts) W ts.length 0 runs) :
    (∃ q ∈ apartF (strangeF (recsOf ms (windowsF (Str.join (Str.ofString "") ts) W) (Str.join (Str.ofString "") ts))) ts.length, q.length = runs.length) ∧
    ∀ q ∈ apartF (strangeF (recsOf ms (windowsF (Str.join (Str.ofString "") ts) W) (Str.join (Str.ofString "") ts))) ts.length, q.length ≤ runs.length :=
  apart_max (fun _ _ => pre_mono ts) g fun _ _ hi hk => p.strip.strange hi hk
theorem strange_len (es : List Rec) : (strangeF es).length = es.length := by rw [strangeF, List.length_map, List.length_range]
theorem strange_row (es : List Rec) {k : Nat} (h : k < es.length) : ((strangeF es).getD k []).length = k := by
  rw [strangeF, List.getD_eq_getElem?_getD, List.getElem?_map, List.getElem?_range h]
  show (strangeRow es k).length = k
  rw [strangeRow, List.length_map, List.length_range]
theorem Plain.wtr (p : Plain ts ms W) {runs : List (Nat × Nat)} (g : Gr (pre ts) W ts.length 0 runs) : wt (runs.map (txt ts)) ≤ 100 := by
  have a := wt_bound (l := runs.map (txt ts)) (n := 11) fun x hx => by
    obtain ⟨r, hr, rfl⟩ := List.mem_map.mp hx
    have l := gr_le g r hr
    have e := pre_jl ts (Nat.le_of_lt l.2.1)
    have := p.six.2
    show (txt ts (r.1, r.2)).length ≤ 11
    rw [len_txt]; omega
  have b := gr_count g
  have := p.few.2
  rw [List.length_map] at a
  omega
end
structure Fed (ts : List Str) (W rm : Nat) (w0 : Str × Str) (wr : List (Str × Str)) : Prop where
  room : rm ≤ 4
  things : ts = nameL rm ++ (w0 :: wr).map fun c => c.1 ++ c.2
  first : okCk w0 = true ∧ semi w0 = true ∧ w0.1.length ≠ 0 ∧ (w0.1 ++ w0.2).length ≤ 6
  others : ∀ w ∈ wr, okWord (chunksOf w) = true ∧ cksStr (chunksOf w) = w.1 ++ w.2 ∧ (w.1 ++ w.2).length ≤ 6
  count : wr.length ≤ 10
theorem cks_one (w : Str × Str) : cksStr [w] = w.1 ++ w.2 := tl_inj (by rw [tl_cks, tl_app]; simp)
theorem done_fin {W : Nat} {σ : FSt} (d : Done W σ) (hW : W ≤ 100) (h : wt (rowsOf σ) ≤ 1000) : FinOk σ := by
  obtain ⟨hL, hf, hl⟩ := d
  obtain ⟨a, l, e, hs⟩ := hL.last
  have ok := hL.ok
  have hc : σ.2.2.length ≤ cksLen σ.2.2 := cks_count fun q hq => (okCk_of (ok q hq)).2.2.1
  unfold rowsOf at h
  rw [e] at hf hc h ok
  have okl := okCk_of (ok l (by simp))
  have hs2 : 59 ∈ tl l.2 := by
    unfold semi at hs
    rw [Bool.and_eq_true] at hs
    exact List.contains_iff_mem.mp hs.2
  rw [List.length_append, List.length_singleton] at hc
  refine ⟨a, l, e, by omega, by omega, by omega, by omega, ?_, okl.2.2.2.1, okl.2.2.2.2, by omega, fun _ => ?_, h⟩
  · intro c
    rw [c] at hs2
    have : tl (Str.ofString "") = [] := tl_nil
    rw [this] at hs2
    cases hs2
  · unfold Txt.isspace
    rw [Bool.and_eq_false_iff]
    refine .inr ?_
    rw [← Array.all_toList, List.all_eq_false]
    refine ⟨59, ?_, by decide +kernel⟩
    show 59 ∈ tl (cksStr (a ++ [l]))
    rw [cks_app, cks_one, tl_app, tl_app]
    exact List.mem_append_right _ (List.mem_append_right _ hs2)
theorem safe_cons {W : Nat} {signs : Str} {σ : FSt} {c : Str × Str} {r : List (Str × Str)} (h : okStep W signs σ c) (h' : Safe W signs (app W signs σ c) r) : Safe W signs σ (c :: r) := ⟨h, h'⟩
theorem Fed.rows {ts ms : List Str} {W rm : Nat} {w0 : Str × Str} {wr : List (Str × Str)} {signs : Str} (F : Fed ts W rm w0 wr) (p : Plain ts ms W) (hs : signsOk signs) :
    ∃ r0 rr runs, Safe W signs ([], rm, []) (w0 :: wr.flatMap chunksOf) ∧ FinOk (run W signs ([], rm, []) (w0 :: wr.flatMap chunksOf)) ∧ rowsOf (run W signs ([], rm, []) (w0 :: wr.flatMap chunksOf)) = r0 :: rr ∧
      (dash rm ++ r0) :: rr = runs.map (txt ts) ∧ Gr (pre ts) W ts.length 0 runs ∧ wt (r0 :: rr) ≤ 100 ∧ Txt.split (Str.join (Str.ofString "\n") (r0 :: rr)) (Str.ofString "\n") = r0 :: rr := by
  have hW := p.six
  obtain ⟨f1, f2, f3, f4⟩ := F.first
  have hrm := F.room
  have ho : ∀ w ∈ wr, okWord (chunksOf w) = true ∧ cksStr (chunksOf w) = w.1 ++ w.2 ∧ (w.1 ++ w.2).length ≤ W := fun w hw => by
    obtain ⟨a, b, c⟩ := F.others w hw
    exact ⟨a, b, by omega⟩
  have hL : Line [w0] := ⟨fun q hq => by rw [List.mem_singleton.mp hq]; exact f1, [], w0, rfl, f2⟩
  have l0 : cksLen [w0] = (w0.1 ++ w0.2).length := by rw [← cks_one, len_cks]
  have key : ∃ r0 rr, Safe W signs ([], rm, []) (w0 :: wr.flatMap chunksOf) ∧ Done W (run W signs ([], rm, []) (w0 :: wr.flatMap chunksOf)) ∧ rowsOf (run W signs ([], rm, []) (w0 :: wr.flatMap chunksOf)) = r0 :: rr ∧
      (dash rm ++ r0) :: rr = rowsG W (txt ts (0, 1)) (ts.drop 1) := by
    have ht0 : rm = 0 → txt ts (0, 1) = w0.1 ++ w0.2 ∧ ts.drop 1 = wr.map fun c => c.1 ++ c.2 := fun h => by
      have e := F.things
      rw [nameL, if_pos h, List.nil_append, List.map_cons] at e
      exact ⟨txt_one (by rw [e]; rfl), by rw [e]; rfl⟩
    have ht1 : rm ≠ 0 → txt ts (0, 1) = dash rm ∧ ts.drop 1 = (w0.1 ++ w0.2) :: wr.map fun c => c.1 ++ c.2 := fun h => by
      have e := F.things
      rw [nameL, if_neg h, List.map_cons] at e
      exact ⟨txt_one (by rw [e]; rfl), by rw [e]; rfl⟩
    by_cases c : rm + cksLen [w0] ≤ W
    · have ha : app W signs ([], rm, []) w0 = ([], rm, [w0]) := app_fit (cs := []) c
      obtain ⟨s1, s2, r0, rr, s3, s4⟩ := fmt_run (W := W) (signs := signs) hs (by omega) wr [] rm [w0] ho hL c (by have := F.count; simp; omega)
      have hr : run W signs ([], rm, []) (w0 :: wr.flatMap chunksOf) = run W signs ([], rm, [w0]) (wr.flatMap chunksOf) := by
        show run W signs (app W signs ([], rm, []) w0) _ = _
        rw [ha]
      rw [hr]
      refine ⟨r0, rr, safe_cons ⟨by show cksLen [w0] ≤ 10000; omega, Nat.zero_le _, by show rm ≤ 10000; omega, Nat.zero_le _, fun q => absurd c q⟩ (by rw [ha]; exact s1), s2, s3, ?_⟩
      rw [s4, cks_one]
      by_cases h : rm = 0
      · rw [(ht0 h).1, (ht0 h).2, h, dash_zero, empty_app]
      · rw [(ht1 h).1, (ht1 h).2, rowsG, if_pos (by rw [dash_len]; omega)]
    · have h : rm ≠ 0 := by intro h; omega
      have hf : findCh [w0] signs.cps.toList = none := findCh_none _ fun _ _ _ _ => rfl
      have ha : app W signs ([], rm, []) w0 = ([cksStr [(Str.ofString "", Str.ofString "")]], 0, [w0]) := by
        unfold app appendF
        dsimp only
        rw [List.nil_append, if_neg c, hf]
        rfl
      have e0 : cksStr [(Str.ofString "", Str.ofString "")] = Str.empty := by decide +kernel
      obtain ⟨s1, s2, r0, rr, s3, s4⟩ := fmt_run (W := W) (signs := signs) hs (by omega) wr [cksStr [(Str.ofString "", Str.ofString "")]] 0 [w0] ho hL (by omega) (by have := F.count; simp; omega)
      have hr : run W signs ([], rm, []) (w0 :: wr.flatMap chunksOf) = run W signs ([cksStr [(Str.ofString "", Str.ofString "")]], 0, [w0]) (wr.flatMap chunksOf) := by
        show run W signs (app W signs ([], rm, []) w0) _ = _
        rw [ha]
      rw [hr]
      refine ⟨Str.empty, r0 :: rr, safe_cons ⟨by show cksLen [w0] ≤ 10000; omega, Nat.zero_le _, by show rm ≤ 10000; omega, Nat.zero_le _, fun _ _ => ⟨rfl, by show 0 < rm; omega, f3⟩⟩ (by rw [ha]; exact s1), s2, ?_, ?_⟩
      · rw [s3, e0]; rfl
      · rw [Str.append_empty, (ht1 h).1, (ht1 h).2, rowsG, if_neg (by rw [dash_len]; omega)]
        rw [dash_zero, empty_app, empty_app, cks_one] at s4
        rw [s4]
  obtain ⟨r0, rr, s1, s2, s3, s4⟩ := key
  obtain ⟨runs, g1, g2⟩ := rowsG_runs ts W (fun x hx => by have := (p.short x hx).2; omega) (ts.length - 1) 1 0 (by have := p.few.1; omega) (by decide) (by
    have hl0 : 0 < ts.length := by have := p.few.1; omega
    have e : ts[0]? = some ts[0] := List.getElem?_eq_getElem hl0
    have q := pre_succ ts e
    have := (p.short _ (List.mem_of_getElem? e)).2
    show pre ts (0 + 1) ≤ _
    omega)
  rw [g1] at s4
  have hwt := p.wtr g2
  have hwt2 : wt (r0 :: rr) ≤ 100 := by
    rw [← s4] at hwt
    unfold wt at hwt ⊢
    rw [List.map_cons, List.sum_cons, Str.length_append] at hwt
    rw [List.map_cons, List.sum_cons]
    simp only [List.length_cons] at hwt ⊢
    omega
  refine ⟨r0, rr, runs, s1, done_fin s2 (by omega) (by rw [s3]; omega), s3, s4, g2, hwt2, ?_⟩
  rw [nl_eq]
  refine split_joined 10 (List.cons_ne_nil _ _) fun x hx hc => ?_
  have cl : ∀ y ∈ runs.map (txt ts), 10 ∉ tl y := fun y hy c => by
    obtain ⟨r, _, rfl⟩ := List.mem_map.mp hy
    obtain ⟨z, hz, hz'⟩ := txt_signs c
    exact p.nl z hz hz'
  rw [← s4] at cl
  rcases List.mem_cons.mp hx with rfl | hx
  · exact cl _ (.head _) (by rw [tl_app]; exact List.mem_append_right _ hc)
  · exact cl x (.tail _ hx) hc
noncomputable def wl (i j x : Nat) : List Nat := List.replicate (1 + i) 32 ++ (List.replicate (1 + j) x ++ [59])
theorem wl_len (i j x : Nat) : (wl i j x).length = 3 + i + j := by simp [wl]; omega
theorem wl_mem {i j x c : Nat} (h : c ∈ wl i j x) : c = 32 ∨ c = x ∨ c = 59 := by
  unfold wl at h
  rcases List.mem_append.mp h with h | h
  · exact .inl (List.eq_of_mem_replicate h)
  rcases List.mem_append.mp h with h | h
  · exact .inr (.inl (List.eq_of_mem_replicate h))
  · exact .inr (.inr (List.mem_singleton.mp h))
noncomputable def wordIJ (c : String) (i j : Nat) : Str × Str := (Txt.mul (Str.ofString " ") ((1 + i : Nat) : Int), Txt.mul (Str.ofString c) ((1 + j : Nat) : Int) ++ Str.ofString ";")
noncomputable def markIJ (c : String) (i j : Nat) : Str := Txt.mul (Str.ofString " ") ((1 + i : Nat) : Int) ++ Txt.mul (Str.ofString c) ((1 + j : Nat) : Int) ++ Str.ofString ";"
noncomputable def sgB (x : Str) : Bool := (tl x).all fun c => decide (c < 128 ∧ c ≠ 47 ∧ c ≠ 37 ∧ c ≠ 10)
noncomputable def wfB (w : Str × Str) (m : Str) (b : List Nat) : Bool :=
  decide ((tl (w.1 ++ w.2)).map lo1 = b) && decide (tl (Txt.lower m) = b) && (m != Str.ofString "*") && sgB (w.1 ++ w.2) && okWord (chunksOf w) && decide (cksStr (chunksOf w) = w.1 ++ w.2) && decide ((w.1 ++ w.2).length ≤ 6) && decide (m.length ≤ 20) && okCk w && semi w && decide (w.1.length ≠ 0) && decide (1 ≤ w.2.length ∧ w.2.length ≤ 100)
structure WF (w : Str × Str) (m : Str) (b : List Nat) : Prop where
  low : (tl (w.1 ++ w.2)).map lo1 = b
  mark : tl (Txt.lower m) = b
  star : m ≠ Str.ofString "*"
  sg : ∀ c ∈ tl (w.1 ++ w.2), c < 128 ∧ c ≠ 47 ∧ c ≠ 37 ∧ c ≠ 10
  word : okWord (chunksOf w) = true
  cks : cksStr (chunksOf w) = w.1 ++ w.2
  short : (w.1 ++ w.2).length ≤ 6
  mlen : m.length ≤ 20
  ck : okCk w = true
  sm : semi w = true
  bl : w.1.length ≠ 0
  part : 1 ≤ w.2.length ∧ w.2.length ≤ 100
theorem sg_of {x : Str} (h : sgB x = true) : ∀ c ∈ tl x, c < 128 ∧ c ≠ 47 ∧ c ≠ 37 ∧ c ≠ 10 := fun c hc => of_decide_eq_true (List.all_eq_true.mp h c hc)
theorem wf_of {w : Str × Str} {m : Str} {b : List Nat} (h : wfB w m b = true) : WF w m b := by
  unfold wfB at h
  simp only [Bool.and_eq_true, decide_eq_true_eq, bne_iff_ne] at h
  obtain ⟨⟨⟨⟨⟨⟨⟨⟨⟨⟨⟨a, b⟩, c⟩, d⟩, e⟩, f⟩, g⟩, h⟩, i⟩, j⟩, k⟩, l⟩ := h
  exact ⟨a, b, c, sg_of d, e, f, g, h, i, j, k, l⟩
theorem wf_a : ∀ i < 2, ∀ j < 3, wfB (wordIJ "a" i j) (markIJ "A" i j) (wl i j 97) = true := by decide +kernel
theorem wf_b : ∀ i < 2, ∀ j < 3, wfB (wordIJ "B" i j) (markIJ "b" i j) (wl i j 98) = true := by decide +kernel
theorem wf_c : ∀ i < 2, ∀ j < 3, wfB (wordIJ "c" i j) (markIJ "C" i j) (wl i j 99) = true := by decide +kernel
theorem wf_d : ∀ i < 2, ∀ j < 3, wfB (wordIJ "D" i j) (markIJ "d" i j) (wl i j 100) = true := by decide +kernel
theorem wf_e : ∀ i < 2, ∀ j < 3, wfB (wordIJ "e" i j) (markIJ "E" i j) (wl i j 101) = true := by decide +kernel
theorem name_wf : ∀ r < 5, ((tl (dash r)).map lo1 = List.replicate r 45 ∧ tl (Txt.lower (dash r)) = List.replicate r 45 ∧ dash r ≠ Str.ofString "*" ∧ sgB (dash r) = true ∧ (dash r).length = r) := by decide +kernel
theorem uniq_wl {A B : List Nat} {i j x : Nat} (hA : x ∉ A) (hB : x ∉ B) (h1 : x ≠ 32) (h2 : x ≠ 59) {p : Nat} (h : OccAt (A ++ (wl i j x ++ B)) (wl i j x) p) : p = A.length := by
  rw [← List.append_assoc] at h
  exact uniq_word hA hB h1 h2 (by omega) h
theorem flat_low (l : List Str) : (l.flatMap tl).map lo1 = (l.map fun t => (tl t).map lo1).flatten := by
  induction l with
  | nil => rfl
  | cons x r ih => rw [List.flatMap_cons, List.map_append, ih]; rfl
theorem flat_len (l : List Str) : ((l.map fun t => (tl t).map lo1).flatten).length = (l.map (·.length)).sum := by
  induction l with
  | nil => rfl
  | cons x r ih =>
    rw [List.map_cons, List.flatten_cons, List.length_append, ih, List.length_map, List.map_cons, List.sum_cons, tl_len]
theorem flat_split {bl : List (List Nat)} {k : Nat} {b : List Nat} (h : bl[k]? = some b) : bl.flatten = (bl.take k).flatten ++ (b ++ (bl.drop (k + 1)).flatten) := by
  have := congrArg List.flatten (split_at h)
  rw [List.flatten_append, List.flatten_cons] at this
  exact this
theorem pre_flat {ts : List Str} {bl : List (List Nat)} (h1 : ts.map (fun t => (tl t).map lo1) = bl) (k : Nat) : pre ts k = ((bl.take k).flatten).length := by
  rw [← h1, ← List.map_take, flat_len]
  rfl
theorem pre_all {ts : List Str} {bl : List (List Nat)} (h1 : ts.map (fun t => (tl t).map lo1) = bl) : pre ts ts.length = (bl.flatten).length := by
  rw [pre_flat h1, List.take_of_length_le (by rw [← h1, List.length_map]; exact Nat.le_refl _)]
theorem strip_of {ts ms : List Str} {bl : List (List Nat)} {W : Nat} (h1 : ts.map (fun t => (tl t).map lo1) = bl) (h2 : ms.map (fun m => tl (Txt.lower m)) = bl) (hW : W ≤ bl.flatten.length)
    (hs : ∀ t ∈ ts, ∀ c ∈ tl t, c < 128 ∧ c ≠ 47 ∧ c ≠ 37 ∧ c ≠ 10) (hm : ∀ m ∈ ms, m ≠ Str.ofString "*") (hb : ∀ b ∈ bl, b ≠ [] ∧ b.head? ≠ some 42)
    (hu : ∀ k b, bl[k]? = some b → ∀ i, OccAt bl.flatten b i → i = ((bl.take k).flatten).length) : Strip ts ms W := by
  refine ⟨?_, ?_, ?_, ?_⟩
  · have := congrArg List.length (h2.trans h1.symm)
    simpa using this
  · rw [pre_all h1]; exact hW
  · intro c hc
    rw [tl_join] at hc
    obtain ⟨t, ht, hc⟩ := List.mem_flatMap.mp hc
    have := hs t ht c hc
    exact ⟨this.1, this.2.1, this.2.2.1⟩
  · intro k m hk
    have hbk : bl[k]? = some (tl (Txt.lower m)) := by rw [← h2, List.getElem?_map, hk]; rfl
    have e : (tl (Str.join (Str.ofString "") ts)).map lo1 = bl.flatten := by rw [tl_join, flat_low, h1]
    obtain ⟨b1, b2⟩ := hb _ (List.mem_of_getElem? hbk)
    have hf : bl.flatten = (bl.take k).flatten ++ tl (Txt.lower m) ++ (bl.drop (k + 1)).flatten := by
      have := congrArg List.flatten (split_at hbk)
      rw [List.flatten_append, List.flatten_cons, ← List.append_assoc] at this
      exact this
    refine ⟨hm m (List.mem_of_getElem? hk), b1, b2, ?_, ?_, ?_⟩
    · rw [pre_flat h1, pre_flat h1, List.take_add_one, hbk, List.flatten_append, List.length_append]
      simp
    · rw [e, hf, pre_flat h1]
      exact occ_self _ _ _
    · rw [e, pre_flat h1]
      exact hu k _ hbk
theorem wl_head (i j x : Nat) : wl i j x ≠ [] ∧ (wl i j x).head? ≠ some 42 := by
  unfold wl
  rw [Nat.add_comm 1 i, List.replicate_succ]
  exact ⟨List.cons_ne_nil _ _, by show some 32 ≠ some 42; decide⟩
noncomputable abbrev blk (t : Nat × Nat × Nat) : List Nat := wl t.1 t.2.1 t.2.2
theorem not_in_blks {l : List (Nat × Nat × Nat)} {x : Nat} (h1 : x ≠ 32) (h2 : x ≠ 59) (h : ∀ t ∈ l, t.2.2 ≠ x) : x ∉ (l.map blk).flatten := fun q => by
  obtain ⟨b, hb, hc⟩ := List.mem_flatten.mp q
  obtain ⟨t, ht, rfl⟩ := List.mem_map.mp hb
  rcases wl_mem hc with e | e | e
  · exact h1 e
  · exact h t ht e.symm
  · exact h2 e
theorem hu_gen {nb : List (List Nat)} (hn : nb = [] ∨ ∃ r, 1 ≤ r ∧ nb = [List.replicate r 45]) {l : List (Nat × Nat × Nat)} (hd : l.Pairwise fun a b => a.2.2 ≠ b.2.2) (hx : ∀ t ∈ l, t.2.2 ≠ 32 ∧ t.2.2 ≠ 59 ∧ t.2.2 ≠ 45)
    (k : Nat) (b : List Nat) (h : (nb ++ l.map blk)[k]? = some b) (p : Nat) (ho : OccAt (nb ++ l.map blk).flatten b p) : p = (((nb ++ l.map blk).take k).flatten).length := by
  by_cases hk : k < nb.length
  · rcases hn with rfl | ⟨r, hr, rfl⟩
    · exact absurd hk (Nat.not_lt_zero _)
    · obtain rfl : k = 0 := Nat.lt_one_iff.mp hk
      obtain rfl := Option.some.inj h
      exact uniq_name (not_in_blks (by decide) (by decide) fun t ht => (hx t ht).2.2) hr ho
  · obtain ⟨j, rfl⟩ : ∃ j, k = nb.length + j := ⟨k - nb.length, by omega⟩
    have h' : (l.map blk)[j]? = some b := by rw [List.getElem?_append_right (Nat.le_add_right _ _), Nat.add_sub_cancel_left] at h; exact h
    rw [List.getElem?_map] at h'
    cases e : l[j]? with
    | none => rw [e] at h'; cases h'
    | some t =>
      rw [e] at h'
      obtain rfl := Option.some.inj h'
      have hs := split_at e
      rw [hs] at hd
      obtain ⟨_, d2, d3⟩ := List.pairwise_append.mp hd
      have ht := hx t (List.mem_of_getElem? e)
      rw [flat_split h] at ho
      refine uniq_wl (fun q => ?_) ?_ ht.1 ht.2.1 ho
      · rw [List.take_length_add_append, List.flatten_append] at q
        rcases List.mem_append.mp q with q | q
        · rcases hn with rfl | ⟨r, _, rfl⟩
          · cases q
          · rw [List.flatten_singleton] at q
            exact ht.2.2 (List.eq_of_mem_replicate q)
        · rw [← List.map_take] at q
          exact not_in_blks ht.1 ht.2.1 (fun a ha => d3 a ha t (.head _)) q
      · rw [Nat.add_assoc, List.drop_length_add_append, ← List.map_drop]
        exact not_in_blks ht.1 ht.2.1 fun a ha => ((List.pairwise_cons.mp d2).1 a ha).symm
structure NM (nm : List Str) (nb : List (List Nat)) : Prop where
  low : nm.map (fun t => (tl t).map lo1) = nb
  mark : nm.map (fun m => tl (Txt.lower m)) = nb
  star : ∀ m ∈ nm, m ≠ Str.ofString "*"
  sg : ∀ t ∈ nm, ∀ c ∈ tl t, c < 128 ∧ c ≠ 47 ∧ c ≠ 37 ∧ c ≠ 10
  len : ∀ t ∈ nm, 1 ≤ t.length ∧ t.length ≤ 4
  cnt : nm.length ≤ 1
  nbx : nb = [] ∨ ∃ r, 1 ≤ r ∧ nb = [List.replicate r 45]
  tot : nb.flatten.length ≤ 4
theorem nm_of {r : Nat} (hr : r < 5) : ∃ nb, NM (nameL r) nb := by
  obtain ⟨n1, n2, n3, n4, n5⟩ := name_wf r hr
  by_cases h0 : r = 0
  · rw [nameL, if_pos h0]
    exact ⟨[], { low := rfl, mark := rfl, star := (List.forall_mem_nil _), sg := (List.forall_mem_nil _), len := (List.forall_mem_nil _), cnt := Nat.zero_le _, nbx := .inl rfl, tot := Nat.zero_le _ }⟩
  · have e : nameL r = [dash r] := if_neg h0
    rw [e]
    have one : ∀ {P : Str → Prop}, P (dash r) → ∀ t ∈ [dash r], P t := fun h t ht => by rw [List.mem_singleton.mp ht]; exact h
    have l : 1 ≤ (dash r).length ∧ (dash r).length ≤ 4 := by rw [n5]; omega
    exact ⟨[List.replicate r 45], congrArg (fun x => [x]) n1, congrArg (fun x => [x]) n2, one n3, one (sg_of n4), one l, Nat.le_refl _, .inr ⟨r, by omega, rfl⟩, by rw [List.flatten_singleton, List.length_replicate]; omega⟩
theorem flat_bound {l : List (List Nat)} {a b : Nat} (h : ∀ x ∈ l, a ≤ x.length ∧ x.length ≤ b) : a * l.length ≤ l.flatten.length ∧ l.flatten.length ≤ b * l.length := by
  induction l with
  | nil => exact ⟨Nat.le_refl _, Nat.le_refl _⟩
  | cons x r ih =>
    have i := ih fun y hy => h y (.tail _ hy)
    have z := h x (.head _)
    rw [List.flatten_cons, List.length_append, List.length_cons, Nat.mul_succ, Nat.mul_succ, Nat.add_comm x.length]
    exact ⟨Nat.add_le_add i.1 z.1, Nat.add_le_add i.2 z.2⟩
structure Wd where
  w : Str × Str
  m : Str
  t : Nat × Nat × Nat
theorem plain_of {nm : List Str} {nb : List (List Nat)} {W : Nat} (M : NM nm nb) (hW : 6 ≤ W ∧ W ≤ 11) {ws : List Wd} (hl : ws.length = 5) (hls : ws.map (fun q => q.t.2.2) = [97, 98, 99, 100, 101]) (hw : ∀ q ∈ ws, WF q.w q.m (blk q.t)) :
    Plain (nm ++ (ws.map (·.w)).map fun c => c.1 ++ c.2) (nm ++ ws.map (·.m)) W := by
  have hls' : (ws.map (·.t)).map (·.2.2) = [97, 98, 99, 100, 101] := by rw [List.map_map]; exact hls
  have hd : (ws.map (·.t)).Pairwise fun a b => a.2.2 ≠ b.2.2 := List.pairwise_map.mp (hls' ▸ (show List.Pairwise (· ≠ ·) [97, 98, 99, 100, 101] by decide))
  have hx : ∀ t ∈ ws.map (·.t), t.2.2 ≠ 32 ∧ t.2.2 ≠ 59 ∧ t.2.2 ≠ 45 := fun t ht => (show ∀ x ∈ [97, 98, 99, 100, 101], x ≠ 32 ∧ x ≠ 59 ∧ x ≠ 45 by decide) t.2.2 (hls' ▸ List.mem_map_of_mem (f := fun t : Nat × Nat × Nat => t.2.2) ht)
  have h1 : (nm ++ (ws.map (·.w)).map fun c => c.1 ++ c.2).map (fun t => (tl t).map lo1) = nb ++ (ws.map (·.t)).map blk := by
    rw [List.map_append, M.low, List.map_map, List.map_map, List.map_map]
    exact congrArg (nb ++ ·) (List.map_congr_left fun q hq => (hw q hq).low)
  have h2 : (nm ++ ws.map (·.m)).map (fun m => tl (Txt.lower m)) = nb ++ (ws.map (·.t)).map blk := by
    rw [List.map_append, M.mark, List.map_map, List.map_map]
    exact congrArg (nb ++ ·) (List.map_congr_left fun q hq => (hw q hq).mark)
  have inT : ∀ {P : Str → Prop}, (∀ t ∈ nm, P t) → (∀ q ∈ ws, P (q.w.1 ++ q.w.2)) → ∀ t ∈ nm ++ (ws.map (·.w)).map (fun c => c.1 ++ c.2), P t := fun a b t ht => (List.mem_append.mp ht).elim (a t) fun h => by
    rw [List.map_map] at h
    obtain ⟨q, hq, rfl⟩ := List.mem_map.mp h
    exact b q hq
  have inM : ∀ {P : Str → Prop}, (∀ t ∈ nm, P t) → (∀ q ∈ ws, P q.m) → ∀ t ∈ nm ++ ws.map (·.m), P t := fun a b t ht => (List.mem_append.mp ht).elim (a t) fun h => by
    obtain ⟨q, hq, rfl⟩ := List.mem_map.mp h
    exact b q hq
  have hlen : ∀ q ∈ ws, (q.w.1 ++ q.w.2).length = (blk q.t).length := fun q hq => by rw [← (hw q hq).low, List.length_map, tl_len]
  have hsg := inT M.sg fun q hq => (hw q hq).sg
  have hb : ∀ x ∈ (ws.map (·.t)).map blk, 3 ≤ x.length ∧ x.length ≤ 6 := fun x hx' => by
    rw [List.map_map] at hx'
    obtain ⟨q, hq, rfl⟩ := List.mem_map.mp hx'
    exact ⟨by show 3 ≤ (wl _ _ _).length; rw [wl_len]; omega, by show (blk q.t).length ≤ 6; rw [← hlen q hq]; exact (hw q hq).short⟩
  have fb := flat_bound hb
  rw [List.length_map, List.length_map, hl] at fb
  have tot : (nb ++ (ws.map (·.t)).map blk).flatten.length = nb.flatten.length + ((ws.map (·.t)).map blk).flatten.length := by rw [List.flatten_append, List.length_append]
  have cnt : (nm ++ (ws.map (·.w)).map fun c => c.1 ++ c.2).length = nm.length + 5 := by rw [List.length_append, List.length_map, List.length_map, hl]
  have hnb : ∀ b ∈ nb ++ (ws.map (·.t)).map blk, b ≠ [] ∧ b.head? ≠ some 42 := fun b hb' => (List.mem_append.mp hb').elim (fun h => by
      rcases M.nbx with e | ⟨r, hr, e⟩
      · rw [e] at h; cases h
      · rw [e] at h
        rw [List.mem_singleton.mp h]
        obtain ⟨r, rfl⟩ : ∃ n, r = n + 1 := ⟨r - 1, by omega⟩
        exact ⟨List.cons_ne_nil _ _, by show some 45 ≠ some 42; decide⟩) fun h => by
      obtain ⟨t, _, rfl⟩ := List.mem_map.mp h
      exact wl_head _ _ _
  have m4 := M.tot
  have mc := M.cnt
  refine ⟨strip_of h1 h2 (by rw [tot]; clear hb hlen; omega) hsg (inM M.star fun q hq => (hw q hq).star) hnb (hu_gen M.nbx hd hx), hW, ⟨by rw [cnt]; exact Nat.le_trans (by decide) (Nat.le_add_left 5 _), by rw [cnt]; exact Nat.add_le_add_right mc 5⟩, inT (fun t ht => ⟨(M.len t ht).1, Nat.le_trans (M.len t ht).2 (by decide)⟩) (fun q hq => ⟨by rw [hlen q hq]; exact Nat.le_trans (by decide) (hb _ (List.mem_map.mpr ⟨_, List.mem_map.mpr ⟨q, hq, rfl⟩, rfl⟩)).1, (hw q hq).short⟩), inM (fun m hm => Nat.le_trans (M.len m hm).2 (by decide)) fun q hq => (hw q hq).mlen, ?_, fun x hx' c => (hsg x hx' 10 c).2.2.2 rfl⟩
  rw [pre_all h1, tot]
  clear hb hlen
  omega
theorem signs_ok (n : Nat) : signsOk (signsOf n) := by
  unfold signsOf signsOk
  split
  · exact .inl rfl
  · split
    · exact .inr (.inl rfl)
    · exact .inr (.inr rfl)
theorem law_plain (n0 n1 n2 n3 n4 n5 : Nat) : Plain (nameL (n0 % 5) ++ (wordsOf n1 n2 n3 n4 n5).map fun c => c.1 ++ c.2) (nameL (n0 % 5) ++ marksOf n1 n2 n3 n4 n5) (6 + n0 / 5 % 6) ∧
    ∃ wr, wordsOf n1 n2 n3 n4 n5 = wordOf "a" n1 :: wr ∧ Fed (nameL (n0 % 5) ++ (wordsOf n1 n2 n3 n4 n5).map fun c => c.1 ++ c.2) (6 + n0 / 5 % 6) (n0 % 5) (wordOf "a" n1) wr ∧ (∀ c ∈ wr, 1 ≤ c.2.length ∧ c.2.length ≤ 100) ∧ ∀ c ∈ wordsOf n1 n2 n3 n4 n5, c.1.length + c.2.length ≤ 100 := by
  have b : ∀ n : Nat, n % 2 < 2 ∧ n / 2 % 3 < 3 := fun n => ⟨Nat.mod_lt _ (by decide), Nat.mod_lt _ (by decide)⟩
  have w1 : WF (wordOf "a" n1) (markOf "A" n1) (wl (n1 % 2) (n1 / 2 % 3) 97) := wf_of (wf_a _ (b n1).1 _ (b n1).2)
  have w2 : WF (wordOf "B" n2) (markOf "b" n2) (wl (n2 % 2) (n2 / 2 % 3) 98) := wf_of (wf_b _ (b n2).1 _ (b n2).2)
  have w3 : WF (wordOf "c" n3) (markOf "C" n3) (wl (n3 % 2) (n3 / 2 % 3) 99) := wf_of (wf_c _ (b n3).1 _ (b n3).2)
  have w4 : WF (wordOf "D" n4) (markOf "d" n4) (wl (n4 % 2) (n4 / 2 % 3) 100) := wf_of (wf_d _ (b n4).1 _ (b n4).2)
  have w5 : WF (wordOf "e" n5) (markOf "E" n5) (wl (n5 % 2) (n5 / 2 % 3) 101) := wf_of (wf_e _ (b n5).1 _ (b n5).2)
  obtain ⟨nb, M⟩ := nm_of (Nat.mod_lt n0 (show 5 > 0 by decide))
  have hw : ∀ q ∈ [(⟨wordOf "a" n1, markOf "A" n1, (n1 % 2, n1 / 2 % 3, 97)⟩ : Wd), ⟨wordOf "B" n2, markOf "b" n2, (n2 % 2, n2 / 2 % 3, 98)⟩, ⟨wordOf "c" n3, markOf "C" n3, (n3 % 2, n3 / 2 % 3, 99)⟩, ⟨wordOf "D" n4, markOf "d" n4, (n4 % 2, n4 / 2 % 3, 100)⟩, ⟨wordOf "e" n5, markOf "E" n5, (n5 % 2, n5 / 2 % 3, 101)⟩], WF q.w q.m (blk q.t) :=
    List.forall_mem_cons.mpr ⟨w1, List.forall_mem_cons.mpr ⟨w2, List.forall_mem_cons.mpr ⟨w3, List.forall_mem_cons.mpr ⟨w4, List.forall_mem_cons.mpr ⟨w5, List.forall_mem_nil _⟩⟩⟩⟩⟩
  have pl := plain_of (W := 6 + n0 / 5 % 6) M ⟨Nat.le_add_right _ _, Nat.add_le_add_left (Nat.le_of_lt_succ (Nat.mod_lt _ (by decide))) 6⟩ rfl rfl hw
  refine ⟨pl, _, rfl, ⟨?_, rfl, ⟨w1.ck, w1.sm, w1.bl, w1.short⟩, ?_, by show 4 ≤ 10; decide⟩, ?_, ?_⟩
  · have := Nat.mod_lt n0 (show 5 > 0 by decide); omega
  · intro w hw
    simp only [List.mem_cons, List.not_mem_nil, or_false] at hw
    rcases hw with rfl | rfl | rfl | rfl
    · exact ⟨w2.word, w2.cks, w2.short⟩
    · exact ⟨w3.word, w3.cks, w3.short⟩
    · exact ⟨w4.word, w4.cks, w4.short⟩
    · exact ⟨w5.word, w5.cks, w5.short⟩
  · intro w hw
    simp only [List.mem_cons, List.not_mem_nil, or_false] at hw
    rcases hw with rfl | rfl | rfl | rfl
    · exact w2.part
    · exact w3.part
    · exact w4.part
    · exact w5.part
  · intro w hw
    have sh : ∀ {t : Str × Str} {m : Str} {b : List Nat}, WF t m b → t.1.length + t.2.length ≤ 100 := fun {t m b} q => by
      have := q.short
      rw [Str.length_append] at this
      omega
    simp only [wordsOf, List.mem_cons, List.not_mem_nil, or_false] at hw
    rcases hw with rfl | rfl | rfl | rfl | rfl
    · exact sh w1
    · exact sh w2
    · exact sh w3
    · exact sh w4
    · exact sh w5
theorem wpAny_step {M : Model} {A : Around} {E : Value → Shared → Prop} {s : Shared} {env : PySem.Env} {l : List PySem.Stmt} {Q : Flow → Shared → Prop} (i n j : Nat) (hj : i + n = j)
    (h : wpAny M A (execs ((l.drop i).take n) env) (fun f s' => match f with | .next => wpAny M A (execs (l.drop j) env) Q E s' | f => Q f s') E s) : wpAny M A (execs (l.drop i) env) Q E s := by
  subst hj
  refine wpAny_cut n ?_
  rw [List.drop_drop]
  exact h
theorem name_le (rm : Nat) : (nameL rm).length ≤ 10 := by
  unfold nameL
  split
  · exact Nat.zero_le _
  · show 1 ≤ 10; decide
theorem LawAt.ckAt {g h : Heap} {L : Addr} {ps qs : Array Value} {vars cm : List (Str × Value)} {rest rn : List (Addr × Obj)} {P : Heap → Prop} (a : LawAt g h L ps qs vars cm rest) (c : Ck rn P) (hs : ∀ p ∈ rn, p ∈ rest) : P h := by
  obtain ⟨_, ⟨C₀, N, _⟩, _, _⟩ := a
  exact c h fun p hp => (N p (List.mem_append_right _ (hs p hp))).1
set_option maxHeartbeats 4000000 in
theorem law_spec {w : World} {A : Around} {E : Value → Shared → Prop} {s : Shared} {mg mb : Str → Option Value} {bm : Addr} {ob : Obj} {l : Addr} {sv : List Value} {ns : List Int} {Q : Value → Shared → Prop}
   (X : (fr.heap_1 w.params).In (hideAll s.heap [140, 147])) (T : TT mg mb (hideAll s.heap [140, 147])) (BM : BMod (hideAll s.heap [140, 147]) mainGlobals mg bm ob) (h140 : s.heap.get? 140 = some (tabObj #[])) (h147 : s.heap.get? 147 = some (tabObj #[]))
   (hh : A.handled = none) (hdp : A.depth < 700) (hun : A.units < 7000) (hw : (hideAll s.heap [140, 147]).IsList l sv.toArray) (hws : IntsAre sv ns) (hn : ns.length ≤ 63)
   (k : ∀ h' g' tk' ps qs, (∀ b o, (hideAll s.heap [140, 147]).get? b = some o → h'.get? b = some o) → h'.get? 140 = some (tabObj ps) → h'.get? 147 = some (tabObj qs) → (AllBare s.gens → AllBare g') → Q (.bool true) { s with heap := h', gens := g', toks := tk' }) :
   wpAny (model (Challenge.rw_rs0167_01.row.prog) w) A (call (.ref 274) [.ref l]) Q E s := by
  refine law_entry X T h140 h147 (by omega) ?_
  intro h1 tk1 a1
  refine wpAny_cut 4 ?_
  refine stage1 X T hh (by omega) a1 hw hws hn ?_
  intro h2 tk2 r cv n n0 n1 n2 n3 n4 n5 t1 t2 t3 rest2 a2 hr hcv _ _ _ _ _ _
  clear a1
  obtain ⟨pl, wr, ew, fed, hwl, hwc⟩ := law_plain n0 n1 n2 n3 n4 n5
  obtain ⟨r0, rr, runs, safe, fin, hrows, hmap, gr, hwt, hsplit⟩ := fed.rows pl (signs_ok n0)
  have hrm : n0 % 5 ≤ 4 := fed.room
  generalize hts : (nameL (n0 % 5) ++ (wordsOf n1 n2 n3 n4 n5).map fun c => c.1 ++ c.2) = ts at *
  generalize hms : nameL (n0 % 5) ++ marksOf n1 n2 n3 n4 n5 = ms at *
  generalize hW : 6 + n0 / 5 % 6 = W at *
  dsimp only
  refine wpAny_step 4 2 6 rfl ?_
  refine stage2 (vars := []) (cm := []) X T hh (by omega) a2 hr hcv ?_
  intro h3 tk3 bl sl bv zv m1 m2 new3 a3 hb hbv hsz hzv
  clear a2
  dsimp only
  refine wpAny_step 6 1 7 rfl ?_
  refine stage3 X T hh (by omega) a3 (List.mem_append_left _ hb) hbv (List.mem_append_left _ hsz) hzv ?_
  intro h4 tk4 wl wv m3 new4 a4 hwl4 hck4
  clear a3
  dsimp only
  refine wpAny_step 7 1 8 rfl ?_
  refine stage4 X T hh (by omega) hrm a4 ?_
  intro h5 tk5 nl nv m4 new5 a5 hnl5 hnv
  clear a4
  dsimp only
  refine wpAny_step 8 1 9 rfl ?_
  have s5 : ∀ p ∈ new4, p ∈ new5 ++ (new4 ++ (new3 ++ rest2)) := fun p hp => List.mem_append_right _ (List.mem_append_left _ hp)
  refine stage5 X T hh (by omega) a5 (List.mem_append_left _ hnl5) hnv (name_le _) (s5 _ hwl4) (hck4.mono s5) (by show 5 ≤ 10; decide) hwc ?_
  intro h6 tk6 tl tv m5 new6 a6 htl6 htv
  clear a5
  rw [hts] at htv
  dsimp only
  refine wpAny_step 9 1 10 rfl ?_
  have s6 : ∀ p ∈ new5 ++ (new4 ++ (new3 ++ rest2)), p ∈ new6 ++ (new5 ++ (new4 ++ (new3 ++ rest2))) := fun p hp => List.mem_append_right _ hp
  have s3 : ∀ p ∈ new3, p ∈ new5 ++ (new4 ++ (new3 ++ rest2)) := fun p hp => List.mem_append_right _ (List.mem_append_right _ (List.mem_append_left _ hp))
  refine stage6 X T hh (by omega) a6 (s6 _ (s3 _ hb)) hbv (s6 _ (s3 _ hsz)) hzv (s6 _ (List.mem_append_left _ hnl5)) hnv (name_le _) ?_
  intro h7 tk7 ml mv m6 new7 a7 hml7 hmv
  clear a6
  rw [hms] at hmv
  have hwl7 := List.mem_append_right new7 (s6 _ (s5 _ hwl4))
  have hck7 := hck4.mono fun p hp => List.mem_append_right new7 (s6 _ (s5 _ hp))
  have htl7 := List.mem_append_right new7 (List.mem_append_left (new5 ++ (new4 ++ (new3 ++ rest2))) htl6)
  have hml8 := List.mem_append_left (new6 ++ (new5 ++ (new4 ++ (new3 ++ rest2)))) hml7
  generalize new7 ++ (new6 ++ (new5 ++ (new4 ++ (new3 ++ rest2)))) = rest7 at *
  clear hml7 htl6 hck4 hwl4 s6 s5 s3 hb hsz hnl5
  have hsix := pl.six
  have hlen : W ≤ (Str.join (Str.ofString "") ts).length := by rw [Strip.total]; exact pl.strip.wide
  have hJ : (Str.join (Str.ofString "") ts).length ≤ 100 := by rw [Strip.total]; exact Nat.le_trans pl.total (by decide)
  have hmt := pl.strip.len
  have hfew := pl.few
  dsimp only
  refine wpAny_step 10 2 12 rfl ?_
  refine stage7 X T hh (by omega) a7 htl7 htv pl.wts hsix.2 hlen ?_
  intro h8 tk8 hl hv t8 m8 new8 a8 hhl8 hhv
  clear a7
  have hwl8 := List.mem_append_right new8 hwl7
  have hck8 := hck7.mono fun p hp => List.mem_append_right new8 hp
  have htl8 := List.mem_append_right new8 htl7
  have hml9 := List.mem_append_right new8 hml8
  have hhl9 := List.mem_append_left rest7 hhl8
  generalize new8 ++ rest7 = rest8 at *
  clear hwl7 hck7 htl7 hml8 hhl8
  dsimp only
  refine wpAny_step 12 1 13 rfl ?_
  refine stage8 X T hh (by omega) a8 rfl hml9 hmv (by omega) pl.marks hhl9 hhv pl.wtw hJ ?_
  intro h9 tk9 rl rv m9 rn9 new9 a9 hrl9 hrn9 hrs
  clear a8
  have hwl9 := List.mem_append_right new9 hwl8
  have hck9 := hck8.mono fun p hp => List.mem_append_right new9 hp
  have htl9 := List.mem_append_right new9 htl8
  have hhl10 := List.mem_append_right new9 hhl9
  have hrl10 := List.mem_append_left rest8 hrl9
  have hrn10 : ∀ p ∈ rn9, p ∈ new9 ++ rest8 := fun p hp => List.mem_append_left _ (hrn9 p hp)
  generalize new9 ++ rest8 = rest9 at *
  clear hwl8 hck8 htl8 hml9 hhl9 hrl9 hrn9
  have hel := recs_len ts ms W
  have hrec := pl.recs
  have f9 : ∀ k < ts.length, ((recsOf ms (windowsF (Str.join (Str.ofString "") ts) W) (Str.join (Str.ofString "") ts)).getD k ([], [])).1 = heldF ts k (k + 1) (windowsF (Str.join (Str.ofString "") ts) W) W := fun k hk => pl.fact9 hk
  have hrvl : rv.length = (recsOf ms (windowsF (Str.join (Str.ofString "") ts) W) (Str.join (Str.ofString "") ts)).length := RecsAt.length (a9.ckAt hrs hrn10)
  dsimp only
  refine wpAny_step 13 1 14 rfl ?_
  refine stage9 X T hh (by omega) (by omega) a9 rfl rfl rfl htl9 htv hfew.2 pl.wts hhl10 hhv pl.wtw (fun x hx => (pl.win hx).2) hsix.2 hrl10 hrn10 hrs (by omega) f9 ?_
  intro h10 tk10 cm10 rest10 a10 hcm10 hs10
  have c10r := hcm10 (Str.ofString "records") (by decide +kernel)
  have c10s := hcm10 (Str.ofString "shown") (by decide +kernel)
  have c10w := hcm10 (Str.ofString "width") (by decide +kernel)
  clear a9 hcm10
  rw [ew] at hck9
  dsimp only
  refine wpAny_step 14 1 15 rfl ?_
  refine stage10 X T BM hh (by omega) (by omega) a10 c10w (hs10 _ hwl9) (hck9.mono hs10) hsix.2 hrm (by have := signs_ok n0; unfold signsOk at this; rcases this with h | h | h <;> rw [h] <;> decide +kernel) hwl fed.count safe fin hrows hsplit (Nat.le_trans (join_nl _) (by omega)) (by omega) ?_
  intro h11 g11 tk11 ps qs lr wv11 m11 a11 hwv11 hg11
  clear a10 safe fin hrows hsplit
  rw [show (Txt.mul (Str.ofString "-") ((n0 % 5 : Nat) : Int) ++ r0) :: rr = runs.map (txt ts) from hmap] at hwv11
  have hruns := runsF_gr ts (fun x hx => (pl.short x hx).1) gr
  obtain ⟨f0, hlast⟩ := gr_last gr
  have hs11 : ∀ p ∈ rest9, p ∈ (lr, ({ cls := .type "list", data := .seq (List.toArray wv11) m11 } : Obj)) :: rest10 := fun p hp => .tail _ (hs10 p hp)
  have hlr11 : (lr, ({ cls := .type "list", data := .seq (List.toArray wv11) m11 } : Obj)) ∈ (lr, ({ cls := .type "list", data := .seq (List.toArray wv11) m11 } : Obj)) :: rest10 := .head _
  generalize (lr, ({ cls := .type "list", data := .seq (List.toArray wv11) m11 } : Obj)) :: rest10 = rest11 at *
  have hwtr : wt (runs.map (txt ts)) ≤ 1000 := Nat.le_trans (pl.wtr gr) (by decide)
  have hcount := gr_count gr
  dsimp only
  refine wpAny_step 15 2 17 rfl ?_
  refine stage11 (s := { s with gens := g11 }) X T hh (by omega) a11 hlr11 hwv11 hwtr (hs11 _ htl9) htv pl.wts (hruns.symm ▸ hlast) ?_
  intro h12 tk12 ul pv m12 rn12 a12 hpv
  clear a11
  rw [hruns] at hpv
  have hs12 : ∀ p ∈ rest11, p ∈ ((ul, ({ cls := .type "list", data := .seq (List.toArray pv) m12 } : Obj)) :: rn12) ++ rest11 := fun p hp => List.mem_append_right _ hp
  have hul12 : (ul, ({ cls := .type "list", data := .seq (List.toArray pv) m12 } : Obj)) ∈ ((ul, ({ cls := .type "list", data := .seq (List.toArray pv) m12 } : Obj)) :: rn12) ++ rest11 := .head _
  have hpn12 : ∀ p ∈ rn12, p ∈ ((ul, ({ cls := .type "list", data := .seq (List.toArray pv) m12 } : Obj)) :: rn12) ++ rest11 := fun p hp => List.mem_append_left _ (.tail _ hp)
  generalize ((ul, ({ cls := .type "list", data := .seq (List.toArray pv) m12 } : Obj)) :: rn12) ++ rest11 = rest12 at *
  have hz : ∀ p ∈ rest9, p ∈ rest12 := fun p hp => hs12 p (hs11 p hp)
  dsimp only
  refine wpAny_step 17 1 18 rfl ?_
  refine stage12 (s := { s with gens := g11 }) X T hh (by omega) (by omega) a12 c10s c10r c10w (hz _ htl9) htv hfew.2 pl.wts (hz _ hhl10) hhv pl.wtw (fun x hx => (pl.win hx).2) hsix.2 (hz _ hrl10) (fun p hp => hz p (hrn10 p hp)) hrs (by omega) (fun e he => (hrec e he).1) (hs12 _ hlr11) hwv11 hwtr hul12 hpn12 hpv (by omega) (by rw [List.length_map]) (fun i f b hi => pl.rowFacts gr hi) ?_
  intro h13 tk13 vars13 cm13 rest13 a13 hvr hcm13 hs13
  clear a12
  have c13r := (hcm13 (Str.ofString "records") (by decide +kernel)).trans c10r
  have v13r := hvr (Str.ofString "rows") (by decide +kernel)
  dsimp only
  refine wpAny_step 18 1 19 rfl ?_
  refine stage13 (s := { s with gens := g11 }) X T hh (by omega) (by omega) a13 c13r (hs13 _ (hz _ hrl10)) (fun p hp => hs13 p (hz p (hrn10 p hp))) hrs (by omega) (fun e he => (hrec e he).1) (fun e he => (hrec e he).2) ?_
  intro h14 tk14 gl gv m14 new14 a14 hgl14 hgv
  clear a13
  dsimp only
  refine wpAny_step 19 1 20 rfl ?_
  refine stage14a (s := { s with gens := g11 }) X T hh (by omega) a14 ?_
  intro h15 tk15 al av m15 new15 a15 hal15 hav
  clear a14
  have hs15 : ∀ p ∈ rest13, p ∈ new15 ++ (new14 ++ rest13) := fun p hp => List.mem_append_right _ (List.mem_append_right _ hp)
  have hgs15 : ∀ p ∈ new14, p ∈ new15 ++ (new14 ++ rest13) := fun p hp => List.mem_append_right _ (List.mem_append_left _ hp)
  have has15 : ∀ p ∈ new15, p ∈ new15 ++ (new14 ++ rest13) := fun p hp => List.mem_append_left _ hp
  generalize new15 ++ (new14 ++ rest13) = rest15 at *
  have hstr := strange_len (recsOf ms (windowsF (Str.join (Str.ofString "") ts) W) (Str.join (Str.ofString "") ts))
  dsimp only
  refine wpAny_step 20 1 21 rfl ?_
  refine stage14 (s := { s with gens := g11 }) (n := ts.length) X T hh (by omega) a15 ?c2 ?c4 (hs15 _ (hs13 _ (hz _ hrl10))) (by omega) hfew.2 (hgs15 _ hgl14) (hgv.mono hgs15) (by omega) (fun k hk => strange_row _ (by omega)) (has15 _ hal15) (hav.mono has15) ?_
  case c2 => rw [lk_cons, if_neg (by decide +kernel)]; exact c13r
  case c4 => rw [lk_cons, if_pos rfl]
  intro h16 tk16 al16 av16 m16 cm16 rest16 a16 hs16 hal16 hav16
  clear a15
  obtain ⟨hex, haq⟩ := pl.apart gr
  have hal := apart_len (strangeF (recsOf ms (windowsF (Str.join (Str.ofString "") ts) W) (Str.join (Str.ofString "") ts))) ts.length
  have h2p : 2 ^ ts.length ≤ 2 ^ 6 := Nat.pow_le_pow_right (by decide) hfew.2
  dsimp only
  refine stage15 (s := { s with gens := g11 }) (n := runs.length) X T hh (by omega) a16 ?c1 ?c2 (hs16 _ (hs15 _ (hs13 _ (hs12 _ hlr11)))) ?hrl (by omega) hal16 hav16 (Nat.le_trans hal (Nat.le_trans h2p (by decide))) haq hex ?_
  case c1 => rw [lk_cons, if_pos rfl]
  case c2 => rw [lk_cons, if_neg (by decide +kernel)]; exact v13r
  case hrl => rw [hwv11.length, List.length_map]
  intro h17 tk17 hk e140 e147
  exact k h17 g11 tk17 ps qs hk e140 e147 hg11
theorem loose_eq : looseW vw [Str.ofString "_Accumulator"] = [Str.ofString "_Accumulator"] := by kernel_rfl
theorem good_end {c : ClaimW} {cl : Str → Option Addr} {mean : ExcName → Option Value} {args : List WData} {s₁ : Shared} {h' : Heap} {g' : Array GenState} {tk' : Nat} {ps qs : Array Value} (hT : TabsAt [(144, 140), (151, 147)] s₁.heap)
    (hk : ∀ b o, (hideAll s₁.heap [140, 147]).get? b = some o → h'.get? b = some o) (e1 : h'.get? 140 = some (tabObj ps)) (e2 : h'.get? 147 = some (tabObj qs)) (hg : AllBare g') (hn : ∀ cls, c.raises args cls = false) (hp : c.post args (.bool true) args = true) :
    GoodWG c cl mean args s₁ (.ok (.ret (.bool true))) { s₁ with heap := h', gens := g', toks := tk' } := by
  have t1 := hT (144, 140) (.head _)
  have t2 := hT (151, 147) (.tail _ (.head _))
  have keep : ∀ b o, b ∉ [(140 : Addr), 147] → s₁.heap.get? b = some o → h'.get? b = some o := fun b o hb e => hk b o (hideAll_get _ e hb)
  have tab : ∀ b o, b ∈ [(140 : Addr), 147] → s₁.heap.get? b = some o → isCodeTable s₁.heap b ∧ o = tabObj #[] ∧ ∃ zs, h'.get? b = some (tabObj zs) := fun b o hb e => by
    simp only [List.mem_cons, List.not_mem_nil, or_false] at hb
    rcases hb with rfl | rfl
    · exact ⟨(t1.1.tab t1.2).isCodeTable, Option.some.inj (e.symm.trans t1.2), ps, e1⟩
    · exact ⟨(t2.1.tab t2.2).isCodeTable, Option.some.inj (e.symm.trans t2.2), qs, e2⟩
  refine ⟨.inl ⟨.bool true, .bool true, [], rfl, hn, .bool true, hp, fun _ => ⟨List.nodup_nil, fun a h => nomatch h⟩⟩, ⟨fun b o e => ?_, fun b o e => ?_⟩, rfl, hg⟩
  · by_cases hb : b ∈ [(140 : Addr), 147]
    · obtain ⟨ht, rfl, zs, hz⟩ := tab b o hb e
      exact .inr (.inl ⟨ht, rfl, #[], zs, rfl, by rw [Array.empty_append]; exact hz⟩)
    · exact .inl (keep b o hb e)
  · by_cases hb : b ∈ [(140 : Addr), 147]
    · obtain ⟨_, _, zs, hz⟩ := tab b o hb e
      exact ⟨_, hz⟩
    · exact ⟨o, keep b o hb e⟩
set_option maxHeartbeats 4000000 in
theorem law_end {as : List Addr} {e : ∀ P, as = (fr.heap_1 P).map (·.1)} {d : DefRec} (hn : d.name = Str.ofString "law") :
    WalkO vw [Str.ofString "_Accumulator"] (XL vw []) (kmHook fr.heap_1 as e [140, 147]).says Challenge.rw_rs0167_01.row.toRowW d [] (fun f vs => PySem.call f vs) := by
  intro w s₀ s₁ mg mb G Y fa o pm cd doc dV kV ho hd hcd hD hmg hg args vals as' hpre hlay hrd hwl hlo
  have KX := km_in_of Y
  have KT := km_tabs_of Y
  have hT : TabsAt [(144, 140), (151, 147)] s₁.heap := List.forall_mem_cons.mpr ⟨⟨codeHd_of_K (c := 144) (P := 140) KX (by kernel_rfl), KT 140 (by simp)⟩, List.forall_mem_cons.mpr ⟨⟨codeHd_of_K (c := 151) (P := 147) KX (by kernel_rfl), KT 147 (by simp)⟩, fun _ h => nomatch h⟩⟩
  have X' := ghost_K hT KX (by kernel_rfl)
  refine Ground.open G ?_
  intro T B D TE TW
  have T' := ghost_top hT T
  have e274 : fa = 274 := by
    have q := mg_of (n := Str.ofString "law") (v := .ref 274) KX T.g (by kernel_rfl)
    rw [hn, q] at hmg
    injection hmg with hmg
    injection hmg with hmg
    exact hmg.symm
  subst e274
  clear ho hd hcd hD
  have hpre' := hpre
  wrow_args hpre hlay hrd hwl hlo
  rename s₁.heap.IsList _ _ => hL
  rename IntsAre _ _ => hI
  rename ¬ ((63 : Nat) : Int) < _ => h63
  obtain ⟨bm, ob, b1, b2, b3, b4, b5, b6⟩ := T'.bmain
  have TR : TT mg mb (hideAll s₁.heap [140, 147]) := ⟨T'.g, T'.b, T'.nolimit, T.builtins, fun x q1 q2 q3 q4 q5 => by
    have f := T.free x q1
    rw [loose_eq] at f
    exact f q2 q3 q4 q5⟩
  refine law_spec X' TR ⟨T'.g, b1, b2, b3, b4, b5, b6⟩ (KT 140 (by simp)) (KT 147 (by simp)) rfl (by decide) (by decide) (ghost_list hT hL) hI (by omega) ?_
  intro h' g' tk' ps qs hk e1 e2 hb
  refine good_end hT hk e1 e2 (hb (.of_eq hg)) (fun _ => rfl) ?_
  wrow_post
noncomputable def hd.tw4555462946037337122 : Nat := 0
noncomputable def hd.tw13330244855972007585 : Nat := 0
noncomputable def hd.tw8457440626546761165 : Nat := 0
noncomputable def hd.tw5174551420813472067 : Nat := 0
noncomputable def hd.tw3571134770919094901 : Nat := 0
noncomputable def hd.tw11162318198679636149 : Nat := 0
noncomputable def hd.tw7023726343779634624 : Nat := 0
noncomputable def hd.tw5567388512258382067 : Nat := 0
noncomputable def hd.tw5657824000916062451 : Nat := 0
noncomputable def hd.tw17681399029576232318 : Nat := 0
noncomputable def hd.tw11389486352061984695 : Nat := 0
noncomputable def hd.tw18264374347568628810 : Nat := 0
noncomputable def hd.tw15833661619300960221 : Nat := 0
noncomputable def hd.tw8226494294326810461 : Nat := 0
noncomputable def hd.tw6555240042291301478 : Nat := 0
noncomputable def hd.tw5511420028821071320 : Nat := 0
noncomputable def hd.tw15529170255622000948 : Nat := 0
noncomputable def hd.tw14892549342360969540 : Nat := 0
noncomputable def hd.tw3530705653197291679 : Nat := 0
noncomputable def hd.tw4702841417184801058 : Nat := 0
noncomputable def hd.tw3493717111155160527 : Nat := 0
noncomputable def hd.tw1760603350576429475 : Nat := 0
noncomputable def hd.tw2195365466389143174 : Nat := 0
noncomputable def hd.tw17542962492245011380 : Nat := 0
noncomputable def hd.tw9748044761591592747 : Nat := 0
noncomputable def hd.tw6545403380812914513 : Nat := 0
noncomputable def hd.tw4360684699965382250 : Nat := 0
noncomputable def hd.tw1800889605409440832 : Nat := 0
noncomputable def hd.tw11631947586910100387 : Nat := 0
noncomputable def hd.tw3673089383077640791 : Nat := 0
noncomputable def hd.tw12949589719889679912 : Nat := 0
noncomputable def hd.tw16056359734778111409 : Nat := 0
noncomputable def hd.tw14727110085682223627 : Nat := 0
noncomputable def hd.tw18219297243305740317 : Nat := 0
noncomputable def hd.tw10403243965636340961 : Nat := 0
noncomputable def hd.tw12422294168940278220 : Nat := 0
noncomputable def hd.tw9657781627882305391 : Nat := 0
noncomputable def hd.tw17672654358674132775 : Nat := 0
noncomputable def hd.tw7366208706002141716 : Nat := 0
noncomputable def hd.tw14168552714766633299 : Nat := 0
noncomputable def hd.tw6276725880618359904 : Nat := 0
noncomputable def hd.tw8458067239894703972 : Nat := 0
noncomputable def hd.tw6305734824756694309 : Nat := 0
noncomputable def hd.tw701787995468756871 : Nat := 0
noncomputable def hd.tw8268277133935991078 : Nat := 0
noncomputable def hd.tw17574625026820762457 : Nat := 0
noncomputable def hd.tw5130813555471234732 : Nat := 0
noncomputable def hd.tw1580110805410547442 : Nat := 0
noncomputable def hd.tw13518370688599389936 : Nat := 0
noncomputable def hd.tw14353793391729792155 : Nat := 0
noncomputable def hd.tw16432713993328977331 : Nat := 0
noncomputable def hd.tw15368132723985388332 : Nat := 0
noncomputable def hd.tw7028611270464810887 : Nat := 0
noncomputable def hd.tw11210553801493137410 : Nat := 0
noncomputable def hd.tw9673543361469618366 : Nat := 0
noncomputable def hd.tw8112040973832200146 : Nat := 0
noncomputable def hd.tw7120233287515763914 : Nat := 0
noncomputable def hd.tw1222794163293265305 : Nat := 0
noncomputable def hd.tw14457593812595234344 : Nat := 0
noncomputable def hd.tw17252143746492648416 : Nat := 0
noncomputable def hd.tw17975533764899295144 : Nat := 0
noncomputable def hd.tw13609717118414637909 : Nat := 0
noncomputable def hd.tw8959176491354863721 : Nat := 0
noncomputable def hd.tw1359830224848277088 : Nat := 0
noncomputable def hd.tw11785442959627412574 : Nat := 0
noncomputable def hd.tw1129884963351977449 : Nat := 0
noncomputable def hd.tw758273949599710562 : Nat := 0
noncomputable def hd.tw978945382295711627 : Nat := 0
noncomputable def hd.tw9960721518486171458 : Nat := 0
noncomputable def hd.tw17087091549796120035 : Nat := 0
noncomputable def hd.tw16959575678036814512 : Nat := 0
noncomputable def hd.tw16345102440705955213 : Nat := 0
noncomputable def hd.tw14955159897011116063 : Nat := 0
noncomputable def hd.tw17893044597097874663 : Nat := 0
noncomputable def hd.tw8735263284916673568 : Nat := 0
noncomputable def hd.tw16945582573551092051 : Nat := 0
noncomputable def hd.tw5278057926702712004 : Nat := 0
noncomputable def hd.tw6819123309680001836 : Nat := 0
noncomputable def hd.tw6196171512934965099 : Nat := 0
noncomputable def hd.tw12023040214023829324 : Nat := 0
noncomputable def hd.tw11513968764499736323 : Nat := 0
noncomputable def hd.tw14246236162039180721 : Nat := 0
noncomputable def hd.tw10258999931320997221 : Nat := 0
noncomputable def hd.tw17062030032774818151 : Nat := 0
noncomputable def hd.tw1439246655266547700 : Nat := 0
noncomputable def hd.tw16211521421427940678 : Nat := 0
noncomputable def hd.tw4478964076566166474 : Nat := 0
noncomputable def hd.tw6293948785866598258 : Nat := 0
noncomputable def hd.tw12487502673411948298 : Nat := 0
noncomputable def hd.tw14705683404202351889 : Nat := 0
noncomputable def hd.tw6394381022753523788 : Nat := 0
noncomputable def hd.tw6528754448969337418 : Nat := 0
noncomputable def hd.tw9345676750909349944 : Nat := 0
noncomputable def hd.tw12399718760709695909 : Nat := 0
noncomputable def hd.tw3646829019195819677 : Nat := 0
noncomputable def hd.tw17673860158736603733 : Nat := 0
noncomputable def hd.tw1600037746751723098 : Nat := 0
noncomputable def hd.tw922143313871775805 : Nat := 0
noncomputable def hd.tw4015398097383911347 : Nat := 0
noncomputable def hd.tw1413172679324656950 : Nat := 0
noncomputable def hd.tw17711083657039698284 : Nat := 0
noncomputable def hd.tw12588582704262371052 : Nat := 0
noncomputable def hd.tw10603584201595350602 : Nat := 0
noncomputable def hd.tw15759970867653108152 : Nat := 0
noncomputable def hd.tw15837987909243819085 : Nat := 0
noncomputable def hd.tw15166520500009309586 : Nat := 0
noncomputable def hd.tw13770079208771991547 : Nat := 0
noncomputable def hd.tw9277588360372424766 : Nat := 0
noncomputable def hd.tw3919010098100093602 : Nat := 0
noncomputable def hd.tw1506431575118746342 : Nat := 0
noncomputable def hd.tw10170382586518783626 : Nat := 0
noncomputable def hd.tw4225703048834024713 : Nat := 0
noncomputable def hd.tw3109861748172591687 : Nat := 0
noncomputable def hd.tw16477043939570097188 : Nat := 0
noncomputable def hd.tw16259696140248634718 : Nat := 0
noncomputable def hd.tw1013155817946168525 : Nat := 0
noncomputable def hd.tw16007149819294483003 : Nat := 0
noncomputable def hd.tw18103342009636024947 : Nat := 0
noncomputable def hd.tw16634568088961857937 : Nat := 0
noncomputable def hd.tw2603259988358896889 : Nat := 0
noncomputable def hd.tw5363564295841288755 : Nat := 0
noncomputable def hd.tw9345929723534960622 : Nat := 0
noncomputable def hd.tw13225837485096350037 : Nat := 0
noncomputable def hd.tw3219085151875037572 : Nat := 0
noncomputable def hd.tw14194692369981509116 : Nat := 0
noncomputable def hd.tw4971549296188076032 : Nat := 0
noncomputable def hd.tw5190246844813560578 : Nat := 0
noncomputable def hd.tw4115565904173853331 : Nat := 0
noncomputable def hd.tw728884934406724761 : Nat := 0
noncomputable def hd.tw4402725079659364252 : Nat := 0
noncomputable def hd.tw11149407913341048200 : Nat := 0
noncomputable def hd.tw991583007596301734 : Nat := 0
noncomputable def hd.tw17183224562656869120 : Nat := 0
noncomputable def hd.tw1382963296337349011 : Nat := 0
noncomputable def hd.tw17950676927832955104 : Nat := 0
noncomputable def hd.tw12070051907170230399 : Nat := 0
noncomputable def hd.tw16091413853298234908 : Nat := 0
noncomputable def hd.tw11032806212648032379 : Nat := 0
noncomputable def hd.tw16722109127936396110 : Nat := 0
noncomputable def hd.tw15089522573102190283 : Nat := 0
noncomputable def hd.tw10525666975642140466 : Nat := 0
noncomputable def hd.tw6411954120941647267 : Nat := 0
noncomputable def hd.tw10111801491309104144 : Nat := 0
noncomputable def hd.tw12271959270614036898 : Nat := 0
noncomputable def hd.tw11319892378374348655 : Nat := 0
noncomputable def hd.tw5781342201191254626 : Nat := 0
noncomputable def hd.tw5902613922787404954 : Nat := 0
noncomputable def hd.tw4851647983119433812 : Nat := 0
noncomputable def hd.tw4086058157674990017 : Nat := 0
noncomputable def hd.tw17606422857730326317 : Nat := 0
noncomputable def hd.tw16904818350239718627 : Nat := 0
noncomputable def hd.tw17213754286329925777 : Nat := 0
noncomputable def hd.tw11660266114150955751 : Nat := 0
noncomputable def hd.tw6838551448383532254 : Nat := 0
noncomputable def hd.tw2274498078352570744 : Nat := 0
noncomputable def hd.tw9719896912496429819 : Nat := 0
noncomputable def hd.tw15103106377680225435 : Nat := 0
noncomputable def hd.tw10838164176166872871 : Nat := 0
noncomputable def hd.tw2068664650715991707 : Nat := 0
noncomputable def hd.tw14560493823538711346 : Nat := 0
noncomputable def hd.tw2708950531961675432 : Nat := 0
noncomputable def hd.tw11054480109507316185 : Nat := 0
noncomputable def hd.tw13267510147771200024 : Nat := 0
noncomputable def hd.tw6123773746684550334 : Nat := 0
noncomputable def hd.tw402640490398009360 : Nat := 0
noncomputable def hd.tw189712035060473897 : Nat := 0
noncomputable def hd.tw3259873300814134281 : Nat := 0
noncomputable def hd.tw16194383521188589630 : Nat := 0
noncomputable def hd.tw2442259710966052079 : Nat := 0
noncomputable def hd.tw11402939732021071671 : Nat := 0
noncomputable def hd.tw18322514126500204803 : Nat := 0
noncomputable def hd.tw13855881374063213867 : Nat := 0
noncomputable def hd.tw11893437276241958245 : Nat := 0
noncomputable def hd.tw10424393626065333798 : Nat := 0
noncomputable def hd.tw16853341256802265648 : Nat := 0
noncomputable def hd.tw4272726840584523970 : Nat := 0
noncomputable def hd.tw15042006015671813226 : Nat := 0
noncomputable def hd.tw16064382804478563927 : Nat := 0
noncomputable def hd.tw4297731678662094536 : Nat := 0
noncomputable def hd.tw4014540891139286612 : Nat := 0
noncomputable def hd.tw7754304195085646258 : Nat := 0
noncomputable def hd.tw11652457597714270106 : Nat := 0
noncomputable def hd.tw13362437707155312330 : Nat := 0
noncomputable def hd.tw10792051664901133789 : Nat := 0
noncomputable def hd.tw12631932088317031055 : Nat := 0
noncomputable def hd.tw18293732401869909652 : Nat := 0
noncomputable def hd.tw4065347644161347641 : Nat := 0
noncomputable def hd.tw5148922909946612681 : Nat := 0
noncomputable def hd.tw18300207936620678264 : Nat := 0
noncomputable def hd.tw8343274005884668182 : Nat := 0
noncomputable def hd.tw2101469004524951375 : Nat := 0
noncomputable def hd.tw10743916045514856203 : Nat := 0
noncomputable def hd.tw8481889019746583477 : Nat := 0
noncomputable def hd.tw5961118342813265553 : Nat := 0
noncomputable def hd.tw11136197038861592535 : Nat := 0
noncomputable def hd.tw17714235663813219645 : Nat := 0
noncomputable def hd.tw4478166936697009375 : Nat := 0
noncomputable def hd.tw7289634563603522867 : Nat := 0
noncomputable def hd.tw9566141503761928105 : Nat := 0
noncomputable def hd.tw14103535550066685397 : Nat := 0
noncomputable def hd.tw10601615944963115059 : Nat := 0
noncomputable def hd.tw1011335219593555734 : Nat := 0
noncomputable def hd.tw17579296083999419209 : Nat := 0
noncomputable def hd.tw2867327485932766208 : Nat := 0
noncomputable def hd.tw9641152695372364146 : Nat := 0
noncomputable def hd.tw17054507655720011243 : Nat := 0
noncomputable def hd.tw16412773359747925120 : Nat := 0
noncomputable def hd.tw15642763164714097627 : Nat := 0
noncomputable def hd.tw11465210709893060100 : Nat := 0
noncomputable def hd.tw17447410573909459338 : Nat := 0
noncomputable def hd.tw17177331786930743035 : Nat := 0
noncomputable def hd.tw5343241284826551009 : Nat := 0
noncomputable def hd.tw10949625832625181284 : Nat := 0
noncomputable def hd.tw12647368939536790636 : Nat := 0
noncomputable def hd.tw5373601922739893978 : Nat := 0
noncomputable def hd.tw10614716105012338702 : Nat := 0
noncomputable def hd.tw5608270528595127837 : Nat := 0
noncomputable def hd.tw13483081372092288885 : Nat := 0
noncomputable def hd.tw16299908979028503884 : Nat := 0
noncomputable def hd.tw11232374478483605306 : Nat := 0
noncomputable def hd.tw6291416237084387574 : Nat := 0
noncomputable def hd.tw1997569388931296116 : Nat := 0
noncomputable def hd.tw18343703819029505601 : Nat := 0
noncomputable def hd.tw15967140613478806237 : Nat := 0
noncomputable def hd.tw6082411064634330575 : Nat := 0
noncomputable def hd.tw10246146449241189800 : Nat := 0
noncomputable def hd.tw395138700845864316 : Nat := 0
noncomputable def hd.tw7914949630228597729 : Nat := 0
noncomputable def hd.tw15615537253650120727 : Nat := 0
noncomputable def hd.tw15616948245753086127 : Nat := 0
noncomputable def hd.tw2930668341846507884 : Nat := 0
noncomputable def hd.tw6060742912462422084 : Nat := 0
noncomputable def hd.tw5987830557187376847 : Nat := 0
noncomputable def hd.tw9141302689577602353 : Nat := 0
noncomputable def hd.tw17650839729002327288 : Nat := 0
noncomputable def hd.tw2386827423013361158 : Nat := 0
noncomputable def hd.tw8228950375871286339 : Nat := 0
noncomputable def hd.tw9741134391959003819 : Nat := 0
noncomputable def hd.tw13790719812936386609 : Nat := 0
noncomputable def hd.tw3451239065008710300 : Nat := 0
noncomputable def hd.tw4494801613693538912 : Nat := 0
noncomputable def hd.tw4233181963852624665 : Nat := 0
noncomputable def hd.tw6407587892757256292 : Nat := 0
noncomputable def hd.tw12112201142124510154 : Nat := 0
noncomputable def hd.tw3039998526598829958 : Nat := 0
noncomputable def hd.tw2887051446865420828 : Nat := 0
noncomputable def hd.tw15790720579355451973 : Nat := 0
noncomputable def hd.tw11117797201346649052 : Nat := 0
noncomputable def hd.tw2608437505485318709 : Nat := 0
noncomputable def hd.tw10458740792067480800 : Nat := 0
noncomputable def hd.tw17872693414312351632 : Nat := 0
noncomputable def hd.tw6019021122589006684 : Nat := 0
set_option Elab.async true
set_option maxRecDepth 100000 in
set_option maxHeartbeats 8000000 in
theorem hd : PySem.Challenge.rw_rs0167_01.Holds := by
  w_on
  o_law
  o_head (kmHook fr.heap_1 [2, 3, 15, 17, 18, 20, 21, 29, 31, 32, 34, 35, 36, 38, 39, 41, 42, 43, 45, 46, 48, 49, 50, 52, 53, 55, 56, 57, 59, 60, 62, 63, 64, 66, 67, 69, 70, 71, 73, 74, 76, 77, 78, 80, 81, 83, 84, 85, 87, 88, 90, 91, 92, 93, 94, 95, 96, 99, 102, 107, 108, 109, 111, 112, 114, 115, 116, 118, 119, 121, 122, 123, 124, 126, 127, 129, 130, 131, 132, 134, 135, 137, 138, 139, 141, 142, 144, 145, 146, 148, 149, 151, 152, 153, 154, 156, 157, 159, 160, 161, 163, 164, 166, 167, 168, 169, 171, 172, 174, 175, 176, 177, 178, 179, 180, 190, 192, 193, 195, 196, 197, 199, 200, 202, 203, 204, 206, 207, 209, 210, 211, 213, 214, 216, 217, 218, 219, 220, 221, 222, 225, 227, 228, 230, 231, 232, 235, 236, 237, 239, 240, 242, 243, 244, 246, 247, 249, 250, 251, 254, 255, 256, 258, 259, 261, 262, 263, 265, 266, 268, 269, 270, 273, 274] (fun _ => by kernel_rfl) [140, 147])
  case hw => w_witness2
  exact law_end rfl
end Slm
end Sbase
end Mine
theorem PySem.Challenge.cw_rs0167_01_holds : PySem.Challenge.rw_rs0167_01.Holds := by
  exact Mine.hd
