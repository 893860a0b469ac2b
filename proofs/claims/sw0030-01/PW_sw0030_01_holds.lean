import PyProof.Rows.All
import Wide.All
import OpenK.AllK
import Wide.FinOn
import PySem.Challenge.RW_sw0030_01
open PySem PySem.W PyProof.Rows PySem.W.X
set_option Elab.async false
set_option compiler.extract_closed false
set_option linter.all false
local macro_rules | `(tactic| walk_at "lk") => `(tactic| first | with_reducible exact if_pos rfl | with_reducible assumption | (k_dflt (refine Eq.trans (if_neg (by decide)) ?_); walk_at "lk"))
namespace Mine
theorem both {a b c : Prop} (x : a) (y : b) (f : a → b → c) : c := f x y
theorem of_boot {p : Program} {β : Type} {Fs : Shared → β} {Ya : World → β} {N : Nat} (e : opening p = plainProg p.main.scope.names) (f : ∀ s, fenceModules? p s = some s) (hN : Nat.ble 600 N = true)
    (h : ∀ (w : World) (os : OsState), (topFrom treeTable p w N ⟨boot_heap w.params, #[], boot_drawn, boot_toks, os⟩).map Fs = some (Ya w)) : ∀ w, (openEnds treeTable p w N).map Fs = some (Ya w) := fun w => by
  obtain ⟨s, hs, hv⟩ := Option.map_eq_some_iff.mp (boot_open e hN f w)
  unfold openEnds
  rw [hs]
  obtain ⟨heap, gens, drawn, toks, os⟩ := s
  cases hv
  exact h w os
set_option maxRecDepth 100000 in
set_option maxHeartbeats 8000000 in
noncomputable def hd := (show _ → PySem.Challenge.rw_sw0030_01.Holds from fun h => by
  w_on
  o_law
  rename_i said
  refine' both ?hl ?hc ?_
  rotate_left 4
  intro hlh hch
  have said' := said
  focus (k_head; (case hw => w_witness2))
  case hl =>
    clear said h
    refine of_boot ?e ?f (by rfl) ?h
    case e => kernel_rfl
    case f => intro s; kernel_rfl
    case h => intro w os; kernel_rfl
  case hc => exact h)
end Mine
namespace Mine
section
variable {prog : Program} {w : World} {A A₀ : Around} {s : Shared} {K : Frag} {L : Addr} {h₀ base : Heap} {m mg mb : Str → Option Value} {p : Program} {loose : List Str} {mean : ExcName → Option Value}
  {env : Env} {outer : List Env} {R : Result → Shared → Prop} {name qual : Str} {params : Arguments} {body : List Stmt} {scope : Scope} {dV kV doc pm cdv ct oc : Value} {an od : Option Addr} {osl : Array (Option Value)} {f : Addr} {args : Args} {binds : List (Str × Value)}
theorem codeP (B : Below A₀ base outer h₀) (F : Fr h₀ L s.heap m) (X₀ : K.In h₀) (T : Top p loose mean mg mb h₀) (hA : A.frames = some (env :: outer)) (hf : env.frame = some L) (hke : env.scope.kind = .function)
    (ho : K.lookup f = some ⟨oc, od, .func (fnOf name qual params body scope dV kV doc pm an cdv ct), osl⟩) (hcd : codeIn K cdv qual = true) (hroom : A.depth < recursionLimit)
    (hbind : BindsTo s (fnOf name qual params body scope dV kV doc pm an cdv ct) args binds) (hloc : ∀ y ∈ binds, scope.names.lookup y.1 = some .local)
    (h : ∀ h₁, Fr s.heap s.heap.objs.size h₁ (fun y => binds.reverse.lookup y) → News s.heap s.heap.objs.size h₁ [] → Below A base (env :: outer) s.heap → K.In s.heap → Top p loose mean mg mb s.heap →
      wpAny (model prog w) (A.deeper (envOf qual scope s.heap.objs.size f cdv)) (execs body (envOf qual scope s.heap.objs.size f cdv))
        (fun fl s' => R (.ok (.ret (match fl with | .ret v => v | _ => .none))) s')
        (fun e s' => wpAny (model prog w) (A.deeper (envOf qual scope s.heap.objs.size f cdv)) (leaving (envOf qual scope s.heap.objs.size f cdv) e) (fun _ s'' => R (.error e) s'') (fun e' s'' => R (.error e') s'') s')
        { s with heap := h₁, toks := s.toks + binds.length })
    (hco : scope.isCoroutine = false) (hgen : scope.isGenerator = false) (hk : scope.kind = .function) (hcell : ∀ x ∈ scope.names, x.2 ≠ .cell) : codeAny (model prog w) A (.call (.ref f) args) R s := by
  obtain ⟨_, BG, st, _⟩ := groundX (R := R) B F News.nil hA hf hke
  exact codeAny_call_def (fd := fnOf name qual params body scope dV kV doc pm an cdv ct) (body := body) (binds := binds) hroom ((X₀.keeps F.keep) _ _ ho) rfl (T.nolimit.keeps F.keep) (codeRec_of (X₀.keeps F.keep) hcd) rfl hbind hcell hloc
    (fun h₁ hns hk₁ => h h₁ ⟨hns, hk₁, Nat.le_refl _⟩ News.nil BG (X₀.keeps st) (T.keeps st)) hco hgen hk
end
abbrev Cl (N M : Nat) (w : World) (loose : List Str) (mean : ExcName → Option Value) (mg mb : Str → Option Value) (f : Addr) (pre : Prop) (vs : List Value) (R : Tok → Value) : Prop :=
  ∀ (dp un : Nat) (gd : Option (List Code)) (cn : Str) (cs : Scope) (a : Addr) (ccd : Value) (cl : List (Str × Addr)) (outer : List Env) (A₀ : Around) (base h₀ : Heap) (L : Addr) (m : Str → Option Value) (s : Shared) (Q E : Value → Shared → Prop),
    Below A₀ base outer h₀ → Fr h₀ L s.heap m → (Mine.hd.heap_39 w.params).In h₀ → Top Mine.hd.view_39 loose mean mg mb h₀ → cs.kind = .function →
    pre → dp + N < recursionLimit → un + M < cLine → (∀ (t : Tok) (h' : Heap) (tk' : Nat), (∀ b o, s.heap.get? b = some o → h'.get? b = some o) → Q (R t) { s with heap := h', toks := tk' }) →
      wpAny (model Challenge.rw_sw0030_01.row.prog w) (ktrTop dp un gd cn cs L a ccd cl outer) (call (.ref f) vs) Q E s
theorem str1_ne {x y : Nat} (h : x ≠ y) : (Str.mk #[x] == Str.mk #[y]) = false := by
  rw [beq_eq_false_iff_ne]; intro e; apply h; injection e with e; simpa using e
theorem lo_ne {x y : Nat} (h : x ≠ y) (hx : 33 ≤ x ∧ x ≤ 90) (hy : 33 ≤ y ∧ y ≤ 90) : lo1 x ≠ lo1 y := by
  unfold lo1; intro e; revert e; (repeat' split) <;> intro e <;> simp_all <;> omega
theorem lower1 {x : Nat} (hx : 33 ≤ x ∧ x ≤ 90) : Txt.lower (Str.mk #[x]) = Str.mk #[lo1 x] := by
  rw [lower_ascii (by intro c hc; simp at hc; omega)]; simp
theorem lower_by {prog : Program} {w : World} {A : Around} {E : Value → Shared → Prop} {s : Shared} {Q : Value → Shared → Prop} {x : Str} {z : Nat} {t : Tok} (e : Txt.lower x = Str.mk #[z]) (h : ∀ t' k, Q (.str (Str.mk #[z]) t') { s with toks := k }) :
    wpAny (model prog w) A (call (.builtin "str.lower") [.str x t]) Q E s := by
  refine KXw.lower e ?_ h
  rw [e]; rfl
set_option maxRecDepth 100000 in
set_option maxHeartbeats 8000000 in
theorem sub_c (w : World) (mean mg mb) (x y : Nat) (tx ty) : Cl 2 20 w (looseW Mine.hd.view_39 []) mean mg mb 63 (x ≠ y ∧ (33 ≤ x ∧ x ≤ 90) ∧ (33 ≤ y ∧ y ≤ 90)) [.str ⟨#[x]⟩ tx, .str ⟨#[y]⟩ ty] (fun t => .int 2 t) := by
  unfold Cl
  k_fill
  intros
  rename_i hpre _ _ hret
  obtain ⟨hne, hx, hy⟩ := hpre
  have e1 := str1_ne hne
  have e2 := str1_ne (lo_ne hne hx hy)
  have l1 := lower1 hx
  have l2 := lower1 hy
  refine wpAny_call ?_
  k_dflt (refine' codeP ?zqk1 ?zqk2 ?zqk3 ?zqk5 ?zqkA ?zqkF ?zqkK ?zqk6 ?zqk7 ?zqk8 ?zqk9 ?zqkB ?_ ?zqc2 ?zqc3 ?zqc4 ?zqc5; (case zqkA => exact rfl); (case zqkF => exact rfl); (case zqkK => assumption); (case zqk1 => k_asm); (case zqk2 => k_asm); (case zqk3 => k_asm); (case zqk5 => k_asm); (case zqk6 => k_is); (case zqk7 => k_is); (case zqk8 => ktr_room); (case zqk9 => exact BindsTo.of_eq rfl); (case zqc5 => decide); (case zqkB => exact locs rfl); (case zqc2 => exact rfl); (case zqc3 => exact rfl); (case zqc4 => exact rfl); k_whole; intro h' F' N' B' X' T'; (try dsimp only); (try k_fold))
  repeat' (first
    | (k_unfold; (try dsimp only))
    | (k_end; wrow_close)
    | ((with_reducible show wpAny _ _ (call (Value.builtin "str.lower") _) _ _ _); (k_here; (with_reducible show wpAny _ _ (call (Value.builtin "str.lower") [Value.str _ _]) _ _ _); (refine lower_by (by assumption) ?_); intro _ _))
    | walk1
    | (dsimp only; walk1)
    | (leave1; walk_say "STEP leave1"; try dsimp only)
    | fail "no step")
  all_goals exact hret _ _ _ (Fr.keep (by assumption))
theorem sub_use {w : World} {mean mg mb news} {x y : Nat} {tx ty} {dp un : Nat} {gd : Option (List Code)} {cn : Str} {cs : Scope} {a : Addr} {ccd : Value} {cl : List (Str × Addr)} {outer : List Env} {A₀ : Around} {base h₀ : Heap} {L : Addr} {m : Str → Option Value} {s : Shared} {Q E : Value → Shared → Prop}
    (k1 : Below A₀ base outer h₀) (k2 : Fr h₀ L s.heap m) (k3 : (Mine.hd.heap_39 w.params).In h₀) (k4 : News h₀ L s.heap news) (k5 : Top Mine.hd.view_39 (looseW Mine.hd.view_39 []) mean mg mb h₀) (kK : cs.kind = .function)
    (kp : x ≠ y ∧ (33 ≤ x ∧ x ≤ 90) ∧ (33 ≤ y ∧ y ≤ 90)) (kd : dp + 2 < recursionLimit) (ku : un + 20 < cLine)
    (kR : ∀ (t : Tok) (h' : Heap) (tk' : Nat), Fr h₀ L h' m → News h₀ L h' news → Q (.int 2 t) { s with heap := h', toks := tk' }) :
    wpAny (model Challenge.rw_sw0030_01.row.prog w) (ktrTop dp un gd cn cs L a ccd cl outer) (call (.ref 63) [.str ⟨#[x]⟩ tx, .str ⟨#[y]⟩ ty]) Q E s :=
  sub_c w mean mg mb x y tx ty dp un gd cn cs a ccd cl outer A₀ base h₀ L m s Q E k1 k2 k3 k5 kK kp kd ku (fun t h' tk' hk => kR t h' tk' (k2.keeps hk) (k4.grown hk))
section
variable {prog : Program} {w : World} {A : Around} {E : Value → Shared → Prop} {s : Shared} {Q : Value → Shared → Prop} {x y : Str} {t u : Tok} {h₀ : Heap} {L : Addr} {m : Str → Option Value} {news : List (Addr × Obj)} {value slice : PySem.Expr}
theorem eqs_f (e : x.cps.toList ≠ y.cps.toList) (h : Q (.bool false) s) : wpAny (model prog w) A (compareOp .Eq (.str x t) (.str y u)) Q E s := PySem.P.eq_str (by rw [beq_eq_false_iff_ne.mpr e]; exact h)
theorem eqs_t (e : x.cps.toList = y.cps.toList) (h : Q (.bool true) s) : wpAny (model prog w) A (compareOp .Eq (.str x t) (.str y u)) Q E s := PySem.P.eq_str (by rw [e, beq_self_eq_true]; exact h)
theorem item_lit {i : Int} {c : Nat} (hr : fitsSsize i = true) (hb : (decide (-(x.length : Int) ≤ i) && decide (i < x.length)) = true) (e : Txt.item x i = Str.mk #[c])
    (h : ∀ t' k, Q (.str (Str.mk #[c]) t') { s with toks := k })
    (hs : subscripted slice false (.str x t) (.int i u) = operate [.str x t, .int i u] (getItem (.str x t) (.int i u)) := by with_unfolding_all rfl)
    (ht : ∀ r, letTemporaryGo value (.str x t) r = pure () := by intro _; with_unfolding_all rfl) :
    wpAny (model prog w) A (subscriptTail value slice (.str x t) (.int i u)) Q E s :=
  item_str hr (of_decide_eq_true (Bool.and_eq_true_iff.mp hb).1) (of_decide_eq_true (Bool.and_eq_true_iff.mp hb).2) (fun _ => by rw [e]; exact h _ _) hs ht
theorem slice_lit_sn {i : Int} {ui : Tok} (hF : Fr h₀ L s.heap m) (hN : News h₀ L s.heap news) (e : Txt.slice x (some i) none = y) (h : ∀ h' t' k, Fr h₀ L h' m → News h₀ L h' news → Q (.str y t') { s with heap := h', toks := k })
    (hsz : x.length ≤ sizeLine)
    (hs : subscripted slice false (.str x t) (.ref s.heap.objs.size) = operate [.ref s.heap.objs.size, .str x t] (getItem (.str x t) (.ref s.heap.objs.size)) := by with_unfolding_all rfl)
    (ht : ∀ r, letTemporaryGo value (.str x t) r = pure () := by intro _; with_unfolding_all rfl) :
    wpAny (model prog w) A (subscriptTail value slice (.str x t) (.ref s.heap.objs.size)) Q E { s with heap := s.heap.push { cls := .type "slice", data := .fields #[.int i ui, .none, .none] } } :=
  slice_strN_sn hF hN (fun h' t' k a b => by rw [e]; exact h h' t' k a b) hs ht hsz
theorem slice_lit_nn (hF : Fr h₀ L s.heap m) (hN : News h₀ L s.heap news) (e : Txt.slice x none none = y) (h : ∀ h' t' k, Fr h₀ L h' m → News h₀ L h' news → Q (.str y t') { s with heap := h', toks := k })
    (hsz : x.length ≤ sizeLine)
    (hs : subscripted slice false (.str x t) (.ref s.heap.objs.size) = operate [.ref s.heap.objs.size, .str x t] (getItem (.str x t) (.ref s.heap.objs.size)) := by with_unfolding_all rfl)
    (ht : ∀ r, letTemporaryGo value (.str x t) r = pure () := by intro _; with_unfolding_all rfl) :
    wpAny (model prog w) A (subscriptTail value slice (.str x t) (.ref s.heap.objs.size)) Q E { s with heap := s.heap.push { cls := .type "slice", data := .fields #[.none, .none, .none] } } :=
  slice_strN_nn hF hN (fun h' t' k a b => by rw [e]; exact h h' t' k a b) hs ht hsz
end
theorem it30 {a b c : Nat} : Txt.item (Str.mk #[a, b, c]) 0 = Str.mk #[a] := rfl
theorem it31 {a b c : Nat} : Txt.item (Str.mk #[a, b, c]) 1 = Str.mk #[b] := rfl
theorem it32 {a b c : Nat} : Txt.item (Str.mk #[a, b, c]) 2 = Str.mk #[c] := rfl
theorem it3m {a b c : Nat} : Txt.item (Str.mk #[a, b, c]) (-1) = Str.mk #[c] := rfl
theorem it20 {a b : Nat} : Txt.item (Str.mk #[a, b]) 0 = Str.mk #[a] := rfl
theorem it21 {a b : Nat} : Txt.item (Str.mk #[a, b]) 1 = Str.mk #[b] := rfl
theorem it2m {a b : Nat} : Txt.item (Str.mk #[a, b]) (-1) = Str.mk #[b] := rfl
theorem it10 {a : Nat} : Txt.item (Str.mk #[a]) 0 = Str.mk #[a] := rfl
theorem it1m {a : Nat} : Txt.item (Str.mk #[a]) (-1) = Str.mk #[a] := rfl
theorem sl30 {a b c : Nat} : Txt.slice (Str.mk #[a, b, c]) (some 0) none = Str.mk #[a, b, c] := by kernel_rfl
theorem sl31 {a b c : Nat} : Txt.slice (Str.mk #[a, b, c]) (some 1) none = Str.mk #[b, c] := by kernel_rfl
theorem sl32 {a b c : Nat} : Txt.slice (Str.mk #[a, b, c]) (some 2) none = Str.mk #[c] := by kernel_rfl
theorem sl3n {a b c : Nat} : Txt.slice (Str.mk #[a, b, c]) none none = Str.mk #[a, b, c] := by kernel_rfl
theorem sl2n {a b : Nat} : Txt.slice (Str.mk #[a, b]) none none = Str.mk #[a, b] := by kernel_rfl
theorem sl1n {a : Nat} : Txt.slice (Str.mk #[a]) none none = Str.mk #[a] := by kernel_rfl
theorem len_lit {prog : Program} {w : World} {A : Around} {E : Value → Shared → Prop} {s : Shared} {Q : Value → Shared → Prop} {x : Str} {t : Tok} {n : Int} (e : (x.length : Int) = n) (hn : n < 100) (h : ∀ t' k, Q (.int n t') { s with toks := k }) :
    wpAny (model prog w) A (call (.builtin "len") [.str x t]) Q E s := PySem.P.len_str (by omega) (by rw [e]; exact h _ _)

section
variable {prog : Program} {w : World} {A : Around} {E : Value → Shared → Prop} {s : Shared} {Q : Value → Shared → Prop} {Q' : Bool → Shared → Prop} {t u : Tok} {a b c d e f : Nat}
theorem eq1_t (h : Q (.bool true) s) : wpAny (model prog w) A (compareOp .Eq (.str (Str.mk #[a]) t) (.str (Str.mk #[a]) u)) Q E s := eqs_t rfl h
theorem eq1_f (e : a ≠ b) (h : Q (.bool false) s) : wpAny (model prog w) A (compareOp .Eq (.str (Str.mk #[a]) t) (.str (Str.mk #[b]) u)) Q E s := eqs_f (by simpa using e) h
theorem eq3_f (e' : ¬ (a = d ∧ b = e ∧ c = f)) (h : Q (.bool false) s) : wpAny (model prog w) A (compareOp .Eq (.str (Str.mk #[a, b, c]) t) (.str (Str.mk #[d, e, f]) u)) Q E s := eqs_f (by simpa using e') h
theorem tru1 (h : ∀ k, Q' true { s with toks := k }) : wpAny (model prog w) A (truthy (.str (Str.mk #[a]) t)) Q' E s := KXt.truthy (b := true) rfl (Nat.le_of_ble_eq_true rfl) h
theorem tru2 (h : ∀ k, Q' true { s with toks := k }) : wpAny (model prog w) A (truthy (.str (Str.mk #[a, b]) t)) Q' E s := KXt.truthy (b := true) rfl (Nat.le_of_ble_eq_true rfl) h
theorem tru3 (h : ∀ k, Q' true { s with toks := k }) : wpAny (model prog w) A (truthy (.str (Str.mk #[a, b, c]) t)) Q' E s := KXt.truthy (b := true) rfl (Nat.le_of_ble_eq_true rfl) h
theorem len1 (h : ∀ t' k, Q (.int 1 t') { s with toks := k }) : wpAny (model prog w) A (call (.builtin "len") [.str (Str.mk #[a]) t]) Q E s := len_lit (n := 1) rfl (by decide) h
theorem len2 (h : ∀ t' k, Q (.int 2 t') { s with toks := k }) : wpAny (model prog w) A (call (.builtin "len") [.str (Str.mk #[a, b]) t]) Q E s := len_lit (n := 2) rfl (by decide) h
theorem len3 (h : ∀ t' k, Q (.int 3 t') { s with toks := k }) : wpAny (model prog w) A (call (.builtin "len") [.str (Str.mk #[a, b, c]) t]) Q E s := len_lit (n := 3) rfl (by decide) h
end
theorem fr_abs {h₀ : Heap} {L : Addr} {h : Heap} {m : Str → Option Value} {P : Prop} (F : Fr h₀ L h m) (k : ∀ m', (∀ x, m' x = m x) → Fr h₀ L h m' → P) : P := k m (fun _ => rfl) F
theorem ite_tt9 {a b : Prop} (h : a) : if true = true then a else b := by rw [if_pos rfl]; exact h
theorem ite_ff9 {a b : Prop} (h : b) : if false = true then a else b := by rw [if_neg Bool.false_ne_true]; exact h

theorem hs_slice1 {n : Str} {p p' : Pos} {x : Str} {t : Tok} {a : Addr} : subscripted (.Slice (some (.Name n p')) none none p) false (.str x t) (.ref a) = operate [.ref a, .str x t] (getItem (.str x t) (.ref a)) := by with_unfolding_all rfl
theorem hs_slice2 {o : PySem.BoolOp} {vs : List PySem.Expr} {p p' : Pos} {x : Str} {t : Tok} {a : Addr} : subscripted (.Slice none (some (.BoolOp o vs p')) none p) false (.str x t) (.ref a) = operate [.ref a, .str x t] (getItem (.str x t) (.ref a)) := by with_unfolding_all rfl
theorem ht_name {n : Str} {p : Pos} {x : Str} {t : Tok} : ∀ r, letTemporaryGo (.Name n p) (.str x t) r = pure () := by intro _; with_unfolding_all rfl
theorem hs_nm {n : Str} {p : Pos} {x : Str} {t u : Tok} {i : Int} : subscripted (.Name n p) false (.str x t) (.int i u) = operate [.str x t, .int i u] (getItem (.str x t) (.int i u)) := by with_unfolding_all rfl
theorem hs_bin {l r : PySem.Expr} {o : PySem.Operator} {p : Pos} {x : Str} {t u : Tok} {i : Int} : subscripted (.BinOp l o r p) false (.str x t) (.int i u) = operate [.str x t, .int i u] (getItem (.str x t) (.int i u)) := by with_unfolding_all rfl
section
variable {prog : Program} {w : World} {A : Around} {E : Value → Shared → Prop} {s : Shared} {Q : Value → Shared → Prop} {x y : Str} {t u : Tok} {h₀ : Heap} {L : Addr} {m : Str → Option Value} {news : List (Addr × Obj)} {value slice : PySem.Expr}
  {n n' : Str} {p p' : Pos} {bo : PySem.BoolOp} {vs : List PySem.Expr} {p'' : Pos} {h : Heap} {gs : Array GenState} {dr : Drawn} {tk : Nat} {os : OsState}
theorem slice_n_sn {i : Int} {ui : Tok} (hF : Fr h₀ L h m) (hN : News h₀ L h news) (e : Txt.slice x (some i) none = y) (k : ∀ h' t' k, Fr h₀ L h' m → News h₀ L h' news → Q (.str y t') ⟨h', gs, dr, k, os⟩)
    (hsz : x.length ≤ sizeLine) :
    wpAny (model prog w) A (subscriptTail (.Name n p) (.Slice (some (.Name n' p'')) none none p') (.str x t) (.ref h.objs.size)) Q E ⟨h.push { cls := .type "slice", data := .fields #[.int i ui, .none, .none] }, gs, dr, tk, os⟩ :=
  slice_strN_sn (s := ⟨h, gs, dr, tk, os⟩) hF hN (fun h' t' k' a b => by rw [e]; exact k h' t' k' a b) hs_slice1 ht_name hsz
theorem slice_n_nn (hF : Fr h₀ L h m) (hN : News h₀ L h news) (e : Txt.slice x none none = y) (k : ∀ h' t' k, Fr h₀ L h' m → News h₀ L h' news → Q (.str y t') ⟨h', gs, dr, k, os⟩)
    (hsz : x.length ≤ sizeLine) :
    wpAny (model prog w) A (subscriptTail (.Name n p) (.Slice none (some (.BoolOp bo vs p'')) none p') (.str x t) (.ref h.objs.size)) Q E ⟨h.push { cls := .type "slice", data := .fields #[.none, .none, .none] }, gs, dr, tk, os⟩ :=
  slice_strN_nn (s := ⟨h, gs, dr, tk, os⟩) hF hN (fun h' t' k' a b => by rw [e]; exact k h' t' k' a b) hs_slice2 ht_name hsz
theorem item_nn {i : Int} {c : Nat} (hr : fitsSsize i = true) (hb : (decide (-(x.length : Int) ≤ i) && decide (i < x.length)) = true) (e : Txt.item x i = Str.mk #[c])
    (k : ∀ t' k, Q (.str (Str.mk #[c]) t') ⟨h, gs, dr, k, os⟩) :
    wpAny (model prog w) A (subscriptTail (.Name n p) (.Name n' p') (.str x t) (.int i u)) Q E ⟨h, gs, dr, tk, os⟩ := item_lit hr hb e k hs_nm ht_name
theorem item_nb {i : Int} {c : Nat} {l r : PySem.Expr} {o : PySem.Operator} (hr : fitsSsize i = true) (hb : (decide (-(x.length : Int) ≤ i) && decide (i < x.length)) = true) (e : Txt.item x i = Str.mk #[c])
    (k : ∀ t' k, Q (.str (Str.mk #[c]) t') ⟨h, gs, dr, k, os⟩) :
    wpAny (model prog w) A (subscriptTail (.Name n p) (.BinOp l o r p') (.str x t) (.int i u)) Q E ⟨h, gs, dr, tk, os⟩ := item_lit hr hb e k hs_bin ht_name
theorem gt_t {a b : Int} (e : b < a) (k : Q (.bool true) s) : wpAny (model prog w) A (compareOp .Gt (.int a t) (.int b u)) Q E s := PyProof.Rows.gt_int (by rw [decide_eq_true e]; exact k)
theorem gt_f {a b : Int} (e : ¬ b < a) (k : Q (.bool false) s) : wpAny (model prog w) A (compareOp .Gt (.int a t) (.int b u)) Q E s := PyProof.Rows.gt_int (by rw [decide_eq_false e]; exact k)
theorem lt_t {a b : Int} (e : a < b) (k : Q (.bool true) s) : wpAny (model prog w) A (compareOp .Lt (.int a t) (.int b u)) Q E s := PyProof.Rows.lt_int (by rw [decide_eq_true e]; exact k)
theorem lt_f {a b : Int} (e : ¬ a < b) (k : Q (.bool false) s) : wpAny (model prog w) A (compareOp .Lt (.int a t) (.int b u)) Q E s := PyProof.Rows.lt_int (by rw [decide_eq_false e]; exact k)
end

section
variable {prog : Program} {w : World} {A : Around} {E : Value → Shared → Prop} {s : Shared} {Q : Value → Shared → Prop} {Q' : Bool → Shared → Prop} {t u v : Tok} {h₀ : Heap} {L : Addr} {m : Str → Option Value} {news : List (Addr × Obj)}
theorem list_range_K {r : Addr} {a b c : Int} {n : Nat} (hh : A.handled = none) (Fh : Fr h₀ L s.heap m) (N : News h₀ L s.heap news)
    (hr : IsRange s.heap r a b c t u v) (hsmall : Builtin.Range.small a b c = true) (hn : Builtin.Range.rangeSize a b c = (n : Int)) (hlen : n ≤ 2 ^ 24)
    (hQ : ∀ l h' tk (ys : List Value) e, Fr h₀ L h' m → News h₀ L h' ((l, listOf ys.toArray e) :: news) → (∀ p ∈ news, p.1 < l) → IntsAre ys (rangeInts a c n) → Q (.ref l) { s with heap := h', toks := tk }) :
    wpAny (model prog w) A (call (.type "list") [.ref r]) Q E s := by
  refine call_list_range hh hr hsmall hn hlen fun h' tk acc' c' hk hS' hacc => ?_
  refine hQ s.heap.objs.size h' tk acc'.toList c' (Fh.keeps hk) ?_ (fun p hp => Heap.lt_size (N p hp).1) ?_
  · intro p hp
    rcases List.mem_cons.mp hp with rfl | hp
    · refine ⟨by simpa using hS', ?_, ?_⟩
      · exact Nat.ne_of_gt Fh.ns.lt
      · cases e : h₀.get? s.heap.objs.size with
        | none => rfl
        | some o => exact absurd (Heap.lt_size (Fh.keep _ _ e)) (Nat.lt_irrefl _)
    · exact ⟨hk _ _ (N p hp).1, (N p hp).2⟩
  · obtain ⟨acc⟩ := acc'
    have h1 : acc.length = n := by simpa using hacc.1
    have h2 : ∀ (j : Nat) (v : Value), acc[j]? = some v → ∃ t, v = .int (a + (j : Nat) * c) t := fun j v hv => hacc.2 j v (by simpa using hv)
    show IntsAre acc (rangeInts a c n)
    clear hacc hS' hn hlen
    have key : ∀ (acc : List Value) (k : Nat), (∀ (j : Nat) (v : Value), acc[j]? = some v → ∃ t, v = .int (a + ((k + j : Nat) : Int) * c) t) → IntsAre acc ((List.range acc.length).map fun i => a + ((k + i : Nat) : Int) * c) := by
      intro acc
      induction acc with
      | nil => intro k _; exact .nil
      | cons x r ih =>
        intro k h
        obtain ⟨t, rfl⟩ := h 0 x rfl
        have := ih (k + 1) (fun j v hv => by
          obtain ⟨t, e⟩ := h (j + 1) v (by simpa using hv)
          exact ⟨t, by rw [e]; congr 4; omega⟩)
        rw [List.length_cons, List.range_succ_eq_map, List.map_cons, List.map_map]
        refine .cons _ t ?_
        have e : (fun i : Nat => a + ((k + i : Nat) : Int) * c) ∘ Nat.succ = fun i : Nat => a + ((k + 1 + i : Nat) : Int) * c := by
          funext i; show a + ((k + (i + 1) : Nat) : Int) * c = _; congr 3; omega
        rw [e]; exact this
    have z := key acc 0 (fun j v hv => by simpa using h2 j v hv)
    rw [h1] at z
    simpa [rangeInts] using z
theorem list_range_1 {r : Addr} {a b c : Int} (hh : A.handled = none) (Fh : Fr h₀ L s.heap m) (N : News h₀ L s.heap news)
    (hr : IsRange s.heap r a b c t u v) (hsmall : Builtin.Range.small a b c = true) (hn : Builtin.Range.rangeSize a b c = ((1 : Nat) : Int)) {x : Int} (e : rangeInts a c 1 = [x])
    (hQ : ∀ l h' tk t₀ e, Fr h₀ L h' m → News h₀ L h' ((l, listOf [Value.int x t₀].toArray e) :: news) → (∀ p ∈ news, p.1 < l) → Q (.ref l) { s with heap := h', toks := tk }) :
    wpAny (model prog w) A (call (.type "list") [.ref r]) Q E s :=
  list_range_K hh Fh N hr hsmall hn (by decide) fun l h' tk ys e' F N' hl hI => by
    rw [e] at hI; cases hI with | cons _ _ h => cases h; exact hQ _ _ _ _ _ F N' hl
theorem list_range_2 {r : Addr} {a b c : Int} (hh : A.handled = none) (Fh : Fr h₀ L s.heap m) (N : News h₀ L s.heap news)
    (hr : IsRange s.heap r a b c t u v) (hsmall : Builtin.Range.small a b c = true) (hn : Builtin.Range.rangeSize a b c = ((2 : Nat) : Int)) {x y : Int} (e : rangeInts a c 2 = [x, y])
    (hQ : ∀ l h' tk t₀ t₁ e, Fr h₀ L h' m → News h₀ L h' ((l, listOf [Value.int x t₀, Value.int y t₁].toArray e) :: news) → (∀ p ∈ news, p.1 < l) → Q (.ref l) { s with heap := h', toks := tk }) :
    wpAny (model prog w) A (call (.type "list") [.ref r]) Q E s :=
  list_range_K hh Fh N hr hsmall hn (by decide) fun l h' tk ys e' F N' hl hI => by
    rw [e] at hI; cases hI with | cons _ _ h => cases h with | cons _ _ h => cases h; exact hQ _ _ _ _ _ _ F N' hl
theorem list_range_3 {r : Addr} {a b c : Int} (hh : A.handled = none) (Fh : Fr h₀ L s.heap m) (N : News h₀ L s.heap news)
    (hr : IsRange s.heap r a b c t u v) (hsmall : Builtin.Range.small a b c = true) (hn : Builtin.Range.rangeSize a b c = ((3 : Nat) : Int)) {x y z : Int} (e : rangeInts a c 3 = [x, y, z])
    (hQ : ∀ l h' tk t₀ t₁ t₂ e, Fr h₀ L h' m → News h₀ L h' ((l, listOf [Value.int x t₀, Value.int y t₁, Value.int z t₂].toArray e) :: news) → (∀ p ∈ news, p.1 < l) → Q (.ref l) { s with heap := h', toks := tk }) :
    wpAny (model prog w) A (call (.type "list") [.ref r]) Q E s :=
  list_range_K hh Fh N hr hsmall hn (by decide) fun l h' tk ys e' F N' hl hI => by
    rw [e] at hI; cases hI with | cons _ _ h => cases h with | cons _ _ h => cases h with | cons _ _ h => cases h; exact hQ _ _ _ _ _ _ _ F N' hl
theorem tri_f {a : Int} (e : a = 0) (k : Q' false s) : wpAny (model prog w) A (truthy (.int a t)) Q' E s := PyProof.Rows.truthy_int (by rw [e]; exact k)
theorem tri_t {a : Int} (e : a ≠ 0) (k : Q' true s) : wpAny (model prog w) A (truthy (.int a t)) Q' E s := PyProof.Rows.truthy_int (by rw [bne_iff_ne.mpr e]; exact k)
end
theorem ri1 : rangeInts 2 2 1 = [2] := by decide
theorem ri2 : rangeInts 2 2 2 = [2, 4] := by decide
theorem ri3 : rangeInts 2 2 3 = [2, 4, 6] := by decide

theorem hs_ref_nm {n : Str} {p : Pos} {a : Addr} {u : Tok} {i : Int} : subscripted (.Name n p) false (.ref a) (.int i u) = operate [.ref a, .int i u] (getItem (.ref a) (.int i u)) := by with_unfolding_all rfl
theorem ht_ref_nm {n : Str} {p : Pos} {a : Addr} : ∀ r, letTemporaryGo (.Name n p) (.ref a) r = pure () := by intro _; with_unfolding_all rfl
section
variable {prog : Program} {w : World} {A : Around} {E : Value → Shared → Prop} {s : Shared} {Q : Value → Shared → Prop} {t u : Tok} {a b c : Int} {h₀ : Heap} {L D : Addr} {m : Str → Option Value} {news news' : List (Addr × Obj)} {vs vs' : List Value} {n : Nat}
theorem add_l (e : a + b = c) (k : ∀ t' k, Q (.int c t') { s with toks := k }) : wpAny (model prog w) A (binaryOp .Add (.int a t) (.int b u)) Q E s := PyProof.Rows.add_int (by rw [e]; exact k _ _)
theorem sub_l (e : a - b = c) (k : ∀ t' k, Q (.int c t') { s with toks := k }) : wpAny (model prog w) A (binaryOp .Sub (.int a t) (.int b u)) Q E s := PyProof.Rows.sub_int (by rw [e]; exact k _ _)
theorem mul_l (e : a * b = c) (hm : IntMulOk a b) (k : ∀ t' k, Q (.int c t') { s with toks := k }) : wpAny (model prog w) A (binaryOp .Mult (.int a t) (.int b u)) Q E s := PyProof.Rows.mul_int (by rw [e]; exact k _ _) hm
theorem iadd_l (e : a + b = c) (k : ∀ t' k, Q (.int c t') { s with toks := k }) : wpAny (model prog w) A (inplaceOp .Add (.int a t) (.int b u)) Q E s := PyProof.Rows.iadd_int (by rw [e]; exact k _ _)
theorem isub_l (e : a - b = c) (k : ∀ t' k, Q (.int c t') { s with toks := k }) : wpAny (model prog w) A (inplaceOp .Sub (.int a t) (.int b u)) Q E s := PyProof.Rows.isub_int (by rw [e]; exact k _ _)
theorem min_a (hh : A.handled = none) (F : Fr h₀ L s.heap m) (N : News h₀ L s.heap news) (e : ¬ b < a) (k : ∀ h' tk, Fr h₀ L h' m → News h₀ L h' news → Q (.int a t) { s with heap := h', toks := tk }) :
    wpAny (model prog w) A (call (.builtin "min") [.int a t, .int b u]) Q E s := min_two_N hh F N (fun h' tk F' N' => by rw [if_neg e, if_neg e]; exact k h' tk F' N')
theorem min_b (hh : A.handled = none) (F : Fr h₀ L s.heap m) (N : News h₀ L s.heap news) (e : b < a) (k : ∀ h' tk, Fr h₀ L h' m → News h₀ L h' news → Q (.int b u) { s with heap := h', toks := tk }) :
    wpAny (model prog w) A (call (.builtin "min") [.int a t, .int b u]) Q E s := min_two_N hh F N (fun h' tk F' N' => by rw [if_pos e, if_pos e]; exact k h' tk F' N')
theorem set_i {x k : Int} {Q : Unit → Shared → Prop} {ns : List Int} (F : Fr h₀ L s.heap m) (N : News h₀ L s.heap news) (U : Upd D (listOf vs.toArray n) (listOf vs'.toArray n) news news') (e : vs.set k.toNat (.int x u) = vs') (hi : IntsAre vs ns) (h0 : 0 ≤ k) (h1 : k < ns.length) (hfit : k < 2 ^ 63)
    (h : ∀ h', Fr h₀ L h' m → News h₀ L h' news' → Q () { s with heap := h' }) : wpAny (model prog w) A (setItem (.ref D) (.int k t) (.int x u)) Q E s := by
  subst e; exact ksa_set F N U hi h0 h1 hfit (fun h' a b _ _ _ => h h' a b)
theorem get_i {k : Int} {v : Value} {nm nm' : Str} {p p' : Pos} (N : News h₀ L s.heap news) (hm : (D, listOf vs.toArray n) ∈ news) (hx : vs[k.toNat]? = some v) (h0 : 0 ≤ k) (hfit : k < 2 ^ 63) (h : Q v s) :
    wpAny (model prog w) A (subscriptTail (.Name nm p) (.Name nm' p') (.ref D) (.int k u)) Q E s := kim_list N hm rfl rfl h0 hfit hx h hs_ref_nm ht_ref_nm
end
section
variable {v₀ v₁ v₂ v : Value}
theorem set30 : [v₀, v₁, v₂].set (0 : Int).toNat v = [v, v₁, v₂] := rfl
theorem set31 : [v₀, v₁, v₂].set (1 : Int).toNat v = [v₀, v, v₂] := rfl
theorem set32 : [v₀, v₁, v₂].set (2 : Int).toNat v = [v₀, v₁, v] := rfl
theorem set20 : [v₀, v₁].set (0 : Int).toNat v = [v, v₁] := rfl
theorem set21 : [v₀, v₁].set (1 : Int).toNat v = [v₀, v] := rfl
theorem set10 : [v₀].set (0 : Int).toNat v = [v] := rfl
end
theorem fr_int {h₀ h : Heap} {L : Addr} {x : Str} {m : Str → Option Value} {a b : Int} {t : Tok} (e : a = b) (F : Fr h₀ L h (fun y => if y = x then some (.int a t) else m y)) : Fr h₀ L h (fun y => if y = x then some (.int b t) else m y) := e ▸ F
theorem ints3 {a b c : Int} {t u v : Tok} : IntsAre [.int a t, .int b u, .int c v] [a, b, c] := .cons _ _ (.cons _ _ (.cons _ _ .nil))
theorem ints2 {a b : Int} {t u : Tok} : IntsAre [.int a t, .int b u] [a, b] := .cons _ _ (.cons _ _ .nil)
theorem ints1 {a : Int} {t : Tok} : IntsAre [.int a t] [a] := .cons _ _ .nil
theorem fr_abs3 {h₀ : Heap} {L : Addr} {h : Heap} {m : Str → Option Value} {P : Prop} (x1 x2 x3 : Str) {v1 v2 v3 : Value} (F : Fr h₀ L h m) (e1 : m x1 = some v1) (e2 : m x2 = some v2) (e3 : m x3 = some v3) (k : ∀ m', m' x1 = some v1 → m' x2 = some v2 → m' x3 = some v3 → Fr h₀ L h m' → P) : P := k m e1 e2 e3 F
theorem fr_abs4 {h₀ : Heap} {L : Addr} {h : Heap} {m : Str → Option Value} {P : Prop} (x1 x2 x3 x4 : Str) {v1 v2 v3 v4 : Value} (F : Fr h₀ L h m) (e1 : m x1 = some v1) (e2 : m x2 = some v2) (e3 : m x3 = some v3) (e4 : m x4 = some v4) (k : ∀ m', m' x1 = some v1 → m' x2 = some v2 → m' x3 = some v3 → m' x4 = some v4 → Fr h₀ L h m' → P) : P := k m e1 e2 e3 e4 F
theorem fr_abs5 {h₀ : Heap} {L : Addr} {h : Heap} {m : Str → Option Value} {P : Prop} (x1 x2 x3 x4 x5 : Str) {v1 v2 v3 v4 v5 : Value} (F : Fr h₀ L h m) (e1 : m x1 = some v1) (e2 : m x2 = some v2) (e3 : m x3 = some v3) (e4 : m x4 = some v4) (e5 : m x5 = some v5) (k : ∀ m', m' x1 = some v1 → m' x2 = some v2 → m' x3 = some v3 → m' x4 = some v4 → m' x5 = some v5 → Fr h₀ L h m' → P) : P := k m e1 e2 e3 e4 e5 F
theorem fr_abs6 {h₀ : Heap} {L : Addr} {h : Heap} {m : Str → Option Value} {P : Prop} (x1 x2 x3 x4 x5 x6 : Str) {v1 v2 v3 v4 v5 v6 : Value} (F : Fr h₀ L h m) (e1 : m x1 = some v1) (e2 : m x2 = some v2) (e3 : m x3 = some v3) (e4 : m x4 = some v4) (e5 : m x5 = some v5) (e6 : m x6 = some v6) (k : ∀ m', m' x1 = some v1 → m' x2 = some v2 → m' x3 = some v3 → m' x4 = some v4 → m' x5 = some v5 → m' x6 = some v6 → Fr h₀ L h m' → P) : P := k m e1 e2 e3 e4 e5 e6 F
theorem fr_abs7 {h₀ : Heap} {L : Addr} {h : Heap} {m : Str → Option Value} {P : Prop} (x1 x2 x3 x4 x5 x6 x7 : Str) {v1 v2 v3 v4 v5 v6 v7 : Value} (F : Fr h₀ L h m) (e1 : m x1 = some v1) (e2 : m x2 = some v2) (e3 : m x3 = some v3) (e4 : m x4 = some v4) (e5 : m x5 = some v5) (e6 : m x6 = some v6) (e7 : m x7 = some v7) (k : ∀ m', m' x1 = some v1 → m' x2 = some v2 → m' x3 = some v3 → m' x4 = some v4 → m' x5 = some v5 → m' x6 = some v6 → m' x7 = some v7 → Fr h₀ L h m' → P) : P := k m e1 e2 e3 e4 e5 e6 e7 F
theorem fr_abs8 {h₀ : Heap} {L : Addr} {h : Heap} {m : Str → Option Value} {P : Prop} (x1 x2 x3 x4 x5 x6 x7 x8 : Str) {v1 v2 v3 v4 v5 v6 v7 v8 : Value} (F : Fr h₀ L h m) (e1 : m x1 = some v1) (e2 : m x2 = some v2) (e3 : m x3 = some v3) (e4 : m x4 = some v4) (e5 : m x5 = some v5) (e6 : m x6 = some v6) (e7 : m x7 = some v7) (e8 : m x8 = some v8) (k : ∀ m', m' x1 = some v1 → m' x2 = some v2 → m' x3 = some v3 → m' x4 = some v4 → m' x5 = some v5 → m' x6 = some v6 → m' x7 = some v7 → m' x8 = some v8 → Fr h₀ L h m' → P) : P := k m e1 e2 e3 e4 e5 e6 e7 e8 F
theorem fr_abs9 {h₀ : Heap} {L : Addr} {h : Heap} {m : Str → Option Value} {P : Prop} (x1 x2 x3 x4 x5 x6 x7 x8 x9 : Str) {v1 v2 v3 v4 v5 v6 v7 v8 v9 : Value} (F : Fr h₀ L h m) (e1 : m x1 = some v1) (e2 : m x2 = some v2) (e3 : m x3 = some v3) (e4 : m x4 = some v4) (e5 : m x5 = some v5) (e6 : m x6 = some v6) (e7 : m x7 = some v7) (e8 : m x8 = some v8) (e9 : m x9 = some v9) (k : ∀ m', m' x1 = some v1 → m' x2 = some v2 → m' x3 = some v3 → m' x4 = some v4 → m' x5 = some v5 → m' x6 = some v6 → m' x7 = some v7 → m' x8 = some v8 → m' x9 = some v9 → Fr h₀ L h m' → P) : P := k m e1 e2 e3 e4 e5 e6 e7 e8 e9 F
theorem fr_abs10 {h₀ : Heap} {L : Addr} {h : Heap} {m : Str → Option Value} {P : Prop} (x1 x2 x3 x4 x5 x6 x7 x8 x9 x10 : Str) {v1 v2 v3 v4 v5 v6 v7 v8 v9 v10 : Value} (F : Fr h₀ L h m) (e1 : m x1 = some v1) (e2 : m x2 = some v2) (e3 : m x3 = some v3) (e4 : m x4 = some v4) (e5 : m x5 = some v5) (e6 : m x6 = some v6) (e7 : m x7 = some v7) (e8 : m x8 = some v8) (e9 : m x9 = some v9) (e10 : m x10 = some v10) (k : ∀ m', m' x1 = some v1 → m' x2 = some v2 → m' x3 = some v3 → m' x4 = some v4 → m' x5 = some v5 → m' x6 = some v6 → m' x7 = some v7 → m' x8 = some v8 → m' x9 = some v9 → m' x10 = some v10 → Fr h₀ L h m' → P) : P := k m e1 e2 e3 e4 e5 e6 e7 e8 e9 e10 F
end Mine
namespace Mine

section
variable {prog : Program} {w : World} {A : Around} {E : Value → Shared → Prop} {s : Shared} {env : Env} {test : PySem.Expr} {body orelse : List Stmt} {Q : Flow → Shared → Prop}
theorem whileJ {n : Nat} (hE : PassesOwn (model prog w) A env E) (J : Nat → Shared → Prop)
    (step : ∀ (i : Nat) (s : Shared), i ≤ n → J i s → (∀ s', i < n → J (i + 1) s' → WhlRest prog w A E env test body orelse Q 0 s') →
      wpAny (model prog w) A (isTrue test env (eval test env)) (fun b s₂ => WhlIf b (wpAny (model prog w) A (execs body env) (WhlPost prog w A E env test body orelse Q 0) E s₂) (wpAny (model prog w) A (execs orelse env) Q E s₂)) E s) :
    ∀ (i : Nat) (s : Shared), i ≤ n → J i s → WhlRest prog w A E env test body orelse Q 0 s := by
  have : ∀ (d i : Nat) (s : Shared), i + d = n → J i s → WhlRest prog w A E env test body orelse Q 0 s := by
    intro d
    induction d with
    | zero => intro i s e hJ; exact whl_turn (k := 0) hE (step i s (by omega) hJ fun s' hi _ => absurd hi (by omega))
    | succ d ih => intro i s e hJ; exact whl_turn (k := 0) hE (step i s (by omega) hJ fun s' hi hJ' => ih (i + 1) s' (by omega) hJ')
  intro i s hi hJ
  exact this (n - i) i s (by omega) hJ
end
section
variable {prog : Program} {w : World} {A : Around} {E : Value → Shared → Prop} {h₀ : Heap} {env : Env} {x : Str} {body : List Stmt} {Q : Flow → Shared → Prop} {s : Shared} {I : Addr} {a : Int} {n : Nat}
theorem rangeJ (J : Nat → (Str → Option Value) → List (Addr × Obj) → Prop)
    (step : ∀ (i : Nat) (t : Tok) (m : Str → Option Value) (nw : List (Addr × Obj)) (h : Heap) (tk : Nat) (it : Obj), i < n → J i m nw → Fr h₀ env.locals h (fun y => if y = x then some (.int (a + (i : Int)) t) else m y) → News h₀ env.locals h ((I, it) :: nw) →
      wpAny (model prog w) A (execs body env) (UnrPost h₀ env.locals { s with heap := h, toks := tk } I it (J (i + 1)) Q) E { s with heap := h, toks := tk })
    (fin : ∀ (m : Str → Option Value) (nw : List (Addr × Obj)) (h : Heap) (tk : Nat), J n m nw → Fr h₀ env.locals h m → News h₀ env.locals h nw → Q .next { s with heap := h, toks := tk })
    {m : Str → Option Value} {nw : List (Addr × Obj)} (h0 : J 0 m nw) : RangeRest prog w A E h₀ env x body Q s I a n n 0 m nw := by
  have : ∀ (k i : Nat) (m : Str → Option Value) (nw : List (Addr × Obj)), i + k = n → J i m nw → RangeRest prog w A E h₀ env x body Q s I a n k i m nw := by
    intro k
    induction k with
    | zero => intro i m nw e hJ; have : i = n := by omega
              subst this; exact RangeRest.zero fun h tk F N => fin m nw h tk hJ F N
    | succ k ih =>
      intro i m nw e hJ
      refine RangeRest.succ fun t h tk F N => ?_
      refine wpAny_mono (step i t m nw h tk _ (by omega) hJ F N) (fun f s₂ z => ?_) fun _ _ z => z
      cases f with
      | ret v => exact z
      | brk => exact z
      | next => obtain ⟨h', tk', m', nw', e', F', N', off, hJ'⟩ := z; exact ⟨h', tk', m', nw', e', F', N', off, ih (i + 1) m' nw' (by omega) hJ'⟩
      | cont => obtain ⟨h', tk', m', nw', e', F', N', off, hJ'⟩ := z; exact ⟨h', tk', m', nw', e', F', N', off, ih (i + 1) m' nw' (by omega) hJ'⟩
  exact this n 0 m nw (by omega) h0
end
end Mine
section
local macro_rules | `(tactic| walk_at "eval Name") => `(tactic| (k_here; k_dflt (refine' nameX_B ?F ?X ?T ?e ?v ?n ?_ ?a ?b; (case F => k_asm); (case X => k_asm); (case T => k_asm); (case a => rfl); (case b => rfl); (case e => k_is); (case v => boot_fast); (case n => decide); k_whole)))
local macro_rules | `(tactic| walk_at "eval Name") => `(tactic| (k_here; k_dflt (refine' nameX_K ?F ?X ?T ?e ?_ ?a ?b; (case F => k_asm); (case X => k_asm); (case T => k_asm); (case a => rfl); (case b => rfl); (case e => k_is); k_whole)))
local macro_rules | `(tactic| walk_at "eval Name") => `(tactic| (k_here; k_dflt (refine' nameX_L ?F ?v ?_ ?a ?b; (case F => k_asm); (case a => rfl); (case b => rfl); (case v => walk_at "lk"); k_whole)))
namespace Mine

noncomputable def HaltL (p : Prop) : Prop := p
theorem haltL {p : Prop} (h : HaltL p) : p := h
theorem unhaltL {p : Prop} (h : p) : HaltL p := h
noncomputable def wx (x : Nat → Nat) : Str := ⟨#[x 0, x 1, x 2]⟩
section
variable {x y : Nat → Nat} {i k : Nat}
theorem wx_cases (h : i ≤ 2) : i = 0 ∨ i = 1 ∨ i = 2 := by omega
theorem wx_item (h : i ≤ 2) : Txt.item (wx x) ((i : Nat) : Int) = ⟨#[x i]⟩ := by rcases wx_cases h with rfl | rfl | rfl <;> rfl
theorem wx_len (h : i ≤ 2) : (Txt.slice (wx x) (some ((i : Nat) : Int)) none).length = 3 - i := by
  rcases wx_cases h with rfl | rfl | rfl
  · exact congrArg Str.length (sl30 (a := x 0) (b := x 1) (c := x 2))
  · exact congrArg Str.length (sl31 (a := x 0) (b := x 1) (c := x 2))
  · exact congrArg Str.length (sl32 (a := x 0) (b := x 1) (c := x 2))
theorem wx_nn (h : i ≤ 2) : Txt.slice (Txt.slice (wx x) (some ((i : Nat) : Int)) none) none none = Txt.slice (wx x) (some ((i : Nat) : Int)) none := by
  rcases wx_cases h with rfl | rfl | rfl
  · exact (congrArg (fun z => Txt.slice z none none) (sl30 (a := x 0) (b := x 1) (c := x 2))).trans (sl3n.trans (sl30 (a := x 0) (b := x 1) (c := x 2)).symm)
  · exact (congrArg (fun z => Txt.slice z none none) (sl31 (a := x 0) (b := x 1) (c := x 2))).trans (sl2n.trans (sl31 (a := x 0) (b := x 1) (c := x 2)).symm)
  · exact (congrArg (fun z => Txt.slice z none none) (sl32 (a := x 0) (b := x 1) (c := x 2))).trans (sl1n.trans (sl32 (a := x 0) (b := x 1) (c := x 2)).symm)
theorem wx_last (h : i ≤ 2) : Txt.item (Txt.slice (wx x) (some ((i : Nat) : Int)) none) (-1) = ⟨#[x 2]⟩ := by
  rcases wx_cases h with rfl | rfl | rfl
  · exact (congrArg (fun z => Txt.item z (-1)) (sl30 (a := x 0) (b := x 1) (c := x 2))).trans it3m
  · exact (congrArg (fun z => Txt.item z (-1)) (sl31 (a := x 0) (b := x 1) (c := x 2))).trans it2m
  · exact (congrArg (fun z => Txt.item z (-1)) (sl32 (a := x 0) (b := x 1) (c := x 2))).trans it1m
theorem wx_at (h : i ≤ 2) {j : Nat} (hj : j < 3 - i) : Txt.item (Txt.slice (wx x) (some ((i : Nat) : Int)) none) ((j : Nat) : Int) = ⟨#[x (i + j)]⟩ := by
  rcases wx_cases h with rfl | rfl | rfl
  · refine (congrArg (fun z => Txt.item z ((j : Nat) : Int)) (sl30 (a := x 0) (b := x 1) (c := x 2))).trans ?_
    match j, hj with
    | 0, _ => rfl
    | 1, _ => rfl
    | 2, _ => rfl
  · refine (congrArg (fun z => Txt.item z ((j : Nat) : Int)) (sl31 (a := x 0) (b := x 1) (c := x 2))).trans ?_
    match j, hj with
    | 0, _ => rfl
    | 1, _ => rfl
  · refine (congrArg (fun z => Txt.item z ((j : Nat) : Int)) (sl32 (a := x 0) (b := x 1) (c := x 2))).trans ?_
    match j, hj with
    | 0, _ => rfl
end
section
variable {prog : Program} {w : World} {A : Around} {E : Value → Shared → Prop} {s : Shared} {Q : Value → Shared → Prop} {Q' : Bool → Shared → Prop} {x y : Nat → Nat} {i k : Nat} {t u : Tok} {h₀ : Heap} {L : Addr} {m : Str → Option Value} {news : List (Addr × Obj)} {nm nm' : Str} {p p' p'' : Pos}
theorem eq_wx (h : ∃ j, j ≤ 2 ∧ x j ≠ y j) (hQ : Q (.bool false) s) : wpAny (model prog w) A (compareOp .Eq (.str (wx x) t) (.str (wx y) u)) Q E s :=
  eq3_f (fun ⟨a, b, c⟩ => by obtain ⟨j, hj, hn⟩ := h; rcases wx_cases hj with rfl | rfl | rfl; exact hn a; exact hn b; exact hn c) hQ
theorem eq_ch (hk : k ≤ 2) (hi : i ≤ k) (he : ∀ j, j < k → x j = y j) (hn : x k ≠ y k) (hQ : Q (.bool (decide (i < k))) s) : wpAny (model prog w) A (compareOp .Eq (.str ⟨#[x i]⟩ t) (.str ⟨#[y i]⟩ u)) Q E s := by
  by_cases h : i < k
  · rw [he i h]; rw [decide_eq_true h] at hQ; exact eq1_t hQ
  · have : i = k := by omega
    subst this
    rw [decide_eq_false h] at hQ; exact eq1_f hn hQ
theorem tr_wx (h : i ≤ 2) (hQ : ∀ k, Q' true { s with toks := k }) : wpAny (model prog w) A (truthy (.str (Txt.slice (wx x) (some ((i : Nat) : Int)) none) t)) Q' E s :=
  KXt.truthy_pos (K := 3) (by rw [wx_len h]; omega) (by rw [wx_len h]; omega) (by decide) hQ
theorem len_wx (h : i ≤ 2) (hQ : ∀ t' k, Q (.int ((3 - i : Nat) : Int) t') { s with toks := k }) : wpAny (model prog w) A (call (.builtin "len") [.str (Txt.slice (wx x) (some ((i : Nat) : Int)) none) t]) Q E s :=
  len_lit (n := ((3 - i : Nat) : Int)) (by rw [wx_len h]) (by omega) hQ
theorem item_last (h : i ≤ 2) {l r : PySem.Expr} {o : PySem.Operator} (hQ : ∀ t' k, Q (.str ⟨#[x 2]⟩ t') { s with toks := k }) : wpAny (model prog w) A (subscriptTail (.Name nm p) (.BinOp l o r p') (.str (Txt.slice (wx x) (some ((i : Nat) : Int)) none) t) (.int (-1) u)) Q E s := by
  refine item_nb (by decide) ?_ (wx_last h) hQ
  rw [wx_len h, Bool.and_eq_true]
  exact ⟨decide_eq_true (by omega), decide_eq_true (by omega)⟩
theorem item_wy (h : i ≤ 2) {j : Nat} (hj : j < 3 - i) (hQ : ∀ t' k, Q (.str ⟨#[x (i + j)]⟩ t') { s with toks := k }) : wpAny (model prog w) A (subscriptTail (.Name nm p) (.Name nm' p') (.str (Txt.slice (wx x) (some ((i : Nat) : Int)) none) t) (.int ((j : Nat) : Int) u)) Q E s := by
  refine item_nn ?_ ?_ (wx_at h hj) hQ
  · have : j = 0 ∨ j = 1 ∨ j = 2 := by omega
    rcases this with rfl | rfl | rfl <;> decide
  · rw [wx_len h, Bool.and_eq_true]
    exact ⟨decide_eq_true (by omega), decide_eq_true (by omega)⟩
theorem loadQ (F : Fr h₀ L s.heap m) {env : Env} {x : Str} {v : Value} (hv : m x = some v) (h : Q v s) (hk : env.scope.kind = .function) (hx : env.kindOf x = some .local) (hL : env.locals = L) : wpAny (model prog w) A (loadName env x) Q E s := by
  subst hL; exact wpAny_loadName_local hk hx F.ns hv h
theorem min_g {a b : Int} (hh : A.handled = none) (F : Fr h₀ L s.heap m) (N : News h₀ L s.heap news) (k : ∀ h' tk t', Fr h₀ L h' m → News h₀ L h' news → Q (.int (min a b) t') { s with heap := h', toks := tk }) :
    wpAny (model prog w) A (call (.builtin "min") [.int a t, .int b u]) Q E s := by
  by_cases e : b < a
  · have e' : min a b = b := by omega
    rw [e'] at k
    exact min_b hh F N e fun h' tk F' N' => k h' tk u F' N'
  · have e' : min a b = a := by omega
    rw [e'] at k
    exact min_a hh F N e fun h' tk F' N' => k h' tk t F' N'
theorem ints_atL : ∀ {vs : List Value} {ns : List Int}, IntsAre vs ns → ∀ (j : Nat), j < ns.length → ∃ t, vs[j]? = some (.int (ns.getD j 0) t)
  | _, _, .nil, j, h => absurd h (Nat.not_lt_zero _)
  | _, _, .cons a t r, 0, _ => ⟨t, rfl⟩
  | _, _, .cons a t r, j + 1, h => by
    obtain ⟨t', e⟩ := ints_atL r j (by simpa using h)
    exact ⟨t', by simpa using e⟩
theorem row_get {D : Addr} {vs : List Value} {e : Nat} {rs : List Int} {j : Nat} (N : News h₀ L s.heap news) (hm : (D, PySem.W.listOf vs.toArray e) ∈ news) (hi : IntsAre vs rs) (hj : j < rs.length) (hl : j < 1000) (h : ∀ t, Q (.int (rs.getD j 0) t) s) :
    wpAny (model prog w) A (subscriptTail (.Name nm p) (.Name nm' p') (.ref D) (.int ((j : Nat) : Int) u)) Q E s := by
  obtain ⟨t, ht⟩ := ints_atL hi j hj
  exact kim_list N hm rfl rfl (by omega) (by omega) ht (h t) hs_ref_nm ht_ref_nm
theorem item_wx (h : i ≤ 2) (hQ : ∀ t' k, Q (.str ⟨#[x i]⟩ t') { s with toks := k }) : wpAny (model prog w) A (subscriptTail (.Name nm p) (.Name nm' p') (.str (wx x) t) (.int ((i : Nat) : Int) u)) Q E s := by
  refine item_nn ?_ ?_ (wx_item h) hQ
  · rcases wx_cases h with rfl | rfl | rfl <;> decide
  · rcases wx_cases h with rfl | rfl | rfl <;> rfl
end
noncomputable def dd (b j : Nat) : Int := 2 * ((max b j : Nat) : Int)
theorem dd_zero (b : Nat) : (b : Int) * 2 = dd b 0 := by unfold dd; rw [Nat.max_eq_left (Nat.zero_le _)]; omega
theorem dd_up (b j : Nat) : dd b j + 2 = dd (b + 1) (j + 1) := by unfold dd; rw [Nat.add_max_add_right]; omega
theorem dd_le (b j : Nat) : dd b j ≤ dd b (j + 1) := by
  have h : max b j ≤ max b (j + 1) := Nat.max_le.mpr ⟨Nat.le_max_left _ _, Nat.le_trans (Nat.le_succ j) (Nat.le_max_right _ _)⟩
  unfold dd; omega
theorem dd_le2 (b j : Nat) : dd b j ≤ dd b (j - 1) + 2 := by
  have h : max b j ≤ max b (j - 1) + 1 := Nat.max_le.mpr ⟨Nat.le_succ_of_le (Nat.le_max_left _ _), Nat.le_trans (show j ≤ (j - 1) + 1 by omega) (Nat.succ_le_succ (Nat.le_max_right _ _))⟩
  unfold dd; omega
theorem dd_b (b j : Nat) : (b : Int) * 2 ≤ dd b j := by
  have h : b ≤ max b j := Nat.le_max_left _ _
  unfold dd; omega
theorem dd_last {b n : Nat} (h : b < n) : dd b (n - 1) + 2 = 2 * ((n : Nat) : Int) := by
  unfold dd; rw [Nat.max_eq_right (show b ≤ n - 1 by omega)]; omega
theorem dd_min {b j : Nat} {r v : Int} (h0 : j = 0 → r = (b : Int) * 2) (h1 : 1 ≤ j → r = dd b (j - 1) + 2) (hv : v = dd b (j + 1)) : min (min r v + 2) (dd b j + 2) = dd b j + 2 := by
  have hr : dd b j ≤ r := by
    rcases Nat.eq_zero_or_pos j with h | h
    · rw [h0 h, h, dd_zero]; exact Int.le_refl _
    · rw [h1 h]; exact dd_le2 b j
  have hv' : dd b j ≤ v := by rw [hv]; exact dd_le b j
  exact Int.min_eq_right (Int.add_le_add_right (Int.le_min.mpr ⟨hr, hv'⟩) 2)
theorem min_lt {b j : Nat} {v : Int} (h1 : 1 ≤ j → v = (b : Int) * 2 + 2) (h : dd b j + 2 < v) : dd b j + 2 = (b : Int) * 2 + 2 := by
  rcases Nat.eq_zero_or_pos j with e | e
  · rw [e, dd_zero]
  · have := h1 e
    have := dd_b b j
    omega
theorem min_ge {b j : Nat} {v : Int} (hb : b < 3) (h0 : j = 0 → v = 9223372036854775807) (h1 : 1 ≤ j → v = (b : Int) * 2 + 2) (h : ¬ dd b j + 2 < v) : v = (b : Int) * 2 + 2 := by
  rcases Nat.eq_zero_or_pos j with e | e
  · rw [e, ← dd_zero, h0 e] at h
    omega
  · exact h1 e
theorem add_lt3 {i j : Nat} (h : j < 3 - i) : i + j < 3 := by omega
theorem ret_eq {mc v n : Int} {b : Nat} (h1 : 2 * n - 1 ≤ mc) (hv : v = (b : Int) * 2 + 2) (hb : (b : Int) < n) (h : mc < v) : mc + 1 = 2 * n := by omega
noncomputable def RowOk (n b j : Nat) (rs : List Int) : Prop := rs.length = n ∧ ∀ t, t < n → (t < j → rs.getD t 0 = dd (b + 1) (t + 1)) ∧ (j ≤ t → rs.getD t 0 = dd b (t + 1))
theorem getD_set {rs : List Int} {j t : Nat} {v : Int} (hj : j < rs.length) : (rs.set j v).getD t 0 = if t = j then v else rs.getD t 0 := by
  rw [List.getD_eq_getElem?_getD, List.getD_eq_getElem?_getD, List.getElem?_set]
  by_cases h : j = t
  · subst h; simp [hj]
  · rw [if_neg h, if_neg (Ne.symm h)]
abbrev Jwh (x y : Nat → Nat) (mc : Int) (tx ty tm : Tok) (s : Shared) (i : Nat) (s' : Shared) : Prop :=
  ∃ h tk m, s' = { s with heap := h, toks := tk } ∧ Fr s.heap s.heap.objs.size h m ∧ m "a" = some (.str (wx x) tx) ∧ m "b" = some (.str (wx y) ty) ∧ m "max_cost" = some (.int mc tm) ∧ ∃ t, m "pre" = some (.int ((i : Nat) : Int) t)
abbrev Jout (x y : Nat → Nat) (i : Nat) (mc : Int) (tm : Tok) (D : Addr) (b : Nat) (m : Str → Option Value) (nw : List (Addr × Obj)) : Prop :=
  (∃ t, m "a" = some (.str (Txt.slice (wx x) (some ((i : Nat) : Int)) none) t)) ∧ (∃ t, m "b" = some (.str (Txt.slice (wx y) (some ((i : Nat) : Int)) none) t)) ∧ m "max_cost" = some (.int mc tm) ∧ m "row" = some (.ref D) ∧ (∃ v t, m "result" = some (.int v t) ∧ (1 ≤ b → v = 2 * ((3 - i : Nat) : Int))) ∧
      ∃ vs e rs, nw = [(D, PySem.W.listOf vs.toArray e)] ∧ IntsAre vs rs ∧ RowOk (3 - i) b 0 rs
abbrev Jin (x y : Nat → Nat) (i b : Nat) (mc : Int) (tm : Tok) (D I : Addr) (it : Obj) (j : Nat) (m : Str → Option Value) (nw : List (Addr × Obj)) : Prop :=
  (∃ t, m "a" = some (.str (Txt.slice (wx x) (some ((i : Nat) : Int)) none) t)) ∧ (∃ t, m "b" = some (.str (Txt.slice (wx y) (some ((i : Nat) : Int)) none) t)) ∧ m "max_cost" = some (.int mc tm) ∧ m "row" = some (.ref D) ∧ (∃ t, m "bchar" = some (.str ⟨#[y (i + b)]⟩ t)) ∧
        (∃ d t, m "distance" = some (.int d t) ∧ d = dd b j) ∧ (∃ r t, m "result" = some (.int r t) ∧ (j = 0 → r = (b : Int) * 2) ∧ (1 ≤ j → r = dd b (j - 1) + 2)) ∧ (∃ v t, m "minimum" = some (.int v t) ∧ (j = 0 → v = 9223372036854775807) ∧ (1 ≤ j → v = (b : Int) * 2 + 2)) ∧
        ∃ vs e rs, nw = [(I, it), (D, PySem.W.listOf vs.toArray e)] ∧ IntsAre vs rs ∧ RowOk (3 - i) b j rs
theorem row_turn {n b j : Nat} {rs : List Int} {v : Int} (h : RowOk n b j rs) (hj : j < n) (hv : v = dd (b + 1) (j + 1)) : RowOk n b (j + 1) (rs.set j v) := by
  obtain ⟨h1, h2⟩ := h
  refine ⟨by rw [List.length_set]; exact h1, fun t ht => ?_⟩
  rw [getD_set (by rw [h1]; exact hj)]
  by_cases e : t = j
  · subst e
    rw [if_pos rfl]
    exact ⟨fun _ => hv, fun h => absurd h (by omega)⟩
  · rw [if_neg e]
    exact ⟨fun h => (h2 t ht).1 (by omega), fun h => (h2 t ht).2 (by omega)⟩
theorem row_next {n b : Nat} {rs : List Int} (h : RowOk n b n rs) : RowOk n (b + 1) 0 rs := by
  obtain ⟨h1, h2⟩ := h
  refine ⟨h1, fun t ht => ⟨fun h => absurd h (Nat.not_lt_zero _), fun _ => ?_⟩⟩
  exact (h2 t ht).1 ht
theorem row_first {n : Nat} (h1 : 1 ≤ n) (h3 : n ≤ 3) : RowOk n 0 0 (rangeInts 2 2 n) := by
  have : n = 1 ∨ n = 2 ∨ n = 3 := by omega
  rcases this with rfl | rfl | rfl
  · rw [ri1]; exact ⟨rfl, by intro t ht; match t, ht with | 0, _ => exact ⟨fun h => absurd h (Nat.not_lt_zero _), fun _ => by decide⟩⟩
  · rw [ri2]; exact ⟨rfl, by intro t ht; match t, ht with | 0, _ => exact ⟨fun h => absurd h (Nat.not_lt_zero _), fun _ => by decide⟩ | 1, _ => exact ⟨fun h => absurd h (Nat.not_lt_zero _), fun _ => by decide⟩⟩
  · rw [ri3]; exact ⟨rfl, by intro t ht; match t, ht with | 0, _ => exact ⟨fun h => absurd h (Nat.not_lt_zero _), fun _ => by decide⟩ | 1, _ => exact ⟨fun h => absurd h (Nat.not_lt_zero _), fun _ => by decide⟩ | 2, _ => exact ⟨fun h => absurd h (Nat.not_lt_zero _), fun _ => by decide⟩⟩
local macro_rules | `(tactic| walk_at "exec While BoolOp") => `(tactic| (refine haltL ?_))
local macro_rules | `(tactic| walk_at "exec While") => `(tactic| (refine haltL ?_))
local macro_rules | `(tactic| walk_at "UnrPost") => `(tactic| (refine haltL ?_))
local macro_rules | `(tactic| walk_at "WhlRest") => `(tactic| (refine haltL ?_))
local macro_rules | `(tactic| walk_at "pyIter ref") => `(tactic| (refine haltL ?_))
local macro_rules | `(tactic| walk_at "setItem ref int") => `(tactic| (refine haltL ?_))
local macro_rules | `(tactic| walk_at "call type:list") => `(tactic| (refine haltL ?_))
set_option maxRecDepth 100000 in
set_option maxHeartbeats 8000000 in
theorem lev_c (w : World) (mean mg mb) (x y : Nat → Nat) (k : Nat) (mc : Int) (tx ty tm) : Cl 10 100 w (looseW Mine.hd.view_39 []) mean mg mb 70
    (k ≤ 2 ∧ (∀ j, j < k → x j = y j) ∧ (∀ i j, k ≤ i → i < 3 → k ≤ j → j < 3 → x i ≠ y j) ∧ (∀ i, i < 3 → (33 ≤ x i ∧ x i ≤ 90) ∧ (33 ≤ y i ∧ y i ≤ 90)) ∧ 2 * ((3 - k : Nat) : Int) - 1 ≤ mc ∧ mc ≤ 2 * ((3 - k : Nat) : Int) + 1)
    [.str (wx x) tx, .str (wx y) ty, .int mc tm] (fun t => .int (2 * ((3 - k : Nat) : Int)) t) := by
  unfold Cl
  k_fill
  intro dp un gd cn cs a ccd cl outer A₀ base h₀ L m s Q E hB hF hX hT hcs hpre hdp hun hret
  obtain ⟨hk2, hpr, hdis, hbx, hm1, hm2⟩ := hpre
  refine wpAny_call ?_
  k_dflt (refine' codeP ?zqk1 ?zqk2 ?zqk3 ?zqk5 ?zqkA ?zqkF ?zqkK ?zqk6 ?zqk7 ?zqk8 ?zqk9 ?zqkB ?_ ?zqc2 ?zqc3 ?zqc4 ?zqc5; (case zqkA => exact rfl); (case zqkF => exact rfl); (case zqkK => assumption); (case zqk1 => k_asm); (case zqk2 => k_asm); (case zqk3 => k_asm); (case zqk5 => k_asm); (case zqk6 => k_is); (case zqk7 => k_is); (case zqk8 => ktr_room); (case zqk9 => exact BindsTo.of_eq rfl); (case zqc5 => decide); (case zqkB => exact locs rfl); (case zqc2 => exact rfl); (case zqc3 => exact rfl); (case zqc4 => exact rfl); k_whole; intro h' F' N' B' X' T'; (try dsimp only); (try k_fold))
  rename Fr _ _ _ _ => FF
  refine fr_abs FF (fun m0 hmm F0 => ?_)
  clear FF
  have hma : m0 "a" = some (.str (wx x) tx) := (hmm _).trans (by kernel_rfl)
  have hmb : m0 "b" = some (.str (wx y) ty) := (hmm _).trans (by kernel_rfl)
  have hmc : m0 "max_cost" = some (.int mc tm) := (hmm _).trans (by kernel_rfl)
  clear hmm
  have hkk : x k ≠ y k := hdis k k (Nat.le_refl _) (by omega) (Nat.le_refl _) (by omega)
  have hne : ∃ j, j ≤ 2 ∧ x j ≠ y j := ⟨k, hk2, hkk⟩
  repeat' (first
    | (k_unfold; (try dsimp only))
    | (k_end; wrow_close)
    | ((with_reducible show wpAny _ _ (subscriptTail (PySem.Expr.Name _ _) (PySem.Expr.Name _ _) (Value.str _ _) (Value.int _ _)) _ _ _); (k_here; (first | (with_reducible refine item_wx (by with_reducible assumption) ?_) | (with_reducible refine item_wy (by with_reducible assumption) (by with_reducible assumption) ?_)); intro _ _; (try dsimp only)))
    | ((with_reducible show wpAny _ _ (subscriptTail (PySem.Expr.Name _ _) (PySem.Expr.Name _ _) (Value.ref _) (Value.int _ _)) _ _ _); (k_here; k_dflt (refine' row_get ?zqN ?zqm ?zqhi ?zqhj ?zqhl ?_; (case zqN => k_asm); (case zqm => k_mem); (case zqhi => assumption); (case zqhj => assumption); (case zqhl => assumption)); intro _; (try dsimp only)))
    | ((with_reducible show wpAny _ _ (call (Value.builtin "min") _) _ _ _); (k_here; (with_reducible rename Fr _ _ _ _ => F'); (with_reducible rename News _ _ _ _ => N'); (with_reducible refine min_g rfl F' N' ?_); intro h' tk' t' F' N'; (try dsimp only); (try k_sweep)))
    | ((with_reducible show wpAny _ _ (loadName _ _) _ _ _); (k_here; k_dflt (refine' loadQ ?zqF ?zqv ?_ ?zqa ?zqb ?zqc; (case zqF => k_asm); (case zqa => rfl); (case zqb => rfl); (case zqc => rfl); (case zqv => walk_at "lk"); k_whole)))
    | ((with_reducible show wpAny _ _ (binaryOp PySem.Operator.Sub (Value.int _ _) (Value.int _ _)) _ _ _); (k_here; (with_reducible refine' sub_l ?zqe ?_); (case zqe => first | exact Int.sub_self _ | (simp only [Int.reduceAdd, Int.reduceMul, Int.reduceSub, Int.reduceNeg]; rfl)); intro _ _; (try dsimp only)))
    | ((with_reducible show wpAny _ _ (call (Value.builtin "len") _) _ _ _); (k_here; (with_reducible refine len_wx (by with_reducible assumption) ?_); intro _ _; (try dsimp only)))
    | ((with_reducible show wpAny _ _ (subscriptTail (PySem.Expr.Name _ _) (PySem.Expr.BinOp _ _ _ _) (Value.str _ _) (Value.int _ _)) _ _ _); (k_here; (with_reducible refine item_last (by with_reducible assumption) ?_); intro _ _; (try dsimp only)))
    | ((with_reducible show wpAny _ _ (subscriptTail (PySem.Expr.Name _ _) (PySem.Expr.Slice _ _ _ _) (Value.str _ _) (Value.ref _)) _ _ _); (first | (k_here; (with_reducible rename Fr _ _ _ _ => F'); (with_reducible rename News _ _ _ _ => N'); (with_reducible refine' slice_n_nn F' N' ?zqe ?_ ?zqz); (case zqe => exact wx_nn (by with_reducible assumption)); (case zqz => rw [wx_len (by assumption), sizeLine_eq]; omega); intro _ _ _ _ _) | (k_here; (with_reducible rename Fr _ _ _ _ => F'); (with_reducible rename News _ _ _ _ => N'); (with_reducible refine' slice_n_sn F' N' ?zqe ?_ ?zqz); (case zqe => exact rfl); (case zqz => exact Nat.le_of_ble_eq_true rfl); intro _ _ _ _ _)))
    | ((with_reducible show wpAny _ _ (truthy (Value.str _ _)) _ _ _); (k_here; (first | with_reducible refine tr_wx (by with_reducible assumption) ?_); intro _; (try dsimp only)))
    | ((with_reducible show wpAny _ _ (compareOp PySem.CmpOp.Eq (Value.str _ _) (Value.str _ _)) _ _ _); (k_here; first | (with_reducible refine eq1_f (by with_reducible assumption) ?_) | (with_reducible refine eq_wx (by with_reducible assumption) ?_)))
    | ((with_reducible show wpAny _ _ (exec (PySem.Stmt.If _ _ _ _) _) _ _ _); (k_here; with_reducible refine wpAny_If ?_))
    | ((with_reducible show wpAny _ _ (inplaceOp PySem.Operator.Add (Value.int _ _) (Value.int _ _)) _ _ _); (k_here; (with_reducible refine' iadd_l ?zqe ?_); (case zqe => (simp only [Int.reduceAdd, Int.reduceMul, Int.reduceSub, Int.reduceNeg]; rfl)); intro _ _; (try dsimp only)))
    | ((with_reducible show wpAny _ _ (truthy (Value.int _ _)) _ _ _); (k_here; first | with_reducible refine tri_f (by decide) ?_ | with_reducible refine tri_t (by decide) ?_))
    | ((with_reducible show wpAny _ _ (compareOp PySem.CmpOp.Gt (Value.int _ _) (Value.int _ _)) _ _ _); (k_here; first | with_reducible refine gt_f (by omega) ?_ | with_reducible refine gt_t (by omega) ?_))
    | ((with_reducible show wpAny _ _ (compareOp PySem.CmpOp.Lt (Value.int _ _) (Value.int _ _)) _ _ _); (k_here; first | with_reducible refine lt_f (by decide) ?_ | with_reducible refine lt_t (by decide) ?_))
    | (first | with_reducible refine ite_tt9 ?_ | with_reducible refine ite_ff9 ?_)
    | ((with_reducible show wpAny _ _ (call (Value.ref _) _) _ _ _); (k_here; (with_reducible show wpAny _ _ (call (Value.ref 63) _) _ _ _); k_dflt (refine sub_use (by k_asm) (by k_asm) (by k_asm) (by k_asm) (by k_asm) (by exact rfl) (by (refine ⟨?_, ?_, ?_⟩ <;> first | with_reducible assumption | exact Ne.symm (by with_reducible assumption) | omega)) (by ktr_room) (by ktr_units) ?_); intro _ _ _ _ _; (try dsimp only); (try k_fold)))
    | ((with_reducible show wpAny _ _ (binaryOp PySem.Operator.Add (Value.int _ _) (Value.int _ _)) _ _ _); (k_here; (with_reducible refine' add_l ?zqe ?_); (case zqe => (simp only [Int.reduceAdd, Int.reduceMul, Int.reduceSub, Int.reduceNeg]; rfl)); intro _ _; (try dsimp only)))
    | ((with_reducible show wpAny _ _ (binaryOp PySem.Operator.Mult (Value.int _ _) (Value.int _ _)) _ _ _); (k_here; (with_reducible refine' mul_l ?zqe ?zqm ?_); (case zqe => (simp only [Int.reduceAdd, Int.reduceMul, Int.reduceSub, Int.reduceNeg]; rfl)); (case zqm => mul_fits); intro _ _; (try dsimp only)))
    | walk1
    | (dsimp only; walk1)
    | (leave1; walk_say "STEP leave1"; try dsimp only)
    | fail "no step")
  refine unhaltL ?_
  rename Fr _ _ _ _ => F1
  refine whl_start 0 ?_
  refine whileJ (n := k) (by passes_own) (J := Jwh x y mc tx ty tm s) ?_ 0 _ (Nat.zero_le _) ⟨_, _, _, rfl, F1, (by walk_at "lk"), (by walk_at "lk"), (by walk_at "lk"), _, if_pos rfl⟩
  clear F1 hma hmb hmc
  intro i s1 hik hJ ih
  obtain ⟨h1, tk1, m1, rfl, F1, e1, e2, e3, t1, e4⟩ := hJ
  have hi2 : i ≤ 2 := Nat.le_trans hik hk2
  have N1 : News s.heap s.heap.objs.size h1 [] := News.nil
  have ihH : HaltL _ := ih
  clear ih
  show wpAny _ _ _ _ _ _
  k_fold
  repeat' (first
    | (k_unfold; (try dsimp only))
    | (k_end; wrow_close)
    | ((with_reducible show wpAny _ _ (subscriptTail (PySem.Expr.Name _ _) (PySem.Expr.Name _ _) (Value.str _ _) (Value.int _ _)) _ _ _); (k_here; (first | (with_reducible refine item_wx (by with_reducible assumption) ?_) | (with_reducible refine item_wy (by with_reducible assumption) (by with_reducible assumption) ?_)); intro _ _; (try dsimp only)))
    | ((with_reducible show wpAny _ _ (subscriptTail (PySem.Expr.Name _ _) (PySem.Expr.Name _ _) (Value.ref _) (Value.int _ _)) _ _ _); (k_here; k_dflt (refine' row_get ?zqN ?zqm ?zqhi ?zqhj ?zqhl ?_; (case zqN => k_asm); (case zqm => k_mem); (case zqhi => assumption); (case zqhj => assumption); (case zqhl => assumption)); intro _; (try dsimp only)))
    | ((with_reducible show wpAny _ _ (call (Value.builtin "min") _) _ _ _); (k_here; (with_reducible rename Fr _ _ _ _ => F'); (with_reducible rename News _ _ _ _ => N'); (with_reducible refine min_g rfl F' N' ?_); intro h' tk' t' F' N'; (try dsimp only); (try k_sweep)))
    | ((with_reducible show wpAny _ _ (loadName _ _) _ _ _); (k_here; k_dflt (refine' loadQ ?zqF ?zqv ?_ ?zqa ?zqb ?zqc; (case zqF => k_asm); (case zqa => rfl); (case zqb => rfl); (case zqc => rfl); (case zqv => walk_at "lk"); k_whole)))
    | ((with_reducible show wpAny _ _ (binaryOp PySem.Operator.Sub (Value.int _ _) (Value.int _ _)) _ _ _); (k_here; (with_reducible refine' sub_l ?zqe ?_); (case zqe => first | exact Int.sub_self _ | (simp only [Int.reduceAdd, Int.reduceMul, Int.reduceSub, Int.reduceNeg]; rfl)); intro _ _; (try dsimp only)))
    | ((with_reducible show wpAny _ _ (call (Value.builtin "len") _) _ _ _); (k_here; (with_reducible refine len_wx (by with_reducible assumption) ?_); intro _ _; (try dsimp only)))
    | ((with_reducible show wpAny _ _ (subscriptTail (PySem.Expr.Name _ _) (PySem.Expr.BinOp _ _ _ _) (Value.str _ _) (Value.int _ _)) _ _ _); (k_here; (with_reducible refine item_last (by with_reducible assumption) ?_); intro _ _; (try dsimp only)))
    | ((with_reducible show wpAny _ _ (subscriptTail (PySem.Expr.Name _ _) (PySem.Expr.Slice _ _ _ _) (Value.str _ _) (Value.ref _)) _ _ _); (first | (k_here; (with_reducible rename Fr _ _ _ _ => F'); (with_reducible rename News _ _ _ _ => N'); (with_reducible refine' slice_n_nn F' N' ?zqe ?_ ?zqz); (case zqe => exact wx_nn (by with_reducible assumption)); (case zqz => rw [wx_len (by assumption), sizeLine_eq]; omega); intro _ _ _ _ _) | (k_here; (with_reducible rename Fr _ _ _ _ => F'); (with_reducible rename News _ _ _ _ => N'); (with_reducible refine' slice_n_sn F' N' ?zqe ?_ ?zqz); (case zqe => exact rfl); (case zqz => exact Nat.le_of_ble_eq_true rfl); intro _ _ _ _ _)))
    | ((with_reducible show wpAny _ _ (truthy (Value.str _ _)) _ _ _); (k_here; (first | with_reducible refine tr_wx (by with_reducible assumption) ?_); intro _; (try dsimp only)))
    | ((with_reducible show wpAny _ _ (compareOp PySem.CmpOp.Eq (Value.str _ _) (Value.str _ _)) _ _ _); (k_here; first | (with_reducible refine eq1_f (by with_reducible assumption) ?_) | (with_reducible refine eq_wx (by with_reducible assumption) ?_)))
    | ((with_reducible show wpAny _ _ (exec (PySem.Stmt.If _ _ _ _) _) _ _ _); (k_here; with_reducible refine wpAny_If ?_))
    | ((with_reducible show wpAny _ _ (inplaceOp PySem.Operator.Add (Value.int _ _) (Value.int _ _)) _ _ _); (k_here; (with_reducible refine' iadd_l ?zqe ?_); (case zqe => (simp only [Int.reduceAdd, Int.reduceMul, Int.reduceSub, Int.reduceNeg]; rfl)); intro _ _; (try dsimp only)))
    | ((with_reducible show wpAny _ _ (truthy (Value.int _ _)) _ _ _); (k_here; first | with_reducible refine tri_f (by decide) ?_ | with_reducible refine tri_t (by decide) ?_))
    | ((with_reducible show wpAny _ _ (compareOp PySem.CmpOp.Gt (Value.int _ _) (Value.int _ _)) _ _ _); (k_here; first | with_reducible refine gt_f (by omega) ?_ | with_reducible refine gt_t (by omega) ?_))
    | ((with_reducible show wpAny _ _ (compareOp PySem.CmpOp.Lt (Value.int _ _) (Value.int _ _)) _ _ _); (k_here; first | with_reducible refine lt_f (by decide) ?_ | with_reducible refine lt_t (by decide) ?_))
    | (first | with_reducible refine ite_tt9 ?_ | with_reducible refine ite_ff9 ?_)
    | ((with_reducible show wpAny _ _ (call (Value.ref _) _) _ _ _); (k_here; (with_reducible show wpAny _ _ (call (Value.ref 63) _) _ _ _); k_dflt (refine sub_use (by k_asm) (by k_asm) (by k_asm) (by k_asm) (by k_asm) (by exact rfl) (by (refine ⟨?_, ?_, ?_⟩ <;> first | with_reducible assumption | exact Ne.symm (by with_reducible assumption) | omega)) (by ktr_room) (by ktr_units) ?_); intro _ _ _ _ _; (try dsimp only); (try k_fold)))
    | ((with_reducible show wpAny _ _ (binaryOp PySem.Operator.Add (Value.int _ _) (Value.int _ _)) _ _ _); (k_here; (with_reducible refine' add_l ?zqe ?_); (case zqe => (simp only [Int.reduceAdd, Int.reduceMul, Int.reduceSub, Int.reduceNeg]; rfl)); intro _ _; (try dsimp only)))
    | ((with_reducible show wpAny _ _ (binaryOp PySem.Operator.Mult (Value.int _ _) (Value.int _ _)) _ _ _); (k_here; (with_reducible refine' mul_l ?zqe ?zqm ?_); (case zqe => (simp only [Int.reduceAdd, Int.reduceMul, Int.reduceSub, Int.reduceNeg]; rfl)); (case zqm => mul_fits); intro _ _; (try dsimp only)))
    | walk1
    | (dsimp only; walk1)
    | (leave1; walk_say "STEP leave1"; try dsimp only)
    | fail "no step")
  · have hi : i < k := by
      rcases Nat.lt_or_ge i k with h | h
      · exact h
      · have e : i = k := Nat.le_antisymm hik h
        subst e
        rename (_ == _) = true => hq
        exact absurd (by simpa using hq) hkk
    rename Fr _ _ _ _ => F2
    refine unhaltL ?_
    exact (haltL ihH) _ hi ⟨_, _, _, rfl, F2, (by walk_at "lk"), (by walk_at "lk"), (by walk_at "lk"), _, if_pos rfl⟩
  · have hi : i = k := by
      rcases Nat.lt_or_ge i k with h | h
      · rename (_ == _) = false => hq
        rw [hpr i h] at hq
        simp at hq
      · exact Nat.le_antisymm hik h
    subst hi
    have hl : x 2 ≠ y 2 := hdis 2 2 (by omega) (by omega) (by omega) (by omega)
    clear ihH
    refine unhaltL ?_
    rename Fr _ _ _ _ => F1
    refine fr_abs4 (Str.ofString "a") (Str.ofString "b") (Str.ofString "max_cost") (Str.ofString "post") F1 (by walk_at "lk") (by walk_at "lk") (by walk_at "lk") (by walk_at "lk") ?_
    clear F1 e1 e2 e3 e4
    intro m1' e1 e2 e3 e4 F1
    refine whl_start 1 ?_
    refine whl_turn (by passes_own) ?_
    repeat' (first
      | (k_unfold; (try dsimp only))
      | (k_end; wrow_close)
      | ((with_reducible show wpAny _ _ (subscriptTail (PySem.Expr.Name _ _) (PySem.Expr.Name _ _) (Value.str _ _) (Value.int _ _)) _ _ _); (k_here; (first | (with_reducible refine item_wx (by with_reducible assumption) ?_) | (with_reducible refine item_wy (by with_reducible assumption) (by with_reducible assumption) ?_)); intro _ _; (try dsimp only)))
      | ((with_reducible show wpAny _ _ (subscriptTail (PySem.Expr.Name _ _) (PySem.Expr.Name _ _) (Value.ref _) (Value.int _ _)) _ _ _); (k_here; k_dflt (refine' row_get ?zqN ?zqm ?zqhi ?zqhj ?zqhl ?_; (case zqN => k_asm); (case zqm => k_mem); (case zqhi => assumption); (case zqhj => assumption); (case zqhl => assumption)); intro _; (try dsimp only)))
      | ((with_reducible show wpAny _ _ (call (Value.builtin "min") _) _ _ _); (k_here; (with_reducible rename Fr _ _ _ _ => F'); (with_reducible rename News _ _ _ _ => N'); (with_reducible refine min_g rfl F' N' ?_); intro h' tk' t' F' N'; (try dsimp only); (try k_sweep)))
      | ((with_reducible show wpAny _ _ (loadName _ _) _ _ _); (k_here; k_dflt (refine' loadQ ?zqF ?zqv ?_ ?zqa ?zqb ?zqc; (case zqF => k_asm); (case zqa => rfl); (case zqb => rfl); (case zqc => rfl); (case zqv => walk_at "lk"); k_whole)))
      | ((with_reducible show wpAny _ _ (binaryOp PySem.Operator.Sub (Value.int _ _) (Value.int _ _)) _ _ _); (k_here; (with_reducible refine' sub_l ?zqe ?_); (case zqe => first | exact Int.sub_self _ | (simp only [Int.reduceAdd, Int.reduceMul, Int.reduceSub, Int.reduceNeg]; rfl)); intro _ _; (try dsimp only)))
      | ((with_reducible show wpAny _ _ (call (Value.builtin "len") _) _ _ _); (k_here; (with_reducible refine len_wx (by with_reducible assumption) ?_); intro _ _; (try dsimp only)))
      | ((with_reducible show wpAny _ _ (subscriptTail (PySem.Expr.Name _ _) (PySem.Expr.BinOp _ _ _ _) (Value.str _ _) (Value.int _ _)) _ _ _); (k_here; (with_reducible refine item_last (by with_reducible assumption) ?_); intro _ _; (try dsimp only)))
      | ((with_reducible show wpAny _ _ (subscriptTail (PySem.Expr.Name _ _) (PySem.Expr.Slice _ _ _ _) (Value.str _ _) (Value.ref _)) _ _ _); (first | (k_here; (with_reducible rename Fr _ _ _ _ => F'); (with_reducible rename News _ _ _ _ => N'); (with_reducible refine' slice_n_nn F' N' ?zqe ?_ ?zqz); (case zqe => exact wx_nn (by with_reducible assumption)); (case zqz => rw [wx_len (by assumption), sizeLine_eq]; omega); intro _ _ _ _ _) | (k_here; (with_reducible rename Fr _ _ _ _ => F'); (with_reducible rename News _ _ _ _ => N'); (with_reducible refine' slice_n_sn F' N' ?zqe ?_ ?zqz); (case zqe => exact rfl); (case zqz => exact Nat.le_of_ble_eq_true rfl); intro _ _ _ _ _)))
      | ((with_reducible show wpAny _ _ (truthy (Value.str _ _)) _ _ _); (k_here; (first | with_reducible refine tr_wx (by with_reducible assumption) ?_); intro _; (try dsimp only)))
      | ((with_reducible show wpAny _ _ (compareOp PySem.CmpOp.Eq (Value.str _ _) (Value.str _ _)) _ _ _); (k_here; first | (with_reducible refine eq1_f (by with_reducible assumption) ?_) | (with_reducible refine eq_wx (by with_reducible assumption) ?_)))
      | ((with_reducible show wpAny _ _ (exec (PySem.Stmt.If _ _ _ _) _) _ _ _); (k_here; with_reducible refine wpAny_If ?_))
      | ((with_reducible show wpAny _ _ (inplaceOp PySem.Operator.Add (Value.int _ _) (Value.int _ _)) _ _ _); (k_here; (with_reducible refine' iadd_l ?zqe ?_); (case zqe => (simp only [Int.reduceAdd, Int.reduceMul, Int.reduceSub, Int.reduceNeg]; rfl)); intro _ _; (try dsimp only)))
      | ((with_reducible show wpAny _ _ (truthy (Value.int _ _)) _ _ _); (k_here; first | with_reducible refine tri_f (by decide) ?_ | with_reducible refine tri_t (by decide) ?_))
      | ((with_reducible show wpAny _ _ (compareOp PySem.CmpOp.Gt (Value.int _ _) (Value.int _ _)) _ _ _); (k_here; first | with_reducible refine gt_f (by omega) ?_ | with_reducible refine gt_t (by omega) ?_))
      | ((with_reducible show wpAny _ _ (compareOp PySem.CmpOp.Lt (Value.int _ _) (Value.int _ _)) _ _ _); (k_here; first | with_reducible refine lt_f (by decide) ?_ | with_reducible refine lt_t (by decide) ?_))
      | (first | with_reducible refine ite_tt9 ?_ | with_reducible refine ite_ff9 ?_)
      | ((with_reducible show wpAny _ _ (call (Value.ref _) _) _ _ _); (k_here; (with_reducible show wpAny _ _ (call (Value.ref 63) _) _ _ _); k_dflt (refine sub_use (by k_asm) (by k_asm) (by k_asm) (by k_asm) (by k_asm) (by exact rfl) (by (refine ⟨?_, ?_, ?_⟩ <;> first | with_reducible assumption | exact Ne.symm (by with_reducible assumption) | omega)) (by ktr_room) (by ktr_units) ?_); intro _ _ _ _ _; (try dsimp only); (try k_fold)))
      | ((with_reducible show wpAny _ _ (binaryOp PySem.Operator.Add (Value.int _ _) (Value.int _ _)) _ _ _); (k_here; (with_reducible refine' add_l ?zqe ?_); (case zqe => (simp only [Int.reduceAdd, Int.reduceMul, Int.reduceSub, Int.reduceNeg]; rfl)); intro _ _; (try dsimp only)))
      | ((with_reducible show wpAny _ _ (binaryOp PySem.Operator.Mult (Value.int _ _) (Value.int _ _)) _ _ _); (k_here; (with_reducible refine' mul_l ?zqe ?zqm ?_); (case zqe => (simp only [Int.reduceAdd, Int.reduceMul, Int.reduceSub, Int.reduceNeg]; rfl)); (case zqm => mul_fits); intro _ _; (try dsimp only)))
      | walk1
      | (dsimp only; walk1)
      | (leave1; walk_say "STEP leave1"; try dsimp only)
      | fail "no step")
    refine unhaltL ?_
    rename Fr _ _ _ _ => F1
    rename News _ _ _ _ => N1
    rename IsRange _ _ _ _ _ _ _ _ => R1
    have n1 : 1 ≤ 3 - i := by omega
    have n3 : 3 - i ≤ 3 := by omega
    have i3 : i = 0 ∨ i = 1 ∨ i = 2 := by omega
    refine fr_abs3 (Str.ofString "a") (Str.ofString "b") (Str.ofString "max_cost") F1 (by walk_at "lk") (by walk_at "lk") (by walk_at "lk") ?_
    clear F1 e1 e2 e3 e4
    intro m2 e1 e2 e3 F1
    refine list_range_K (n := 3 - i) rfl F1 N1 R1 (by rcases i3 with rfl | rfl | rfl <;> decide) (by rcases i3 with rfl | rfl | rfl <;> rfl) (by omega) ?_
    clear F1 N1 R1
    intro D h2 tk2 ys e F2 N2 lD iD
    have sm : Builtin.Range.small 0 ((3 - i : Nat) : Int) 1 = true := by rcases i3 with rfl | rfl | rfl <;> decide
    have sz : Builtin.Range.rangeSize 0 ((3 - i : Nat) : Int) 1 = ((3 - i : Nat) : Int) := by rcases i3 with rfl | rfl | rfl <;> rfl
    repeat' (first
      | (k_unfold; (try dsimp only))
      | (k_end; wrow_close)
      | ((with_reducible show wpAny _ _ (subscriptTail (PySem.Expr.Name _ _) (PySem.Expr.Name _ _) (Value.str _ _) (Value.int _ _)) _ _ _); (k_here; (first | (with_reducible refine item_wx (by with_reducible assumption) ?_) | (with_reducible refine item_wy (by with_reducible assumption) (by with_reducible assumption) ?_)); intro _ _; (try dsimp only)))
      | ((with_reducible show wpAny _ _ (subscriptTail (PySem.Expr.Name _ _) (PySem.Expr.Name _ _) (Value.ref _) (Value.int _ _)) _ _ _); (k_here; k_dflt (refine' row_get ?zqN ?zqm ?zqhi ?zqhj ?zqhl ?_; (case zqN => k_asm); (case zqm => k_mem); (case zqhi => assumption); (case zqhj => assumption); (case zqhl => assumption)); intro _; (try dsimp only)))
      | ((with_reducible show wpAny _ _ (call (Value.builtin "min") _) _ _ _); (k_here; (with_reducible rename Fr _ _ _ _ => F'); (with_reducible rename News _ _ _ _ => N'); (with_reducible refine min_g rfl F' N' ?_); intro h' tk' t' F' N'; (try dsimp only); (try k_sweep)))
      | ((with_reducible show wpAny _ _ (loadName _ _) _ _ _); (k_here; k_dflt (refine' loadQ ?zqF ?zqv ?_ ?zqa ?zqb ?zqc; (case zqF => k_asm); (case zqa => rfl); (case zqb => rfl); (case zqc => rfl); (case zqv => walk_at "lk"); k_whole)))
      | ((with_reducible show wpAny _ _ (binaryOp PySem.Operator.Sub (Value.int _ _) (Value.int _ _)) _ _ _); (k_here; (with_reducible refine' sub_l ?zqe ?_); (case zqe => first | exact Int.sub_self _ | (simp only [Int.reduceAdd, Int.reduceMul, Int.reduceSub, Int.reduceNeg]; rfl)); intro _ _; (try dsimp only)))
      | ((with_reducible show wpAny _ _ (call (Value.builtin "len") _) _ _ _); (k_here; (with_reducible refine len_wx (by with_reducible assumption) ?_); intro _ _; (try dsimp only)))
      | ((with_reducible show wpAny _ _ (subscriptTail (PySem.Expr.Name _ _) (PySem.Expr.BinOp _ _ _ _) (Value.str _ _) (Value.int _ _)) _ _ _); (k_here; (with_reducible refine item_last (by with_reducible assumption) ?_); intro _ _; (try dsimp only)))
      | ((with_reducible show wpAny _ _ (subscriptTail (PySem.Expr.Name _ _) (PySem.Expr.Slice _ _ _ _) (Value.str _ _) (Value.ref _)) _ _ _); (first | (k_here; (with_reducible rename Fr _ _ _ _ => F'); (with_reducible rename News _ _ _ _ => N'); (with_reducible refine' slice_n_nn F' N' ?zqe ?_ ?zqz); (case zqe => exact wx_nn (by with_reducible assumption)); (case zqz => rw [wx_len (by assumption), sizeLine_eq]; omega); intro _ _ _ _ _) | (k_here; (with_reducible rename Fr _ _ _ _ => F'); (with_reducible rename News _ _ _ _ => N'); (with_reducible refine' slice_n_sn F' N' ?zqe ?_ ?zqz); (case zqe => exact rfl); (case zqz => exact Nat.le_of_ble_eq_true rfl); intro _ _ _ _ _)))
      | ((with_reducible show wpAny _ _ (truthy (Value.str _ _)) _ _ _); (k_here; (first | with_reducible refine tr_wx (by with_reducible assumption) ?_); intro _; (try dsimp only)))
      | ((with_reducible show wpAny _ _ (compareOp PySem.CmpOp.Eq (Value.str _ _) (Value.str _ _)) _ _ _); (k_here; first | (with_reducible refine eq1_f (by with_reducible assumption) ?_) | (with_reducible refine eq_wx (by with_reducible assumption) ?_)))
      | ((with_reducible show wpAny _ _ (exec (PySem.Stmt.If _ _ _ _) _) _ _ _); (k_here; with_reducible refine wpAny_If ?_))
      | ((with_reducible show wpAny _ _ (inplaceOp PySem.Operator.Add (Value.int _ _) (Value.int _ _)) _ _ _); (k_here; (with_reducible refine' iadd_l ?zqe ?_); (case zqe => (simp only [Int.reduceAdd, Int.reduceMul, Int.reduceSub, Int.reduceNeg]; rfl)); intro _ _; (try dsimp only)))
      | ((with_reducible show wpAny _ _ (truthy (Value.int _ _)) _ _ _); (k_here; first | with_reducible refine tri_f (by decide) ?_ | with_reducible refine tri_t (by decide) ?_))
      | ((with_reducible show wpAny _ _ (compareOp PySem.CmpOp.Gt (Value.int _ _) (Value.int _ _)) _ _ _); (k_here; first | with_reducible refine gt_f (by omega) ?_ | with_reducible refine gt_t (by omega) ?_))
      | ((with_reducible show wpAny _ _ (compareOp PySem.CmpOp.Lt (Value.int _ _) (Value.int _ _)) _ _ _); (k_here; first | with_reducible refine lt_f (by decide) ?_ | with_reducible refine lt_t (by decide) ?_))
      | (first | with_reducible refine ite_tt9 ?_ | with_reducible refine ite_ff9 ?_)
      | ((with_reducible show wpAny _ _ (call (Value.ref _) _) _ _ _); (k_here; (with_reducible show wpAny _ _ (call (Value.ref 63) _) _ _ _); k_dflt (refine sub_use (by k_asm) (by k_asm) (by k_asm) (by k_asm) (by k_asm) (by exact rfl) (by (refine ⟨?_, ?_, ?_⟩ <;> first | with_reducible assumption | exact Ne.symm (by with_reducible assumption) | omega)) (by ktr_room) (by ktr_units) ?_); intro _ _ _ _ _; (try dsimp only); (try k_fold)))
      | ((with_reducible show wpAny _ _ (binaryOp PySem.Operator.Add (Value.int _ _) (Value.int _ _)) _ _ _); (k_here; (with_reducible refine' add_l ?zqe ?_); (case zqe => (simp only [Int.reduceAdd, Int.reduceMul, Int.reduceSub, Int.reduceNeg]; rfl)); intro _ _; (try dsimp only)))
      | ((with_reducible show wpAny _ _ (binaryOp PySem.Operator.Mult (Value.int _ _) (Value.int _ _)) _ _ _); (k_here; (with_reducible refine' mul_l ?zqe ?zqm ?_); (case zqe => (simp only [Int.reduceAdd, Int.reduceMul, Int.reduceSub, Int.reduceNeg]; rfl)); (case zqm => mul_fits); intro _ _; (try dsimp only)))
      | walk1
      | (dsimp only; walk1)
      | (leave1; walk_say "STEP leave1"; try dsimp only)
      | fail "no step")
    refine unhaltL ?_
    rename Fr _ _ _ _ => F1
    rename News _ _ _ _ => N1
    rename IsRange _ _ _ _ _ _ _ _ => R1
    refine iter_rangeUnr (n := 3 - i) rfl R1 sm sz F1 N1 ?_
    intro I lI
    have lID : @Ne Nat D I := Nat.ne_of_lt (lI _ (.head _))
    refine rangeJ (J := Jout x y i mc tm D) ?_ ?_ ⟨⟨_, by walk_at "lk"⟩, ⟨_, by walk_at "lk"⟩, by walk_at "lk", by walk_at "lk", ⟨_, _, if_pos rfl, fun h => absurd h (by decide)⟩, ys, e, _, rfl, iD, row_first n1 n3⟩
    · clear F1 N1 R1 iD lI lD
      intro b tb0 m3 nw3 h3 tk3 it hb hJ F3 N3
      obtain ⟨⟨ta, q1⟩, ⟨tb, q2⟩, q3, q4, ⟨rv, tr, q5, q6⟩, vs, e', rs, rfl, iV, ok⟩ := hJ
      simp only [Int.zero_add] at F3
      show wpAny _ _ _ _ _ _
      k_fold
      repeat' (first
        | (k_unfold; (try dsimp only))
        | (k_end; wrow_close)
        | ((with_reducible show wpAny _ _ (subscriptTail (PySem.Expr.Name _ _) (PySem.Expr.Name _ _) (Value.str _ _) (Value.int _ _)) _ _ _); (k_here; (first | (with_reducible refine item_wx (by with_reducible assumption) ?_) | (with_reducible refine item_wy (by with_reducible assumption) (by with_reducible assumption) ?_)); intro _ _; (try dsimp only)))
        | ((with_reducible show wpAny _ _ (subscriptTail (PySem.Expr.Name _ _) (PySem.Expr.Name _ _) (Value.ref _) (Value.int _ _)) _ _ _); (k_here; k_dflt (refine' row_get ?zqN ?zqm ?zqhi ?zqhj ?zqhl ?_; (case zqN => k_asm); (case zqm => k_mem); (case zqhi => assumption); (case zqhj => assumption); (case zqhl => assumption)); intro _; (try dsimp only)))
        | ((with_reducible show wpAny _ _ (call (Value.builtin "min") _) _ _ _); (k_here; (with_reducible rename Fr _ _ _ _ => F'); (with_reducible rename News _ _ _ _ => N'); (with_reducible refine min_g rfl F' N' ?_); intro h' tk' t' F' N'; (try dsimp only); (try k_sweep)))
        | ((with_reducible show wpAny _ _ (loadName _ _) _ _ _); (k_here; k_dflt (refine' loadQ ?zqF ?zqv ?_ ?zqa ?zqb ?zqc; (case zqF => k_asm); (case zqa => rfl); (case zqb => rfl); (case zqc => rfl); (case zqv => walk_at "lk"); k_whole)))
        | ((with_reducible show wpAny _ _ (binaryOp PySem.Operator.Sub (Value.int _ _) (Value.int _ _)) _ _ _); (k_here; (with_reducible refine' sub_l ?zqe ?_); (case zqe => first | exact Int.sub_self _ | (simp only [Int.reduceAdd, Int.reduceMul, Int.reduceSub, Int.reduceNeg]; rfl)); intro _ _; (try dsimp only)))
        | ((with_reducible show wpAny _ _ (call (Value.builtin "len") _) _ _ _); (k_here; (with_reducible refine len_wx (by with_reducible assumption) ?_); intro _ _; (try dsimp only)))
        | ((with_reducible show wpAny _ _ (subscriptTail (PySem.Expr.Name _ _) (PySem.Expr.BinOp _ _ _ _) (Value.str _ _) (Value.int _ _)) _ _ _); (k_here; (with_reducible refine item_last (by with_reducible assumption) ?_); intro _ _; (try dsimp only)))
        | ((with_reducible show wpAny _ _ (subscriptTail (PySem.Expr.Name _ _) (PySem.Expr.Slice _ _ _ _) (Value.str _ _) (Value.ref _)) _ _ _); (first | (k_here; (with_reducible rename Fr _ _ _ _ => F'); (with_reducible rename News _ _ _ _ => N'); (with_reducible refine' slice_n_nn F' N' ?zqe ?_ ?zqz); (case zqe => exact wx_nn (by with_reducible assumption)); (case zqz => rw [wx_len (by assumption), sizeLine_eq]; omega); intro _ _ _ _ _) | (k_here; (with_reducible rename Fr _ _ _ _ => F'); (with_reducible rename News _ _ _ _ => N'); (with_reducible refine' slice_n_sn F' N' ?zqe ?_ ?zqz); (case zqe => exact rfl); (case zqz => exact Nat.le_of_ble_eq_true rfl); intro _ _ _ _ _)))
        | ((with_reducible show wpAny _ _ (truthy (Value.str _ _)) _ _ _); (k_here; (first | with_reducible refine tr_wx (by with_reducible assumption) ?_); intro _; (try dsimp only)))
        | ((with_reducible show wpAny _ _ (compareOp PySem.CmpOp.Eq (Value.str _ _) (Value.str _ _)) _ _ _); (k_here; first | (with_reducible refine eq1_f (by with_reducible assumption) ?_) | (with_reducible refine eq_wx (by with_reducible assumption) ?_)))
        | ((with_reducible show wpAny _ _ (exec (PySem.Stmt.If _ _ _ _) _) _ _ _); (k_here; with_reducible refine wpAny_If ?_))
        | ((with_reducible show wpAny _ _ (inplaceOp PySem.Operator.Add (Value.int _ _) (Value.int _ _)) _ _ _); (k_here; (with_reducible refine' iadd_l ?zqe ?_); (case zqe => (simp only [Int.reduceAdd, Int.reduceMul, Int.reduceSub, Int.reduceNeg]; rfl)); intro _ _; (try dsimp only)))
        | ((with_reducible show wpAny _ _ (truthy (Value.int _ _)) _ _ _); (k_here; first | with_reducible refine tri_f (by decide) ?_ | with_reducible refine tri_t (by decide) ?_))
        | ((with_reducible show wpAny _ _ (compareOp PySem.CmpOp.Gt (Value.int _ _) (Value.int _ _)) _ _ _); (k_here; first | with_reducible refine gt_f (by omega) ?_ | with_reducible refine gt_t (by omega) ?_))
        | ((with_reducible show wpAny _ _ (compareOp PySem.CmpOp.Lt (Value.int _ _) (Value.int _ _)) _ _ _); (k_here; first | with_reducible refine lt_f (by decide) ?_ | with_reducible refine lt_t (by decide) ?_))
        | (first | with_reducible refine ite_tt9 ?_ | with_reducible refine ite_ff9 ?_)
        | ((with_reducible show wpAny _ _ (call (Value.ref _) _) _ _ _); (k_here; (with_reducible show wpAny _ _ (call (Value.ref 63) _) _ _ _); k_dflt (refine sub_use (by k_asm) (by k_asm) (by k_asm) (by k_asm) (by k_asm) (by exact rfl) (by (refine ⟨?_, ?_, ?_⟩ <;> first | with_reducible assumption | exact Ne.symm (by with_reducible assumption) | omega)) (by ktr_room) (by ktr_units) ?_); intro _ _ _ _ _; (try dsimp only); (try k_fold)))
        | ((with_reducible show wpAny _ _ (binaryOp PySem.Operator.Add (Value.int _ _) (Value.int _ _)) _ _ _); (k_here; (with_reducible refine' add_l ?zqe ?_); (case zqe => (simp only [Int.reduceAdd, Int.reduceMul, Int.reduceSub, Int.reduceNeg]; rfl)); intro _ _; (try dsimp only)))
        | ((with_reducible show wpAny _ _ (binaryOp PySem.Operator.Mult (Value.int _ _) (Value.int _ _)) _ _ _); (k_here; (with_reducible refine' mul_l ?zqe ?zqm ?_); (case zqe => (simp only [Int.reduceAdd, Int.reduceMul, Int.reduceSub, Int.reduceNeg]; rfl)); (case zqm => mul_fits); intro _ _; (try dsimp only)))
        | walk1
        | (dsimp only; walk1)
        | (leave1; walk_say "STEP leave1"; try dsimp only)
        | fail "no step")
      refine unhaltL ?_
      rename Fr _ _ _ _ => F4
      rename News _ _ _ _ => N4
      rename IsRange _ _ _ _ _ _ _ _ => R4
      refine iter_rangeUnr (n := 3 - i) rfl R4 sm sz F4 N4 ?_
      intro I2 lI2
      have l2D : @Ne Nat D I2 := Nat.ne_of_lt (lI2 _ (.tail _ (.head _)))
      have l2I : @Ne Nat I I2 := Nat.ne_of_lt (lI2 _ (.head _))
      refine rangeJ (J := Jin x y i b mc tm D I it) ?_ ?_ ⟨⟨_, by walk_at "lk"⟩, ⟨_, by walk_at "lk"⟩, by walk_at "lk", by walk_at "lk", ⟨_, by walk_at "lk"⟩, ⟨_, _, by walk_at "lk", dd_zero b⟩, ⟨_, _, by walk_at "lk", fun _ => rfl, fun h => absurd h (by decide)⟩, ⟨_, _, by walk_at "lk", fun _ => rfl, fun h => absurd h (by decide)⟩, vs, e', rs, rfl, iV, ok⟩
      · intro j tj m5 nw5 h5 tk5 it2 hj hJ F5 N5
        obtain ⟨⟨ta, r1⟩, ⟨tb, r2⟩, r3, r4, ⟨tc, r5⟩, ⟨d, td, r6, r7⟩, ⟨r, tr, r8, r9, r10⟩, ⟨v, tv, r11, r12, r13⟩, vs, e', rs, rfl, iV, ok⟩ := hJ
        simp only [Int.zero_add] at F5
        have w1 : y (i + b) ≠ x (i + j) := Ne.symm (hdis (i + j) (i + b) (Nat.le_add_right _ _) (add_lt3 hj) (Nat.le_add_right _ _) (add_lt3 hb))
        have w2 := (hbx (i + j) (add_lt3 hj)).1
        have w3 := (hbx (i + b) (add_lt3 hb)).2
        have hjr : j < rs.length := by rw [ok.1]; exact hj
        have hjl : j < 1000 := Nat.lt_of_lt_of_le hj (Nat.le_trans n3 (by decide))
        have hg := (ok.2 j hj).2 (Nat.le_refl _)
        show wpAny _ _ _ _ _ _
        k_fold
        repeat' (first
          | (k_unfold; (try dsimp only))
          | (k_end; wrow_close)
          | ((with_reducible show wpAny _ _ (subscriptTail (PySem.Expr.Name _ _) (PySem.Expr.Name _ _) (Value.str _ _) (Value.int _ _)) _ _ _); (k_here; (first | (with_reducible refine item_wx (by with_reducible assumption) ?_) | (with_reducible refine item_wy (by with_reducible assumption) (by with_reducible assumption) ?_)); intro _ _; (try dsimp only)))
          | ((with_reducible show wpAny _ _ (subscriptTail (PySem.Expr.Name _ _) (PySem.Expr.Name _ _) (Value.ref _) (Value.int _ _)) _ _ _); (k_here; k_dflt (refine' row_get ?zqN ?zqm ?zqhi ?zqhj ?zqhl ?_; (case zqN => k_asm); (case zqm => k_mem); (case zqhi => assumption); (case zqhj => assumption); (case zqhl => assumption)); intro _; (try dsimp only)))
          | ((with_reducible show wpAny _ _ (call (Value.builtin "min") _) _ _ _); (k_here; (with_reducible rename Fr _ _ _ _ => F'); (with_reducible rename News _ _ _ _ => N'); (with_reducible refine min_g rfl F' N' ?_); intro h' tk' t' F' N'; (try dsimp only); (try k_sweep)))
          | ((with_reducible show wpAny _ _ (loadName _ _) _ _ _); (k_here; k_dflt (refine' loadQ ?zqF ?zqv ?_ ?zqa ?zqb ?zqc; (case zqF => k_asm); (case zqa => rfl); (case zqb => rfl); (case zqc => rfl); (case zqv => walk_at "lk"); k_whole)))
          | ((with_reducible show wpAny _ _ (binaryOp PySem.Operator.Sub (Value.int _ _) (Value.int _ _)) _ _ _); (k_here; (with_reducible refine' sub_l ?zqe ?_); (case zqe => first | exact Int.sub_self _ | (simp only [Int.reduceAdd, Int.reduceMul, Int.reduceSub, Int.reduceNeg]; rfl)); intro _ _; (try dsimp only)))
          | ((with_reducible show wpAny _ _ (call (Value.builtin "len") _) _ _ _); (k_here; (with_reducible refine len_wx (by with_reducible assumption) ?_); intro _ _; (try dsimp only)))
          | ((with_reducible show wpAny _ _ (subscriptTail (PySem.Expr.Name _ _) (PySem.Expr.BinOp _ _ _ _) (Value.str _ _) (Value.int _ _)) _ _ _); (k_here; (with_reducible refine item_last (by with_reducible assumption) ?_); intro _ _; (try dsimp only)))
          | ((with_reducible show wpAny _ _ (subscriptTail (PySem.Expr.Name _ _) (PySem.Expr.Slice _ _ _ _) (Value.str _ _) (Value.ref _)) _ _ _); (first | (k_here; (with_reducible rename Fr _ _ _ _ => F'); (with_reducible rename News _ _ _ _ => N'); (with_reducible refine' slice_n_nn F' N' ?zqe ?_ ?zqz); (case zqe => exact wx_nn (by with_reducible assumption)); (case zqz => rw [wx_len (by assumption), sizeLine_eq]; omega); intro _ _ _ _ _) | (k_here; (with_reducible rename Fr _ _ _ _ => F'); (with_reducible rename News _ _ _ _ => N'); (with_reducible refine' slice_n_sn F' N' ?zqe ?_ ?zqz); (case zqe => exact rfl); (case zqz => exact Nat.le_of_ble_eq_true rfl); intro _ _ _ _ _)))
          | ((with_reducible show wpAny _ _ (truthy (Value.str _ _)) _ _ _); (k_here; (first | with_reducible refine tr_wx (by with_reducible assumption) ?_); intro _; (try dsimp only)))
          | ((with_reducible show wpAny _ _ (compareOp PySem.CmpOp.Eq (Value.str _ _) (Value.str _ _)) _ _ _); (k_here; first | (with_reducible refine eq1_f (by with_reducible assumption) ?_) | (with_reducible refine eq_wx (by with_reducible assumption) ?_)))
          | ((with_reducible show wpAny _ _ (exec (PySem.Stmt.If _ _ _ _) _) _ _ _); (k_here; with_reducible refine wpAny_If ?_))
          | ((with_reducible show wpAny _ _ (inplaceOp PySem.Operator.Add (Value.int _ _) (Value.int _ _)) _ _ _); (k_here; (with_reducible refine' iadd_l ?zqe ?_); (case zqe => (simp only [Int.reduceAdd, Int.reduceMul, Int.reduceSub, Int.reduceNeg]; rfl)); intro _ _; (try dsimp only)))
          | ((with_reducible show wpAny _ _ (truthy (Value.int _ _)) _ _ _); (k_here; first | with_reducible refine tri_f (by decide) ?_ | with_reducible refine tri_t (by decide) ?_))
          | ((with_reducible show wpAny _ _ (compareOp PySem.CmpOp.Gt (Value.int _ _) (Value.int _ _)) _ _ _); (k_here; first | with_reducible refine gt_f (by omega) ?_ | with_reducible refine gt_t (by omega) ?_))
          | ((with_reducible show wpAny _ _ (compareOp PySem.CmpOp.Lt (Value.int _ _) (Value.int _ _)) _ _ _); (k_here; first | with_reducible refine lt_f (by decide) ?_ | with_reducible refine lt_t (by decide) ?_))
          | (first | with_reducible refine ite_tt9 ?_ | with_reducible refine ite_ff9 ?_)
          | ((with_reducible show wpAny _ _ (call (Value.ref _) _) _ _ _); (k_here; (with_reducible show wpAny _ _ (call (Value.ref 63) _) _ _ _); k_dflt (refine sub_use (by k_asm) (by k_asm) (by k_asm) (by k_asm) (by k_asm) (by exact rfl) (by (refine ⟨?_, ?_, ?_⟩ <;> first | with_reducible assumption | exact Ne.symm (by with_reducible assumption) | omega)) (by ktr_room) (by ktr_units) ?_); intro _ _ _ _ _; (try dsimp only); (try k_fold)))
          | ((with_reducible show wpAny _ _ (binaryOp PySem.Operator.Add (Value.int _ _) (Value.int _ _)) _ _ _); (k_here; (with_reducible refine' add_l ?zqe ?_); (case zqe => (simp only [Int.reduceAdd, Int.reduceMul, Int.reduceSub, Int.reduceNeg]; rfl)); intro _ _; (try dsimp only)))
          | ((with_reducible show wpAny _ _ (binaryOp PySem.Operator.Mult (Value.int _ _) (Value.int _ _)) _ _ _); (k_here; (with_reducible refine' mul_l ?zqe ?zqm ?_); (case zqe => (simp only [Int.reduceAdd, Int.reduceMul, Int.reduceSub, Int.reduceNeg]; rfl)); (case zqm => mul_fits); intro _ _; (try dsimp only)))
          | walk1
          | (dsimp only; walk1)
          | (leave1; walk_say "STEP leave1"; try dsimp only)
          | fail "no step")
        refine unhaltL ?_
        rename Fr _ _ _ _ => F6
        rename News _ _ _ _ => N6
        subst r7
        have hr' := dd_min r9 r10 hg
        rw [hr'] at F6 ⊢
        refine ksa_set F6 N6 (.tail (Ne.symm l2D) (.tail (Ne.symm lID) (.head fun p hp => nomatch hp))) iV (Int.natCast_nonneg j) (Int.ofNat_lt.mpr hjr) (Int.lt_trans (Int.ofNat_lt.mpr hjl) (by decide)) ?_
        intro h7 F7 N7 iV7 _ _
        have ok7 := row_turn ok hj (dd_up b j)
        clear F6 N6 hr' ok iV w1 w2 w3 hjr hjl r9 r10
        repeat' (first
          | (k_unfold; (try dsimp only))
          | (k_end; wrow_close)
          | ((with_reducible show wpAny _ _ (subscriptTail (PySem.Expr.Name _ _) (PySem.Expr.Name _ _) (Value.str _ _) (Value.int _ _)) _ _ _); (k_here; (first | (with_reducible refine item_wx (by with_reducible assumption) ?_) | (with_reducible refine item_wy (by with_reducible assumption) (by with_reducible assumption) ?_)); intro _ _; (try dsimp only)))
          | ((with_reducible show wpAny _ _ (subscriptTail (PySem.Expr.Name _ _) (PySem.Expr.Name _ _) (Value.ref _) (Value.int _ _)) _ _ _); (k_here; k_dflt (refine' row_get ?zqN ?zqm ?zqhi ?zqhj ?zqhl ?_; (case zqN => k_asm); (case zqm => k_mem); (case zqhi => assumption); (case zqhj => assumption); (case zqhl => assumption)); intro _; (try dsimp only)))
          | ((with_reducible show wpAny _ _ (call (Value.builtin "min") _) _ _ _); (k_here; (with_reducible rename Fr _ _ _ _ => F'); (with_reducible rename News _ _ _ _ => N'); (with_reducible refine min_g rfl F' N' ?_); intro h' tk' t' F' N'; (try dsimp only); (try k_sweep)))
          | ((with_reducible show wpAny _ _ (loadName _ _) _ _ _); (k_here; k_dflt (refine' loadQ ?zqF ?zqv ?_ ?zqa ?zqb ?zqc; (case zqF => k_asm); (case zqa => rfl); (case zqb => rfl); (case zqc => rfl); (case zqv => walk_at "lk"); k_whole)))
          | ((with_reducible show wpAny _ _ (binaryOp PySem.Operator.Sub (Value.int _ _) (Value.int _ _)) _ _ _); (k_here; (with_reducible refine' sub_l ?zqe ?_); (case zqe => first | exact Int.sub_self _ | (simp only [Int.reduceAdd, Int.reduceMul, Int.reduceSub, Int.reduceNeg]; rfl)); intro _ _; (try dsimp only)))
          | ((with_reducible show wpAny _ _ (call (Value.builtin "len") _) _ _ _); (k_here; (with_reducible refine len_wx (by with_reducible assumption) ?_); intro _ _; (try dsimp only)))
          | ((with_reducible show wpAny _ _ (subscriptTail (PySem.Expr.Name _ _) (PySem.Expr.BinOp _ _ _ _) (Value.str _ _) (Value.int _ _)) _ _ _); (k_here; (with_reducible refine item_last (by with_reducible assumption) ?_); intro _ _; (try dsimp only)))
          | ((with_reducible show wpAny _ _ (subscriptTail (PySem.Expr.Name _ _) (PySem.Expr.Slice _ _ _ _) (Value.str _ _) (Value.ref _)) _ _ _); (first | (k_here; (with_reducible rename Fr _ _ _ _ => F'); (with_reducible rename News _ _ _ _ => N'); (with_reducible refine' slice_n_nn F' N' ?zqe ?_ ?zqz); (case zqe => exact wx_nn (by with_reducible assumption)); (case zqz => rw [wx_len (by assumption), sizeLine_eq]; omega); intro _ _ _ _ _) | (k_here; (with_reducible rename Fr _ _ _ _ => F'); (with_reducible rename News _ _ _ _ => N'); (with_reducible refine' slice_n_sn F' N' ?zqe ?_ ?zqz); (case zqe => exact rfl); (case zqz => exact Nat.le_of_ble_eq_true rfl); intro _ _ _ _ _)))
          | ((with_reducible show wpAny _ _ (truthy (Value.str _ _)) _ _ _); (k_here; (first | with_reducible refine tr_wx (by with_reducible assumption) ?_); intro _; (try dsimp only)))
          | ((with_reducible show wpAny _ _ (compareOp PySem.CmpOp.Eq (Value.str _ _) (Value.str _ _)) _ _ _); (k_here; first | (with_reducible refine eq1_f (by with_reducible assumption) ?_) | (with_reducible refine eq_wx (by with_reducible assumption) ?_)))
          | ((with_reducible show wpAny _ _ (exec (PySem.Stmt.If _ _ _ _) _) _ _ _); (k_here; with_reducible refine wpAny_If ?_))
          | ((with_reducible show wpAny _ _ (inplaceOp PySem.Operator.Add (Value.int _ _) (Value.int _ _)) _ _ _); (k_here; (with_reducible refine' iadd_l ?zqe ?_); (case zqe => (simp only [Int.reduceAdd, Int.reduceMul, Int.reduceSub, Int.reduceNeg]; rfl)); intro _ _; (try dsimp only)))
          | ((with_reducible show wpAny _ _ (truthy (Value.int _ _)) _ _ _); (k_here; first | with_reducible refine tri_f (by decide) ?_ | with_reducible refine tri_t (by decide) ?_))
          | ((with_reducible show wpAny _ _ (compareOp PySem.CmpOp.Gt (Value.int _ _) (Value.int _ _)) _ _ _); (k_here; first | with_reducible refine gt_f (by omega) ?_ | with_reducible refine gt_t (by omega) ?_))
          | ((with_reducible show wpAny _ _ (compareOp PySem.CmpOp.Lt (Value.int _ _) (Value.int _ _)) _ _ _); (k_here; first | with_reducible refine lt_f (by decide) ?_ | with_reducible refine lt_t (by decide) ?_))
          | (first | with_reducible refine ite_tt9 ?_ | with_reducible refine ite_ff9 ?_)
          | ((with_reducible show wpAny _ _ (call (Value.ref _) _) _ _ _); (k_here; (with_reducible show wpAny _ _ (call (Value.ref 63) _) _ _ _); k_dflt (refine sub_use (by k_asm) (by k_asm) (by k_asm) (by k_asm) (by k_asm) (by exact rfl) (by (refine ⟨?_, ?_, ?_⟩ <;> first | with_reducible assumption | exact Ne.symm (by with_reducible assumption) | omega)) (by ktr_room) (by ktr_units) ?_); intro _ _ _ _ _; (try dsimp only); (try k_fold)))
          | ((with_reducible show wpAny _ _ (binaryOp PySem.Operator.Add (Value.int _ _) (Value.int _ _)) _ _ _); (k_here; (with_reducible refine' add_l ?zqe ?_); (case zqe => (simp only [Int.reduceAdd, Int.reduceMul, Int.reduceSub, Int.reduceNeg]; rfl)); intro _ _; (try dsimp only)))
          | ((with_reducible show wpAny _ _ (binaryOp PySem.Operator.Mult (Value.int _ _) (Value.int _ _)) _ _ _); (k_here; (with_reducible refine' mul_l ?zqe ?zqm ?_); (case zqe => (simp only [Int.reduceAdd, Int.reduceMul, Int.reduceSub, Int.reduceNeg]; rfl)); (case zqm => mul_fits); intro _ _; (try dsimp only)))
          | walk1
          | (dsimp only; walk1)
          | (leave1; walk_say "STEP leave1"; try dsimp only)
          | fail "no step")
        all_goals (
          refine unhaltL ?_
          rename Fr _ _ _ _ => F8
          rename News _ _ _ _ => N8
          refine ⟨_, _, _, [(I, it), (D, _)], rfl, F8, N8, ?_, ⟨_, by walk_at "lk"⟩, ⟨_, by walk_at "lk"⟩, by walk_at "lk", by walk_at "lk", ⟨_, by walk_at "lk"⟩, ⟨_, _, by walk_at "lk", ?_⟩, ⟨_, _, by walk_at "lk", fun h => absurd h (Nat.succ_ne_zero _), fun _ => ?_⟩, ⟨_, _, by walk_at "lk", fun h => absurd h (Nat.succ_ne_zero _), fun _ => ?_⟩, _, _, _, rfl, iV7, ok7⟩
          · intro p hp
            rcases List.mem_cons.mp hp with rfl | hp
            · exact l2I
            · rw [List.mem_singleton.mp hp]; exact l2D
          · exact hg
          · rfl
          · first | (rename dd b j + 2 < v => hlt; exact min_lt r13 hlt) | (rename ¬ (dd b j + 2 < v) => hge; exact min_ge (Nat.lt_of_lt_of_le hb n3) r12 r13 hge))
      · intro m5 nw5 h5 tk5 hJ F5 N5
        obtain ⟨⟨ta, r1⟩, ⟨tb, r2⟩, r3, r4, -, -, ⟨r, tr, r8, r9, r10⟩, ⟨v, tv, r11, r12, r13⟩, vs, e', rs, rfl, iV, ok⟩ := hJ
        have hv := r13 n1
        have hr := r10 n1
        clear r9 r10 r12 r13
        (try dsimp only)
        repeat' (first
          | (k_unfold; (try dsimp only))
          | (k_end; wrow_close)
          | ((with_reducible show wpAny _ _ (subscriptTail (PySem.Expr.Name _ _) (PySem.Expr.Name _ _) (Value.str _ _) (Value.int _ _)) _ _ _); (k_here; (first | (with_reducible refine item_wx (by with_reducible assumption) ?_) | (with_reducible refine item_wy (by with_reducible assumption) (by with_reducible assumption) ?_)); intro _ _; (try dsimp only)))
          | ((with_reducible show wpAny _ _ (subscriptTail (PySem.Expr.Name _ _) (PySem.Expr.Name _ _) (Value.ref _) (Value.int _ _)) _ _ _); (k_here; k_dflt (refine' row_get ?zqN ?zqm ?zqhi ?zqhj ?zqhl ?_; (case zqN => k_asm); (case zqm => k_mem); (case zqhi => assumption); (case zqhj => assumption); (case zqhl => assumption)); intro _; (try dsimp only)))
          | ((with_reducible show wpAny _ _ (call (Value.builtin "min") _) _ _ _); (k_here; (with_reducible rename Fr _ _ _ _ => F'); (with_reducible rename News _ _ _ _ => N'); (with_reducible refine min_g rfl F' N' ?_); intro h' tk' t' F' N'; (try dsimp only); (try k_sweep)))
          | ((with_reducible show wpAny _ _ (loadName _ _) _ _ _); (k_here; k_dflt (refine' loadQ ?zqF ?zqv ?_ ?zqa ?zqb ?zqc; (case zqF => k_asm); (case zqa => rfl); (case zqb => rfl); (case zqc => rfl); (case zqv => walk_at "lk"); k_whole)))
          | ((with_reducible show wpAny _ _ (binaryOp PySem.Operator.Sub (Value.int _ _) (Value.int _ _)) _ _ _); (k_here; (with_reducible refine' sub_l ?zqe ?_); (case zqe => first | exact Int.sub_self _ | (simp only [Int.reduceAdd, Int.reduceMul, Int.reduceSub, Int.reduceNeg]; rfl)); intro _ _; (try dsimp only)))
          | ((with_reducible show wpAny _ _ (call (Value.builtin "len") _) _ _ _); (k_here; (with_reducible refine len_wx (by with_reducible assumption) ?_); intro _ _; (try dsimp only)))
          | ((with_reducible show wpAny _ _ (subscriptTail (PySem.Expr.Name _ _) (PySem.Expr.BinOp _ _ _ _) (Value.str _ _) (Value.int _ _)) _ _ _); (k_here; (with_reducible refine item_last (by with_reducible assumption) ?_); intro _ _; (try dsimp only)))
          | ((with_reducible show wpAny _ _ (subscriptTail (PySem.Expr.Name _ _) (PySem.Expr.Slice _ _ _ _) (Value.str _ _) (Value.ref _)) _ _ _); (first | (k_here; (with_reducible rename Fr _ _ _ _ => F'); (with_reducible rename News _ _ _ _ => N'); (with_reducible refine' slice_n_nn F' N' ?zqe ?_ ?zqz); (case zqe => exact wx_nn (by with_reducible assumption)); (case zqz => rw [wx_len (by assumption), sizeLine_eq]; omega); intro _ _ _ _ _) | (k_here; (with_reducible rename Fr _ _ _ _ => F'); (with_reducible rename News _ _ _ _ => N'); (with_reducible refine' slice_n_sn F' N' ?zqe ?_ ?zqz); (case zqe => exact rfl); (case zqz => exact Nat.le_of_ble_eq_true rfl); intro _ _ _ _ _)))
          | ((with_reducible show wpAny _ _ (truthy (Value.str _ _)) _ _ _); (k_here; (first | with_reducible refine tr_wx (by with_reducible assumption) ?_); intro _; (try dsimp only)))
          | ((with_reducible show wpAny _ _ (compareOp PySem.CmpOp.Eq (Value.str _ _) (Value.str _ _)) _ _ _); (k_here; first | (with_reducible refine eq1_f (by with_reducible assumption) ?_) | (with_reducible refine eq_wx (by with_reducible assumption) ?_)))
          | ((with_reducible show wpAny _ _ (exec (PySem.Stmt.If _ _ _ _) _) _ _ _); (k_here; with_reducible refine wpAny_If ?_))
          | ((with_reducible show wpAny _ _ (inplaceOp PySem.Operator.Add (Value.int _ _) (Value.int _ _)) _ _ _); (k_here; (with_reducible refine' iadd_l ?zqe ?_); (case zqe => (simp only [Int.reduceAdd, Int.reduceMul, Int.reduceSub, Int.reduceNeg]; rfl)); intro _ _; (try dsimp only)))
          | ((with_reducible show wpAny _ _ (truthy (Value.int _ _)) _ _ _); (k_here; first | with_reducible refine tri_f (by decide) ?_ | with_reducible refine tri_t (by decide) ?_))
          | ((with_reducible show wpAny _ _ (compareOp PySem.CmpOp.Gt (Value.int _ _) (Value.int _ _)) _ _ _); (k_here; first | with_reducible refine gt_f (by omega) ?_ | with_reducible refine gt_t (by omega) ?_))
          | ((with_reducible show wpAny _ _ (compareOp PySem.CmpOp.Lt (Value.int _ _) (Value.int _ _)) _ _ _); (k_here; first | with_reducible refine lt_f (by decide) ?_ | with_reducible refine lt_t (by decide) ?_))
          | (first | with_reducible refine ite_tt9 ?_ | with_reducible refine ite_ff9 ?_)
          | ((with_reducible show wpAny _ _ (call (Value.ref _) _) _ _ _); (k_here; (with_reducible show wpAny _ _ (call (Value.ref 63) _) _ _ _); k_dflt (refine sub_use (by k_asm) (by k_asm) (by k_asm) (by k_asm) (by k_asm) (by exact rfl) (by (refine ⟨?_, ?_, ?_⟩ <;> first | with_reducible assumption | exact Ne.symm (by with_reducible assumption) | omega)) (by ktr_room) (by ktr_units) ?_); intro _ _ _ _ _; (try dsimp only); (try k_fold)))
          | ((with_reducible show wpAny _ _ (binaryOp PySem.Operator.Add (Value.int _ _) (Value.int _ _)) _ _ _); (k_here; (with_reducible refine' add_l ?zqe ?_); (case zqe => (simp only [Int.reduceAdd, Int.reduceMul, Int.reduceSub, Int.reduceNeg]; rfl)); intro _ _; (try dsimp only)))
          | ((with_reducible show wpAny _ _ (binaryOp PySem.Operator.Mult (Value.int _ _) (Value.int _ _)) _ _ _); (k_here; (with_reducible refine' mul_l ?zqe ?zqm ?_); (case zqe => (simp only [Int.reduceAdd, Int.reduceMul, Int.reduceSub, Int.reduceNeg]; rfl)); (case zqm => mul_fits); intro _ _; (try dsimp only)))
          | walk1
          | (dsimp only; walk1)
          | (leave1; walk_say "STEP leave1"; try dsimp only)
          | fail "no step")
        all_goals (refine unhaltL ?_)
        · rename mc < v => hlt
          have e8 : mc + 1 = 2 * ((3 - i : Nat) : Int) := ret_eq hm1 hv (Int.ofNat_lt.mpr hb) hlt
          rename Fr _ _ _ _ => F8
          dsimp only [UnrPost]
          rw [e8]
          exact hret _ _ _ F8.keep
        · rename Fr _ _ _ _ => F8
          rename News _ _ _ _ => N8
          refine ⟨_, _, _, [(D, _)], rfl, F8, N8, ?_, ⟨_, by walk_at "lk"⟩, ⟨_, by walk_at "lk"⟩, by walk_at "lk", by walk_at "lk", ⟨_, _, by walk_at "lk", fun _ => ?_⟩, _, _, _, rfl, iV, row_next ok⟩
          · intro p hp
            rw [List.mem_singleton.mp hp]; exact lID
          · rw [hr]; exact dd_last hb
    · intro m3 nw3 h3 tk3 hJ F3 N3
      obtain ⟨-, -, -, -, ⟨rv, tr, q5, q6⟩, -⟩ := hJ
      have hv := q6 n1
      subst hv
      repeat' (first
        | (k_unfold; (try dsimp only))
        | (k_end; wrow_close)
        | ((with_reducible show wpAny _ _ (subscriptTail (PySem.Expr.Name _ _) (PySem.Expr.Name _ _) (Value.str _ _) (Value.int _ _)) _ _ _); (k_here; (first | (with_reducible refine item_wx (by with_reducible assumption) ?_) | (with_reducible refine item_wy (by with_reducible assumption) (by with_reducible assumption) ?_)); intro _ _; (try dsimp only)))
        | ((with_reducible show wpAny _ _ (subscriptTail (PySem.Expr.Name _ _) (PySem.Expr.Name _ _) (Value.ref _) (Value.int _ _)) _ _ _); (k_here; k_dflt (refine' row_get ?zqN ?zqm ?zqhi ?zqhj ?zqhl ?_; (case zqN => k_asm); (case zqm => k_mem); (case zqhi => assumption); (case zqhj => assumption); (case zqhl => assumption)); intro _; (try dsimp only)))
        | ((with_reducible show wpAny _ _ (call (Value.builtin "min") _) _ _ _); (k_here; (with_reducible rename Fr _ _ _ _ => F'); (with_reducible rename News _ _ _ _ => N'); (with_reducible refine min_g rfl F' N' ?_); intro h' tk' t' F' N'; (try dsimp only); (try k_sweep)))
        | ((with_reducible show wpAny _ _ (loadName _ _) _ _ _); (k_here; k_dflt (refine' loadQ ?zqF ?zqv ?_ ?zqa ?zqb ?zqc; (case zqF => k_asm); (case zqa => rfl); (case zqb => rfl); (case zqc => rfl); (case zqv => walk_at "lk"); k_whole)))
        | ((with_reducible show wpAny _ _ (binaryOp PySem.Operator.Sub (Value.int _ _) (Value.int _ _)) _ _ _); (k_here; (with_reducible refine' sub_l ?zqe ?_); (case zqe => first | exact Int.sub_self _ | (simp only [Int.reduceAdd, Int.reduceMul, Int.reduceSub, Int.reduceNeg]; rfl)); intro _ _; (try dsimp only)))
        | ((with_reducible show wpAny _ _ (call (Value.builtin "len") _) _ _ _); (k_here; (with_reducible refine len_wx (by with_reducible assumption) ?_); intro _ _; (try dsimp only)))
        | ((with_reducible show wpAny _ _ (subscriptTail (PySem.Expr.Name _ _) (PySem.Expr.BinOp _ _ _ _) (Value.str _ _) (Value.int _ _)) _ _ _); (k_here; (with_reducible refine item_last (by with_reducible assumption) ?_); intro _ _; (try dsimp only)))
        | ((with_reducible show wpAny _ _ (subscriptTail (PySem.Expr.Name _ _) (PySem.Expr.Slice _ _ _ _) (Value.str _ _) (Value.ref _)) _ _ _); (first | (k_here; (with_reducible rename Fr _ _ _ _ => F'); (with_reducible rename News _ _ _ _ => N'); (with_reducible refine' slice_n_nn F' N' ?zqe ?_ ?zqz); (case zqe => exact wx_nn (by with_reducible assumption)); (case zqz => rw [wx_len (by assumption), sizeLine_eq]; omega); intro _ _ _ _ _) | (k_here; (with_reducible rename Fr _ _ _ _ => F'); (with_reducible rename News _ _ _ _ => N'); (with_reducible refine' slice_n_sn F' N' ?zqe ?_ ?zqz); (case zqe => exact rfl); (case zqz => exact Nat.le_of_ble_eq_true rfl); intro _ _ _ _ _)))
        | ((with_reducible show wpAny _ _ (truthy (Value.str _ _)) _ _ _); (k_here; (first | with_reducible refine tr_wx (by with_reducible assumption) ?_); intro _; (try dsimp only)))
        | ((with_reducible show wpAny _ _ (compareOp PySem.CmpOp.Eq (Value.str _ _) (Value.str _ _)) _ _ _); (k_here; first | (with_reducible refine eq1_f (by with_reducible assumption) ?_) | (with_reducible refine eq_wx (by with_reducible assumption) ?_)))
        | ((with_reducible show wpAny _ _ (exec (PySem.Stmt.If _ _ _ _) _) _ _ _); (k_here; with_reducible refine wpAny_If ?_))
        | ((with_reducible show wpAny _ _ (inplaceOp PySem.Operator.Add (Value.int _ _) (Value.int _ _)) _ _ _); (k_here; (with_reducible refine' iadd_l ?zqe ?_); (case zqe => (simp only [Int.reduceAdd, Int.reduceMul, Int.reduceSub, Int.reduceNeg]; rfl)); intro _ _; (try dsimp only)))
        | ((with_reducible show wpAny _ _ (truthy (Value.int _ _)) _ _ _); (k_here; first | with_reducible refine tri_f (by decide) ?_ | with_reducible refine tri_t (by decide) ?_))
        | ((with_reducible show wpAny _ _ (compareOp PySem.CmpOp.Gt (Value.int _ _) (Value.int _ _)) _ _ _); (k_here; first | with_reducible refine gt_f (by omega) ?_ | with_reducible refine gt_t (by omega) ?_))
        | ((with_reducible show wpAny _ _ (compareOp PySem.CmpOp.Lt (Value.int _ _) (Value.int _ _)) _ _ _); (k_here; first | with_reducible refine lt_f (by decide) ?_ | with_reducible refine lt_t (by decide) ?_))
        | (first | with_reducible refine ite_tt9 ?_ | with_reducible refine ite_ff9 ?_)
        | ((with_reducible show wpAny _ _ (call (Value.ref _) _) _ _ _); (k_here; (with_reducible show wpAny _ _ (call (Value.ref 63) _) _ _ _); k_dflt (refine sub_use (by k_asm) (by k_asm) (by k_asm) (by k_asm) (by k_asm) (by exact rfl) (by (refine ⟨?_, ?_, ?_⟩ <;> first | with_reducible assumption | exact Ne.symm (by with_reducible assumption) | omega)) (by ktr_room) (by ktr_units) ?_); intro _ _ _ _ _; (try dsimp only); (try k_fold)))
        | ((with_reducible show wpAny _ _ (binaryOp PySem.Operator.Add (Value.int _ _) (Value.int _ _)) _ _ _); (k_here; (with_reducible refine' add_l ?zqe ?_); (case zqe => (simp only [Int.reduceAdd, Int.reduceMul, Int.reduceSub, Int.reduceNeg]; rfl)); intro _ _; (try dsimp only)))
        | ((with_reducible show wpAny _ _ (binaryOp PySem.Operator.Mult (Value.int _ _) (Value.int _ _)) _ _ _); (k_here; (with_reducible refine' mul_l ?zqe ?zqm ?_); (case zqe => (simp only [Int.reduceAdd, Int.reduceMul, Int.reduceSub, Int.reduceNeg]; rfl)); (case zqm => mul_fits); intro _ _; (try dsimp only)))
        | walk1
        | (dsimp only; walk1)
        | (leave1; walk_say "STEP leave1"; try dsimp only)
        | fail "no step")
      all_goals exact hret _ _ _ (Fr.keep (by assumption))
end Mine
namespace Mine
section
variable {prog : Program} {w : World} {A : Around} {c : Code} {fs : List Frame} {s : Shared} {P : End → Shared → Prop} {env : Env}
  {K : Flow → Sem Fin} {H : Value → Sem Fin} {gd : Bool → Bool} {lv : List Value → List Value}
theorem sx_wrap {α : Type} {m : Sem α} {K : α → Sem Fin} {H : Value → Sem Fin} {gd lv}
    (h : wpAny (model prog w) (A.over c fs) m (fun a s' => SegX (model prog w) A c (K a) fs s' P) (fun _ _ => False) s) : SegX (model prog w) A c (m.wrap K H gd lv) fs s P := by
  rintro Γ p rfl hΓ
  obtain ⟨e, s', hr, hq⟩ := runs_wrap_of_wp (Φ := fun e s' => e.quiet = true ∧ P e s') K H gd lv m (h (Γ.over fs) p (hΓ.over fs)) (fun a p' s' h' => h' Γ p' rfl hΓ) (fun x p' s' h' => h'.elim)
  exact ⟨e, s', hr, hq⟩
theorem sx_at {p' : Pos} {k : Unit → Sem Fin} (h : SegX (model prog w) A c (k ()) fs s P) : SegX (model prog w) A c (.at p' k) fs s P :=
  sx_wrap (m := standAt p') (K := k) (H := .raise) (gd := id) (lv := id) (wpAny_standAt h)
theorem sx_point {l : List Value} {k : Unit → Sem Fin} (h : SegX (model prog w) A c (k ()) fs s P) : SegX (model prog w) A c (.point l k) fs s P :=
  sx_wrap (m := point) (K := k) (H := .raise) (gd := id) (lv := fun _ => l) (wpAny_point h)
theorem sx_bind_wrap {α β : Type} {m : Sem α} {F : α → Sem β} {K' : β → Sem Fin} {H' : Value → Sem Fin} {gd lv}
    (h : wpAny (model prog w) (A.over c fs) m (fun a s' => SegX (model prog w) A c ((F a).wrap K' H' gd lv) fs s' P) (fun _ _ => False) s) : SegX (model prog w) A c ((m >>= F).wrap K' H' gd lv) fs s P := by
  rw [Sem.bind_eq_wrap', Sem.wrap_wrap]; exact sx_wrap h
theorem sx_execs_nil (h : SegX (model prog w) A c (K .next) fs s P) : SegX (model prog w) A c ((execs [] env).wrap K H gd lv) fs s P := h
theorem sx_execs_cons {st : Stmt} {rest : List Stmt}
    (h : SegX (model prog w) A c ((exec st env).wrap (fun f => match f with | .next => (execs rest env).wrap K H gd lv | f => K f) H gd lv) fs s P) :
    SegX (model prog w) A c ((execs (st :: rest) env).wrap K H gd lv) fs s P := by rw [execs_cons_wrap]; exact h
theorem sx_plain {st : Stmt} (h : wpAny (model prog w) (A.over c fs) (exec st env) (fun f s' => SegX (model prog w) A c (K f) fs s' P) (fun _ _ => False) s) : SegX (model prog w) A c ((exec st env).wrap K H gd lv) fs s P := sx_wrap h
theorem sx_If {test : PySem.Expr} {body orelse : List Stmt} {pos : Pos}
    (h : wpAny (model prog w) (A.over c fs) (isTrue test env (eval test env)) (fun b s' => if b = true then SegX (model prog w) A c ((execs body env).wrap K H gd lv) fs s' P else SegX (model prog w) A c ((execs orelse env).wrap K H gd lv) fs s' P) (fun _ _ => False) s) :
    SegX (model prog w) A c ((exec (.If test body orelse pos) env).wrap K H gd lv) fs s P := by
  show SegX (model prog w) A c (.at pos fun _ => ((isTrue test env (eval test env)) >>= fun b => if b = true then execs body env else execs orelse env).wrap K H gd lv) fs s P
  refine sx_at (sx_bind_wrap (wpAny_mono h (fun b s' hb => ?_) fun _ _ x => x))
  cases b with
  | true => rw [if_pos rfl] at hb ⊢; exact hb
  | false => rw [if_neg Bool.false_ne_true] at hb ⊢; exact hb
theorem sx_yield {v : Value} {g : Bool} {l : List Value} {k : Resume → Sem Fin} (hg : g = false) (hfs : splitAtGen fs = none) (hfg : fs.any Frame.guarded = false)
    (h : ∀ p, P (.susp v false l k c p fs) s) : SegX (model prog w) A c (.yield v g l k) fs s P := by
  subst hg; exact s_yield _ _ _ _ _ _ s v l k hfs hfg h
theorem sx_Yield {e : PySem.Expr} {ypos pos : Pos} (hfs : splitAtGen fs = none) (hgd : gd false = false) (hfg : fs.any Frame.guarded = false)
    (h : wpAny (model prog w) (A.over c fs) (eval e env) (fun v s' => ∀ p l k, (∀ P' s'', SegX (model prog w) A c (K .next) fs s'' P' → SegX (model prog w) A c (k (.send .none)) fs s'' P') → P (.susp v false l k c p fs) s') (fun _ _ => False) s)
    (hco : env.scope.isCoroutine = false) (hi : interactive env = false) :
    SegX (model prog w) A c ((exec (.Expr (.Yield (some e) ypos) pos) env).wrap K H gd lv) fs s P := by
  rw [exec_Expr env _ pos hi rfl]
  show SegX (model prog w) A c (.at pos fun _ => ((eval e env >>= fun v => (standAt ypos >>= fun _ => yieldOut env v)) >>= fun x => dropValue (.Yield (some e) ypos) pos x).wrap K H gd lv) fs s P
  have hy : ∀ v, yieldOut env v = yieldValue v := fun v => by simp only [yieldOut, hco, Bool.false_eq_true, if_false]
  simp only [hy]
  refine sx_at ?_
  rw [Sem.bind_eq_wrap', Sem.bind_eq_wrap', Sem.wrap_wrap, Sem.wrap_wrap]
  refine sx_wrap (wpAny_mono h (fun v s' h' => ?_) fun _ _ x => x)
  refine sx_at ?_
  exact sx_yield hgd hfs hfg fun p => h' p _ _ fun P' s'' hh => hh
theorem sx_For {target iter : PySem.Expr} {body orelse : List Stmt} {pos : Pos} (hgd : gd false = false)
    (h : wpAny (model prog w) (A.over c fs) (eval iter env) (fun x s₁ => wpAny (model prog w) (A.over c fs) (pyIter x) (fun it s₂ =>
      ∀ (k : Result → Sem Fin) (l : List Value) (p : Pos), (∀ f, k (.ok f) = K f) → SegX (model prog w) A (.forLoop target it body orelse env) (denote table (.forLoop target it body orelse env)) (.ret k none false l c p [] :: fs) s₂ P) (fun _ _ => False) s₁) (fun _ _ => False) s)
    (hs : ∀ x, foldedSetIterable iter env x = pure x) :
    SegX (model prog w) A c ((exec (.For target iter body orelse pos) env).wrap K H gd lv) fs s P := by
  rw [exec_For]
  refine sx_bind_wrap (wpAny_standAt ?_)
  refine sx_bind_wrap (wpAny_mono h (fun x s₁ h₁ => ?_) fun _ _ x => x)
  refine sx_bind_wrap (wpAny_of_eq (hs x) ?_)
  refine sx_bind_wrap (wpAny_standAt ?_)
  refine sx_bind_wrap (wpAny_holding (wpAny_mono h₁ (fun it s₂ h₂ => ?_) fun _ _ x => x))
  refine s_call _ _ _ _ _ _ s₂ _ _ _ _ _ (fun p => ?_)
  rw [hgd]
  exact h₂ _ _ p fun f => rfl
theorem sx_forLoop {target : PySem.Expr} {it : Value} {body orelse : List Stmt}
    (h : wpAny (model prog w) (A.over (.forLoop target it body orelse env) fs) (pyNext it) (fun r s₁ => match r with
      | none => SegX (model prog w) A (.block orelse env) (denote table (.block orelse env)) fs s₁ P
      | some v => wpAny (model prog w) (A.over (.forLoop target it body orelse env) fs) (letOwnedTupleGo target it v) (fun _ s₂ =>
          wpAny (model prog w) (A.over (.forLoop target it body orelse env) fs) (assign target env v) (fun _ s₃ =>
            ∀ (H : Value → Sem Fin), SegX (model prog w) A (.forLoop target it body orelse env) ((execs body env).wrap (fun f => match f with
              | .next | .cont => .pure (.again (.forLoop target it body orelse env))
              | .brk => .pure (.done .next)
              | .ret v => .pure (.done (.ret v))) H id id) fs s₃ P) (fun _ _ => False) s₂) (fun _ _ => False) s₁) (fun _ _ => False) s) :
    SegX (model prog w) A (.forLoop target it body orelse env) (denote table (.forLoop target it body orelse env)) fs s P := by
  show SegX _ A _ ((forTurn target it body orelse env).onRaise (fun x => do noteFrame x env; theTreesLotGoes x)) fs s P
  unfold forTurn
  rw [Sem.onRaise_eq_wrap]
  refine sx_bind_wrap (wpAny_standAt ?_)
  refine sx_bind_wrap (wpAny_onRaise (wpAny_mono h (fun r s₁ h₁ => ?_) fun _ _ x => x.elim))
  cases r with
  | none => exact s_again _ _ _ _ _ _ s₁ _ rfl h₁
  | some v =>
    refine sx_bind_wrap (wpAny_mono h₁ (fun _ s₂ h₂ => ?_) fun _ _ x => x)
    refine sx_bind_wrap (wpAny_mono h₂ (fun _ s₃ h₃ => ?_) fun _ _ x => x)
    rw [Sem.bind_eq_wrap', Sem.wrap_wrap]
    have := h₃ (fun e => (do noteFrame e env; theTreesLotGoes e : Sem Unit).wrap (fun _ => .raise e) .raise id id)
    rw [Sem.wrap_congr (execs body env) _ _ (K' := fun f => match f with
              | .next | .cont => .pure (.again (.forLoop target it body orelse env))
              | .brk => .pure (.done .next)
              | .ret v => .pure (.done (.ret v))) (H' := (fun e => (do noteFrame e env; theTreesLotGoes e : Sem Unit).wrap (fun _ => .raise e) .raise id id))
        (fun f => by cases f <;> rfl)
        (fun e => by first | exact Sem.bind_eq_wrap _ _ | (show (do noteFrame e env; theTreesLotGoes e : Sem Unit).bind (fun _ => .raise e) = _; rw [Sem.bind_eq_wrap]))]
    exact this
theorem sx_block {body : List Stmt} (h : ∀ (H : Value → Sem Fin), SegX (model prog w) A (.block body env) ((execs body env).wrap (fun f => .pure (.done f)) H id id) fs s P) :
    SegX (model prog w) A (.block body env) (denote table (.block body env)) fs s P := by
  show SegX _ A _ (((execs body env).onRaise (fun x => do noteFrame x env; theTreesLotGoes x)) >>= fun f => .pure (.done f)) fs s P
  rw [Sem.onRaise_eq_wrap, Sem.bind_eq_wrap', Sem.wrap_wrap]
  exact h _
theorem sx_func {body : List Stmt} (h : ∀ (H : Value → Sem Fin), SegX (model prog w) A (.func body env) ((execs body env).wrap (fun f => .pure (.done (.ret (match f with | .ret v => v | _ => .none)))) H id id) fs s P) :
    SegX (model prog w) A (.func body env) (denote table (.func body env)) fs s P := by
  show SegX _ A _ (.point [] fun _ => ((execs body env).onRaise (leaving env)) >>= _) fs s P
  refine sx_point ?_
  rw [Sem.onRaise_eq_wrap, Sem.bind_eq_wrap', Sem.wrap_wrap]
  rw [Sem.wrap_congr (execs body env) _ _ (K' := fun f => .pure (.done (.ret (match f with | .ret v => v | _ => .none))))
    (H' := fun e => (leaving env e).wrap (fun _ => .raise e) .raise id id) (fun f => by cases f <;> rfl)
    (fun e => by rw [Sem.bind_eq_wrap, Sem.wrap_wrap]; rfl)]
  exact h _
theorem sx_pop {r : Result} {k : Result → Sem Fin} {hd : Option Value} {g : Bool} {l : List Value} {c₁ : Code} {p₁ : Pos} {kp : List Value} (h : SegX (model prog w) A c₁ (k r) fs s P) : SegX (model prog w) A c (leafOf r) (.ret k hd g l c₁ p₁ kp :: fs) s P :=
  s_pop _ _ _ _ _ _ s r _ rfl k hd g l c₁ p₁ kp h
theorem sx_end {r : Result} (h : P (.ret r) s) : SegX (model prog w) A c (leafOf r) [] s P := s_end _ _ _ _ _ s r _ rfl h
end
end Mine
namespace Mine
noncomputable def IsTokV (h : Heap) (v : Value) (t : Nat × List Nat) : Prop := ∃ a i u, v = .ref a ∧ h.IsTuple a #[.int (t.1 : Int) i, .str ⟨t.2.toArray⟩ u]
noncomputable def Alike (h₀ : Heap) (fp : List Addr) (s s' : Shared) : Prop := ∀ b, (b ∈ fp ∨ ∃ o, h₀.get? b = some o) → ∀ o, s.heap.get? b = some o → s'.heap.get? b = some o
noncomputable def Kept (fp : List Addr) (s s' : Shared) : Prop := ∃ h' tk, s' = { s with heap := h', toks := tk } ∧ (∀ b o, b ∉ fp → s.heap.get? b = some o → h'.get? b = some o)
noncomputable def Rdy (prog : Program) (w : World) (h₀ : Heap) (A : Around) : List (Nat × List Nat) → List Addr → Code → Sem Fin → List Frame → Shared → Prop
  | [], fp, c, t, fs, s => SegX (model prog w) A c t fs s (fun e s' => e = .ret (.ok (.ret .none)) ∧ Kept fp s s')
  | tok :: ts, fp, c, t, fs, s => SegX (model prog w) A c t fs s (fun e s' => ∃ v l k c' p fs' fp', e = .susp v false l k c' p fs' ∧ fs'.any Frame.guarded = false ∧ IsTokV s'.heap v tok ∧ Kept fp s s' ∧
      (∀ b ∈ fp', b ∈ fp ∨ s.heap.get? b = none) ∧ ∀ s'', Alike h₀ fp' s' s'' → Rdy prog w h₀ A ts fp' c' (k (.send .none)) fs' s'')
noncomputable def Pend (prog : Program) (w : World) (h₀ : Heap) (A : Around) (ts : List (Nat × List Nat)) (fp : List Addr) (gs : GenState) (s : Shared) : Prop := match gs with
  | .fresh c => ∀ s'', Alike h₀ fp s s'' → Rdy prog w h₀ A ts fp c (denote table c) [] s''
  | .suspended k _ c _ fs cl => cl = false ∧ ∀ s'', Alike h₀ fp s s'' → Rdy prog w h₀ A ts fp c (k (.send .none)) fs s''
  | _ => False
theorem Pend.alike {prog : Program} {w : World} {h₀ : Heap} {A : Around} {ts : List (Nat × List Nat)} {fp : List Addr} {gs : GenState} {s s' : Shared} (h : Pend prog w h₀ A ts fp gs s) (a : Alike h₀ fp s s') : Pend prog w h₀ A ts fp gs s' := by
  unfold Pend at h ⊢
  cases gs with
  | fresh c => exact fun s'' al => h s'' fun b hb o e => al b hb o (a b hb o e)
  | suspended k l c p fs cl => exact ⟨h.1, fun s'' al => h.2 s'' fun b hb o e => al b hb o (a b hb o e)⟩
  | running => exact h
  | finished => exact h
section
variable {prog : Program} {w : World} {h₀ : Heap} {A : Around} {E : Value → Shared → Prop} {s : Shared}
theorem resumeX {α : Type} {Q : α → Shared → Prop} {g : Nat} {gs : GenState} {r : Resume} {l : List Value} {k : GenResult → Sem α} {c₀ : Code} {t₀ : Sem Fin} {fs₀ : List Frame} (hg : s.gens[g]? = some gs)
    (hgs : (gs = .fresh c₀ ∧ r = .send .none ∧ t₀ = denote table c₀ ∧ fs₀ = []) ∨ (∃ k₀ l₀ p₀ cl, gs = .suspended k₀ l₀ c₀ p₀ fs₀ cl ∧ t₀ = k₀ r))
    (x : SegX (model prog w) A c₀ t₀ fs₀ (s.setGen g .running) (fun e s₁ => wpAny (model prog w) A (k e.result) Q E (s₁.setGen g e.genState))) : wpAny (model prog w) A (.resume g r l k) Q E s :=
  wake_any α prog w hg hgs (fun Γ => Γ.In A) (fun _ h => h) (x.mono fun _ _ h Γ p hC => h Γ p hC)
noncomputable def Ends (prog : Program) (w : World) (h₀ : Heap) (A : Around) (ts : List (Nat × List Nat)) (fp : List Addr) (s : Shared) (e : End) (s₁ : Shared) : Prop :=
  (∃ tok ts' v l k c' p fs' fp', ts = tok :: ts' ∧ e = End.susp v false l k c' p fs' ∧ fs'.any Frame.guarded = false ∧ IsTokV s₁.heap v tok ∧ Kept fp s s₁ ∧
        (∀ b ∈ fp', b ∈ fp ∨ s.heap.get? b = none) ∧ ∀ s'', Alike h₀ fp' s₁ s'' → Rdy prog w h₀ A ts' fp' c' (k (.send .none)) fs' s'') ∨ (ts = [] ∧ e = End.ret (.ok (.ret .none)) ∧ Kept fp s s₁)
noncomputable def NextQ (prog : Program) (w : World) (h₀ : Heap) (A : Around) (g : Nat) (ts : List (Nat × List Nat)) (fp : List Addr) (s : Shared) (Q : Option Value → Shared → Prop) : Prop := match ts with
  | [] => ∀ h' tk, (∀ b o, b ∉ fp → s.heap.get? b = some o → h'.get? b = some o) → Q none { s with heap := h', toks := tk, gens := s.gens.setIfInBounds g .finished }
  | tok :: ts => ∀ v h' tk gs' fp', IsTokV h' v tok → (∀ b o, b ∉ fp → s.heap.get? b = some o → h'.get? b = some o) → (∀ b ∈ fp', b ∈ fp ∨ s.heap.get? b = none) → gs'.bare = true →
      Pend prog w h₀ A ts fp' gs' { s with heap := h', toks := tk, gens := s.gens.setIfInBounds g gs' } → Q (some v) { s with heap := h', toks := tk, gens := s.gens.setIfInBounds g gs' }
theorem set_set {α : Type} (a : Array α) (g : Nat) (x y : α) : (a.setIfInBounds g x).setIfInBounds g y = a.setIfInBounds g y := by
  apply Array.ext'
  simp
theorem gen_next {a : Addr} {g : Nat} {gs : GenState} {ts : List (Nat × List Nat)} {fp : List Addr} {Q : Option Value → Shared → Prop} (hh : A.handled = none) (hl : s.heap.NoLimit) (hroom : A.depth < recursionLimit)
    (hg : s.heap.IsGen a g) (hgs : s.gens[g]? = some gs) (hp : Pend prog w h₀ A.in1 ts fp gs s) (hQ : NextQ prog w h₀ A.in1 g ts fp s Q) : wpAny (model prog w) A (pyNext (.ref a)) Q E s := by
  have core : ∀ (c : Code) (t : Sem Fin) (fs : List Frame), Rdy prog w h₀ A.in1 ts fp c t fs (s.setGen g .running) →
      SegX (model prog w) A.in1 c t fs (s.setGen g .running) (fun e s₁ => Ends prog w h₀ A.in1 ts fp (s.setGen g .running) e s₁) := by
    intro c t fs h
    cases ts with
    | nil => exact SegX.mono h fun e s₁ h => .inr ⟨rfl, h⟩
    | cons tok ts => exact SegX.mono h fun e s₁ ⟨v, l, k, c', p, fs', fp', h1, h2, h3, h4, h5, h6⟩ => .inl ⟨tok, ts, v, l, k, c', p, fs', fp', rfl, h1, h2, h3, h4, h5, h6⟩
  unfold pyNext
  refine wpAny_bind (wpAny_attempt (wpAny_callSpecial?_slot (name := Str.ofString "__next__") hg.typeIs slot_gen_next
    (wpAny_call_entry slot_gen_next hg.typeIs entry_gen_next ?_ (args_gen_next _))))
  show wpAny _ A.in1 (Builtin.Generator.genWake (.ref a) (.send .none)) _ _ s
  unfold Builtin.Generator.genWake
  refine wpAny_bind (wpAny_holding (wpAny_genNumber hg (wpAny_bind (wpAny_genState hgs ?_))))
  have wake : ∀ {Q' : Fin → Shared → Prop} {E' : Value → Shared → Prop} {k : GenResult → Sem Fin} {l : List Value}, (∀ (e : End) (s₁ : Shared), Ends prog w h₀ A.in1 ts fp (s.setGen g .running) e s₁ → wpAny (model prog w) A.in1 (k e.result) Q' E' (s₁.setGen g e.genState)) → wpAny (model prog w) A.in1 (.resume g (.send .none) l k) Q' E' s := by
    intro Q' E' k l hk
    have al : Alike h₀ fp s (s.setGen g .running) := fun b _ o e => e
    unfold Pend at hp
    cases gs with
    | running => exact hp.elim
    | finished => exact hp.elim
    | fresh c => exact resumeX hgs (.inl ⟨rfl, rfl, rfl, rfl⟩) (SegX.mono (core _ _ _ (hp _ al)) hk)
    | suspended k₀ l₀ c₀ p₀ fs₀ cl => exact resumeX hgs (.inr ⟨k₀, l₀, p₀, cl, rfl, rfl⟩) (SegX.mono (core _ _ _ (hp.2 _ al)) hk)
  have fin : ∀ {Q' : Fin → Shared → Prop} {E' : Value → Shared → Prop}, True := fun {_ _} => trivial
  cases gs with
  | running => exact hp.elim
  | finished => exact hp.elim
  | _ =>
    refine wpAny_bind (wpAny_roomToWake hl hroom ?_)
    show wpAny _ A.in1 (.resume g (.send .none) [] _) _ _ s
    refine wake fun e s₁ h => ?_
    rcases h with ⟨tok, ts', v, l, k, c', p, fs', fp', rfl, rfl, hfg, htok, ⟨h', tk, rfl, hk⟩, hfp, hr⟩ | ⟨rfl, rfl, ⟨h', tk, rfl, hk⟩⟩
    · refine wpAny_pure ⟨v, rfl, wpAny_pure ?_⟩
      have e : ∀ x, ({ (s.setGen g .running) with heap := h', toks := tk } : Shared).setGen g x = { s with heap := h', toks := tk, gens := s.gens.setIfInBounds g x } := fun x => by
        show ({ s with heap := h', toks := tk, gens := (s.gens.setIfInBounds g .running).setIfInBounds g x } : Shared) = _
        rw [set_set]
      rw [e]
      exact hQ v h' tk (.suspended k l c' p fs' (false || fs'.any Frame.guarded)) fp' htok hk hfp (by show (!(false || fs'.any Frame.guarded)) = true; rw [hfg]; rfl) ⟨by rw [hfg]; rfl, fun s'' al => hr s'' al⟩
    · have e : ({ (s.setGen g .running) with heap := h', toks := tk } : Shared).setGen g .finished = { s with heap := h', toks := tk, gens := s.gens.setIfInBounds g .finished } := by
        show ({ s with heap := h', toks := tk, gens := (s.gens.setIfInBounds g .running).setIfInBounds g .finished } : Shared) = _
        rw [set_set]
      show wpAny _ A.in1 (newExc (.type "StopIteration") [] >>= _) _ _ (({ (s.setGen g .running) with heap := h', toks := tk } : Shared).setGen g .finished)
      rw [e]
      refine wpAny_bind ?_
      simp only [newExc, newTuple]
      refine wpAny_bind (wpAny_newObj_type ?_ (by size_fits))
      refine wpAny_bind (m := firstArgMember _ _) (wpAny_of_eq (a := Value.none) (by first | rfl | (simp only [firstArgMember]; rfl)) ?_)
      refine wpAny_newObj_type ?_ (by size_fits)
      simp only [raiseNew]
      refine wpAny_bind (wpAny_bind (wpAny_handled ?_))
      first | rw [show A.in1.handled = none from hh] | rw [hh]
      refine wpAny_throw ?_
      refine wpAny_bind (wpAny_isInstance (T := "StopIteration") (b := true) ⟨_, Heap.get?_push_size _ rfl, rfl⟩ isSubtype_stop ?_)
      exact wpAny_pure (hQ _ _ fun b o hb e => Heap.get?_push_of_some _ (Heap.get?_push_of_some _ (hk b o hb e)))
end
end Mine
namespace Mine
section
variable {prog : Program} {w : World} {h₀ : Heap} {A : Around} {s s' s₁ : Shared} {fp fp' : List Addr} {ts : List (Nat × List Nat)} {c : Code} {t : Sem Fin} {fs : List Frame} {e : End}
theorem rdy_of (h : SegX (model prog w) A c t fs s (Ends prog w h₀ A ts fp s)) : Rdy prog w h₀ A ts fp c t fs s := by
  cases ts with
  | nil =>
    refine SegX.mono h fun e s' h => ?_
    rcases h with ⟨tok, ts', _, _, _, _, _, _, _, h, _⟩ | ⟨_, h2, h3⟩
    · cases h
    · exact ⟨h2, h3⟩
  | cons tok ts =>
    refine SegX.mono h fun e s' h => ?_
    rcases h with ⟨tok', ts', v, l, k, c', p, fs', fp', h, h1, h2, h3, h4, h5, h6⟩ | ⟨h, _, _⟩
    · cases h; exact ⟨v, l, k, c', p, fs', fp', h1, h2, h3, h4, h5, h6⟩
    · cases h
theorem Kept.refl : Kept fp s s := ⟨s.heap, s.toks, rfl, fun _ _ _ e => e⟩
theorem Kept.trans (a : Kept fp s s') (b : Kept fp' s' s₁) (hf : ∀ b ∈ fp', b ∈ fp ∨ s.heap.get? b = none) : Kept fp s s₁ := by
  obtain ⟨h', tk, rfl, hk⟩ := a
  obtain ⟨h₁, tk₁, rfl, hk₁⟩ := b
  refine ⟨h₁, tk₁, rfl, fun b o hb e => hk₁ b o (fun hm => ?_) (hk b o hb e)⟩
  rcases hf b hm with h | h
  · exact hb h
  · rw [h] at e; cases e
theorem Ends.back (a : Kept fp s s') (h : Ends prog w h₀ A ts fp' s' e s₁) (hf : ∀ b ∈ fp', b ∈ fp ∨ s.heap.get? b = none) : Ends prog w h₀ A ts fp s e s₁ := by
  rcases h with ⟨tok, ts', v, l, k, c', p, fs', fp₁, h1, h2, h3, h4, h5, h6, h7⟩ | ⟨h1, h2, h3⟩
  · refine .inl ⟨tok, ts', v, l, k, c', p, fs', fp₁, h1, h2, h3, h4, a.trans h5 hf, fun b hb => ?_, h7⟩
    rcases h6 b hb with h | h
    · exact hf b h
    · by_cases hm : b ∈ fp
      · exact .inl hm
      · refine .inr ?_
        cases e : s.heap.get? b with
        | none => rfl
        | some o =>
          obtain ⟨h', tk, rfl, hk⟩ := a
          have := hk b o hm e
          rw [show h'.get? b = none from h] at this; cases this
  · exact .inr ⟨h1, h2, a.trans h3 hf⟩
theorem ends_tok {tok : Nat × List Nat} {v : Value} {l : List Value} {k : Resume → Sem Fin} {p : Pos} (hg : fs.any Frame.guarded = false) (ht : IsTokV s₁.heap v tok) (hk : Kept fp s s₁)
    (hf : ∀ b ∈ fp', b ∈ fp ∨ s.heap.get? b = none) (h : ∀ s'', Alike h₀ fp' s₁ s'' → SegX (model prog w) A c (k (.send .none)) fs s'' (Ends prog w h₀ A ts fp' s'')) :
    Ends prog w h₀ A (tok :: ts) fp s (.susp v false l k c p fs) s₁ :=
  .inl ⟨tok, ts, v, l, k, c, p, fs, fp', rfl, rfl, hg, ht, hk, hf, fun s'' al => rdy_of (h s'' al)⟩
variable {P : End → Shared → Prop} {env : Env} {K : Flow → Sem Fin} {H : Value → Sem Fin} {gd : Bool → Bool} {lv : List Value → List Value}
theorem sx_yield_pair {e1 e2 : PySem.Expr} {k2 : Nat} {pt ypos pos : Pos} (hfs : splitAtGen fs = none) (hgd : gd false = false) (hfg : fs.any Frame.guarded = false)
    (he1 : starEach [e1, e2] env = (false, eval e1 env) :: starEach [e2] env) (he2 : starEach [e2] env = (false, eval e2 env) :: starEach [] env)
    (h : wpAny (model prog w) (A.over c fs) (eval e1 env) (fun v1 s1 => wpAny (model prog w) (A.over c fs) (eval e2 env) (fun v2 s2 => ∀ p l k, (∀ P' s'', SegX (model prog w) A c (K .next) fs s'' P' → SegX (model prog w) A c (k (.send .none)) fs s'' P') →
      P (.susp (.ref s2.heap.objs.size) false l k c p fs) { s2 with heap := s2.heap.push { cls := .type "tuple", data := .seq #[v1, v2] } }) (fun _ _ => False) s1) (fun _ _ => False) s)
    (hco : env.scope.isCoroutine = false) (hi : interactive env = false) :
    SegX (model prog w) A c ((exec (.Expr (.Yield (some (.Tuple [e1, e2] k2 pt)) ypos) pos) env).wrap K H gd lv) fs s P := by
  refine sx_Yield hfs hgd hfg ?_ hco hi
  refine Tuple_ (spliced_more (wpAny_mono h (fun v1 s1 h1 => ?_) fun _ _ x => x) he1)
  refine spliced_more (wpAny_mono h1 (fun v2 s2 h2 => ?_) fun _ _ x => x) he2
  exact spliced_none (wpAny_newTuple h2)
end
end Mine
namespace Mine
noncomputable def tk : List Nat → Nat → Bool → List (Nat × List Nat)
  | [], i, true => [(i - 1, [92])]
  | [], _, false => []
  | c :: r, i, true => (i, [92, c]) :: tk r (i + 1) false
  | c :: r, i, false => if c = 92 then tk r (i + 1) true else (i, [c]) :: tk r (i + 1) false
noncomputable def GFr (L : Addr) (xi xe : Str) (i : Nat) (esc : Bool) (h : Heap) : Prop := ∃ m u, h.Ns L m ∧ m xe = some (.bool esc) ∧ m xi = some (.int ((i - 1 : Nat) : Int) u)
structure GSt (L e it : Addr) (x : Str) (t : Tok) (xi xe : Str) (i : Nat) (esc : Bool) (h : Heap) : Prop where
  enum : ∃ old, IsEnum h e it ((i : Nat) : Int) old
  iter : h.IsStrIter it "str_ascii_iterator" x t i
  frame : GFr L xi xe i esc h
structure GStV (L e it : Addr) (x : Str) (t : Tok) (xi xv xe : Str) (i c : Nat) (esc : Bool) (h : Heap) : Prop where
  enum : ∃ old, IsEnum h e it ((i + 1 : Nat) : Int) old
  iter : h.IsStrIter it "str_ascii_iterator" x t (i + 1)
  frame : ∃ m u u', h.Ns L m ∧ m xe = some (.bool esc) ∧ m xi = some (.int ((i : Nat) : Int) u) ∧ m xv = some (.str ⟨#[c]⟩ u')
section
variable {prog : Program} {w : World} {h₀ : Heap} {A : Around} {L e it : Addr} {x : Str} {t : Tok} {xi xv xe : Str} {env : Env} {fs : List Frame}
  {pi pv pt : Pos} {x1 : Nat} {B : List Stmt}
theorem gen_loop {k : Result → Sem Fin} {l : List Value} {c₀ : Code} {p : Pos} (hL : env.locals = L)
    (hh : (A.over (.forLoop (.Tuple [.Name xi pi, .Name xv pv] x1 pt) (.ref e) B [] env) [.ret k none false l c₀ p []]).handled = none)
    (hxi : env.kindOf xi = some .local) (hxv : env.kindOf xv = some .local) (hne1 : (xi == xv) = false) (hne2 : (xe == xi) = false) (hne3 : (xe == xv) = false)
    (hp : (env.scope.kind == .class || (env.scope.kind == .module && env.locals != env.globals)) = false)
    (hei : e ≠ it) (heL : e ≠ L) (hiL : it ≠ L)
    (turn : ∀ (i c : Nat) (esc : Bool) (r : List Nat) (s' : Shared) (H : Value → Sem Fin) (K : Flow → Sem Fin), GStV L e it x t xi xv xe i c esc s'.heap →
      (∀ esc' s'', GSt L e it x t xi xe (i + 1) esc' s''.heap →
        SegX (model prog w) A (.forLoop (.Tuple [.Name xi pi, .Name xv pv] x1 pt) (.ref e) B [] env) (K .next) [.ret k none false l c₀ p []] s'' (Ends prog w h₀ A (tk r (i + 1) esc') [L, e, it] s'')) →
      SegX (model prog w) A (.forLoop (.Tuple [.Name xi pi, .Name xv pv] x1 pt) (.ref e) B [] env) ((execs B env).wrap K H id id) [.ret k none false l c₀ p []] s' (Ends prog w h₀ A (tk (c :: r) i esc) [L, e, it] s'))
    (after : ∀ (i : Nat) (esc : Bool) (s' : Shared), GFr L xi xe i esc s'.heap → SegX (model prog w) A c₀ (k (.ok .next)) [] s' (Ends prog w h₀ A (tk [] i esc) [L, e, it] s')) :
    ∀ (r : List Nat) (i : Nat) (esc : Bool) (s : Shared), x.cps.toList.drop i = r → i ≤ x.cps.size → GSt L e it x t xi xe i esc s.heap →
      SegX (model prog w) A (.forLoop (.Tuple [.Name xi pi, .Name xv pv] x1 pt) (.ref e) B [] env) (denote table (.forLoop (.Tuple [.Name xi pi, .Name xv pv] x1 pt) (.ref e) B [] env)) [.ret k none false l c₀ p []] s (Ends prog w h₀ A (tk r i esc) [L, e, it] s) := by
  subst hL
  have W := WalksT.enumerateD (A := A.over (.forLoop (.Tuple [.Name xi pi, .Name xv pv] x1 pt) (.ref e) B [] env) [.ret k none false l c₀ p []]) (Draws.strAscii (prog := prog) (w := w) (A := (A.over (.forLoop (.Tuple [.Name xi pi, .Name xv pv] x1 pt) (.ref e) B [] env) [.ret k none false l c₀ p []]).in1) hh it x t) e hei (by simpa using hei) (by simp)
  have back : ∀ {ts : List (Nat × List Nat)} {s s' : Shared} {cc tt ff}, Kept [env.locals, e, it] s s' → SegX (model prog w) A cc tt ff s' (Ends prog w h₀ A ts [env.locals, e, it] s') → SegX (model prog w) A cc tt ff s' (Ends prog w h₀ A ts [env.locals, e, it] s) :=
    fun a h => SegX.mono h fun _ _ h => Ends.back a h fun b hb => .inl hb
  intro r
  induction r with
  | nil =>
    intro i esc s hr hi g
    have hsz : i = x.cps.size := by
      have := congrArg List.length hr
      simp at this; omega
    subst hsz
    refine sx_forLoop ?_
    refine W.done s _ _ ⟨g.enum, g.iter⟩ fun h' tk' hk => ?_
    have kp : Kept [env.locals, e, it] s { s with heap := h', toks := tk' } := ⟨h', tk', rfl, fun b o hb x => hk b o (fun hm => hb (List.mem_cons_of_mem _ hm)) x⟩
    refine back kp (sx_block fun H => sx_execs_nil (sx_pop (r := .ok .next) ?_))
    refine after _ esc _ ?_
    obtain ⟨m, u, hn, h1, h2⟩ := g.frame
    exact ⟨m, u, hn.at fun o x => hk _ o (by simp [Ne.symm heL, Ne.symm hiL]) x, h1, h2⟩
  | cons c r ih =>
    intro i esc s hr hi g
    have hlt : i < x.cps.size := by
      have := congrArg List.length hr
      simp at this; omega
    have hget : x.cps[i]? = some c := by
      have := congrArg (fun l => l[0]?) hr
      simpa using this
    have hr' : x.cps.toList.drop (i + 1) = r := by
      have := congrArg List.tail hr
      simpa using this
    refine sx_forLoop ?_
    refine W.item i s _ _ hlt ⟨g.enum, g.iter⟩ fun T vals h₁ tk₁ hP hT ht₁ hm₁ hk₁ => ?_
    obtain ⟨ti, v, ⟨c', uc, hc', rfl⟩, rfl⟩ := hP
    rw [hget] at hc'; cases hc'
    refine W.go _ _ _ i T _ _ _ hm₁ fun h₂ st₂ hk₂ => ?_
    have hTw : T ∉ [e, it] := W.apart i T _ hm₁
    have ht₂ : h₂.IsTuple T #[.int i ti, .str ⟨#[c]⟩ uc] := ht₁.at fun o x => hk₂ T o hTw x
    refine wpAny_assign_Tuple hh ht₂ rfl rfl fun h₃ hx₃ => ?_
    replace hx₃ : Heap.ExtBut h₂.objs.size h₂ h₃ := hx₃
    obtain ⟨m, u, hn, hme, hmi⟩ := g.frame
    have hLw : env.locals ∉ [e, it] := by simp [Ne.symm heL, Ne.symm hiL]
    have up₃ : ∀ b o, h₂.get? b = some o → h₃.get? b = some o := fun b o x => hx₃ b o (Nat.ne_of_lt (Heap.lt_size x)) x
    have hn₃ : h₃.Ns env.locals m := hn.at fun o x => up₃ _ o (hk₂ _ o hLw (hk₁ _ o hLw x))
    show wpAny _ _ (do holding [.str ⟨#[c]⟩ uc] (assign (.Name xi pi) env (.int i ti)); do holding [] (assign (.Name xv pv) env (.str ⟨#[c]⟩ uc)); pure ()) _ _ _
    refine wpAny_bind (wpAny_holding (wpAny_assign_Name (wpAny_storeName_local hxi hn₃ (fun h₄ hn₄ hs₄ => ?_) hp)))
    replace hs₄ : Heap.SameBut env.locals h₃ h₄ := hs₄
    refine wpAny_bind (wpAny_holding (wpAny_assign_Name (wpAny_storeName_local hxv hn₄ (fun h₅ hn₅ hs₅ => wpAny_pure ?_) hp)))
    replace hs₅ : Heap.SameBut env.locals h₄ h₅ := hs₅
    intro H
    have up₅ : ∀ b o, b ≠ env.locals → h₂.get? b = some o → h₅.get? b = some o := fun b o hb x => hs₅.extBut b o hb (hs₄.extBut b o hb (up₃ b o x))
    have kp : Kept [env.locals, e, it] s { s with heap := h₅, toks := tk₁ + 1 + 1 } := ⟨h₅, tk₁ + 1 + 1, rfl, fun b o hb x => by
      have hbw : b ∉ [e, it] := fun hm => hb (List.mem_cons_of_mem _ hm)
      exact up₅ b o (fun hq => hb (by simp [hq])) (hk₂ b o hbw (hk₁ b o hbw x))⟩
    refine back kp (turn i c esc r _ H _ ⟨?_, ?_, ?_⟩ fun esc' s'' g' => ?_)
    · obtain ⟨old, he⟩ := st₂.1
      exact ⟨old, up₅ e _ heL he⟩
    · obtain ⟨o, ho, rr⟩ := st₂.2
      exact ⟨o, up₅ it o hiL ho, rr⟩
    · refine ⟨_, ti, uc, hn₅, ?_, ?_, ?_⟩
      · simp [beq_eq_false_iff_ne.mp hne2, beq_eq_false_iff_ne.mp hne3, hme]
      · simp [beq_eq_false_iff_ne.mp hne1]
      · simp
    · exact s_again _ _ _ _ _ _ _ _ rfl (ih (i + 1) esc' s'' hr' hlt g')
end
end Mine
namespace Mine
section
variable {prog : Program} {w : World} {A : Around} {s : Shared} {K : Frag} {L : Addr} {h₀ : Heap} {m mg mb : Str → Option Value} {p : Program} {loose : List Str} {mean : ExcName → Option Value}
  {R : Result → Shared → Prop} {name qual : Str} {params : Arguments} {body : List Stmt} {scope : Scope} {dV kV doc pm cdv ct oc : Value} {an od : Option Addr} {osl : Array (Option Value)} {f : Addr} {args : Args} {binds : List (Str × Value)}
theorem codeG (F : Fr h₀ L s.heap m) (X₀ : K.In h₀) (T : Top p loose mean mg mb h₀)
    (ho : K.lookup f = some ⟨oc, od, .func (fnOf name qual params body scope dV kV doc pm an cdv ct), osl⟩) (hcd : codeIn K cdv qual = true) (hroom : A.depth < recursionLimit)
    (hbind : BindsTo s (fnOf name qual params body scope dV kV doc pm an cdv ct) args binds) (hloc : ∀ y ∈ binds, scope.names.lookup y.1 = some .local)
    (h : ∀ h' a tk, h'.IsGen a s.gens.size → s.heap.get? a = none → a ≠ s.heap.objs.size → h'.Ns s.heap.objs.size (fun y => binds.reverse.lookup y) → (∀ b o, s.heap.get? b = some o → h'.get? b = some o) →
      R (.ok (.ret (.ref a))) { s with heap := h', toks := tk, gens := s.gens.push (.fresh (.func body (envOf qual scope s.heap.objs.size f cdv))) })
    (hco : scope.isCoroutine = false) (hgen : scope.isGenerator = true) (hk : scope.kind = .function) (hcell : ∀ x ∈ scope.names, x.2 ≠ .cell) : codeAny (model prog w) A (.call (.ref f) args) R s := by
  refine codeAny_call_generator (fd := fnOf name qual params body scope dV kV doc pm an cdv ct) (body := body) hroom ((X₀.keeps F.keep) _ _ ho) rfl hco hgen rfl (codeRec_of (X₀.keeps F.keep) hcd) (hbind _ _ _ _ ?_)
  refine wpAny_newFunctionEnv hcell hloc (fun h₁ hns hsb => ?_) hk
  replace hsb : Heap.SameBut s.heap.objs.size _ h₁ := hsb
  have hz : h₁.objs.size = s.heap.objs.size + 1 := by rw [hsb.1]; exact Heap.size_push ..
  have kp : ∀ b o, s.heap.get? b = some o → h₁.get? b = some o := fun b o e => hsb.extBut b o (Nat.ne_of_lt (Heap.lt_size e)) (Heap.get?_push_of_some _ e)
  refine ⟨(T.nolimit.keeps F.keep).fresh _ hsb, ?_⟩
  refine h _ _ _ ⟨_, _, _, Heap.get?_push_size _ rfl, rfl, rfl, rfl⟩ ?_ ?_ ?_ ?_
  · show s.heap.get? h₁.objs.size = none
    exact Heap.get?_none_of_le (by rw [hz]; omega)
  · show h₁.objs.size ≠ _
    rw [hz]; omega
  · exact hns.keeps fun b o e => Heap.get?_push_of_some _ e
  · exact fun b o e => Heap.get?_push_of_some _ (kp b o e)
end
end Mine
namespace Mine
theorem GStV.at {L e it : Addr} {x : Str} {t : Tok} {xi xv xe : Str} {i c : Nat} {esc : Bool} {h h' : Heap} (g : GStV L e it x t xi xv xe i c esc h)
    (k : ∀ b ∈ [L, e, it], ∀ o, h.get? b = some o → h'.get? b = some o) : GStV L e it x t xi xv xe i c esc h' := by
  obtain ⟨⟨old, he⟩, ⟨o, ho, r⟩, ⟨m, u, u', hn, h1, h2, h3⟩⟩ := g
  exact ⟨⟨old, k _ (by simp) _ he⟩, ⟨o, k _ (by simp) _ ho, r⟩, ⟨m, u, u', hn.at fun o e => k _ (by simp) o e, h1, h2, h3⟩⟩
theorem GStV.done {L e it : Addr} {x : Str} {t : Tok} {xi xv xe : Str} {i c : Nat} {esc : Bool} {h : Heap} (g : GStV L e it x t xi xv xe i c esc h) : GSt L e it x t xi xe (i + 1) esc h := by
  obtain ⟨he, hi, ⟨m, u, u', hn, h1, h2, h3⟩⟩ := g
  exact ⟨he, hi, ⟨m, u, hn, h1, h2⟩⟩
theorem GStV.set {L e it : Addr} {x : Str} {t : Tok} {xi xv xe : Str} {i c : Nat} {esc b : Bool} {m : Str → Option Value} {u : Tok} {h h' : Heap} (g : GStV L e it x t xi xv xe i c esc h) (hm : m xi = some (.int (i : Int) u)) (hne : (xe == xi) = false)
    (hn : h'.Ns L (fun y => if y = xe then some (.bool b) else m y)) (hs : Heap.SameBut L h h') (h1 : e ≠ L) (h2 : it ≠ L) : GSt L e it x t xi xe (i + 1) b h' := by
  obtain ⟨⟨old, he⟩, ⟨o, ho, r⟩, _⟩ := g
  refine ⟨⟨old, hs.extBut _ _ h1 he⟩, ⟨o, hs.extBut _ _ h2 ho, r⟩, ⟨_, u, hn, by simp, ?_⟩⟩
  have : ¬ xi = xe := fun q => beq_eq_false_iff_ne.mp hne q.symm
  simp [this, hm]
theorem kept_push {fp : List Addr} {s : Shared} {o : Obj} {tk' : Nat} : Kept fp s { s with heap := s.heap.push o, toks := tk' } := ⟨_, _, rfl, fun b o' _ e => Heap.get?_push_of_some _ e⟩
theorem kept_set {fp : List Addr} {L : Addr} {s : Shared} {h' : Heap} {tk' : Nat} (hL : L ∈ fp) (hs : Heap.SameBut L s.heap h') : Kept fp s { s with heap := h', toks := tk' } := ⟨_, _, rfl, fun b o' hb e => hs.extBut b o' (fun q => hb (q ▸ hL)) e⟩
abbrev Gn (N M : Nat) (w : World) (loose : List Str) (mean : ExcName → Option Value) (mg mb : Str → Option Value) (f : Addr) (pre : Prop) (vs : List Value) (ts : List (Nat × List Nat)) : Prop :=
  ∀ (dp un : Nat) (gd : Option (List Code)) (cn : Str) (cs : Scope) (a : Addr) (ccd : Value) (cl : List (Str × Addr)) (outer : List Env) (A₀ : Around) (base h₀ : Heap) (L : Addr) (m : Str → Option Value) (s : Shared) (Q E : Value → Shared → Prop),
    Below A₀ base outer h₀ → Fr h₀ L s.heap m → (Mine.hd.heap_39 w.params).In h₀ → Top Mine.hd.view_39 loose mean mg mb h₀ → cs.kind = .function →
    pre → dp + N < recursionLimit → un + M < cLine →
    (∀ (h' : Heap) (a' L' : Addr) (gs : GenState) (tk' : Nat), h'.IsGen a' s.gens.size → s.heap.get? a' = none → s.heap.get? L' = none → a' ≠ L' → (∀ b o, s.heap.get? b = some o → h'.get? b = some o) → gs.bare = true →
      (∀ (A' : Around), A'.handled = none → Pend Challenge.rw_sw0030_01.row.prog w h₀ A' ts [L'] gs { s with heap := h', toks := tk', gens := s.gens.push gs }) →
      Q (.ref a') { s with heap := h', toks := tk', gens := s.gens.push gs }) →
      wpAny (model Challenge.rw_sw0030_01.row.prog w) (ktrTop dp un gd cn cs L a ccd cl outer) (call (.ref f) vs) Q E s
set_option maxRecDepth 100000 in
set_option maxHeartbeats 8000000 in
theorem esc_c (w : World) (mean mg mb) (x : Str) (t : Tok) : Gn 2 20 w (looseW Mine.hd.view_39 []) mean mg mb 42 (x.cps.all (· < 128) = true) [.str x t] (tk x.cps.toList 0 false) := by
  unfold Gn
  k_fill
  intros
  rename_i h₀ _ _ s _ _ hB hF hX hT hk hpre _ _ hret
  refine wpAny_call ?_
  k_dflt (refine' codeG ?k2 ?k3 ?k5 ?k6 ?k7 ?k8 ?k9 ?kB ?_ ?c2 ?c3 ?c4 ?c5; (case k2 => k_asm); (case k3 => k_asm); (case k5 => k_asm); (case k6 => k_is); (case k7 => k_is); (case k8 => ktr_room); (case k9 => exact BindsTo.of_eq rfl); (case c5 => decide); (case kB => exact locs rfl); (case c2 => exact rfl); (case c3 => exact rfl); (case c4 => exact rfl); k_whole)
  intro h' a' tk' hg hn hne hns hkp
  refine hret h' a' _ _ tk' hg hn (Heap.get?_none_of_le (Nat.le_refl _)) hne hkp rfl fun A' hA => ?_
  unfold Pend
  intro s'' al
  refine rdy_of (sx_func fun H => ?_)
  have ns := hns.at (h' := s''.heap) fun o e => al _ (.inl (by simp)) o e
  have hbase : ∀ b o, h₀.get? b = some o → s''.heap.get? b = some o := fun b o e => al b (.inr ⟨o, e⟩) o (hkp b o (hF.keep b o e))
  have habove : h₀.objs.size ≤ s.heap.objs.size := Nat.le_trans hF.above (Nat.le_of_lt hF.ns.lt)
  clear al hns hg hn hne hkp hret
  generalize s.heap.objs.size = L' at ns habove ⊢
  refine sx_execs_cons (sx_plain (wpAny_Assign_Name (wpAny_Constant_int (wpAny_storeName_local rfl ns (fun h1 n1 b1 => ?_)))))
  replace b1 : Heap.SameBut L' s''.heap h1 := b1
  refine sx_execs_cons (sx_plain (wpAny_Assign_Name (wpAny_Constant_bool (wpAny_storeName_local rfl n1 (fun h2 n2 b2 => ?_)))))
  replace b2 : Heap.SameBut L' h1 h2 := b2
  have hL'x : ∀ b o, h₀.get? b = some o → b ≠ L' := fun b o e => Nat.ne_of_lt (Nat.lt_of_lt_of_le (Heap.lt_size e) habove)
  have F2 : Fr h₀ L' h2 _ := ⟨n2, fun b o e => b2.extBut b o (hL'x b o e) (b1.extBut b o (hL'x b o e) (hbase b o e)), habove⟩
  refine sx_execs_cons (sx_For rfl ?_ (fun _ => rfl))
  refine wpAny_Call_NameR (ld_builtin_at F2 hT.g (mg_none_of hX hT.g (by k_is)) hT.b ((hT.builtins _ (by decide)).trans (by rfl)) ?_)
  refine callWith_type1 (spliced_more (wpAny_Name (wpAny_loadName_local rfl rfl n2 (by rfl) (spliced_none ?_))))
  refine call_enumerate_str fun h3 he hit hsz hk3 => ?_
  refine wpAny_pyIter_enum he ?_
  intro k l p hkk
  replace hit : h3.IsStrIter h2.objs.size "str_ascii_iterator" x t 0 := by simpa [strIterType, hpre] using hit
  have hz2 : s''.heap.objs.size = h2.objs.size := by rw [b2.1, b1.1]
  have hLlt : L' < h2.objs.size := n2.lt
  have kp : Kept [L'] s'' { s'' with heap := h3, toks := s''.toks + 1 + 1 + 1 } := ⟨h3, _, rfl, fun b o hb e => hk3 b o (b2.extBut b o (by simpa using hb) (b1.extBut b o (by simpa using hb) e))⟩
  have kp2 : ∀ tk', Kept [L'] s'' { s'' with heap := h3, toks := tk' } := fun tk' => ⟨h3, _, rfl, fun b o hb e => hk3 b o (b2.extBut b o (by simpa using hb) (b1.extBut b o (by simpa using hb) e))⟩
  have frL : ∀ b ∈ [L', h2.objs.size + 1, h2.objs.size], b ∈ [L'] ∨ s''.heap.get? b = none := fun b hb => by
    simp only [List.mem_cons, List.not_mem_nil, or_false] at hb ⊢
    rcases hb with rfl | rfl | rfl
    · exact .inl rfl
    · exact .inr (Heap.get?_none_of_le (by rw [hz2]; omega))
    · exact .inr (Heap.get?_none_of_le (by rw [hz2]; omega))
  refine SegX.mono (gen_loop (L := L') (e := h2.objs.size + 1) (it := h2.objs.size) (x := x) (t := t) (xe := "escape") rfl hA rfl rfl rfl rfl rfl rfl (Nat.succ_ne_self _) (Nat.ne_of_gt (Nat.lt_succ_of_lt hLlt)) (Nat.ne_of_gt hLlt) ?turn ?after x.cps.toList 0 false _ (by simp) (by omega) ⟨⟨_, he⟩, hit, ?fr⟩) (fun _ _ h => Ends.back (kp2 _) h frL)
  case fr =>
    exact ⟨_, _, n2.keeps hk3, rfl, rfl⟩
  case turn =>
    intro i c esc r s1 H K1 g next
    obtain ⟨m, u, u', hn, hme, hmi, hmv⟩ := id g.frame
    refine sx_execs_cons (sx_If (isTrue_plain (wpAny_Name (wpAny_loadName_local rfl rfl hn hme (wpAny_truthy_bool ?_)))))
    cases esc with
    | true =>
      rw [if_pos rfl]
      refine sx_execs_cons (sx_yield_pair rfl rfl rfl rfl rfl (wpAny_Name (wpAny_loadName_local rfl rfl hn hmi (wpAny_BinOp (wpAny_Constant_str (wpAny_Name (wpAny_loadName_local rfl rfl hn hmv (PyProof.Rows.add_str (fun t' k' => ?_) ?_))))))) rfl rfl)
      · intro p l2 k2 hk2
        refine ends_tok (ts := tk r (i + 1) false) (fp' := [L', h2.objs.size + 1, h2.objs.size]) rfl ⟨_, _, _, rfl, _, Heap.get?_push_size _ rfl, rfl, _, rfl⟩ kept_push (fun b hb => .inl hb) fun s2 al => ?_
        have g2 := g.at (h' := s2.heap) fun b hb o e => al b (.inl hb) o (Heap.get?_push_of_some _ e)
        obtain ⟨m2, u2, u2', hn2, hme2, hmi2, hmv2⟩ := id g2.frame
        refine hk2 _ _ ?_
        refine sx_execs_cons (sx_plain (wpAny_Assign_Name (wpAny_Constant_bool (wpAny_storeName_local rfl hn2 (fun h4 n4 b4 => ?_)))))
        replace b4 : Heap.SameBut L' s2.heap h4 := b4
        refine sx_execs_nil (sx_execs_nil ?_)
        exact SegX.mono (next false _ (g2.set hmi2 rfl n4 b4 (Nat.ne_of_gt (Nat.lt_succ_of_lt hLlt)) (Nat.ne_of_gt hLlt))) (fun _ _ h => Ends.back (kept_set (by simp) b4) h (fun b hb => .inl hb))
      · show 1 + 1 ≤ sizeLine
        decide
    | false =>
      rw [if_neg Bool.false_ne_true]
      refine sx_execs_cons (sx_If (wpAny_isTrue_Compare1 (wpAny_Name (wpAny_loadName_local rfl rfl hn hmv (wpAny_Constant_str (PySem.P.eq_str (wpAny_truthy_bool ?_)))))))
      by_cases hc : c = 92
      · subst hc
        rw [if_pos (by decide)]
        refine sx_execs_cons (sx_plain (wpAny_Assign_Name (wpAny_Constant_bool (wpAny_storeName_local rfl hn (fun h4 n4 b4 => ?_)))))
        replace b4 : Heap.SameBut L' s1.heap h4 := b4
        refine sx_execs_nil (sx_execs_nil (sx_execs_nil ?_))
        exact SegX.mono (next true _ (g.set hmi rfl n4 b4 (Nat.ne_of_gt (Nat.lt_succ_of_lt hLlt)) (Nat.ne_of_gt hLlt))) (fun _ _ h => Ends.back (kept_set (by simp) b4) h (fun b hb => .inl hb))
      · rw [if_neg (by rw [show (Str.ofString "\\").cps.toList = [92] by rfl]; simp; exact hc)]
        refine sx_execs_cons (sx_yield_pair rfl rfl rfl rfl rfl (wpAny_Name (wpAny_loadName_local rfl rfl hn hmi (wpAny_Name (wpAny_loadName_local rfl rfl hn hmv ?_)))) rfl rfl)
        intro p l2 k2 hk2
        rw [show tk (c :: r) i false = (i, [c]) :: tk r (i + 1) false by simp [tk, hc]]
        refine ends_tok (ts := tk r (i + 1) false) (fp' := [L', h2.objs.size + 1, h2.objs.size]) rfl ⟨_, _, _, rfl, _, Heap.get?_push_size _ rfl, rfl, _, rfl⟩ kept_push (fun b hb => .inl hb) fun s2 al => ?_
        have g2 := g.at (h' := s2.heap) fun b hb o e => al b (.inl hb) o (Heap.get?_push_of_some _ e)
        refine hk2 _ _ (sx_execs_nil (sx_execs_nil (sx_execs_nil ?_)))
        exact next false _ g2.done
  case after =>
    intro i esc s1 g
    rw [hkk]
    obtain ⟨m, u, hn, hme, hmi⟩ := g
    refine sx_execs_cons (sx_If (isTrue_plain (wpAny_Name (wpAny_loadName_local rfl rfl hn hme (wpAny_truthy_bool ?_)))))
    cases esc with
    | true =>
      rw [if_pos rfl]
      refine sx_execs_cons (sx_yield_pair rfl rfl rfl rfl rfl (wpAny_Name (wpAny_loadName_local rfl rfl hn hmi (wpAny_Constant_str ?_))) rfl rfl)
      intro p l2 k2 hk2
      refine ends_tok (ts := []) (fp' := [L', h2.objs.size + 1, h2.objs.size]) rfl ⟨_, _, _, rfl, _, Heap.get?_push_size _ rfl, rfl, _, rfl⟩ kept_push (fun b hb => .inl hb) fun s2 al => ?_
      refine hk2 _ _ (sx_execs_nil (sx_execs_nil ?_))
      refine sx_end (r := .ok (.ret .none)) ?_
      exact Or.inr ⟨rfl, rfl, Kept.refl⟩
    | false =>
      rw [if_neg Bool.false_ne_true]
      refine sx_execs_nil (sx_execs_nil ?_)
      refine sx_end (r := .ok (.ret .none)) ?_
      exact Or.inr ⟨rfl, rfl, Kept.refl⟩
end Mine
namespace Mine
abbrev GenPost (L : Addr) (W : List Addr) (R : Result → Shared → Prop) (J : Heap → (Str → Option Value) → Prop) (s₁ : Shared) (f : Flow) (s₂ : Shared) : Prop :=
  (f = .next ∧ ∃ h tk m₂, s₂ = { s₁ with heap := h, toks := tk } ∧ (∀ b o, b ∉ L :: W → s₁.heap.get? b = some o → h.get? b = some o) ∧ h.Ns L m₂ ∧ J h m₂ ∧ (∀ b ∈ W, ∃ o, h.get? b = some o)) ∨ (∃ v, f = .ret v ∧ R (.ok (.ret v)) s₂)
noncomputable def Far (g : Nat) (X : List Addr) (s s' : Shared) : Prop := ∃ h tk gs, s' = { s with heap := h, toks := tk, gens := s.gens.setIfInBounds g gs } ∧ gs.bare = true ∧ ∀ b o, b ∉ X → s.heap.get? b = some o → h.get? b = some o
section
variable {prog : Program} {w : World} {A : Around} {h₀ : Heap} {s : Shared} {env : Env} {E : Value → Shared → Prop}
theorem go_gen {elts : List PySem.Expr} {x1 : Nat} {pos : Pos} {a T : Addr} {g : Nat} {Q : Unit → Shared → Prop} (hg : s.heap.IsGen a g) (hQ : Q () s) :
    wpAny (model prog w) A (letOwnedTupleGo (.Tuple elts x1 pos) (.ref a) (.ref T)) Q E s := by
  obtain ⟨o, nm, qn, ho, hc, hd, hs⟩ := hg
  unfold letOwnedTupleGo
  refine wpAny_bind (wpAny_load ho ?_)
  rw [hc, hd]
  exact wpAny_pure hQ
structure LoopSt (prog : Program) (w : World) (h₀ : Heap) (A : Around) (a L : Addr) (g : Nat) (W X : List Addr) (J : List (Nat × List Nat) → Heap → (Str → Option Value) → Prop) (s : Shared) (ts : List (Nat × List Nat)) (s' : Shared) : Prop where
  far : ∃ h tk gs fp, s' = { s with heap := h, toks := tk, gens := s.gens.setIfInBounds g gs } ∧ gs.bare = true ∧ (∀ b o, b ∉ X → s.heap.get? b = some o → h.get? b = some o) ∧ Pend prog w h₀ A ts fp gs s' ∧ (∀ b ∈ fp, b ∉ a :: L :: W) ∧ (∀ b ∈ fp, b ∈ X ∨ s.heap.get? b = none)
  gen : s'.heap.IsGen a g
  ns : ∃ m, s'.heap.Ns L m ∧ J ts s'.heap m
  base : ∀ b o, h₀.get? b = some o → s'.heap.get? b = some o
  live : ∀ b ∈ W, ∃ o, s'.heap.get? b = some o
theorem forloop_gen {R : Result → Shared → Prop} {xi xv : Str} {pi pv pt : Pos} {x1 : Nat} {body : List Stmt} {a : Addr} {g : Nat} {W X : List Addr} {J : List (Nat × List Nat) → Heap → (Str → Option Value) → Prop} {ts : List (Nat × List Nat)}
    (hh : A.handled = none) (hroom : A.depth < recursionLimit) (hl : h₀.NoLimit) (hxi : env.kindOf xi = some .local) (hxv : env.kindOf xv = some .local)
    (hp : (env.scope.kind == .class || (env.scope.kind == .module && env.locals != env.globals)) = false)
    (hgs : g < s.gens.size) (hX : ∀ b ∈ env.locals :: W, b ∈ X) (haX : a ∉ env.locals :: W) (hX0 : ∀ b ∈ X, h₀.get? b = none) (haX0 : h₀.get? a = none) (haX2 : a ∉ X)
    (hJf : ∀ ts h h' m, J ts h m → (∀ b ∈ W, ∀ o, h.get? b = some o → h'.get? b = some o) → J ts h' m) (hLW : env.locals ∉ W)
    (step : ∀ tok ts m ti tu s₁, J (tok :: ts) s₁.heap m → s₁.heap.Ns env.locals (fun y => if y = xv then some (.str ⟨tok.2.toArray⟩ tu) else if y = xi then some (.int (tok.1 : Int) ti) else m y) →
      (∀ b o, h₀.get? b = some o → s₁.heap.get? b = some o) → (∀ b ∈ W, ∃ o, s₁.heap.get? b = some o) → Far g X s s₁ →
      wpAny (model prog w) A (execs body env) (GenPost env.locals W R (J ts) s₁) (fun _ _ => False) s₁)
    (hEnd : ∀ s' m', Far g X s s' → s'.heap.Ns env.locals m' → J [] s'.heap m' → R (.ok .next) s')
    (h0 : LoopSt prog w h₀ A.in1 a env.locals g W X J s ts s) :
    codeAny (model prog w) A (.forLoop (.Tuple [.Name xi pi, .Name xv pv] x1 pt) (.ref a) body [] env) R s := by
  refine codeAny_forLoop_any (fun n s' => ∃ ts', n = ts'.length ∧ LoopSt prog w h₀ A.in1 a env.locals g W X J s ts' s') ?_ ts.length ⟨ts, rfl, h0⟩
  rintro n s' ⟨ts', rfl, ⟨h, tk, gs, fp, rfl, hb, hk, hP, hfa, hfX⟩, hgen, ⟨m, hn, hJ⟩, hbase, hlive⟩
  have hgs' : ({ s with heap := h, toks := tk, gens := s.gens.setIfInBounds g gs } : Shared).gens[g]? = some gs := by simp [hgs]
  have ees : ∀ y, (s.gens.setIfInBounds g gs).setIfInBounds g y = s.gens.setIfInBounds g y := fun y => set_set _ _ _ _
  refine gen_next hh (hl.keeps hbase) hroom hgen hgs' hP ?_
  cases ts' with
  | nil =>
    intro h' tk' hk'
    refine wpAny_execs_nil ?_
    have hz : ∀ b o, b ∉ X → s.heap.get? b = some o → h'.get? b = some o := fun b o hb e => hk' b o (fun hm => by
      rcases hfX b hm with q | q
      · exact hb q
      · rw [q] at e; cases e) (hk b o hb e)
    refine hEnd _ m ⟨h', tk', .finished, by simp [ees], rfl, hz⟩ (hn.at fun o e => hk' _ o (fun hm => hfa _ hm (by simp)) e) (hJf _ _ _ _ hJ fun b hb o e => hk' b o (fun hm => hfa _ hm (by simp [hb])) e)
  | cons tok ts' =>
    intro v h₁ tk₁ gs₁ fp₁ hv hk₁ hfp₁ hb₁ hP₁
    obtain ⟨T, ti, tu, rfl, hT⟩ := hv
    replace hfp₁ : ∀ b ∈ fp₁, b ∈ fp ∨ h.get? b = none := hfp₁
    replace hn : h.Ns env.locals m := hn
    replace hgen : h.IsGen a g := hgen
    replace hlive : ∀ b ∈ W, ∃ o, h.get? b = some o := hlive
    replace hbase : ∀ b o, h₀.get? b = some o → h.get? b = some o := hbase
    replace hk₁ : ∀ b o, b ∉ fp → h.get? b = some o → h₁.get? b = some o := hk₁
    simp only [ees] at hP₁ ⊢
    have hfa₁ : ∀ b ∈ fp₁, b ∉ a :: env.locals :: W := fun b hb hm => by
      rcases hfp₁ b hb with q | q
      · exact hfa b q hm
      · rcases List.mem_cons.mp hm with e | hm
        · obtain ⟨o, _, _, ho, _⟩ := hgen; rw [e, ho] at q; cases q
        · rcases List.mem_cons.mp hm with e | hm
          · obtain ⟨_, _, _, ho, _⟩ := hn; rw [e, ho] at q; cases q
          · obtain ⟨o, ho⟩ := hlive b hm; rw [ho] at q; cases q
    have hfX₁ : ∀ b ∈ fp₁, b ∈ X ∨ s.heap.get? b = none := fun b hb => by
      rcases hfp₁ b hb with q | q
      · exact hfX b q
      · by_cases hx : b ∈ X
        · exact .inl hx
        · refine .inr ?_
          cases e : s.heap.get? b with
          | none => rfl
          | some o => rw [hk b o hx e] at q; cases q
    have gen₁ : h₁.IsGen a g := by
      obtain ⟨o, nm, qn, ho, r⟩ := hgen
      exact ⟨o, nm, qn, hk₁ a o (fun hm => hfa a hm (by simp)) ho, r⟩
    have n₁ : h₁.Ns env.locals m := hn.at fun o e => hk₁ _ o (fun hm => hfa _ hm (by simp)) e
    refine go_gen gen₁ ?_
    refine wpAny_assign_Tuple hh hT rfl rfl fun h₂ hx₂ => ?_
    replace hx₂ : Heap.ExtBut h₁.objs.size h₁ h₂ := hx₂
    have up₂ : ∀ b o, h₁.get? b = some o → h₂.get? b = some o := fun b o x => hx₂ b o (Nat.ne_of_lt (Heap.lt_size x)) x
    have n₂ : h₂.Ns env.locals m := n₁.at fun o x => up₂ _ o x
    show wpAny _ _ (do holding [.str ⟨tok.2.toArray⟩ tu] (assign (.Name xi pi) env (.int (tok.1 : Int) ti)); do holding [] (assign (.Name xv pv) env (.str ⟨tok.2.toArray⟩ tu)); pure ()) _ _ _
    refine wpAny_bind (wpAny_holding (wpAny_assign_Name (wpAny_storeName_local hxi n₂ (fun h₃ n₃ b₃ => ?_) hp)))
    replace b₃ : Heap.SameBut env.locals h₂ h₃ := b₃
    refine wpAny_bind (wpAny_holding (wpAny_assign_Name (wpAny_storeName_local hxv n₃ (fun h₄ n₄ b₄ => wpAny_pure ?_) hp)))
    replace b₄ : Heap.SameBut env.locals h₃ h₄ := b₄
    have up₄ : ∀ b o, b ≠ env.locals → h₁.get? b = some o → h₄.get? b = some o := fun b o hb x => b₄.extBut b o hb (b₃.extBut b o hb (up₂ b o x))
    have ne₀ : ∀ b o, h₀.get? b = some o → b ∉ a :: env.locals :: W := fun b o e hm => by
      rcases List.mem_cons.mp hm with q | hm
      · rw [← q, e] at haX0; cases haX0
      · have := hX0 b (hX b hm); rw [e] at this; cases this
    have nfp : ∀ b, b ∈ fp → b ∉ a :: env.locals :: W := hfa
    have n0fp : ∀ b o, h₀.get? b = some o → b ∉ fp := fun b o e hm => by
      rcases hfX b hm with q | q
      · have := hX0 b q; rw [e] at this; cases this
      · rw [h0.base b o e] at q; cases q
    have base₄ : ∀ b o, h₀.get? b = some o → h₄.get? b = some o := fun b o e =>
      up₄ b o (fun q => ne₀ b o e (by simp [q])) (hk₁ b o (n0fp b o e) (hbase b o e))
    have w₄ : ∀ b ∈ W, ∀ o, h.get? b = some o → h₄.get? b = some o := fun b hb o e =>
      up₄ b o (fun q => hLW (q ▸ hb)) (hk₁ b o (fun hm => hfa b hm (by simp [hb])) e)
    have keepX : ∀ b o, b ∉ X → s.heap.get? b = some o → h₄.get? b = some o := fun b o hb e =>
      up₄ b o (fun q => hb (q ▸ hX _ (by simp))) (hk₁ b o (fun hm => by
        rcases hfX b hm with q | q
        · exact hb q
        · rw [q] at e; cases e) (hk b o hb e))
    refine wpAny_mono (step tok ts' m ti tu _ (hJf _ _ _ _ hJ w₄) n₄ base₄ (fun b hb => let ⟨o, ho⟩ := hlive b hb; ⟨o, w₄ b hb o ho⟩) ⟨h₄, _, gs₁, rfl, hb₁, keepX⟩) (fun f s₂ hf => ?_) (fun _ _ x => x.elim)
    rcases hf with ⟨rfl, h₅, tk₅, m₅, rfl, hk₅, n₅, J₅, live₅⟩ | ⟨v, rfl, hR⟩
    · replace hk₅ : ∀ b o, b ∉ env.locals :: W → h₄.get? b = some o → h₅.get? b = some o := hk₅
      have up₅ : ∀ b o, b ∉ env.locals :: W → h₁.get? b = some o → h₅.get? b = some o := fun b o hb x => hk₅ b o hb (up₄ b o (fun q => hb (by simp [q])) x)
      refine ⟨ts'.length, Nat.lt_succ_self _, ts', rfl, ⟨h₅, tk₅, gs₁, fp₁, rfl, hb₁, ?_, ?_, hfa₁, hfX₁⟩, ?_, ⟨m₅, n₅, J₅⟩, ?_, live₅⟩
      · exact fun b o hb e => hk₅ b o (fun hm => hb (hX b hm)) (keepX b o hb e)
      · refine hP₁.alike fun b hb o e => ?_
        replace e : h₁.get? b = some o := e
        show h₅.get? b = some o
        refine up₅ b o (fun hm => ?_) e
        rcases hb with hb | ⟨o', ho'⟩
        · exact hfa₁ b hb (List.mem_cons_of_mem _ hm)
        · exact ne₀ b o' ho' (List.mem_cons_of_mem _ hm)
      · obtain ⟨o, nm, qn, ho, r⟩ := gen₁
        exact ⟨o, nm, qn, up₅ a o haX ho, r⟩
      · exact fun b o e => hk₅ b o (fun hm => ne₀ b o e (List.mem_cons_of_mem _ hm)) (base₄ b o e)
    · exact hR
end
end Mine
namespace Mine
theorem tk_len : ∀ (l : List Nat) (i : Nat) (b : Bool), (tk l i b).length ≤ l.length + (if b then 1 else 0)
  | [], _, true => by simp [tk]
  | [], _, false => by simp [tk]
  | c :: r, i, true => by have := tk_len r (i + 1) false; simp [tk] at *; omega
  | c :: r, i, false => by
    have h1 := tk_len r (i + 1) false
    have h2 := tk_len r (i + 1) true
    by_cases h : c = 92 <;> simp [tk, h] at * <;> omega
noncomputable def stripGo (x : Str) : List (Nat × List Nat) → Nat → Option Nat → List Str → Nat × List Str
  | [], st, _, res => (st, res)
  | (p, c) :: ts, st, op, res => if c = [34] then (match op with
      | none => stripGo x ts st (some p) res
      | some o => stripGo x ts (p + 1) none (if st = o then res else res ++ [Txt.slice x (some (st : Int)) (some (o : Int))]))
    else stripGo x ts st op res
noncomputable def strip (x : Str) : Str := if (Builtin.Str.occurrences x (Str.ofString "\"") 0 x.length 1).isEmpty = true then x else
  let r := stripGo x (tk x.cps.toList 0 false) 0 none []
  Txt.join (Str.ofString "") (if (r.1 : Int) < (x.length : Int) then r.2 ++ [Txt.slice x (some (r.1 : Int)) none] else r.2)
abbrev Cg (N M : Nat) (w : World) (loose : List Str) (mean : ExcName → Option Value) (mg mb : Str → Option Value) (f : Addr) (pre : Prop) (vs : List Value) (R : Tok → Value) : Prop :=
  ∀ (dp un : Nat) (gd : Option (List Code)) (cn : Str) (cs : Scope) (a : Addr) (ccd : Value) (cl : List (Str × Addr)) (outer : List Env) (A₀ : Around) (base h₀ : Heap) (L : Addr) (m : Str → Option Value) (s : Shared) (Q E : Value → Shared → Prop),
    Below A₀ base outer h₀ → Fr h₀ L s.heap m → (Mine.hd.heap_39 w.params).In h₀ → Top Mine.hd.view_39 loose mean mg mb h₀ → cs.kind = .function →
    pre → dp + N < recursionLimit → un + M < cLine →
    (∀ (t : Tok) (h' : Heap) (tk' : Nat) (gens' : Array GenState), (∀ b o, s.heap.get? b = some o → h'.get? b = some o) → (AllBare s.gens → AllBare gens') → Q (R t) { s with heap := h', toks := tk', gens := gens' }) →
      wpAny (model Challenge.rw_sw0030_01.row.prog w) (ktrTop dp un gd cn cs L a ccd cl outer) (call (.ref f) vs) Q E s
theorem push_set {α : Type} (a : Array α) (x : α) : (a.push x).setIfInBounds a.size x = a.push x := by
  apply Array.ext'
  simp
theorem wsum {x : Str} {res : List Str} (h : ∀ y ∈ res, y.length ≤ x.length) (hx : x.length ≤ 200) (hr : res.length ≤ 300) : (res.map (·.length)).sum + res.length ≤ 1048576 := by
  have : (res.map (·.length)).sum ≤ res.length * 200 := by
    clear hr
    induction res with
    | nil => simp
    | cons y ys ih =>
      have h1 := h y (List.Mem.head _)
      have h2 := ih fun z hz => h z (List.Mem.tail _ hz)
      simp only [List.map_cons, List.sum_cons, List.length_cons]
      omega
  omega
theorem bare_set {a : Array GenState} {x y : GenState} (h : AllBare a) (hy : y.bare = true) : AllBare ((a.push x).setIfInBounds a.size y) := by
  have e : (a.push x).setIfInBounds a.size y = a.push y := by
    apply Array.ext'
    simp
  rw [e]; exact h.push hy
theorem far_start {s : Shared} {h : Heap} {tk' : Nat} {gs : GenState} : ({ s with heap := h, toks := tk', gens := s.gens.push gs } : Shared) = { s with heap := h, toks := tk', gens := (s.gens.push gs).setIfInBounds s.gens.size gs } := by
  rw [push_set]
theorem ledger_all (h₀ h : Heap) (X : List Addr) : ∃ rest : List (Addr × Obj), (∀ p ∈ rest, h.get? p.1 = some p.2 ∧ p.1 ∉ X ∧ h₀.get? p.1 = none) ∧ (∀ b o, b ∉ X → h₀.get? b = none → h.get? b = some o → (b, o) ∈ rest) := by
  refine ⟨(List.range h.objs.size).filterMap fun b => if b ∈ X ∨ (h₀.get? b).isSome = true then none else (h.get? b).map fun o => (b, o), ?_, ?_⟩
  · intro p hp
    obtain ⟨b, -, hb⟩ := List.mem_filterMap.mp hp
    split at hb
    · cases hb
    · rename_i hn
      obtain ⟨o, ho, rfl⟩ := Option.map_eq_some_iff.mp hb
      refine ⟨ho, fun h => hn (.inl h), ?_⟩
      cases e : h₀.get? b with
      | none => rfl
      | some o' => exact absurd (.inr (by rw [e]; rfl)) hn
  · intro b o hX hn ho
    refine List.mem_filterMap.mpr ⟨b, List.mem_range.mpr (Heap.lt_size ho), ?_⟩
    rw [if_neg (by rw [hn]; rintro (h | h); exact hX h; cases h), ho]; rfl
theorem keep_rest {h₀ h h' : Heap} {L : Addr} {m : Str → Option Value} {X : List Addr} {l rest : List (Addr × Obj)} (base : ∀ b o, h₀.get? b = some o → h.get? b = some o)
    (cov : ∀ b o, b ∉ X → h₀.get? b = none → h.get? b = some o → (b, o) ∈ rest) (F : Fr h₀ L h' m) (N : News h₀ L h' (l ++ rest)) : ∀ b o, b ∉ X → h.get? b = some o → h'.get? b = some o := by
  intro b o hX e
  cases e0 : h₀.get? b with
  | none => exact (N (b, o) (List.mem_append_right _ (cov b o hX e0 e))).1
  | some o' => have := base b o' e0; rw [e] at this; cases this; exact F.keep b o e0
theorem q_eq {c : List Nat} {k : Nat} {y : Str} (e : y = ⟨#[k]⟩) (h : ((⟨c.toArray⟩ : Str) == y) = true) : c = [k] := by
  rw [e] at h
  have := eq_of_beq h
  injection this with e'
  have := congrArg Array.toList e'
  simpa using this
theorem For_g {prog : Program} {w : World} {A : Around} {s : Shared} {env : Env} {E : Value → Shared → Prop} {Q : Flow → Shared → Prop} {target iter : PySem.Expr} {body : List Stmt} {pos : Pos}
    (h : wpAny (model prog w) A (eval iter env) (fun v s₁ => ∃ a g, v = .ref a ∧ s₁.heap.IsGen a g ∧ codeAny (model prog w) A (.forLoop target (.ref a) body [] env) (fun r s' => match r with | .ok f => Q f s' | .error e => cameBackBy (model prog w) A env E e s') s₁) E s)
    (hs : ∀ x, foldedSetIterable iter env x = pure x) : wpAny (model prog w) A (exec (.For target iter body [] pos) env) Q E s :=
  wpAny_For (wpAny_mono h (fun v s₁ ⟨a, g, e, hg, hc⟩ => by subst e; exact wpAny_pyIter_gen hg hc) fun _ _ x => x) hs
abbrev JS (x : Str) (t : Tok) (l1 : Addr) (ts : List (Nat × List Nat)) (h : Heap) (m : Str → Option Value) : Prop :=
  ∃ (st : Nat) (op : Option Nat) (res : List Str) (u1 : Tok) (items : Array Value) (n : Nat), m "addr" = some (.str x t) ∧ m "start" = some (.int (st : Int) u1) ∧ m "result" = some (.ref l1) ∧
      (match op with | none => m "open_pos" = some .none | some o => ∃ u2, m "open_pos" = some (.int ((o : Nat) : Int) u2)) ∧ h.get? l1 = some (W.listOf items n) ∧ StrsAre items.toList res ∧ stripGo x ts st op res = stripGo x (Mine.tk x.cps.toList 0 false) 0 none [] ∧ res.length + ts.length ≤ 201 ∧ (∀ y ∈ res, y.length ≤ x.length)
set_option maxRecDepth 100000 in
set_option maxHeartbeats 8000000 in
theorem strip_c (w : World) (mean mg mb) (x : Str) (t : Tok) : Cg 4 40 w (looseW Mine.hd.view_39 []) mean mg mb 49 (x.cps.all (· < 128) = true ∧ x.length ≤ 200) [.str x t] (fun u => .str (strip x) u) := by
  unfold Cg
  k_fill
  intros
  rename_i h₀ _ _ s _ _ hB hF hX hT hk hpre _ _ hret
  obtain ⟨hpre, hlen⟩ := hpre
  refine wpAny_call ?_
  k_dflt (refine' codeP ?k1 ?k2 ?k3 ?k5 ?kA ?kF ?kK ?k6 ?k7 ?k8 ?k9 ?kB ?_ ?c2 ?c3 ?c4 ?c5; (case kA => exact rfl); (case kF => exact rfl); (case kK => assumption); (case k1 => k_asm); (case k2 => k_asm); (case k3 => k_asm); (case k5 => k_asm); (case k6 => k_is); (case k7 => k_is); (case k8 => ktr_room); (case k9 => exact BindsTo.of_eq rfl); (case c5 => decide); (case kB => exact locs rfl); (case c2 => exact rfl); (case c3 => exact rfl); (case c4 => exact rfl); k_whole; intro h' F' N' B' X' T'; (try dsimp only); (try k_fold))
  repeat' (first
    | (k_unfold; (try dsimp only))
    | (k_end; wrow_close)
    | ((with_reducible show wpAny _ _ (call (Value.builtin "len") _) _ _ _); (k_here; (with_reducible show wpAny _ _ (call (Value.builtin "len") [Value.str _ _]) _ _ _); k_dflt (refine PyProof.Rows.len_str (by omega) ?_)))
    | walk1
    | (dsimp only; walk1)
    | (leave1; walk_say "STEP leave1"; try dsimp only)
    | fail "no step")
  · rename_i hocc
    have e : strip x = x := by unfold strip; rw [if_pos hocc]
    rw [e] at hret
    exact hret t _ _ _ (Fr.keep (by assumption)) (fun h => h)
  · refine For_g ?_ (fun _ => rfl)
    repeat' (first
      | (k_unfold; (try dsimp only))
      | (k_end; wrow_close)
      | ((with_reducible show wpAny _ _ (call (Value.builtin "len") _) _ _ _); (k_here; (with_reducible show wpAny _ _ (call (Value.builtin "len") [Value.str _ _]) _ _ _); k_dflt (refine PyProof.Rows.len_str (by omega) ?_)))
      | walk1
      | (dsimp only; walk1)
      | (leave1; walk_say "STEP leave1"; try dsimp only)
      | fail "no step")
    k_dflt (refine esc_c _ _ _ _ _ _ _ _ _ _ _ _ _ _ _ _ _ _ _ _ _ _ _ (by k_asm) (by k_asm) (by k_asm) (by k_asm) (by exact rfl) (by assumption) (by ktr_room) (by ktr_units) ?_)
    intro h1 a1 L1 gs1 tk1 hg1 hn1 hL1 hne1 hk1 hb1 hp1
    refine ⟨a1, _, rfl, hg1, ?_⟩
    rename_i l1 _ _ _ F1 N1
    rename (Builtin.Str.occurrences _ _ _ _ _).isEmpty = false => hocc
    have hl1 := N1 _ (List.Mem.head _)
    have hL0 := F1.ns.lt
    have nn : ∀ b, Heap.get? _ b = none → s.heap.get? b = none := fun b hb => by
      cases e : s.heap.get? b with
      | none => rfl
      | some o => rw [F1.keep b o e] at hb; cases hb
    have aL : a1 ≠ s.heap.objs.size := fun e => by
      obtain ⟨_, _, _, ho, _⟩ := F1.ns; rw [← e, hn1] at ho; cases ho
    have al : a1 ≠ l1 := fun e => by
      have := hl1.1; rw [← e] at this; rw [hn1] at this; cases this
    refine forloop_gen (ts := Mine.tk x.cps.toList 0 false) (g := s.gens.size) (h₀ := s.heap) (W := [l1]) (X := [L1, s.heap.objs.size, l1]) (J := JS x t l1)
      rfl (by ktr_room) T'.nolimit rfl rfl rfl ?g1 ?g2 ?g3 ?g4 ?g5 ?g6 ?g7 ?g8 ?step ?fin ?start
    case g1 => simp
    case g2 => intro b hb; exact List.mem_cons_of_mem _ hb
    case g3 => intro hm; simp only [List.mem_cons, List.not_mem_nil, or_false] at hm; rcases hm with e | e; exact aL e; exact al e
    case g4 =>
      intro b hb; simp only [List.mem_cons, List.not_mem_nil, or_false] at hb; rcases hb with e | e | e
      · rw [e]; exact nn _ hL1
      · rw [e]; exact Heap.get?_none_of_le (Nat.le_refl _)
      · rw [e]; exact hl1.2.2
    case g5 => exact nn _ hn1
    case g6 => intro hm; simp only [List.mem_cons, List.not_mem_nil, or_false] at hm; rcases hm with e | e | e; exact hne1 e; exact aL e; exact al e
    case g7 =>
      rintro ts h h' m ⟨st, op, res, u1, items, n, j1, j2, j3, j4, j5, j6, j7, j8, j9⟩ hk
      exact ⟨st, op, res, u1, items, n, j1, j2, j3, j4, hk l1 (List.Mem.head _) _ j5, j6, j7, j8, j9⟩
    case g8 => intro hm; simp only [List.mem_cons, List.not_mem_nil, or_false] at hm; exact hl1.2.1 hm.symm
    case step =>
      rintro ⟨p, c⟩ ts m ti tu s₁ ⟨st, op, res, u1, items, n, j1, j2, j3, j4, j5, j6, j7, j8, j9⟩ n3 base3 live3 ⟨h3, tk3, gs3, rfl, hb3, hk3⟩
      have F3 : Fr s.heap s.heap.objs.size h3 _ := ⟨n3, base3, Nat.le_refl _⟩
      obtain ⟨rest, hr1, hr2⟩ := ledger_all s.heap h3 [s.heap.objs.size, l1]
      have N3 : News s.heap s.heap.objs.size h3 ((l1, W.listOf items n) :: rest) := fun p hp => by
        rcases List.mem_cons.mp hp with e | hp
        · rw [e]; exact ⟨j5, hl1.2⟩
        · obtain ⟨q1, q2, q3⟩ := hr1 p hp
          exact ⟨q1, fun e => q2 (by simp [e]), q3⟩
      have hap : ∀ p ∈ rest, p.1 ≠ l1 := fun p hp e => (hr1 p hp).2.1 (by simp [e])
      have kr := fun h' m' o => keep_rest (X := [s.heap.objs.size, l1]) (h' := h') (L := s.heap.objs.size) (m := m') (l := [(l1, o)]) base3 hr2
      replace hl1 := hl1.2
      clear n3 base3 live3 hk3 N1 F1 hr1 hr2 hp1 hk1 hn1 hL1 hg1
      have fin3 : ∀ (h h' : Heap), (∀ b o, b ∉ [s.heap.objs.size, l1] → h.get? b = some o → h'.get? b = some o) → True := fun _ _ _ => trivial
      by_cases hc : c = [34]
      · subst hc
        cases op with
        | none =>
          revert F3
          refine fun F3 => fr_abs6 (v6 := .int (p : Int) ti) "addr" "start" "result" "open_pos" "ch" "pos" F3 j1 j2 j3 j4 rfl rfl ?_
          intro m3 y1 y2 y3 y4 y5 y6 F3
          repeat' (first
            | (k_unfold; (try dsimp only))
            | (k_end; wrow_close)
            | ((with_reducible show wpAny _ _ (call (Value.builtin "len") _) _ _ _); (k_here; (with_reducible show wpAny _ _ (call (Value.builtin "len") [Value.str _ _]) _ _ _); k_dflt (refine PyProof.Rows.len_str (by omega) ?_)))
            | walk1
            | (dsimp only; walk1)
            | (leave1; walk_say "STEP leave1"; try dsimp only)
            | fail "no step")
          · rename Fr _ _ _ _ => F4
            rename News _ _ _ _ => N4
            refine .inl ⟨rfl, _, _, _, rfl, kr _ _ _ F4 N4, F4.ns, ?_, ?_⟩
            · exact ⟨st, some p, res, u1, items, n, by walk_at "lk", by walk_at "lk", by walk_at "lk", ⟨ti, by walk_at "lk"⟩, (N4 _ (.head _)).1, j6, by rw [← j7]; rfl, by simp only [List.length_cons] at j8; omega, j9⟩
            · intro b hb; rw [List.mem_singleton.mp hb]; exact ⟨_, (N4 _ (.head _)).1⟩
          · exact absurd (by decide : ((⟨[34].toArray⟩ : Str) == Str.ofString "\"") = true) (by simp_all)
        | some o =>
          obtain ⟨u2, j4⟩ := j4
          revert F3
          refine fun F3 => fr_abs6 (v6 := .int (p : Int) ti) "addr" "start" "result" "open_pos" "ch" "pos" F3 j1 j2 j3 j4 rfl rfl ?_
          intro m3 y1 y2 y3 y4 y5 y6 F3
          repeat' (first
            | (k_unfold; (try dsimp only))
            | (k_end; wrow_close)
            | ((with_reducible show wpAny _ _ (call (Value.builtin "len") _) _ _ _); (k_here; (with_reducible show wpAny _ _ (call (Value.builtin "len") [Value.str _ _]) _ _ _); k_dflt (refine PyProof.Rows.len_str (by omega) ?_)))
            | walk1
            | (dsimp only; walk1)
            | (leave1; walk_say "STEP leave1"; try dsimp only)
            | fail "no step")
          · rename (st : Int) ≠ (o : Int) => hso
            rename (Txt.slice x (some (st : Int)) (some (o : Int))).length ≤ x.length => hsl
            refine append_head (rest := rest) (by assumption) (by assumption) hap ?_ (by rw [strsAre_size j6, sizeLine_eq]; omega)
            intro h4 F4 N4
            repeat' (first
              | (k_unfold; (try dsimp only))
              | (k_end; wrow_close)
              | ((with_reducible show wpAny _ _ (call (Value.builtin "len") _) _ _ _); (k_here; (with_reducible show wpAny _ _ (call (Value.builtin "len") [Value.str _ _]) _ _ _); k_dflt (refine PyProof.Rows.len_str (by omega) ?_)))
              | walk1
              | (dsimp only; walk1)
              | (leave1; walk_say "STEP leave1"; try dsimp only)
              | fail "no step")
            rename Fr _ _ _ _ => F5
            rename News _ _ _ _ => N5
            refine .inl ⟨rfl, _, _, _, rfl, kr _ _ _ F5 N5, F5.ns, ?_, ?_⟩
            · exact ⟨p + 1, none, res ++ [Txt.slice x (some (st : Int)) (some (o : Int))], _, _, _, by walk_at "lk", Eq.trans (if_neg (by decide)) (if_pos rfl), by walk_at "lk", by walk_at "lk", (N5 _ (.head _)).1, strsAre_push j6, by rw [← j7]; simp only [stripGo, if_true]; rw [if_neg (fun e => hso (by rw [e]))], by simp only [List.length_cons, List.length_append, List.length_nil] at j8 ⊢; omega, fun y hy => (List.mem_append.mp hy).elim (j9 y) (fun hy => by rw [List.mem_singleton.mp hy]; exact hsl)⟩
            · intro b hb; rw [List.mem_singleton.mp hb]; exact ⟨_, (N5 _ (.head _)).1⟩
          · rename Fr _ _ _ _ => F5
            rename News _ _ _ _ => N5
            rename (st : Int) = (o : Int) => hso
            have hso := Int.ofNat.inj hso
            refine .inl ⟨rfl, _, _, _, rfl, kr _ _ _ F5 N5, F5.ns, ?_, ?_⟩
            · exact ⟨p + 1, none, res, _, _, _, by walk_at "lk", Eq.trans (if_neg (by decide)) (if_pos rfl), by walk_at "lk", by walk_at "lk", (N5 _ (.head _)).1, j6, by rw [← j7]; simp only [stripGo, if_true]; rw [if_pos hso], by simp only [List.length_cons] at j8 ⊢; omega, j9⟩
            · intro b hb; rw [List.mem_singleton.mp hb]; exact ⟨_, (N5 _ (.head _)).1⟩
          · exact absurd (by decide : ((⟨[34].toArray⟩ : Str) == Str.ofString "\"") = true) (by simp_all)
      · cases op with
        | none =>
          revert F3
          refine fun F3 => fr_abs6 (v6 := .int (p : Int) ti) (v5 := .str ⟨c.toArray⟩ tu) "addr" "start" "result" "open_pos" "ch" "pos" F3 j1 j2 j3 j4 rfl rfl ?_
          intro m3 y1 y2 y3 y4 y5 y6 F3
          repeat' (first
            | (k_unfold; (try dsimp only))
            | (k_end; wrow_close)
            | ((with_reducible show wpAny _ _ (call (Value.builtin "len") _) _ _ _); (k_here; (with_reducible show wpAny _ _ (call (Value.builtin "len") [Value.str _ _]) _ _ _); k_dflt (refine PyProof.Rows.len_str (by omega) ?_)))
            | walk1
            | (dsimp only; walk1)
            | (leave1; walk_say "STEP leave1"; try dsimp only)
            | fail "no step")
          · exact absurd (q_eq rfl (by assumption)) hc
          all_goals first
            | (rename Fr _ _ _ _ => F5
               rename News _ _ _ _ => N5
               refine .inl ⟨rfl, _, _, _, rfl, kr _ _ _ F5 N5, F5.ns, ?_, ?_⟩
               · exact ⟨st, none, res, u1, items, n, y1, y2, y3, y4, (N5 _ (.head _)).1, j6, by rw [← j7]; simp only [stripGo]; rw [if_neg hc], by simp only [List.length_cons] at j8 ⊢; omega, j9⟩
               · intro b hb; rw [List.mem_singleton.mp hb]; exact ⟨_, (N5 _ (.head _)).1⟩)
            | exact absurd (q_eq rfl (by assumption)) hc
        | some o =>
          obtain ⟨u2, j4⟩ := j4
          revert F3
          refine fun F3 => fr_abs6 (v6 := .int (p : Int) ti) (v5 := .str ⟨c.toArray⟩ tu) "addr" "start" "result" "open_pos" "ch" "pos" F3 j1 j2 j3 j4 rfl rfl ?_
          intro m3 y1 y2 y3 y4 y5 y6 F3
          repeat' (first
            | (k_unfold; (try dsimp only))
            | (k_end; wrow_close)
            | ((with_reducible show wpAny _ _ (call (Value.builtin "len") _) _ _ _); (k_here; (with_reducible show wpAny _ _ (call (Value.builtin "len") [Value.str _ _]) _ _ _); k_dflt (refine PyProof.Rows.len_str (by omega) ?_)))
            | walk1
            | (dsimp only; walk1)
            | (leave1; walk_say "STEP leave1"; try dsimp only)
            | fail "no step")
          · exact absurd (q_eq rfl (by assumption)) hc
          all_goals first
            | (rename Fr _ _ _ _ => F5
               rename News _ _ _ _ => N5
               refine .inl ⟨rfl, _, _, _, rfl, kr _ _ _ F5 N5, F5.ns, ?_, ?_⟩
               · exact ⟨st, some o, res, u1, items, n, y1, y2, y3, ⟨u2, y4⟩, (N5 _ (.head _)).1, j6, by rw [← j7]; simp only [stripGo]; rw [if_neg hc], by simp only [List.length_cons] at j8 ⊢; omega, j9⟩
               · intro b hb; rw [List.mem_singleton.mp hb]; exact ⟨_, (N5 _ (.head _)).1⟩)
            | exact absurd (q_eq rfl (by assumption)) hc
    case fin =>
      rintro s' m' ⟨h2, tk2, gs2, rfl, hb2, hk2⟩ n2 ⟨st, op, res, u1, items, n, j1, j2, j3, j4, j5, j6, j7, j8, j9⟩
      have notX : ∀ b o, s.heap.get? b = some o → b ∉ [L1, s.heap.objs.size, l1] := fun b o e hm => by
        simp only [List.mem_cons, List.not_mem_nil, or_false] at hm
        rcases hm with q | q | q
        · rw [q, nn _ hL1] at e; cases e
        · rw [q, Heap.get?_none_of_le (Nat.le_refl _)] at e; cases e
        · rw [q, hl1.2.2] at e; cases e
      have F2 : Fr s.heap s.heap.objs.size h2 m' := ⟨n2, fun b o e => hk2 b o (notX b o e) (hk1 b o (F1.keep b o e)), Nat.le_refl _⟩
      have N2 : News s.heap s.heap.objs.size h2 [(l1, W.listOf items n)] := fun p hp => by rw [List.mem_singleton.mp hp]; exact ⟨j5, hl1.2⟩
      have F1k := F1.keep
      clear F1 N1 n2
      have hsz := strsAre_size j6
      simp only [List.length_nil, Nat.add_zero] at j8
      repeat' (first
        | (k_unfold; (try dsimp only))
        | (k_end; wrow_close)
        | ((with_reducible show wpAny _ _ (call (Value.builtin "len") _) _ _ _); (k_here; (with_reducible show wpAny _ _ (call (Value.builtin "len") [Value.str _ _]) _ _ _); k_dflt (refine PyProof.Rows.len_str (by omega) ?_)))
        | walk1
        | (dsimp only; walk1)
        | (leave1; walk_say "STEP leave1"; try dsimp only)
        | fail "no step")
      · have e : strip x = Txt.join (Str.ofString "") (res ++ [Txt.slice x (some (st : Int)) none]) := by
          unfold strip
          simp only [stripGo] at j7
          rw [if_neg (by rw [hocc]; decide), ← j7]
          dsimp only
          rw [if_pos (by assumption)]
        rename (Txt.slice x (some (st : Int)) none).length ≤ x.length => hsl
        rename Fr _ _ _ _ => F5
        k_dflt (refine join_listW (ys := res ++ [Txt.slice x (some (st : Int)) none]) (by is_list) (strsAre_push j6) (by decide +kernel) ?w (fun t' k => ?_))
        case w => exact wsum (fun y hy => (List.mem_append.mp hy).elim (j9 y) (fun hy => by rw [List.mem_singleton.mp hy]; exact hsl)) hlen (by simp only [List.length_append, List.length_cons, List.length_nil]; omega)
        · have := hret t' _ k ((s.gens.push gs1).setIfInBounds s.gens.size gs2) F5.keep (fun hb => bare_set hb hb2)
          rw [e] at this
          exact this
      · k_dflt (refine join_listW (ys := res) (by is_list) j6 (by decide +kernel) ?w (fun t' k => ?_))
        case w => exact wsum j9 hlen (by omega)
        · have e : strip x = Txt.join (Str.ofString "") res := by
            unfold strip
            simp only [stripGo] at j7
            rw [if_neg (by rw [hocc]; decide), ← j7]
            dsimp only
            rw [if_neg (by assumption)]
          have := hret t' h2 (k) ((s.gens.push gs1).setIfInBounds s.gens.size gs2) (fun b o e => hk2 b o (notX b o e) (hk1 b o (F1k b o e))) (fun hb => bare_set hb hb2)
          rw [e] at this
          exact this
    case start =>
      refine ⟨⟨h1, tk1, gs1, [L1], ?_, hb1, fun b o _ e => e, hp1 _ rfl, ?_, ?_⟩, hg1, ⟨_, F1.ns.keeps hk1, ?_⟩, fun b o e => hk1 b o (F1.keep b o e), ?_⟩
      · exact far_start
      · intro b hb hm
        have e := List.mem_singleton.mp hb
        subst e
        simp only [List.mem_cons, List.not_mem_nil, or_false] at hm
        rcases hm with e | e | e
        · exact hne1 e.symm
        · have e' : b = s.heap.objs.size := e
          obtain ⟨_, _, _, ho, _⟩ := F1.ns; rw [← e', hL1] at ho; cases ho
        · have := hl1.1; rw [← e] at this; rw [hL1] at this; cases this
      · intro b hb; left; rw [List.mem_singleton.mp hb]; exact List.Mem.head _
      · exact ⟨0, none, [], _, #[], 0, rfl, rfl, rfl, rfl, hk1 _ _ hl1.1, by first | exact .nil | trivial | constructor, rfl, (by have h1 := tk_len x.cps.toList 0 false; rw [show x.cps.toList.length = x.length by simp [Str.length]] at h1; simp at h1 ⊢; omega), fun y hy => by cases hy⟩
      · intro b hb; rw [List.mem_singleton.mp hb]; exact ⟨_, hk1 _ _ hl1.1⟩
end Mine
namespace Mine
theorem fr_abs2 {h₀ : Heap} {L : Addr} {h : Heap} {m : Str → Option Value} {P : Prop} (x1 x2 : Str) {v1 v2 : Value} (F : Fr h₀ L h m) (e1 : m x1 = some v1) (e2 : m x2 = some v2) (k : ∀ m', m' x1 = some v1 → m' x2 = some v2 → Fr h₀ L h m' → P) : P := k m e1 e2 F
theorem loadN {prog : Program} {w : World} {A : Around} {s : Shared} {env : Env} {E : Value → Shared → Prop} {h₀ : Heap} {L : Addr} {m : Str → Option Value} {x : Str} {v : Value} {Q : Value → Shared → Prop} (F : Fr h₀ L s.heap m) (hv : m x = some v) (h : Q v s)
    (hk : env.scope.kind = .function) (hx : env.kindOf x = some .local) (hL : env.locals = L) : wpAny (model prog w) A (loadName env x) Q E s := by
  subst hL; exact wpAny_loadName_local hk hx F.ns hv h
noncomputable def chkGo : List (Nat × List Nat) → Nat → Bool
  | [], o => o == 0
  | (_, c) :: ts, o => if c = [40] then chkGo ts (o + 1) else if c = [41] then (if o = 0 then false else chkGo ts (o - 1)) else chkGo ts o
noncomputable def chk (x : Str) : Bool := chkGo (tk (strip x).cps.toList 0 false) 0
abbrev JC (x : Str) (ts : List (Nat × List Nat)) (h : Heap) (m : Str → Option Value) : Prop :=
  ∃ (o : Nat) (u1 : Tok), m "opens" = some (.int (o : Int) u1) ∧ chkGo ts o = chk x
set_option maxRecDepth 100000 in
set_option maxHeartbeats 8000000 in
theorem chk_c (w : World) (mean mg mb) (x : Str) (t : Tok) : Cg 8 100 w (looseW Mine.hd.view_39 []) mean mg mb 56 (x.cps.all (· < 128) = true ∧ x.length ≤ 200 ∧ (strip x).cps.all (· < 128) = true) [.str x t] (fun _ => .bool (chk x)) := by
  unfold Cg
  k_fill
  intros
  rename_i h₀ _ _ s _ _ hB hF hX hT hk hpre _ _ hret
  obtain ⟨hpre, hlen, hpre2⟩ := hpre
  refine wpAny_call ?_
  k_dflt (refine' codeP ?k1 ?k2 ?k3 ?k5 ?kA ?kF ?kK ?k6 ?k7 ?k8 ?k9 ?kB ?_ ?c2 ?c3 ?c4 ?c5; (case kA => exact rfl); (case kF => exact rfl); (case kK => assumption); (case k1 => k_asm); (case k2 => k_asm); (case k3 => k_asm); (case k5 => k_asm); (case k6 => k_is); (case k7 => k_is); (case k8 => ktr_room); (case k9 => exact BindsTo.of_eq rfl); (case c5 => decide); (case kB => exact locs rfl); (case c2 => exact rfl); (case c3 => exact rfl); (case c4 => exact rfl); k_whole; intro h' F' N' B' X' T'; (try dsimp only); (try k_fold))
  repeat' (first
    | (k_unfold; (try dsimp only))
    | (k_end; wrow_close)
    | ((with_reducible show wpAny _ _ (loadName _ _) _ _ _); (k_here; k_dflt (refine' loadN ?zqF ?zqv ?_ ?zqa ?zqb ?zqc; (case zqF => k_asm); (case zqa => rfl); (case zqb => rfl); (case zqc => rfl); (case zqv => walk_at "lk"); k_whole)))
    | walk1
    | (dsimp only; walk1)
    | (leave1; walk_say "STEP leave1"; try dsimp only)
    | fail "no step")
  k_dflt (refine strip_c _ _ _ _ _ _ _ _ _ _ _ _ _ _ _ _ _ _ _ _ _ _ _ (by k_asm) (by k_asm) (by k_asm) (by k_asm) (by exact rfl) ⟨by assumption, by assumption⟩ (by ktr_room) (by ktr_units) ?_)
  intro u h1 tk1 gens1 hk1 hb1
  try dsimp only at hb1
  have hF1 := Fr.keeps (by assumption) hk1
  try dsimp only
  clear F'
  repeat' (first
    | (k_unfold; (try dsimp only))
    | (k_end; wrow_close)
    | ((with_reducible show wpAny _ _ (loadName _ _) _ _ _); (k_here; k_dflt (refine' loadN ?zqF ?zqv ?_ ?zqa ?zqb ?zqc; (case zqF => k_asm); (case zqa => rfl); (case zqb => rfl); (case zqc => rfl); (case zqv => walk_at "lk"); k_whole)))
    | walk1
    | (dsimp only; walk1)
    | (leave1; walk_say "STEP leave1"; try dsimp only)
    | fail "no step")
  refine For_g ?_ (fun _ => rfl)
  repeat' (first
    | (k_unfold; (try dsimp only))
    | (k_end; wrow_close)
    | ((with_reducible show wpAny _ _ (loadName _ _) _ _ _); (k_here; k_dflt (refine' loadN ?zqF ?zqv ?_ ?zqa ?zqb ?zqc; (case zqF => k_asm); (case zqa => rfl); (case zqb => rfl); (case zqc => rfl); (case zqv => walk_at "lk"); k_whole)))
    | walk1
    | (dsimp only; walk1)
    | (leave1; walk_say "STEP leave1"; try dsimp only)
    | fail "no step")
  k_dflt (refine esc_c _ _ _ _ _ _ _ _ _ _ _ _ _ _ _ _ _ _ _ _ _ _ _ (by k_asm) (by k_asm) (by k_asm) (by k_asm) (by exact rfl) (by assumption) (by ktr_room) (by ktr_units) ?_)
  intro h2 a1 L1 gs1 tk2 hg1 hn1 hL1 hne1 hk2 hb2 hp2
  refine ⟨a1, _, rfl, hg1, ?_⟩
  rename Fr _ _ _ _ => F1
  have hL0 := F1.ns.lt
  have nn : ∀ b, Heap.get? _ b = none → s.heap.get? b = none := fun b hb => by
    cases e : s.heap.get? b with
    | none => rfl
    | some o => rw [F1.keep b o e] at hb; cases hb
  have aL : a1 ≠ s.heap.objs.size := fun e => by
    obtain ⟨_, _, _, ho, _⟩ := F1.ns; rw [← e, hn1] at ho; cases ho
  refine forloop_gen (ts := Mine.tk (strip x).cps.toList 0 false) (g := gens1.size) (h₀ := s.heap) (W := []) (X := [L1, s.heap.objs.size]) (J := JC x)
      rfl (by ktr_room) T'.nolimit rfl rfl rfl ?g1 ?g2 ?g3 ?g4 ?g5 ?g6 ?g7 ?g8 ?step ?fin ?start
  case g1 => simp
  case g2 => intro b hb; exact List.mem_cons_of_mem _ hb
  case g3 => intro hm; simp only [List.mem_cons, List.not_mem_nil, or_false] at hm; exact aL hm
  case g4 =>
    intro b hb; simp only [List.mem_cons, List.not_mem_nil, or_false] at hb; rcases hb with e | e
    · rw [e]; exact nn _ hL1
    · rw [e]; exact Heap.get?_none_of_le (Nat.le_refl _)
  case g5 => exact nn _ hn1
  case g6 => intro hm; simp only [List.mem_cons, List.not_mem_nil, or_false] at hm; rcases hm with e | e; exact hne1 e; exact aL e
  case g7 =>
    rintro ts h h' m ⟨o, u1, j1, j2⟩ hk
    exact ⟨o, u1, j1, j2⟩
  case g8 => intro hm; cases hm
  case step =>
    rintro ⟨p, c⟩ ts m ti tu s₁ ⟨o, u1, j1, j2⟩ n3 base3 live3 ⟨h3, tk3, gs3, rfl, hb3, hk3⟩
    have F3 : Fr s.heap s.heap.objs.size h3 _ := ⟨n3, base3, Nat.le_refl _⟩
    obtain ⟨rest, hr1, hr2⟩ := ledger_all s.heap h3 [s.heap.objs.size]
    have N3 : News s.heap s.heap.objs.size h3 rest := fun p hp => by
      obtain ⟨q1, q2, q3⟩ := hr1 p hp
      exact ⟨q1, fun e => q2 (by simp [e]), q3⟩
    have kr := fun h' m' => keep_rest (X := [s.heap.objs.size]) (h' := h') (L := s.heap.objs.size) (m := m') (l := []) base3 hr2
    clear n3 base3 live3 hk3 F1 hr1 hr2 hp2 hk2 hn1 hL1 hg1
    revert F3
    refine fun F3 => fr_abs2 (v2 := .str ⟨c.toArray⟩ tu) "opens" "ch" F3 j1 rfl ?_
    intro m3 y1 y2 F3
    repeat' (first
      | (k_unfold; (try dsimp only))
      | (k_end; wrow_close)
      | ((with_reducible show wpAny _ _ (loadName _ _) _ _ _); (k_here; k_dflt (refine' loadN ?zqF ?zqv ?_ ?zqa ?zqb ?zqc; (case zqF => k_asm); (case zqa => rfl); (case zqb => rfl); (case zqc => rfl); (case zqv => walk_at "lk"); k_whole)))
      | walk1
      | (dsimp only; walk1)
      | (leave1; walk_say "STEP leave1"; try dsimp only)
      | fail "no step")
    · rename Fr _ _ _ _ => F5
      have hc := q_eq (k := 40) rfl (by assumption)
      refine .inl ⟨rfl, _, _, _, rfl, kr _ _ F5 (by assumption), F5.ns, ⟨o + 1, _, if_pos rfl, ?_⟩, fun b hb => nomatch hb⟩
      rw [← j2]; simp only [chkGo]; rw [if_pos hc]
    · rename Fr _ _ _ _ => F5
      rename ((⟨c.toArray⟩ : Str) == _) = true => q1
      rename ((⟨c.toArray⟩ : Str) == _) = false => q2
      have hc := q_eq (k := 41) rfl q1
      rename (o : Int) - 1 < 0 => ho
      have e : chk x = false := by
        rw [← j2]; simp only [chkGo]; rw [hc, if_neg (by decide), if_pos rfl, if_pos (by omega)]
      refine .inr ⟨_, rfl, ?_⟩
      have := fun tk' => hret t _ tk' ((gens1.push gs3)) F5.keep (fun hb => (hb1 hb).push hb3)
      rw [e] at this
      have ee : (gens1.push gs1).setIfInBounds gens1.size gs3 = gens1.push gs3 := by
        apply Array.ext'; simp
      try simp only [ee]
      exact this _
    · rename Fr _ _ _ _ => F5
      rename ((⟨c.toArray⟩ : Str) == _) = true => q1
      have hc := q_eq (k := 41) rfl q1
      rename ¬ (o : Int) - 1 < 0 => ho
      refine .inl ⟨rfl, _, _, _, rfl, kr _ _ F5 (by assumption), F5.ns, ⟨o - 1, _, (if_pos rfl).trans (congrArg some (congrArg (fun i => Value.int i _) ?_)), ?_⟩, fun b hb => nomatch hb⟩
      · omega
      · rw [← j2]; simp only [chkGo]; rw [hc, if_neg (by decide), if_pos rfl, if_neg (by omega)]
    · rename Fr _ _ _ _ => F5
      have hc1 : c ≠ [40] := fun e => by subst e; rename (_ == Str.ofString "(") = false => q; exact absurd q (by decide)
      have hc2 : c ≠ [41] := fun e => by subst e; rename (_ == Str.ofString ")") = false => q; exact absurd q (by decide)
      refine .inl ⟨rfl, _, _, _, rfl, kr _ _ F5 (by assumption), F5.ns, ⟨o, u1, y1, ?_⟩, fun b hb => nomatch hb⟩
      rw [← j2]; simp only [chkGo]; rw [if_neg hc1, if_neg hc2]
  case fin =>
    have hk2' := hk2
    rintro s' m' ⟨h2, tk2, gs2, rfl, hb2, hk2⟩ n2 ⟨o, u1, j1, j2⟩
    have notX : ∀ b o, s.heap.get? b = some o → b ∉ [L1, s.heap.objs.size] := fun b o e hm => by
      simp only [List.mem_cons, List.not_mem_nil, or_false] at hm
      rcases hm with q | q
      · rw [q, nn _ hL1] at e; cases e
      · rw [q, Heap.get?_none_of_le (Nat.le_refl _)] at e; cases e
    have F2 : Fr s.heap s.heap.objs.size h2 m' := ⟨n2, fun b o e => hk2 b o (notX b o e) (hk2' b o (F1.keep b o e)), Nat.le_refl _⟩
    clear F1 n2
    have e : chk x = ((o : Int) == 0) := by
      rw [← j2]; unfold chkGo
      cases o with
      | zero => rfl
      | succ n => rfl
    repeat' (first
      | (k_unfold; (try dsimp only))
      | (k_end; wrow_close)
      | ((with_reducible show wpAny _ _ (loadName _ _) _ _ _); (k_here; k_dflt (refine' loadN ?zqF ?zqv ?_ ?zqa ?zqb ?zqc; (case zqF => k_asm); (case zqa => rfl); (case zqb => rfl); (case zqc => rfl); (case zqv => walk_at "lk"); k_whole)))
      | walk1
      | (dsimp only; walk1)
      | (leave1; walk_say "STEP leave1"; try dsimp only)
      | fail "no step")
    have := hret t h2 (tk2 + 1) ((gens1.push gs2)) F2.keep (fun hb => (hb1 hb).push hb2)
    rw [e] at this
    rename_i xx
    have ee : (gens1.push gs1).setIfInBounds gens1.size gs2 = gens1.push gs2 := by
      apply Array.ext'; simp
    try simp only [ee]
    exact this
  case start =>
    refine ⟨⟨h2, tk2, gs1, [L1], ?_, hb2, fun b o _ e => e, hp2 _ rfl, ?_, ?_⟩, hg1, ⟨_, F1.ns.keeps hk2, ?_⟩, fun b o e => hk2 b o (F1.keep b o e), ?_⟩
    · exact far_start
    · intro b hb hm
      have e := List.mem_singleton.mp hb
      subst e
      simp only [List.mem_cons, List.not_mem_nil, or_false] at hm
      rcases hm with e | e
      · exact hne1 e.symm
      · have e' : b = s.heap.objs.size := e
        obtain ⟨_, _, _, ho, _⟩ := F1.ns; rw [← e', hL1] at ho; cases ho
    · intro b hb; left; rw [List.mem_singleton.mp hb]; exact List.Mem.head _
    · exact ⟨0, _, rfl, rfl⟩
    · intro b hb; cases hb
end Mine
namespace Mine
abbrev Ch (N M : Nat) (w : World) (loose : List Str) (mean : ExcName → Option Value) (mg mb : Str → Option Value) (f : Addr) (pre : Heap → Prop) (vs : List Value) (R : Heap → Heap → Value → Prop) : Prop :=
  ∀ (dp un : Nat) (gd : Option (List Code)) (cn : Str) (cs : Scope) (a : Addr) (ccd : Value) (cl : List (Str × Addr)) (outer : List Env) (A₀ : Around) (base h₀ : Heap) (L : Addr) (m : Str → Option Value) (s : Shared) (Q E : Value → Shared → Prop),
    Below A₀ base outer h₀ → Fr h₀ L s.heap m → (Mine.hd.heap_39 w.params).In h₀ → Top Mine.hd.view_39 loose mean mg mb h₀ → cs.kind = .function →
    pre s.heap → dp + N < recursionLimit → un + M < cLine →
    (∀ (v : Value) (h' : Heap) (tk' : Nat), (∀ b o, s.heap.get? b = some o → h'.get? b = some o) → R s.heap h' v → Q v { s with heap := h', toks := tk' }) →
      wpAny (model Challenge.rw_sw0030_01.row.prog w) (ktrTop dp un gd cn cs L a ccd cl outer) (call (.ref f) vs) Q E s
noncomputable def Told (h₀ h : Heap) (v : Value) : Prop := ∃ l a b c ta tb tc n, v = .ref l ∧ h₀.get? l = none ∧ h.get? l = some (listOf #[.int a ta, .int b tb, .int c tc] n) ∧ (0 ≤ a ∧ a ≤ 10 ^ 9) ∧ (0 ≤ b ∧ b ≤ 10 ^ 9) ∧ (0 ≤ c ∧ c ≤ 10 ^ 9)
theorem told_step {xs : List Int} {pre : List Int} (h : xs.length = 3) (h' : ∀ x ∈ xs, 0 ≤ x ∧ x ≤ 5 + 1000000 * (pre.length : Int)) (j : Nat) (v k : Int) :
    (xs.set j (xs.getD j 0 + v.fmod 1000000)).length = 3 ∧ ∀ x ∈ xs.set j (xs.getD j 0 + v.fmod 1000000), 0 ≤ x ∧ x ≤ 5 + 1000000 * ((pre ++ [k]).length : Int) := by
  refine ⟨by simpa using h, fun x hx => ?_⟩
  have hg : 0 ≤ xs.getD j 0 ∧ xs.getD j 0 ≤ 5 + 1000000 * (pre.length : Int) := by
    by_cases hj : j < xs.length
    · have : xs.getD j 0 ∈ xs := by
        rw [List.getD_eq_getElem?_getD, List.getElem?_eq_getElem hj]; exact List.getElem_mem hj
      exact h' _ this
    · rw [List.getD_eq_getElem?_getD, List.getElem?_eq_none (by omega)]; simp; omega
  have hl : ((pre ++ [k]).length : Int) = (pre.length : Int) + 1 := by simp
  have h1 := Int.fmod_nonneg_of_pos v (show (0 : Int) < 1000000 by decide)
  have h2 := Int.fmod_lt_of_pos v (show (0 : Int) < 1000000 by decide)
  rw [hl]
  rcases List.mem_or_eq_of_mem_set hx with e | e
  · have := h' x e; omega
  · subst e; omega
theorem ints_three {vs : List Value} {xs : List Int} (h : IntsAre vs xs) (h3 : xs.length = 3) : ∃ a b c ta tb tc, vs = [.int a ta, .int b tb, .int c tc] ∧ xs = [a, b, c] := by
  cases h with
  | nil => cases h3
  | cons a ta h => cases h with
    | nil => cases h3
    | cons b tb h => cases h with
      | nil => cases h3
      | cons c tc h => cases h with
        | nil => exact ⟨a, b, c, ta, tb, tc, rfl, rfl⟩
        | cons d td h => simp at h3
theorem told_end {xs : List Int} {n : Nat} {x : Int} (h' : ∀ x ∈ xs, 0 ≤ x ∧ x ≤ 5 + 1000000 * (n : Int)) (hn : n ≤ 60) (hx : x ∈ xs) : 0 ≤ x ∧ x ≤ 10 ^ 9 := by
  have := h' x hx
  have e : (10 : Int) ^ 9 = 1000000000 := by decide
  rw [e]; omega
set_option rowWalk.seconds 0
set_option maxRecDepth 100000 in
set_option maxHeartbeats 8000000 in
theorem told_c (w : World) (mean mg mb) (S : Addr) (vs : List Value) (ns : List Int) (hI : IntsAre vs ns) (hlen : ns.length ≤ 63) : Ch 8 100 w (looseW Mine.hd.view_39 []) mean mg mb 77 (fun h => h.IsList S vs.toArray) [.ref S] Told := by
  unfold Ch
  k_fill
  intros
  rename_i h₀ _ _ s _ _ hB hF hX hT hk hpre _ _ hret
  refine wpAny_call ?_
  k_dflt (refine' codeP ?k1 ?k2 ?k3 ?k5 ?kA ?kF ?kK ?k6 ?k7 ?k8 ?k9 ?kB ?_ ?c2 ?c3 ?c4 ?c5; (case kA => exact rfl); (case kF => exact rfl); (case kK => assumption); (case k1 => k_asm); (case k2 => k_asm); (case k3 => k_asm); (case k5 => k_asm); (case k6 => k_is); (case k7 => k_is); (case k8 => ktr_room); (case k9 => exact BindsTo.of_eq rfl); (case c5 => decide); (case kB => exact locs rfl); (case c2 => exact rfl); (case c3 => exact rfl); (case c4 => exact rfl); k_whole; intro h' F' N' B' X' T'; (try dsimp only); (try k_fold))
  k_with "pyIter ref" => k_state (fun (pre : List Int) (told : List Int) => told.length = 3 ∧ ∀ x ∈ told, 0 ≤ x ∧ x ≤ 5 + 1000000 * (pre.length : Int)) "told"
  k_with "state" => first
    | (refine ⟨rfl, ?_⟩; intro x hx; simp only [List.mem_cons, List.not_mem_nil, or_false] at hx; rcases hx with e | e | e <;> subst e <;> decide)
    | exact told_step (by assumption) (by assumption) _ _ _
  k_steps
  k_with_none
  rename News _ _ _ _ => N5
  rename Fr _ _ _ _ => F5
  rename IntsAre _ _ => hI5
  rename List.length _ = 3 => h3
  rename (∀ x ∈ _, 0 ≤ x ∧ x ≤ 5 + 1000000 * _) => hb5
  have hs : (rangeKs 0 ((if (ns.length : Int) < 60 then (ns.length : Int) else 60) - 0).toNat).length ≤ 60 := by
    rw [rangeKs_length]; split <;> omega
  obtain ⟨a, b, c, ta, tb, tc, e1, e2⟩ := ints_three hI5 h3
  subst e1 e2
  exact hret _ _ _ F5.keep ⟨_, a, b, c, ta, tb, tc, _, rfl, (N5 _ (.head _)).2.2, (N5 _ (.head _)).1, told_end hb5 hs (by simp), told_end hb5 hs (by simp), told_end hb5 hs (by simp)⟩
end Mine
namespace MineI
abbrev GenPost (L : Addr) (W : List Addr) (R : Result → Shared → Prop) (J : Heap → (Str → Option Value) → Prop) (s₁ : Shared) (f : Flow) (s₂ : Shared) : Prop :=
  (f = .next ∧ ∃ h tk m₂, s₂ = { s₁ with heap := h, toks := tk } ∧ (∀ b o, b ∉ L :: W → s₁.heap.get? b = some o → h.get? b = some o) ∧ h.Ns L m₂ ∧ J h m₂ ∧ (∀ b ∈ W, ∃ o, h.get? b = some o)) ∨ (f = .brk ∧ R (.ok .next) s₂)
open Mine
noncomputable def IsTokV (_ : Heap) (v : Value) (t : Int) : Prop := ∃ u, v = .int t u
noncomputable def Rdy (fin : Prop) (prog : Program) (w : World) (h₀ : Heap) (A : Around) : List (Int) → List Addr → Code → Sem Fin → List Frame → Shared → Prop
  | [], fp, c, t, fs, s => fin → SegX (model prog w) A c t fs s (fun e s' => e = .ret (.ok (.ret .none)) ∧ Kept fp s s')
  | tok :: ts, fp, c, t, fs, s => SegX (model prog w) A c t fs s (fun e s' => ∃ v l k c' p fs' fp', e = .susp v false l k c' p fs' ∧ fs'.any Frame.guarded = false ∧ IsTokV s'.heap v tok ∧ Kept fp s s' ∧
      (∀ b ∈ fp', b ∈ fp ∨ s.heap.get? b = none) ∧ ∀ s'', Alike h₀ fp' s' s'' → Rdy fin prog w h₀ A ts fp' c' (k (.send .none)) fs' s'')
noncomputable def Pend (fin : Prop) (prog : Program) (w : World) (h₀ : Heap) (A : Around) (ts : List (Int)) (fp : List Addr) (gs : GenState) (s : Shared) : Prop := match gs with
  | .fresh c => ∀ s'', Alike h₀ fp s s'' → Rdy fin prog w h₀ A ts fp c (denote table c) [] s''
  | .suspended k _ c _ fs cl => cl = false ∧ ∀ s'', Alike h₀ fp s s'' → Rdy fin prog w h₀ A ts fp c (k (.send .none)) fs s''
  | _ => False
theorem Pend.alike {fin : Prop} {prog : Program} {w : World} {h₀ : Heap} {A : Around} {ts : List (Int)} {fp : List Addr} {gs : GenState} {s s' : Shared} (h : Pend fin prog w h₀ A ts fp gs s) (a : Alike h₀ fp s s') : Pend fin prog w h₀ A ts fp gs s' := by
  unfold Pend at h ⊢
  cases gs with
  | fresh c => exact fun s'' al => h s'' fun b hb o e => al b hb o (a b hb o e)
  | suspended k l c p fs cl => exact ⟨h.1, fun s'' al => h.2 s'' fun b hb o e => al b hb o (a b hb o e)⟩
  | running => exact h
  | finished => exact h
section
variable {fin : Prop} {prog : Program} {w : World} {h₀ : Heap} {A : Around} {E : Value → Shared → Prop} {s : Shared}
noncomputable def Ends (fin : Prop) (prog : Program) (w : World) (h₀ : Heap) (A : Around) (ts : List (Int)) (fp : List Addr) (s : Shared) (e : End) (s₁ : Shared) : Prop :=
  (∃ tok ts' v l k c' p fs' fp', ts = tok :: ts' ∧ e = End.susp v false l k c' p fs' ∧ fs'.any Frame.guarded = false ∧ IsTokV s₁.heap v tok ∧ Kept fp s s₁ ∧
        (∀ b ∈ fp', b ∈ fp ∨ s.heap.get? b = none) ∧ ∀ s'', Alike h₀ fp' s₁ s'' → Rdy fin prog w h₀ A ts' fp' c' (k (.send .none)) fs' s'') ∨ (ts = [] ∧ e = End.ret (.ok (.ret .none)) ∧ Kept fp s s₁)
noncomputable def NextQ (fin : Prop) (prog : Program) (w : World) (h₀ : Heap) (A : Around) (g : Nat) (ts : List (Int)) (fp : List Addr) (s : Shared) (Q : Option Value → Shared → Prop) : Prop := match ts with
  | [] => fin ∧ ∀ h' tk, (∀ b o, b ∉ fp → s.heap.get? b = some o → h'.get? b = some o) → Q none { s with heap := h', toks := tk, gens := s.gens.setIfInBounds g .finished }
  | tok :: ts => ∀ v h' tk gs' fp', IsTokV h' v tok → (∀ b o, b ∉ fp → s.heap.get? b = some o → h'.get? b = some o) → (∀ b ∈ fp', b ∈ fp ∨ s.heap.get? b = none) → gs'.bare = true →
      Pend fin prog w h₀ A ts fp' gs' { s with heap := h', toks := tk, gens := s.gens.setIfInBounds g gs' } → Q (some v) { s with heap := h', toks := tk, gens := s.gens.setIfInBounds g gs' }
theorem gen_next {a : Addr} {g : Nat} {gs : GenState} {ts : List (Int)} {fp : List Addr} {Q : Option Value → Shared → Prop} (hh : A.handled = none) (hl : s.heap.NoLimit) (hroom : A.depth < recursionLimit)
    (hg : s.heap.IsGen a g) (hgs : s.gens[g]? = some gs) (hp : Pend fin prog w h₀ A.in1 ts fp gs s) (hQ : NextQ fin prog w h₀ A.in1 g ts fp s Q) : wpAny (model prog w) A (pyNext (.ref a)) Q E s := by
  have core : ∀ (c : Code) (t : Sem Fin) (fs : List Frame), Rdy fin prog w h₀ A.in1 ts fp c t fs (s.setGen g .running) →
      SegX (model prog w) A.in1 c t fs (s.setGen g .running) (fun e s₁ => Ends fin prog w h₀ A.in1 ts fp (s.setGen g .running) e s₁) := by
    intro c t fs h
    cases ts with
    | nil => exact SegX.mono (h hQ.1) fun e s₁ h => .inr ⟨rfl, h⟩
    | cons tok ts => exact SegX.mono h fun e s₁ ⟨v, l, k, c', p, fs', fp', h1, h2, h3, h4, h5, h6⟩ => .inl ⟨tok, ts, v, l, k, c', p, fs', fp', rfl, h1, h2, h3, h4, h5, h6⟩
  unfold pyNext
  refine wpAny_bind (wpAny_attempt (wpAny_callSpecial?_slot (name := Str.ofString "__next__") hg.typeIs slot_gen_next
    (wpAny_call_entry slot_gen_next hg.typeIs entry_gen_next ?_ (args_gen_next _))))
  show wpAny _ A.in1 (Builtin.Generator.genWake (.ref a) (.send .none)) _ _ s
  unfold Builtin.Generator.genWake
  refine wpAny_bind (wpAny_holding (wpAny_genNumber hg (wpAny_bind (wpAny_genState hgs ?_))))
  have wake : ∀ {Q' : Fin → Shared → Prop} {E' : Value → Shared → Prop} {k : GenResult → Sem Fin} {l : List Value}, (∀ (e : End) (s₁ : Shared), Ends fin prog w h₀ A.in1 ts fp (s.setGen g .running) e s₁ → wpAny (model prog w) A.in1 (k e.result) Q' E' (s₁.setGen g e.genState)) → wpAny (model prog w) A.in1 (.resume g (.send .none) l k) Q' E' s := by
    intro Q' E' k l hk
    have al : Alike h₀ fp s (s.setGen g .running) := fun b _ o e => e
    unfold Pend at hp
    cases gs with
    | running => exact hp.elim
    | finished => exact hp.elim
    | fresh c => exact resumeX hgs (.inl ⟨rfl, rfl, rfl, rfl⟩) (SegX.mono (core _ _ _ (hp _ al)) hk)
    | suspended k₀ l₀ c₀ p₀ fs₀ cl => exact resumeX hgs (.inr ⟨k₀, l₀, p₀, cl, rfl, rfl⟩) (SegX.mono (core _ _ _ (hp.2 _ al)) hk)
  have fin : ∀ {Q' : Fin → Shared → Prop} {E' : Value → Shared → Prop}, True := fun {_ _} => trivial
  cases gs with
  | running => exact hp.elim
  | finished => exact hp.elim
  | _ =>
    refine wpAny_bind (wpAny_roomToWake hl hroom ?_)
    show wpAny _ A.in1 (.resume g (.send .none) [] _) _ _ s
    refine wake fun e s₁ h => ?_
    rcases h with ⟨tok, ts', v, l, k, c', p, fs', fp', rfl, rfl, hfg, htok, ⟨h', tk, rfl, hk⟩, hfp, hr⟩ | ⟨rfl, rfl, ⟨h', tk, rfl, hk⟩⟩
    · refine wpAny_pure ⟨v, rfl, wpAny_pure ?_⟩
      have e : ∀ x, ({ (s.setGen g .running) with heap := h', toks := tk } : Shared).setGen g x = { s with heap := h', toks := tk, gens := s.gens.setIfInBounds g x } := fun x => by
        show ({ s with heap := h', toks := tk, gens := (s.gens.setIfInBounds g .running).setIfInBounds g x } : Shared) = _
        rw [set_set]
      rw [e]
      exact hQ v h' tk (.suspended k l c' p fs' (false || fs'.any Frame.guarded)) fp' htok hk hfp (by show (!(false || fs'.any Frame.guarded)) = true; rw [hfg]; rfl) ⟨by rw [hfg]; rfl, fun s'' al => hr s'' al⟩
    · have e : ({ (s.setGen g .running) with heap := h', toks := tk } : Shared).setGen g .finished = { s with heap := h', toks := tk, gens := s.gens.setIfInBounds g .finished } := by
        show ({ s with heap := h', toks := tk, gens := (s.gens.setIfInBounds g .running).setIfInBounds g .finished } : Shared) = _
        rw [set_set]
      show wpAny _ A.in1 (newExc (.type "StopIteration") [] >>= _) _ _ (({ (s.setGen g .running) with heap := h', toks := tk } : Shared).setGen g .finished)
      rw [e]
      refine wpAny_bind ?_
      simp only [newExc, newTuple]
      refine wpAny_bind (wpAny_newObj_type ?_ (by size_fits))
      refine wpAny_bind (m := firstArgMember _ _) (wpAny_of_eq (a := Value.none) (by first | rfl | (simp only [firstArgMember]; rfl)) ?_)
      refine wpAny_newObj_type ?_ (by size_fits)
      simp only [raiseNew]
      refine wpAny_bind (wpAny_bind (wpAny_handled ?_))
      first | rw [show A.in1.handled = none from hh] | rw [hh]
      refine wpAny_throw ?_
      refine wpAny_bind (wpAny_isInstance (T := "StopIteration") (b := true) ⟨_, Heap.get?_push_size _ rfl, rfl⟩ isSubtype_stop ?_)
      exact wpAny_pure (hQ.2 _ _ fun b o hb e => Heap.get?_push_of_some _ (Heap.get?_push_of_some _ (hk b o hb e)))
end
section
variable {fin : Prop} {prog : Program} {w : World} {h₀ : Heap} {A : Around} {s s' s₁ : Shared} {fp fp' : List Addr} {ts : List (Int)} {c : Code} {t : Sem Fin} {fs : List Frame} {e : End}
theorem rdy_of (h : (ts = [] → fin) → SegX (model prog w) A c t fs s (Ends fin prog w h₀ A ts fp s)) : Rdy fin prog w h₀ A ts fp c t fs s := by
  cases ts with
  | nil =>
    intro hf
    refine SegX.mono (h fun _ => hf) fun e s' h => ?_
    rcases h with ⟨tok, ts', _, _, _, _, _, _, _, h, _⟩ | ⟨_, h2, h3⟩
    · cases h
    · exact ⟨h2, h3⟩
  | cons tok ts =>
    refine SegX.mono (h fun q => nomatch q) fun e s' h => ?_
    rcases h with ⟨tok', ts', v, l, k, c', p, fs', fp', h, h1, h2, h3, h4, h5, h6⟩ | ⟨h, _, _⟩
    · cases h; exact ⟨v, l, k, c', p, fs', fp', h1, h2, h3, h4, h5, h6⟩
    · cases h
theorem Ends.back (a : Kept fp s s') (h : Ends fin prog w h₀ A ts fp' s' e s₁) (hf : ∀ b ∈ fp', b ∈ fp ∨ s.heap.get? b = none) : Ends fin prog w h₀ A ts fp s e s₁ := by
  rcases h with ⟨tok, ts', v, l, k, c', p, fs', fp₁, h1, h2, h3, h4, h5, h6, h7⟩ | ⟨h1, h2, h3⟩
  · refine .inl ⟨tok, ts', v, l, k, c', p, fs', fp₁, h1, h2, h3, h4, a.trans h5 hf, fun b hb => ?_, h7⟩
    rcases h6 b hb with h | h
    · exact hf b h
    · by_cases hm : b ∈ fp
      · exact .inl hm
      · refine .inr ?_
        cases e : s.heap.get? b with
        | none => rfl
        | some o =>
          obtain ⟨h', tk, rfl, hk⟩ := a
          have := hk b o hm e
          rw [show h'.get? b = none from h] at this; cases this
  · exact .inr ⟨h1, h2, a.trans h3 hf⟩
theorem ends_tok {tok : Int} {v : Value} {l : List Value} {k : Resume → Sem Fin} {p : Pos} (hg : fs.any Frame.guarded = false) (ht : IsTokV s₁.heap v tok) (hk : Kept fp s s₁)
    (hf : ∀ b ∈ fp', b ∈ fp ∨ s.heap.get? b = none) (h : ∀ s'', Alike h₀ fp' s₁ s'' → (ts = [] → fin) → SegX (model prog w) A c (k (.send .none)) fs s'' (Ends fin prog w h₀ A ts fp' s'')) :
    Ends fin prog w h₀ A (tok :: ts) fp s (.susp v false l k c p fs) s₁ :=
  .inl ⟨tok, ts, v, l, k, c, p, fs, fp', rfl, rfl, hg, ht, hk, hf, fun s'' al => rdy_of (h s'' al)⟩
end
section
variable {fin : Prop} {prog : Program} {w : World} {A : Around} {h₀ : Heap} {s : Shared} {env : Env} {E : Value → Shared → Prop}
structure LoopSt (fin : Prop) (prog : Program) (w : World) (h₀ : Heap) (A : Around) (a L : Addr) (g : Nat) (W X : List Addr) (J : List (Int) → Heap → (Str → Option Value) → Prop) (s : Shared) (ts : List (Int)) (s' : Shared) : Prop where
  far : ∃ h tk gs fp, s' = { s with heap := h, toks := tk, gens := s.gens.setIfInBounds g gs } ∧ gs.bare = true ∧ (∀ b o, b ∉ X → s.heap.get? b = some o → h.get? b = some o) ∧ Pend fin prog w h₀ A ts fp gs s' ∧ (∀ b ∈ fp, b ∉ a :: L :: W) ∧ (∀ b ∈ fp, b ∈ X ∨ s.heap.get? b = none)
  gen : s'.heap.IsGen a g
  ns : ∃ m, s'.heap.Ns L m ∧ J ts s'.heap m
  base : ∀ b o, h₀.get? b = some o → s'.heap.get? b = some o
  live : ∀ b ∈ W, ∃ o, s'.heap.get? b = some o
theorem forloop_gen {R : Result → Shared → Prop} {xv : Str} {pv : Pos} {body : List Stmt} {a : Addr} {g : Nat} {W X : List Addr} {J : List (Int) → Heap → (Str → Option Value) → Prop} {ts : List (Int)}
    (hh : A.handled = none) (hroom : A.depth < recursionLimit) (hl : h₀.NoLimit) (hxv : env.kindOf xv = some .local)
    (hp : (env.scope.kind == .class || (env.scope.kind == .module && env.locals != env.globals)) = false)
    (hgs : g < s.gens.size) (hX : ∀ b ∈ env.locals :: W, b ∈ X) (haX : a ∉ env.locals :: W) (hX0 : ∀ b ∈ X, h₀.get? b = none) (haX0 : h₀.get? a = none) (haX2 : a ∉ X)
    (hJf : ∀ ts h h' m, J ts h m → (∀ b ∈ W, ∀ o, h.get? b = some o → h'.get? b = some o) → J ts h' m) (hLW : env.locals ∉ W)
    (step : ∀ tok ts m tu s₁, J (tok :: ts) s₁.heap m → s₁.heap.Ns env.locals (fun y => if y = xv then some (.int tok tu) else m y) →
      (∀ b o, h₀.get? b = some o → s₁.heap.get? b = some o) → (∀ b ∈ W, ∃ o, s₁.heap.get? b = some o) → Far g X s s₁ →
      wpAny (model prog w) A (execs body env) (GenPost env.locals W R (J ts) s₁) (fun _ _ => False) s₁)
    (hEnd : ∀ s' m', fin → Far g X s s' → s'.heap.Ns env.locals m' → J [] s'.heap m' → R (.ok .next) s')
    (hbrk : ∀ h m, J [] h m → fin)
    (h0 : LoopSt fin prog w h₀ A.in1 a env.locals g W X J s ts s) :
    codeAny (model prog w) A (.forLoop (.Name xv pv) (.ref a) body [] env) R s := by
  refine codeAny_forLoop_any (fun n s' => ∃ ts', n = ts'.length ∧ LoopSt fin prog w h₀ A.in1 a env.locals g W X J s ts' s') ?_ ts.length ⟨ts, rfl, h0⟩
  rintro n s' ⟨ts', rfl, ⟨h, tk, gs, fp, rfl, hb, hk, hP, hfa, hfX⟩, hgen, ⟨m, hn, hJ⟩, hbase, hlive⟩
  have hgs' : ({ s with heap := h, toks := tk, gens := s.gens.setIfInBounds g gs } : Shared).gens[g]? = some gs := by simp [hgs]
  have ees : ∀ y, (s.gens.setIfInBounds g gs).setIfInBounds g y = s.gens.setIfInBounds g y := fun y => set_set _ _ _ _
  refine gen_next hh (hl.keeps hbase) hroom hgen hgs' hP ?_
  cases ts' with
  | nil =>
    by_cases hfin : fin
    case neg => exact absurd (hbrk _ _ hJ) hfin
    refine ⟨hfin, ?_⟩
    intro h' tk' hk'
    refine wpAny_execs_nil ?_
    have hz : ∀ b o, b ∉ X → s.heap.get? b = some o → h'.get? b = some o := fun b o hb e => hk' b o (fun hm => by
      rcases hfX b hm with q | q
      · exact hb q
      · rw [q] at e; cases e) (hk b o hb e)
    refine hEnd _ m hfin ⟨h', tk', .finished, by simp [ees], rfl, hz⟩ (hn.at fun o e => hk' _ o (fun hm => hfa _ hm (by simp)) e) (hJf _ _ _ _ hJ fun b hb o e => hk' b o (fun hm => hfa _ hm (by simp [hb])) e)
  | cons tok ts' =>
    intro v h₁ tk₁ gs₁ fp₁ hv hk₁ hfp₁ hb₁ hP₁
    obtain ⟨tu, rfl⟩ := hv
    replace hfp₁ : ∀ b ∈ fp₁, b ∈ fp ∨ h.get? b = none := hfp₁
    replace hn : h.Ns env.locals m := hn
    replace hgen : h.IsGen a g := hgen
    replace hlive : ∀ b ∈ W, ∃ o, h.get? b = some o := hlive
    replace hbase : ∀ b o, h₀.get? b = some o → h.get? b = some o := hbase
    replace hk₁ : ∀ b o, b ∉ fp → h.get? b = some o → h₁.get? b = some o := hk₁
    simp only [ees] at hP₁ ⊢
    have hfa₁ : ∀ b ∈ fp₁, b ∉ a :: env.locals :: W := fun b hb hm => by
      rcases hfp₁ b hb with q | q
      · exact hfa b q hm
      · rcases List.mem_cons.mp hm with e | hm
        · obtain ⟨o, _, _, ho, _⟩ := hgen; rw [e, ho] at q; cases q
        · rcases List.mem_cons.mp hm with e | hm
          · obtain ⟨_, _, _, ho, _⟩ := hn; rw [e, ho] at q; cases q
          · obtain ⟨o, ho⟩ := hlive b hm; rw [ho] at q; cases q
    have hfX₁ : ∀ b ∈ fp₁, b ∈ X ∨ s.heap.get? b = none := fun b hb => by
      rcases hfp₁ b hb with q | q
      · exact hfX b q
      · by_cases hx : b ∈ X
        · exact .inl hx
        · refine .inr ?_
          cases e : s.heap.get? b with
          | none => rfl
          | some o => rw [hk b o hx e] at q; cases q
    have gen₁ : h₁.IsGen a g := by
      obtain ⟨o, nm, qn, ho, r⟩ := hgen
      exact ⟨o, nm, qn, hk₁ a o (fun hm => hfa a hm (by simp)) ho, r⟩
    have n₁ : h₁.Ns env.locals m := hn.at fun o e => hk₁ _ o (fun hm => hfa _ hm (by simp)) e
    refine wpAny_pure ?_
    refine wpAny_assign_Name (wpAny_storeName_local hxv n₁ (fun h₄ n₄ b₄ => ?_) hp)
    replace b₄ : Heap.SameBut env.locals h₁ h₄ := b₄
    have up₄ : ∀ b o, b ≠ env.locals → h₁.get? b = some o → h₄.get? b = some o := fun b o hb x => b₄.extBut b o hb x
    have ne₀ : ∀ b o, h₀.get? b = some o → b ∉ a :: env.locals :: W := fun b o e hm => by
      rcases List.mem_cons.mp hm with q | hm
      · rw [← q, e] at haX0; cases haX0
      · have := hX0 b (hX b hm); rw [e] at this; cases this
    have nfp : ∀ b, b ∈ fp → b ∉ a :: env.locals :: W := hfa
    have n0fp : ∀ b o, h₀.get? b = some o → b ∉ fp := fun b o e hm => by
      rcases hfX b hm with q | q
      · have := hX0 b q; rw [e] at this; cases this
      · rw [h0.base b o e] at q; cases q
    have base₄ : ∀ b o, h₀.get? b = some o → h₄.get? b = some o := fun b o e =>
      up₄ b o (fun q => ne₀ b o e (by simp [q])) (hk₁ b o (n0fp b o e) (hbase b o e))
    have w₄ : ∀ b ∈ W, ∀ o, h.get? b = some o → h₄.get? b = some o := fun b hb o e =>
      up₄ b o (fun q => hLW (q ▸ hb)) (hk₁ b o (fun hm => hfa b hm (by simp [hb])) e)
    have keepX : ∀ b o, b ∉ X → s.heap.get? b = some o → h₄.get? b = some o := fun b o hb e =>
      up₄ b o (fun q => hb (q ▸ hX _ (by simp))) (hk₁ b o (fun hm => by
        rcases hfX b hm with q | q
        · exact hb q
        · rw [q] at e; cases e) (hk b o hb e))
    refine wpAny_mono (step tok ts' m tu _ (hJf _ _ _ _ hJ w₄) n₄ base₄ (fun b hb => let ⟨o, ho⟩ := hlive b hb; ⟨o, w₄ b hb o ho⟩) ⟨h₄, _, gs₁, rfl, hb₁, keepX⟩) (fun f s₂ hf => ?_) (fun _ _ x => x.elim)
    rcases hf with ⟨rfl, h₅, tk₅, m₅, rfl, hk₅, n₅, J₅, live₅⟩ | ⟨rfl, hR⟩
    · replace hk₅ : ∀ b o, b ∉ env.locals :: W → h₄.get? b = some o → h₅.get? b = some o := hk₅
      have up₅ : ∀ b o, b ∉ env.locals :: W → h₁.get? b = some o → h₅.get? b = some o := fun b o hb x => hk₅ b o hb (up₄ b o (fun q => hb (by simp [q])) x)
      refine ⟨ts'.length, Nat.lt_succ_self _, ts', rfl, ⟨h₅, tk₅, gs₁, fp₁, rfl, hb₁, ?_, ?_, hfa₁, hfX₁⟩, ?_, ⟨m₅, n₅, J₅⟩, ?_, live₅⟩
      · exact fun b o hb e => hk₅ b o (fun hm => hb (hX b hm)) (keepX b o hb e)
      · refine hP₁.alike fun b hb o e => ?_
        replace e : h₁.get? b = some o := e
        show h₅.get? b = some o
        refine up₅ b o (fun hm => ?_) e
        rcases hb with hb | ⟨o', ho'⟩
        · exact hfa₁ b hb (List.mem_cons_of_mem _ hm)
        · exact ne₀ b o' ho' (List.mem_cons_of_mem _ hm)
      · obtain ⟨o, nm, qn, ho, r⟩ := gen₁
        exact ⟨o, nm, qn, up₅ a o haX ho, r⟩
      · exact fun b o e => hk₅ b o (fun hm => ne₀ b o e (List.mem_cons_of_mem _ hm)) (base₄ b o e)
    · exact hR
end
end MineI
namespace MineI
open Mine
section
variable {prog : Program} {w : World} {A : Around} {c : Code} {fs : List Frame} {s : Shared} {P : End → Shared → Prop} {env : Env}
  {K : Flow → Sem Fin} {H : Value → Sem Fin} {gd : Bool → Bool} {lv : List Value → List Value}
theorem sx_While {test : PySem.Expr} {body orelse : List Stmt} {pos : Pos} (hgd : gd false = false)
    (h : ∀ (k : Result → Sem Fin) (l : List Value) (p : Pos), (∀ f, k (.ok f) = K f) → SegX (model prog w) A (.whileLoop test body orelse env) (denote table (.whileLoop test body orelse env)) (.ret k none false l c p [] :: fs) s P) :
    SegX (model prog w) A c ((exec (.While test body orelse pos) env).wrap K H gd lv) fs s P := by
  rw [exec_While]
  refine sx_bind_wrap (wpAny_standAt ?_)
  refine s_call _ _ _ _ _ _ s _ _ _ _ _ (fun p => ?_)
  rw [hgd]
  exact h _ _ p fun f => rfl
theorem sx_whileLoop {test : PySem.Expr} {body orelse : List Stmt}
    (h : wpAny (model prog w) (A.over (.whileLoop test body orelse env) fs) (isTrue test env (eval test env)) (fun b s₁ => b = true ∧
            ∀ (H : Value → Sem Fin), SegX (model prog w) A (.whileLoop test body orelse env) ((execs body env).wrap (fun f => match f with
              | .next | .cont => .pure (.again (.whileLoop test body orelse env))
              | .brk => .pure (.done .next)
              | .ret v => .pure (.done (.ret v))) H id id) fs s₁ P) (fun _ _ => False) s) :
    SegX (model prog w) A (.whileLoop test body orelse env) (denote table (.whileLoop test body orelse env)) fs s P := by
  show SegX _ A _ ((whileTurn test body orelse env).onRaise (fun x => do noteFrame x env; theTreesLotGoes x)) fs s P
  unfold whileTurn
  rw [Sem.onRaise_eq_wrap]
  refine sx_bind_wrap (wpAny_mono h (fun b s₁ h₁ => ?_) fun _ _ x => x)
  obtain ⟨rfl, h₃⟩ := h₁
  simp only [if_true]
  rw [Sem.bind_eq_wrap', Sem.wrap_wrap]
  have := h₃ (fun e => (do noteFrame e env; theTreesLotGoes e : Sem Unit).wrap (fun _ => .raise e) .raise id id)
  rw [Sem.wrap_congr (execs body env) _ _ (K' := fun f => match f with
              | .next | .cont => .pure (.again (.whileLoop test body orelse env))
              | .brk => .pure (.done .next)
              | .ret v => .pure (.done (.ret v))) (H' := (fun e => (do noteFrame e env; theTreesLotGoes e : Sem Unit).wrap (fun _ => .raise e) .raise id id))
        (fun f => by cases f <;> rfl)
        (fun e => by first | exact Sem.bind_eq_wrap _ _ | (show (do noteFrame e env; theTreesLotGoes e : Sem Unit).bind (fun _ => .raise e) = _; rw [Sem.bind_eq_wrap]))]
  exact this
end
noncomputable def gi (k : Nat) : List Int → Option Int → List Int
  | [], _ => []
  | x :: r, last => if x = 127 then [] else if x = 0 then (match last with | some y => List.replicate k y | none => []) else x :: gi k r (some x)
noncomputable def giFin : List Int → Prop
  | [] => True
  | x :: r => if x = 127 then True else if x = 0 then False else giFin r
noncomputable def lastV : Option Int → Tok → Value
  | none, _ => .none
  | some y, u => .int y u
structure GSt (h₀ : Heap) (L it G : Addr) (xl : Str) (i : Nat) (last : Option Int) (h : Heap) : Prop where
  base : ∀ b o, h₀.get? b = some o → h.get? b = some o
  iter : h.IsListIter it G i
  frame : ∃ m u, h.Ns L m ∧ m xl = some (lastV last u)
structure GStV (h₀ : Heap) (L it G : Addr) (xl xi : Str) (i : Nat) (last : Option Int) (x : Int) (h : Heap) : Prop where
  base : ∀ b o, h₀.get? b = some o → h.get? b = some o
  iter : h.IsListIter it G (i + 1)
  frame : ∃ m u u', h.Ns L m ∧ m xl = some (lastV last u) ∧ m xi = some (.int x u')
theorem ints_at {vs : List Value} {xs : List Int} (h : IntsAre vs xs) : ∀ (i : Nat) (x : Int), xs[i]? = some x → ∃ u, vs[i]? = some (.int x u) := by
  induction h with
  | nil => intro i x e; cases e
  | cons a t h ih =>
    intro i x e
    cases i with
    | zero => cases e; exact ⟨t, rfl⟩
    | succ i => exact ih i x e
theorem ints_end {vs : List Value} {xs : List Int} (h : IntsAre vs xs) : ∀ (i : Nat), xs.length ≤ i → vs[i]? = none := by
  intro i hi
  have := IntsAre.length h
  exact List.getElem?_eq_none (by omega)
section
variable {fin : Prop} {prog : Program} {w : World} {h₀ : Heap} {A : Around} {L it G : Addr} {xl xi : Str} {env : Env} {pi : Pos} {B : List Stmt} {items : Array Value} {n : Nat} {xs : List Int} {k : Nat}
theorem gi_loop {kf : Result → Sem Fin} {l : List Value} {c₀ : Code} {p : Pos} (hL : env.locals = L)
    (hh : (A.over (.forLoop (.Name xi pi) (.ref it) B [] env) [.ret kf none false l c₀ p []]).handled = none)
    (hxi : env.kindOf xi = some .local) (hne : (xl == xi) = false)
    (hp : (env.scope.kind == .class || (env.scope.kind == .module && env.locals != env.globals)) = false)
    (hG : h₀.get? G = some (listOf items n)) (hI : IntsAre items.toList xs) (hiL : it ≠ L) (hit0 : h₀.get? it = none) (hL0 : h₀.get? L = none)
    (turn : ∀ (i : Nat) (x : Int) (r : List Int) (last : Option Int) (s' : Shared) (H : Value → Sem Fin) (K : Flow → Sem Fin), (giFin (x :: r) ↔ fin) → (x = 0 → last ≠ none) → GStV h₀ L it G xl xi i last x s'.heap → (∀ v, K (.ret v) = .pure (.done (.ret v))) → (gi k (x :: r) last = [] → fin) →
      (∀ s'', (giFin r ↔ fin) → GSt h₀ L it G xl (i + 1) (some x) s''.heap → (gi k r (some x) = [] → fin) →
        SegX (model prog w) A (.forLoop (.Name xi pi) (.ref it) B [] env) (K .next) [.ret kf none false l c₀ p []] s'' (Ends fin prog w h₀ A (gi k r (some x)) [L, it] s'')) →
      SegX (model prog w) A (.forLoop (.Name xi pi) (.ref it) B [] env) ((execs B env).wrap K H id id) [.ret kf none false l c₀ p []] s' (Ends fin prog w h₀ A (gi k (x :: r) last) [L, it] s'))
    (after : ∀ (s' : Shared), SegX (model prog w) A c₀ (kf (.ok .next)) [] s' (Ends fin prog w h₀ A [] [L, it] s')) :
    ∀ (r : List Int) (i : Nat) (last : Option Int) (s : Shared), xs.drop i = r → i ≤ xs.length → (giFin r ↔ fin) → (last = none → r.head? ≠ some 0) → GSt h₀ L it G xl i last s.heap → (gi k r last = [] → fin) →
      SegX (model prog w) A (.forLoop (.Name xi pi) (.ref it) B [] env) (denote table (.forLoop (.Name xi pi) (.ref it) B [] env)) [.ret kf none false l c₀ p []] s (Ends fin prog w h₀ A (gi k r last) [L, it] s) := by
  subst hL
  have hGL : G ≠ env.locals := fun e => by rw [e, hL0] at hG; cases hG
  have hGi : G ≠ it := fun e => by rw [e, hit0] at hG; cases hG
  have back : ∀ {ts : List Int} {s s' : Shared} {cc tt ff}, Kept [env.locals, it] s s' → SegX (model prog w) A cc tt ff s' (Ends fin prog w h₀ A ts [env.locals, it] s') → SegX (model prog w) A cc tt ff s' (Ends fin prog w h₀ A ts [env.locals, it] s) :=
    fun a h => SegX.mono h fun _ _ h => Ends.back a h fun b hb => .inl hb
  intro r
  induction r with
  | nil =>
    intro i last s hr hi hf hz g hfin
    have hsz : i = xs.length := by
      have := congrArg List.length hr
      simp at this; omega
    refine sx_forLoop ?_
    refine wpAny_pyNext_list_end hh g.iter ⟨_, g.base _ _ hG, rfl, _, rfl⟩ (by have := ints_end hI i (by omega); simpa using this) fun h' hk => ?_
    have kp : Kept [env.locals, it] s { s with heap := h' } := ⟨h', _, rfl, fun b o hb x => hk b o (fun hm => hb (by simp [hm])) x⟩
    refine back kp (sx_block fun H => sx_execs_nil (sx_pop (r := .ok .next) ?_))
    exact after _
  | cons x r ih =>
    intro i last s hr hi hf hz g hfin
    have hlt : i < xs.length := by
      have := congrArg List.length hr
      simp at this; omega
    have hget : xs[i]? = some x := by
      have := congrArg (fun l => l[0]?) hr
      simpa using this
    have hr' : xs.drop (i + 1) = r := by
      have := congrArg List.tail hr
      simpa using this
    obtain ⟨u, hv⟩ := ints_at hI i x hget
    refine sx_forLoop ?_
    refine wpAny_pyNext_list_item g.iter ⟨_, g.base _ _ hG, rfl, _, rfl⟩ (x := .int x u) (by simpa using hv) fun h₁ it₁ b₁ => ?_
    replace b₁ : Heap.SameBut it s.heap h₁ := b₁
    refine wpAny_pure ?_
    obtain ⟨m, u', hn, hm⟩ := g.frame
    have n₁ : h₁.Ns env.locals m := hn.at fun o x => b₁.extBut _ _ (Ne.symm hiL) x
    refine wpAny_assign_Name (wpAny_storeName_local hxi n₁ (fun h₂ n₂ b₂ => ?_) hp)
    replace b₂ : Heap.SameBut env.locals h₁ h₂ := b₂
    intro H
    have up : ∀ b o, b ∉ [env.locals, it] → s.heap.get? b = some o → h₂.get? b = some o := fun b o hb x => b₂.extBut b o (fun q => hb (by simp [q])) (b₁.extBut b o (fun q => hb (by simp [q])) x)
    have kp : ∀ tk', Kept [env.locals, it] s { s with heap := h₂, toks := tk' } := fun tk' => ⟨h₂, _, rfl, up⟩
    refine back (kp _) (turn i x r last _ H _ hf (fun e q => hz q (by rw [e]; rfl)) ⟨?_, ?_, ?_⟩ (fun _ => rfl) hfin fun s'' hf' g' hfin' => ?_)
    · exact fun b o e => up b o (fun hm => by
        simp only [List.mem_cons, List.not_mem_nil, or_false] at hm
        rcases hm with q | q
        · rw [q, hL0] at e; cases e
        · rw [q, hit0] at e; cases e) (g.base b o e)
    · obtain ⟨o, ho, rr⟩ := it₁
      exact ⟨o, b₂.extBut _ _ hiL ho, rr⟩
    · refine ⟨_, u', u, n₂, ?_, ?_⟩
      · simp [beq_eq_false_iff_ne.mp hne, hm]
      · simp
    · exact s_again _ _ _ _ _ _ _ _ rfl (ih (i + 1) (some x) s'' hr' hlt hf' (fun q => nomatch q) g' hfin')
end
end MineI
namespace MineI
open Mine
theorem GStV.at {h₀ : Heap} {L it G : Addr} {xl xi : Str} {i : Nat} {last : Option Int} {x : Int} {h h' : Heap} (g : GStV h₀ L it G xl xi i last x h)
    (k : ∀ b, (b ∈ [L, it] ∨ ∃ o, h₀.get? b = some o) → ∀ o, h.get? b = some o → h'.get? b = some o) : GStV h₀ L it G xl xi i last x h' := by
  obtain ⟨hb, ⟨o, ho, r⟩, ⟨m, u, u', hn, h1, h2⟩⟩ := g
  exact ⟨fun b o e => k b (.inr ⟨o, e⟩) _ (hb b o e), ⟨o, k _ (.inl (by simp)) _ ho, r⟩, ⟨m, u, u', hn.at fun o e => k _ (.inl (by simp)) o e, h1, h2⟩⟩
theorem rep_loop {fin : Prop} {prog : Program} {w : World} {h₀ : Heap} {A : Around} {c : Code} {t : Sem Fin} {fs : List Frame} {fp : List Addr} {y : Int} {I : Shared → Prop}
    (step : ∀ (j : Nat) (s2 : Shared), I s2 → (∀ s3, I s3 → (List.replicate j y = [] → fin) → SegX (model prog w) A c t fs s3 (Ends fin prog w h₀ A (List.replicate j y) fp s3)) → SegX (model prog w) A c t fs s2 (Ends fin prog w h₀ A (y :: List.replicate j y) fp s2)) (hnf : ¬ fin) :
    ∀ (j : Nat) (s2 : Shared), I s2 → (List.replicate j y = [] → fin) → SegX (model prog w) A c t fs s2 (Ends fin prog w h₀ A (List.replicate j y) fp s2) := by
  intro j
  induction j with
  | zero => exact fun _ _ h => absurd (h rfl) hnf
  | succ j ih => exact fun s2 h _ => step j s2 h ih
abbrev Gn (N M : Nat) (w : World) (loose : List Str) (mean : ExcName → Option Value) (mg mb : Str → Option Value) (f : Addr) (pre : Heap → Prop) (vs : List Value) (fin : Prop) (ts : List Int) : Prop :=
  ∀ (dp un : Nat) (gd : Option (List Code)) (cn : Str) (cs : Scope) (a : Addr) (ccd : Value) (cl : List (Str × Addr)) (outer : List Env) (A₀ : Around) (base h₀ : Heap) (L : Addr) (m : Str → Option Value) (s : Shared) (Q E : Value → Shared → Prop),
    Below A₀ base outer h₀ → Fr h₀ L s.heap m → (Mine.hd.heap_39 w.params).In h₀ → Top Mine.hd.view_39 loose mean mg mb h₀ → cs.kind = .function →
    pre h₀ → dp + N < recursionLimit → un + M < cLine →
    (∀ (h' : Heap) (a' L' : Addr) (gs : GenState) (tk' : Nat), h'.IsGen a' s.gens.size → s.heap.get? a' = none → s.heap.get? L' = none → a' ≠ L' → (∀ b o, s.heap.get? b = some o → h'.get? b = some o) → gs.bare = true →
      (∀ (A' : Around), A'.handled = none → Pend fin Challenge.rw_sw0030_01.row.prog w h₀ A' ts [L'] gs { s with heap := h', toks := tk', gens := s.gens.push gs }) →
      Q (.ref a') { s with heap := h', toks := tk', gens := s.gens.push gs }) →
      wpAny (model Challenge.rw_sw0030_01.row.prog w) (ktrTop dp un gd cn cs L a ccd cl outer) (call (.ref f) vs) Q E s
set_option maxRecDepth 100000 in
set_option maxHeartbeats 8000000 in
theorem gi_c (w : World) (mean mg mb) (k : Nat) (G : Addr) (items : Array Value) (n : Nat) (xs : List Int) (fin : Prop) (hI : IntsAre items.toList xs) (hfin : giFin xs ↔ fin) (hz : xs.head? ≠ some 0) (hk0 : gi k xs none = [] → fin) :
    Gn 2 20 w (looseW Mine.hd.view_39 []) mean mg mb 28 (fun h₀ => h₀.get? G = some (listOf items n)) [.ref G] fin (gi k xs none) := by
  unfold Gn
  k_fill
  intros
  rename_i h₀ _ _ s _ _ hB hF hX hT hk hpre _ _ hret
  refine wpAny_call ?_
  k_dflt (refine' codeG ?k2 ?k3 ?k5 ?k6 ?k7 ?k8 ?k9 ?kB ?_ ?c2 ?c3 ?c4 ?c5; (case k2 => k_asm); (case k3 => k_asm); (case k5 => k_asm); (case k6 => k_is); (case k7 => k_is); (case k8 => ktr_room); (case k9 => exact BindsTo.of_eq rfl); (case c5 => decide); (case kB => exact locs rfl); (case c2 => exact rfl); (case c3 => exact rfl); (case c4 => exact rfl); k_whole)
  intro h' a' tk' hg hn hne hns hkp
  refine hret h' a' _ _ tk' hg hn (Heap.get?_none_of_le (Nat.le_refl _)) hne hkp rfl fun A' hA => ?_
  unfold Pend
  intro s'' al
  refine rdy_of fun hfin0 => (sx_func fun H => ?_)
  have ns := hns.at (h' := s''.heap) fun o e => al _ (.inl (by simp)) o e
  have hbase : ∀ b o, h₀.get? b = some o → s''.heap.get? b = some o := fun b o e => al b (.inr ⟨o, e⟩) o (hkp b o (hF.keep b o e))
  have habove : h₀.objs.size ≤ s.heap.objs.size := Nat.le_trans hF.above (Nat.le_of_lt hF.ns.lt)
  clear al hns hg hn hne hkp hret
  generalize s.heap.objs.size = L' at ns habove ⊢
  refine sx_execs_cons (sx_plain (wpAny_Assign_Name (wpAny_Constant_none (wpAny_storeName_local rfl ns (fun h2 n2 b2 => ?_)))))
  replace b2 : Heap.SameBut L' s''.heap h2 := b2
  have hL'x : ∀ b o, h₀.get? b = some o → b ≠ L' := fun b o e => Nat.ne_of_lt (Nat.lt_of_lt_of_le (Heap.lt_size e) habove)
  have F2 : Fr h₀ L' h2 _ := ⟨n2, fun b o e => b2.extBut b o (hL'x b o e) (hbase b o e), habove⟩
  refine sx_execs_cons (sx_For rfl ?_ (fun _ => rfl))
  refine wpAny_Name (wpAny_loadName_local rfl rfl n2 (by rfl) ?_)
  refine wpAny_pyIter_list ⟨_, F2.keep _ _ hpre, rfl, _, rfl⟩ ?_
  intro kf l p hkk
  have hz2 : s''.heap.objs.size = h2.objs.size := by rw [b2.1]
  have hLlt : L' < h2.objs.size := n2.lt
  have hit0 : h₀.get? h2.objs.size = none := Heap.get?_none_of_le (Nat.le_trans habove (Nat.le_of_lt hLlt))
  have hL0 : h₀.get? L' = none := Heap.get?_none_of_le habove
  have upP : ∀ {o : Obj} b o', h2.get? b = some o' → (h2.push o).get? b = some o' := fun b o' e => Heap.get?_push_of_some _ e
  have frL : ∀ b ∈ [L', h2.objs.size], b ∈ [L'] ∨ s''.heap.get? b = none := fun b hb => by
    simp only [List.mem_cons, List.not_mem_nil, or_false] at hb ⊢
    rcases hb with rfl | rfl
    · exact .inl rfl
    · exact .inr (Heap.get?_none_of_le (by rw [hz2]; exact Nat.le_refl _))
  refine SegX.mono (gi_loop (L := L') (it := h2.objs.size) (G := G) (k := k) (fin := fin) (xl := "last_interval") rfl hA rfl rfl rfl hpre hI (Nat.ne_of_gt hLlt) hit0 hL0 ?turn ?after xs 0 none _ rfl (Nat.zero_le _) hfin (fun _ => hz) ⟨?s1, ?s2, ?s3⟩ hk0) (fun _ _ h => Ends.back ⟨_, _, rfl, fun b o hb e => upP _ _ (b2.extBut b o (by simpa using hb) e)⟩ h frL)
  case s1 => exact fun b o e => upP _ _ (F2.keep _ _ e)
  case s2 => exact ⟨_, Heap.get?_push_size _ rfl, rfl, rfl⟩
  case s3 => exact ⟨_, 0, n2.keeps fun b o e => upP _ _ e, rfl⟩
  case after =>
    intro s1
    rw [hkk]
    exact sx_execs_nil (sx_end (r := .ok (.ret .none)) (Or.inr ⟨rfl, rfl, Kept.refl⟩))
  case turn =>
    intro i x r last s1 H K1 hf hzl g hK hfn next
    obtain ⟨m, u, u', hn, hml, hmi⟩ := id g.frame
    have F1 : Fr h₀ L' s1.heap m := ⟨hn, g.base, habove⟩
    refine sx_execs_cons (sx_If (wpAny_isTrue_Compare1 (wpAny_Name (wpAny_loadName_local rfl rfl hn hmi (ld_global_at F1 hT.g (mg_of hX hT.g (by k_is)) ?_)))))
    refine PyProof.Rows.eq_int (wpAny_truthy_bool ?_)
    have hLi : L' ≠ h2.objs.size := Nat.ne_of_lt hLlt
    by_cases hx : x = 127
    · subst hx
      rw [if_pos (by decide)]
      refine sx_execs_cons (sx_plain (wpAny_Return_none ?_))
      dsimp only
      rw [hK]
      refine sx_pop (r := .ok (.ret .none)) ?_
      rw [hkk]
      exact sx_end (r := .ok (.ret .none)) (Or.inr ⟨rfl, rfl, Kept.refl⟩)
    · rw [if_neg (by simpa using hx)]
      refine sx_execs_nil ?_
      refine sx_execs_cons (sx_If (wpAny_isTrue_Compare1 (wpAny_Name (wpAny_loadName_local rfl rfl hn hmi (wpAny_Constant_int (PyProof.Rows.eq_int (wpAny_truthy_bool ?_)))))))
      by_cases hx0 : x = 0
      · subst hx0
        rw [if_pos (by decide)]
        cases last with
        | none => exact absurd rfl (hzl rfl)
        | some y =>
          have hgi : gi k (0 :: r) (some y) = List.replicate k y := by simp [gi]
          have hnf : ¬ fin := by rw [← hf]; simp [giFin]
          rw [hgi] at hfn ⊢
          refine sx_execs_cons (sx_If (wpAny_isTrue_Compare1 (wpAny_Name (wpAny_loadName_local rfl rfl hn hml (wpAny_Constant_none (is_none_gen (wpAny_truthy_bool ?_)))))))
          rw [if_neg (by simp [lastV])]
          refine sx_execs_nil ?_
          refine sx_execs_cons (sx_While rfl ?_)
          intro kw lw pw hkw
          refine SegX.mono (rep_loop (I := fun s2 => GStV h₀ L' h2.objs.size G "last_interval" "interval" i (some y) 0 s2.heap) ?_ hnf k _ g hfn) (fun _ _ h => Ends.back ⟨_, _, rfl, fun _ _ _ e => e⟩ h (fun b hb => .inl hb))
          intro j s2 g2 ih
          obtain ⟨m2, u2, u2', hn2, hml2, hmi2⟩ := id g2.frame
          refine sx_whileLoop (isTrue_plain (wpAny_Constant_bool (wpAny_truthy_bool ⟨rfl, fun H2 => ?_⟩)))
          refine sx_execs_cons (sx_Yield rfl rfl rfl (wpAny_Name (wpAny_loadName_local rfl rfl hn2 hml2 ?_)) rfl rfl)
          intro p2 l2 k2 hk2
          refine ends_tok (ts := List.replicate j y) (fp' := [L', h2.objs.size]) rfl ⟨_, rfl⟩ ⟨_, _, rfl, fun _ _ _ e => e⟩ (fun b hb => .inl hb) fun s3 al hfn3 => ?_
          refine hk2 _ _ (sx_execs_nil ?_)
          exact s_again _ _ _ _ _ _ _ _ rfl (ih s3 (g2.at fun b hb o e => al b (hb.elim .inl .inr) o e) hfn3)
      · rw [if_neg (by simpa using hx0)]
        have hgi : gi k (x :: r) last = x :: gi k r (some x) := by simp [gi, hx, hx0]
        have hf' : giFin r ↔ fin := by rw [← hf]; simp [giFin, hx, hx0]
        rw [hgi]
        refine sx_execs_nil ?_
        refine sx_execs_cons (sx_Yield rfl rfl rfl (wpAny_Name (wpAny_loadName_local rfl rfl hn hmi ?_)) rfl rfl)
        intro p2 l2 k2 hk2
        refine ends_tok (ts := gi k r (some x)) (fp' := [L', h2.objs.size]) rfl ⟨_, rfl⟩ ⟨_, _, rfl, fun _ _ _ e => e⟩ (fun b hb => .inl hb) fun s2 al hfn2 => ?_
        have g2 := g.at (h' := s2.heap) fun b hb o e => al b (hb.elim .inl .inr) o e
        obtain ⟨m2, u2, u2', hn2, hml2, hmi2⟩ := id g2.frame
        refine hk2 _ _ ?_
        refine sx_execs_cons (sx_plain (wpAny_Assign_Name (wpAny_Name (wpAny_loadName_local rfl rfl hn2 hmi2 (wpAny_storeName_local rfl hn2 (fun h4 n4 b4 => ?_))))))
        replace b4 : Heap.SameBut L' s2.heap h4 := b4
        refine sx_execs_nil ?_
        have up4 : ∀ b o, b ≠ L' → s2.heap.get? b = some o → h4.get? b = some o := fun b o hb e => b4.extBut b o hb e
        refine SegX.mono (next _ hf' ⟨fun b o e => up4 b o (hL'x b o e) (g2.base b o e), ?_, ⟨_, u2', n4, by simp [lastV]⟩⟩ hfn2) (fun _ _ h => Ends.back (kept_set (by simp) b4) h (fun b hb => .inl hb))
        obtain ⟨o, ho, rr⟩ := g2.iter
        exact ⟨o, up4 _ _ (Ne.symm hLi) ho, rr⟩
end MineI
namespace Mine
abbrev Chg (N M : Nat) (w : World) (loose : List Str) (mean : ExcName → Option Value) (mg mb : Str → Option Value) (f : Addr) (pre : Heap → Prop) (vs : List Value) (R : Heap → Heap → Value → Prop) : Prop :=
  ∀ (dp un : Nat) (gd : Option (List Code)) (cn : Str) (cs : Scope) (a : Addr) (ccd : Value) (cl : List (Str × Addr)) (outer : List Env) (A₀ : Around) (base h₀ : Heap) (L : Addr) (m : Str → Option Value) (s : Shared) (Q E : Value → Shared → Prop),
    Below A₀ base outer h₀ → Fr h₀ L s.heap m → (Mine.hd.heap_39 w.params).In h₀ → Top Mine.hd.view_39 loose mean mg mb h₀ → cs.kind = .function →
    pre s.heap → dp + N < recursionLimit → un + M < cLine →
    (∀ (v : Value) (h' : Heap) (tk' : Nat) (gens' : Array GenState), (∀ b o, s.heap.get? b = some o → h'.get? b = some o) → (AllBare s.gens → AllBare gens') → R s.heap h' v → Q v { s with heap := h', toks := tk', gens := gens' }) →
      wpAny (model Challenge.rw_sw0030_01.row.prog w) (ktrTop dp un gd cn cs L a ccd cl outer) (call (.ref f) vs) Q E s
noncomputable def NewInts (xs : List Int) (h₀ h : Heap) (v : Value) : Prop := ∃ l vs n, v = .ref l ∧ h₀.get? l = none ∧ h.get? l = some (listOf vs n) ∧ IntsAre vs.toList xs
theorem set_bare {a : Array GenState} {x y : GenState} (h : AllBare a) (hy : y.bare = true) : AllBare ((a.push x).setIfInBounds a.size y) := bare_set h hy
abbrev JZ (xs : List Int) (l1 : Addr) (ts : List Int) (h : Heap) (m : Str → Option Value) : Prop :=
  ∃ (res : List Int) (items : Array Value) (n : Nat), m "sizes" = some (.ref l1) ∧ h.get? l1 = some (W.listOf items n) ∧ IntsAre items.toList res ∧ res ++ ts = MineI.gi 6 xs none ∧ res.length < 6
set_option maxRecDepth 100000 in
set_option maxHeartbeats 8000000 in
theorem sizes_c (w : World) (mean mg mb) (G : Addr) (items : Array Value) (n : Nat) (xs : List Int) (fin : Prop) (hI : IntsAre items.toList xs) (hfin : MineI.giFin xs ↔ fin) (hz : xs.head? ≠ some 0) (h6 : ¬ fin → 6 ≤ (MineI.gi 6 xs none).length) :
    Chg 8 100 w (looseW Mine.hd.view_39 []) mean mg mb 98 (fun h => h.get? G = some (listOf items n)) [.ref G] (NewInts ((MineI.gi 6 xs none).take 6)) := by
  unfold Chg
  k_fill
  intros
  rename_i h₀ _ _ s _ _ hB hF hX hT hk hpre _ _ hret
  refine wpAny_call ?_
  k_dflt (refine' codeP ?zqk1 ?zqk2 ?zqk3 ?zqk5 ?zqkA ?zqkF ?zqkK ?zqk6 ?zqk7 ?zqk8 ?zqk9 ?zqkB ?_ ?zqc2 ?zqc3 ?zqc4 ?zqc5; (case zqkA => exact rfl); (case zqkF => exact rfl); (case zqkK => assumption); (case zqk1 => k_asm); (case zqk2 => k_asm); (case zqk3 => k_asm); (case zqk5 => k_asm); (case zqk6 => k_is); (case zqk7 => k_is); (case zqk8 => ktr_room); (case zqk9 => exact BindsTo.of_eq rfl); (case zqc5 => decide); (case zqkB => exact locs rfl); (case zqc2 => exact rfl); (case zqc3 => exact rfl); (case zqc4 => exact rfl); k_whole; intro h' F' N' B' X' T'; (try dsimp only); (try k_fold))
  repeat' (first
    | (k_unfold; (try dsimp only))
    | (k_end; wrow_close)
    | ((with_reducible show wpAny _ _ (exec (PySem.Stmt.For _ _ _ _ _) _) _ _ _); (k_here; k_dflt (refine For_g ?_ (fun _ => rfl))))
    | ((with_reducible show wpAny _ _ (call (Value.builtin "list.append") _) _ _ _); (k_here; k_dflt (refine append_head (by assumption) (by assumption) (by assumption) ?_ (by simp only [sizeLine_eq]; omega)); intro _ _ _; (try dsimp only)))
    | ((with_reducible show wpAny _ _ (loadName _ _) _ _ _); (k_here; k_dflt (refine' loadN ?zqF ?zqv ?_ ?zqa ?zqb ?zqc; (case zqF => k_asm); (case zqa => rfl); (case zqb => rfl); (case zqc => rfl); (case zqv => walk_at "lk"); k_whole)))
    | walk1
    | (dsimp only; walk1)
    | (leave1; walk_say "STEP leave1"; try dsimp only)
    | fail "no step")
  k_dflt (refine MineI.gi_c _ _ _ _ 6 G items n xs fin hI hfin hz ?hk0 _ _ _ _ _ _ _ _ _ _ _ _ _ _ _ _ _ (by k_asm) (by k_asm) (by k_asm) (by k_asm) (by exact rfl) (by assumption) (by ktr_room) (by ktr_units) ?_)
  case hk0 =>
    intro e
    by_cases hf : fin
    · exact hf
    · have := h6 hf; rw [e] at this; simp at this
  intro h1 a1 L1 gs1 tk1 hg1 hn1 hL1 hne1 hk1 hb1 hp1
  refine ⟨a1, _, rfl, hg1, ?_⟩
  rename Fr _ _ _ _ => F1
  rename News _ _ _ _ => N1
  rename_i l1 _ _ _
  rename Top _ _ _ _ _ s.heap => T'
  have hl1 := N1 _ (List.Mem.head _)
  have nn : ∀ b, Heap.get? _ b = none → s.heap.get? b = none := fun b hb => by
    cases e : s.heap.get? b with
    | none => rfl
    | some o => rw [F1.keep b o e] at hb; cases hb
  have aL : a1 ≠ s.heap.objs.size := fun e => by
    obtain ⟨_, _, _, ho, _⟩ := F1.ns; rw [← e, hn1] at ho; cases ho
  have al : a1 ≠ l1 := fun e => by
    have := hl1.1; rw [← e] at this; rw [hn1] at this; cases this
  have hret2 : ∀ (tok : Int) (res ts : List Int), res ++ tok :: ts = MineI.gi 6 xs none → res.length + 1 = 6 → res ++ [tok] = (MineI.gi 6 xs none).take 6 := fun tok res ts e h => by
    rw [← e, show res ++ tok :: ts = (res ++ [tok]) ++ ts by simp, List.take_left' (by simpa using h)]
  refine MineI.forloop_gen (fin := fin) (ts := MineI.gi 6 xs none) (g := s.gens.size) (h₀ := s.heap) (W := [l1]) (X := [L1, s.heap.objs.size, l1]) (J := JZ xs l1)
      rfl (by ktr_room) T'.nolimit rfl rfl ?g1 ?g2 ?g3 ?g4 ?g5 ?g6 ?g7 ?g8 ?step ?fin ?brk ?start
  case g1 => simp
  case g2 => intro b hb; exact List.mem_cons_of_mem _ hb
  case g3 => intro hm; simp only [List.mem_cons, List.not_mem_nil, or_false] at hm; rcases hm with e | e; exact aL e; exact al e
  case g4 =>
    intro b hb; simp only [List.mem_cons, List.not_mem_nil, or_false] at hb; rcases hb with e | e | e
    · rw [e]; exact nn _ hL1
    · rw [e]; exact Heap.get?_none_of_le (Nat.le_refl _)
    · rw [e]; exact hl1.2.2
  case g5 => exact nn _ hn1
  case g6 => intro hm; simp only [List.mem_cons, List.not_mem_nil, or_false] at hm; rcases hm with e | e | e; exact hne1 e; exact aL e; exact al e
  case g7 =>
    rintro ts h h' m ⟨res, items, n, j1, j5, j6, j7, j8⟩ hk
    exact ⟨res, items, n, j1, hk l1 (List.Mem.head _) _ j5, j6, j7, j8⟩
  case g8 => intro hm; simp only [List.mem_cons, List.not_mem_nil, or_false] at hm; exact hl1.2.1 hm.symm
  case brk =>
    rintro h m ⟨res, items, n, j1, j5, j6, j7, j8⟩
    by_cases hf : fin
    · exact hf
    · have := h6 hf; rw [← j7] at this; simp at this; omega
  case step =>
    rintro tok ts m tu s₁ ⟨res, its, n3, j1, j5, j6, j7, j8⟩ n3' base3 live3 ⟨h3, tk3, gs3, rfl, hb3, hk3⟩
    have F3 : Fr s.heap s.heap.objs.size h3 _ := ⟨n3', base3, Nat.le_refl _⟩
    obtain ⟨rest, hr1, hr2⟩ := ledger_all s.heap h3 [s.heap.objs.size, l1]
    have N3 : News s.heap s.heap.objs.size h3 ((l1, W.listOf its n3) :: rest) := fun p hp => by
      rcases List.mem_cons.mp hp with e | hp
      · rw [e]; exact ⟨j5, hl1.2⟩
      · obtain ⟨q1, q2, q3⟩ := hr1 p hp
        exact ⟨q1, fun e => q2 (by simp [e]), q3⟩
    have hap : ∀ p ∈ rest, p.1 ≠ l1 := fun p hp e => (hr1 p hp).2.1 (by simp [e])
    have kr := fun h' m' o => keep_rest (X := [s.heap.objs.size, l1]) (h' := h') (L := s.heap.objs.size) (m := m') (l := [(l1, o)]) base3 hr2
    replace hl1 := hl1.2
    have hsz : its.size = res.length := by have := IntsAre.length j6; simpa using this
    have hsz2 : (its.push (.int tok tu)).size = res.length + 1 := by simp [hsz]
    have hI2 : IntsAre (its.push (.int tok tu)).toList (res ++ [tok]) := intsAre_push j6
    clear n3' base3 live3 hk3 N1 F1 hr1 hr2 hp1 hk1 hn1 hL1 hg1
    revert F3
    refine fun F3 => fr_abs2 (v2 := .int tok tu) "sizes" "size" F3 j1 rfl ?_
    intro m3 y1 y2 F3
    repeat' (first
      | (k_unfold; (try dsimp only))
      | (k_end; wrow_close)
      | ((with_reducible show wpAny _ _ (exec (PySem.Stmt.For _ _ _ _ _) _) _ _ _); (k_here; k_dflt (refine For_g ?_ (fun _ => rfl))))
      | ((with_reducible show wpAny _ _ (call (Value.builtin "list.append") _) _ _ _); (k_here; k_dflt (refine append_head (by assumption) (by assumption) (by assumption) ?_ (by simp only [sizeLine_eq]; omega)); intro _ _ _; (try dsimp only)))
      | ((with_reducible show wpAny _ _ (loadName _ _) _ _ _); (k_here; k_dflt (refine' loadN ?zqF ?zqv ?_ ?zqa ?zqb ?zqc; (case zqF => k_asm); (case zqa => rfl); (case zqb => rfl); (case zqc => rfl); (case zqv => walk_at "lk"); k_whole)))
      | walk1
      | (dsimp only; walk1)
      | (leave1; walk_say "STEP leave1"; try dsimp only)
      | fail "no step")
    · rename Fr _ _ _ _ => F5
      rename News _ _ _ _ => N5
      rename ((res.length + 1 : Nat) : Int) = 6 => h6'
      have h6' : res.length + 1 = 6 := by omega
      refine .inr ⟨rfl, ?_⟩
      repeat' (first
        | (k_unfold; (try dsimp only))
        | (k_end; wrow_close)
        | ((with_reducible show wpAny _ _ (exec (PySem.Stmt.For _ _ _ _ _) _) _ _ _); (k_here; k_dflt (refine For_g ?_ (fun _ => rfl))))
        | ((with_reducible show wpAny _ _ (call (Value.builtin "list.append") _) _ _ _); (k_here; k_dflt (refine append_head (by assumption) (by assumption) (by assumption) ?_ (by simp only [sizeLine_eq]; omega)); intro _ _ _; (try dsimp only)))
        | ((with_reducible show wpAny _ _ (loadName _ _) _ _ _); (k_here; k_dflt (refine' loadN ?zqF ?zqv ?_ ?zqa ?zqb ?zqc; (case zqF => k_asm); (case zqa => rfl); (case zqb => rfl); (case zqc => rfl); (case zqv => walk_at "lk"); k_whole)))
        | walk1
        | (dsimp only; walk1)
        | (leave1; walk_say "STEP leave1"; try dsimp only)
        | fail "no step")
      exact hret _ _ _ _ F5.keep (fun hb => set_bare hb hb3) ⟨l1, _, _, rfl, hl1.2, (N5 _ (.head _)).1, by rw [← hret2 tok res ts j7 h6']; exact hI2⟩
    · rename Fr _ _ _ _ => F5
      rename News _ _ _ _ => N5
      rename ¬ ((res.length + 1 : Nat) : Int) = 6 => h6'
      refine .inl ⟨rfl, _, _, _, rfl, kr _ _ _ F5 N5, F5.ns, ⟨res ++ [tok], _, _, y1, (N5 _ (.head _)).1, hI2, by rw [← j7]; simp, by simp; omega⟩, fun b hb => ?_⟩
      rw [List.mem_singleton.mp hb]; exact ⟨_, (N5 _ (.head _)).1⟩
  case fin =>
    rintro s' m' hfi ⟨h2, tk2, gs2, rfl, hb2, hk2⟩ n2 ⟨res, its, n3, j1, j5, j6, j7, j8⟩
    have notX : ∀ b o, s.heap.get? b = some o → b ∉ [L1, s.heap.objs.size, l1] := fun b o e hm => by
      simp only [List.mem_cons, List.not_mem_nil, or_false] at hm
      rcases hm with q | q | q
      · rw [q, nn _ hL1] at e; cases e
      · rw [q, Heap.get?_none_of_le (Nat.le_refl _)] at e; cases e
      · rw [q, hl1.2.2] at e; cases e
    have F2 : Fr s.heap s.heap.objs.size h2 m' := ⟨n2, fun b o e => hk2 b o (notX b o e) (hk1 b o (F1.keep b o e)), Nat.le_refl _⟩
    clear F1 N1 n2
    repeat' (first
      | (k_unfold; (try dsimp only))
      | (k_end; wrow_close)
      | ((with_reducible show wpAny _ _ (exec (PySem.Stmt.For _ _ _ _ _) _) _ _ _); (k_here; k_dflt (refine For_g ?_ (fun _ => rfl))))
      | ((with_reducible show wpAny _ _ (call (Value.builtin "list.append") _) _ _ _); (k_here; k_dflt (refine append_head (by assumption) (by assumption) (by assumption) ?_ (by simp only [sizeLine_eq]; omega)); intro _ _ _; (try dsimp only)))
      | ((with_reducible show wpAny _ _ (loadName _ _) _ _ _); (k_here; k_dflt (refine' loadN ?zqF ?zqv ?_ ?zqa ?zqb ?zqc; (case zqF => k_asm); (case zqa => rfl); (case zqb => rfl); (case zqc => rfl); (case zqv => walk_at "lk"); k_whole)))
      | walk1
      | (dsimp only; walk1)
      | (leave1; walk_say "STEP leave1"; try dsimp only)
      | fail "no step")
    exact hret _ h2 tk2 _ F2.keep (fun hb => set_bare hb hb2) ⟨l1, its, n3, rfl, hl1.2.2, j5, by rw [← j7]; simpa [List.take_of_length_le (Nat.le_of_lt j8)] using j6⟩
  case start =>
    refine ⟨⟨h1, tk1, gs1, [L1], ?_, hb1, fun b o _ e => e, hp1 _ rfl, ?_, ?_⟩, hg1, ⟨_, F1.ns.keeps hk1, ?_⟩, fun b o e => hk1 b o (F1.keep b o e), ?_⟩
    · exact far_start
    · intro b hb hm
      have e := List.mem_singleton.mp hb
      subst e
      simp only [List.mem_cons, List.not_mem_nil, or_false] at hm
      rcases hm with e | e | e
      · exact hne1 e.symm
      · have e' : b = s.heap.objs.size := e
        obtain ⟨_, _, _, ho, _⟩ := F1.ns; rw [← e', hL1] at ho; cases ho
      · have := hl1.1; rw [← e] at this; rw [hL1] at this; cases this
    · intro b hb; left; rw [List.mem_singleton.mp hb]; exact List.Mem.head _
    · exact ⟨[], #[], 0, rfl, hk1 _ _ hl1.1, .nil, rfl, by decide⟩
    · intro b hb; rw [List.mem_singleton.mp hb]; exact ⟨_, hk1 _ _ hl1.1⟩
end Mine
namespace Mine
noncomputable def OldInts (S : Addr) (xs : List Int) (h₀ h : Heap) (v : Value) : Prop := ∃ l vs n, v = .ref l ∧ (l = S ∨ h₀.get? l = none) ∧ h.get? l = some (listOf vs n) ∧ IntsAre vs.toList xs
noncomputable def rulerL (ws : List Int) (e : Int) : List Int := ws ++ (if e = 0 then [0, 9] else if e = 1 then [127, 1] else [])
noncomputable def dueL (ws : List Int) (e : Int) : List Int := if e = 0 then (ws ++ (List.replicate 6 (ws.drop (ws.length - 1))).flatten).take 6 else ws
set_option maxRecDepth 100000 in
set_option maxHeartbeats 8000000 in
theorem ruler_c (w : World) (mean mg mb) (S : Addr) (items : Array Value) (n : Nat) (ws : List Int) (hI : IntsAre items.toList ws) (hlen : ws.length ≤ 3) (e : Int) (t : Tok) (he : e = 0 ∨ e = 1 ∨ e = 2) :
    Ch 8 100 w (looseW Mine.hd.view_39 []) mean mg mb 84 (fun h => h.get? S = some (listOf items n)) [.ref S, .int e t] (NewInts (rulerL ws e)) := by
  unfold Ch
  k_fill
  intros
  rename_i h₀ _ _ s _ _ hB hF hX hT hk hpre _ _ hret
  have hL : s.heap.IsList S items := ⟨_, hpre, rfl, _, rfl⟩
  refine wpAny_call ?_
  rcases he with rfl | rfl | rfl
  · k_dflt (refine' codeP ?zqk1 ?zqk2 ?zqk3 ?zqk5 ?zqkA ?zqkF ?zqkK ?zqk6 ?zqk7 ?zqk8 ?zqk9 ?zqkB ?_ ?zqc2 ?zqc3 ?zqc4 ?zqc5; (case zqkA => exact rfl); (case zqkF => exact rfl); (case zqkK => assumption); (case zqk1 => k_asm); (case zqk2 => k_asm); (case zqk3 => k_asm); (case zqk5 => k_asm); (case zqk6 => k_is); (case zqk7 => k_is); (case zqk8 => ktr_room); (case zqk9 => exact BindsTo.of_eq rfl); (case zqc5 => decide); (case zqkB => exact locs rfl); (case zqc2 => exact rfl); (case zqc3 => exact rfl); (case zqc4 => exact rfl); k_whole; intro h' F' N' B' X' T'; (try dsimp only); (try k_fold))
    repeat' (first
      | (k_unfold; (try dsimp only))
      | (k_end; wrow_close)
      | ((with_reducible show wpAny _ _ (loadName _ _) _ _ _); (k_here; k_dflt (refine' loadN ?zqF ?zqv ?_ ?zqa ?zqb ?zqc; (case zqF => k_asm); (case zqa => rfl); (case zqb => rfl); (case zqc => rfl); (case zqv => walk_at "lk"); k_whole)))
      | walk1
      | (dsimp only; walk1)
      | (leave1; walk_say "STEP leave1"; try dsimp only)
      | fail "no step")
    rename Fr _ _ _ _ => F5
    rename News _ _ _ _ => N5
    rename IntsAre _ (ws ++ _) => hI5
    exact hret _ _ _ F5.keep ⟨_, _, _, rfl, (N5 _ (.head _)).2.2, (N5 _ (.head _)).1, hI5⟩
  · k_dflt (refine' codeP ?zqk1 ?zqk2 ?zqk3 ?zqk5 ?zqkA ?zqkF ?zqkK ?zqk6 ?zqk7 ?zqk8 ?zqk9 ?zqkB ?_ ?zqc2 ?zqc3 ?zqc4 ?zqc5; (case zqkA => exact rfl); (case zqkF => exact rfl); (case zqkK => assumption); (case zqk1 => k_asm); (case zqk2 => k_asm); (case zqk3 => k_asm); (case zqk5 => k_asm); (case zqk6 => k_is); (case zqk7 => k_is); (case zqk8 => ktr_room); (case zqk9 => exact BindsTo.of_eq rfl); (case zqc5 => decide); (case zqkB => exact locs rfl); (case zqc2 => exact rfl); (case zqc3 => exact rfl); (case zqc4 => exact rfl); k_whole; intro h' F' N' B' X' T'; (try dsimp only); (try k_fold))
    repeat' (first
      | (k_unfold; (try dsimp only))
      | (k_end; wrow_close)
      | ((with_reducible show wpAny _ _ (loadName _ _) _ _ _); (k_here; k_dflt (refine' loadN ?zqF ?zqv ?_ ?zqa ?zqb ?zqc; (case zqF => k_asm); (case zqa => rfl); (case zqb => rfl); (case zqc => rfl); (case zqv => walk_at "lk"); k_whole)))
      | walk1
      | (dsimp only; walk1)
      | (leave1; walk_say "STEP leave1"; try dsimp only)
      | fail "no step")
    rename Fr _ _ _ _ => F5
    rename News _ _ _ _ => N5
    rename IntsAre _ (ws ++ _) => hI5
    exact hret _ _ _ F5.keep ⟨_, _, _, rfl, (N5 _ (.head _)).2.2, (N5 _ (.head _)).1, hI5⟩
  · k_dflt (refine' codeP ?zqk1 ?zqk2 ?zqk3 ?zqk5 ?zqkA ?zqkF ?zqkK ?zqk6 ?zqk7 ?zqk8 ?zqk9 ?zqkB ?_ ?zqc2 ?zqc3 ?zqc4 ?zqc5; (case zqkA => exact rfl); (case zqkF => exact rfl); (case zqkK => assumption); (case zqk1 => k_asm); (case zqk2 => k_asm); (case zqk3 => k_asm); (case zqk5 => k_asm); (case zqk6 => k_is); (case zqk7 => k_is); (case zqk8 => ktr_room); (case zqk9 => exact BindsTo.of_eq rfl); (case zqc5 => decide); (case zqkB => exact locs rfl); (case zqc2 => exact rfl); (case zqc3 => exact rfl); (case zqc4 => exact rfl); k_whole; intro h' F' N' B' X' T'; (try dsimp only); (try k_fold))
    repeat' (first
      | (k_unfold; (try dsimp only))
      | (k_end; wrow_close)
      | ((with_reducible show wpAny _ _ (loadName _ _) _ _ _); (k_here; k_dflt (refine' loadN ?zqF ?zqv ?_ ?zqa ?zqb ?zqc; (case zqF => k_asm); (case zqa => rfl); (case zqb => rfl); (case zqc => rfl); (case zqv => walk_at "lk"); k_whole)))
      | walk1
      | (dsimp only; walk1)
      | (leave1; walk_say "STEP leave1"; try dsimp only)
      | fail "no step")
    rename Fr _ _ _ _ => F5
    rename News _ _ _ _ => N5
    rename IntsAre _ (ws ++ _) => hI5
    exact hret _ _ _ F5.keep ⟨_, _, _, rfl, (N5 _ (.head _)).2.2, (N5 _ (.head _)).1, by simpa [rulerL] using hI5⟩
set_option maxRecDepth 100000 in
set_option maxHeartbeats 8000000 in
theorem due_c (w : World) (mean mg mb) (S : Addr) (items : Array Value) (n : Nat) (ws : List Int) (hI : IntsAre items.toList ws) (hlen : ws.length ≤ 3) (e : Int) (t : Tok) :
    Ch 8 100 w (looseW Mine.hd.view_39 []) mean mg mb 91 (fun h => h.get? S = some (listOf items n)) [.ref S, .int e t] (OldInts S (dueL ws e)) := by
  unfold Ch
  k_fill
  intros
  rename_i h₀ _ _ s _ _ hB hF hX hT hk hpre _ _ hret
  have hL : s.heap.IsList S items := ⟨_, hpre, rfl, _, rfl⟩
  refine wpAny_call ?_
  k_dflt (refine' codeP ?zqk1 ?zqk2 ?zqk3 ?zqk5 ?zqkA ?zqkF ?zqkK ?zqk6 ?zqk7 ?zqk8 ?zqk9 ?zqkB ?_ ?zqc2 ?zqc3 ?zqc4 ?zqc5; (case zqkA => exact rfl); (case zqkF => exact rfl); (case zqkK => assumption); (case zqk1 => k_asm); (case zqk2 => k_asm); (case zqk3 => k_asm); (case zqk5 => k_asm); (case zqk6 => k_is); (case zqk7 => k_is); (case zqk8 => ktr_room); (case zqk9 => exact BindsTo.of_eq rfl); (case zqc5 => decide); (case zqkB => exact locs rfl); (case zqc2 => exact rfl); (case zqc3 => exact rfl); (case zqc4 => exact rfl); k_whole; intro h' F' N' B' X' T'; (try dsimp only); (try k_fold))
  repeat' (first
    | (k_unfold; (try dsimp only))
    | (k_end; wrow_close)
    | ((with_reducible show wpAny _ _ (loadName _ _) _ _ _); (k_here; k_dflt (refine' loadN ?zqF ?zqv ?_ ?zqa ?zqb ?zqc; (case zqF => k_asm); (case zqa => rfl); (case zqb => rfl); (case zqc => rfl); (case zqv => walk_at "lk"); k_whole)))
    | walk1
    | (dsimp only; walk1)
    | (leave1; walk_say "STEP leave1"; try dsimp only)
    | fail "no step")
  · rename Fr _ _ _ _ => F5
    rename News _ _ _ _ => N5
    rename IntsAre _ (List.take 6 (ws ++ _)) => hI5
    rename e = 0 => he
    exact hret _ _ _ F5.keep ⟨_, _, _, rfl, .inr (N5 _ (.head _)).2.2, (N5 _ (.head _)).1, by simpa [dueL, he] using hI5⟩
  · rename Fr _ _ _ _ => F5
    rename ¬ e = 0 => he
    exact hret _ _ _ F5.keep ⟨_, _, _, rfl, .inl rfl, F5.keep _ _ hpre, by simpa [dueL, he] using hI⟩
end Mine
namespace Mine
section
variable {prog : Program} {w : World} {A : Around} {R : Result → Shared → Prop} {s : Shared}
theorem compLoop_cell {elt iter : PySem.Expr} {x : Str} {px : Pos} {scope : Scope} {pos : Pos} {I D c : Addr} {fp wr : List Addr} {n : Nat} {P : Nat → Value → Prop} {St : Nat → Heap → Prop}
    {cenv : Env} {m : Str → Option Value} {v₀ : Option Value} (W : Walks prog w A I fp wr n P St) (F : Value → Value → Prop)
    (hk0 : cenv.scope.kind = .function) (hx : cenv.kindOf x = some .cell) (hcx : cenv.cells.lookup x = some c)
    (hDC : D ≠ cenv.locals) (hDc : D ≠ c) (hcC : c ≠ cenv.locals) (hDf : D ∉ fp) (hCf : cenv.locals ∉ fp) (hcf : c ∉ fp)
    (hst : St 0 s.heap) (hacc : s.heap.PlainList D #[]) (hn : s.heap.Ns cenv.locals m) (hv₀ : s.heap.IsCell c v₀)
    (helt : ∀ i v s₂ m₂, P i v → s₂.heap.Ns cenv.locals m₂ → s₂.heap.IsCell c (some v) → (∀ b o, b ≠ cenv.locals → b ≠ c → b ∉ wr → b ≠ D → s.heap.get? b = some o → s₂.heap.get? b = some o) →
      wpAny (model prog w) A (eval elt cenv) (fun y s₃ => F v y ∧ Keeps s₂ s₃) (notedBy (model prog w) A cenv fun e s' => R (.error e) s') s₂)
    (hR : ∀ h' tk m' ys (vs : List Value), h'.Ns cenv.locals m' → h'.PlainList D ys → vs.length = n → (∀ j v, vs[j]? = some v → P j v) → Paired F vs ys.toList →
      (∀ b o, b ≠ cenv.locals → b ≠ c → b ∉ wr → b ≠ D → s.heap.get? b = some o → h'.get? b = some o) → R (.ok .next) { s with heap := h', toks := tk })
    (hsz : n ≤ sizeLine) :
    codeAny (model prog w) A (.compLoop (.ListComp elt [⟨.Name x px, iter, [], 0⟩] scope pos) 0 (.ref I) (.ref D) cenv) R s := by
  refine codeAny_compLoop_tests
    (fun k s' => ∃ h' tk m' ys, ∃ vs : List Value, s' = { s with heap := h', toks := tk } ∧ St vs.length h' ∧ h'.PlainList D ys ∧ h'.Ns cenv.locals m' ∧ (∃ v₁, h'.IsCell c v₁) ∧ (∀ j v, vs[j]? = some v → P j v) ∧
      Paired F vs ys.toList ∧ vs.length ≤ n ∧ k = n + 1 - vs.length ∧
      (∀ b o, b ≠ cenv.locals → b ≠ c → b ∉ wr → b ≠ D → s.heap.get? b = some o → h'.get? b = some o)) ?_ (n + 1)
    ⟨s.heap, s.toks, m, #[], [], rfl, hst, hacc, hn, ⟨_, hv₀⟩, by simp, by simpa using Paired.nil, Nat.zero_le _, rfl, fun _ _ _ _ _ _ e => e⟩
  rintro k s' ⟨H, tk, m', ys, vs, rfl, hst', hacc', hn', ⟨v₁, hv₁⟩, hP, hF, hi, rfl, hk⟩
  have hCw : cenv.locals ∉ wr := fun h => hCf (W.sub _ h)
  have hDw : D ∉ wr := fun h => hDf (W.sub _ h)
  have hcw : c ∉ wr := fun h => hcf (W.sub _ h)
  by_cases hlt : vs.length < n
  · refine W.item vs.length _ _ _ hlt hst' fun v h₁ tk₁ hPv hst₁ hk₁ => ?_
    refine wpAny_assign_Name (wpAny_storeName_cell hk0 hx hcx (v₀ := v₁) (let ⟨o, ho, hd⟩ := hv₁; ⟨o, hk₁ _ o hcw ho, hd⟩) (fun h₂ hc₂ hs₂ => ?_))
    replace hs₂ : Heap.SameBut c h₁ h₂ := hs₂
    have hn₁ : h₁.Ns cenv.locals m' := hn'.at' fun o e => hk₁ _ o hCw e
    have hn₂ : h₂.Ns cenv.locals m' := hn₁.sameBut hs₂ (Ne.symm hcC)
    have up₂ : ∀ b o, b ≠ c → b ∉ wr → H.get? b = some o → h₂.get? b = some o := fun b o hbC hbf e => hs₂.extBut b o hbC (hk₁ b o hbf e)
    have hst₂ : St (vs.length + 1) h₂ := W.frame _ _ _ hst₁ fun b hb o e => hs₂.extBut b o (fun h => hcf (h ▸ hb)) e
    have hP' : ∀ j u, (vs ++ [v])[j]? = some u → P j u := fun j u hj => by
      rcases Nat.lt_trichotomy j vs.length with h | h | h
      · exact hP j u (by rwa [List.getElem?_append_left h] at hj)
      · subst h; simp at hj; subst hj; exact hPv
      · have hnone : (vs ++ [v])[j]? = none := List.getElem?_eq_none (by rw [List.length_append, List.length_singleton]; omega)
        rw [hnone] at hj; cases hj
    show wpAny _ A (pure true) _ _ _
    refine wpAny_pure ?_
    rw [if_pos rfl]
    refine wpAny_mono (helt vs.length v _ m' hPv hn₂ hc₂ (fun b o hbC hbc hbf hbD e => up₂ b o hbc hbf (hk b o hbC hbc hbf hbD e))) (fun y s₄ h₄ => ?_) fun _ _ e => e
    obtain ⟨hFy, h₄, tk₄, rfl, hk₄⟩ := h₄
    replace hk₄ : ∀ b o, h₂.get? b = some o → h₄.get? b = some o := hk₄
    have hys : ys.size ≤ sizeLine := by
      have e1 := hF.length
      have e4 : ys.toList.length = ys.size := by simp
      omega
    refine wpAny_list_append_plain (hsz := hys) (hacc'.at fun o e => hk₄ _ o (up₂ D o hDc hDw e)) fun h₅ hl₅ hs₅ => ?_
    replace hs₅ : Heap.SameBut D h₄ h₅ := hs₅
    refine ⟨n + 1 - (vs.length + 1), by omega, h₅, tk₄, _, ys.push y, vs ++ [v], rfl, ?_, hl₅, (hn₂.keeps hk₄).sameBut hs₅ (Ne.symm hDC), ⟨_, (hc₂.keeps hk₄).sameBut hs₅ (Ne.symm hDc)⟩, hP', ?_, (by rw [List.length_append, List.length_singleton]; exact hlt), (by rw [List.length_append, List.length_singleton]),
      fun b o hbC hbc hbf hbD e => hs₅.extBut b o hbD (hk₄ b o (up₂ b o hbc hbf (hk b o hbC hbc hbf hbD e)))⟩
    · have := W.frame _ _ h₅ hst₂ fun b hb o e => hs₅.extBut b o (fun h => hDf (h ▸ hb)) (hk₄ b o e)
      simpa using this
    · simpa using Paired.snoc hF hFy
  · have hin : vs.length = n := by omega
    refine W.done _ _ _ (hin ▸ hst') fun h₁ tk₁ hk₁ => ?_
    exact hR h₁ tk₁ m' ys vs (hn'.at' fun o e => hk₁ _ o hCw e) (hacc'.at fun o e => hk₁ _ o hDw e) hin hP hF fun b o hbC hbc hbf hbD e => hk₁ b o hbf (hk b o hbC hbc hbf hbD e)
end
section
variable {prog : Program} {w : World} {A : Around} {E : Value → Shared → Prop} {env : Env}
theorem newEnv_cell {M : Model} {s : Shared} {scope : Scope} {globals : Addr} {cl : List (Str × Addr)} {x : Str} {qual : Str} {outer : Env} {Q : Env → Shared → Prop}
    (hc : ∀ n acc, cellsFrom n scope.names acc = (x, n) :: acc) (hp : ∀ h, pushCells h scope.names = h.push { cls := .type "cell", data := .cell none })
    (hQ : Q { scope := scope, locals := s.heap.objs.size, globals := globals, cells := (x, s.heap.objs.size + 1) :: cl, qual := qual, func := none, code := outer.code, frame := outer.frame, builtins := outer.builtins }
      { s with heap := (s.heap.push { cls := .type "dict", data := .dict #[] }).push { cls := .type "cell", data := .cell none } }) :
    wpAny M A (newFunctionEnv scope globals cl [] qual none .none (some outer)) Q E s := by
  simp only [newFunctionEnv, Option.isSome_some, if_true]
  refine wpAny_bind (wpAny_alloc ?_)
  refine wpAny_bind (wpAny_layCells _ (fun name kind cells => by cases hkc : kind == NameKind.cell <;> simp [hkc]) _ _ _ _ ?_)
  rw [hc, hp]
  rw [List.forIn_nil]
  refine wpAny_bind (wpAny_pure (wpAny_pure ?_))
  rw [show ({ s with heap := s.heap.push { cls := .type "dict", data := .dict #[] } } : Shared).heap.objs.size = s.heap.objs.size + 1 from Heap.size_push ..]
  exact hQ
theorem ListComp_cell {s : Shared} {elt iter : PySem.Expr} {x : Str} {px : Pos} {scope : Scope} {cl : List (Str × Addr)} {pos : Pos} {Q : Value → Shared → Prop} (F : Value → Value → Prop)
    (hclos : closureFor scope env = pure cl) (hc : ∀ n acc, cellsFrom n scope.names acc = (x, n) :: acc) (hp : ∀ h, pushCells h scope.names = h.push { cls := .type "cell", data := .cell none }) (hkind : scope.kind = .function)
    (hnames : ∀ y ∈ scope.names, y.2 = .local → scope.names.lookup y.1 = some .local) (hx : (relabel scope env).names.lookup x = some .cell)
    (h : wpAny (model prog w) A (eval iter env) (fun xv s₁ => wpAny (model prog w) A (pyIter xv) (fun it s₂ => ∃ I fp wr n P St, it = .ref I ∧ Walks prog w A I fp wr n P St ∧ n ≤ sizeLine ∧ St 0 s₂.heap ∧ (∀ b ∈ fp, b < s₂.heap.objs.size) ∧
      (∀ (C c : Addr) i v s₃ m₃ E', s₂.heap.objs.size ≤ C → s₂.heap.objs.size ≤ c → C ≠ c → P i v → s₃.heap.Ns C m₃ → s₃.heap.IsCell c (some v) → (∀ b o, b ∉ wr → s₂.heap.get? b = some o → s₃.heap.get? b = some o) →
        wpAny (model prog w) A (eval elt (compEnvC scope ((x, c) :: cl) C env)) (fun y s₄ => F v y ∧ Keeps s₃ s₄) E' s₃) ∧
      (∀ D h' tk ys (vs : List Value), s₂.heap.get? D = none → h'.PlainList D ys → vs.length = n → (∀ j v, vs[j]? = some v → P j v) → Paired F vs ys.toList →
        (∀ b o, b ∉ wr → s₂.heap.get? b = some o → h'.get? b = some o) → Q (.ref D) { s₂ with heap := h', toks := tk })) E s₁) E s)
    (hs : ∀ x, foldedSetIterable iter env x = pure x := by intro _; rfl) :
    wpAny (model prog w) A (eval (.ListComp elt [⟨.Name x px, iter, [], 0⟩] scope pos) env) Q E s := by
  rw [eval_ListComp]
  refine wpAny_comprehension_free (use := none) rfl hs hclos hkind hnames (wpAny_mono h (fun xv s₁ h₁ => wpAny_mono h₁ (fun it s₂ h₂ => ?_) fun _ _ e => e) fun _ _ e => e)
  obtain ⟨I, fp, wr, n, P, St, rfl, W, hsz, hst, hfp, helt, hQ⟩ := h₂
  refine wpAny_newObj_type (newEnv_cell hc hp ?_)
  dsimp only
  generalize hH2 : s₂.heap.push { cls := .type "list", dict := none, data := .seq ([] : List Value).toArray } = H2
  have hC : H2.objs.size = s₂.heap.objs.size + 1 := by rw [← hH2, Heap.size_push]
  have below : ∀ b, b < s₂.heap.objs.size → b ≠ H2.objs.size ∧ b ≠ H2.objs.size + 1 ∧ b ≠ s₂.heap.objs.size := fun b hb => by rw [hC]; exact ⟨by omega, by omega, by omega⟩
  generalize hh₁ : (H2.push { cls := .type "dict", dict := none, data := .dict #[] }).push { cls := .type "cell", dict := none, data := .cell none } = h₁
  have old : ∀ b o, s₂.heap.get? b = some o → h₁.get? b = some o := fun b o e => by
    rw [← hh₁]; exact Heap.get?_push_of_some _ (Heap.get?_push_of_some _ (hH2 ▸ Heap.get?_push_of_some _ e))
  have hacc : h₁.PlainList s₂.heap.objs.size #[] := ⟨_, by rw [← hh₁]; exact Heap.get?_push_of_some _ (Heap.get?_push_of_some _ (hH2 ▸ Heap.get?_push_size _ rfl))⟩
  have hns₁ : h₁.Ns H2.objs.size (fun _ => none) := by rw [← hh₁]; exact (Heap.Ns.new H2 (.type "dict")).keeps fun b o e => Heap.get?_push_of_some _ e
  have hcell : h₁.IsCell (H2.objs.size + 1) none := by
    rw [← hh₁]
    exact ⟨_, by rw [show H2.objs.size + 1 = (H2.push { cls := .type "dict", dict := none, data := .dict #[] }).objs.size by rw [Heap.size_push]]; exact Heap.get?_push_size _ rfl, rfl⟩
  have hst₁ : St 0 h₁ := W.frame _ _ _ hst fun b _ o e => old b o e
  have fresh : ∀ a, s₂.heap.objs.size ≤ a → s₂.heap.get? a = none := fun a ha => Heap.get?_none_of_le ha
  have nf : ∀ a, s₂.heap.objs.size ≤ a → a ∉ fp := fun a ha hm => absurd (hfp _ hm) (Nat.not_lt.mpr ha)
  have loop : codeAny (model prog w) A (.compLoop (.ListComp elt [⟨.Name x px, iter, [], 0⟩] scope pos) 0 (.ref I) (.ref s₂.heap.objs.size) (compEnvC scope ((x, H2.objs.size + 1) :: cl) H2.objs.size env))
        (compPost (model prog w) A E none Q (.ref s₂.heap.objs.size) H2.objs.size) { s₂ with heap := h₁ } := by
    refine compLoop_cell (hsz := hsz) (cenv := compEnvC scope ((x, H2.objs.size + 1) :: cl) H2.objs.size env) (c := H2.objs.size + 1) W F (by simp [compEnvC, relabel, hkind]) hx (by simp [compEnvC, List.lookup_cons]) ?_ ?_ ?_ (nf _ (Nat.le_refl _)) (nf _ (by show _ ≤ H2.objs.size; rw [hC]; omega)) (nf _ (by rw [hC]; omega)) hst₁ hacc hns₁ hcell
      (fun i v s₃ m₃ hv hn hcl hk => helt _ _ i v s₃ m₃ _ (by rw [hC]; omega) (by rw [hC]; omega) (Nat.ne_of_lt (Nat.lt_succ_self _)) hv hn hcl (fun b o hbf e => hk b o (below b (Heap.lt_size e)).1 (below b (Heap.lt_size e)).2.1 hbf (below b (Heap.lt_size e)).2.2 (old b o e))) fun h' tk m' ys vs hn hpl hlen hP hF hk => ?_
    · exact fun e => (by have e' : s₂.heap.objs.size = H2.objs.size := e; rw [hC] at e'; omega)
    · exact fun e => (by have e' : s₂.heap.objs.size = H2.objs.size + 1 := e; rw [hC] at e'; omega)
    · exact Nat.succ_ne_self _
    · refine ⟨m', hn, fun h'' hs'' => hQ _ h'' tk ys vs (fresh _ (Nat.le_refl _)) (hpl.extBut hs''.extBut (by show s₂.heap.objs.size ≠ H2.objs.size; rw [hC]; omega)) hlen hP hF fun b o hbf e => hs''.extBut b o (below b (Heap.lt_size e)).1 (hk b o (below b (Heap.lt_size e)).1 (below b (Heap.lt_size e)).2.1 hbf (below b (Heap.lt_size e)).2.2 (old b o e))⟩
  exact codeAny_compStart_list loop (W.self 0 _ _ _ hst₁ loop)
end
end Mine
namespace Mine
noncomputable def IntSrc (h : Heap) (T : Addr) (ts : List Int) : Prop :=
  (∃ jts n', h.get? T = some (listOf jts n') ∧ IntsAre jts.toList ts) ∨ (∃ t u v, IsRange h T 0 5 1 t u v ∧ ts = [0, 1, 2, 3, 4])
theorem IntSrc.keeps {h h' : Heap} {T : Addr} {ts : List Int} (x : IntSrc h T ts) (k : ∀ b o, h.get? b = some o → h'.get? b = some o) : IntSrc h' T ts := by
  rcases x with ⟨jts, n', e, i⟩ | ⟨t, u, v, e, i⟩
  · exact .inl ⟨jts, n', k _ _ e, i⟩
  · exact .inr ⟨t, u, v, k _ _ e, i⟩
theorem ints_get {vs : List Value} {xs : List Int} (h : IntsAre vs xs) : ∀ (i : Nat) (v : Value), vs[i]? = some v → ∃ t u, xs[i]? = some t ∧ v = .int t u := by
  induction h with
  | nil => intro i x e; cases e
  | cons a t h ih =>
    intro i x e
    cases i with
    | zero => cases e; exact ⟨a, t, rfl, rfl⟩
    | succ i => exact ih i x e
section
variable {prog : Program} {w : World} {A : Around} {E : Value → Shared → Prop}
theorem walks_src {s : Shared} {T : Addr} {ts : List Int} {Q : Value → Shared → Prop} (hh : A.handled = none) (src : IntSrc s.heap T ts)
    (hQ : ∀ s₂ I fp wr St, (∃ h', s₂ = { s with heap := h' } ∧ ∀ b o, s.heap.get? b = some o → h'.get? b = some o) → Walks prog w A I fp wr ts.length (fun i v => ∃ t u, ts[i]? = some t ∧ v = .int t u) St → St 0 s₂.heap → (∀ b ∈ fp, b < s₂.heap.objs.size) →
      (∀ b ∈ wr, s.heap.get? b = none) → Q (.ref I) s₂) : wpAny (model prog w) A (pyIter (.ref T)) Q E s := by
  rcases src with ⟨jts, n', hT, hJ⟩ | ⟨t, u, v, hr, rfl⟩
  · refine wpAny_pyIter_list ⟨_, hT, rfl, _, rfl⟩ ?_
    have hne : T ≠ s.heap.objs.size := Nat.ne_of_lt (Heap.lt_size hT)
    have W := Walks.list (prog := prog) (w := w) (A := A) hh s.heap.objs.size T hne jts
    have hl : jts.size = ts.length := by have := IntsAre.length hJ; simpa using this
    rw [hl] at W
    refine hQ _ s.heap.objs.size [s.heap.objs.size, T] [s.heap.objs.size] _ ⟨_, rfl, fun b o e => Heap.get?_push_of_some _ e⟩
      { sub := W.sub, frame := W.frame, done := W.done, self := W.self, item := fun i s Q E hi st hQ => W.item i s Q E hi st fun v h' tk hP => hQ v h' tk (ints_get hJ i v (by simpa using hP)) } ?_ ?_ ?_
    · exact ⟨⟨_, Heap.get?_push_size _ rfl, rfl, rfl⟩, ⟨_, Heap.get?_push_of_some _ hT, rfl, _, rfl⟩⟩
    · intro b hb
      show b < (s.heap.push _).objs.size
      rw [Heap.size_push]
      rcases List.mem_cons.mp hb with rfl | hb
      · exact Nat.lt_succ_self _
      · rw [List.mem_singleton.mp hb]; exact Nat.lt_succ_of_lt (Heap.lt_size hT)
    · intro b hb; rw [List.mem_singleton.mp hb]; exact Heap.get?_none_of_le (Nat.le_refl _)
  · refine wpAny_pyIter_range hr (by decide) ?_
    have W := Walks.range (prog := prog) (w := w) (A := A) hh s.heap.objs.size 0 1 5
    refine hQ _ s.heap.objs.size [s.heap.objs.size] [s.heap.objs.size] (fun i h => i ≤ 5 ∧ IsRangeIter h s.heap.objs.size (0 + (i : Nat) * 1) ((5 : Int) - (i : Nat)) 1) ⟨_, rfl, fun b o e => Heap.get?_push_of_some _ e⟩
      { sub := W.sub, frame := fun i h h' st hk => ⟨st.1, W.frame i h h' st.2 hk⟩, done := fun s Q E st hQ => W.done s Q E st.2 hQ, self := fun i s Q E st hQ => W.self i s Q E st.2 hQ,
        item := fun i s Q E hi st hQ => W.item i s Q E hi st.2 fun v h' tk hP hs => hQ v h' tk ?_ ⟨hi, hs⟩ } ⟨by decide, ?_⟩ ?_ ?_
    · obtain ⟨t, rfl⟩ := hP
      refine ⟨_, t, ?_, rfl⟩
      have hi' : i < 5 := hi
      match i, hi' with
      | 0, _ => rfl
      | 1, _ => rfl
      | 2, _ => rfl
      | 3, _ => rfl
      | 4, _ => rfl
    · exact Heap.get?_push_size _ rfl
    · intro b hb
      rw [List.mem_singleton.mp hb]
      show _ < (s.heap.push _).objs.size
      rw [Heap.size_push]; exact Nat.lt_succ_self _
    · intro b hb; rw [List.mem_singleton.mp hb]; exact Heap.get?_none_of_le (Nat.le_refl _)
end
section
variable {prog : Program} {w : World} {A A₀ : Around} {s : Shared} {K : Frag} {L : Addr} {h₀ base : Heap} {m mg mb : Str → Option Value} {p : Program} {loose : List Str} {mean : ExcName → Option Value}
  {env : Env} {outer : List Env} {R : Result → Shared → Prop} {name qual : Str} {params : Arguments} {body : List Stmt} {scope : Scope} {dV kV doc pm cdv ct oc : Value} {an od : Option Addr} {osl : Array (Option Value)} {f : Addr} {args : Args} {binds : List (Str × Value)}
theorem codePC (B : Below A₀ base outer h₀) (F : Fr h₀ L s.heap m) (X₀ : K.In h₀) (T : Top p loose mean mg mb h₀) (hA : A.frames = some (env :: outer)) (hf : env.frame = some L) (hke : env.scope.kind = .function)
    (ho : K.lookup f = some ⟨oc, od, .func (fnOf name qual params body scope dV kV doc pm an cdv ct), osl⟩) (hcd : codeIn K cdv qual = true) (hroom : A.depth < recursionLimit)
    (hbind : BindsTo s (fnOf name qual params body scope dV kV doc pm an cdv ct) args binds) (hkind : (binds.all fun y => scope.names.lookup y.1 == some .local || scope.names.lookup y.1 == some .cell) = true)
    (hnd : ((cellsFrom 0 scope.names []).map (·.1)).Nodup)
    (h : ∀ h₁ tk cells, Fr s.heap s.heap.objs.size h₁ (bindL (envOfC qual scope s.heap.objs.size f cdv).kindOf binds fun _ => none) → News s.heap s.heap.objs.size h₁ cells →
      CellsAre (bindC (envOfC qual scope s.heap.objs.size f cdv).kindOf binds fun _ => none) (cellsFrom (s.heap.objs.size + 1) scope.names []) cells → Below A base (env :: outer) s.heap → K.In s.heap → Top p loose mean mg mb s.heap →
      wpAny (model prog w) (A.deeper (envOfC qual scope s.heap.objs.size f cdv)) (execs body (envOfC qual scope s.heap.objs.size f cdv))
        (fun fl s' => R (.ok (.ret (match fl with | .ret v => v | _ => .none))) s')
        (fun e s' => wpAny (model prog w) (A.deeper (envOfC qual scope s.heap.objs.size f cdv)) (leaving (envOfC qual scope s.heap.objs.size f cdv) e) (fun _ s'' => R (.error e) s'') (fun e' s'' => R (.error e') s'') s')
        { s with heap := h₁, toks := tk })
    (hco : scope.isCoroutine = false) (hgen : scope.isGenerator = false) (hk : scope.kind = .function) : codeAny (model prog w) A (.call (.ref f) args) R s := by
  obtain ⟨_, BG, st, _⟩ := groundX (R := R) B F News.nil hA hf hke
  have hlim : s.heap.NoLimit := T.nolimit.keeps F.keep
  refine codeAny_call_function hroom ((X₀.keeps F.keep) _ _ ho) rfl hco hgen rfl (codeRec_of (X₀.keeps F.keep) hcd) (hbind _ _ _ _ ?_)
  refine wpAny_newFunctionEnv_cells hk (kindsX hkind _) fun env' he s' x => ?_
  subst he
  refine ⟨hlim.keeps x.toInCall.keep, codeAny_func ?_⟩
  obtain ⟨h₁, tk, rfl, _⟩ := x.done
  have hk₁ := x.toInCall.keep
  obtain ⟨cells, NC, Y⟩ := PyProof.Rows.Cl.news (h₀ := s.heap) (Nat.le_refl _) fun n c hm => ⟨x.cell n c (lookup_of_mem_nodup (cellsFrom_names scope.names 0 (s.heap.objs.size + 1) [] [] rfl ▸ hnd) hm), x.above n c hm⟩
  exact h h₁ tk cells ⟨x.toInCall.ns, hk₁, Nat.le_refl _⟩ NC Y BG (X₀.keeps st) (T.keeps st)
end
noncomputable def marksL (ws : List Int) : List Int := (List.range ws.length).map fun k => (ws.take (k + 1)).sum
noncomputable def partsL (ws ts : List Int) : List Int := ts.map fun t => (((marksL ws).filter fun m => decide (m ≤ t)).length : Int)
theorem marks_eq (ws : List Int) : (List.map (fun (k' : Int) => if (List.take (k' + 1).toNat ws).length = min (k' + 1).toNat ws.length ∧ (List.take (k' + 1).toNat ws).length ≤ ws.length then (List.take (k' + 1).toNat ws).sum else k') (rangeKs 0 ((ws.length : Int) - 0).toNat)) = marksL ws := by
  unfold marksL rangeKs
  rw [List.map_map, show ((ws.length : Int) - 0).toNat = ws.length by omega]
  refine List.map_congr_left fun k _ => ?_
  show (if _ then _ else _) = _
  have e : (0 + (k : Int) + 1).toNat = k + 1 := by omega
  rw [e, if_pos ⟨List.length_take, by rw [List.length_take]; omega⟩]
noncomputable def leV (t : Int) : Value → Bool
  | .int a _ => decide (a ≤ t)
  | _ => false
theorem filter_len {vs : List Value} {xs : List Int} (t : Int) (h : IntsAre vs xs) : (vs.filter (leV t)).length = (xs.filter fun m => decide (m ≤ t)).length := by
  induction h with
  | nil => rfl
  | cons a u h ih =>
    simp only [List.filter_cons, leV]
    by_cases hc : a ≤ t <;> simp [hc, ih]
theorem paired_ints {vs ys : List Value} {ts : List Int} {f : Int → Int} (hl : vs.length = ts.length) (hv : ∀ (j : Nat) v, vs[j]? = some v → ∃ t u, ts[j]? = some t ∧ v = .int t u) (h : Paired (fun v y => ∀ t u, v = .int t u → ∃ u', y = .int (f t) u') vs ys) : IntsAre ys (ts.map f) := by
  induction h generalizing ts with
  | nil => cases ts with
    | nil => exact .nil
    | cons a r => cases hl
  | cons hab h ih =>
    cases ts with
    | nil => cases hl
    | cons t r =>
      obtain ⟨t', u, e, rfl⟩ := hv 0 _ rfl
      cases e
      obtain ⟨u', rfl⟩ := hab _ _ rfl
      exact .cons _ _ (ih (by simpa using hl) fun j v e => hv (j + 1) v e)
theorem vs_eq {vs : List Value} {ys : Array Value} (hl : vs.length = ys.size) (h : ∀ (j : Nat) v, vs[j]? = some v → ys[j]? = some v) : vs = ys.toList := by
  apply List.ext_getElem?
  intro i
  cases e : vs[i]? with
  | some v => rw [Array.getElem?_toList]; exact (h i v e).symm
  | none =>
    have := List.getElem?_eq_none_iff.mp e
    rw [Array.getElem?_toList, Array.getElem?_eq_none (by omega)]
set_option maxRecDepth 100000 in
set_option maxHeartbeats 8000000 in
theorem parts_c (w : World) (mean mg mb) (S T : Addr) (its : Array Value) (n : Nat) (ws ts : List Int) (hI : IntsAre its.toList ws) (hlen : ws.length ≤ 6) (hlen2 : ts.length ≤ 5) :
    Ch 8 100 w (looseW Mine.hd.view_39 []) mean mg mb 103 (fun h => h.get? S = some (listOf its n) ∧ IntSrc h T ts) [.ref S, .ref T] (NewInts (partsL ws ts)) := by
  unfold Ch
  k_fill
  intros
  rename_i h₀ _ _ s _ _ hB hF hX hT hk hpre _ _ hret
  have hL : s.heap.IsList S its := ⟨_, hpre.1, rfl, _, rfl⟩
  have hsrc := hpre.2
  refine wpAny_call ?_
  k_dflt (refine' codePC ?zqk1 ?zqk2 ?zqk3 ?zqk5 ?zqkA ?zqkF ?zqkK ?zqk6 ?zqk7 ?zqk8 ?zqk9 ?zqkB ?zqkD ?_ ?zqc2 ?zqc3 ?zqc4; (case zqkA => exact rfl); (case zqkF => exact rfl); (case zqkK => assumption); (case zqk1 => k_asm); (case zqk2 => k_asm); (case zqk3 => k_asm); (case zqk5 => k_asm); (case zqk6 => k_is); (case zqk7 => k_is); (case zqk8 => ktr_room); (case zqk9 => exact BindsTo.of_eq rfl); (case zqkB => exact rfl); (case zqkD => decide +kernel); (case zqc2 => exact rfl); (case zqc3 => exact rfl); (case zqc4 => exact rfl); k_whole; intro h' tk' cells' F' N' Y' B' X' T'; k_cells Y'; (try dsimp only); (try k_fold))
  repeat' (first
    | (k_unfold; (try dsimp only))
    | (k_end; wrow_close)
    | ((with_reducible show wpAny _ _ (loadName _ _) _ _ _); (k_here; k_dflt (refine' loadN ?zqF ?zqv ?_ ?zqa ?zqb ?zqc; (case zqF => k_asm); (case zqa => rfl); (case zqb => rfl); (case zqc => rfl); (case zqv => walk_at "lk"); k_whole)))
    | walk1
    | (dsimp only; walk1)
    | (leave1; walk_say "STEP leave1"; try dsimp only)
    | fail "no step")
  rename Fr _ _ _ _ => F5
  rename News _ _ _ _ => N5
  rename IntsAre _ (List.map _ _) => hI8
  rename Top _ _ _ _ _ s.heap => T'
  rename (Mine.hd.heap_39 w.params).In s.heap => X'
  have hD := (N5 _ (.head _)).1
  have hDf := (N5 _ (.head _)).2.2
  have hM := (N5 _ (.tail _ (.head _))).1
  rename Obj.data _ = Data.cell (some (Value.ref _)) => hdM
  rw [marks_eq] at hI8
  rename News _ _ _ [(_, LCg.lst _), _, _] => NN
  refine ListComp_cell (F := fun v y => ∀ t u, v = .int t u → ∃ u', y = .int ((((marksL ws).filter fun m => decide (m ≤ t)).length : Int)) u') (by with_unfolding_all rfl) (fun _ _ => rfl) (fun _ => rfl) rfl (by decide) (by with_unfolding_all rfl) ?_
  refine wpAny_Name (wpAny_loadName_local rfl (by with_unfolding_all rfl) F5.ns (by with_unfolding_all rfl) ?_)
  refine walks_src rfl (hsrc.keeps F5.keep) ?_
  rintro s₂ I fp wr St ⟨h₂, rfl, k₂⟩ W hst hfp hwr
  refine ⟨I, fp, wr, _, _, St, rfl, W, by rw [sizeLine_eq]; omega, hst, hfp, ?_, ?_⟩
  · intro C c i v s₃ m₃ E' hC hc hCc hP hn hcell hk
    obtain ⟨tv, u, ht, rfl⟩ := hP
    have up0 : ∀ b o, Heap.get? _ b = some o → s₃.heap.get? b = some o := fun b o e => hk b o (fun hm => by have := hwr b hm; rw [e] at this; cases this) (k₂ b o e)
    have up : ∀ b o, s.heap.get? b = some o → s₃.heap.get? b = some o := fun b o e => up0 b o (F5.keep b o e)
    have hlys : ∀ {α : Type} (l : List α), l.length ≤ 6 → l.length ≤ sizeLine := fun l h => by rw [sizeLine_eq]; omega
    have hml : (marksL ws).length ≤ 6 := by simpa [marksL] using hlen
    have hyl := IntsAre.length hI8
    refine wpAny_Call_NameR (Calls.Name_function_global rfl (by with_unfolding_all rfl) (Calls.loadGlobal_builtin (env := compEnvC _ _ C _) (T'.g.keeps up) (mg_none_of X' T'.g (by k_is)) (T'.b.keeps up) ((T'.builtins _ (by decide)).trans (by rfl)) ?_) (by decide))
    refine callWith_builtin1 (spliced_more ?_)
    refine wpAny_ListComp_free (p := leV tv) (F := fun v y => y = v) (by with_unfolding_all rfl) (by decide) rfl (by decide) (by with_unfolding_all rfl) ?_
    refine wpAny_Name (wpAny_loadName_cell rfl (by with_unfolding_all rfl) (by with_unfolding_all rfl) ⟨_, up0 _ _ hM, hdM⟩ ?_) (by decide)
    refine wpAny_pyIter_list ⟨_, up0 _ _ hD, rfl, _, rfl⟩ ?_
    have hDlt := Heap.lt_size (up0 _ _ hD)
    refine ⟨_, _, _, _, _, _, rfl, Walks.list (by rfl) _ _ (Nat.ne_of_lt hDlt) _, ?_, ⟨⟨_, Heap.get?_push_size _ rfl, rfl, rfl⟩, ⟨_, Heap.get?_push_of_some _ (up0 _ _ hD), rfl, _, rfl⟩⟩, ?_, ⟨?_, ?_⟩, ?_⟩
    · rw [sizeLine_eq]; simp; omega
    · intro b hb
      show b < (s₃.heap.push _).objs.size
      rw [Heap.size_push]
      rcases List.mem_cons.mp hb with rfl | hb
      · exact Nat.lt_succ_self _
      · rw [List.mem_singleton.mp hb]; exact Nat.lt_succ_of_lt hDlt
    · intro C2 i2 v2 s4 m4 E2 hC2 hP2 hn2 hm2 hk2 _
      obtain ⟨a2, u2, _, rfl⟩ := ints_get hI8 i2 v2 (by simpa using hP2)
      have hc4 : s4.heap.IsCell c (some (.int tv u)) := by
        obtain ⟨oc, hoc, hdc⟩ := hcell
        refine ⟨oc, hk2 c oc (fun hm => ?_) (Heap.get?_push_of_some _ hoc), hdc⟩
        have := List.mem_singleton.mp hm
        have hlt := Heap.lt_size hoc
        rw [this] at hlt; exact Nat.lt_irrefl _ hlt
      refine wpAny_tests_one ?_
      refine wpAny_isTrue_Compare1 (wpAny_Name (wpAny_loadName_local rfl (by with_unfolding_all rfl) hn2 hm2 (wpAny_Name (wpAny_loadName_cell rfl (by with_unfolding_all rfl) (by with_unfolding_all rfl) hc4 (PyProof.Rows.le_int (wpAny_truthy_bool ?_))) (by decide))))
      exact ⟨rfl, ⟨_, _, rfl, fun b o e => e⟩⟩
    · intro C2 i2 v2 s4 m4 E2 hC2 hP2 hp2 hn2 hm2 hk2 _
      exact wpAny_Name (wpAny_loadName_local rfl (by with_unfolding_all rfl) hn2 hm2 ⟨rfl, ⟨_, _, rfl, fun b o e => e⟩⟩)
    · intro D2 h4 tk4 ys2 vs2 hD2 hl2 hpl2 hlen4 hP4 hpair4 hk4
      refine spliced_none ?_
      have hvs : vs2 = _ := vs_eq hlen4 hP4
      have hy2 : ys2.size = ((marksL ws).filter fun m => decide (m ≤ tv)).length := by
        rw [← filter_len tv hI8]
        rw [List.toList_toArray] at hvs
        rw [← hvs]
        have := hpair4.length
        simp at this
        exact this.symm
      refine PyProof.Rows.len_list hl2 ?_ ⟨?_, ?_⟩
      · have : ((marksL ws).filter fun m => decide (m ≤ tv)).length ≤ (marksL ws).length := List.length_filter_le _ _
        rw [hy2]; omega
      · intro t u' e
        cases e
        exact ⟨_, by rw [hy2]⟩
      · exact ⟨h4, _, rfl, fun b o e => hk4 b o (fun hm => by
          have := List.mem_singleton.mp hm
          have hlt := Heap.lt_size e
          rw [this] at hlt; exact Nat.lt_irrefl _ hlt) (Heap.get?_push_of_some _ e)⟩
  · intro D h' tk ys vs hD0 hpl hvl hvs hpair hk
    have hII := paired_ints (f := fun t => ((((marksL ws).filter fun m => decide (m ≤ t)).length : Int))) hvl hvs hpair
    obtain ⟨nn, hpl⟩ := hpl
    refine hret _ _ _ (fun b o e => hk b o (fun hm => ?_) (k₂ b o (F5.keep b o e))) ⟨D, ys, nn, rfl, ?_, hpl, hII⟩
    · have := hwr b hm; rw [F5.keep b o e] at this; cases this
    · cases e : s.heap.get? D with
      | none => rfl
      | some o => have := k₂ D o (F5.keep D o e); rw [hD0] at this; cases this
end Mine
namespace Mine
noncomputable def Halt (p : Prop) : Prop := p
theorem halt {p : Prop} (h : Halt p) : p := h
theorem unhalt {p : Prop} (h : p) : Halt p := h
noncomputable def ht (a b : Int) : Int := (if a.fdiv 64 = b.fdiv 64 then 0 else 1) + (if a.fdiv 4096 = b.fdiv 4096 then 0 else 1)
noncomputable def leaf (c : Nat) : Str := if c = 34 then ⟨#[40, 92, 34, 41]⟩ else if c = 40 ∨ c = 41 then ⟨#[40, 34, c, 34, 41]⟩ else ⟨#[40, c, 41]⟩
theorem one_eq {c k : Nat} {y : Str} (e : y = ⟨#[k]⟩) (h : ((⟨#[c]⟩ : Str) == y) = true) : c = k := by
  rw [e] at h
  have := eq_of_beq h
  injection this with e'
  simpa using e'
theorem one_ne {c k : Nat} {y : Str} (e : y = ⟨#[k]⟩) (h : ((⟨#[c]⟩ : Str) == y) = false) : c ≠ k := by
  rintro rfl
  rw [e] at h
  simp at h
theorem two_of {p q : Int} {t u : Tok} {i : Nat} {v : Value} (h : (#[Value.int p t, Value.int q u] : Array Value)[i]? = some v) : ∃ x y, v = .int x y ∧ (x = p ∨ x = q) := by
  match i, h with
  | 0, h => cases h; exact ⟨_, _, rfl, .inl rfl⟩
  | 1, h => cases h; exact ⟨_, _, rfl, .inr rfl⟩
  | i + 2, h => cases h
noncomputable def partV (a b : Int) : Value → Bool
  | .int p _ => decide (a.fdiv p ≠ b.fdiv p)
  | _ => false
set_option maxRecDepth 100000 in
set_option maxHeartbeats 8000000 in
theorem leaf_c (w : World) (mean mg mb) (c : Nat) (t : Tok) (hc : 33 ≤ c ∧ c ≤ 41) :
    Cl 8 100 w (looseW Mine.hd.view_39 []) mean mg mb 115 True [.str ⟨#[c]⟩ t] (fun t => .str (leaf c) t) := by
  unfold Cl
  k_fill
  intros
  rename_i h₀ _ _ s _ _ hB hF hX hT hk hpre _ _ hret
  refine wpAny_call ?_
  k_dflt (refine' codeP ?zqk1 ?zqk2 ?zqk3 ?zqk5 ?zqkA ?zqkF ?zqkK ?zqk6 ?zqk7 ?zqk8 ?zqk9 ?zqkB ?_ ?zqc2 ?zqc3 ?zqc4 ?zqc5; (case zqkA => exact rfl); (case zqkF => exact rfl); (case zqkK => assumption); (case zqk1 => k_asm); (case zqk2 => k_asm); (case zqk3 => k_asm); (case zqk5 => k_asm); (case zqk6 => k_is); (case zqk7 => k_is); (case zqk8 => ktr_room); (case zqk9 => exact BindsTo.of_eq rfl); (case zqc5 => decide); (case zqkB => exact locs rfl); (case zqc2 => exact rfl); (case zqc3 => exact rfl); (case zqc4 => exact rfl); k_whole; intro h' F' N' B' X' T'; (try dsimp only); (try k_fold))
  repeat' (first
    | (k_unfold; (try dsimp only))
    | (k_end; wrow_close)
    | ((with_reducible show wpAny _ _ (loadName _ _) _ _ _); (k_here; k_dflt (refine' loadN ?zqF ?zqv ?_ ?zqa ?zqb ?zqc; (case zqF => k_asm); (case zqa => rfl); (case zqb => rfl); (case zqc => rfl); (case zqv => walk_at "lk"); k_whole)))
    | walk1
    | (dsimp only; walk1)
    | (leave1; walk_say "STEP leave1"; try dsimp only)
    | fail "no step")
  · have e := one_eq (k := 34) rfl (by assumption)
    rename Fr _ _ _ _ => F5
    have := hret
    rw [show leaf c = ⟨#[40, 92, 34, 41]⟩ by simp [leaf, e]] at this
    exact this _ _ _ F5.keep
  · have e := one_eq (k := 40) rfl (by assumption)
    rename Fr _ _ _ _ => F5
    have := hret
    rw [show leaf c = ⟨#[40, 34, c, 34, 41]⟩ by simp [leaf, e]] at this
    exact this _ _ _ F5.keep
  · have e := one_eq (k := 41) rfl (by assumption)
    rename Fr _ _ _ _ => F5
    have := hret
    rw [show leaf c = ⟨#[40, 34, c, 34, 41]⟩ by simp [leaf, e]] at this
    exact this _ _ _ F5.keep
  · rename (_ == Str.ofString "\"") = false => q1
    rename (_ == Str.ofString "(") = false => q2
    rename (_ == Str.ofString ")") = false => q3
    have e1 := one_ne (k := 34) rfl q1
    have e2 := one_ne (k := 40) rfl q2
    have e3 := one_ne (k := 41) rfl q3
    rename Fr _ _ _ _ => F5
    have := hret
    rw [show leaf c = ⟨#[40, c, 41]⟩ by simp [leaf, e1, e2, e3]] at this
    exact this _ _ _ F5.keep
set_option maxRecDepth 100000 in
set_option maxHeartbeats 8000000 in
theorem strcoll_c (w : World) (mean mg mb) (x y : Str) (t u : Tok) :
    Cl 8 100 w (looseW Mine.hd.view_39 []) mean mg mb 21 True [.str x t, .str y u] (fun t => .int (b2i (decide (y.cps.toList < x.cps.toList)) - b2i (decide (x.cps.toList < y.cps.toList))) t) := by
  unfold Cl
  k_fill
  intros
  rename_i h₀ _ _ s _ _ hB hF hX hT hk hpre _ _ hret
  refine wpAny_call ?_
  k_dflt (refine' codeP ?zqk1 ?zqk2 ?zqk3 ?zqk5 ?zqkA ?zqkF ?zqkK ?zqk6 ?zqk7 ?zqk8 ?zqk9 ?zqkB ?_ ?zqc2 ?zqc3 ?zqc4 ?zqc5; (case zqkA => exact rfl); (case zqkF => exact rfl); (case zqkK => assumption); (case zqk1 => k_asm); (case zqk2 => k_asm); (case zqk3 => k_asm); (case zqk5 => k_asm); (case zqk6 => k_is); (case zqk7 => k_is); (case zqk8 => ktr_room); (case zqk9 => exact BindsTo.of_eq rfl); (case zqc5 => decide); (case zqkB => exact locs rfl); (case zqc2 => exact rfl); (case zqc3 => exact rfl); (case zqc4 => exact rfl); k_whole; intro h' F' N' B' X' T'; (try dsimp only); (try k_fold))
  repeat' (first
    | (k_unfold; (try dsimp only))
    | (k_end; wrow_close)
    | ((with_reducible show wpAny _ _ (loadName _ _) _ _ _); (k_here; k_dflt (refine' loadN ?zqF ?zqv ?_ ?zqa ?zqb ?zqc; (case zqF => k_asm); (case zqa => rfl); (case zqb => rfl); (case zqc => rfl); (case zqv => walk_at "lk"); k_whole)))
    | walk1
    | (dsimp only; walk1)
    | (leave1; walk_say "STEP leave1"; try dsimp only)
    | fail "no step")
  rename Fr _ _ _ _ => F5
  exact hret _ _ _ F5.keep
local macro_rules | `(tactic| walk_at "eval ListComp") => `(tactic| (refine halt ?_))
local macro_rules | `(tactic| walk_at "pyIter ref") => `(tactic| (refine halt ?_))
set_option maxRecDepth 100000 in
set_option maxHeartbeats 8000000 in
theorem height_c (w : World) (mean mg mb) (a b : Int) (ta tb : Tok) (ha : 0 ≤ a ∧ a ≤ 1000000) (hb : 0 ≤ b ∧ b ≤ 1000000) :
    Cl 8 100 w (looseW Mine.hd.view_39 []) mean mg mb 108 True [.int a ta, .int b tb] (fun t => .int (ht a b) t) := by
  unfold Cl
  k_fill
  intros
  rename_i h₀ _ _ s _ _ hB hF hX hT hk hpre _ _ hret
  refine wpAny_call ?_
  k_dflt (refine' codePC ?zqk1 ?zqk2 ?zqk3 ?zqk5 ?zqkA ?zqkF ?zqkK ?zqk6 ?zqk7 ?zqk8 ?zqk9 ?zqkB ?zqkD ?_ ?zqc2 ?zqc3 ?zqc4; (case zqkA => exact rfl); (case zqkF => exact rfl); (case zqkK => assumption); (case zqk1 => k_asm); (case zqk2 => k_asm); (case zqk3 => k_asm); (case zqk5 => k_asm); (case zqk6 => k_is); (case zqk7 => k_is); (case zqk8 => ktr_room); (case zqk9 => exact BindsTo.of_eq rfl); (case zqkB => exact rfl); (case zqkD => decide +kernel); (case zqc2 => exact rfl); (case zqc3 => exact rfl); (case zqc4 => exact rfl); k_whole; intro h' tk' cells' F' N' Y' B' X' T'; k_cells Y'; (try dsimp only); (try k_fold))
  repeat' (first
    | (k_unfold; (try dsimp only))
    | (k_end; wrow_close)
    | ((with_reducible show wpAny _ _ (loadName _ _) _ _ _); (k_here; k_dflt (refine' loadN ?zqF ?zqv ?_ ?zqa ?zqb ?zqc; (case zqF => k_asm); (case zqa => rfl); (case zqb => rfl); (case zqc => rfl); (case zqv => walk_at "lk"); k_whole)))
    | walk1
    | (dsimp only; walk1)
    | (leave1; walk_say "STEP leave1"; try dsimp only)
    | fail "no step")
  refine unhalt ?_
  refine wpAny_ListComp_free (p := partV a b) (F := fun v y => y = v) (by with_unfolding_all rfl) (by decide) rfl (by decide) (by with_unfolding_all rfl) ?_
  repeat' (first
    | (k_unfold; (try dsimp only))
    | (k_end; wrow_close)
    | ((with_reducible show wpAny _ _ (loadName _ _) _ _ _); (k_here; k_dflt (refine' loadN ?zqF ?zqv ?_ ?zqa ?zqb ?zqc; (case zqF => k_asm); (case zqa => rfl); (case zqb => rfl); (case zqc => rfl); (case zqv => walk_at "lk"); k_whole)))
    | walk1
    | (dsimp only; walk1)
    | (leave1; walk_say "STEP leave1"; try dsimp only)
    | fail "no step")
  refine unhalt ?_
  rename Fr _ _ _ _ => F5
  rename News _ _ _ _ => N5
  have hD := (N5 _ (.head _)).1
  have ho := (N5 _ (.tail _ (.head _))).1
  have ho2 := (N5 _ (.tail _ (.tail _ (.head _)))).1
  rename (Obj.data _ = Data.cell (bindC _ _ _ (Str.ofString "other"))) => d1
  rename (Obj.data _ = Data.cell (bindC _ _ _ (Str.ofString "one"))) => d2
  have d1 := d1.trans (show _ = Data.cell (some (.int b tb)) by with_unfolding_all rfl)
  have d2 := d2.trans (show _ = Data.cell (some (.int a ta)) by with_unfolding_all rfl)
  refine wpAny_pyIter_tuple ⟨_, hD, rfl, _, rfl⟩ ?_
  have hDlt := Heap.lt_size hD
  refine ⟨_, _, _, _, _, _, rfl, Walks.tuple (by rfl) _ _ (Nat.ne_of_lt hDlt) _, (by rw [sizeLine_eq]; show 2 ≤ 16777216; decide), ⟨⟨_, Heap.get?_push_size _ rfl, rfl, rfl⟩, ⟨_, Heap.get?_push_of_some _ hD, rfl, _, rfl⟩⟩, ?_, ⟨?_, ?_⟩, ?_⟩
  · intro b hb
    rcases List.mem_cons.mp hb with rfl | hb
    · show _ < (Heap.push _ _).objs.size; rw [Heap.size_push]; exact Nat.lt_succ_self _
    · rw [List.mem_singleton.mp hb]; show _ < (Heap.push _ _).objs.size; rw [Heap.size_push]; exact Nat.lt_succ_of_lt hDlt
  · intro C2 i2 v2 s4 m4 E2 hC2 hP2 hn2 hm2 hk2 _
    have up : ∀ b o, Heap.get? _ b = some o → s4.heap.get? b = some o := fun b o e => hk2 b o (fun hm => by
      have := List.mem_singleton.mp hm
      have hlt := Heap.lt_size e
      rw [this] at hlt; exact Nat.lt_irrefl _ hlt) (Heap.get?_push_of_some _ e)
    have c1 : s4.heap.IsCell _ (some (.int b tb)) := ⟨_, up _ _ ho, d1⟩
    have c2 : s4.heap.IsCell _ (some (.int a ta)) := ⟨_, up _ _ ho2, d2⟩
    refine wpAny_tests_one ?_
    obtain ⟨p, u, rfl, hp⟩ := two_of hP2
    refine wpAny_isTrue_Compare1 (wpAny_BinOp (wpAny_Name (wpAny_loadName_cell rfl (by with_unfolding_all rfl) (by with_unfolding_all rfl) c2 (wpAny_Name (wpAny_loadName_local rfl (by with_unfolding_all rfl) hn2 hm2 (PyProof.Rows.floordiv_int (by omega) ?_ ?_)))) (by decide)))
    · refine wpAny_BinOp (wpAny_Name (wpAny_loadName_cell rfl (by with_unfolding_all rfl) (by with_unfolding_all rfl) c1 (wpAny_Name (wpAny_loadName_local rfl (by with_unfolding_all rfl) hn2 hm2 (PyProof.Rows.floordiv_int (by omega) ?_ ?_)))) (by decide))
      · refine PyProof.Rows.ne_int (wpAny_truthy_bool ⟨?_, ⟨_, _, rfl, fun b o e => e⟩⟩)
        simp only [partV]
        by_cases hq : a.fdiv p = b.fdiv p <;> simp [hq]
      · exact Or.inl (PyProof.noPylong_small (by omega))
    · exact Or.inl (PyProof.noPylong_small (by omega))
  · intro C2 i2 v2 s4 m4 E2 hC2 hP2 hp2 hn2 hm2 hk2 _
    exact wpAny_Name (wpAny_loadName_local rfl (by with_unfolding_all rfl) hn2 hm2 ⟨rfl, ⟨_, _, rfl, fun b o e => e⟩⟩)
  · intro D2 h4 tk4 ys2 vs2 hD2 hl2 hpl2 hlen4 hP4 hpair4 hk4
    refine spliced_none ?_
    have hvs : vs2 = _ := vs_eq hlen4 hP4
    have hy2 : (ys2.size : Int) = ht a b := by
      have := hpair4.length
      rw [hvs] at this
      simp only [Array.length_toList] at this
      rw [← this]
      simp only [List.filter_cons, List.filter_nil, partV, ht]
      by_cases h1 : a.fdiv 64 = b.fdiv 64 <;> by_cases h2 : a.fdiv 4096 = b.fdiv 4096 <;> simp [h1, h2]
    refine PyProof.Rows.len_list hl2 ?_ ?_
    · rw [hy2]; unfold ht; split <;> split <;> decide
    · rw [hy2]
      exact hret _ _ _ (fun b o e => hk4 b o (fun hm => by
          have := List.mem_singleton.mp hm
          have hlt := Heap.lt_size (F5.keep b o e)
          rw [this] at hlt; exact Nat.lt_irrefl _ hlt) (Heap.get?_push_of_some _ (F5.keep b o e)))
end Mine
namespace Mine
noncomputable def strG (ls : List Str) (hs : List Int) (f : Nat) : Nat → Str
  | 0 => ls.getD f Str.empty
  | n + 1 => strG ls hs f n ++ (Txt.mul (Str.ofString ")") (hs.getD (f + n) 0) ++ Txt.mul (Str.ofString "(") (hs.getD (f + n) 0) ++ ls.getD (f + n + 1) Str.empty)
theorem mul_len {x : Str} {n : Int} (hx : x.length = 1) (h0 : 0 ≤ n) (h2 : n ≤ 2) : (Txt.mul x n).length ≤ 2 := by
  unfold Txt.mul
  have : n = 0 ∨ n = 1 ∨ n = 2 := by omega
  obtain ⟨a⟩ := x
  rcases this with rfl | rfl | rfl
  · rw [if_pos (by decide)]; decide
  · simp [Str.length] at hx ⊢; omega
  · have hx' : a.size = 1 := hx
    simp [Str.length, hx', List.replicate]
theorem mul_small {prog : Program} {w : World} {A : Around} {E : Value → Shared → Prop} {s : Shared} {Q : Value → Shared → Prop} {x : Str} {t u : Tok} {n : Int} (hx : x.length = 1) (h0 : 0 ≤ n) (h2 : n ≤ 2) (h : ∀ t' k, (Txt.mul x n).length ≤ 2 → Q (.str (Txt.mul x n) t') { s with toks := k }) :
    wpAny (model prog w) A (binaryOp .Mult (.str x t) (.int n u)) Q E s := by
  exact PySem.SB.mul (mulOk_of 1 2 (by omega) (by omega) (by omega) (by decide) (by decide)) fun t' k => h t' k (mul_len hx h0 h2)
theorem getD_mem {α : Type} {xs : List α} {i : Nat} {d : α} {P : α → Prop} (h : ∀ x ∈ xs, P x) (hi : i < xs.length) : P (xs.getD i d) := by
  rw [List.getD_eq_getElem?_getD, List.getElem?_eq_getElem hi]
  exact h _ (List.getElem_mem hi)
theorem str_len {x y : Str} : (x ++ y).length = x.length + y.length := by
  show (x.cps ++ y.cps).size = _
  simp [Str.length]
theorem add_leaf {prog : Program} {w : World} {A : Around} {E : Value → Shared → Prop} {s : Shared} {Q : Value → Shared → Prop} {x : Str} {t u : Tok} {ls : List Str} {i : Nat} (hx : x.length ≤ 1000) (hl : ∀ x ∈ ls, x.length ≤ 5) (hi : i < ls.length)
    (h : ∀ t' k, (x ++ ls.getD i Str.empty).length ≤ x.length + 5 → Q (.str (x ++ ls.getD i Str.empty) t') { s with toks := k }) : wpAny (model prog w) A (binaryOp .Add (.str x t) (.str (ls.getD i Str.empty) u)) Q E s := by
  have := getD_mem (P := fun x => x.length ≤ 5) (d := Str.empty) hl hi
  refine PyProof.Rows.add_str (fun t' k => h t' k (by rw [str_len]; omega)) (by rw [sizeLine_eq]; omega)
theorem add_b {prog : Program} {w : World} {A : Around} {E : Value → Shared → Prop} {s : Shared} {Q : Value → Shared → Prop} {x y : Str} {t u : Tok} (hx : x.length ≤ 1000) (hy : y.length ≤ 1000)
    (h : ∀ t' k, (x ++ y).length = x.length + y.length → Q (.str (x ++ y) t') { s with toks := k }) : wpAny (model prog w) A (binaryOp .Add (.str x t) (.str y u)) Q E s :=
  PyProof.Rows.add_str (fun t' k => h t' k str_len) (by rw [sizeLine_eq]; omega)
theorem iadd_b {prog : Program} {w : World} {A : Around} {E : Value → Shared → Prop} {s : Shared} {Q : Value → Shared → Prop} {x y : Str} {t u : Tok} (hx : x.length ≤ 1000) (hy : y.length ≤ 1000)
    (h : ∀ t' k, (x ++ y).length = x.length + y.length → Q (.str (x ++ y) t') { s with toks := k }) : wpAny (model prog w) A (inplaceOp .Add (.str x t) (.str y u)) Q E s :=
  PyProof.Rows.iadd_str (fun t' k => h t' k str_len) (by rw [sizeLine_eq]; omega)
theorem str_zero {ls : List Str} {hs : List Int} {f : Nat} (hls : ∀ x ∈ ls, x.length ≤ 5) (hf : f < ls.length) : ls.getD f Str.empty = strG ls hs f ([] : List Int).length ∧ (ls.getD f Str.empty).length ≤ 10 + 10 * ([] : List Int).length :=
  ⟨rfl, by have := getD_mem (P := fun x => x.length ≤ 5) (d := Str.empty) hls hf; show _ ≤ 10 + 10 * 0; omega⟩
theorem str_step {ls : List Str} {hs : List Int} {f k : Int} {pre : List Int} {text : Str} (hf : 0 ≤ f) (ek : k = f + (pre.length : Int)) (e : text = strG ls hs f.toNat pre.length) (hb : text.length ≤ 10 + 10 * pre.length)
    (hs0 : ∀ x ∈ hs, 0 ≤ x) (hs2 : ∀ x ∈ hs, x ≤ 2) (hls : ∀ x ∈ ls, x.length ≤ 5) (h1 : k.toNat < hs.length) (h2 : k.toNat + 1 < ls.length) :
    text ++ (Txt.mul (Str.ofString ")") (hs.getD k.toNat 0) ++ Txt.mul (Str.ofString "(") (hs.getD k.toNat 0) ++ ls.getD (k + 1).toNat Str.empty) = strG ls hs f.toNat (pre ++ [k]).length ∧
    (text ++ (Txt.mul (Str.ofString ")") (hs.getD k.toNat 0) ++ Txt.mul (Str.ofString "(") (hs.getD k.toNat 0) ++ ls.getD (k + 1).toNat Str.empty)).length ≤ 10 + 10 * (pre ++ [k]).length := by
  have e1 : k.toNat = f.toNat + pre.length := by omega
  have e2 : (k + 1).toNat = f.toNat + pre.length + 1 := by omega
  have hl : (pre ++ [k]).length = pre.length + 1 := by simp
  refine ⟨?_, ?_⟩
  · rw [hl, e1, e2, e]; rfl
  · rw [hl, str_len, str_len, str_len]
    have a1 := getD_mem (P := fun x => x.length ≤ 5) (d := Str.empty) hls (i := (k + 1).toNat) (by omega)
    have g0 := getD_mem (P := fun x => 0 ≤ x) (d := 0) hs0 h1
    have g2 := getD_mem (P := fun x => x ≤ 2) (d := 0) hs2 h1
    have a2 := mul_len (x := Str.ofString ")") (by decide) g0 g2
    have a3 := mul_len (x := Str.ofString "(") (by decide) g0 g2
    omega
set_option maxRecDepth 100000 in
set_option maxHeartbeats 2000000 in
theorem stretch_c (w : World) (mean mg mb) (S H : Addr) (vs us : List Value) (ls : List Str) (hs : List Int) (f l : Int) (n n' : Nat) (v v' : Tok) (hi1 : StrsAre vs ls) (hi2 : IntsAre us hs)
    (hl5 : ls.length = 5) (hl4 : hs.length = 4) (hs0 : ∀ x ∈ hs, 0 ≤ x) (hs2 : ∀ x ∈ hs, x ≤ 2) (hls : ∀ x ∈ ls, x.length ≤ 5) (hf : 0 ≤ f) (hfl : f ≤ l) (hl : l ≤ 4) :
    Ch 8 100 w (looseW Mine.hd.view_39 []) mean mg mb 122 (fun h => h.get? S = some (listOf vs.toArray n) ∧ h.get? H = some (listOf us.toArray n')) [.ref S, .ref H, .int f v, .int l v'] (fun _ _ v => ∃ t, v = .str (strG ls hs f.toNat (l - f).toNat) t) := by
  unfold Ch
  k_fill
  intros
  rename_i h₀ _ _ s _ _ hB hF hX hT hk hpre _ _ hret
  have hL : s.heap.IsList S vs.toArray := ⟨_, hpre.1, rfl, _, rfl⟩
  have hL2 : s.heap.IsList H us.toArray := ⟨_, hpre.2, rfl, _, rfl⟩
  refine wpAny_call ?_
  k_dflt (refine' codeP ?zqk1 ?zqk2 ?zqk3 ?zqk5 ?zqkA ?zqkF ?zqkK ?zqk6 ?zqk7 ?zqk8 ?zqk9 ?zqkB ?_ ?zqc2 ?zqc3 ?zqc4 ?zqc5; (case zqkA => exact rfl); (case zqkF => exact rfl); (case zqkK => assumption); (case zqk1 => k_asm); (case zqk2 => k_asm); (case zqk3 => k_asm); (case zqk5 => k_asm); (case zqk6 => k_is); (case zqk7 => k_is); (case zqk8 => ktr_room); (case zqk9 => exact BindsTo.of_eq rfl); (case zqc5 => decide); (case zqkB => exact locs rfl); (case zqc2 => exact rfl); (case zqc3 => exact rfl); (case zqc4 => exact rfl); k_whole; intro h' F' N' B' X' T'; (try dsimp only); (try k_fold))
  k_with "pyIter ref" => k_state (fun (pre : List Int) (text : Str) => text = strG ls hs f.toNat pre.length ∧ text.length ≤ 10 + 10 * pre.length) "text"
  k_with "state" => first
    | exact str_zero (by assumption) (by omega)
    | exact str_step (by assumption) (by assumption) (by assumption) (by assumption) (by assumption) (by assumption) (by assumption) (by omega) (by omega)
  repeat' (first
    | (k_unfold; (try dsimp only))
    | (k_end; wrow_close)
    | ((with_reducible show wpAny _ _ (inplaceOp PySem.Operator.Add (Value.str _ _) (Value.str _ _)) _ _ _); (k_here; (with_reducible refine' iadd_b ?zqa ?zqb ?_; (case zqa => omega); (case zqb => omega)); intro _ _ _; (try dsimp only)))
    | ((with_reducible show wpAny _ _ (binaryOp PySem.Operator.Add (Value.str _ _) (Value.str _ _)) _ _ _); (k_here; (first | (with_reducible refine' add_leaf ?zqa ?zqb ?zqc ?_; (case zqa => omega); (case zqb => assumption); (case zqc => omega)) | (with_reducible refine' add_b ?zqa ?zqb ?_; (case zqa => omega); (case zqb => omega))); intro _ _ _; (try dsimp only)))
    | ((with_reducible show wpAny _ _ (binaryOp PySem.Operator.Mult (Value.str _ _) (Value.int _ _)) _ _ _); (k_here; k_dflt (refine mul_small (by decide) (getD_mem (P := fun x => 0 ≤ x) (by assumption) (by omega)) (getD_mem (P := fun x => x ≤ 2) (by assumption) (by omega)) ?_); intro _ _ _; (try dsimp only)))
    | ((with_reducible show wpAny _ _ (loadName _ _) _ _ _); (k_here; k_dflt (refine' loadN ?zqF ?zqv ?_ ?zqa ?zqb ?zqc; (case zqF => k_asm); (case zqa => rfl); (case zqb => rfl); (case zqc => rfl); (case zqv => walk_at "lk"); k_whole)))
    | walk1
    | (dsimp only; walk1)
    | (leave1; walk_say "STEP leave1"; try dsimp only)
    | fail "no step")
  k_with_none
  rename Fr _ _ _ _ => F5
  rename _ = strG _ _ _ _ => e5
  rw [rangeKs_length] at e5
  exact hret _ _ _ F5.keep ⟨_, by rw [e5]⟩
end Mine
namespace Mine
noncomputable def LIt (o : Obj) (l : Addr) (i : Nat) : Prop := o.cls = .type "list_iterator" ∧ o.data = .fields #[.ref l, .int i 0]
section
variable {prog : Program} {w : World} {A : Around} {E : Value → Shared → Prop} {s : Shared} {h₀ : Heap} {L d it : Addr} {m : Str → Option Value} {news : List (Addr × Obj)} {g : Obj → List (Addr × Obj)} {o io : Obj} {vs : List Value} {x : Value} {i n : Nat} {Q : Value → Shared → Prop}
theorem iter_list (F : Fr h₀ L s.heap m) (N : News h₀ L s.heap news) (hp : (d, PySem.W.listOf vs.toArray n) ∈ news)
    (h : ∀ (I : Addr) h' oI, Fr h₀ L h' m → News h₀ L h' ((I, oI) :: news) → (∀ p ∈ news, p.1 < I) → LIt oI d 0 → Q (.ref I) { s with heap := h' }) :
    wpAny (model prog w) A (call (.builtin "iter") [.ref d]) Q E s := by
  refine Calls.call_function_entry (by decide +kernel) (by decide +kernel) kdk_entry_iter (kdk_args_iter _) ?_
  unfold Builtin.«iter»
  refine wpAny_bind (m := someArgs "iter" 1 2 _) (wpAny_of_eq (a := [Value.ref d]) (by first | rfl | kernel_rfl!) ?_)
  show wpAny _ _ (pyIter (.ref d) >>= _) _ _ _
  refine wpAny_bind (wpAny_pyIter_list ⟨_, (N _ hp).1, rfl, _, rfl⟩ ?_)
  exact wpAny_pure ⟨_, rfl, h _ _ _ (F.push _) (News.push F N _ rfl) (fun q hq => Heap.lt_size (N q hq).1) ⟨rfl, rfl⟩⟩
theorem next_special {Q : Option Value → Shared → Prop} {items : Array Value} (hit : s.heap.IsListIter it d i) (hl : s.heap.IsList d items) (hx : items[i]? = some x)
    (hQ : ∀ h', h'.IsListIter it d (i + 1) → Heap.SameBut it s.heap h' → Q (some x) { s with heap := h' }) :
    wpAny (model prog w) A (callSpecial? (.ref it) (Str.ofString "__next__")) Q E s := by
  obtain ⟨o, ho, hc, hd⟩ := id hit
  obtain ⟨ol, hol, _, nl, hdl⟩ := hl
  refine wpAny_callSpecial?_slot (name := Str.ofString "__next__") hit.typeIs slot_listiter_next
    (wpAny_call_entry slot_listiter_next hit.typeIs entry_listiter_next ?_ (args_listiter_next _))
  show wpAny _ _ (field (.ref it) 0 >>= _) _ _ s
  refine wpAny_bind (wpAny_field ho hd (x := .ref d) rfl ?_)
  show wpAny _ _ (if (Value.ref d == Value.none) = true then _ else _) _ _ s
  rw [if_neg (show ¬ ((Value.ref d == Value.none) = true) from Bool.false_ne_true)]
  show wpAny _ _ (field (.ref it) 1 >>= _) _ _ s
  refine wpAny_bind (wpAny_field ho hd (x := .int i 0) rfl ?_)
  show wpAny _ _ (seqItems? (.ref d) >>= _) _ _ s
  refine wpAny_bind (wpAny_seqItems hol hdl ?_)
  simp only [Int.toNat_natCast, hx]
  refine wpAny_bind (wpAny_setField ho hd (by simp) (wpAny_pure ⟨x, rfl, (hQ _ ?_ (Heap.SameBut.update ..))⟩))
  exact ⟨_, Heap.get?_update_self _ ho (Obj.isFreed_of_fields (Obj.data_mapFields hd _)), (Obj.cls_mapFields ..).trans hc, by
    rw [Obj.data_mapFields hd]; simp [rawInt]⟩
theorem next_list {items : Array Value} (F : Fr h₀ L s.heap m) (N : News h₀ L s.heap news) (U : UpdF it io news g) (hi : LIt io d i) (hl : s.heap.IsList d items) (hx : items[i]? = some x)
    (h : ∀ h' o', Fr h₀ L h' m → News h₀ L h' (g o') → LIt o' d (i + 1) → Q x { s with heap := h' }) :
    wpAny (model prog w) A (call (.builtin "next") [.ref it]) Q E s := by
  obtain ⟨pre, post, hl', hg, a, b⟩ := U.split
  have hmem : (it, io) ∈ news := by rw [hl']; exact List.mem_append_right _ (.head _)
  have hm := N (it, io) hmem
  have hit : s.heap.IsListIter it d i := ⟨io, hm.1, hi.1, hi.2⟩
  refine Calls.call_function_entry (by decide +kernel) (by decide +kernel) kdk_entry_next (kdk_args_next _) ?_
  unfold Builtin.«next»
  refine wpAny_bind (m := someArgs "next" 1 2 _) (wpAny_of_eq (a := [Value.ref it]) (by first | rfl | kernel_rfl!) ?_)
  dsimp only
  refine wpAny_bind (wpAny_specialOf (name := Str.ofString "__next__") hit.typeIs slot_listiter_next.lookup ?_)
  refine wpAny_ite_split (fun hab => absurd hab (by decide)) (fun _ => ?_)
  refine wpAny_bind (next_special hit hl hx fun h' hit' hs => ?_)
  obtain ⟨o', ho', hc', hd'⟩ := hit'
  exact wpAny_pure ⟨_, rfl, h h' o' (F.change hs hm.2.1 hm.2.2) (hg o' ▸ (show News h₀ L s.heap (pre ++ (it, io) :: post) from hl' ▸ N).setIn a b hs ho') ⟨hc', hd'⟩⟩
end
end Mine
namespace Mine
section
variable {prog : Program} {w : World} {A A₀ : Around} {s : Shared} {K : Frag} {L : Addr} {h₀ base : Heap} {m mg mb : Str → Option Value} {p : Program} {loose : List Str} {mean : ExcName → Option Value}
  {env : Env} {outer : List Env} {R : Result → Shared → Prop} {name qual : Str} {params : Arguments} {body : List Stmt} {scope : Scope} {dV kV doc pm cdv ct oc : Value} {an od : Option Addr} {osl : Array (Option Value)} {f : Addr} {args : Args} {binds : List (Str × Value)} {it : Addr} {io : Obj}
theorem codePI (B : Below A₀ base outer h₀) (F : Fr h₀ L s.heap m) (X₀ : K.In h₀) (T : Top p loose mean mg mb h₀) (N : News h₀ L s.heap [(it, io)]) (hA : A.frames = some (env :: outer)) (hf : env.frame = some L) (hke : env.scope.kind = .function)
    (ho : K.lookup f = some ⟨oc, od, .func (fnOf name qual params body scope dV kV doc pm an cdv ct), osl⟩) (hcd : codeIn K cdv qual = true) (hroom : A.depth < recursionLimit)
    (hbind : BindsTo s (fnOf name qual params body scope dV kV doc pm an cdv ct) args binds) (hloc : ∀ y ∈ binds, scope.names.lookup y.1 = some .local)
    (h : ∀ (gh h₁ : Heap), (∀ b o, b ≠ it → s.heap.get? b = some o → gh.get? b = some o) → Fr gh s.heap.objs.size h₁ (fun y => binds.reverse.lookup y) → News gh s.heap.objs.size h₁ [(it, io)] → Below A base (env :: outer) gh → K.In gh → Top p loose mean mg mb gh →
      wpAny (model prog w) (A.deeper (envOf qual scope s.heap.objs.size f cdv)) (execs body (envOf qual scope s.heap.objs.size f cdv))
        (fun fl s' => R (.ok (.ret (match fl with | .ret v => v | _ => .none))) s')
        (fun e s' => wpAny (model prog w) (A.deeper (envOf qual scope s.heap.objs.size f cdv)) (leaving (envOf qual scope s.heap.objs.size f cdv) e) (fun _ s'' => R (.error e) s'') (fun e' s'' => R (.error e') s'') s')
        { s with heap := h₁, toks := s.toks + binds.length })
    (hco : scope.isCoroutine = false) (hgen : scope.isGenerator = false) (hk : scope.kind = .function) (hcell : ∀ x ∈ scope.names, x.2 ≠ .cell) : codeAny (model prog w) A (.call (.ref f) args) R s := by
  obtain ⟨_, BG, st, _⟩ := groundX (R := R) B F N hA hf hke
  have hit := (N _ (.head _)).1
  exact codeAny_call_def (fd := fnOf name qual params body scope dV kV doc pm an cdv ct) (body := body) (binds := binds) hroom ((X₀.keeps F.keep) _ _ ho) rfl (T.nolimit.keeps F.keep) (codeRec_of (X₀.keeps F.keep) hcd) rfl hbind hcell hloc
    (fun h₁ hns hk₁ => h _ h₁ (fun b o hb e => hideAll_get _ e (by simpa using hb)) ⟨hns, fun b o e => hk₁ b o (of_hideAll _ e), Nat.le_of_eq (hideAll_size _ _)⟩
      (fun p hp => by
        rw [List.mem_singleton.mp hp]
        exact ⟨hk₁ _ _ hit, Nat.ne_of_lt (Heap.lt_size hit), hideAll_none _ (by simp)⟩) BG (X₀.keeps st) (T.keeps st)) hco hgen hk
end
theorem and63_a {b : Int} (h : 193 ≤ b ∧ b ≤ 197) : Builtin.bitAnd b 63 = b - 192 := by
  have : b = 193 ∨ b = 194 ∨ b = 195 ∨ b = 196 ∨ b = 197 := by omega
  rcases this with rfl | rfl | rfl | rfl | rfl <;> decide
theorem and64_a {b : Int} (h : 193 ≤ b ∧ b ≤ 197) : Builtin.bitAnd b 64 = 64 := by
  have : b = 193 ∨ b = 194 ∨ b = 195 ∨ b = 196 ∨ b = 197 := by omega
  rcases this with rfl | rfl | rfl | rfl | rfl <;> decide
theorem and63_b {b : Int} (h : 73 ≤ b ∧ b ≤ 77) : Builtin.bitAnd b 63 = b - 64 := by
  have : b = 73 ∨ b = 74 ∨ b = 75 ∨ b = 76 ∨ b = 77 := by omega
  rcases this with rfl | rfl | rfl | rfl | rfl <;> decide
theorem and64_b {b : Int} (h : 73 ≤ b ∧ b ≤ 77) : Builtin.bitAnd b 64 = 64 := by
  have : b = 73 ∨ b = 74 ∨ b = 75 ∨ b = 76 ∨ b = 77 := by omega
  rcases this with rfl | rfl | rfl | rfl | rfl <;> decide
theorem and63_c {b : Int} (h : 33 ≤ b ∧ b ≤ 41) : Builtin.bitAnd b 63 = b := by
  have : b = 33 ∨ b = 34 ∨ b = 35 ∨ b = 36 ∨ b = 37 ∨ b = 38 ∨ b = 39 ∨ b = 40 ∨ b = 41 := by omega
  rcases this with rfl | rfl | rfl | rfl | rfl | rfl | rfl | rfl | rfl <;> decide
theorem and64_c {b : Int} (h : 33 ≤ b ∧ b ≤ 41) : Builtin.bitAnd b 64 = 0 := by
  have : b = 33 ∨ b = 34 ∨ b = 35 ∨ b = 36 ∨ b = 37 ∨ b = 38 ∨ b = 39 ∨ b = 40 ∨ b = 41 := by omega
  rcases this with rfl | rfl | rfl | rfl | rfl | rfl | rfl | rfl | rfl <;> decide
theorem and_low (a b : Nat) (h : b < 64) : (a * 64) &&& b = 0 := by
  refine Nat.eq_of_testBit_eq fun i => ?_
  rw [Nat.testBit_and, Nat.zero_testBit, Nat.mul_comm, show 64 = 2 ^ 6 from rfl, Nat.testBit_two_pow_mul]
  by_cases hi : 6 ≤ i
  · rw [Nat.testBit_lt_two_pow (Nat.lt_of_lt_of_le h (Nat.pow_le_pow_right (n := 2) (by decide) hi)), Bool.and_false]
  · simp [hi]
theorem or_add {x y : Int} (hx : 0 ≤ x ∧ x < 400) (hy : 0 ≤ y ∧ y < 64) : Builtin.bitOr (x * 64) y = x * 64 + y := by
  obtain ⟨a, rfl⟩ := Int.eq_ofNat_of_zero_le hx.1
  obtain ⟨b, rfl⟩ := Int.eq_ofNat_of_zero_le hy.1
  have e : Builtin.bitAnd ((a : Int) * 64) (b : Int) = 0 := by
    unfold Builtin.bitAnd
    rw [decide_eq_true (show (0 : Int) ≤ (a : Int) * 64 by omega), decide_eq_true (show (0 : Int) ≤ (b : Int) by omega)]
    show (((((a * 64 : Nat) : Int)).toNat &&& b : Nat) : Int) = 0
    rw [Int.toNat_natCast, and_low a b (by omega)]; rfl
  rw [bitOr_and, e, Int.sub_zero]
section
variable {prog : Program} {w : World} {A : Around} {E : Value → Shared → Prop} {s : Shared} {Q : Value → Shared → Prop} {t u : Tok} {a b c : Int}
theorem and_l (e : Builtin.bitAnd a b = c) (k : ∀ t' k, Q (.int c t') { s with toks := k }) : wpAny (model prog w) A (binaryOp .BitAnd (.int a t) (.int b u)) Q E s := PyProof.Rows.and_int (by rw [e]; exact k _ _)
theorem shl_l (ha : 0 ≤ a ∧ a < 400) (k : ∀ t' k, Q (.int (a * 64) t') { s with toks := k }) : wpAny (model prog w) A (inplaceOp .LShift (.int a t) (.int 6 u)) Q E s :=
  PyProof.Rows.ilshift_int_small (by decide) (by decide) (by omega) (by rw [show (2 : Int) ^ (6 : Int).toNat = 64 from rfl]; exact k _ _)
theorem or_l (ha : 0 ≤ a ∧ a < 400) (hb : 0 ≤ b ∧ b < 64) (k : ∀ t' k, Q (.int (a * 64 + b) t') { s with toks := k }) : wpAny (model prog w) A (inplaceOp .BitOr (.int (a * 64) t) (.int b u)) Q E s :=
  PyProof.Rows.ior_int (by rw [or_add ha hb]; exact k _ _)
end
set_option maxRecDepth 100000 in
set_option maxHeartbeats 8000000 in
theorem varint_c (w : World) (mean mg mb) (it T : Addr) (items : Array Value) (n i : Nat) (b1 b2 b3 : Int) (t1 t2 t3 : Tok) (e1 : items[i]? = some (.int b1 t1)) (e2 : items[i + 1]? = some (.int b2 t2)) (e3 : items[i + 1 + 1]? = some (.int b3 t3))
    (h1 : 193 ≤ b1 ∧ b1 ≤ 197) (h2 : 73 ≤ b2 ∧ b2 ≤ 77) (h3 : 33 ≤ b3 ∧ b3 ≤ 41) :
    ∀ (dp un : Nat) (gd : Option (List Code)) (cn : Str) (cs : Scope) (a : Addr) (ccd : Value) (cl : List (Str × Addr)) (outer : List Env) (A₀ : Around) (base h₀ : Heap) (L : Addr) (m : Str → Option Value) (s : Shared) (Q E : Value → Shared → Prop) (io : Obj),
    Below A₀ base outer h₀ → Fr h₀ L s.heap m → (Mine.hd.heap_39 w.params).In h₀ → Top Mine.hd.view_39 (looseW Mine.hd.view_39 []) mean mg mb h₀ → cs.kind = .function →
    News h₀ L s.heap [(it, io)] → LIt io T i → T ≠ it → s.heap.get? T = some (PySem.W.listOf items n) → dp + 8 < recursionLimit → un + 100 < cLine →
    (∀ (t : Tok) (h' : Heap) (tk' : Nat) (o' : Obj), (∀ b o, b ≠ it → s.heap.get? b = some o → h'.get? b = some o) → h'.get? it = some o' → LIt o' T (i + 1 + 1 + 1) → Q (.int (((b1 - 192) * 64 + (b2 - 64)) * 64 + b3) t) { s with heap := h', toks := tk' }) →
      wpAny (model Challenge.rw_sw0030_01.row.prog w) (ktrTop dp un gd cn cs L a ccd cl outer) (call (.ref 35) [.ref it]) Q E s := by
  k_fill
  intros
  rename_i h₀ _ _ s _ _ io hB hF hX hT hk hN hI hne hTl _ _ hret
  refine wpAny_call ?_
  k_dflt (refine' codePI ?k1 ?k2 ?k3 ?k5 ?k4 ?kA ?kF ?kK ?k6 ?k7 ?k8 ?k9 ?kB ?_ ?c2 ?c3 ?c4 ?c5; (case kA => exact rfl); (case kF => exact rfl); (case kK => assumption); (case k1 => k_asm); (case k2 => k_asm); (case k3 => k_asm); (case k5 => k_asm); (case k4 => assumption); (case k6 => k_is); (case k7 => k_is); (case k8 => ktr_room); (case k9 => exact BindsTo.of_eq rfl); (case c5 => decide); (case kB => exact locs rfl); (case c2 => exact rfl); (case c3 => exact rfl); (case c4 => exact rfl); k_whole; intro gh h' hgh F' N' B' X' T'; (try dsimp only); (try k_fold))
  have hTg := hgh _ _ hne hTl
  repeat' (first
    | (k_unfold; (try dsimp only))
    | (k_end; wrow_close)
    | ((with_reducible show wpAny _ _ (call (Value.builtin "next") _) _ _ _); (k_here; k_dflt (refine' next_list ?zqF ?zqN ?zqU ?zqi ?zql ?zqx ?_; (case zqF => k_asm); (case zqN => k_asm); (case zqU => k_updF); (case zqi => assumption); (case zql => exact ⟨_, Fr.keep (by k_asm) _ _ (by assumption), rfl, _, rfl⟩); (case zqx => assumption)); intro h' o' F' N' hi'; (try dsimp only at N'); (try dsimp only); k_sweep))
    | ((with_reducible show wpAny _ _ (exec (PySem.Stmt.While _ _ _ _) _) _ _ _); (k_here; k_dflt (refine whl_start 100 ?_)))
    | ((with_reducible show wpAny _ _ (truthy (Value.int _ _)) _ _ _); (k_here; first | with_reducible refine tri_f (by decide) ?_ | with_reducible refine tri_t (by decide) ?_))
    | ((with_reducible show wpAny _ _ (inplaceOp PySem.Operator.BitOr (Value.int _ _) (Value.int _ _)) _ _ _); (k_here; (with_reducible refine' or_l ?zqa ?zqb ?_; (case zqa => omega); (case zqb => omega)); intro _ _; (try dsimp only)))
    | ((with_reducible show wpAny _ _ (inplaceOp PySem.Operator.LShift (Value.int _ _) (Value.int _ _)) _ _ _); (k_here; (with_reducible refine' shl_l ?zqa ?_; (case zqa => omega)); intro _ _; (try dsimp only)))
    | ((with_reducible show wpAny _ _ (binaryOp PySem.Operator.BitAnd (Value.int _ _) (Value.int _ _)) _ _ _); (k_here; (first | with_reducible refine and_l (and63_a (by assumption)) ?_ | with_reducible refine and_l (and64_a (by assumption)) ?_ | with_reducible refine and_l (and63_b (by assumption)) ?_ | with_reducible refine and_l (and64_b (by assumption)) ?_ | with_reducible refine and_l (and63_c (by assumption)) ?_ | with_reducible refine and_l (and64_c (by assumption)) ?_); intro _ _; (try dsimp only)))
    | ((with_reducible show wpAny _ _ (loadName _ _) _ _ _); (k_here; k_dflt (refine' loadN ?zqF ?zqv ?_ ?zqa ?zqb ?zqc; (case zqF => k_asm); (case zqa => rfl); (case zqb => rfl); (case zqc => rfl); (case zqv => walk_at "lk"); k_whole)))
    | walk1
    | (dsimp only; walk1)
    | (leave1; walk_say "STEP leave1"; try dsimp only)
    | fail "no step")
  rename Fr _ _ _ _ => F5
  rename News _ _ _ _ => N5
  exact hret _ _ _ _ (fun b o hb e => F5.keep b o (hgh b o hb e)) (N5 _ (.head _)).1 (by assumption)
section
variable {w : World} {mean : ExcName → Option Value} {mg mb : Str → Option Value} {news : List (Addr × Obj)} {dp un : Nat} {gd : Option (List Code)} {cn : Str} {cs : Scope} {a : Addr} {ccd : Value} {cl : List (Str × Addr)} {outer : List Env} {A₀ : Around} {base h₀ : Heap} {L : Addr} {m : Str → Option Value} {s : Shared} {Q E : Value → Shared → Prop}
theorem varint_use {it T : Addr} {io : Obj} {items : Array Value} {n i : Nat} {b1 b2 b3 v : Int} {t1 t2 t3 : Tok} {g : Obj → List (Addr × Obj)}
    (k1 : Below A₀ base outer h₀) (k2 : Fr h₀ L s.heap m) (k3 : (Mine.hd.heap_39 w.params).In h₀) (k4 : News h₀ L s.heap news) (k5 : Top Mine.hd.view_39 (looseW Mine.hd.view_39 []) mean mg mb h₀) (kK : cs.kind = .function)
    (U : UpdF it io news g) (hi : LIt io T i) (hT : (T, PySem.W.listOf items n) ∈ news) (hne : @Ne Nat T it) (e1 : items[i]? = some (.int b1 t1)) (e2 : items[i + 1]? = some (.int b2 t2)) (e3 : items[i + 1 + 1]? = some (.int b3 t3))
    (h1 : 193 ≤ b1 ∧ b1 ≤ 197) (h2 : 73 ≤ b2 ∧ b2 ≤ 77) (h3 : 33 ≤ b3 ∧ b3 ≤ 41) (hv : ((b1 - 192) * 64 + (b2 - 64)) * 64 + b3 = v) (kd : dp + 8 < recursionLimit) (ku : un + 100 < cLine)
    (kR : ∀ (t : Tok) (h' : Heap) (tk' : Nat) (o' : Obj), LIt o' T (i + 1 + 1 + 1) → Fr h₀ L h' m → News h₀ L h' (g o') → Q (.int v t) { s with heap := h', toks := tk' }) :
    wpAny (model Challenge.rw_sw0030_01.row.prog w) (ktrTop dp un gd cn cs L a ccd cl outer) (call (.ref 35) [.ref it]) Q E s := by
  obtain ⟨pre, post, hl', hg, ha, hb⟩ := U.split
  have hmem : (it, io) ∈ news := by rw [hl']; exact List.mem_append_right _ (.head _)
  refine varint_c w mean mg mb it T items n i b1 b2 b3 t1 t2 t3 e1 e2 e3 h1 h2 h3 dp un gd cn cs a ccd cl outer A₀ base h₀ L m s Q E io k1 k2 k3 k5 kK (fun p hp => by rw [List.mem_singleton.mp hp]; exact k4 _ hmem) hi hne (k4 _ hT).1 kd ku ?_
  intro t h' tk' o' hk ho' hi'
  rw [hv]
  have hm := k4 _ hmem
  refine kR t h' tk' o' hi' ⟨k2.ns.at fun o e => hk _ o (Ne.symm hm.2.1) e, fun b o e => hk b o (fun q => by rw [q, hm.2.2] at e; cases e) (k2.keep b o e), k2.above⟩ ?_
  rw [hg]
  intro p hp
  rcases List.mem_append.mp hp with hp | hp
  · have hx := k4 p (by rw [hl']; exact List.mem_append_left _ hp)
    exact ⟨hk _ _ (ha p hp) hx.1, hx.2⟩
  · rcases List.mem_cons.mp hp with rfl | hp
    · exact ⟨ho', hm.2⟩
    · have hx := k4 p (by rw [hl']; exact List.mem_append_right _ (List.mem_cons_of_mem _ hp))
      exact ⟨hk _ _ (hb p hp) hx.1, hx.2⟩
end
end Mine
set_option maxRecDepth 100000
namespace Mine
section
variable {prog : Program} {w : World} {A : Around} {E : Value → Shared → Prop} {s : Shared}
theorem walks_none {it l : Addr} {i : Nat} {items : Array Value} (hh : A.handled = none) (hx : items[i]? = none) :
    Walks prog w A it [it, l] [it] 0 (fun _ _ => True) (fun _ h => h.IsListIter it l i ∧ h.IsList l items) where
  sub := fun b hb => by simp at hb; simp [hb]
  frame := fun _ _ _ st hk => ⟨st.1.at fun o e => hk it (by simp) o e, st.2.at fun o e => hk l (by simp) o e⟩
  item := fun i s Q E hi => absurd hi (Nat.not_lt_zero _)
  done := fun s Q E st hQ => wpAny_pyNext_list_end hh st.1 st.2 hx fun h' he' => hQ h' s.toks fun b o hb e => he' b o (fun h => hb (by simp [h])) e
  self := fun _ _ _ _ st hQ => wpAny_pyIter_listiter st.1 hQ
theorem call_list_iterEnd {Q : Value → Shared → Prop} {it l : Addr} {i : Nat} {items : Array Value} (hh : A.handled = none) (hit : s.heap.IsListIter it l i) (hl : s.heap.IsList l items) (hx : items[i]? = none)
    (hQ : ∀ h' tk c', (∀ b o, b ≠ it → s.heap.get? b = some o → h'.get? b = some o) → h'.get? s.heap.objs.size = some { cls := .type "list", dict := none, data := .seq #[] c', slots := #[] } → Q (.ref s.heap.objs.size) { s with heap := h', toks := tk }) :
    wpAny (model prog w) A (call (.type "list") [.ref it]) Q E s := by
  refine callType_codes (Q₁ := fun obj s₁ => obj = .ref s.heap.objs.size ∧ s₁ = { s with heap := s.heap.push { cls := .type "list", data := .seq #[] } }) F.called_list (F.typeCall_list_1 _) F.entry_list_init
    (code_list_new _ ⟨rfl, rfl⟩) fun obj s₁ h₁ => ?_
  obtain ⟨rfl, rfl⟩ := h₁
  have hS : (s.heap.push { cls := .type "list", data := .seq #[] }).get? s.heap.objs.size = some { cls := .type "list", data := .seq #[] } := Heap.get?_push_size _ rfl
  have hitlt : it < s.heap.objs.size := by obtain ⟨o, ho, _⟩ := hit; exact Heap.lt_size ho
  have hllt : l < s.heap.objs.size := by obtain ⟨o, ho, _⟩ := hl; exact Heap.lt_size ho
  have hSr : s.heap.objs.size ≠ it := Nat.ne_of_gt hitlt
  refine ⟨⟨_, hS, rfl⟩, F.args_list_init_2 _ _, ?_⟩
  generalize hS0 : s.heap.objs.size = S at *
  show wpAny _ _ (do let old ← Builtin.List.listItems (.ref S); Builtin.List.listUpdate (.ref S) (fun _ => #[]); letGo old.toList.reverse; Builtin.List.listExtendWith (.ref S) (.ref it) .none) _ _ _
  refine wpAny_bind ?_
  unfold Builtin.List.listItems
  refine wpAny_bind (wpAny_seqItems hS rfl (wpAny_pure ?_))
  show wpAny _ _ (updateSeq S (fun _ => #[]) >>= fun _ => letGo (#[] : Array Value).toList.reverse >>= fun _ => Builtin.List.listExtendWith (.ref S) (.ref it) .none) _ _ _
  refine wpAny_bind (wpAny_updateSeq hS rfl ?_)
  have hS₂ := Heap.get?_update_self (Obj.mapSeq (fun _ => (#[] : Array Value))) hS rfl
  have oth : ∀ b o, b ≠ S → s.heap.get? b = some o → ((s.heap.push { cls := .type "list", data := .seq #[] }).update S (Obj.mapSeq (fun _ => (#[] : Array Value)))).get? b = some o :=
    fun b o hb e => (Heap.get?_update_other _ _ (Ne.symm hb)).trans (Heap.get?_push_of_some _ e)
  refine wpAny_bind (wpAny_letGo ?_)
  have hlS : l ≠ S := Nat.ne_of_lt hllt
  have st₁ : ∀ {h : Heap}, (∀ b o, b ≠ S → s.heap.get? b = some o → h.get? b = some o) → h.IsListIter it l i ∧ h.IsList l items := fun {h} k =>
    ⟨hit.at fun o e => k _ o (Ne.symm hSr) e, hl.at fun o e => k _ o hlS e⟩
  have hst₁ := st₁ oth
  have W := (walks_none (prog := prog) (w := w) (A := A.in1.in1) (it := it) (l := l) hh hx).toS
  have h1 : Builtin.List.listSameRef (.ref S) (.ref it) = false := by simp [Builtin.List.listSameRef, hSr]
  have hTI : ∀ (s' : Shared), s'.heap.IsListIter it l i → s'.TypeIs (.ref it) "list_iterator" := fun s' x => x.typeIs
  unfold Builtin.List.listExtendWith
  refine wpAny_bind (wpAny_typeOf (hTI _ hst₁.1) ?_)
  rw [if_neg (by rw [h1]; decide)]
  refine wpAny_bind (wpAny_pyIter_listiter hst₁.1 ?_)
  refine wpAny_bind (wpAny_holding ?_)
  unfold Builtin.List.listLengthHint
  refine wpAny_bind (wpAny_specialOf (hTI _ hst₁.1) F.nolen_li ?_)
  show wpAny _ A.in1.in1 (specialOf (Value.ref it) (Str.ofString "__length_hint__") >>= _) _ _ _
  refine wpAny_bind (wpAny_specialOf (hTI _ hst₁.1) F.hint_li ?_)
  (generalize hid : ("list_iterator.__length_hint__" : String) = id0; wp_delta; rw [show splitId id0 = some ("list_iterator", "__length_hint__") from by subst hid; decide +kernel]; subst hid)
  refine wpAny_bind (wpAny_isInstance (b := true) (hTI _ hst₁.1) (by rw [isSubtype_type]; kernel_rfl) ?_)
  refine wpAny_pure ?_
  rw [if_neg (by decide)]
  refine wpAny_pure ⟨plainId_quiet F.plain_extend_loop _, codeAny_extend_loopS W (Nat.zero_le _) S (by simp [Ne.symm hlS, hSr]) _ 0 0 _ _ _ rfl (Nat.le_refl _) hst₁ hS₂ (ItemsOf.nil _) fun s' acc' c' hm hS' hacc => ?_⟩
  have hz : acc' = #[] := by
    have := hacc.1
    exact Array.eq_empty_of_size_eq_zero this
  subst hz
  rw [Moved.eq_with hm]
  refine ⟨rfl, hQ s'.heap s'.toks c' (fun b o hb e => hm.heap b o (fun hmem => ?_) (oth b o (fun q => ?_) e)) hS'⟩
  · rcases List.mem_cons.mp hmem with e' | hmem
    · exact absurd (Heap.lt_size e) (by rw [e', ← hS0]; exact Nat.lt_irrefl _)
    · exact hb (List.mem_singleton.mp hmem)
  · exact absurd (Heap.lt_size e) (by rw [q, ← hS0]; exact Nat.lt_irrefl _)
end
end Mine
end
section
local macro_rules | `(tactic| walk_at "eval Name") => `(tactic| (k_here; k_dflt (refine' nameX_L ?F ?v ?_ ?a ?b; (case F => k_asm); (case a => rfl); (case b => rfl); (case v => walk_at "lk"); k_whole)))
namespace Mine
set_option maxRecDepth 100000
noncomputable def itemOf {v : Program} {l : List Str} {x : (Str → Option Value) → Heap → Prop} {z : World → Heap → Prop} {r : RowW} {i : DefRec} {e : List (Str × PySem.Expr)} {c : Value → List Value → Sem Value} (_ : WalkO v l x z r i e c → Challenge.rw_sw0030_01.Holds) : DefRec := i
noncomputable def lawItem : DefRec := itemOf hd
noncomputable def lawEnv (L fa : Addr) (cd : Value) : Env := envOfC lawItem.name lawItem.scope L fa cd
end Mine
namespace Mine
theorem mem_h {α : Type} {a : α} {l : List α} : a ∈ a :: l := List.Mem.head _
theorem mem_t {α : Type} {a b : α} {l : List α} (h : a ∈ l) : a ∈ b :: l := List.Mem.tail _ h
end Mine
local macro_rules | `(tactic| walk_at "memr") => `(tactic| first | with_reducible exact Mine.mem_h | with_reducible assumption | (with_reducible refine Mine.mem_t ?_; walk_at "memr"))
local macro_rules | `(tactic| k_mem) => `(tactic| walk_at "memr")
namespace Mine
noncomputable def Far5 (L D : Nat) : Prop := L + 1 + 1 + 1 + 1 + 1 ≠ D ∧ L + 1 + 1 + 1 + 1 ≠ D ∧ L + 1 + 1 + 1 ≠ D ∧ L + 1 + 1 ≠ D ∧ L + 1 ≠ D
theorem mod3 (a : Int) : a.fmod 3 = 0 ∨ a.fmod 3 = 1 ∨ a.fmod 3 = 2 := by
  have h1 := Int.fmod_nonneg_of_pos a (show (0 : Int) < 3 by decide)
  have h2 := Int.fmod_lt_of_pos a (show (0 : Int) < 3 by decide)
  omega
theorem pow3 (k : Nat) : ¬ (3 : Int) ^ k = 0 := Int.ne_of_gt (Int.pow_pos (by decide))
theorem wide_of {ys : List Value} {X : Int} {n : Nat} (h : IntsAre ys (List.map (fun (k' : Int) => if ¬ (3 : Int) ^ k'.toNat = 0 then 1 + (X.fdiv (3 ^ k'.toNat)).fmod 3 else k') (rangeKs 0 n))) : ∃ ws, IntsAre ys ws ∧ ws.length = n ∧ ∀ v ∈ ws, 1 ≤ v ∧ v ≤ 3 :=
  ⟨_, h, by rw [List.length_map, rangeKs_length], fun v hv => by
    obtain ⟨k, _, rfl⟩ := List.mem_map.mp hv
    rw [if_pos (pow3 _)]
    rcases mod3 (X.fdiv (3 ^ k.toNat)) with e | e | e <;> rw [e] <;> decide⟩
theorem high_of {ys : List Value} {X : Int} {n : Nat} (h : IntsAre ys (List.map (fun (k' : Int) => 1 + (X.fdiv (2 ^ k'.toNat)).fmod 2) (rangeKs 0 n))) : ∃ ws, IntsAre ys ws ∧ ws.length = n ∧ ∀ v ∈ ws, 1 ≤ v ∧ v ≤ 2 :=
  ⟨_, h, by rw [List.length_map, rangeKs_length], fun v hv => by
    obtain ⟨k, _, rfl⟩ := List.mem_map.mp hv
    have h1 := Int.fmod_nonneg_of_pos (X.fdiv (2 ^ k.toNat)) (show (0 : Int) < 2 by decide)
    have h2 := Int.fmod_lt_of_pos (X.fdiv (2 ^ k.toNat)) (show (0 : Int) < 2 by decide)
    omega⟩
theorem wide_k {ys : List Value} {X : Int} {n : Nat} {P : Prop} (h : IntsAre ys (List.map (fun (k' : Int) => if ¬ (3 : Int) ^ k'.toNat = 0 then 1 + (X.fdiv (3 ^ k'.toNat)).fmod 3 else k') (rangeKs 0 n))) (k : ∀ ws, IntsAre ys ws → ws.length = n → (∀ v ∈ ws, 1 ≤ v ∧ v ≤ 3) → P) : P := let ⟨ws, a, b, c⟩ := wide_of h; k ws a b c
theorem high_k {ys : List Value} {X : Int} {n : Nat} {P : Prop} (h : IntsAre ys (List.map (fun (k' : Int) => 1 + (X.fdiv (2 ^ k'.toNat)).fmod 2) (rangeKs 0 n))) (k : ∀ hs, IntsAre ys hs → hs.length = n → (∀ v ∈ hs, 1 ≤ v ∧ v ≤ 2) → P) : P := let ⟨hs, a, b, c⟩ := high_of h; k hs a b c
theorem upd_lt {d : Nat} : ∀ {l : List (Addr × Obj)}, AllLt d l → ∀ p ∈ l, p.1 < d
  | [], _, _, h => nomatch h
  | _ :: _, x, p, h => by
    rcases List.mem_cons.mp h with rfl | h
    · exact x.1
    · exact upd_lt x.2 p h
theorem off1_ne {D : Addr} : ∀ {l : List (Addr × Obj)}, LCg.Off1 D l → ∀ p ∈ l, p.1 ≠ D
  | [], _, _, h => nomatch h
  | _ :: _, x, p, h => by
    rcases List.mem_cons.mp h with rfl | h
    · exact x.1
    · exact off1_ne x.2 p h
theorem pick {h₀ h : Heap} {L : Addr} {news news' : List (Addr × Obj)} (N : News h₀ L h news) (hs : ∀ p ∈ news', p ∈ news) : News h₀ L h news' := fun p hp => N p (hs p hp)
theorem hs_ref_c {c : Const} {kk : Nat} {p : Pos} {a : Addr} {u : Tok} {i : Int} : subscripted (.Constant c kk p) false (.ref a) (.int i u) = operate [.ref a, .int i u] (getItem (.ref a) (.int i u)) := by with_unfolding_all rfl
section
variable {prog : Program} {w : World} {A : Around} {E : Value → Shared → Prop} {s : Shared} {Q : Value → Shared → Prop} {t u : Tok} {h₀ : Heap} {L D : Addr} {news : List (Addr × Obj)} {vs : List Value} {n : Nat}
theorem get_c {k : Int} {v : Value} {nm : Str} {c : Const} {kk : Nat} {p p' : Pos} (N : News h₀ L s.heap news) (hm : (D, PySem.W.listOf vs.toArray n) ∈ news) (hx : vs[k.toNat]? = some v) (h0 : 0 ≤ k) (hfit : k < 2 ^ 63) (h : Q v s) :
    wpAny (model prog w) A (subscriptTail (.Name nm p) (.Constant c kk p') (.ref D) (.int k u)) Q E s := kim_list N hm rfl rfl h0 hfit hx h hs_ref_c ht_ref_nm
end
set_option maxRecDepth 100000 in
set_option maxHeartbeats 8000000 in
theorem seg2 (w : World) (mean mg mb) : ∀ (fa : Addr) (cd : Value) (h₀ : Heap) (s : Shared) (m : Str → Option Value) (Qf : Flow → Shared → Prop) (l : Addr) (x y z : Int) (tx ty tz : Tok) (n : Nat) (o1 : Obj) (nw : List (Addr × Obj)),
    Below callerA h₀ [] h₀ → Fr h₀ h₀.objs.size s.heap m → (Mine.hd.heap_39 w.params).In h₀ → Top Mine.hd.view_39 (looseW Mine.hd.view_39 []) mean mg mb h₀ →
    News h₀ h₀.objs.size s.heap nw → (l, PySem.W.listOf #[.int x tx, .int y ty, .int z tz] n) ∈ nw → (h₀.objs.size + 1, o1) ∈ nw →
    o1.data = .cell (some (.ref l)) →
    (0 ≤ x ∧ x ≤ 10 ^ 9) → (0 ≤ y ∧ y ≤ 10 ^ 9) → (0 ≤ z ∧ z ≤ 10 ^ 9) →
    (∀ (h' : Heap) (tk' : Nat) (m' : Str → Option Value) (W H Ee : Addr) (ys1 ys2 : List Value) (ws hs : List Int) (e0 e1 : Int) (t0 t1 : Tok), Fr h₀ h₀.objs.size h' m' → m' "wide" = some (.ref W) → m' "high" = some (.ref H) → m' "ends" = some (.ref Ee) →
      News h₀ h₀.objs.size h' ((Ee, PySem.W.listOf #[.int e0 t0, .int e1 t1] 0) :: (H, LCg.lst ys2) :: (W, LCg.lst ys1) :: nw) →
      IntsAre ys1 ws → IntsAre ys2 hs → ws.length = 3 → (∀ v ∈ ws, 1 ≤ v ∧ v ≤ 3) → hs.length = 2 → (∀ v ∈ hs, 1 ≤ v ∧ v ≤ 2) → (e0 = 0 ∨ e0 = 1 ∨ e0 = 2) → (e1 = 0 ∨ e1 = 1 ∨ e1 = 2) → (∀ p ∈ nw, p.1 ≠ W) → (∀ p ∈ nw, p.1 ≠ H) → (∀ p ∈ nw, p.1 ≠ Ee) →
      wpAny (model Challenge.rw_sw0030_01.row.prog w) (callerA.deeper (lawEnv h₀.objs.size fa cd)) (execs (lawItem.body.drop 4) (lawEnv h₀.objs.size fa cd)) Qf (fun _ _ => False) { s with heap := h', toks := tk' }) →
    wpAny (model Challenge.rw_sw0030_01.row.prog w) (callerA.deeper (lawEnv h₀.objs.size fa cd)) (execs (lawItem.body.drop 1) (lawEnv h₀.objs.size fa cd)) Qf (fun _ _ => False) s := by
  dsimp only [lawEnv, lawItem, itemOf, List.drop]
  k_fill
  intro fa cd h₀ s m Qf l x y z tx ty tz n o1 nw K0 F0 X0 T0 N0 ql q1 d1 bx bw bz hk
  repeat' (first
    | (k_unfold; (try dsimp only))
    | (k_end; wrow_close)
    | ((with_reducible show wpAny _ _ (execs _ _) _ _ _); (k_here; (with_reducible show wpAny _ _ (execs [_, _, _, _, _, _, _, _, _, _, _, _, _, _, _, _, _] _) _ _ _); refine halt ?_))
    | ((with_reducible show wpAny _ _ (subscriptTail (PySem.Expr.Name _ _) (PySem.Expr.Constant _ _ _) (Value.ref _) (Value.int _ _)) _ _ _); (k_here; k_dflt (refine' get_c ?zqN ?zqm ?zqx ?zqz ?zqf ?_; (case zqN => k_asm); (case zqm => k_mem); (case zqx => rfl); (case zqz => decide); (case zqf => decide))))
    | walk1
    | (dsimp only; walk1)
    | (leave1; walk_say "STEP leave1"; try dsimp only)
    | fail "no step")
  · exact absurd (by assumption) (pow3 _)
  · refine unhalt ?_
    with_reducible rename IntsAre _ (List.map _ (rangeKs 0 ((3 : Int) - 0).toNat)) => hW
    with_reducible rename IntsAre _ (List.map _ (rangeKs 0 ((2 : Int) - 0).toNat)) => hH
    refine wide_k hW fun ws hW1 hW2 hW3 => ?_
    refine high_k hH fun hs hH1 hH2 hH3 => ?_
    with_reducible rename Fr _ _ _ _ => F5
    with_reducible rename News _ _ _ _ => N5
    with_reducible rename LCg.Off1 _ nw => f1
    with_reducible rename _ ≠ _ ∧ LCg.Off1 _ nw => f2
    with_reducible rename _ < _ ∧ _ ∧ AllLt _ nw => f3
    refine hk _ _ _ _ _ _ _ _ ws hs _ _ _ _ F5 ?_ ?_ ?_ N5 hW1 hH1 hW2 hW3 hH2 hH3 (mod3 _) (mod3 _) (off1_ne f1) (off1_ne f2.2) (fun p hp => Nat.ne_of_lt (upd_lt f3.2.2 p hp))
    · walk_at "lk"
    · walk_at "lk"
    · walk_at "lk"
end Mine
namespace Mine

noncomputable def AllNe (d : Addr) : List (Addr × Obj) → Prop
  | [] => True
  | p :: r => @Ne Nat p.1 d ∧ AllNe d r
theorem allNe_of {d : Addr} : ∀ {l : List (Addr × Obj)}, (∀ p ∈ l, p.1 ≠ d) → AllNe d l
  | [], _ => trivial
  | p :: _, h => ⟨h p (.head _), allNe_of fun q hq => h q (.tail _ hq)⟩
theorem allNe_mem {l a : Addr} {o : Obj} : ∀ {news : List (Addr × Obj)}, AllNe l news → (a, o) ∈ news → a ≠ l
  | p :: r, h, hm => by
    rcases List.mem_cons.mp hm with e | hm
    · have := h.1; rw [← e] at this; exact this
    · exact allNe_mem h.2 hm
section
variable {N₀ M₀ : Nat} {w : World} {mean : ExcName → Option Value} {mg mb : Str → Option Value} {news : List (Addr × Obj)} {f : Addr} {pre : Heap → Prop} {args : List Value} {xs : List Int} {dp un : Nat} {gd : Option (List Code)} {cn : Str} {cs : Scope} {a : Addr} {ccd : Value} {cl : List (Str × Addr)} {outer : List Env} {A₀ : Around} {base h₀ : Heap} {L : Addr} {m : Str → Option Value} {s : Shared} {Q E : Value → Shared → Prop}
theorem news_add {h' : Heap} {l : Addr} {o : Obj} (k2 : Fr h₀ L s.heap m) (k4 : News h₀ L s.heap news) (hk : ∀ b o, s.heap.get? b = some o → h'.get? b = some o) (hl : s.heap.get? l = none) (hl' : h'.get? l = some o) :
    News h₀ L h' ((l, o) :: news) ∧ AllNe l news := by
  have nl : ∀ b o, s.heap.get? b = some o → b ≠ l := fun b o e q => by rw [q, hl] at e; cases e
  refine ⟨fun p hp => ?_, allNe_of fun p hp => nl _ _ (k4 p hp).1⟩
  rcases List.mem_cons.mp hp with rfl | hp
  · refine ⟨hl', ?_, ?_⟩
    · obtain ⟨_, _, _, ho, _⟩ := k2.ns; exact fun q => nl _ _ ho q.symm
    · cases e : h₀.get? l with
      | none => rfl
      | some o => exact absurd rfl (nl _ _ (k2.keep _ _ e))
  · exact k4.grown hk _ hp
theorem told_use {S : Addr} {vs : List Value} {ns : List Int}
    (k1 : Below A₀ base outer h₀) (k2 : Fr h₀ L s.heap m) (k3 : (Mine.hd.heap_39 w.params).In h₀) (k4 : News h₀ L s.heap news) (k5 : Top Mine.hd.view_39 (looseW Mine.hd.view_39 []) mean mg mb h₀) (kK : cs.kind = .function)
    (hL : h₀.IsList S vs.toArray) (hI : IntsAre vs ns) (hlen : ns.length ≤ 63) (kd : dp + 8 < recursionLimit) (ku : un + 100 < cLine)
    (kR : ∀ (l : Addr) (x y z : Int) (tx ty tz : Tok) (n : Nat) (h' : Heap) (tk' : Nat), (0 ≤ x ∧ x ≤ 10 ^ 9) → (0 ≤ y ∧ y ≤ 10 ^ 9) → (0 ≤ z ∧ z ≤ 10 ^ 9) → Fr h₀ L h' m → News h₀ L h' ((l, PySem.W.listOf #[.int x tx, .int y ty, .int z tz] n) :: news) → AllNe l news → Q (.ref l) { s with heap := h', toks := tk' }) :
    wpAny (model Challenge.rw_sw0030_01.row.prog w) (ktrTop dp un gd cn cs L a ccd cl outer) (call (.ref 77) [.ref S]) Q E s := by
  refine told_c w mean mg mb S vs ns hI hlen dp un gd cn cs a ccd cl outer A₀ base h₀ L m s Q E k1 k2 k3 k5 kK (let ⟨o, e, r⟩ := hL; ⟨o, k2.keep _ _ e, r⟩) kd ku ?_
  rintro v h' tk' hk ⟨l, x, y, z, tx, ty, tz, n, rfl, hl, hl', bx, by', bz⟩
  obtain ⟨n1, n2⟩ := news_add k2 k4 hk hl hl'
  exact kR l x y z tx ty tz n h' tk' bx by' bz (k2.keeps hk) n1 n2
theorem new_use (c : Ch N₀ M₀ w (looseW Mine.hd.view_39 []) mean mg mb f pre args (NewInts xs))
    (k1 : Below A₀ base outer h₀) (k2 : Fr h₀ L s.heap m) (k3 : (Mine.hd.heap_39 w.params).In h₀) (k4 : News h₀ L s.heap news) (k5 : Top Mine.hd.view_39 (looseW Mine.hd.view_39 []) mean mg mb h₀) (kK : cs.kind = .function)
    (hp : pre s.heap) (kd : dp + N₀ < recursionLimit) (ku : un + M₀ < cLine)
    (kR : ∀ (l : Addr) (vs : List Value) (n : Nat) (h' : Heap) (tk' : Nat), IntsAre vs xs → Fr h₀ L h' m → News h₀ L h' ((l, PySem.W.listOf vs.toArray n) :: news) → AllNe l news → Q (.ref l) { s with heap := h', toks := tk' }) :
    wpAny (model Challenge.rw_sw0030_01.row.prog w) (ktrTop dp un gd cn cs L a ccd cl outer) (call (.ref f) args) Q E s := by
  refine c dp un gd cn cs a ccd cl outer A₀ base h₀ L m s Q E k1 k2 k3 k5 kK hp kd ku ?_
  rintro v h' tk' hk ⟨l, vs, n, rfl, hl, hl', hI⟩
  obtain ⟨n1, n2⟩ := news_add k2 k4 hk hl hl'
  exact kR l vs.toList n h' tk' hI (k2.keeps hk) n1 n2
theorem old_use {S : Addr} {oS : Obj} (c : Ch N₀ M₀ w (looseW Mine.hd.view_39 []) mean mg mb f pre args (OldInts S xs))
    (k1 : Below A₀ base outer h₀) (k2 : Fr h₀ L s.heap m) (k3 : (Mine.hd.heap_39 w.params).In h₀) (k4 : News h₀ L s.heap news) (k5 : Top Mine.hd.view_39 (looseW Mine.hd.view_39 []) mean mg mb h₀) (kK : cs.kind = .function)
    (hS : (S, oS) ∈ news) (hp : pre s.heap) (kd : dp + N₀ < recursionLimit) (ku : un + M₀ < cLine)
    (kR : ∀ (l : Addr) (vs : List Value) (n : Nat) (h' : Heap) (tk' : Nat), IntsAre vs xs → Fr h₀ L h' m → News h₀ L h' ((l, PySem.W.listOf vs.toArray n) :: news) → Q (.ref l) { s with heap := h', toks := tk' }) :
    wpAny (model Challenge.rw_sw0030_01.row.prog w) (ktrTop dp un gd cn cs L a ccd cl outer) (call (.ref f) args) Q E s := by
  refine c dp un gd cn cs a ccd cl outer A₀ base h₀ L m s Q E k1 k2 k3 k5 kK hp kd ku ?_
  rintro v h' tk' hk ⟨l, vs, n, rfl, hl, hl', hI⟩
  rcases hl with rfl | hl
  · refine kR l vs.toList n h' tk' hI (k2.keeps hk) fun p hp => ?_
    rcases List.mem_cons.mp hp with rfl | hp
    · exact ⟨hl', (k4 _ hS).2⟩
    · exact k4.grown hk _ hp
  · exact kR l vs.toList n h' tk' hI (k2.keeps hk) (news_add k2 k4 hk hl hl').1
theorem newg_use (c : Chg N₀ M₀ w (looseW Mine.hd.view_39 []) mean mg mb f pre args (NewInts xs))
    (k1 : Below A₀ base outer h₀) (k2 : Fr h₀ L s.heap m) (k3 : (Mine.hd.heap_39 w.params).In h₀) (k4 : News h₀ L s.heap news) (k5 : Top Mine.hd.view_39 (looseW Mine.hd.view_39 []) mean mg mb h₀) (kK : cs.kind = .function)
    (hp : pre s.heap) (kd : dp + N₀ < recursionLimit) (ku : un + M₀ < cLine) (hb : AllBare s.gens)
    (kR : ∀ (l : Addr) (vs : List Value) (n : Nat) (h' : Heap) (tk' : Nat) (gens' : Array GenState), AllBare gens' → IntsAre vs xs → Fr h₀ L h' m → News h₀ L h' ((l, PySem.W.listOf vs.toArray n) :: news) → AllNe l news → Q (.ref l) { s with heap := h', toks := tk', gens := gens' }) :
    wpAny (model Challenge.rw_sw0030_01.row.prog w) (ktrTop dp un gd cn cs L a ccd cl outer) (call (.ref f) args) Q E s := by
  refine c dp un gd cn cs a ccd cl outer A₀ base h₀ L m s Q E k1 k2 k3 k5 kK hp kd ku ?_
  rintro v h' tk' gens' hk hg ⟨l, vs, n, rfl, hl, hl', hI⟩
  obtain ⟨n1, n2⟩ := news_add k2 k4 hk hl hl'
  exact kR l vs.toList n h' tk' gens' (hg hb) hI (k2.keeps hk) n1 n2
end
section
variable {prog : Program} {w : World} {A : Around} {E : Value → Shared → Prop} {s : Shared} {Q : Value → Shared → Prop} {h₀ : Heap} {L a b a1 a2 b1 b2 : Addr} {news : List (Addr × Obj)} {v1 v2 u1 u2 : List Value} {n n' n1 n2 n3 n4 : Nat} {xs ys : List Int}
theorem shaped2 (xs ys : List Int) : SeqAt.shaped (.list [.list (xs.map PyData.int), .list (ys.map PyData.int)]) = true := by
  simp [SeqAt.shaped, PyData.canLay0, PyData.canLayAll0, PyData.depth, PyData.depthAll, ke_canLayAll0, ke_depthAll]
theorem ne_same2 (N : News h₀ L s.heap news) (ma : (a, PySem.W.listOf #[.ref a1, .ref a2] n) ∈ news) (mb : (b, PySem.W.listOf #[.ref b1, .ref b2] n') ∈ news)
    (m1 : (a1, PySem.W.listOf v1.toArray n1) ∈ news) (m2 : (a2, PySem.W.listOf v2.toArray n2) ∈ news) (m3 : (b1, PySem.W.listOf u1.toArray n3) ∈ news) (m4 : (b2, PySem.W.listOf u2.toArray n4) ∈ news)
    (i1 : IntsAre v1 xs) (i2 : IntsAre v2 ys) (i3 : IntsAre u1 xs) (i4 : IntsAre u2 ys) (hu : A.units + 64 < cLine) (h : Q (.bool false) s) : wpAny (model prog w) A (compareOp .NotEq (.ref a) (.ref b)) Q E s := by
  have l : ∀ {x : Addr} {v : List Value} {k : Nat}, (x, PySem.W.listOf v.toArray k) ∈ news → s.heap.IsList x v.toArray := fun hm => ⟨_, N.get hm, rfl, _, rfl⟩
  refine ne_dataH (reads_list_at (N.get ma) rfl rfl (ReadsAll.cons (reads_newData (l m1) (ke_carried i1)) (ReadsAll.cons (reads_newData (l m2) (ke_carried i2)) ReadsAll.nil)))
    (reads_list_at (N.get mb) rfl rfl (ReadsAll.cons (reads_newData (l m3) (ke_carried i3)) (ReadsAll.cons (reads_newData (l m4) (ke_carried i4)) ReadsAll.nil))) (shaped2 xs ys) (shaped2 xs ys) hu ?_
  simpa only [PyData.eqv, PyData.eqvAll, ked_eqvAll, decide_true, Bool.and_true, Bool.not_true] using h
end
noncomputable def lastOf : List Int → Option Int → Option Int
  | [], l => l
  | x :: r, _ => lastOf r (some x)
theorem gi_app {k : Nat} : ∀ {ws rest : List Int} {last : Option Int}, (∀ v ∈ ws, 1 ≤ v ∧ v ≤ 3) → MineI.gi k (ws ++ rest) last = ws ++ MineI.gi k rest (lastOf ws last)
  | [], _, _, _ => rfl
  | x :: r, rest, last, h => by
    have hx := h x (.head _)
    have ih := gi_app (k := k) (ws := r) (rest := rest) (last := some x) fun v hv => h v (.tail _ hv)
    show MineI.gi k (x :: (r ++ rest)) last = _
    have e : MineI.gi k (x :: (r ++ rest)) last = x :: MineI.gi k (r ++ rest) (some x) := by
      show (if x = 127 then _ else if x = 0 then _ else _) = _
      rw [if_neg (by omega), if_neg (by omega)]
    rw [e, ih]; rfl
theorem fin_app : ∀ {ws rest : List Int}, (∀ v ∈ ws, 1 ≤ v ∧ v ≤ 3) → (MineI.giFin (ws ++ rest) ↔ MineI.giFin rest)
  | [], _, _ => Iff.rfl
  | x :: r, rest, h => by
    have hx := h x (.head _)
    have ih := fin_app (ws := r) (rest := rest) fun v hv => h v (.tail _ hv)
    show MineI.giFin (x :: (r ++ rest)) ↔ _
    rw [MineI.giFin, if_neg (by omega), if_neg (by omega), ih]
theorem lastOf_drop : ∀ {ws : List Int} {l : Option Int}, ws ≠ [] → ∃ y, lastOf ws l = some y ∧ ws.drop (ws.length - 1) = [y]
  | [], _, h => absurd rfl h
  | [x], l, _ => ⟨x, rfl, rfl⟩
  | x :: y :: r, l, _ => by
    obtain ⟨z, h1, h2⟩ := lastOf_drop (ws := y :: r) (l := some x) (by simp)
    exact ⟨z, h1, by simpa using h2⟩
theorem flat_one {y : Int} : ∀ k : Nat, (List.replicate k [y]).flatten = List.replicate k y
  | 0 => rfl
  | k + 1 => by rw [List.replicate_succ, List.flatten_cons, flat_one k, List.replicate_succ]; rfl
theorem sizes_r (w : World) (mean mg mb) (G : Addr) (items : Array Value) (n : Nat) (ws : List Int) (e : Int) (hI : IntsAre items.toList (rulerL ws e)) (hb : ∀ v ∈ ws, 1 ≤ v ∧ v ≤ 3) (h0 : ws ≠ []) (h6 : ws.length ≤ 6) (he : e = 0 ∨ e = 1 ∨ e = 2) :
    Chg 8 100 w (looseW Mine.hd.view_39 []) mean mg mb 98 (fun h => h.get? G = some (listOf items n)) [.ref G] (NewInts (dueL ws e)) := by
  obtain ⟨y, hy1, hy2⟩ := lastOf_drop (l := none) h0
  have hz : (rulerL ws e).head? ≠ some 0 := by
    cases ws with
    | nil => exact absurd rfl h0
    | cons x r =>
      have := hb x (.head _)
      simp [rulerL]; omega
  have hf : MineI.giFin (rulerL ws e) ↔ e ≠ 0 := by
    unfold rulerL
    rw [fin_app hb]
    rcases he with rfl | rfl | rfl <;> simp [MineI.giFin]
  have hg : (MineI.gi 6 (rulerL ws e) none).take 6 = dueL ws e := by
    unfold rulerL dueL
    rw [gi_app hb, hy1, hy2, flat_one]
    rcases he with rfl | rfl | rfl
    · rfl
    · simp [MineI.gi]; exact List.take_of_length_le h6
    · simp [MineI.gi]; exact List.take_of_length_le h6
  have h6' : ¬ (e ≠ 0) → 6 ≤ (MineI.gi 6 (rulerL ws e) none).length := by
    intro h
    have : e = 0 := by simpa using h
    subst this
    unfold rulerL
    rw [gi_app hb, hy1]
    simp [MineI.gi]
  have := sizes_c w mean mg mb G items n (rulerL ws e) (e ≠ 0) hI hf hz h6'
  rw [hg] at this
  exact this
end Mine
namespace Mine
theorem allNe_all {L : Addr} {l : List (Addr × Obj)} (h : AllNe L l) : ∀ p ∈ l, p.1 ≠ L := fun p hp => @allNe_mem _ p.1 p.2 _ h hp
set_option maxRecDepth 100000 in
set_option maxHeartbeats 8000000 in
theorem seg3 (w : World) (mean mg mb) : ∀ (fa : Addr) (cd : Value) (h₀ : Heap) (s : Shared) (m : Str → Option Value) (Qf : Flow → Shared → Prop) (W H Ee : Addr) (ys1 ys2 : List Value) (ws hs : List Int) (e0 e1 : Int) (t0 t1 : Tok) (nw : List (Addr × Obj)),
    Below callerA h₀ [] h₀ → Fr h₀ h₀.objs.size s.heap m → (Mine.hd.heap_39 w.params).In h₀ → Top Mine.hd.view_39 (looseW Mine.hd.view_39 []) mean mg mb h₀ → AllBare s.gens → m "wide" = some (.ref W) → m "high" = some (.ref H) → m "ends" = some (.ref Ee) →
    News h₀ h₀.objs.size s.heap nw → (Ee, PySem.W.listOf #[.int e0 t0, .int e1 t1] 0) ∈ nw → (H, LCg.lst ys2) ∈ nw → (W, LCg.lst ys1) ∈ nw →
    IntsAre ys1 ws → IntsAre ys2 hs → ws.length = 3 → ws ≠ [] → (∀ v ∈ ws, 1 ≤ v ∧ v ≤ 3) → hs.length = 2 → hs ≠ [] → (∀ v ∈ hs, 1 ≤ v ∧ v ≤ 3) → (e0 = 0 ∨ e0 = 1 ∨ e0 = 2) → (e1 = 0 ∨ e1 = 1 ∨ e1 = 2) →
    (∀ (h' : Heap) (tk' : Nat) (gens' : Array GenState) (m' : Str → Option Value) (l1 l2 : Addr) (v1 v2 : List Value) (n1 n2 : Nat), AllBare gens' → Fr h₀ h₀.objs.size h' m' → m' "one" = some (.ref l1) → m' "two" = some (.ref l2) →
      News h₀ h₀.objs.size h' ((l1, PySem.W.listOf v1.toArray n1) :: (l2, PySem.W.listOf v2.toArray n2) :: nw) → IntsAre v1 (dueL ws e0) → IntsAre v2 (dueL hs e1) → (∀ p ∈ nw, p.1 ≠ l1) → (∀ p ∈ nw, p.1 ≠ l2) →
      wpAny (model Challenge.rw_sw0030_01.row.prog w) (callerA.deeper (lawEnv h₀.objs.size fa cd)) (execs (lawItem.body.drop 7) (lawEnv h₀.objs.size fa cd)) Qf (fun _ _ => False) { s with heap := h', toks := tk', gens := gens' }) →
    wpAny (model Challenge.rw_sw0030_01.row.prog w) (callerA.deeper (lawEnv h₀.objs.size fa cd)) (execs (lawItem.body.drop 4) (lawEnv h₀.objs.size fa cd)) Qf (fun _ _ => False) s := by
  dsimp only [lawEnv, lawItem, itemOf, List.drop]
  k_fill
  intro fa cd h₀ s m Qf W H Ee ys1 ys2 ws hs e0 e1 t0 t1 nw K0 F0 X0 T0 hb mW mH mE N0 qE qH qW i1 i2 len1 ne1 b1 len2 ne2 b2 he0 he1 hk
  repeat' (first
    | (k_unfold; (try dsimp only))
    | (k_end; wrow_close)
    | ((with_reducible show wpAny _ _ (compareOp PySem.CmpOp.NotEq (Value.ref _) (Value.ref _)) _ _ _); (k_here; k_dflt (refine' ne_same2 ?zqN ?zqma ?zqmb ?zqm1 ?zqm2 ?zqm3 ?zqm4 ?zqi1 ?zqi2 ?zqi3 ?zqi4 ?zqhu ?_; (case zqN => k_asm); (case zqma => k_mem); (case zqmb => k_mem); (case zqm1 => k_mem); (case zqm2 => k_mem); (case zqm3 => k_mem); (case zqm4 => k_mem); (case zqi1 => assumption); (case zqi2 => assumption); (case zqi3 => assumption); (case zqi4 => assumption); (case zqhu => ke_room))))
    | ((with_reducible show wpAny _ _ (call (Value.ref _) _) _ _ _); (first | (k_here; (with_reducible show wpAny _ _ (call (Value.ref 91) _) _ _ _); k_dflt (refine' old_use (due_c _ _ _ _ _ _ _ _ ?zqhI ?zqhlen _ _) ?zqk1 ?zqk2 ?zqk3 ?zqk4 ?zqk5 ?zqkK ?zqhS ?zqhp ?zqkd ?zqku ?_; (case zqk1 => k_asm); (case zqk2 => k_asm); (case zqk3 => k_asm); (case zqk4 => k_asm); (case zqk5 => k_asm); (case zqkK => exact rfl); (case zqhS => k_mem); (case zqhp => exact (News.get (by k_asm) (by k_mem))); (case zqhI => assumption); (case zqhlen => omega); (case zqkd => ktr_room); (case zqku => ktr_units)); intros; (try dsimp only); k_sweep) | (k_here; (with_reducible show wpAny _ _ (call (Value.ref 98) _) _ _ _); k_dflt (refine' newg_use (sizes_r _ _ _ _ _ _ _ _ _ ?zqhI ?zqhb ?zqh0 ?zqh6 ?zqhe) ?zqk1 ?zqk2 ?zqk3 ?zqk4 ?zqk5 ?zqkK ?zqhp ?zqkd ?zqku ?zqhg ?_; (case zqk1 => k_asm); (case zqk2 => k_asm); (case zqk3 => k_asm); (case zqk4 => k_asm); (case zqk5 => k_asm); (case zqkK => exact rfl); (case zqhp => exact (News.get (by k_asm) (by k_mem))); (case zqhI => assumption); (case zqhb => assumption); (case zqh0 => assumption); (case zqh6 => omega); (case zqhe => assumption); (case zqkd => ktr_room); (case zqku => ktr_units); (case zqhg => assumption)); intros; (try dsimp only); k_sweep) | (k_here; (with_reducible show wpAny _ _ (call (Value.ref 84) _) _ _ _); k_dflt (refine' new_use (ruler_c _ _ _ _ _ _ _ _ ?zqhI ?zqhlen _ _ ?zqhe) ?zqk1 ?zqk2 ?zqk3 ?zqk4 ?zqk5 ?zqkK ?zqhp ?zqkd ?zqku ?_; (case zqk1 => k_asm); (case zqk2 => k_asm); (case zqk3 => k_asm); (case zqk4 => k_asm); (case zqk5 => k_asm); (case zqkK => exact rfl); (case zqhp => exact (News.get (by k_asm) (by k_mem))); (case zqhI => assumption); (case zqhlen => omega); (case zqhe => assumption); (case zqkd => ktr_room); (case zqku => ktr_units)); intros; (try dsimp only); k_sweep)))
    | ((with_reducible show wpAny _ _ (subscriptTail (PySem.Expr.Name _ _) (PySem.Expr.Constant _ _ _) (Value.ref _) (Value.int _ _)) _ _ _); (k_here; k_dflt (refine' get_c ?zqN ?zqm ?zqx ?zqz ?zqf ?_; (case zqN => k_asm); (case zqm => k_mem); (case zqx => rfl); (case zqz => decide); (case zqf => decide))))
    | ((with_reducible show wpAny _ _ (execs _ _) _ _ _); (k_here; (with_reducible show wpAny _ _ (execs [_, _, _, _, _, _, _, _, _, _, _, _, _, _] _) _ _ _); refine halt ?_))
    | walk1
    | (dsimp only; walk1)
    | (leave1; walk_say "STEP leave1"; try dsimp only)
    | fail "no step")
  refine unhalt ?_
  rename Fr _ _ _ _ => F5
  rename News _ _ _ _ => N5

  refine' hk _ _ _ _ _ _ _ _ _ _ ?g F5 ?f1 ?f2 ?N ?i1 ?i2 ?r1 ?r2
  case f1 => walk_at "lk"
  case f2 => walk_at "lk"
  case N =>
    intro p hp
    rcases List.mem_cons.mp hp with rfl | hp
    · exact N5 _ (by walk_at "memr")
    rcases List.mem_cons.mp hp with rfl | hp
    · exact N5 _ (by walk_at "memr")
    · exact N5 _ (by walk_at "memr")
  case g => assumption
  case i1 => assumption
  case i2 => assumption
  case r1 => exact fun p hp => allNe_all (by assumption) p (by walk_at "memr")
  case r2 => exact fun p hp => allNe_all (by assumption) p (by walk_at "memr")
end Mine
namespace Mine
theorem partsL_len {xs ts : List Int} : (partsL xs ts).length = ts.length := by simp [partsL]
theorem src_range {h : Heap} {T : Addr} {t u v : Tok} (e : IsRange h T 0 5 1 t u v) : IntSrc h T [0, 1, 2, 3, 4] := Or.inr ⟨_, _, _, e, rfl⟩
theorem src_list {h : Heap} {T : Addr} {vs : List Value} {n : Nat} {ts : List Int} (e : h.get? T = some (PySem.W.listOf vs.toArray n)) (i : IntsAre vs ts) : IntSrc h T ts := Or.inl ⟨_, _, e, i⟩
theorem aln {l a : Addr} {o : Obj} {news : List (Addr × Obj)} (h : AllNe l news) (hm : (a, o) ∈ news) : @Ne Nat a l := allNe_mem h hm
local macro_rules | `(tactic| k_all) => `(tactic| with_reducible exact allNe_all (by with_reducible assumption))
local macro_rules | `(tactic| k_ne) => `(tactic| (refine neN ?_; (try dsimp only); first
  | with_reducible assumption
  | with_reducible exact aln (by with_reducible assumption) (by walk_at "memr")
  | with_reducible exact Ne.symm (aln (by with_reducible assumption) (by walk_at "memr"))
  | omega))
set_option maxRecDepth 100000 in
set_option maxHeartbeats 8000000 in
theorem seg4 (w : World) (mean mg mb) : ∀ (fa : Addr) (cd : Value) (h₀ : Heap) (s : Shared) (m : Str → Option Value) (Qf : Flow → Shared → Prop) (o2 o3 : Obj) (l1 l2 : Addr) (v1 v2 : List Value) (n1 n2 : Nat) (xs ys : List Int) (nw : List (Addr × Obj)),
    Below callerA h₀ [] h₀ → Fr h₀ h₀.objs.size s.heap m → (Mine.hd.heap_39 w.params).In h₀ → Top Mine.hd.view_39 (looseW Mine.hd.view_39 []) mean mg mb h₀ → AllBare s.gens →
    m "one" = some (.ref l1) → m "two" = some (.ref l2) →
    News h₀ h₀.objs.size s.heap ((h₀.objs.size + 1 + 1 + 1, o3) :: (h₀.objs.size + 1 + 1, o2) :: nw) → AllNe (h₀.objs.size + 1 + 1 + 1) nw → AllNe (h₀.objs.size + 1 + 1) nw → (l1, PySem.W.listOf v1.toArray n1) ∈ nw → (l2, PySem.W.listOf v2.toArray n2) ∈ nw → IntsAre v1 xs → IntsAre v2 ys → xs.length ≤ 6 → ys.length ≤ 6 → o2.data = .cell none → o3.data = .cell none →
    (∀ (h' : Heap) (tk' : Nat) (m' : Str → Option Value) (lG lC : Addr) (vG vC : List Value) (nG nC : Nat) (o2' o3' : Obj), Fr h₀ h₀.objs.size h' m' →
      News h₀ h₀.objs.size h' ((lC, PySem.W.listOf vC.toArray nC) :: (lG, PySem.W.listOf vG.toArray nG) :: (h₀.objs.size + 1 + 1 + 1, o3') :: (h₀.objs.size + 1 + 1, o2') :: nw) → IntsAre vG (partsL xs [0, 1, 2, 3, 4]) → IntsAre vC (partsL ys (partsL xs [0, 1, 2, 3, 4])) → o2'.data = .cell (some (.ref lG)) → o3'.data = .cell (some (.ref lC)) →
      (∀ p ∈ nw, p.1 ≠ lG) → (∀ p ∈ nw, p.1 ≠ lC) →
      wpAny (model Challenge.rw_sw0030_01.row.prog w) (callerA.deeper (lawEnv h₀.objs.size fa cd)) (execs (lawItem.body.drop 9) (lawEnv h₀.objs.size fa cd)) Qf (fun _ _ => False) { s with heap := h', toks := tk' }) →
    wpAny (model Challenge.rw_sw0030_01.row.prog w) (callerA.deeper (lawEnv h₀.objs.size fa cd)) (execs (lawItem.body.drop 7) (lawEnv h₀.objs.size fa cd)) Qf (fun _ _ => False) s := by
  dsimp only [lawEnv, lawItem, itemOf, List.drop]
  k_fill
  intro fa cd h₀ s m Qf o2 o3 l1 l2 v1 v2 n1 n2 xs ys nw K0 F0 X0 T0 hb mA mB N0 a3 a2 q1 q2 i1 i2 x6 y6 d2 d3 hk
  repeat' (first
    | (k_unfold; (try dsimp only))
    | (k_end; wrow_close)
    | ((with_reducible show wpAny _ _ (call (Value.ref _) _) _ _ _); (k_here; (with_reducible show wpAny _ _ (call (Value.ref 103) _) _ _ _); k_dflt (refine' new_use (parts_c _ _ _ _ _ _ _ _ _ _ ?zqhI ?zqhlen ?zqhlen2) ?zqk1 ?zqk2 ?zqk3 ?zqk4 ?zqk5 ?zqkK ?zqhp ?zqkd ?zqku ?_; (case zqk1 => k_asm); (case zqk2 => k_asm); (case zqk3 => k_asm); (case zqk4 => k_asm); (case zqk5 => k_asm); (case zqkK => exact rfl); (case zqhp => (refine ⟨News.get (by k_asm) (by k_mem), ?_⟩; first | exact src_range (by assumption) | exact src_list (News.get (by k_asm) (by k_mem)) (by assumption))); (case zqhI => assumption); (case zqhlen => assumption); (case zqhlen2 => first | decide | (rw [partsL_len]; decide)); (case zqkd => ktr_room); (case zqku => ktr_units)); intros; (try dsimp only); k_sweep))
    | ((with_reducible show wpAny _ _ (execs _ _) _ _ _); (k_here; (with_reducible show wpAny _ _ (execs [_, _, _, _, _, _, _, _, _, _, _, _] _) _ _ _); refine halt ?_))
    | walk1
    | (dsimp only; walk1)
    | (leave1; walk_say "STEP leave1"; try dsimp only)
    | fail "no step")
  refine unhalt ?_
  rename Fr _ _ _ _ => F5
  rename News _ _ _ _ => N5

  refine' hk _ _ _ _ _ _ _ _ _ _ _ F5 ?N ?i1 ?i2 ?d2 ?d3 ?r1 ?r2
  case N => exact N5
  case i1 => assumption
  case i2 => assumption
  case d2 => assumption
  case d3 => assumption
  case r1 => exact fun p hp => allNe_all (by assumption) p (by walk_at "memr")
  case r2 => exact fun p hp => allNe_all (by assumption) p (by walk_at "memr")
end Mine
namespace Mine

section
variable {prog : Program} {w : World} {A : Around} {h₀ : Heap} {L : Addr} {m : Str → Option Value} {env : Env} {elt : PySem.Expr} {x : Str} {scope : Scope} {cl : List (Str × Addr)} {s : Shared}
theorem compJ {S : List (Addr × Obj) → Prop} {P : Nat → Value → Prop} {Fin : List Value → List (Addr × Obj) → Prop} {n : Nat} {news : List (Addr × Obj)} (J : Nat → List Value → List (Addr × Obj) → Prop)
    (step : ∀ (i : Nat) (v : Value) (I C D : Addr) (oI oC : Obj) (ys : List Value) (nw : List (Addr × Obj)) (m₂ : Str → Option Value) (h : Heap) (tk : Nat), i < n → ys.length = i → J i ys nw → P i v → LCg.NsObj oC m₂ → m₂ x = some v → Fr h₀ L h m →
      News h₀ L h ((I, oI) :: (C, oC) :: (D, LCg.lst ys) :: nw) → LCg.Off3 I C D nw → ((@Ne Nat I C) ∧ (@Ne Nat I D) ∧ (@Ne Nat C D)) →
      wpAny (model prog w) A (eval elt (compEnvC scope cl C env)) (LCg.CompEnd h₀ L m { s with heap := h, toks := tk } I oI C oC D (LCg.lst ys) S (fun y nw' => J (i + 1) (ys ++ [y]) nw')) (fun _ _ => False) { s with heap := h, toks := tk })
    (fin : ∀ ys nw, ys.length = n → J n ys nw → Fin ys nw) (h0 : J 0 [] news) : LCg.CompRest prog w A h₀ L m env elt x scope cl s S P Fin n 0 [] news := by
  have : ∀ k i ys nw, i + k = n → ys.length = i → J i ys nw → LCg.CompRest prog w A h₀ L m env elt x scope cl s S P Fin k i ys nw := by
    intro k
    induction k with
    | zero => intro i ys nw e hl hJ; refine LCg.CompRest.zero (fin ys nw (by omega) ?_); have : i = n := by omega
              subst this; exact hJ
    | succ k ih =>
      intro i ys nw e hl hJ
      refine LCg.CompRest.succ ?_
      intro v I oI C oC D m₂ h tk E' hP hC hx F N off ne
      refine wpAny_mono (step i v I C D oI oC ys nw m₂ h tk (by omega) hl hJ hP hC hx F N off ne) (fun y s₂ z => ?_) (fun _ _ (z : False) => z.elim)
      obtain ⟨h', tk', nw', e', F', N', off', S', J'⟩ := z
      exact ⟨h', tk', nw', e', F', N', off', S', ih (i + 1) (ys ++ [y]) nw' (by omega) (by simp [hl]) J'⟩
  exact this n 0 [] news (by omega) rfl h0
noncomputable def TurnEnd (h₀ : Heap) (L : Addr) (m : Str → Option Value) (s : Shared) (news : List (Addr × Obj)) (V : Value → Prop) (y : Value) (s₂ : Shared) : Prop :=
  V y ∧ ∃ h' tk', s₂ = { s with heap := h', toks := tk' } ∧ Fr h₀ L h' m ∧ News h₀ L h' news
theorem TurnEnd.mk {V : Value → Prop} {news : List (Addr × Obj)} {y : Value} {h' : Heap} {tk' : Nat} (hV : V y) (F : Fr h₀ L h' m) (N : News h₀ L h' news) : TurnEnd h₀ L m s news V y { s with heap := h', toks := tk' } := ⟨hV, h', tk', rfl, F, N⟩
theorem compV {S : List (Addr × Obj) → Prop} {P : Nat → Value → Prop} {Fin : List Value → List (Addr × Obj) → Prop} {n : Nat} {news : List (Addr × Obj)} (V : Nat → Value → Prop) (hS : S news)
    (step : ∀ (i : Nat) (v : Value) (I C D : Addr) (oI oC : Obj) (ys : List Value) (m₂ : Str → Option Value) (h : Heap) (tk : Nat), i < n → P i v → LCg.NsObj oC m₂ → m₂ x = some v → Fr h₀ L h m →
      News h₀ L h ((I, oI) :: (C, oC) :: (D, LCg.lst ys) :: news) → LCg.Off3 I C D news → ((@Ne Nat I C) ∧ (@Ne Nat I D) ∧ (@Ne Nat C D)) →
      wpAny (model prog w) A (eval elt (compEnvC scope cl C env)) (TurnEnd h₀ L m s ((I, oI) :: (C, oC) :: (D, LCg.lst ys) :: news) (V i)) (fun _ _ => False) { s with heap := h, toks := tk })
    (fin : ∀ ys, ys.length = n → (∀ j y, ys[j]? = some y → V j y) → Fin ys news) : LCg.CompRest prog w A h₀ L m env elt x scope cl s S P Fin n 0 [] news := by
  refine compJ (J := fun i ys nw => nw = news ∧ ∀ j y, ys[j]? = some y → V j y) ?_ ?_ ⟨rfl, by intro j y h; cases h⟩
  · rintro i v I C D oI oC ys nw m₂ h tk hi hl ⟨rfl, hJ⟩ hP hC hx F N off ne
    refine wpAny_mono (step i v I C D oI oC ys m₂ h tk hi hP hC hx F N off ne) (fun y s₂ z => ?_) (fun _ _ (z : False) => z.elim)
    obtain ⟨hV, h', tk', e', F', N'⟩ := z
    refine ⟨h', tk', _, e', F', N', off, hS, rfl, fun j y' hj => ?_⟩
    rcases Nat.lt_or_ge j ys.length with h1 | h1
    · rw [List.getElem?_append_left h1] at hj; exact hJ j y' hj
    · rw [List.getElem?_append_right h1] at hj
      have h2 : j - ys.length = 0 := by
        rcases Nat.eq_zero_or_pos (j - ys.length) with h2 | h2
        · exact h2
        · rw [List.getElem?_eq_none (show [y].length ≤ j - ys.length from h2)] at hj; cases hj
      rw [h2] at hj
      have h3 : j = i := by omega
      injection hj with hj; subst hj; subst h3; exact hV
  · rintro ys nw hl ⟨rfl, hJ⟩; exact fin ys hl hJ
end
theorem strs_of : ∀ {ys : List Value} {xs : List Str}, ys.length = xs.length → (∀ (j : Nat) (y : Value), ys[j]? = some y → ∃ c t, y = Value.str c t ∧ xs[j]? = some c) → StrsAre ys xs
  | [], [], _, _ => .nil
  | [], _ :: _, h, _ => by cases h
  | _ :: _, [], h, _ => by cases h
  | y :: ys, x :: xs, h, hv => by
    obtain ⟨c, t, rfl, e⟩ := hv 0 _ rfl
    injection e with e; subst e
    exact .cons _ _ (strs_of (by simpa using h) fun j y hj => hv (j + 1) y hj)
theorem ints_of : ∀ {ys : List Value} {xs : List Int}, ys.length = xs.length → (∀ (j : Nat) (y : Value), ys[j]? = some y → ∃ c t, y = Value.int c t ∧ xs[j]? = some c) → IntsAre ys xs
  | [], [], _, _ => .nil
  | [], _ :: _, h, _ => by cases h
  | _ :: _, [], h, _ => by cases h
  | y :: ys, x :: xs, h, hv => by
    obtain ⟨c, t, rfl, e⟩ := hv 0 _ rfl
    injection e with e; subst e
    exact .cons _ _ (ints_of (by simpa using h) fun j y hj => hv (j + 1) y hj)
theorem get_snoc {α : Type} {ys : List α} {y v : α} {j : Nat} (e : (ys ++ [y])[j]? = some v) : ys[j]? = some v ∨ (j = ys.length ∧ v = y) := by
  rcases Nat.lt_trichotomy j ys.length with h | h | h
  · rw [List.getElem?_append_left h] at e; exact .inl e
  · subst h; simp at e; exact .inr ⟨rfl, e.symm⟩
  · have : (ys ++ [y])[j]? = none := List.getElem?_eq_none (by rw [List.length_append, List.length_singleton]; omega)
    rw [this] at e; cases e
theorem rot4 {α : Type} {a b c d p : α} {l : List α} (h : p ∈ a :: b :: c :: d :: l) : p ∈ d :: a :: b :: c :: l := by
  simp only [List.mem_cons] at h ⊢
  rcases h with h | h | h | h | h <;> simp [h]
section
variable {prog : Program} {w : World} {A : Around} {E : Value → Shared → Prop} {h₀ : Heap} {env : Env} {target : PySem.Expr} {body : List Stmt} {s : Shared} {Q : Flow → Shared → Prop}
abbrev ItemEnd (h₀ : Heap) (L : Addr) (s : Shared) (I : Addr) (o : Obj) (ax : Addr) (lo : Obj) (J : (Str → Option Value) → List (Addr × Obj) → Prop) (f : Flow) (s₃ : Shared) : Prop :=
  f = .next ∧ ∃ h' tk' m' nw', s₃ = { s with heap := h', toks := tk' } ∧ Fr h₀ L h' m' ∧ News h₀ L h' ((I, o) :: nw') ∧ (∀ p ∈ nw', p.1 ≠ I) ∧ (ax, lo) ∈ nw' ∧ J m' nw'
theorem itemsJ {I : Addr} {c : String} {ax : Addr} {lo : Obj} {vs : List Value} (J : Nat → (Str → Option Value) → List (Addr × Obj) → Prop)
    (step : ∀ (i : Nat) (v : Value) (m : Str → Option Value) (nw : List (Addr × Obj)) (h : Heap) (tk : Nat) (o : Obj), vs[i]? = some v → J i m nw → Fr h₀ env.locals h m → News h₀ env.locals h ((I, o) :: nw) →
      wpAny (model prog w) A (assign target env v) (fun _ s₂ => wpAny (model prog w) A (execs body env) (ItemEnd h₀ env.locals s I o ax lo (J (i + 1))) (fun _ _ => False) s₂) (fun _ _ => False) { s with heap := h, toks := tk })
    (fin : ∀ (m : Str → Option Value) (nw : List (Addr × Obj)) (h : Heap) (tk : Nat), J vs.length m nw → Fr h₀ env.locals h m → News h₀ env.locals h nw → Q .next { s with heap := h, toks := tk }) :
    ∀ (m : Str → Option Value) (nw : List (Addr × Obj)), J 0 m nw → ItemsRest prog w A E h₀ env target body Q s [(I, c)] [(ax, lo)] (vs.map .val) m nw := by
  have : ∀ k i m nw, i + k = vs.length → J i m nw → ItemsRest prog w A E h₀ env target body Q s [(I, c)] [(ax, lo)] ((vs.drop i).map .val) m nw := by
    intro k
    induction k with
    | zero =>
      intro i m nw e hJ
      rw [List.drop_of_length_le (by omega)]
      have : i = vs.length := by omega
      subst this
      exact ItemsRest.zero fun h tk F N => fin m nw h tk hJ F N
    | succ k ih =>
      intro i m nw e hJ
      have hi : i < vs.length := by omega
      rw [List.drop_eq_getElem_cons hi]
      refine ItemsRest.val fun h tk F => AllObj.cons fun o ho => AllObj.nil fun N => ?_
      refine wpAny_mono (step i vs[i] m nw h tk o (List.getElem?_eq_getElem hi) hJ F N) (fun _ s₂ z => wpAny_mono z (fun f s₃ z' => ?_) fun _ _ (z : False) => z.elim) fun _ _ (z : False) => z.elim
      obtain ⟨rfl, h', tk', m', nw', e', F', N', off, hm, hJ'⟩ := z'
      exact ⟨h', tk', m', nw', e', F', N', (fun p hp q hq => by rw [List.mem_singleton.mp hq]; exact off p hp), And.intro hm trivial, ih (i + 1) m' nw' (by omega) hJ'⟩
  intro m nw h
  have := this vs.length 0 m nw (by omega) h
  simpa using this
end
end Mine
namespace Mine
section
variable {prog : Program} {w : World} {A : Around} {E : Value → Shared → Prop} {s : Shared} {Q : Value → Shared → Prop} {u : Tok} {h₀ : Heap} {L D : Addr} {news : List (Addr × Obj)} {vs : List Value} {n : Nat} {k : Int} {nm nm' : Str} {p p' p'' : Pos}
theorem idx_a {i : Nat} : (0 : Int) + (i : Int) = ((i : Nat) : Int) := by omega
theorem idx_b {i : Nat} : (0 : Int) + (i : Int) + 1 = ((i + 1 : Nat) : Int) := by omega
theorem int_at {ns : List Int} {j : Nat} (hi : IntsAre vs ns) (hj : j < ns.length) : ∃ t, vs[((j : Nat) : Int).toNat]? = some (.int (ns.getD j 0) t) := by
  obtain ⟨t, ht⟩ := MineI.ints_at hi j (ns.getD j 0) (by rw [List.getD_eq_getElem?_getD, List.getElem?_eq_getElem (by omega)]; rfl)
  exact ⟨t, ht⟩
theorem rowi_n {ns : List Int} {j : Nat} (N : News h₀ L s.heap news) (hm : (D, PySem.W.listOf vs.toArray n) ∈ news) (hi : IntsAre vs ns) (e : k = ((j : Nat) : Int)) (hj : j < ns.length) (hl : j < 1000) (h : ∀ t, Q (.int (ns.getD j 0) t) s) :
    wpAny (model prog w) A (subscriptTail (.Name nm p) (.Name nm' p') (.ref D) (.int k u)) Q E s := by
  subst e
  obtain ⟨t, ht⟩ := int_at hi hj
  exact kim_list N hm rfl rfl (by omega) (by omega) ht (h t) hs_ref_nm ht_ref_nm
theorem rowi_b {ns : List Int} {j : Nat} {a b : PySem.Expr} {o : PySem.Operator} (N : News h₀ L s.heap news) (hm : (D, PySem.W.listOf vs.toArray n) ∈ news) (hi : IntsAre vs ns) (e : k = ((j : Nat) : Int)) (hj : j < ns.length) (hl : j < 1000) (h : ∀ t, Q (.int (ns.getD j 0) t) s) :
    wpAny (model prog w) A (subscriptTail (.Name nm p) (.BinOp a o b p') (.ref D) (.int k u)) Q E s := by
  subst e
  obtain ⟨t, ht⟩ := int_at hi hj
  exact kim_list N hm rfl rfl (by omega) (by omega) ht (h t) (by with_unfolding_all rfl) ht_ref_nm
end
local macro_rules | `(tactic| walk_at "exec Assign cons ListComp") => `(tactic| (k_here; k_dflt (refine LCg.Assign_ListComp_U (F₀ := by k_asm) (by rfl) (by with_unfolding_all rfl) (by with_unfolding_all rfl) (by decide) (by rfl) (by decide) (by rfl) (by rfl) (by rfl) ?_); k_dflt lcg_toSrc))

local macro_rules | `(tactic| walk_at "CompSrc") => `(tactic| (refine halt ?_))
local macro_rules | `(tactic| walk_at "call builtin:list.extend") => `(tactic| (refine halt ?_))
local macro_rules | `(tactic| walk_at "pyIter ref") => `(tactic| (refine halt ?_))
theorem idx_c {i : Nat} : ((i : Nat) : Int) = ((i : Nat) : Int) := rfl
noncomputable def sgn (z : Int) (i : Nat) : Int := 33 + z.fmod 5 + (i : Int)
noncomputable def rowO (z : Int) (gs cs : List Int) (i : Nat) (p q s' : Tok) : Obj := PySem.W.listOf #[.int (65 + cs.getD i 0) p, .int (73 + gs.getD i 0) q, .int (sgn z i) s'] 0
noncomputable def RowsAt (nw : List (Addr × Obj)) (vR : List Value) (z : Int) (gs cs : List Int) : Prop :=
  ∀ (i : Nat) (v : Value), vR[i]? = some v → ∃ r p q s', v = .ref r ∧ (r, rowO z gs cs i p q s') ∈ nw
noncomputable def tapeL (z : Int) (gs cs : List Int) : Nat → List Int
  | 0 => []
  | n + 1 => tapeL z gs cs n ++ [128 + (65 + cs.getD n 0), 73 + gs.getD n 0, sgn z n]
theorem tapeL_len (z : Int) (gs cs : List Int) : ∀ n, (tapeL z gs cs n).length = 3 * n
  | 0 => rfl
  | n + 1 => by rw [tapeL, List.length_append, tapeL_len z gs cs n]; simp; omega
abbrev JR (h₀ : Heap) (o4 o5 : Obj) (nw : List (Addr × Obj)) (z : Int) (gs cs : List Int) (i : Nat) (ys : List Value) (nw1 : List (Addr × Obj)) : Prop :=
  (∀ p ∈ ((h₀.objs.size + 1 + 1 + 1 + 1 + 1, o5) :: (h₀.objs.size + 1 + 1 + 1 + 1, o4) :: nw), p ∈ nw1) ∧ ∀ (j : Nat) (v : Value), ys[j]? = some v → ∃ r p q s', v = .ref r ∧ (r, rowO z gs cs j p q s') ∈ nw1 ∧ r ≠ h₀.objs.size + 1 + 1 + 1 + 1 ∧ r ≠ h₀.objs.size + 1 + 1 + 1 + 1 + 1
abbrev JT (lR lT : Addr) (ys : List Value) (nw1 : List (Addr × Obj)) (z : Int) (gs cs : List Int) (i : Nat) (m : Str → Option Value) (nw2 : List (Addr × Obj)) : Prop :=
  m "rows" = some (.ref lR) ∧ m "tape" = some (.ref lT) ∧ ∃ vT nT, nw2 = (lT, PySem.W.listOf vT.toArray nT) :: (lR, LCg.lst ys) :: nw1 ∧ IntsAre vT (tapeL z gs cs i)
set_option maxRecDepth 100000 in
set_option maxHeartbeats 8000000 in
theorem seg5 (w : World) (mean mg mb) : ∀ (fa : Addr) (cd : Value) (h₀ : Heap) (s : Shared) (m : Str → Option Value) (Qf : Flow → Shared → Prop) (l : Addr) (x y z : Int) (tx ty tz : Tok) (n : Nat) (o1 o2 o3 o4 o5 : Obj) (lG lC : Addr) (nG nC : Nat) (vG vC : List Value) (gs cs : List Int) (nw : List (Addr × Obj)),
    Below callerA h₀ [] h₀ → Fr h₀ h₀.objs.size s.heap m → (Mine.hd.heap_39 w.params).In h₀ → Top Mine.hd.view_39 (looseW Mine.hd.view_39 []) mean mg mb h₀ → News h₀ h₀.objs.size s.heap ((h₀.objs.size + 1 + 1 + 1 + 1 + 1, o5) :: (h₀.objs.size + 1 + 1 + 1 + 1, o4) :: nw) → (h₀.objs.size + 1, o1) ∈ nw → (h₀.objs.size + 1 + 1, o2) ∈ nw → (h₀.objs.size + 1 + 1 + 1, o3) ∈ nw → (l, PySem.W.listOf #[.int x tx, .int y ty, .int z tz] n) ∈ nw → (lG, PySem.W.listOf vG.toArray nG) ∈ nw → (lC, PySem.W.listOf vC.toArray nC) ∈ nw →
    AllNe (h₀.objs.size + 1 + 1 + 1 + 1 + 1) nw → AllNe (h₀.objs.size + 1 + 1 + 1 + 1) nw → o1.data = .cell (some (.ref l)) → o2.data = .cell (some (.ref lG)) → o3.data = .cell (some (.ref lC)) → IntsAre vG gs → IntsAre vC cs → gs.length = 5 → cs.length = 5 → (0 ≤ z ∧ z ≤ 10 ^ 9) →
    (∀ (h' : Heap) (tk' : Nat) (m' : Str → Option Value) (lT lR : Addr) (nT nR : Nat) (vT vR : List Value) (nw' : List (Addr × Obj)), Fr h₀ h₀.objs.size h' m' → m' "rows" = some (.ref lR) → m' "tape" = some (.ref lT) →
      News h₀ h₀.objs.size h' ((h₀.objs.size + 1 + 1 + 1 + 1 + 1, o5) :: (h₀.objs.size + 1 + 1 + 1 + 1, o4) :: nw') → AllNe (h₀.objs.size + 1 + 1 + 1 + 1 + 1) nw' → AllNe (h₀.objs.size + 1 + 1 + 1 + 1) nw' → (∀ p ∈ nw, p ∈ nw') → (lT, PySem.W.listOf vT.toArray nT) ∈ nw' → (lR, PySem.W.listOf vR.toArray nR) ∈ nw' → vR.length = 5 → RowsAt nw' vR z gs cs → IntsAre vT (tapeL z gs cs 5) →
      wpAny (model Challenge.rw_sw0030_01.row.prog w) (callerA.deeper (lawEnv h₀.objs.size fa cd)) (execs (lawItem.body.drop 12) (lawEnv h₀.objs.size fa cd)) Qf (fun _ _ => False) { s with heap := h', toks := tk' }) →
    wpAny (model Challenge.rw_sw0030_01.row.prog w) (callerA.deeper (lawEnv h₀.objs.size fa cd)) (execs (lawItem.body.drop 9) (lawEnv h₀.objs.size fa cd)) Qf (fun _ _ => False) s := by
  dsimp only [lawEnv, lawItem, itemOf, List.drop]
  k_fill
  intro fa cd h₀ s m Qf l x y z tx ty tz n o1 o2 o3 o4 o5 lG lC nG nC vG vC gs cs nw K0 F0 X0 T0 N0 q1 q2 q3 q4 q5 q6 a5 a4 d1 d2 d3 iG iC hlG hlC bz hk
  repeat' (first
    | (k_unfold; (try dsimp only))
    | (k_end; wrow_close)
    | ((with_reducible show wpAny _ _ (subscriptTail (PySem.Expr.Name _ _) (PySem.Expr.Constant _ _ _) (Value.ref _) (Value.int _ _)) _ _ _); (k_here; k_dflt (refine' get_c ?zqN ?zqm ?zqx ?zqz ?zqf ?_; (case zqN => k_asm); (case zqm => k_mem); (case zqx => rfl); (case zqz => decide); (case zqf => decide))))
    | ((with_reducible show wpAny _ _ (subscriptTail (PySem.Expr.Name _ _) (PySem.Expr.Name _ _) (Value.ref _) (Value.int _ _)) _ _ _); (k_here; k_dflt (refine' rowi_n ?zqN ?zqm ?zqhi ?zqe ?zqhj ?zqhl ?_; (case zqN => k_asm); (case zqm => k_mem); (case zqhi => assumption); (case zqe => exact idx_c); (case zqhj => omega); (case zqhl => omega)); intro _; (try dsimp only)))
    | ((with_reducible show wpAny _ _ (exec (PySem.Stmt.For _ _ _ _ _) _) _ _ _); (k_here; (rename Fr _ _ _ _ => lF'); (with_unfolding_all refine' For_turns lF' ?_; k_whole)))
    | ((with_reducible show wpAny _ _ (execs _ _) _ _ _); (k_here; (with_reducible show wpAny _ _ (execs [_, _, _, _, _, _, _, _, _] _) _ _ _); refine halt ?_))
    | walk1
    | (dsimp only; walk1)
    | (leave1; walk_say "STEP leave1"; try dsimp only)
    | fail "no step")
  refine unhalt ?_
  refine LCg.CompSrc.range (n := 5) rfl (by k_asm) (by k_asm) (by assumption) (by decide) (by rfl) (by decide) ?_
  intro g
  refine compJ (J := JR h₀ o4 o5 nw z gs cs) ?_ ?_ ⟨fun p hp => hp, by intro j v e; cases e⟩
  · intro i v I C D oI oC ys nw1 m2 h2 tk2 hi hl hJ hP hC hx F2 N2 off ne
    obtain ⟨hsub, hrow⟩ := hJ
    simp only [Int.zero_add] at hP
    obtain ⟨t9, rfl⟩ := hP
    have r1 := hsub _ (.tail _ (.tail _ q1))
    have r2 := hsub _ (.tail _ (.tail _ q2))
    have r3 := hsub _ (.tail _ (.tail _ q3))
    have r4 := hsub _ (.tail _ (.tail _ q4))
    have r5 := hsub _ (.tail _ (.tail _ q5))
    have r6 := hsub _ (.tail _ (.tail _ q6))
    show wpAny _ _ _ _ _ _
    k_fold
    repeat' (first
      | (k_unfold; (try dsimp only))
      | (k_end; wrow_close)
      | ((with_reducible show wpAny _ _ (subscriptTail (PySem.Expr.Name _ _) (PySem.Expr.Constant _ _ _) (Value.ref _) (Value.int _ _)) _ _ _); (k_here; k_dflt (refine' get_c ?zqN ?zqm ?zqx ?zqz ?zqf ?_; (case zqN => k_asm); (case zqm => k_mem); (case zqx => rfl); (case zqz => decide); (case zqf => decide))))
      | ((with_reducible show wpAny _ _ (subscriptTail (PySem.Expr.Name _ _) (PySem.Expr.Name _ _) (Value.ref _) (Value.int _ _)) _ _ _); (k_here; k_dflt (refine' rowi_n ?zqN ?zqm ?zqhi ?zqe ?zqhj ?zqhl ?_; (case zqN => k_asm); (case zqm => k_mem); (case zqhi => assumption); (case zqe => exact idx_c); (case zqhj => omega); (case zqhl => omega)); intro _; (try dsimp only)))
      | ((with_reducible show wpAny _ _ (exec (PySem.Stmt.For _ _ _ _ _) _) _ _ _); (k_here; (rename Fr _ _ _ _ => lF'); (with_unfolding_all refine' For_turns lF' ?_; k_whole)))
      | ((with_reducible show wpAny _ _ (execs _ _) _ _ _); (k_here; (with_reducible show wpAny _ _ (execs [_, _, _, _, _, _, _, _, _] _) _ _ _); refine halt ?_))
      | walk1
      | (dsimp only; walk1)
      | (leave1; walk_say "STEP leave1"; try dsimp only)
      | fail "no step")
    rename Fr _ _ _ _ => F3
    rename News _ _ _ _ => N3
    rename I < _ ∧ _ => hlt
    obtain ⟨lI, lC', lD, lN⟩ := hlt
    refine LCg.CompEnd.intro F3 N3 ((_, _) :: nw1) (fun p hp => rot4 hp) ⟨⟨Nat.ne_of_gt lI, Nat.ne_of_gt lC', Nat.ne_of_gt lD⟩, off⟩ True.intro ⟨fun p hp => .tail _ (hsub p hp), ?_⟩
    intro j v e
    rcases get_snoc e with e | ⟨rfl, rfl⟩
    · obtain ⟨r, p, q, s', e1, e2, e3⟩ := hrow j v e
      exact ⟨r, p, q, s', e1, .tail _ e2, e3⟩
    · subst hl
      exact ⟨_, _, _, _, rfl, .head _, Nat.ne_of_gt (upd_lt lN _ (hsub _ (.tail _ (.head _)))), Nat.ne_of_gt (upd_lt lN _ (hsub _ (.head _)))⟩
  intro ys nw1 hy hJ
  obtain ⟨hsub, hrow⟩ := hJ
  unfold LCg.FinA
  intro lR h3 tk3 F3 N3 off3
  have nR := off1_ne off3
  repeat' (first
    | (k_unfold; (try dsimp only))
    | (k_end; wrow_close)
    | ((with_reducible show wpAny _ _ (subscriptTail (PySem.Expr.Name _ _) (PySem.Expr.Constant _ _ _) (Value.ref _) (Value.int _ _)) _ _ _); (k_here; k_dflt (refine' get_c ?zqN ?zqm ?zqx ?zqz ?zqf ?_; (case zqN => k_asm); (case zqm => k_mem); (case zqx => rfl); (case zqz => decide); (case zqf => decide))))
    | ((with_reducible show wpAny _ _ (subscriptTail (PySem.Expr.Name _ _) (PySem.Expr.Name _ _) (Value.ref _) (Value.int _ _)) _ _ _); (k_here; k_dflt (refine' rowi_n ?zqN ?zqm ?zqhi ?zqe ?zqhj ?zqhl ?_; (case zqN => k_asm); (case zqm => k_mem); (case zqhi => assumption); (case zqe => exact idx_c); (case zqhj => omega); (case zqhl => omega)); intro _; (try dsimp only)))
    | ((with_reducible show wpAny _ _ (exec (PySem.Stmt.For _ _ _ _ _) _) _ _ _); (k_here; (rename Fr _ _ _ _ => lF'); (with_unfolding_all refine' For_turns lF' ?_; k_whole)))
    | ((with_reducible show wpAny _ _ (execs _ _) _ _ _); (k_here; (with_reducible show wpAny _ _ (execs [_, _, _, _, _, _, _, _, _] _) _ _ _); refine halt ?_))
    | walk1
    | (dsimp only; walk1)
    | (leave1; walk_say "STEP leave1"; try dsimp only)
    | fail "no step")
  refine unhalt ?_
  rename Fr _ _ _ _ => F4
  rename News _ _ _ _ => N4
  rename lR < _ ∧ _ => lt1
  rename_i lT hA hB
  obtain ⟨ltR, ltN⟩ := lt1
  have hT : ∀ p ∈ (lR, LCg.lst ys) :: nw1, p.1 ≠ lT := fun p hp => by
    rcases List.mem_cons.mp hp with rfl | hp
    · exact Nat.ne_of_lt ltR
    · exact Nat.ne_of_lt (upd_lt ltN p hp)
  with_unfolding_all refine iter_listTurns (lo := LCg.lst ys) (vs := ys) rfl F4 N4 (.tail _ (.head _)) rfl rfl ?_
  intro I lI
  refine itemsJ (J := JT lR lT ys nw1 z gs cs) ?_ ?_ _ _ ⟨by walk_at "lk", by walk_at "lk", [], 0, rfl, .nil⟩
  · intro i v m5 nw2 h5 tk5 o hv hJ F5 N5
    obtain ⟨e1, e2, vT, nT, rfl, iT⟩ := hJ
    obtain ⟨r, p, q, s', rfl, hr, -, -⟩ := hrow i v hv
    have hi : i < 5 := by rw [← hy]; exact (List.getElem?_eq_some_iff.mp hv).1
    have hvl : vT.length = 3 * i := by rw [IntsAre.length iT, tapeL_len]
    unfold rowO at hr
    show wpAny _ _ _ _ _ _
    k_fold
    repeat' (first
      | (k_unfold; (try dsimp only))
      | (k_end; wrow_close)
      | ((with_reducible show wpAny _ _ (subscriptTail (PySem.Expr.Name _ _) (PySem.Expr.Constant _ _ _) (Value.ref _) (Value.int _ _)) _ _ _); (k_here; k_dflt (refine' get_c ?zqN ?zqm ?zqx ?zqz ?zqf ?_; (case zqN => k_asm); (case zqm => k_mem); (case zqx => rfl); (case zqz => decide); (case zqf => decide))))
      | ((with_reducible show wpAny _ _ (subscriptTail (PySem.Expr.Name _ _) (PySem.Expr.Name _ _) (Value.ref _) (Value.int _ _)) _ _ _); (k_here; k_dflt (refine' rowi_n ?zqN ?zqm ?zqhi ?zqe ?zqhj ?zqhl ?_; (case zqN => k_asm); (case zqm => k_mem); (case zqhi => assumption); (case zqe => exact idx_c); (case zqhj => omega); (case zqhl => omega)); intro _; (try dsimp only)))
      | ((with_reducible show wpAny _ _ (exec (PySem.Stmt.For _ _ _ _ _) _) _ _ _); (k_here; (rename Fr _ _ _ _ => lF'); (with_unfolding_all refine' For_turns lF' ?_; k_whole)))
      | ((with_reducible show wpAny _ _ (execs _ _) _ _ _); (k_here; (with_reducible show wpAny _ _ (execs [_, _, _, _, _, _, _, _, _] _) _ _ _); refine halt ?_))
      | walk1
      | (dsimp only; walk1)
      | (leave1; walk_say "STEP leave1"; try dsimp only)
      | fail "no step")
    refine unhalt ?_
    rename Fr _ _ _ _ => F6
    rename News _ _ _ _ => N6
    rename I < _ ∧ _ => lt2
    obtain ⟨l2I, l2T, l2R, l2N⟩ := lt2
    with_unfolding_all refine kl_extend F6 N6 (.head _) rfl (Nat.succ_ne_zero _) (.tail (Nat.ne_of_gt l2T) (.tail (Nat.ne_of_gt (lI _ (.head _))) (.head hT))) ?_ (by show vT.length ≤ _; rw [hvl]; have := sizeLine_eq; omega) (by show vT.length + 3 ≤ _; rw [hvl]; have := sizeLine_eq; omega) ?_
    · rw [Bool.and_eq_true]
      rintro ⟨-, h⟩
      have h' := of_decide_eq_true h
      have h2 : vT.length + 3 > sizeLine := h'
      have := sizeLine_eq
      omega
    intro h7 F7 N7
    refine wpAny_execs_nil ⟨rfl, h7, _, _, _, rfl, F7, fun p hp => N7 p (.tail _ hp), ?_, .tail _ (.head _), (by walk_at "lk"), (by walk_at "lk"), _, _, rfl, IntsAre.append iT (.cons _ _ (.cons _ _ (.cons _ _ .nil)))⟩
    intro p hp
    rcases List.mem_cons.mp hp with rfl | hp
    · exact Nat.ne_of_lt (lI (lT, PySem.W.listOf #[] 0) (.head _))
    · exact Nat.ne_of_lt (lI _ (.tail _ hp))
  · intro m6 nw2 h6 tk6 hJ F6 N6
    obtain ⟨e1, e2, vT, nT, rfl, iT⟩ := hJ
    rw [hy] at iT
    dsimp only
    refine hk _ _ m6 lT lR nT _ vT ys ((lT, PySem.W.listOf vT.toArray nT) :: (lR, LCg.lst ys) :: nw1.filter (fun p => decide (p.1 ≠ h₀.objs.size + 1 + 1 + 1 + 1 ∧ p.1 ≠ h₀.objs.size + 1 + 1 + 1 + 1 + 1))) F6 e1 e2 ?_ ?_ ?_ ?_ (.head _) (.tail _ (.head _)) hy ?_ iT
    · intro p hp
      rcases List.mem_cons.mp hp with rfl | hp
      · exact N6 _ (.tail _ (.tail _ (hsub _ (.head _))))
      rcases List.mem_cons.mp hp with rfl | hp
      · exact N6 _ (.tail _ (.tail _ (hsub _ (.tail _ (.head _)))))
      rcases List.mem_cons.mp hp with rfl | hp
      · exact N6 _ (.head _)
      rcases List.mem_cons.mp hp with rfl | hp
      · exact N6 _ (.tail _ (.head _))
      · exact N6 _ (.tail _ (.tail _ (List.mem_filter.mp hp).1))
    · refine allNe_of fun p hp => ?_
      rcases List.mem_cons.mp hp with rfl | hp
      · exact Nat.ne_of_gt (upd_lt ltN _ (hsub _ (.head _)))
      rcases List.mem_cons.mp hp with rfl | hp
      · exact Ne.symm (nR _ (hsub _ (.head _)))
      · exact (of_decide_eq_true (List.mem_filter.mp hp).2).2
    · refine allNe_of fun p hp => ?_
      rcases List.mem_cons.mp hp with rfl | hp
      · exact Nat.ne_of_gt (upd_lt ltN _ (hsub _ (.tail _ (.head _))))
      rcases List.mem_cons.mp hp with rfl | hp
      · exact Ne.symm (nR _ (hsub _ (.tail _ (.head _))))
      · exact (of_decide_eq_true (List.mem_filter.mp hp).2).1
    · intro p hp
      exact .tail _ (.tail _ (List.mem_filter.mpr ⟨hsub _ (.tail _ (.tail _ hp)), decide_eq_true ⟨@allNe_mem _ p.1 p.2 _ a4 hp, @allNe_mem _ p.1 p.2 _ a5 hp⟩⟩))
    · intro j v e
      obtain ⟨r, p, q, s', h1, h2, h3, h4⟩ := hrow j v e
      exact ⟨r, p, q, s', h1, .tail _ (.tail _ (List.mem_filter.mpr ⟨h2, decide_eq_true ⟨h3, h4⟩⟩))⟩
end Mine
namespace Mine
local macro_rules | `(tactic| walk_at "exec Assign cons ListComp") => `(tactic| (k_here; k_dflt (refine LCg.Assign_ListComp_U (F₀ := by k_asm) (by rfl) (by with_unfolding_all rfl) (by with_unfolding_all rfl) (by decide) (by rfl) (by decide) (by rfl) (by rfl) (by rfl) ?_); k_dflt lcg_toSrc))
local macro_rules | `(tactic| walk_at "eval ListComp") => `(tactic| (k_here; k_dflt (refine LCg.ListComp_U (F₀ := by k_asm) (by with_unfolding_all rfl) (by decide) (by rfl) (by decide) (by rfl) ?_); k_dflt lcg_toSrc))

local macro_rules | `(tactic| k_all) => `(tactic| with_reducible exact allNe_all (by with_reducible assumption))
local macro_rules | `(tactic| walk_at "CompSrc") => `(tactic| (refine halt ?_))
inductive Rem (d : Addr) (o : Obj) : List (Addr × Obj) → List (Addr × Obj) → Prop
  | head {r : List (Addr × Obj)} : (∀ p ∈ r, p.1 ≠ d) → Rem d o ((d, o) :: r) r
  | tail {p : Addr × Obj} {r r' : List (Addr × Obj)} : p.1 ≠ d → Rem d o r r' → Rem d o (p :: r) (p :: r')
theorem Rem.sub {d : Addr} {o : Obj} {l l' : List (Addr × Obj)} (h : Rem d o l l') : (d, o) ∈ l ∧ ∀ p ∈ l', p ∈ l ∧ p.1 ≠ d := by
  induction h with
  | head h => exact ⟨.head _, fun p hp => ⟨.tail _ hp, h p hp⟩⟩
  | tail h _ ih =>
    refine ⟨.tail _ ih.1, fun p hp => ?_⟩
    rcases List.mem_cons.mp hp with rfl | hp
    · exact ⟨.head _, h⟩
    · exact ⟨.tail _ (ih.2 p hp).1, (ih.2 p hp).2⟩
local macro_rules | `(tactic| walk_at "k_rem") => `(tactic| first | (refine' Rem.head ?a; (case a => k_all)) | (refine' Rem.tail ?a ?b; (case a => k_ne); (case b => walk_at "k_rem")))
section
variable {prog : Program} {w : World} {A : Around} {E : Value → Shared → Prop} {s : Shared} {Q : Value → Shared → Prop} {h₀ : Heap} {L it T : Addr} {m : Str → Option Value} {news news' : List (Addr × Obj)} {io : Obj} {items : Array Value} {i n : Nat}
theorem list_end_K (hh : A.handled = none) (F : Fr h₀ L s.heap m) (N : News h₀ L s.heap news) (U : Rem it io news news') (hi : LIt io T i) (hT : (T, PySem.W.listOf items n) ∈ news) (hx : items[i]? = none)
    (h : ∀ S h' tk c', Fr h₀ L h' m → News h₀ L h' ((S, PySem.W.listOf ([] : List Value).toArray c') :: news') → (∀ p ∈ news', p.1 < S) → Q (.ref S) { s with heap := h', toks := tk }) :
    wpAny (model prog w) A (call (.type "list") [.ref it]) Q E s := by
  obtain ⟨hm, hs⟩ := U.sub
  have hN := N _ hm
  refine call_list_iterEnd hh ⟨io, hN.1, hi.1, hi.2⟩ ⟨_, (N _ hT).1, rfl, _, rfl⟩ hx fun h' tk c' hk hS => ?_
  refine h _ h' tk c' ⟨F.ns.at fun o e => hk _ o (Ne.symm hN.2.1) e, fun b o e => hk b o (fun q => by rw [q, hN.2.2] at e; cases e) (F.keep b o e), F.above⟩ (fun p hp => ?_) (fun p hp => Heap.lt_size (N p (hs p hp).1).1)
  rcases List.mem_cons.mp hp with rfl | hp
  · refine ⟨hS, Nat.ne_of_gt F.ns.lt, ?_⟩
    cases e : h₀.get? s.heap.objs.size with
    | none => rfl
    | some o => exact absurd (Heap.lt_size (F.keep _ _ e)) (Nat.lt_irrefl _)
  · exact ⟨hk _ _ (hs p hp).2 (N p (hs p hp).1).1, (N p (hs p hp).1).2⟩
theorem ne_ints_same {a b : Addr} {xs ys : List Value} {n n' : Nat} {ns ms : List Int} (N : News h₀ L s.heap news) (ha : (a, PySem.W.listOf xs.toArray n) ∈ news) (hb : (b, PySem.W.listOf ys.toArray n') ∈ news) (hi : IntsAre xs ns) (hj : IntsAre ys ms) (e : ns = ms) (hu : A.units + 64 < cLine) (h : Q (.bool false) s) :
    wpAny (model prog w) A (compareOp .NotEq (.ref a) (.ref b)) Q E s :=
  ke_ne_ints ⟨_, (N _ ha).1, rfl, _, rfl⟩ ⟨_, (N _ hb).1, rfl, _, rfl⟩ hi hj hu (by rw [decide_eq_true e]; exact h)
end
theorem fm64 {a : Int} (h : 64 ≤ a ∧ a < 128) : a.fmod 64 = a - 64 := by
  have h1 := Int.fmod_eq_emod_of_nonneg a (show (0 : Int) ≤ 64 by decide)
  rw [h1]; omega

theorem num_eq {a b c : Int} (ha : 0 ≤ a ∧ a ≤ 4) (hb : 0 ≤ b ∧ b ≤ 4) : ((128 + (65 + a) - 192) * 64 + ((73 + b) - 64)) * 64 + c = (65 + a).fmod 64 * 4096 + (73 + b).fmod 64 * 64 + c := by
  rw [fm64 (by omega), fm64 (by omega)]; omega
noncomputable def numF (z : Int) (gs cs : List Int) (i : Nat) : Int := ((128 + (65 + cs.getD i 0) - 192) * 64 + ((73 + gs.getD i 0) - 64)) * 64 + sgn z i
noncomputable def numsL (z : Int) (gs cs : List Int) : List Int := (List.range 5).map (numF z gs cs)
theorem tape_at (z : Int) (gs cs : List Int) {i : Nat} (hi : i < 5) : (tapeL z gs cs 5)[3 * i]? = some (128 + (65 + cs.getD i 0)) ∧ (tapeL z gs cs 5)[3 * i + 1]? = some (73 + gs.getD i 0) ∧ (tapeL z gs cs 5)[3 * i + 1 + 1]? = some (sgn z i) := by
  match i, hi with
  | 0, _ => exact ⟨rfl, rfl, rfl⟩
  | 1, _ => exact ⟨rfl, rfl, rfl⟩
  | 2, _ => exact ⟨rfl, rfl, rfl⟩
  | 3, _ => exact ⟨rfl, rfl, rfl⟩
  | 4, _ => exact ⟨rfl, rfl, rfl⟩
theorem w_of {a b : Int} (ha : 0 ≤ a ∧ a ≤ 4) (hb : 0 ≤ b ∧ b ≤ 4) : (193 ≤ 128 + (65 + a) ∧ 128 + (65 + a) ≤ 197) ∧ (73 ≤ 73 + b ∧ 73 + b ≤ 77) := by omega
theorem sgn_b {z : Int} {i : Nat} (hi : i < 5) : 33 ≤ sgn z i ∧ sgn z i ≤ 41 := by
  unfold sgn
  have h1 := Int.fmod_nonneg_of_pos z (show (0 : Int) < 5 by decide)
  have h2 := Int.fmod_lt_of_pos z (show (0 : Int) < 5 by decide)
  omega
abbrev JN (h₀ : Heap) (I : Addr) (o5 o4n : Obj) (lT : Addr) (nw : List (Addr × Obj)) (z : Int) (gs cs : List Int) (i : Nat) (ys : List Value) (nw1 : List (Addr × Obj)) : Prop :=
  ∃ io, nw1 = (I, io) :: (h₀.objs.size + 1 + 1 + 1 + 1 + 1, o5) :: (h₀.objs.size + 1 + 1 + 1 + 1, o4n) :: nw ∧ LIt io lT (3 * i) ∧ ∀ (j : Nat) (v : Value), ys[j]? = some v → ∃ t, v = .int (numF z gs cs j) t
set_option maxRecDepth 100000 in
set_option maxHeartbeats 8000000 in
theorem seg6 (w : World) (mean mg mb) : ∀ (fa : Addr) (cd : Value) (h₀ : Heap) (s : Shared) (m : Str → Option Value) (Qf : Flow → Shared → Prop) (o4 o5 : Obj) (lT lR : Addr) (nT nR : Nat) (vT vR : List Value) (z : Int) (gs cs : List Int) (nw : List (Addr × Obj)),
    Below callerA h₀ [] h₀ → Fr h₀ h₀.objs.size s.heap m → (Mine.hd.heap_39 w.params).In h₀ → Top Mine.hd.view_39 (looseW Mine.hd.view_39 []) mean mg mb h₀ → m "rows" = some (.ref lR) → m "tape" = some (.ref lT) → News h₀ h₀.objs.size s.heap ((h₀.objs.size + 1 + 1 + 1 + 1 + 1, o5) :: (h₀.objs.size + 1 + 1 + 1 + 1, o4) :: nw) → AllNe (h₀.objs.size + 1 + 1 + 1 + 1 + 1) nw → AllNe (h₀.objs.size + 1 + 1 + 1 + 1) nw → (lT, PySem.W.listOf vT.toArray nT) ∈ nw → (lR, PySem.W.listOf vR.toArray nR) ∈ nw →
    o4.data = .cell none → o5.data = .cell none → vR.length = 5 → RowsAt nw vR z gs cs → IntsAre vT (tapeL z gs cs 5) → (∀ i, i < 5 → (0 ≤ cs.getD i 0 ∧ cs.getD i 0 ≤ 4) ∧ (0 ≤ gs.getD i 0 ∧ gs.getD i 0 ≤ 4)) →
    (∀ (h' : Heap) (tk' : Nat) (m' : Str → Option Value) (lN : Addr) (nN : Nat) (vN : List Value) (o5' : Obj), Fr h₀ h₀.objs.size h' m' → m' "rows" = some (.ref lR) →
      News h₀ h₀.objs.size h' ((h₀.objs.size + 1 + 1 + 1 + 1 + 1, o5') :: (lN, PySem.W.listOf vN.toArray nN) :: nw) → o5'.data = .cell (some (.ref lN)) → IntsAre vN (numsL z gs cs) →
      wpAny (model Challenge.rw_sw0030_01.row.prog w) (callerA.deeper (lawEnv h₀.objs.size fa cd)) (execs (lawItem.body.drop 15) (lawEnv h₀.objs.size fa cd)) Qf (fun _ _ => False) { s with heap := h', toks := tk' }) →
    wpAny (model Challenge.rw_sw0030_01.row.prog w) (callerA.deeper (lawEnv h₀.objs.size fa cd)) (execs (lawItem.body.drop 12) (lawEnv h₀.objs.size fa cd)) Qf (fun _ _ => False) s := by
  dsimp only [lawEnv, lawItem, itemOf, List.drop]
  k_fill
  intro fa cd h₀ s m Qf o4 o5 lT lR nT nR vT vR z gs cs nw K0 F0 X0 T0 mR mT N0 a5 a4 qT qR d4 d5 hR5 hrow iT hb hk
  repeat' (first
    | (k_unfold; (try dsimp only))
    | (k_end; wrow_close)
    | ((with_reducible show wpAny _ _ (subscriptTail (PySem.Expr.Name _ _) (PySem.Expr.Constant _ _ _) (Value.ref _) (Value.int _ _)) _ _ _); (k_here; k_dflt (refine' get_c ?zqN ?zqm ?zqx ?zqz ?zqf ?_; (case zqN => k_asm); (case zqm => k_mem); (case zqx => rfl); (case zqz => decide); (case zqf => decide))))
    | ((with_reducible show wpAny _ _ (compareOp PySem.CmpOp.NotEq (Value.ref _) (Value.ref _)) _ _ _); (k_here; k_dflt (first | (refine' ne_ints_same ?zqN ?zqha ?zqhb ?zqhi ?zqhj ?zqe ?zqhu ?_; (case zqN => k_asm); (case zqha => k_mem); (case zqhb => k_mem); (case zqhi => assumption); (case zqhj => assumption); (case zqe => assumption); (case zqhu => ke_room)) | (refine' ne_ints_same ?zqN ?zqha ?zqhb ?zqhi ?zqhj ?zqe ?zqhu ?_; (case zqN => k_asm); (case zqha => k_mem); (case zqhb => k_mem); (case zqhi => exact IntsAre.nil); (case zqhj => exact IntsAre.nil); (case zqe => rfl); (case zqhu => ke_room)))))
    | ((with_reducible show wpAny _ _ (call (Value.type "list") _) _ _ _); (k_here; (with_reducible show wpAny _ _ (call (Value.type _) [Value.ref _]) _ _ _); k_dflt (refine' list_end_K ?zqhh ?zqF ?zqN ?zqU ?zqhi ?zqhT ?zqhx ?_; (case zqhh => rfl); (case zqF => k_asm); (case zqN => k_asm); (case zqU => walk_at "k_rem"); (case zqhi => assumption); (case zqhT => k_mem); (case zqhx => assumption)); intro S' h' tk' c' F' N' l1; (try k_lt l1); (try dsimp only); k_sweep))
    | ((with_reducible show wpAny _ _ (call (Value.ref _) _) _ _ _); (k_here; (with_reducible show wpAny _ _ (call (Value.ref 35) _) _ _ _); refine halt ?_))
    | ((with_reducible show wpAny _ _ (call (Value.builtin "iter") _) _ _ _); (k_here; k_dflt (refine iter_list (by k_asm) (by k_asm) (by k_mem) ?_); intro I' h' oI' F' N' l1 hi'; (try k_lt l1); (try dsimp only); k_sweep))
    | ((with_reducible show wpAny _ _ (execs _ _) _ _ _); (k_here; (with_reducible show wpAny _ _ (execs [_, _, _, _, _, _] _) _ _ _); refine halt ?_))
    | walk1
    | (dsimp only; walk1)
    | (leave1; walk_say "STEP leave1"; try dsimp only)
    | fail "no step")
  refine unhalt ?_
  rename Fr _ _ _ _ => F1
  rename News _ _ _ _ => N1
  rename LIt _ _ _ => li
  rename Obj.data _ = Data.cell (some (Value.ref _)) => dI
  rename _ < _ ∧ _ => lt1
  rename_i hB o4n
  obtain ⟨lI5, lI4, lIn⟩ := lt1
  have aI : AllNe I' nw := allNe_of fun p hp => Nat.ne_of_lt (upd_lt lIn p hp)
  have hI : ∀ p ∈ (h₀.objs.size + 1 + 1 + 1 + 1 + 1, o5) :: (h₀.objs.size + 1 + 1 + 1 + 1, o4n) :: nw, p.1 ≠ I' := fun p hp => by
    rcases List.mem_cons.mp hp with rfl | hp
    · exact Nat.ne_of_lt lI5
    rcases List.mem_cons.mp hp with rfl | hp
    · exact Nat.ne_of_lt lI4
    · exact allNe_all aI p hp
  have hTI : @Ne Nat lT I' := Nat.ne_of_lt (upd_lt lIn _ qT)
  refine LCg.CompSrc.ledger rfl F1 N1 (.tail _ (.tail _ (.tail _ qR))) (by show vR.toArray.size ≤ _; rw [List.size_toArray, hR5]; decide) ?_
  intro g
  rw [show vR.toArray.size = 5 from by rw [List.size_toArray, hR5]]
  refine compJ (J := JN h₀ I' o5 o4n lT nw z gs cs) ?_ ?_ ⟨oI', rfl, li, by intro j v e; cases e⟩
  · intro i v Ic C D oIc oC ys nw1 m2 h2 tk2 hi hl hJ hP hC hx F2 N2 off ne
    obtain ⟨io, rfl, hio, hys⟩ := hJ
    obtain ⟨r, p, q, s', rfl, hr⟩ := hrow i v (by simpa using hP)
    obtain ⟨b1, b2⟩ := hb i hi
    obtain ⟨e1, e2, e3⟩ := tape_at z gs cs hi
    obtain ⟨t1, e1⟩ := MineI.ints_at iT _ _ e1
    obtain ⟨t2, e2⟩ := MineI.ints_at iT _ _ e2
    obtain ⟨t3, e3⟩ := MineI.ints_at iT _ _ e3
    show wpAny _ _ _ _ _ _
    k_fold
    obtain ⟨w1, w2⟩ := w_of b1 b2
    clear b1 b2
    repeat' (first
      | (k_unfold; (try dsimp only))
      | (k_end; wrow_close)
      | ((with_reducible show wpAny _ _ (subscriptTail (PySem.Expr.Name _ _) (PySem.Expr.Constant _ _ _) (Value.ref _) (Value.int _ _)) _ _ _); (k_here; k_dflt (refine' get_c ?zqN ?zqm ?zqx ?zqz ?zqf ?_; (case zqN => k_asm); (case zqm => k_mem); (case zqx => rfl); (case zqz => decide); (case zqf => decide))))
      | ((with_reducible show wpAny _ _ (compareOp PySem.CmpOp.NotEq (Value.ref _) (Value.ref _)) _ _ _); (k_here; k_dflt (first | (refine' ne_ints_same ?zqN ?zqha ?zqhb ?zqhi ?zqhj ?zqe ?zqhu ?_; (case zqN => k_asm); (case zqha => k_mem); (case zqhb => k_mem); (case zqhi => assumption); (case zqhj => assumption); (case zqe => assumption); (case zqhu => ke_room)) | (refine' ne_ints_same ?zqN ?zqha ?zqhb ?zqhi ?zqhj ?zqe ?zqhu ?_; (case zqN => k_asm); (case zqha => k_mem); (case zqhb => k_mem); (case zqhi => exact IntsAre.nil); (case zqhj => exact IntsAre.nil); (case zqe => rfl); (case zqhu => ke_room)))))
      | ((with_reducible show wpAny _ _ (call (Value.type "list") _) _ _ _); (k_here; (with_reducible show wpAny _ _ (call (Value.type _) [Value.ref _]) _ _ _); k_dflt (refine' list_end_K ?zqhh ?zqF ?zqN ?zqU ?zqhi ?zqhT ?zqhx ?_; (case zqhh => rfl); (case zqF => k_asm); (case zqN => k_asm); (case zqU => walk_at "k_rem"); (case zqhi => assumption); (case zqhT => k_mem); (case zqhx => assumption)); intro S' h' tk' c' F' N' l1; (try k_lt l1); (try dsimp only); k_sweep))
      | ((with_reducible show wpAny _ _ (call (Value.ref _) _) _ _ _); (k_here; (with_reducible show wpAny _ _ (call (Value.ref 35) _) _ _ _); refine halt ?_))
      | ((with_reducible show wpAny _ _ (call (Value.builtin "iter") _) _ _ _); (k_here; k_dflt (refine iter_list (by k_asm) (by k_asm) (by k_mem) ?_); intro I' h' oI' F' N' l1 hi'; (try k_lt l1); (try dsimp only); k_sweep))
      | ((with_reducible show wpAny _ _ (execs _ _) _ _ _); (k_here; (with_reducible show wpAny _ _ (execs [_, _, _, _, _, _] _) _ _ _); refine halt ?_))
      | walk1
      | (dsimp only; walk1)
      | (leave1; walk_say "STEP leave1"; try dsimp only)
      | fail "no step")
    refine unhalt ?_
    refine' varint_use (items := vT.toArray) (i := 3 * i) ?k1 ?k2 ?k3 ?k4 ?k5 ?kK ?U hio (.tail _ (.tail _ (.tail _ (.tail _ (.tail _ (.tail _ qT)))))) hTI (by simpa using e1) (by simpa using e2) (by simpa using e3) w1 w2 (sgn_b hi) rfl ?kd ?ku ?_
    case k1 => k_asm
    case k2 => k_asm
    case k3 => k_asm
    case k4 => k_asm
    case k5 => k_asm
    case U => exact UpdF.tail (show @Ne Nat Ic I' from Ne.symm off.1.1) (UpdF.tail (show @Ne Nat C I' from Ne.symm off.1.2.1) (UpdF.tail (show @Ne Nat D I' from Ne.symm off.1.2.2) (UpdF.head hI)))
    case kK => exact rfl
    case kd => ktr_room
    case ku => ktr_units
    intro t' h' tk' o' hi' F' N'
    refine LCg.CompEnd.intro F' N' ((I', o') :: _ :: _ :: nw) (fun p hp => hp) ⟨off.1, off.2⟩ (.inr ⟨_, .tail _ (.tail _ (.tail _ qR)), rfl, _, rfl⟩) ⟨o', rfl, hi', ?_⟩
    intro j v e
    rcases get_snoc e with e | ⟨rfl, rfl⟩
    · exact hys j v e
    · subst hl; exact ⟨_, rfl⟩
  intro ys nw1 hy hJ
  obtain ⟨io, rfl, hio, hys⟩ := hJ
  unfold LCg.FinE
  intro D h3 tk3 F3 N3 off3
  obtain ⟨nD1, nD2, nD3, nD4⟩ := off3
  replace nD1 : @Ne Nat I' D := nD1
  replace nD2 : h₀.objs.size + 1 + 1 + 1 + 1 + 1 ≠ D := nD2
  replace nD3 : h₀.objs.size + 1 + 1 + 1 + 1 ≠ D := nD3
  replace N3 : News h₀ h₀.objs.size h3 ((D, PySem.W.listOf ys.toArray ys.length) :: (I', io) :: (h₀.objs.size + 1 + 1 + 1 + 1 + 1, o5) :: (h₀.objs.size + 1 + 1 + 1 + 1, o4n) :: nw) := N3
  have iN : IntsAre ys (numsL z gs cs) := ints_of (by rw [hy]; rfl) fun j y e => by
    obtain ⟨t, e'⟩ := hys j y e
    have hj : j < 5 := by rw [← hy]; exact (List.getElem?_eq_some_iff.mp e).1
    exact ⟨_, t, e', by simp [numsL, hj]⟩
  repeat' (first
    | (k_unfold; (try dsimp only))
    | (k_end; wrow_close)
    | ((with_reducible show wpAny _ _ (subscriptTail (PySem.Expr.Name _ _) (PySem.Expr.Constant _ _ _) (Value.ref _) (Value.int _ _)) _ _ _); (k_here; k_dflt (refine' get_c ?zqN ?zqm ?zqx ?zqz ?zqf ?_; (case zqN => k_asm); (case zqm => k_mem); (case zqx => rfl); (case zqz => decide); (case zqf => decide))))
    | ((with_reducible show wpAny _ _ (compareOp PySem.CmpOp.NotEq (Value.ref _) (Value.ref _)) _ _ _); (k_here; k_dflt (first | (refine' ne_ints_same ?zqN ?zqha ?zqhb ?zqhi ?zqhj ?zqe ?zqhu ?_; (case zqN => k_asm); (case zqha => k_mem); (case zqhb => k_mem); (case zqhi => assumption); (case zqhj => assumption); (case zqe => assumption); (case zqhu => ke_room)) | (refine' ne_ints_same ?zqN ?zqha ?zqhb ?zqhi ?zqhj ?zqe ?zqhu ?_; (case zqN => k_asm); (case zqha => k_mem); (case zqhb => k_mem); (case zqhi => exact IntsAre.nil); (case zqhj => exact IntsAre.nil); (case zqe => rfl); (case zqhu => ke_room)))))
    | ((with_reducible show wpAny _ _ (call (Value.type "list") _) _ _ _); (k_here; (with_reducible show wpAny _ _ (call (Value.type _) [Value.ref _]) _ _ _); k_dflt (refine' list_end_K ?zqhh ?zqF ?zqN ?zqU ?zqhi ?zqhT ?zqhx ?_; (case zqhh => rfl); (case zqF => k_asm); (case zqN => k_asm); (case zqU => walk_at "k_rem"); (case zqhi => assumption); (case zqhT => k_mem); (case zqhx => assumption)); intro S' h' tk' c' F' N' l1; (try k_lt l1); (try dsimp only); k_sweep))
    | ((with_reducible show wpAny _ _ (call (Value.ref _) _) _ _ _); (k_here; (with_reducible show wpAny _ _ (call (Value.ref 35) _) _ _ _); refine halt ?_))
    | ((with_reducible show wpAny _ _ (call (Value.builtin "iter") _) _ _ _); (k_here; k_dflt (refine iter_list (by k_asm) (by k_asm) (by k_mem) ?_); intro I' h' oI' F' N' l1 hi'; (try k_lt l1); (try dsimp only); k_sweep))
    | ((with_reducible show wpAny _ _ (execs _ _) _ _ _); (k_here; (with_reducible show wpAny _ _ (execs [_, _, _, _, _, _] _) _ _ _); refine halt ?_))
    | walk1
    | (dsimp only; walk1)
    | (leave1; walk_say "STEP leave1"; try dsimp only)
    | fail "no step")
  refine unhalt ?_
  rename Fr _ _ _ _ => F4
  rename News _ _ _ _ => N4
  rename Obj.data _ = Data.cell (some (Value.ref D)) => dN
  refine LCg.CompSrc.ledger rfl F4 N4 (.tail _ (.tail _ (.tail _ (.tail _ qR)))) (by show vR.toArray.size ≤ _; rw [List.size_toArray, hR5]; decide) ?_
  intro g4
  rw [show vR.toArray.size = 5 from by rw [List.size_toArray, hR5]]
  refine compV (V := fun i y => ∃ t, y = .int ((65 + cs.getD i 0).fmod 64 * 4096 + (73 + gs.getD i 0).fmod 64 * 64 + sgn z i) t) (.inr ⟨_, .tail _ (.tail _ (.tail _ (.tail _ qR))), rfl, _, rfl⟩) ?_ ?_
  · intro i v Ic C D' oIc oC ys' m2 h2 tk2 hi hP hC hx F2 N2 off ne
    obtain ⟨r, p, q, s', rfl, hr⟩ := hrow i v (by simpa using hP)
    unfold rowO at hr
    obtain ⟨b1, b2⟩ := hb i hi
    show wpAny _ _ _ _ _ _
    k_fold
    repeat' (first
      | (k_unfold; (try dsimp only))
      | (k_end; wrow_close)
      | ((with_reducible show wpAny _ _ (subscriptTail (PySem.Expr.Name _ _) (PySem.Expr.Constant _ _ _) (Value.ref _) (Value.int _ _)) _ _ _); (k_here; k_dflt (refine' get_c ?zqN ?zqm ?zqx ?zqz ?zqf ?_; (case zqN => k_asm); (case zqm => k_mem); (case zqx => rfl); (case zqz => decide); (case zqf => decide))))
      | ((with_reducible show wpAny _ _ (compareOp PySem.CmpOp.NotEq (Value.ref _) (Value.ref _)) _ _ _); (k_here; k_dflt (first | (refine' ne_ints_same ?zqN ?zqha ?zqhb ?zqhi ?zqhj ?zqe ?zqhu ?_; (case zqN => k_asm); (case zqha => k_mem); (case zqhb => k_mem); (case zqhi => assumption); (case zqhj => assumption); (case zqe => assumption); (case zqhu => ke_room)) | (refine' ne_ints_same ?zqN ?zqha ?zqhb ?zqhi ?zqhj ?zqe ?zqhu ?_; (case zqN => k_asm); (case zqha => k_mem); (case zqhb => k_mem); (case zqhi => exact IntsAre.nil); (case zqhj => exact IntsAre.nil); (case zqe => rfl); (case zqhu => ke_room)))))
      | ((with_reducible show wpAny _ _ (call (Value.type "list") _) _ _ _); (k_here; (with_reducible show wpAny _ _ (call (Value.type _) [Value.ref _]) _ _ _); k_dflt (refine' list_end_K ?zqhh ?zqF ?zqN ?zqU ?zqhi ?zqhT ?zqhx ?_; (case zqhh => rfl); (case zqF => k_asm); (case zqN => k_asm); (case zqU => walk_at "k_rem"); (case zqhi => assumption); (case zqhT => k_mem); (case zqhx => assumption)); intro S' h' tk' c' F' N' l1; (try k_lt l1); (try dsimp only); k_sweep))
      | ((with_reducible show wpAny _ _ (call (Value.ref _) _) _ _ _); (k_here; (with_reducible show wpAny _ _ (call (Value.ref 35) _) _ _ _); refine halt ?_))
      | ((with_reducible show wpAny _ _ (call (Value.builtin "iter") _) _ _ _); (k_here; k_dflt (refine iter_list (by k_asm) (by k_asm) (by k_mem) ?_); intro I' h' oI' F' N' l1 hi'; (try k_lt l1); (try dsimp only); k_sweep))
      | ((with_reducible show wpAny _ _ (execs _ _) _ _ _); (k_here; (with_reducible show wpAny _ _ (execs [_, _, _, _, _, _] _) _ _ _); refine halt ?_))
      | walk1
      | (dsimp only; walk1)
      | (leave1; walk_say "STEP leave1"; try dsimp only)
      | fail "no step")
    exact TurnEnd.mk ⟨_, rfl⟩ (by assumption) (by assumption)
  intro ys2 hy2 hV2
  unfold LCg.FinE
  intro D2 h6 tk6 F6 N6 off6
  obtain ⟨m1, m2, m3, m4, m5⟩ := off6
  replace m1 : @Ne Nat D D2 := m1
  replace m2 : @Ne Nat I' D2 := m2
  have iM : IntsAre ys2 (numsL z gs cs) := ints_of (by rw [hy2]; rfl) fun j y e => by
    obtain ⟨t, e'⟩ := hV2 j y e
    have hj : j < 5 := by rw [← hy2]; exact (List.getElem?_eq_some_iff.mp e).1
    refine ⟨_, t, e', ?_⟩
    rw [← num_eq (hb j hj).1 (hb j hj).2]
    simp [numsL, numF, hj]
  have heq : numsL z gs cs = numsL z gs cs := rfl
  have hx : (vT.toArray)[3 * 5]? = none := by
    have hl : vT.length = 15 := by rw [IntsAre.length iT, tapeL_len]
    simp [hl]
  clear m3 m4 m5 nD4
  repeat' (first
    | (k_unfold; (try dsimp only))
    | (k_end; wrow_close)
    | ((with_reducible show wpAny _ _ (subscriptTail (PySem.Expr.Name _ _) (PySem.Expr.Constant _ _ _) (Value.ref _) (Value.int _ _)) _ _ _); (k_here; k_dflt (refine' get_c ?zqN ?zqm ?zqx ?zqz ?zqf ?_; (case zqN => k_asm); (case zqm => k_mem); (case zqx => rfl); (case zqz => decide); (case zqf => decide))))
    | ((with_reducible show wpAny _ _ (compareOp PySem.CmpOp.NotEq (Value.ref _) (Value.ref _)) _ _ _); (k_here; k_dflt (first | (refine' ne_ints_same ?zqN ?zqha ?zqhb ?zqhi ?zqhj ?zqe ?zqhu ?_; (case zqN => k_asm); (case zqha => k_mem); (case zqhb => k_mem); (case zqhi => assumption); (case zqhj => assumption); (case zqe => assumption); (case zqhu => ke_room)) | (refine' ne_ints_same ?zqN ?zqha ?zqhb ?zqhi ?zqhj ?zqe ?zqhu ?_; (case zqN => k_asm); (case zqha => k_mem); (case zqhb => k_mem); (case zqhi => exact IntsAre.nil); (case zqhj => exact IntsAre.nil); (case zqe => rfl); (case zqhu => ke_room)))))
    | ((with_reducible show wpAny _ _ (call (Value.type "list") _) _ _ _); (k_here; (with_reducible show wpAny _ _ (call (Value.type _) [Value.ref _]) _ _ _); k_dflt (refine' list_end_K ?zqhh ?zqF ?zqN ?zqU ?zqhi ?zqhT ?zqhx ?_; (case zqhh => rfl); (case zqF => k_asm); (case zqN => k_asm); (case zqU => walk_at "k_rem"); (case zqhi => assumption); (case zqhT => k_mem); (case zqhx => assumption)); intro S' h' tk' c' F' N' l1; (try k_lt l1); (try dsimp only); k_sweep))
    | ((with_reducible show wpAny _ _ (call (Value.ref _) _) _ _ _); (k_here; (with_reducible show wpAny _ _ (call (Value.ref 35) _) _ _ _); refine halt ?_))
    | ((with_reducible show wpAny _ _ (call (Value.builtin "iter") _) _ _ _); (k_here; k_dflt (refine iter_list (by k_asm) (by k_asm) (by k_mem) ?_); intro I' h' oI' F' N' l1 hi'; (try k_lt l1); (try dsimp only); k_sweep))
    | ((with_reducible show wpAny _ _ (execs _ _) _ _ _); (k_here; (with_reducible show wpAny _ _ (execs [_, _, _, _, _, _] _) _ _ _); refine halt ?_))
    | walk1
    | (dsimp only; walk1)
    | (leave1; walk_say "STEP leave1"; try dsimp only)
    | fail "no step")
  refine unhalt ?_
  rename Fr _ _ _ _ => F8
  rename News _ _ _ _ => N8
  refine hk _ _ m D ys.length ys _ F8 mR ?_ dN iN
  intro p hp
  rcases List.mem_cons.mp hp with rfl | hp
  · exact N8 _ (.tail _ (.tail _ (.tail _ (.tail _ (.head _)))))
  rcases List.mem_cons.mp hp with rfl | hp
  · exact N8 _ (.tail _ (.tail _ (.tail _ (.head _))))
  · exact N8 _ (.tail _ (.tail _ (.tail _ (.tail _ (.tail _ (.tail _ hp))))))
end Mine
namespace Mine
local macro_rules | `(tactic| walk_at "exec Assign cons ListComp") => `(tactic| (k_here; k_dflt (refine LCg.Assign_ListComp_U (F₀ := by k_asm) (by rfl) (by with_unfolding_all rfl) (by with_unfolding_all rfl) (by decide) (by rfl) (by decide) (by rfl) (by rfl) (by rfl) ?_); k_dflt lcg_toSrc))
local macro_rules | `(tactic| walk_at "eval ListComp") => `(tactic| (k_here; k_dflt (refine LCg.ListComp_U (F₀ := by k_asm) (by with_unfolding_all rfl) (by decide) (by rfl) (by decide) (by rfl) ?_); k_dflt lcg_toSrc))

local macro_rules | `(tactic| walk_at "CompSrc") => `(tactic| (refine halt ?_))
section
variable {N₀ M₀ : Nat} {w : World} {mean : ExcName → Option Value} {mg mb : Str → Option Value} {news : List (Addr × Obj)} {f : Addr} {pre : Prop} {args : List Value} {R : Tok → Value} {dp un : Nat} {gd : Option (List Code)} {cn : Str} {cs : Scope} {a : Addr} {ccd : Value} {cl : List (Str × Addr)} {outer : List Env} {A₀ : Around} {base h₀ : Heap} {L : Addr} {m : Str → Option Value} {s : Shared} {Q E : Value → Shared → Prop}
theorem cl_use (c : Cl N₀ M₀ w (looseW Mine.hd.view_39 []) mean mg mb f pre args R)
    (k1 : Below A₀ base outer h₀) (k2 : Fr h₀ L s.heap m) (k3 : (Mine.hd.heap_39 w.params).In h₀) (k4 : News h₀ L s.heap news) (k5 : Top Mine.hd.view_39 (looseW Mine.hd.view_39 []) mean mg mb h₀) (kK : cs.kind = .function)
    (hp : pre) (kd : dp + N₀ < recursionLimit) (ku : un + M₀ < cLine)
    (kR : ∀ (t : Tok) (h' : Heap) (tk' : Nat), Fr h₀ L h' m → News h₀ L h' news → Q (R t) { s with heap := h', toks := tk' }) :
    wpAny (model Challenge.rw_sw0030_01.row.prog w) (ktrTop dp un gd cn cs L a ccd cl outer) (call (.ref f) args) Q E s :=
  c dp un gd cn cs a ccd cl outer A₀ base h₀ L m s Q E k1 k2 k3 k5 kK hp kd ku (fun t h' tk' hk => kR t h' tk' (k2.keeps hk) (k4.grown hk))
end
section
variable {prog : Program} {w : World} {A : Around} {E : Value → Shared → Prop} {s : Shared} {Q : Value → Shared → Prop} {h₀ : Heap} {L D : Addr} {news : List (Addr × Obj)}
theorem item_c3 {x y z : Nat} {t u : Tok} {nm : Str} {p p' : Pos} {kk : Nat} (h : ∀ t' tk, Q (.str ⟨#[z]⟩ t') { s with toks := tk }) : wpAny (model prog w) A (subscriptTail (.Name nm p) (.Constant (.int 2) kk p') (.str ⟨#[x, y, z]⟩ t) (.int 2 u)) Q E s :=
  item_lit (c := z) (by decide) (by rfl) it32 h
theorem chr_n {k : Nat} {t : Tok} (hA : k ≤ 100) (h : ∀ t' tk, Q (.str ⟨#[k]⟩ t') { s with toks := tk }) : wpAny (model prog w) A (call (.builtin "chr") [.int (k : Int) t]) Q E s :=
  PyProof.Rows.chr_of_range (by omega) (by omega) (h _ _)
theorem join3_eq {x y z : Nat} : Txt.join (Str.ofString "") [⟨#[x]⟩, ⟨#[y]⟩, ⟨#[z]⟩] = ⟨#[x, y, z]⟩ := by rfl
theorem join3 {x y z : Nat} {t : Tok} {ys : List Value} (N : News h₀ L s.heap news) (hm : (D, LCg.lst ys) ∈ news) (hi : StrsAre ys [⟨#[x]⟩, ⟨#[y]⟩, ⟨#[z]⟩]) (h : ∀ t' tk, Q (.str ⟨#[x, y, z]⟩ t') { s with toks := tk }) :
    wpAny (model prog w) A (call (.builtin "str.join") [.str (Str.ofString "") t, .ref D]) Q E s := by
  refine PyProof.Rows.join_listW (ys := [⟨#[x]⟩, ⟨#[y]⟩, ⟨#[z]⟩]) ⟨_, (N _ hm).1, rfl, _, rfl⟩ hi (by decide) (by show 1 + (1 + (1 + 0)) + 3 ≤ 1048576; decide) fun t' k => ?_
  rw [join3_eq]; exact h t' k
end
noncomputable def RowsIn (nw : List (Addr × Obj)) (vR : List Value) (ws ls : List Str) : Prop :=
  ∀ (i : Nat) (v : Value), vR[i]? = some v → ∃ r A B C p q s', v = .ref r ∧ (r, PySem.W.listOf #[.int ((A : Nat) : Int) p, .int ((B : Nat) : Int) q, .int ((C : Nat) : Int) s'] 0) ∈ nw ∧ ws[i]? = some ⟨#[A, B, C]⟩ ∧ ls[i]? = some (leaf C) ∧ A ≤ 100 ∧ B ≤ 100 ∧ (33 ≤ C ∧ C ≤ 41)
noncomputable def htsOf (ns : List Int) : List Int := [ht (ns.getD 0 0) (ns.getD 1 0), ht (ns.getD 1 0) (ns.getD 2 0), ht (ns.getD 2 0) (ns.getD 3 0), ht (ns.getD 3 0) (ns.getD 4 0)]
set_option maxRecDepth 100000 in
set_option maxHeartbeats 8000000 in
theorem seg7 (w : World) (mean mg mb) : ∀ (fa : Addr) (cd : Value) (h₀ : Heap) (s : Shared) (m : Str → Option Value) (Qf : Flow → Shared → Prop) (o5 : Obj) (lN lR : Addr) (nN nR : Nat) (vN vR : List Value) (ns : List Int) (ws ls : List Str) (nw : List (Addr × Obj)),
    Below callerA h₀ [] h₀ → Fr h₀ h₀.objs.size s.heap m → (Mine.hd.heap_39 w.params).In h₀ → Top Mine.hd.view_39 (looseW Mine.hd.view_39 []) mean mg mb h₀ → m "rows" = some (.ref lR) → News h₀ h₀.objs.size s.heap nw → (h₀.objs.size + 1 + 1 + 1 + 1 + 1, o5) ∈ nw → (lN, PySem.W.listOf vN.toArray nN) ∈ nw → (lR, PySem.W.listOf vR.toArray nR) ∈ nw →
    o5.data = .cell (some (.ref lN)) → IntsAre vN ns → ns.length = 5 → (∀ k, k < 5 → 0 ≤ ns.getD k 0 ∧ ns.getD k 0 ≤ 1000000) → vR.length = 5 → ws.length = 5 → ls.length = 5 → RowsIn nw vR ws ls →
    (∀ (h' : Heap) (tk' : Nat) (m' : Str → Option Value) (lH lW lL : Addr) (nH nW nL : Nat) (vH vW vL : List Value), Fr h₀ h₀.objs.size h' m' → m' "heights" = some (.ref lH) → m' "words" = some (.ref lW) → m' "leaves" = some (.ref lL) →
      News h₀ h₀.objs.size h' ((lL, PySem.W.listOf vL.toArray nL) :: (lW, PySem.W.listOf vW.toArray nW) :: (lH, PySem.W.listOf vH.toArray nH) :: nw) → IntsAre vH (htsOf ns) → StrsAre vW ws → StrsAre vL ls →
      wpAny (model Challenge.rw_sw0030_01.row.prog w) (callerA.deeper (lawEnv h₀.objs.size fa cd)) (execs (lawItem.body.drop 18) (lawEnv h₀.objs.size fa cd)) Qf (fun _ _ => False) { s with heap := h', toks := tk' }) →
    wpAny (model Challenge.rw_sw0030_01.row.prog w) (callerA.deeper (lawEnv h₀.objs.size fa cd)) (execs (lawItem.body.drop 15) (lawEnv h₀.objs.size fa cd)) Qf (fun _ _ => False) s := by
  dsimp only [lawEnv, lawItem, itemOf, List.drop]
  k_fill
  intro fa cd h₀ s m Qf o5 lN lR nN nR vN vR ns ws ls nw K0 F0 X0 T0 mR N0 c5 mN mRl d5 iN hl5 hns hR5 hw5 hls5 rin hk
  repeat' (first
    | (k_unfold; (try dsimp only))
    | (k_end; wrow_close)
    | ((with_reducible show wpAny _ _ (subscriptTail (PySem.Expr.Name _ _) (PySem.Expr.BinOp _ _ _ _) (Value.ref _) (Value.int _ _)) _ _ _); (k_here; k_dflt (refine' rowi_b ?zqN ?zqm ?zqhi ?zqe ?zqhj ?zqhl ?_; (case zqN => k_asm); (case zqm => k_mem); (case zqhi => assumption); (case zqe => exact idx_b); (case zqhj => omega); (case zqhl => omega)); intro _; (try dsimp only)))
    | ((with_reducible show wpAny _ _ (subscriptTail (PySem.Expr.Name _ _) (PySem.Expr.Name _ _) (Value.ref _) (Value.int _ _)) _ _ _); (k_here; k_dflt (refine' rowi_n ?zqN ?zqm ?zqhi ?zqe ?zqhj ?zqhl ?_; (case zqN => k_asm); (case zqm => k_mem); (case zqhi => assumption); (case zqe => exact idx_a); (case zqhj => omega); (case zqhl => omega)); intro _; (try dsimp only)))
    | ((with_reducible show wpAny _ _ (call (Value.builtin "str.join") _) _ _ _); (k_here; k_dflt (refine' join3 ?zqN ?zqm ?zqhi ?_; (case zqN => k_asm); (case zqm => k_mem); (case zqhi => assumption)); intro _ _; (try dsimp only)))
    | ((with_reducible show wpAny _ _ (call (Value.builtin "chr") _) _ _ _); (k_here; (with_reducible refine' chr_n ?zqa ?_; (case zqa => assumption)); intro _ _; (try dsimp only)))
    | ((with_reducible show wpAny _ _ (subscriptTail (PySem.Expr.Name _ _) (PySem.Expr.Constant _ _ _) (Value.str _ _) (Value.int _ _)) _ _ _); (k_here; (with_reducible refine' item_c3 ?_); intro _ _; (try dsimp only)))
    | ((with_reducible show wpAny _ _ (call (Value.ref _) _) _ _ _); (first | (k_here; (with_reducible show wpAny _ _ (call (Value.ref 115) _) _ _ _); k_dflt (refine' cl_use (leaf_c _ _ _ _ _ _ ?zqhc) ?zqk1 ?zqk2 ?zqk3 ?zqk4 ?zqk5 ?zqkK ?zqhp ?zqkd ?zqku ?_; (case zqk1 => k_asm); (case zqk2 => k_asm); (case zqk3 => k_asm); (case zqk4 => k_asm); (case zqk5 => k_asm); (case zqkK => exact rfl); (case zqhp => exact True.intro); (case zqhc => assumption); (case zqkd => ktr_room); (case zqku => ktr_units)); intro t' h' tk' F' N'; (try dsimp only); k_sweep) | (k_here; (with_reducible show wpAny _ _ (call (Value.ref 108) _) _ _ _); k_dflt (refine' cl_use (height_c _ _ _ _ _ _ _ _ ?zqha ?zqhb) ?zqk1 ?zqk2 ?zqk3 ?zqk4 ?zqk5 ?zqkK ?zqhp ?zqkd ?zqku ?_; (case zqk1 => k_asm); (case zqk2 => k_asm); (case zqk3 => k_asm); (case zqk4 => k_asm); (case zqk5 => k_asm); (case zqkK => exact rfl); (case zqhp => exact True.intro); (case zqha => assumption); (case zqhb => assumption); (case zqkd => ktr_room); (case zqku => ktr_units)); intro t' h' tk' F' N'; (try dsimp only); k_sweep)))
    | ((with_reducible show wpAny _ _ (execs _ _) _ _ _); (k_here; (with_reducible show wpAny _ _ (execs [_, _, _] _) _ _ _); refine halt ?_))
    | walk1
    | (dsimp only; walk1)
    | (leave1; walk_say "STEP leave1"; try dsimp only)
    | fail "no step")
  refine unhalt ?_
  refine LCg.CompSrc.range (n := 4) rfl (by k_asm) (by k_asm) (by assumption) (by decide) (by rfl) (by decide) ?_
  intro g
  refine compV (V := fun i y => ∃ t, y = .int (ht (ns.getD i 0) (ns.getD (i + 1) 0)) t) True.intro ?_ ?_
  · intro i v I C D oI oC ys m2 h2 tk2 hi hP hC hx F2 N2 off ne
    obtain ⟨t9, rfl⟩ := hP
    have q0 := hns i (by omega)
    have q1 := hns (i + 1) (by omega)
    show wpAny _ _ _ _ _ _
    k_fold
    repeat' (first
      | (k_unfold; (try dsimp only))
      | (k_end; wrow_close)
      | ((with_reducible show wpAny _ _ (subscriptTail (PySem.Expr.Name _ _) (PySem.Expr.BinOp _ _ _ _) (Value.ref _) (Value.int _ _)) _ _ _); (k_here; k_dflt (refine' rowi_b ?zqN ?zqm ?zqhi ?zqe ?zqhj ?zqhl ?_; (case zqN => k_asm); (case zqm => k_mem); (case zqhi => assumption); (case zqe => exact idx_b); (case zqhj => omega); (case zqhl => omega)); intro _; (try dsimp only)))
      | ((with_reducible show wpAny _ _ (subscriptTail (PySem.Expr.Name _ _) (PySem.Expr.Name _ _) (Value.ref _) (Value.int _ _)) _ _ _); (k_here; k_dflt (refine' rowi_n ?zqN ?zqm ?zqhi ?zqe ?zqhj ?zqhl ?_; (case zqN => k_asm); (case zqm => k_mem); (case zqhi => assumption); (case zqe => exact idx_a); (case zqhj => omega); (case zqhl => omega)); intro _; (try dsimp only)))
      | ((with_reducible show wpAny _ _ (call (Value.builtin "str.join") _) _ _ _); (k_here; k_dflt (refine' join3 ?zqN ?zqm ?zqhi ?_; (case zqN => k_asm); (case zqm => k_mem); (case zqhi => assumption)); intro _ _; (try dsimp only)))
      | ((with_reducible show wpAny _ _ (call (Value.builtin "chr") _) _ _ _); (k_here; (with_reducible refine' chr_n ?zqa ?_; (case zqa => assumption)); intro _ _; (try dsimp only)))
      | ((with_reducible show wpAny _ _ (subscriptTail (PySem.Expr.Name _ _) (PySem.Expr.Constant _ _ _) (Value.str _ _) (Value.int _ _)) _ _ _); (k_here; (with_reducible refine' item_c3 ?_); intro _ _; (try dsimp only)))
      | ((with_reducible show wpAny _ _ (call (Value.ref _) _) _ _ _); (first | (k_here; (with_reducible show wpAny _ _ (call (Value.ref 115) _) _ _ _); k_dflt (refine' cl_use (leaf_c _ _ _ _ _ _ ?zqhc) ?zqk1 ?zqk2 ?zqk3 ?zqk4 ?zqk5 ?zqkK ?zqhp ?zqkd ?zqku ?_; (case zqk1 => k_asm); (case zqk2 => k_asm); (case zqk3 => k_asm); (case zqk4 => k_asm); (case zqk5 => k_asm); (case zqkK => exact rfl); (case zqhp => exact True.intro); (case zqhc => assumption); (case zqkd => ktr_room); (case zqku => ktr_units)); intro t' h' tk' F' N'; (try dsimp only); k_sweep) | (k_here; (with_reducible show wpAny _ _ (call (Value.ref 108) _) _ _ _); k_dflt (refine' cl_use (height_c _ _ _ _ _ _ _ _ ?zqha ?zqhb) ?zqk1 ?zqk2 ?zqk3 ?zqk4 ?zqk5 ?zqkK ?zqhp ?zqkd ?zqku ?_; (case zqk1 => k_asm); (case zqk2 => k_asm); (case zqk3 => k_asm); (case zqk4 => k_asm); (case zqk5 => k_asm); (case zqkK => exact rfl); (case zqhp => exact True.intro); (case zqha => assumption); (case zqhb => assumption); (case zqkd => ktr_room); (case zqku => ktr_units)); intro t' h' tk' F' N'; (try dsimp only); k_sweep)))
      | ((with_reducible show wpAny _ _ (execs _ _) _ _ _); (k_here; (with_reducible show wpAny _ _ (execs [_, _, _] _) _ _ _); refine halt ?_))
      | walk1
      | (dsimp only; walk1)
      | (leave1; walk_say "STEP leave1"; try dsimp only)
      | fail "no step")
    exact TurnEnd.mk ⟨_, rfl⟩ (by assumption) (by assumption)
  intro ys1 hy1 hV1
  unfold LCg.FinA
  intro lH h3 tk3 F3 N3 off3
  repeat' (first
    | (k_unfold; (try dsimp only))
    | (k_end; wrow_close)
    | ((with_reducible show wpAny _ _ (subscriptTail (PySem.Expr.Name _ _) (PySem.Expr.BinOp _ _ _ _) (Value.ref _) (Value.int _ _)) _ _ _); (k_here; k_dflt (refine' rowi_b ?zqN ?zqm ?zqhi ?zqe ?zqhj ?zqhl ?_; (case zqN => k_asm); (case zqm => k_mem); (case zqhi => assumption); (case zqe => exact idx_b); (case zqhj => omega); (case zqhl => omega)); intro _; (try dsimp only)))
    | ((with_reducible show wpAny _ _ (subscriptTail (PySem.Expr.Name _ _) (PySem.Expr.Name _ _) (Value.ref _) (Value.int _ _)) _ _ _); (k_here; k_dflt (refine' rowi_n ?zqN ?zqm ?zqhi ?zqe ?zqhj ?zqhl ?_; (case zqN => k_asm); (case zqm => k_mem); (case zqhi => assumption); (case zqe => exact idx_a); (case zqhj => omega); (case zqhl => omega)); intro _; (try dsimp only)))
    | ((with_reducible show wpAny _ _ (call (Value.builtin "str.join") _) _ _ _); (k_here; k_dflt (refine' join3 ?zqN ?zqm ?zqhi ?_; (case zqN => k_asm); (case zqm => k_mem); (case zqhi => assumption)); intro _ _; (try dsimp only)))
    | ((with_reducible show wpAny _ _ (call (Value.builtin "chr") _) _ _ _); (k_here; (with_reducible refine' chr_n ?zqa ?_; (case zqa => assumption)); intro _ _; (try dsimp only)))
    | ((with_reducible show wpAny _ _ (subscriptTail (PySem.Expr.Name _ _) (PySem.Expr.Constant _ _ _) (Value.str _ _) (Value.int _ _)) _ _ _); (k_here; (with_reducible refine' item_c3 ?_); intro _ _; (try dsimp only)))
    | ((with_reducible show wpAny _ _ (call (Value.ref _) _) _ _ _); (first | (k_here; (with_reducible show wpAny _ _ (call (Value.ref 115) _) _ _ _); k_dflt (refine' cl_use (leaf_c _ _ _ _ _ _ ?zqhc) ?zqk1 ?zqk2 ?zqk3 ?zqk4 ?zqk5 ?zqkK ?zqhp ?zqkd ?zqku ?_; (case zqk1 => k_asm); (case zqk2 => k_asm); (case zqk3 => k_asm); (case zqk4 => k_asm); (case zqk5 => k_asm); (case zqkK => exact rfl); (case zqhp => exact True.intro); (case zqhc => assumption); (case zqkd => ktr_room); (case zqku => ktr_units)); intro t' h' tk' F' N'; (try dsimp only); k_sweep) | (k_here; (with_reducible show wpAny _ _ (call (Value.ref 108) _) _ _ _); k_dflt (refine' cl_use (height_c _ _ _ _ _ _ _ _ ?zqha ?zqhb) ?zqk1 ?zqk2 ?zqk3 ?zqk4 ?zqk5 ?zqkK ?zqhp ?zqkd ?zqku ?_; (case zqk1 => k_asm); (case zqk2 => k_asm); (case zqk3 => k_asm); (case zqk4 => k_asm); (case zqk5 => k_asm); (case zqkK => exact rfl); (case zqhp => exact True.intro); (case zqha => assumption); (case zqhb => assumption); (case zqkd => ktr_room); (case zqku => ktr_units)); intro t' h' tk' F' N'; (try dsimp only); k_sweep)))
    | ((with_reducible show wpAny _ _ (execs _ _) _ _ _); (k_here; (with_reducible show wpAny _ _ (execs [_, _, _] _) _ _ _); refine halt ?_))
    | walk1
    | (dsimp only; walk1)
    | (leave1; walk_say "STEP leave1"; try dsimp only)
    | fail "no step")
  refine unhalt ?_
  refine LCg.CompSrc.ledger rfl (by k_asm) (by k_asm) (List.mem_cons_of_mem _ mRl) (by show vR.toArray.size ≤ _; rw [List.size_toArray, hR5]; decide) ?_
  intro g2
  rw [show vR.toArray.size = 5 from by rw [List.size_toArray, hR5]]
  refine compV (V := fun i y => ∃ c t, y = .str c t ∧ ws[i]? = some c) (.inr ⟨_, List.mem_cons_of_mem _ mRl, rfl, _, rfl⟩) ?_ ?_
  · intro i v I C D oI oC ys m2 h2 tk2 hi hP hC hx F2 N2 off ne
    obtain ⟨r, A, B, C0, p, q, s', rfl, hr, hw, hl, hA, hB, hC'⟩ := rin i v (by simpa using hP)
    show wpAny _ _ _ _ _ _
    k_fold
    repeat' (first
      | (k_unfold; (try dsimp only))
      | (k_end; wrow_close)
      | ((with_reducible show wpAny _ _ (subscriptTail (PySem.Expr.Name _ _) (PySem.Expr.BinOp _ _ _ _) (Value.ref _) (Value.int _ _)) _ _ _); (k_here; k_dflt (refine' rowi_b ?zqN ?zqm ?zqhi ?zqe ?zqhj ?zqhl ?_; (case zqN => k_asm); (case zqm => k_mem); (case zqhi => assumption); (case zqe => exact idx_b); (case zqhj => omega); (case zqhl => omega)); intro _; (try dsimp only)))
      | ((with_reducible show wpAny _ _ (subscriptTail (PySem.Expr.Name _ _) (PySem.Expr.Name _ _) (Value.ref _) (Value.int _ _)) _ _ _); (k_here; k_dflt (refine' rowi_n ?zqN ?zqm ?zqhi ?zqe ?zqhj ?zqhl ?_; (case zqN => k_asm); (case zqm => k_mem); (case zqhi => assumption); (case zqe => exact idx_a); (case zqhj => omega); (case zqhl => omega)); intro _; (try dsimp only)))
      | ((with_reducible show wpAny _ _ (call (Value.builtin "str.join") _) _ _ _); (k_here; k_dflt (refine' join3 ?zqN ?zqm ?zqhi ?_; (case zqN => k_asm); (case zqm => k_mem); (case zqhi => assumption)); intro _ _; (try dsimp only)))
      | ((with_reducible show wpAny _ _ (call (Value.builtin "chr") _) _ _ _); (k_here; (with_reducible refine' chr_n ?zqa ?_; (case zqa => assumption)); intro _ _; (try dsimp only)))
      | ((with_reducible show wpAny _ _ (subscriptTail (PySem.Expr.Name _ _) (PySem.Expr.Constant _ _ _) (Value.str _ _) (Value.int _ _)) _ _ _); (k_here; (with_reducible refine' item_c3 ?_); intro _ _; (try dsimp only)))
      | ((with_reducible show wpAny _ _ (call (Value.ref _) _) _ _ _); (first | (k_here; (with_reducible show wpAny _ _ (call (Value.ref 115) _) _ _ _); k_dflt (refine' cl_use (leaf_c _ _ _ _ _ _ ?zqhc) ?zqk1 ?zqk2 ?zqk3 ?zqk4 ?zqk5 ?zqkK ?zqhp ?zqkd ?zqku ?_; (case zqk1 => k_asm); (case zqk2 => k_asm); (case zqk3 => k_asm); (case zqk4 => k_asm); (case zqk5 => k_asm); (case zqkK => exact rfl); (case zqhp => exact True.intro); (case zqhc => assumption); (case zqkd => ktr_room); (case zqku => ktr_units)); intro t' h' tk' F' N'; (try dsimp only); k_sweep) | (k_here; (with_reducible show wpAny _ _ (call (Value.ref 108) _) _ _ _); k_dflt (refine' cl_use (height_c _ _ _ _ _ _ _ _ ?zqha ?zqhb) ?zqk1 ?zqk2 ?zqk3 ?zqk4 ?zqk5 ?zqkK ?zqhp ?zqkd ?zqku ?_; (case zqk1 => k_asm); (case zqk2 => k_asm); (case zqk3 => k_asm); (case zqk4 => k_asm); (case zqk5 => k_asm); (case zqkK => exact rfl); (case zqhp => exact True.intro); (case zqha => assumption); (case zqhb => assumption); (case zqkd => ktr_room); (case zqku => ktr_units)); intro t' h' tk' F' N'; (try dsimp only); k_sweep)))
      | ((with_reducible show wpAny _ _ (execs _ _) _ _ _); (k_here; (with_reducible show wpAny _ _ (execs [_, _, _] _) _ _ _); refine halt ?_))
      | walk1
      | (dsimp only; walk1)
      | (leave1; walk_say "STEP leave1"; try dsimp only)
      | fail "no step")
    refine unhalt ?_
    refine LCg.CompSrc.ledger rfl (by k_asm) (by k_asm) (by k_mem) (by show (3 : Nat) ≤ _; decide) ?_
    intro g4
    refine compV (n := 3) (V := fun j y => ∃ c t, y = .str c t ∧ [(⟨#[A]⟩ : Str), ⟨#[B]⟩, ⟨#[C0]⟩][j]? = some c) (.inr ⟨_, by k_mem, rfl, _, rfl⟩) ?_ ?_
    · intro j v2 I2 C2 D2 oI2 oC2 ys2 m4 h4 tk4 hj hP2 hC2 hx2 F4 N4 off4 ne4
      have : ∃ (k : Nat) (t : Tok), v2 = .int (k : Int) t ∧ k ≤ 100 ∧ [(⟨#[A]⟩ : Str), ⟨#[B]⟩, ⟨#[C0]⟩][j]? = some ⟨#[k]⟩ := by
        match j, hP2 with
        | 0, e => cases e; exact ⟨_, _, rfl, hA, rfl⟩
        | 1, e => cases e; exact ⟨_, _, rfl, hB, rfl⟩
        | 2, e => cases e; exact ⟨_, _, rfl, by omega, rfl⟩
      obtain ⟨k, t, rfl, hk100, hkw⟩ := this
      show wpAny _ _ _ _ _ _
      k_fold
      repeat' (first
        | (k_unfold; (try dsimp only))
        | (k_end; wrow_close)
        | ((with_reducible show wpAny _ _ (subscriptTail (PySem.Expr.Name _ _) (PySem.Expr.BinOp _ _ _ _) (Value.ref _) (Value.int _ _)) _ _ _); (k_here; k_dflt (refine' rowi_b ?zqN ?zqm ?zqhi ?zqe ?zqhj ?zqhl ?_; (case zqN => k_asm); (case zqm => k_mem); (case zqhi => assumption); (case zqe => exact idx_b); (case zqhj => omega); (case zqhl => omega)); intro _; (try dsimp only)))
        | ((with_reducible show wpAny _ _ (subscriptTail (PySem.Expr.Name _ _) (PySem.Expr.Name _ _) (Value.ref _) (Value.int _ _)) _ _ _); (k_here; k_dflt (refine' rowi_n ?zqN ?zqm ?zqhi ?zqe ?zqhj ?zqhl ?_; (case zqN => k_asm); (case zqm => k_mem); (case zqhi => assumption); (case zqe => exact idx_a); (case zqhj => omega); (case zqhl => omega)); intro _; (try dsimp only)))
        | ((with_reducible show wpAny _ _ (call (Value.builtin "str.join") _) _ _ _); (k_here; k_dflt (refine' join3 ?zqN ?zqm ?zqhi ?_; (case zqN => k_asm); (case zqm => k_mem); (case zqhi => assumption)); intro _ _; (try dsimp only)))
        | ((with_reducible show wpAny _ _ (call (Value.builtin "chr") _) _ _ _); (k_here; (with_reducible refine' chr_n ?zqa ?_; (case zqa => assumption)); intro _ _; (try dsimp only)))
        | ((with_reducible show wpAny _ _ (subscriptTail (PySem.Expr.Name _ _) (PySem.Expr.Constant _ _ _) (Value.str _ _) (Value.int _ _)) _ _ _); (k_here; (with_reducible refine' item_c3 ?_); intro _ _; (try dsimp only)))
        | ((with_reducible show wpAny _ _ (call (Value.ref _) _) _ _ _); (first | (k_here; (with_reducible show wpAny _ _ (call (Value.ref 115) _) _ _ _); k_dflt (refine' cl_use (leaf_c _ _ _ _ _ _ ?zqhc) ?zqk1 ?zqk2 ?zqk3 ?zqk4 ?zqk5 ?zqkK ?zqhp ?zqkd ?zqku ?_; (case zqk1 => k_asm); (case zqk2 => k_asm); (case zqk3 => k_asm); (case zqk4 => k_asm); (case zqk5 => k_asm); (case zqkK => exact rfl); (case zqhp => exact True.intro); (case zqhc => assumption); (case zqkd => ktr_room); (case zqku => ktr_units)); intro t' h' tk' F' N'; (try dsimp only); k_sweep) | (k_here; (with_reducible show wpAny _ _ (call (Value.ref 108) _) _ _ _); k_dflt (refine' cl_use (height_c _ _ _ _ _ _ _ _ ?zqha ?zqhb) ?zqk1 ?zqk2 ?zqk3 ?zqk4 ?zqk5 ?zqkK ?zqhp ?zqkd ?zqku ?_; (case zqk1 => k_asm); (case zqk2 => k_asm); (case zqk3 => k_asm); (case zqk4 => k_asm); (case zqk5 => k_asm); (case zqkK => exact rfl); (case zqhp => exact True.intro); (case zqha => assumption); (case zqhb => assumption); (case zqkd => ktr_room); (case zqku => ktr_units)); intro t' h' tk' F' N'; (try dsimp only); k_sweep)))
        | ((with_reducible show wpAny _ _ (execs _ _) _ _ _); (k_here; (with_reducible show wpAny _ _ (execs [_, _, _] _) _ _ _); refine halt ?_))
        | walk1
        | (dsimp only; walk1)
        | (leave1; walk_say "STEP leave1"; try dsimp only)
        | fail "no step")
      exact TurnEnd.mk ⟨_, _, rfl, hkw⟩ (by assumption) (by assumption)
    intro ys5 hy5 hV5
    unfold LCg.FinE
    intro D5 h5 tk5 F5 N5 off5
    have i5 := strs_of (xs := [(⟨#[A]⟩ : Str), ⟨#[B]⟩, ⟨#[C0]⟩]) hy5 hV5
    repeat' (first
      | (k_unfold; (try dsimp only))
      | (k_end; wrow_close)
      | ((with_reducible show wpAny _ _ (subscriptTail (PySem.Expr.Name _ _) (PySem.Expr.BinOp _ _ _ _) (Value.ref _) (Value.int _ _)) _ _ _); (k_here; k_dflt (refine' rowi_b ?zqN ?zqm ?zqhi ?zqe ?zqhj ?zqhl ?_; (case zqN => k_asm); (case zqm => k_mem); (case zqhi => assumption); (case zqe => exact idx_b); (case zqhj => omega); (case zqhl => omega)); intro _; (try dsimp only)))
      | ((with_reducible show wpAny _ _ (subscriptTail (PySem.Expr.Name _ _) (PySem.Expr.Name _ _) (Value.ref _) (Value.int _ _)) _ _ _); (k_here; k_dflt (refine' rowi_n ?zqN ?zqm ?zqhi ?zqe ?zqhj ?zqhl ?_; (case zqN => k_asm); (case zqm => k_mem); (case zqhi => assumption); (case zqe => exact idx_a); (case zqhj => omega); (case zqhl => omega)); intro _; (try dsimp only)))
      | ((with_reducible show wpAny _ _ (call (Value.builtin "str.join") _) _ _ _); (k_here; k_dflt (refine' join3 ?zqN ?zqm ?zqhi ?_; (case zqN => k_asm); (case zqm => k_mem); (case zqhi => assumption)); intro _ _; (try dsimp only)))
      | ((with_reducible show wpAny _ _ (call (Value.builtin "chr") _) _ _ _); (k_here; (with_reducible refine' chr_n ?zqa ?_; (case zqa => assumption)); intro _ _; (try dsimp only)))
      | ((with_reducible show wpAny _ _ (subscriptTail (PySem.Expr.Name _ _) (PySem.Expr.Constant _ _ _) (Value.str _ _) (Value.int _ _)) _ _ _); (k_here; (with_reducible refine' item_c3 ?_); intro _ _; (try dsimp only)))
      | ((with_reducible show wpAny _ _ (call (Value.ref _) _) _ _ _); (first | (k_here; (with_reducible show wpAny _ _ (call (Value.ref 115) _) _ _ _); k_dflt (refine' cl_use (leaf_c _ _ _ _ _ _ ?zqhc) ?zqk1 ?zqk2 ?zqk3 ?zqk4 ?zqk5 ?zqkK ?zqhp ?zqkd ?zqku ?_; (case zqk1 => k_asm); (case zqk2 => k_asm); (case zqk3 => k_asm); (case zqk4 => k_asm); (case zqk5 => k_asm); (case zqkK => exact rfl); (case zqhp => exact True.intro); (case zqhc => assumption); (case zqkd => ktr_room); (case zqku => ktr_units)); intro t' h' tk' F' N'; (try dsimp only); k_sweep) | (k_here; (with_reducible show wpAny _ _ (call (Value.ref 108) _) _ _ _); k_dflt (refine' cl_use (height_c _ _ _ _ _ _ _ _ ?zqha ?zqhb) ?zqk1 ?zqk2 ?zqk3 ?zqk4 ?zqk5 ?zqkK ?zqhp ?zqkd ?zqku ?_; (case zqk1 => k_asm); (case zqk2 => k_asm); (case zqk3 => k_asm); (case zqk4 => k_asm); (case zqk5 => k_asm); (case zqkK => exact rfl); (case zqhp => exact True.intro); (case zqha => assumption); (case zqhb => assumption); (case zqkd => ktr_room); (case zqku => ktr_units)); intro t' h' tk' F' N'; (try dsimp only); k_sweep)))
      | ((with_reducible show wpAny _ _ (execs _ _) _ _ _); (k_here; (with_reducible show wpAny _ _ (execs [_, _, _] _) _ _ _); refine halt ?_))
      | walk1
      | (dsimp only; walk1)
      | (leave1; walk_say "STEP leave1"; try dsimp only)
      | fail "no step")
    exact TurnEnd.mk ⟨_, _, rfl, hw⟩ (by assumption) (fun p hp => N5 p (.tail _ hp))
  intro ys3 hy3 hV3
  unfold LCg.FinA
  intro lW h6 tk6 F6 N6 off6
  repeat' (first
    | (k_unfold; (try dsimp only))
    | (k_end; wrow_close)
    | ((with_reducible show wpAny _ _ (subscriptTail (PySem.Expr.Name _ _) (PySem.Expr.BinOp _ _ _ _) (Value.ref _) (Value.int _ _)) _ _ _); (k_here; k_dflt (refine' rowi_b ?zqN ?zqm ?zqhi ?zqe ?zqhj ?zqhl ?_; (case zqN => k_asm); (case zqm => k_mem); (case zqhi => assumption); (case zqe => exact idx_b); (case zqhj => omega); (case zqhl => omega)); intro _; (try dsimp only)))
    | ((with_reducible show wpAny _ _ (subscriptTail (PySem.Expr.Name _ _) (PySem.Expr.Name _ _) (Value.ref _) (Value.int _ _)) _ _ _); (k_here; k_dflt (refine' rowi_n ?zqN ?zqm ?zqhi ?zqe ?zqhj ?zqhl ?_; (case zqN => k_asm); (case zqm => k_mem); (case zqhi => assumption); (case zqe => exact idx_a); (case zqhj => omega); (case zqhl => omega)); intro _; (try dsimp only)))
    | ((with_reducible show wpAny _ _ (call (Value.builtin "str.join") _) _ _ _); (k_here; k_dflt (refine' join3 ?zqN ?zqm ?zqhi ?_; (case zqN => k_asm); (case zqm => k_mem); (case zqhi => assumption)); intro _ _; (try dsimp only)))
    | ((with_reducible show wpAny _ _ (call (Value.builtin "chr") _) _ _ _); (k_here; (with_reducible refine' chr_n ?zqa ?_; (case zqa => assumption)); intro _ _; (try dsimp only)))
    | ((with_reducible show wpAny _ _ (subscriptTail (PySem.Expr.Name _ _) (PySem.Expr.Constant _ _ _) (Value.str _ _) (Value.int _ _)) _ _ _); (k_here; (with_reducible refine' item_c3 ?_); intro _ _; (try dsimp only)))
    | ((with_reducible show wpAny _ _ (call (Value.ref _) _) _ _ _); (first | (k_here; (with_reducible show wpAny _ _ (call (Value.ref 115) _) _ _ _); k_dflt (refine' cl_use (leaf_c _ _ _ _ _ _ ?zqhc) ?zqk1 ?zqk2 ?zqk3 ?zqk4 ?zqk5 ?zqkK ?zqhp ?zqkd ?zqku ?_; (case zqk1 => k_asm); (case zqk2 => k_asm); (case zqk3 => k_asm); (case zqk4 => k_asm); (case zqk5 => k_asm); (case zqkK => exact rfl); (case zqhp => exact True.intro); (case zqhc => assumption); (case zqkd => ktr_room); (case zqku => ktr_units)); intro t' h' tk' F' N'; (try dsimp only); k_sweep) | (k_here; (with_reducible show wpAny _ _ (call (Value.ref 108) _) _ _ _); k_dflt (refine' cl_use (height_c _ _ _ _ _ _ _ _ ?zqha ?zqhb) ?zqk1 ?zqk2 ?zqk3 ?zqk4 ?zqk5 ?zqkK ?zqhp ?zqkd ?zqku ?_; (case zqk1 => k_asm); (case zqk2 => k_asm); (case zqk3 => k_asm); (case zqk4 => k_asm); (case zqk5 => k_asm); (case zqkK => exact rfl); (case zqhp => exact True.intro); (case zqha => assumption); (case zqhb => assumption); (case zqkd => ktr_room); (case zqku => ktr_units)); intro t' h' tk' F' N'; (try dsimp only); k_sweep)))
    | ((with_reducible show wpAny _ _ (execs _ _) _ _ _); (k_here; (with_reducible show wpAny _ _ (execs [_, _, _] _) _ _ _); refine halt ?_))
    | walk1
    | (dsimp only; walk1)
    | (leave1; walk_say "STEP leave1"; try dsimp only)
    | fail "no step")
  refine unhalt ?_
  have iW := strs_of (xs := ws) (by rw [hy3, hw5]) hV3
  refine LCg.CompSrc.ledger rfl (by k_asm) (by k_asm) (List.Mem.head _) (by show ys3.toArray.size ≤ _; rw [List.size_toArray, hy3]; decide) ?_
  intro g7
  rw [show ys3.toArray.size = 5 from by rw [List.size_toArray, hy3]]
  refine compV (V := fun i y => ∃ c t, y = .str c t ∧ ls[i]? = some c) (.inr ⟨_, List.Mem.head _, rfl, _, rfl⟩) ?_ ?_
  · intro i v I C D oI oC ys m2 h2 tk2 hi hP hC hx F2 N2 off ne
    obtain ⟨c, t, rfl, hc⟩ := StrsAre.item iW i v (by simpa using hP)
    obtain ⟨r, A, B, C0, p, q, s', e0, hr, hw, hl, hA, hB, hC'⟩ := rin i (vR[i]'(by omega)) (List.getElem?_eq_getElem (by omega))
    rw [hw] at hc
    injection hc with hc
    subst hc
    show wpAny _ _ _ _ _ _
    k_fold
    repeat' (first
      | (k_unfold; (try dsimp only))
      | (k_end; wrow_close)
      | ((with_reducible show wpAny _ _ (subscriptTail (PySem.Expr.Name _ _) (PySem.Expr.BinOp _ _ _ _) (Value.ref _) (Value.int _ _)) _ _ _); (k_here; k_dflt (refine' rowi_b ?zqN ?zqm ?zqhi ?zqe ?zqhj ?zqhl ?_; (case zqN => k_asm); (case zqm => k_mem); (case zqhi => assumption); (case zqe => exact idx_b); (case zqhj => omega); (case zqhl => omega)); intro _; (try dsimp only)))
      | ((with_reducible show wpAny _ _ (subscriptTail (PySem.Expr.Name _ _) (PySem.Expr.Name _ _) (Value.ref _) (Value.int _ _)) _ _ _); (k_here; k_dflt (refine' rowi_n ?zqN ?zqm ?zqhi ?zqe ?zqhj ?zqhl ?_; (case zqN => k_asm); (case zqm => k_mem); (case zqhi => assumption); (case zqe => exact idx_a); (case zqhj => omega); (case zqhl => omega)); intro _; (try dsimp only)))
      | ((with_reducible show wpAny _ _ (call (Value.builtin "str.join") _) _ _ _); (k_here; k_dflt (refine' join3 ?zqN ?zqm ?zqhi ?_; (case zqN => k_asm); (case zqm => k_mem); (case zqhi => assumption)); intro _ _; (try dsimp only)))
      | ((with_reducible show wpAny _ _ (call (Value.builtin "chr") _) _ _ _); (k_here; (with_reducible refine' chr_n ?zqa ?_; (case zqa => assumption)); intro _ _; (try dsimp only)))
      | ((with_reducible show wpAny _ _ (subscriptTail (PySem.Expr.Name _ _) (PySem.Expr.Constant _ _ _) (Value.str _ _) (Value.int _ _)) _ _ _); (k_here; (with_reducible refine' item_c3 ?_); intro _ _; (try dsimp only)))
      | ((with_reducible show wpAny _ _ (call (Value.ref _) _) _ _ _); (first | (k_here; (with_reducible show wpAny _ _ (call (Value.ref 115) _) _ _ _); k_dflt (refine' cl_use (leaf_c _ _ _ _ _ _ ?zqhc) ?zqk1 ?zqk2 ?zqk3 ?zqk4 ?zqk5 ?zqkK ?zqhp ?zqkd ?zqku ?_; (case zqk1 => k_asm); (case zqk2 => k_asm); (case zqk3 => k_asm); (case zqk4 => k_asm); (case zqk5 => k_asm); (case zqkK => exact rfl); (case zqhp => exact True.intro); (case zqhc => assumption); (case zqkd => ktr_room); (case zqku => ktr_units)); intro t' h' tk' F' N'; (try dsimp only); k_sweep) | (k_here; (with_reducible show wpAny _ _ (call (Value.ref 108) _) _ _ _); k_dflt (refine' cl_use (height_c _ _ _ _ _ _ _ _ ?zqha ?zqhb) ?zqk1 ?zqk2 ?zqk3 ?zqk4 ?zqk5 ?zqkK ?zqhp ?zqkd ?zqku ?_; (case zqk1 => k_asm); (case zqk2 => k_asm); (case zqk3 => k_asm); (case zqk4 => k_asm); (case zqk5 => k_asm); (case zqkK => exact rfl); (case zqhp => exact True.intro); (case zqha => assumption); (case zqhb => assumption); (case zqkd => ktr_room); (case zqku => ktr_units)); intro t' h' tk' F' N'; (try dsimp only); k_sweep)))
      | ((with_reducible show wpAny _ _ (execs _ _) _ _ _); (k_here; (with_reducible show wpAny _ _ (execs [_, _, _] _) _ _ _); refine halt ?_))
      | walk1
      | (dsimp only; walk1)
      | (leave1; walk_say "STEP leave1"; try dsimp only)
      | fail "no step")
    exact TurnEnd.mk ⟨_, _, rfl, hl⟩ (by assumption) (by assumption)
  intro ys8 hy8 hV8
  unfold LCg.FinA
  intro lL h9 tk9 F9 N9 off9
  repeat' (first
    | (k_unfold; (try dsimp only))
    | (k_end; wrow_close)
    | ((with_reducible show wpAny _ _ (subscriptTail (PySem.Expr.Name _ _) (PySem.Expr.BinOp _ _ _ _) (Value.ref _) (Value.int _ _)) _ _ _); (k_here; k_dflt (refine' rowi_b ?zqN ?zqm ?zqhi ?zqe ?zqhj ?zqhl ?_; (case zqN => k_asm); (case zqm => k_mem); (case zqhi => assumption); (case zqe => exact idx_b); (case zqhj => omega); (case zqhl => omega)); intro _; (try dsimp only)))
    | ((with_reducible show wpAny _ _ (subscriptTail (PySem.Expr.Name _ _) (PySem.Expr.Name _ _) (Value.ref _) (Value.int _ _)) _ _ _); (k_here; k_dflt (refine' rowi_n ?zqN ?zqm ?zqhi ?zqe ?zqhj ?zqhl ?_; (case zqN => k_asm); (case zqm => k_mem); (case zqhi => assumption); (case zqe => exact idx_a); (case zqhj => omega); (case zqhl => omega)); intro _; (try dsimp only)))
    | ((with_reducible show wpAny _ _ (call (Value.builtin "str.join") _) _ _ _); (k_here; k_dflt (refine' join3 ?zqN ?zqm ?zqhi ?_; (case zqN => k_asm); (case zqm => k_mem); (case zqhi => assumption)); intro _ _; (try dsimp only)))
    | ((with_reducible show wpAny _ _ (call (Value.builtin "chr") _) _ _ _); (k_here; (with_reducible refine' chr_n ?zqa ?_; (case zqa => assumption)); intro _ _; (try dsimp only)))
    | ((with_reducible show wpAny _ _ (subscriptTail (PySem.Expr.Name _ _) (PySem.Expr.Constant _ _ _) (Value.str _ _) (Value.int _ _)) _ _ _); (k_here; (with_reducible refine' item_c3 ?_); intro _ _; (try dsimp only)))
    | ((with_reducible show wpAny _ _ (call (Value.ref _) _) _ _ _); (first | (k_here; (with_reducible show wpAny _ _ (call (Value.ref 115) _) _ _ _); k_dflt (refine' cl_use (leaf_c _ _ _ _ _ _ ?zqhc) ?zqk1 ?zqk2 ?zqk3 ?zqk4 ?zqk5 ?zqkK ?zqhp ?zqkd ?zqku ?_; (case zqk1 => k_asm); (case zqk2 => k_asm); (case zqk3 => k_asm); (case zqk4 => k_asm); (case zqk5 => k_asm); (case zqkK => exact rfl); (case zqhp => exact True.intro); (case zqhc => assumption); (case zqkd => ktr_room); (case zqku => ktr_units)); intro t' h' tk' F' N'; (try dsimp only); k_sweep) | (k_here; (with_reducible show wpAny _ _ (call (Value.ref 108) _) _ _ _); k_dflt (refine' cl_use (height_c _ _ _ _ _ _ _ _ ?zqha ?zqhb) ?zqk1 ?zqk2 ?zqk3 ?zqk4 ?zqk5 ?zqkK ?zqhp ?zqkd ?zqku ?_; (case zqk1 => k_asm); (case zqk2 => k_asm); (case zqk3 => k_asm); (case zqk4 => k_asm); (case zqk5 => k_asm); (case zqkK => exact rfl); (case zqhp => exact True.intro); (case zqha => assumption); (case zqhb => assumption); (case zqkd => ktr_room); (case zqku => ktr_units)); intro t' h' tk' F' N'; (try dsimp only); k_sweep)))
    | ((with_reducible show wpAny _ _ (execs _ _) _ _ _); (k_here; (with_reducible show wpAny _ _ (execs [_, _, _] _) _ _ _); refine halt ?_))
    | walk1
    | (dsimp only; walk1)
    | (leave1; walk_say "STEP leave1"; try dsimp only)
    | fail "no step")
  refine unhalt ?_
  rename Fr _ _ _ _ => F10
  rename News _ _ _ _ => N10
  refine hk _ _ _ lH lW lL _ _ _ ys1 ys3 ys8 F10 (by walk_at "lk") (by walk_at "lk") (by walk_at "lk") N10 (ints_of (xs := htsOf ns) hy1 ?_) iW (strs_of (by rw [hy8, hls5]) hV8)
  intro j y hj
  have hj4 : j < 4 := by rw [← hy1]; exact (List.getElem?_eq_some_iff.mp hj).1
  obtain ⟨t, e⟩ := hV1 j y hj
  refine ⟨_, t, e, ?_⟩
  match j, hj4 with
  | 0, _ => rfl
  | 1, _ => rfl
  | 2, _ => rfl
  | 3, _ => rfl
end Mine
namespace Mine
section
variable {N₀ M₀ : Nat} {w : World} {mean : ExcName → Option Value} {mg mb : Str → Option Value} {news : List (Addr × Obj)} {f : Addr} {pre : Heap → Prop} {args : List Value} {X : Str} {dp un : Nat} {gd : Option (List Code)} {cn : Str} {cs : Scope} {a : Addr} {ccd : Value} {cl : List (Str × Addr)} {outer : List Env} {A₀ : Around} {base h₀ : Heap} {L : Addr} {m : Str → Option Value} {s : Shared} {Q E : Value → Shared → Prop}
theorem str_use (c : Ch N₀ M₀ w (looseW Mine.hd.view_39 []) mean mg mb f pre args (fun _ _ v => ∃ t, v = .str X t))
    (k1 : Below A₀ base outer h₀) (k2 : Fr h₀ L s.heap m) (k3 : (Mine.hd.heap_39 w.params).In h₀) (k4 : News h₀ L s.heap news) (k5 : Top Mine.hd.view_39 (looseW Mine.hd.view_39 []) mean mg mb h₀) (kK : cs.kind = .function)
    (hp : pre s.heap) (hl : X.length ≤ 60) (kd : dp + N₀ < recursionLimit) (ku : un + M₀ < cLine)
    (kR : ∀ (t : Tok) (h' : Heap) (tk' : Nat), X.length ≤ 60 → Fr h₀ L h' m → News h₀ L h' news → Q (.str X t) { s with heap := h', toks := tk' }) :
    wpAny (model Challenge.rw_sw0030_01.row.prog w) (ktrTop dp un gd cn cs L a ccd cl outer) (call (.ref f) args) Q E s := by
  refine c dp un gd cn cs a ccd cl outer A₀ base h₀ L m s Q E k1 k2 k3 k5 kK hp kd ku ?_
  rintro v h' tk' hk ⟨t, rfl⟩
  exact kR t h' tk' hl (k2.keeps hk) (k4.grown hk)
theorem chk_use {x : Str} {t : Tok} {b : Bool} (k1 : Below A₀ base outer h₀) (k2 : Fr h₀ L s.heap m) (k3 : (Mine.hd.heap_39 w.params).In h₀) (k4 : News h₀ L s.heap news) (k5 : Top Mine.hd.view_39 (looseW Mine.hd.view_39 []) mean mg mb h₀) (kK : cs.kind = .function)
    (hp : x.cps.all (· < 128) = true ∧ x.length ≤ 200 ∧ (strip x).cps.all (· < 128) = true) (hv : chk x = b) (hb : AllBare s.gens) (kd : dp + 8 < recursionLimit) (ku : un + 100 < cLine)
    (kR : ∀ (h' : Heap) (tk' : Nat) (gens' : Array GenState), AllBare gens' → Fr h₀ L h' m → News h₀ L h' news → Q (.bool b) { s with heap := h', toks := tk', gens := gens' }) :
    wpAny (model Challenge.rw_sw0030_01.row.prog w) (ktrTop dp un gd cn cs L a ccd cl outer) (call (.ref 56) [.str x t]) Q E s := by
  subst hv
  exact chk_c w mean mg mb x t dp un gd cn cs a ccd cl outer A₀ base h₀ L m s Q E k1 k2 k3 k5 kK hp kd ku fun t' h' tk' gens' hk hg => kR h' tk' gens' (hg hb) (k2.keeps hk) (k4.grown hk)
theorem strG_len {ls : List Str} {hs : List Int} {f : Nat} (hs0 : ∀ x ∈ hs, 0 ≤ x) (hs2 : ∀ x ∈ hs, x ≤ 2) (hls : ∀ x ∈ ls, x.length ≤ 5) : ∀ n, f + n < ls.length → f + n ≤ hs.length → (strG ls hs f n).length ≤ 10 + 10 * n
  | 0, h, _ => by have := getD_mem (P := fun x => x.length ≤ 5) (d := Str.empty) hls (i := f) h; show (ls.getD f Str.empty).length ≤ _; omega
  | n + 1, h, h' => by
    have ih := strG_len hs0 hs2 hls (f := f) n (by omega) (by omega)
    show (strG ls hs f n ++ (Txt.mul (Str.ofString ")") (hs.getD (f + n) 0) ++ Txt.mul (Str.ofString "(") (hs.getD (f + n) 0) ++ ls.getD (f + n + 1) Str.empty)).length ≤ _
    rw [str_len, str_len, str_len]
    have a1 := getD_mem (P := fun x => x.length ≤ 5) (d := Str.empty) hls (i := f + n + 1) (by omega)
    have g0 := getD_mem (P := fun x => 0 ≤ x) (d := 0) hs0 (i := f + n) (by omega)
    have g2 := getD_mem (P := fun x => x ≤ 2) (d := 0) hs2 (i := f + n) (by omega)
    have a2 := mul_len (x := Str.ofString ")") (by decide) g0 g2
    have a3 := mul_len (x := Str.ofString "(") (by decide) g0 g2
    omega
end
set_option maxRecDepth 100000 in
set_option maxHeartbeats 8000000 in
theorem seg8 (w : World) (mean mg mb) : ∀ (fa : Addr) (cd : Value) (h₀ : Heap) (s : Shared) (m : Str → Option Value) (Qf : Flow → Shared → Prop) (lH lL : Addr) (nH nL : Nat) (vH vL : List Value) (ls : List Str) (hs : List Int) (nw : List (Addr × Obj)),
    Below callerA h₀ [] h₀ → Fr h₀ h₀.objs.size s.heap m → (Mine.hd.heap_39 w.params).In h₀ → Top Mine.hd.view_39 (looseW Mine.hd.view_39 []) mean mg mb h₀ → AllBare s.gens → m "heights" = some (.ref lH) → m "leaves" = some (.ref lL) → News h₀ h₀.objs.size s.heap nw → (lL, PySem.W.listOf vL.toArray nL) ∈ nw → (lH, PySem.W.listOf vH.toArray nH) ∈ nw → StrsAre vL ls → IntsAre vH hs → ls.length = 5 → hs.length = 4 →
    (∀ v ∈ hs, (0 : Int) ≤ v) → (∀ v ∈ hs, v ≤ (2 : Int)) → (∀ v ∈ ls, Str.length v ≤ 5) →
    ((Str.cps (Str.ofString "((" ++ strG ls hs 0 4 ++ Str.ofString "))")).all (· < 128) = true ∧ Str.length (Str.ofString "((" ++ strG ls hs 0 4 ++ Str.ofString "))") ≤ 200 ∧ (strip (Str.ofString "((" ++ strG ls hs 0 4 ++ Str.ofString "))")).cps.all (· < 128) = true) → chk (Str.ofString "((" ++ strG ls hs 0 4 ++ Str.ofString "))") = true →
    (∀ (h' : Heap) (tk' : Nat) (gens' : Array GenState), AllBare gens' → Fr h₀ h₀.objs.size h' m → News h₀ h₀.objs.size h' nw →
      wpAny (model Challenge.rw_sw0030_01.row.prog w) (callerA.deeper (lawEnv h₀.objs.size fa cd)) (execs (lawItem.body.drop 19) (lawEnv h₀.objs.size fa cd)) Qf (fun _ _ => False) { s with heap := h', toks := tk', gens := gens' }) →
    wpAny (model Challenge.rw_sw0030_01.row.prog w) (callerA.deeper (lawEnv h₀.objs.size fa cd)) (execs (lawItem.body.drop 18) (lawEnv h₀.objs.size fa cd)) Qf (fun _ _ => False) s := by
  dsimp only [lawEnv, lawItem, itemOf, List.drop]
  k_fill
  intro fa cd h₀ s m Qf lH lL nH nL vH vL ls hs nw K0 F0 X0 T0 hb mH mL N0 qL qH iL iH hl5 hl4 b0 b2 b5 tx1 tx2 hk
  repeat' (first
    | (k_unfold; (try dsimp only))
    | (k_end; wrow_close)
    | ((with_reducible show wpAny _ _ (binaryOp PySem.Operator.Add (Value.str _ _) (Value.str _ _)) _ _ _); (k_here; (with_reducible refine' add_b ?zqa ?zqb ?_; (case zqa => (first | decide | (have h2 : Str.length (Str.ofString "((") = 2 := rfl; omega))); (case zqb => (first | decide | omega))); intro _ _ _; (try dsimp only)))
    | ((with_reducible show wpAny _ _ (call (Value.ref _) _) _ _ _); (first | (k_here; (with_reducible show wpAny _ _ (call (Value.ref 56) _) _ _ _); k_dflt (refine' chk_use ?zqk1 ?zqk2 ?zqk3 ?zqk4 ?zqk5 ?zqkK ?zqhp ?zqhv ?zqhb ?zqkd ?zqku ?_; (case zqk1 => k_asm); (case zqk2 => k_asm); (case zqk3 => k_asm); (case zqk4 => k_asm); (case zqk5 => k_asm); (case zqkK => exact rfl); (case zqhp => assumption); (case zqhv => assumption); (case zqhb => assumption); (case zqkd => ktr_room); (case zqku => ktr_units)); intro h' tk' gens' hb' F' N'; (try dsimp only); k_sweep) | (k_here; (with_reducible show wpAny _ _ (call (Value.ref 122) _) _ _ _); k_dflt (refine' str_use (stretch_c _ _ _ _ _ _ _ _ _ _ _ _ _ _ _ _ ?zqhi1 ?zqhi2 ?zqhl5 ?zqhl4 ?zqhs0 ?zqhs2 ?zqhls ?zqhf ?zqhfl ?zqhl) ?zqk1 ?zqk2 ?zqk3 ?zqk4 ?zqk5 ?zqkK ?zqhp ?zqhlen ?zqkd ?zqku ?_; (case zqk1 => k_asm); (case zqk2 => k_asm); (case zqk3 => k_asm); (case zqk4 => k_asm); (case zqk5 => k_asm); (case zqkK => exact rfl); (case zqhp => exact ⟨News.get (by k_asm) (by k_mem), News.get (by k_asm) (by k_mem)⟩); (case zqhi1 => assumption); (case zqhi2 => assumption); (case zqhl5 => assumption); (case zqhl4 => assumption); (case zqhs0 => assumption); (case zqhs2 => assumption); (case zqhls => assumption); (case zqhf => omega); (case zqhfl => omega); (case zqhl => omega); (case zqhlen => exact Nat.le_trans (strG_len (by assumption) (by assumption) (by assumption) _ (by omega) (by omega)) (by decide)); (case zqkd => ktr_room); (case zqku => ktr_units)); intro t' h' tk' hlX F' N'; (try dsimp only); k_sweep)))
    | ((with_reducible show wpAny _ _ (execs _ _) _ _ _); (k_here; (with_reducible show wpAny _ _ (execs [_, _] _) _ _ _); refine halt ?_))
    | walk1
    | (dsimp only; walk1)
    | (leave1; walk_say "STEP leave1"; try dsimp only)
    | fail "no step")
  refine unhalt ?_
  rename Fr _ _ _ _ => F5
  rename News _ _ _ _ => N5
  exact hk _ _ _ (by assumption) F5 N5
end Mine
namespace Mine
section
variable {prog : Program} {w : World} {A : Around} {s : Shared} {env : Env} {h₀ : Heap} {L : Addr}
theorem range_loop {R : Result → Shared → Prop} {x : Str} {px : Pos} {body : List Stmt} {I : Addr} {a : Int} {n : Nat} {P : (Str → Option Value) → Prop} {news : List (Addr × Obj)} {m : Str → Option Value}
    (hh : A.handled = none) (hx : env.kindOf x = some .local) (hp : (env.scope.kind == .class || (env.scope.kind == .module && env.locals != env.globals)) = false) (hL : env.locals = L)
    (F : Fr h₀ L s.heap m) (N : News h₀ L s.heap news) (hne : ∀ p ∈ news, p.1 ≠ I) (hIL : I ≠ L) (hI0 : h₀.get? I = none) (hit : IsRangeIter s.heap I a (n : Int) 1) (hP : P m) (hb : AllBare s.gens)
    (step : ∀ (k : Nat) (t : Tok) (io' : Obj) (m' : Str → Option Value) (h : Heap) (tk : Nat) (gens : Array GenState), k < n → P m' → AllBare gens → Fr h₀ L h (fun y => if y = x then some (.int (a + (k : Int)) t) else m' y) → News h₀ L h ((I, io') :: news) →
      wpAny (model prog w) A (execs body env) (fun f s'' => f = .next ∧ ∃ h' tk' gens' m'', s'' = { s with heap := h', toks := tk', gens := gens' } ∧ P m'' ∧ AllBare gens' ∧ Fr h₀ L h' m'' ∧ News h₀ L h' ((I, io') :: news)) (fun _ _ => False) { s with heap := h, toks := tk, gens := gens })
    (fin : ∀ (m' : Str → Option Value) (h : Heap) (tk : Nat) (gens : Array GenState), P m' → AllBare gens → Fr h₀ L h m' → News h₀ L h news → R (.ok .next) { s with heap := h, toks := tk, gens := gens }) :
    codeAny (model prog w) A (.forLoop (.Name x px) (.ref I) body [] env) R s := by
  subst hL
  have W := Walks.range (prog := prog) (w := w) (A := A) hh I a 1 n
  refine codeAny_forLoop_any (fun j s' => ∃ (k : Nat) (m' : Str → Option Value) (h : Heap) (tk : Nat) (gens : Array GenState), j = n - k ∧ k ≤ n ∧ s' = { s with heap := h, toks := tk, gens := gens } ∧ P m' ∧ AllBare gens ∧ Fr h₀ env.locals h m' ∧ News h₀ env.locals h news ∧ IsRangeIter h I (a + (k : Nat) * 1) ((n : Int) - (k : Nat)) 1) ?_ n
    ⟨0, m, s.heap, s.toks, s.gens, by omega, Nat.zero_le _, rfl, hP, hb, F, N, by simpa using hit⟩
  rintro j s' ⟨k, m', h, tk, gens, rfl, hk, rfl, hP', hb', F', N', hit'⟩
  by_cases hlt : k < n
  · refine W.item k _ _ _ hlt hit' fun v h₁ tk₁ hv hit₁ hk₁ => ?_
    obtain ⟨t, rfl⟩ := hv
    replace hk₁ : ∀ b o, b ∉ [I] → h.get? b = some o → h₁.get? b = some o := hk₁
    refine wpAny_pure ?_
    have n₁ : h₁.Ns env.locals m' := F'.ns.at fun o e => hk₁ _ o (by simpa using Ne.symm hIL) e
    refine wpAny_assign_Name (wpAny_storeName_local hx n₁ (fun h₂ n₂ b₂ => ?_) hp)
    replace b₂ : Heap.SameBut env.locals h₁ h₂ := b₂
    have up : ∀ b o, b ≠ I → b ≠ env.locals → h.get? b = some o → h₂.get? b = some o := fun b o h1 h2 e => b₂.extBut b o h2 (hk₁ b o (by simpa using h1) e)
    have hI2 : h₂.get? I = some _ := b₂.extBut I _ hIL hit₁
    have F₂ : Fr h₀ env.locals h₂ (fun y => if y = x then some (.int (a + (k : Int) * 1) t) else m' y) := ⟨n₂, fun b o e => up b o (fun q => by rw [q, hI0] at e; cases e) (fun q => absurd (Heap.lt_size e) (by rw [q]; exact Nat.not_lt.mpr F'.above)) (F'.keep b o e), F'.above⟩
    have N₂ : News h₀ env.locals h₂ ((I, _) :: news) := fun p hp => by
      rcases List.mem_cons.mp hp with rfl | hp
      · exact ⟨hI2, hIL, hI0⟩
      · exact ⟨up _ _ (hne p hp) (N' p hp).2.1 (N' p hp).1, (N' p hp).2⟩
    have e1 : a + (k : Int) * 1 = a + (k : Int) := by rw [Int.mul_one]
    rw [e1] at F₂
    refine wpAny_mono (step k t _ m' h₂ _ gens hlt hP' hb' F₂ N₂) (fun f s'' hf => ?_) (fun _ _ x => x.elim)
    obtain ⟨rfl, h₃, tk₃, gens₃, m₃, rfl, hP₃, hb₃, F₃, N₃⟩ := hf
    refine ⟨n - (k + 1), by omega, k + 1, m₃, h₃, tk₃, gens₃, rfl, hlt, rfl, hP₃, hb₃, F₃, fun p hp => N₃ p (.tail _ hp), (N₃ _ (.head _)).1⟩
  · have hkn : k = n := by omega
    subst hkn
    refine W.done _ _ _ hit' fun h' tk' hk₁ => ?_
    refine wpAny_execs_nil ?_
    replace hk₁ : ∀ b o, b ∉ [I] → h.get? b = some o → h'.get? b = some o := hk₁
    refine fin m' h' tk' gens hP' hb' ⟨F'.ns.at fun o e => hk₁ _ o (by simpa using Ne.symm hIL) e, fun b o e => hk₁ b o (fun hm => by have := List.mem_singleton.mp hm; rw [this, hI0] at e; cases e) (F'.keep b o e), F'.above⟩ fun p hp => ⟨hk₁ _ _ (by simpa using hne p hp) (N' p hp).1, (N' p hp).2⟩
theorem For_h {Q : Flow → Shared → Prop} {target iter : PySem.Expr} {body : List Stmt} {pos : Pos}
    (h : wpAny (model prog w) A (eval iter env) (fun v s₁ => wpAny (model prog w) A (pyIter v) (fun it s₂ => codeAny (model prog w) A (.forLoop target it body [] env) (fun r s' => match r with | .ok f => Q f s' | .error _ => False) s₂) (fun _ _ => False) s₁) (fun _ _ => False) s)
    (hs : ∀ x, foldedSetIterable iter env x = pure x) : wpAny (model prog w) A (exec (.For target iter body [] pos) env) Q (fun _ _ => False) s :=
  wpAny_For (wpAny_mono h (fun v s₁ h₁ => wpAny_mono h₁ (fun it s₂ h₂ => codeAny_mono h₂ fun r s' hr => by
    cases r with
    | ok f => exact hr
    | error e => exact hr.elim) fun _ _ x => x) fun _ _ x => x) hs
end
end Mine
namespace Mine
noncomputable def loopBody : Stmt → List Stmt
  | .For _ _ b _ _ => b
  | _ => []
noncomputable def pairBody : List Stmt := loopBody ((loopBody ((lawItem.body.drop 19).headD (.Pass default))).headD (.Pass default))
structure LevC (w : World) (mean : ExcName → Option Value) (mg mb : Str → Option Value) (X Y : Str) (lo due : Int) : Prop where
  c : ∀ (mc : Int) (t u v : Tok), lo ≤ mc → mc ≤ lo + 2 → Cl 10 100 w (looseW Mine.hd.view_39 []) mean mg mb 70 True [.str X t, .str Y u, .int mc v] (fun t => .int due t)
section
variable {w : World} {mean : ExcName → Option Value} {mg mb : Str → Option Value} {news : List (Addr × Obj)} {dp un : Nat} {gd : Option (List Code)} {cn : Str} {cs : Scope} {a : Addr} {ccd : Value} {cl : List (Str × Addr)} {outer : List Env} {A₀ : Around} {base h₀ : Heap} {L : Addr} {m : Str → Option Value} {s : Shared} {Q E : Value → Shared → Prop}
theorem lev_use {X Y : Str} {lo due mc : Int} {t u v : Tok} (hc : LevC w mean mg mb X Y lo due) (b1 : lo ≤ mc) (b2 : mc ≤ lo + 2)
    (k1 : Below A₀ base outer h₀) (k2 : Fr h₀ L s.heap m) (k3 : (Mine.hd.heap_39 w.params).In h₀) (k4 : News h₀ L s.heap news) (k5 : Top Mine.hd.view_39 (looseW Mine.hd.view_39 []) mean mg mb h₀) (kK : cs.kind = .function) (kd : dp + 10 < recursionLimit) (ku : un + 100 < cLine)
    (kR : ∀ (t : Tok) (h' : Heap) (tk' : Nat), Fr h₀ L h' m → News h₀ L h' news → Q (.int due t) { s with heap := h', toks := tk' }) :
    wpAny (model Challenge.rw_sw0030_01.row.prog w) (ktrTop dp un gd cn cs L a ccd cl outer) (call (.ref 70) [.str X t, .str Y u, .int mc v]) Q E s :=
  cl_use (hc.c mc t u v b1 b2) k1 k2 k3 k4 k5 kK True.intro kd ku kR
theorem height_use {x y v : Int} {t u : Tok} (hv : ht x y = v) (ha : 0 ≤ x ∧ x ≤ 1000000) (hb : 0 ≤ y ∧ y ≤ 1000000)
    (k1 : Below A₀ base outer h₀) (k2 : Fr h₀ L s.heap m) (k3 : (Mine.hd.heap_39 w.params).In h₀) (k4 : News h₀ L s.heap news) (k5 : Top Mine.hd.view_39 (looseW Mine.hd.view_39 []) mean mg mb h₀) (kK : cs.kind = .function) (kd : dp + 8 < recursionLimit) (ku : un + 100 < cLine)
    (kR : ∀ (t : Tok) (h' : Heap) (tk' : Nat), Fr h₀ L h' m → News h₀ L h' news → Q (.int v t) { s with heap := h', toks := tk' }) :
    wpAny (model Challenge.rw_sw0030_01.row.prog w) (ktrTop dp un gd cn cs L a ccd cl outer) (call (.ref 108) [.int x t, .int y u]) Q E s := by
  subst hv
  exact cl_use (height_c w mean mg mb x y t u ha hb) k1 k2 k3 k4 k5 kK True.intro kd ku kR
theorem coll_lt {x y : Str} {t u : Tok} (h : x.cps.toList < y.cps.toList)
    (k1 : Below A₀ base outer h₀) (k2 : Fr h₀ L s.heap m) (k3 : (Mine.hd.heap_39 w.params).In h₀) (k4 : News h₀ L s.heap news) (k5 : Top Mine.hd.view_39 (looseW Mine.hd.view_39 []) mean mg mb h₀) (kK : cs.kind = .function) (kd : dp + 8 < recursionLimit) (ku : un + 100 < cLine)
    (kR : ∀ (t : Tok) (h' : Heap) (tk' : Nat), Fr h₀ L h' m → News h₀ L h' news → Q (.int (-1) t) { s with heap := h', toks := tk' }) :
    wpAny (model Challenge.rw_sw0030_01.row.prog w) (ktrTop dp un gd cn cs L a ccd cl outer) (call (.ref 21) [.str x t, .str y u]) Q E s := by
  refine cl_use (strcoll_c w mean mg mb x y t u) k1 k2 k3 k4 k5 kK True.intro kd ku fun t' h' tk' F' N' => ?_
  have h2 : ¬ y.cps.toList < x.cps.toList := fun h' => absurd h (List.lt_asymm h')
  rw [decide_eq_true h, decide_eq_false h2]
  exact kR t' h' tk' F' N'
theorem coll_gt {x y : Str} {t u : Tok} (h : y.cps.toList < x.cps.toList)
    (k1 : Below A₀ base outer h₀) (k2 : Fr h₀ L s.heap m) (k3 : (Mine.hd.heap_39 w.params).In h₀) (k4 : News h₀ L s.heap news) (k5 : Top Mine.hd.view_39 (looseW Mine.hd.view_39 []) mean mg mb h₀) (kK : cs.kind = .function) (kd : dp + 8 < recursionLimit) (ku : un + 100 < cLine)
    (kR : ∀ (t : Tok) (h' : Heap) (tk' : Nat), Fr h₀ L h' m → News h₀ L h' news → Q (.int 1 t) { s with heap := h', toks := tk' }) :
    wpAny (model Challenge.rw_sw0030_01.row.prog w) (ktrTop dp un gd cn cs L a ccd cl outer) (call (.ref 21) [.str x t, .str y u]) Q E s := by
  refine cl_use (strcoll_c w mean mg mb x y t u) k1 k2 k3 k4 k5 kK True.intro kd ku fun t' h' tk' F' N' => ?_
  have h2 : ¬ x.cps.toList < y.cps.toList := fun h' => absurd h (List.lt_asymm h')
  rw [decide_eq_true h, decide_eq_false h2]
  exact kR t' h' tk' F' N'
end
section
variable {prog : Program} {w : World} {A : Around} {E : Value → Shared → Prop} {s : Shared} {Q : Value → Shared → Prop} {u : Tok} {h₀ : Heap} {L D : Addr} {news : List (Addr × Obj)} {vs : List Value} {n : Nat} {k : Int} {nm nm' : Str} {p p' : Pos}
theorem item_w {ws : List Str} {X : Str} (N : News h₀ L s.heap news) (hm : (D, PySem.W.listOf vs.toArray n) ∈ news) (hi : StrsAre vs ws) (h0 : 0 ≤ k) (hk : k < 5) (hl : ws.length = 5) (e : ws.getD k.toNat Str.empty = X) (h : ∀ t, Q (.str X t) s) :
    wpAny (model prog w) A (subscriptTail (.Name nm p) (.Name nm' p') (.ref D) (.int k u)) Q E s :=
  item_strsR ⟨_, (N _ hm).1, rfl, _, rfl⟩ hi h0 (by rw [hl]; exact_mod_cast hk) (by omega) (fun t => by rw [e]; exact h t)
theorem item_n {ns : List Int} (N : News h₀ L s.heap news) (hm : (D, PySem.W.listOf vs.toArray n) ∈ news) (hi : IntsAre vs ns) (h0 : 0 ≤ k) (hk : k < 5) (hl : ns.length = 5) (h : ∀ t, Q (.int (ns.getD k.toNat 0) t) s) :
    wpAny (model prog w) A (subscriptTail (.Name nm p) (.Name nm' p') (.ref D) (.int k u)) Q E s := by
  obtain ⟨t, ht⟩ := MineI.ints_at hi k.toNat (ns.getD k.toNat 0) (by rw [List.getD_eq_getElem?_getD, List.getElem?_eq_getElem (by omega)]; rfl)
  exact kim_list N hm rfl rfl h0 (by omega) ht (h t) hs_ref_nm ht_ref_nm
end
set_option maxRecDepth 100000 in
set_option maxHeartbeats 8000000 in
theorem pairB (w : World) (mean mg mb) : ∀ (fa : Addr) (cd : Value) (h₀ : Heap) (s : Shared) (m : Str → Option Value) (Qf : Flow → Shared → Prop) (lH lL : Addr) (nH nL : Nat) (vH vL : List Value) (ls : List Str) (hs : List Int) (f g H : Int) (tf tg th : Tok) (nw : List (Addr × Obj)),
    Below callerA h₀ [] h₀ → Fr h₀ h₀.objs.size s.heap m → (Mine.hd.heap_39 w.params).In h₀ → Top Mine.hd.view_39 (looseW Mine.hd.view_39 []) mean mg mb h₀ → AllBare s.gens → m "heights" = some (.ref lH) → m "leaves" = some (.ref lL) → m "first" = some (.int f tf) → m "last" = some (.int g tg) → m "height" = some (.int H th) →
    News h₀ h₀.objs.size s.heap nw → (lL, PySem.W.listOf vL.toArray nL) ∈ nw → (lH, PySem.W.listOf vH.toArray nH) ∈ nw → StrsAre vL ls → IntsAre vH hs → ls.length = 5 → hs.length = 4 →
    0 ≤ f → f < g → g ≤ 4 → (∀ v ∈ hs, (0 : Int) ≤ v) → (∀ v ∈ hs, v ≤ (2 : Int)) → (∀ v ∈ ls, Str.length v ≤ 5) → (0 ≤ H ∧ H ≤ 2) → (strG ls hs f.toNat (g - f).toNat).length ≤ 60 → ((Str.cps (Txt.mul (Str.ofString "(") H ++ strG ls hs f.toNat (g - f).toNat ++ Txt.mul (Str.ofString ")") H)).all (· < 128) = true ∧ Str.length (Txt.mul (Str.ofString "(") H ++ strG ls hs f.toNat (g - f).toNat ++ Txt.mul (Str.ofString ")") H) ≤ 200 ∧ (strip (Txt.mul (Str.ofString "(") H ++ strG ls hs f.toNat (g - f).toNat ++ Txt.mul (Str.ofString ")") H)).cps.all (· < 128) = true) → chk (Txt.mul (Str.ofString "(") H ++ strG ls hs f.toNat (g - f).toNat ++ Txt.mul (Str.ofString ")") H) = true → (0 < H → ((Str.cps (Txt.mul (Str.ofString "(") (H - 1) ++ strG ls hs f.toNat (g - f).toNat ++ Txt.mul (Str.ofString ")") (H - 1))).all (· < 128) = true ∧ Str.length (Txt.mul (Str.ofString "(") (H - 1) ++ strG ls hs f.toNat (g - f).toNat ++ Txt.mul (Str.ofString ")") (H - 1)) ≤ 200 ∧ (strip (Txt.mul (Str.ofString "(") (H - 1) ++ strG ls hs f.toNat (g - f).toNat ++ Txt.mul (Str.ofString ")") (H - 1))).cps.all (· < 128) = true) ∧ chk (Txt.mul (Str.ofString "(") (H - 1) ++ strG ls hs f.toNat (g - f).toNat ++ Txt.mul (Str.ofString ")") (H - 1)) = false) →
    (∀ (h' : Heap) (tk' : Nat) (gens' : Array GenState) (m' : Str → Option Value), AllBare gens' → (∀ y, y ≠ Str.ofString "stretch" → m' y = m y) → Fr h₀ h₀.objs.size h' m' → News h₀ h₀.objs.size h' nw → Qf .next { s with heap := h', toks := tk', gens := gens' }) →
    wpAny (model Challenge.rw_sw0030_01.row.prog w) (callerA.deeper (lawEnv h₀.objs.size fa cd)) (execs (pairBody.drop 7) (lawEnv h₀.objs.size fa cd)) Qf (fun _ _ => False) s := by
  dsimp only [lawEnv, pairBody, loopBody, lawItem, itemOf, List.drop, List.headD]
  k_fill
  intro fa cd h₀ s m Qf lH lL nH nL vH vL ls hs f g H tf tg th nw K0 F0 X0 T0 hb mH mL mf mg' mh N0 qL qH iL iH hl5 hl4 f0 fg g4 b0 b2 b5 bH hlen tx1 tx2 tx3 hk
  obtain ⟨bH0, bH2⟩ := bH
  repeat' (first
    | (k_unfold; (try dsimp only))
    | (k_end; wrow_close)
    | ((with_reducible show wpAny _ _ (compareOp PySem.CmpOp.NotEq (Value.ref _) (Value.ref _)) _ _ _); (k_here; k_dflt (refine' ne_ints_same ?zqN ?zqha ?zqhb ?zqhi ?zqhj ?zqe ?zqhu ?_; (case zqN => k_asm); (case zqha => k_mem); (case zqhb => k_mem); (case zqhi => exact ints2); (case zqhj => exact ints2); (case zqe => rfl); (case zqhu => ke_room))))
    | ((with_reducible show wpAny _ _ (binaryOp PySem.Operator.Add (Value.str _ _) (Value.str _ _)) _ _ _); (k_here; (with_reducible refine' add_b ?zqa ?zqb ?_; (case zqa => omega); (case zqb => omega)); intro _ _ _; (try dsimp only)))
    | ((with_reducible show wpAny _ _ (binaryOp PySem.Operator.Mult (Value.str _ _) (Value.int _ _)) _ _ _); (k_here; k_dflt (refine' mul_small ?zqa ?zqb ?zqc ?_; (case zqa => decide); (case zqb => omega); (case zqc => omega)); intro _ _ _; (try dsimp only)))
    | ((with_reducible show wpAny _ _ (call (Value.ref _) _) _ _ _); (first | (k_here; (with_reducible show wpAny _ _ (call (Value.ref 70) _) _ _ _); k_dflt (refine' lev_use ?zqhc ?zqb1 ?zqb2 ?zqk1 ?zqk2 ?zqk3 ?zqk4 ?zqk5 ?zqkK ?zqkd ?zqku ?_; (case zqhc => assumption); (case zqb1 => omega); (case zqb2 => omega); (case zqk1 => k_asm); (case zqk2 => k_asm); (case zqk3 => k_asm); (case zqk4 => k_asm); (case zqk5 => k_asm); (case zqkK => exact rfl); (case zqkd => ktr_room); (case zqku => ktr_units)); intro t' h' tk' F' N'; (try dsimp only); k_sweep) | (k_here; (with_reducible show wpAny _ _ (call (Value.ref 108) _) _ _ _); k_dflt (refine' height_use ?zqhv ?zqha ?zqhb ?zqk1 ?zqk2 ?zqk3 ?zqk4 ?zqk5 ?zqkK ?zqkd ?zqku ?_; (case zqhv => assumption); (case zqha => assumption); (case zqhb => assumption); (case zqk1 => k_asm); (case zqk2 => k_asm); (case zqk3 => k_asm); (case zqk4 => k_asm); (case zqk5 => k_asm); (case zqkK => exact rfl); (case zqkd => ktr_room); (case zqku => ktr_units)); intro t' h' tk' F' N'; (try dsimp only); k_sweep) | (k_here; (with_reducible show wpAny _ _ (call (Value.ref 21) _) _ _ _); k_dflt (first | (refine' coll_lt ?zqh ?zqk1 ?zqk2 ?zqk3 ?zqk4 ?zqk5 ?zqkK ?zqkd ?zqku ?_; (case zqh => assumption); (case zqk1 => k_asm); (case zqk2 => k_asm); (case zqk3 => k_asm); (case zqk4 => k_asm); (case zqk5 => k_asm); (case zqkK => exact rfl); (case zqkd => ktr_room); (case zqku => ktr_units)) | (refine' coll_gt ?zqh ?zqk1 ?zqk2 ?zqk3 ?zqk4 ?zqk5 ?zqkK ?zqkd ?zqku ?_; (case zqh => assumption); (case zqk1 => k_asm); (case zqk2 => k_asm); (case zqk3 => k_asm); (case zqk4 => k_asm); (case zqk5 => k_asm); (case zqkK => exact rfl); (case zqkd => ktr_room); (case zqku => ktr_units))); intro t' h' tk' F' N'; (try dsimp only); k_sweep) | (k_here; (with_reducible show wpAny _ _ (call (Value.ref 122) _) _ _ _); k_dflt (refine' str_use (stretch_c _ _ _ _ _ _ _ _ _ _ _ _ _ _ _ _ ?zqhi1 ?zqhi2 ?zqhl5 ?zqhl4 ?zqhs0 ?zqhs2 ?zqhls ?zqhf ?zqhfl ?zqhl) ?zqk1 ?zqk2 ?zqk3 ?zqk4 ?zqk5 ?zqkK ?zqhp ?zqhlen ?zqkd ?zqku ?_; (case zqk1 => k_asm); (case zqk2 => k_asm); (case zqk3 => k_asm); (case zqk4 => k_asm); (case zqk5 => k_asm); (case zqkK => exact rfl); (case zqhp => exact ⟨News.get (by k_asm) (by k_mem), News.get (by k_asm) (by k_mem)⟩); (case zqhi1 => assumption); (case zqhi2 => assumption); (case zqhl5 => assumption); (case zqhl4 => assumption); (case zqhs0 => assumption); (case zqhs2 => assumption); (case zqhls => assumption); (case zqhf => omega); (case zqhfl => omega); (case zqhl => omega); (case zqhlen => assumption); (case zqkd => ktr_room); (case zqku => ktr_units)); intro t' h' tk' hlX F' N'; (try dsimp only); k_sweep) | (k_here; (with_reducible show wpAny _ _ (call (Value.ref 56) _) _ _ _); k_dflt (refine' chk_use ?zqk1 ?zqk2 ?zqk3 ?zqk4 ?zqk5 ?zqkK ?zqhp ?zqhv ?zqhb ?zqkd ?zqku ?_; (case zqk1 => k_asm); (case zqk2 => k_asm); (case zqk3 => k_asm); (case zqk4 => k_asm); (case zqk5 => k_asm); (case zqkK => exact rfl); (case zqhp => assumption); (case zqhv => assumption); (case zqhb => assumption); (case zqkd => ktr_room); (case zqku => ktr_units)); intro h' tk' gens' hb' F' N'; (try dsimp only); k_sweep) | (k_here; (with_reducible show wpAny _ _ (call (Value.ref 56) _) _ _ _); refine halt ?_)))
    | ((with_reducible show wpAny _ _ (subscriptTail (PySem.Expr.Name _ _) (PySem.Expr.Name _ _) (Value.ref _) (Value.int _ _)) _ _ _); (k_here; k_dflt (first | (refine' item_w ?zqN ?zqm ?zqhi ?zqh0 ?zqhk ?zqhl ?zqe ?_; (case zqN => k_asm); (case zqm => k_mem); (case zqhi => assumption); (case zqh0 => omega); (case zqhk => omega); (case zqhl => assumption); (case zqe => assumption)) | (refine' item_n ?zqN ?zqm ?zqhi ?zqh0 ?zqhk ?zqhl ?_; (case zqN => k_asm); (case zqm => k_mem); (case zqhi => assumption); (case zqh0 => omega); (case zqhk => omega); (case zqhl => assumption))); intro _; (try dsimp only)))
    | ((with_reducible show wpAny _ _ (subscriptTail (PySem.Expr.Name _ _) (PySem.Expr.Constant _ _ _) (Value.ref _) (Value.int _ _)) _ _ _); (k_here; k_dflt (refine' get_c ?zqN ?zqm ?zqx ?zqz ?zqf ?_; (case zqN => k_asm); (case zqm => k_mem); (case zqx => rfl); (case zqz => decide); (case zqf => decide))))
    | walk1
    | (dsimp only; walk1)
    | (leave1; walk_say "STEP leave1"; try dsimp only)
    | fail "no step")
  all_goals first
  | (rename Fr _ _ _ _ => F9
     rename News _ _ _ _ => N9
     exact hk _ _ _ _ (by assumption) (fun y hy => if_neg hy) F9 N9)
  | (refine unhalt ?_
     rename 0 < H => hp
     obtain ⟨q1, q2⟩ := tx3 hp
     refine' chk_use ?k1 ?k2 ?k3 ?k4 ?k5 ?kK q1 q2 ?hb ?kd ?ku ?_
     case k1 => k_asm
     case k2 => k_asm
     case k3 => k_asm
     case k4 => k_asm
     case k5 => k_asm
     case kK => exact rfl
     case hb => assumption
     case kd => ktr_room
     case ku => ktr_units
     intro h7 tk7 gens7 hb7 F7 N7
     repeat' (first
       | (k_unfold; (try dsimp only))
       | (k_end; wrow_close)
       | ((with_reducible show wpAny _ _ (compareOp PySem.CmpOp.NotEq (Value.ref _) (Value.ref _)) _ _ _); (k_here; k_dflt (refine' ne_ints_same ?zqN ?zqha ?zqhb ?zqhi ?zqhj ?zqe ?zqhu ?_; (case zqN => k_asm); (case zqha => k_mem); (case zqhb => k_mem); (case zqhi => exact ints2); (case zqhj => exact ints2); (case zqe => rfl); (case zqhu => ke_room))))
       | ((with_reducible show wpAny _ _ (binaryOp PySem.Operator.Add (Value.str _ _) (Value.str _ _)) _ _ _); (k_here; (with_reducible refine' add_b ?zqa ?zqb ?_; (case zqa => omega); (case zqb => omega)); intro _ _ _; (try dsimp only)))
       | ((with_reducible show wpAny _ _ (binaryOp PySem.Operator.Mult (Value.str _ _) (Value.int _ _)) _ _ _); (k_here; k_dflt (refine' mul_small ?zqa ?zqb ?zqc ?_; (case zqa => decide); (case zqb => omega); (case zqc => omega)); intro _ _ _; (try dsimp only)))
       | ((with_reducible show wpAny _ _ (call (Value.ref _) _) _ _ _); (first | (k_here; (with_reducible show wpAny _ _ (call (Value.ref 70) _) _ _ _); k_dflt (refine' lev_use ?zqhc ?zqb1 ?zqb2 ?zqk1 ?zqk2 ?zqk3 ?zqk4 ?zqk5 ?zqkK ?zqkd ?zqku ?_; (case zqhc => assumption); (case zqb1 => omega); (case zqb2 => omega); (case zqk1 => k_asm); (case zqk2 => k_asm); (case zqk3 => k_asm); (case zqk4 => k_asm); (case zqk5 => k_asm); (case zqkK => exact rfl); (case zqkd => ktr_room); (case zqku => ktr_units)); intro t' h' tk' F' N'; (try dsimp only); k_sweep) | (k_here; (with_reducible show wpAny _ _ (call (Value.ref 108) _) _ _ _); k_dflt (refine' height_use ?zqhv ?zqha ?zqhb ?zqk1 ?zqk2 ?zqk3 ?zqk4 ?zqk5 ?zqkK ?zqkd ?zqku ?_; (case zqhv => assumption); (case zqha => assumption); (case zqhb => assumption); (case zqk1 => k_asm); (case zqk2 => k_asm); (case zqk3 => k_asm); (case zqk4 => k_asm); (case zqk5 => k_asm); (case zqkK => exact rfl); (case zqkd => ktr_room); (case zqku => ktr_units)); intro t' h' tk' F' N'; (try dsimp only); k_sweep) | (k_here; (with_reducible show wpAny _ _ (call (Value.ref 21) _) _ _ _); k_dflt (first | (refine' coll_lt ?zqh ?zqk1 ?zqk2 ?zqk3 ?zqk4 ?zqk5 ?zqkK ?zqkd ?zqku ?_; (case zqh => assumption); (case zqk1 => k_asm); (case zqk2 => k_asm); (case zqk3 => k_asm); (case zqk4 => k_asm); (case zqk5 => k_asm); (case zqkK => exact rfl); (case zqkd => ktr_room); (case zqku => ktr_units)) | (refine' coll_gt ?zqh ?zqk1 ?zqk2 ?zqk3 ?zqk4 ?zqk5 ?zqkK ?zqkd ?zqku ?_; (case zqh => assumption); (case zqk1 => k_asm); (case zqk2 => k_asm); (case zqk3 => k_asm); (case zqk4 => k_asm); (case zqk5 => k_asm); (case zqkK => exact rfl); (case zqkd => ktr_room); (case zqku => ktr_units))); intro t' h' tk' F' N'; (try dsimp only); k_sweep) | (k_here; (with_reducible show wpAny _ _ (call (Value.ref 122) _) _ _ _); k_dflt (refine' str_use (stretch_c _ _ _ _ _ _ _ _ _ _ _ _ _ _ _ _ ?zqhi1 ?zqhi2 ?zqhl5 ?zqhl4 ?zqhs0 ?zqhs2 ?zqhls ?zqhf ?zqhfl ?zqhl) ?zqk1 ?zqk2 ?zqk3 ?zqk4 ?zqk5 ?zqkK ?zqhp ?zqhlen ?zqkd ?zqku ?_; (case zqk1 => k_asm); (case zqk2 => k_asm); (case zqk3 => k_asm); (case zqk4 => k_asm); (case zqk5 => k_asm); (case zqkK => exact rfl); (case zqhp => exact ⟨News.get (by k_asm) (by k_mem), News.get (by k_asm) (by k_mem)⟩); (case zqhi1 => assumption); (case zqhi2 => assumption); (case zqhl5 => assumption); (case zqhl4 => assumption); (case zqhs0 => assumption); (case zqhs2 => assumption); (case zqhls => assumption); (case zqhf => omega); (case zqhfl => omega); (case zqhl => omega); (case zqhlen => assumption); (case zqkd => ktr_room); (case zqku => ktr_units)); intro t' h' tk' hlX F' N'; (try dsimp only); k_sweep) | (k_here; (with_reducible show wpAny _ _ (call (Value.ref 56) _) _ _ _); k_dflt (refine' chk_use ?zqk1 ?zqk2 ?zqk3 ?zqk4 ?zqk5 ?zqkK ?zqhp ?zqhv ?zqhb ?zqkd ?zqku ?_; (case zqk1 => k_asm); (case zqk2 => k_asm); (case zqk3 => k_asm); (case zqk4 => k_asm); (case zqk5 => k_asm); (case zqkK => exact rfl); (case zqhp => assumption); (case zqhv => assumption); (case zqhb => assumption); (case zqkd => ktr_room); (case zqku => ktr_units)); intro h' tk' gens' hb' F' N'; (try dsimp only); k_sweep) | (k_here; (with_reducible show wpAny _ _ (call (Value.ref 56) _) _ _ _); refine halt ?_)))
       | ((with_reducible show wpAny _ _ (subscriptTail (PySem.Expr.Name _ _) (PySem.Expr.Name _ _) (Value.ref _) (Value.int _ _)) _ _ _); (k_here; k_dflt (first | (refine' item_w ?zqN ?zqm ?zqhi ?zqh0 ?zqhk ?zqhl ?zqe ?_; (case zqN => k_asm); (case zqm => k_mem); (case zqhi => assumption); (case zqh0 => omega); (case zqhk => omega); (case zqhl => assumption); (case zqe => assumption)) | (refine' item_n ?zqN ?zqm ?zqhi ?zqh0 ?zqhk ?zqhl ?_; (case zqN => k_asm); (case zqm => k_mem); (case zqhi => assumption); (case zqh0 => omega); (case zqhk => omega); (case zqhl => assumption))); intro _; (try dsimp only)))
       | ((with_reducible show wpAny _ _ (subscriptTail (PySem.Expr.Name _ _) (PySem.Expr.Constant _ _ _) (Value.ref _) (Value.int _ _)) _ _ _); (k_here; k_dflt (refine' get_c ?zqN ?zqm ?zqx ?zqz ?zqf ?_; (case zqN => k_asm); (case zqm => k_mem); (case zqx => rfl); (case zqz => decide); (case zqf => decide))))
       | walk1
       | (dsimp only; walk1)
       | (leave1; walk_say "STEP leave1"; try dsimp only)
       | fail "no step")
     rename Fr _ _ _ _ => F9
     rename News _ _ _ _ => N9
     exact hk _ _ _ _ (by assumption) (fun y hy => if_neg hy) F9 N9)
set_option maxRecDepth 100000 in
set_option maxHeartbeats 8000000 in
theorem pairA (w : World) (mean mg mb) : ∀ (fa : Addr) (cd : Value) (h₀ : Heap) (s : Shared) (m : Str → Option Value) (Qf : Flow → Shared → Prop) (l : Addr) (x y z : Int) (tx ty tz : Tok) (n : Nat) (o1 o5 : Obj) (lN lH lW lL : Addr) (nN nH nW nL : Nat) (ws ls : List Str) (hs ns : List Int) (vL vW vH vN : List Value) (f g H : Int) (tf tg : Tok) (X Y : Str) (nw : List (Addr × Obj)),
    Below callerA h₀ [] h₀ → Fr h₀ h₀.objs.size s.heap m → (Mine.hd.heap_39 w.params).In h₀ → Top Mine.hd.view_39 (looseW Mine.hd.view_39 []) mean mg mb h₀ → AllBare s.gens → m "heights" = some (.ref lH) → m "words" = some (.ref lW) → m "leaves" = some (.ref lL) → m "first" = some (.int f tf) → m "last" = some (.int g tg) →
    News h₀ h₀.objs.size s.heap nw → (lL, PySem.W.listOf vL.toArray nL) ∈ nw → (lW, PySem.W.listOf vW.toArray nW) ∈ nw → (lH, PySem.W.listOf vH.toArray nH) ∈ nw → (lN, PySem.W.listOf vN.toArray nN) ∈ nw → (l, PySem.W.listOf #[.int x tx, .int y ty, .int z tz] n) ∈ nw → (h₀.objs.size + 1 + 1 + 1 + 1 + 1, o5) ∈ nw → (h₀.objs.size + 1, o1) ∈ nw →
    StrsAre vL ls → StrsAre vW ws → IntsAre vH hs → IntsAre vN ns → ls.length = 5 → ws.length = 5 → hs.length = 4 → ns.length = 5 → o1.data = .cell (some (.ref l)) → o5.data = .cell (some (.ref lN)) →
    0 ≤ f → f < g → g ≤ 4 → (∀ v ∈ hs, (0 : Int) ≤ v) → (∀ v ∈ hs, v ≤ (2 : Int)) → (∀ v ∈ ls, Str.length v ≤ 5) → (0 ≤ H ∧ H ≤ 2) → (strG ls hs f.toNat (g - f).toNat).length ≤ 60 → ws.getD f.toNat Str.empty = X → ws.getD g.toNat Str.empty = Y → X.cps.toList < Y.cps.toList →
    LevC w mean mg mb X Y (2 * H + 1) (2 * H + 2) → LevC w mean mg mb Y X (2 * H + 1) (2 * H + 2) → ht (ns.getD f.toNat 0) (ns.getD g.toNat 0) = H → (0 ≤ ns.getD f.toNat 0 ∧ ns.getD f.toNat 0 ≤ 1000000) → (0 ≤ ns.getD g.toNat 0 ∧ ns.getD g.toNat 0 ≤ 1000000) →
    (0 ≤ (f + g + z).fmod 3 ∧ (f + g + z).fmod 3 ≤ 2) → ((Str.cps (Txt.mul (Str.ofString "(") H ++ strG ls hs f.toNat (g - f).toNat ++ Txt.mul (Str.ofString ")") H)).all (· < 128) = true ∧ Str.length (Txt.mul (Str.ofString "(") H ++ strG ls hs f.toNat (g - f).toNat ++ Txt.mul (Str.ofString ")") H) ≤ 200 ∧ (strip (Txt.mul (Str.ofString "(") H ++ strG ls hs f.toNat (g - f).toNat ++ Txt.mul (Str.ofString ")") H)).cps.all (· < 128) = true) → chk (Txt.mul (Str.ofString "(") H ++ strG ls hs f.toNat (g - f).toNat ++ Txt.mul (Str.ofString ")") H) = true → (0 < H → ((Str.cps (Txt.mul (Str.ofString "(") (H - 1) ++ strG ls hs f.toNat (g - f).toNat ++ Txt.mul (Str.ofString ")") (H - 1))).all (· < 128) = true ∧ Str.length (Txt.mul (Str.ofString "(") (H - 1) ++ strG ls hs f.toNat (g - f).toNat ++ Txt.mul (Str.ofString ")") (H - 1)) ≤ 200 ∧ (strip (Txt.mul (Str.ofString "(") (H - 1) ++ strG ls hs f.toNat (g - f).toNat ++ Txt.mul (Str.ofString ")") (H - 1))).cps.all (· < 128) = true) ∧ chk (Txt.mul (Str.ofString "(") (H - 1) ++ strG ls hs f.toNat (g - f).toNat ++ Txt.mul (Str.ofString ")") (H - 1)) = false) →
    (∀ (h' : Heap) (tk' : Nat) (gens' : Array GenState) (m' : Str → Option Value), AllBare gens' → m' "heights" = some (.ref lH) → m' "words" = some (.ref lW) → m' "leaves" = some (.ref lL) → m' "first" = some (.int f tf) → Fr h₀ h₀.objs.size h' m' → News h₀ h₀.objs.size h' nw → Qf .next { s with heap := h', toks := tk', gens := gens' }) →
    wpAny (model Challenge.rw_sw0030_01.row.prog w) (callerA.deeper (lawEnv h₀.objs.size fa cd)) (execs (pairBody.drop 0) (lawEnv h₀.objs.size fa cd)) Qf (fun _ _ => False) s := by
  dsimp only [lawEnv, pairBody, loopBody, lawItem, itemOf, List.drop, List.headD]
  k_fill
  intro fa cd h₀ s m Qf l x y z tx ty tz n o1 o5 lN lH lW lL nN nH nW nL ws ls hs ns vL vW vH vN f g H tf tg X Y nw K0 F0 X0 T0 hb mH mW mL mf mg' N0 qL qW qH qN ql q5 q1 iL iW iH iN hl5 hw5 hl4 hn5 d1 d5 f0 fg g4 b0 b2 b5 bH hlen eX eY lt lv1 lv2 hh bn1 bn2 bm tx1 tx2 tx3 hk
  repeat' (first
    | (k_unfold; (try dsimp only))
    | (k_end; wrow_close)
    | ((with_reducible show wpAny _ _ (execs _ _) _ _ _); (k_here; (with_reducible show wpAny _ _ (execs [_, _, _] _) _ _ _); refine halt ?_))
    | ((with_reducible show wpAny _ _ (compareOp PySem.CmpOp.NotEq (Value.ref _) (Value.ref _)) _ _ _); (k_here; k_dflt (refine' ne_ints_same ?zqN ?zqha ?zqhb ?zqhi ?zqhj ?zqe ?zqhu ?_; (case zqN => k_asm); (case zqha => k_mem); (case zqhb => k_mem); (case zqhi => exact ints2); (case zqhj => exact ints2); (case zqe => rfl); (case zqhu => ke_room))))
    | ((with_reducible show wpAny _ _ (binaryOp PySem.Operator.Add (Value.str _ _) (Value.str _ _)) _ _ _); (k_here; (with_reducible refine' add_b ?zqa ?zqb ?_; (case zqa => omega); (case zqb => omega)); intro _ _ _; (try dsimp only)))
    | ((with_reducible show wpAny _ _ (binaryOp PySem.Operator.Mult (Value.str _ _) (Value.int _ _)) _ _ _); (k_here; k_dflt (refine' mul_small ?zqa ?zqb ?zqc ?_; (case zqa => decide); (case zqb => omega); (case zqc => omega)); intro _ _ _; (try dsimp only)))
    | ((with_reducible show wpAny _ _ (call (Value.ref _) _) _ _ _); (first | (k_here; (with_reducible show wpAny _ _ (call (Value.ref 70) _) _ _ _); k_dflt (refine' lev_use ?zqhc ?zqb1 ?zqb2 ?zqk1 ?zqk2 ?zqk3 ?zqk4 ?zqk5 ?zqkK ?zqkd ?zqku ?_; (case zqhc => assumption); (case zqb1 => omega); (case zqb2 => omega); (case zqk1 => k_asm); (case zqk2 => k_asm); (case zqk3 => k_asm); (case zqk4 => k_asm); (case zqk5 => k_asm); (case zqkK => exact rfl); (case zqkd => ktr_room); (case zqku => ktr_units)); intro t' h' tk' F' N'; (try dsimp only); k_sweep) | (k_here; (with_reducible show wpAny _ _ (call (Value.ref 108) _) _ _ _); k_dflt (refine' height_use ?zqhv ?zqha ?zqhb ?zqk1 ?zqk2 ?zqk3 ?zqk4 ?zqk5 ?zqkK ?zqkd ?zqku ?_; (case zqhv => assumption); (case zqha => assumption); (case zqhb => assumption); (case zqk1 => k_asm); (case zqk2 => k_asm); (case zqk3 => k_asm); (case zqk4 => k_asm); (case zqk5 => k_asm); (case zqkK => exact rfl); (case zqkd => ktr_room); (case zqku => ktr_units)); intro t' h' tk' F' N'; (try dsimp only); k_sweep) | (k_here; (with_reducible show wpAny _ _ (call (Value.ref 21) _) _ _ _); k_dflt (first | (refine' coll_lt ?zqh ?zqk1 ?zqk2 ?zqk3 ?zqk4 ?zqk5 ?zqkK ?zqkd ?zqku ?_; (case zqh => assumption); (case zqk1 => k_asm); (case zqk2 => k_asm); (case zqk3 => k_asm); (case zqk4 => k_asm); (case zqk5 => k_asm); (case zqkK => exact rfl); (case zqkd => ktr_room); (case zqku => ktr_units)) | (refine' coll_gt ?zqh ?zqk1 ?zqk2 ?zqk3 ?zqk4 ?zqk5 ?zqkK ?zqkd ?zqku ?_; (case zqh => assumption); (case zqk1 => k_asm); (case zqk2 => k_asm); (case zqk3 => k_asm); (case zqk4 => k_asm); (case zqk5 => k_asm); (case zqkK => exact rfl); (case zqkd => ktr_room); (case zqku => ktr_units))); intro t' h' tk' F' N'; (try dsimp only); k_sweep) | (k_here; (with_reducible show wpAny _ _ (call (Value.ref 122) _) _ _ _); k_dflt (refine' str_use (stretch_c _ _ _ _ _ _ _ _ _ _ _ _ _ _ _ _ ?zqhi1 ?zqhi2 ?zqhl5 ?zqhl4 ?zqhs0 ?zqhs2 ?zqhls ?zqhf ?zqhfl ?zqhl) ?zqk1 ?zqk2 ?zqk3 ?zqk4 ?zqk5 ?zqkK ?zqhp ?zqhlen ?zqkd ?zqku ?_; (case zqk1 => k_asm); (case zqk2 => k_asm); (case zqk3 => k_asm); (case zqk4 => k_asm); (case zqk5 => k_asm); (case zqkK => exact rfl); (case zqhp => exact ⟨News.get (by k_asm) (by k_mem), News.get (by k_asm) (by k_mem)⟩); (case zqhi1 => assumption); (case zqhi2 => assumption); (case zqhl5 => assumption); (case zqhl4 => assumption); (case zqhs0 => assumption); (case zqhs2 => assumption); (case zqhls => assumption); (case zqhf => omega); (case zqhfl => omega); (case zqhl => omega); (case zqhlen => assumption); (case zqkd => ktr_room); (case zqku => ktr_units)); intro t' h' tk' hlX F' N'; (try dsimp only); k_sweep) | (k_here; (with_reducible show wpAny _ _ (call (Value.ref 56) _) _ _ _); k_dflt (refine' chk_use ?zqk1 ?zqk2 ?zqk3 ?zqk4 ?zqk5 ?zqkK ?zqhp ?zqhv ?zqhb ?zqkd ?zqku ?_; (case zqk1 => k_asm); (case zqk2 => k_asm); (case zqk3 => k_asm); (case zqk4 => k_asm); (case zqk5 => k_asm); (case zqkK => exact rfl); (case zqhp => assumption); (case zqhv => assumption); (case zqhb => assumption); (case zqkd => ktr_room); (case zqku => ktr_units)); intro h' tk' gens' hb' F' N'; (try dsimp only); k_sweep) | (k_here; (with_reducible show wpAny _ _ (call (Value.ref 56) _) _ _ _); refine halt ?_)))
    | ((with_reducible show wpAny _ _ (subscriptTail (PySem.Expr.Name _ _) (PySem.Expr.Name _ _) (Value.ref _) (Value.int _ _)) _ _ _); (k_here; k_dflt (first | (refine' item_w ?zqN ?zqm ?zqhi ?zqh0 ?zqhk ?zqhl ?zqe ?_; (case zqN => k_asm); (case zqm => k_mem); (case zqhi => assumption); (case zqh0 => omega); (case zqhk => omega); (case zqhl => assumption); (case zqe => assumption)) | (refine' item_n ?zqN ?zqm ?zqhi ?zqh0 ?zqhk ?zqhl ?_; (case zqN => k_asm); (case zqm => k_mem); (case zqhi => assumption); (case zqh0 => omega); (case zqhk => omega); (case zqhl => assumption))); intro _; (try dsimp only)))
    | ((with_reducible show wpAny _ _ (subscriptTail (PySem.Expr.Name _ _) (PySem.Expr.Constant _ _ _) (Value.ref _) (Value.int _ _)) _ _ _); (k_here; k_dflt (refine' get_c ?zqN ?zqm ?zqx ?zqz ?zqf ?_; (case zqN => k_asm); (case zqm => k_mem); (case zqx => rfl); (case zqz => decide); (case zqf => decide))))
    | walk1
    | (dsimp only; walk1)
    | (leave1; walk_say "STEP leave1"; try dsimp only)
    | fail "no step")
  all_goals first | (rename ¬ (2 * H + 2 = 2 * H + 2) => hne; exact absurd rfl hne) | (
    refine unhalt ?_
    rename Fr _ _ _ _ => F9
    rename News _ _ _ _ => N9
    show wpAny (model Challenge.rw_sw0030_01.row.prog w) (callerA.deeper (lawEnv h₀.objs.size fa cd)) (execs (pairBody.drop 7) (lawEnv h₀.objs.size fa cd)) Qf (fun _ _ => False) _
    refine' pairB w mean mg mb fa cd h₀ _ _ _ lH lL nH nL vH vL ls hs f g H tf tg _ nw K0 F9 X0 T0 ?hb ?a1 ?a2 ?a3 ?a4 ?a5 ?N qL qH iL iH hl5 hl4 f0 fg g4 b0 b2 b5 bH hlen tx1 tx2 tx3 ?_
    case hb => exact hb
    case a1 => walk_at "lk"
    case a2 => walk_at "lk"
    case a3 => walk_at "lk"
    case a4 => walk_at "lk"
    case a5 => walk_at "lk"
    case N => exact fun p hp => N9 p (.tail _ (.tail _ (.tail _ hp)))
    intro h' tk' gens' m' hb' hm' F' N'
    exact hk _ _ _ _ hb' ((hm' _ (by decide)).trans (by walk_at "lk")) ((hm' _ (by decide)).trans (by walk_at "lk")) ((hm' _ (by decide)).trans (by walk_at "lk")) ((hm' _ (by decide)).trans (by walk_at "lk")) F' N')
end Mine
namespace Mine
theorem range_go {prog : Program} {w : World} {A : Around} {s : Shared} {env : Env} {h₀ : Heap} {L r : Addr} {t u v : Tok} {b : Int} {E : Value → Shared → Prop} {R : Result → Shared → Prop} {x : Str} {px : Pos} {body : List Stmt} {a : Int} {n : Nat} {P : (Str → Option Value) → Prop} {news : List (Addr × Obj)} {m : Str → Option Value}
    (Rg : IsRange s.heap r a b 1 t u v) (hsm : Builtin.Range.small a b 1 = true) (hn : Builtin.Range.rangeSize a b 1 = (n : Int))
    (hh : A.handled = none) (hx : env.kindOf x = some .local) (hp : (env.scope.kind == .class || (env.scope.kind == .module && env.locals != env.globals)) = false) (hL : env.locals = L)
    (F : Fr h₀ L s.heap m) (N : News h₀ L s.heap news) (hP : P m) (hb : AllBare s.gens)
    (step : ∀ (I : Addr) (k : Nat) (t : Tok) (io' : Obj) (m' : Str → Option Value) (h : Heap) (tk : Nat) (gens : Array GenState), k < n → P m' → AllBare gens → Fr h₀ L h (fun y => if y = x then some (.int (a + (k : Int)) t) else m' y) → News h₀ L h ((I, io') :: news) →
      wpAny (model prog w) A (execs body env) (fun f s'' => f = .next ∧ ∃ h' tk' gens' m'', s'' = { s with heap := h', toks := tk', gens := gens' } ∧ P m'' ∧ AllBare gens' ∧ Fr h₀ L h' m'' ∧ News h₀ L h' ((I, io') :: news)) (fun _ _ => False) { s with heap := h, toks := tk, gens := gens })
    (fin : ∀ (m' : Str → Option Value) (h : Heap) (tk : Nat) (gens : Array GenState), P m' → AllBare gens → Fr h₀ L h m' → News h₀ L h news → R (.ok .next) { s with heap := h, toks := tk, gens := gens }) :
    wpAny (model prog w) A (pyIter (.ref r)) (fun it s₂ => codeAny (model prog w) A (.forLoop (.Name x px) it body [] env) R s₂) E s := by
  refine wpAny_pyIter_range Rg hsm ?_
  refine range_loop (a := a) (n := n) (P := P) (news := news) hh hx hp hL (F.push _) (N.grown fun b o e => Heap.get?_push_of_some _ e) (fun p hp => Nat.ne_of_lt (Heap.lt_size (N p hp).1)) (Nat.ne_of_gt F.ns.lt) ?_ ?_ hP hb (step _) fin
  · cases e : h₀.get? s.heap.objs.size with
    | none => rfl
    | some o => exact absurd (Heap.lt_size (F.keep _ _ e)) (Nat.lt_irrefl _)
  · show Heap.get? _ _ = _
    rw [hn]; exact Heap.get?_push_size _ rfl

noncomputable def PairOk (w : World) (mean : ExcName → Option Value) (mg mb : Str → Option Value) (ws ls : List Str) (hs ns : List Int) (f g : Int) : Prop :=
  ∃ (X Y : Str) (H : Int), ws.getD f.toNat Str.empty = X ∧ ws.getD g.toNat Str.empty = Y ∧ X.cps.toList < Y.cps.toList ∧ (0 ≤ ns.getD f.toNat 0 ∧ ns.getD f.toNat 0 ≤ 1000000) ∧ (0 ≤ ns.getD g.toNat 0 ∧ ns.getD g.toNat 0 ≤ 1000000) ∧ (0 ≤ H ∧ H ≤ 2) ∧ ht (ns.getD f.toNat 0) (ns.getD g.toNat 0) = H ∧ LevC w mean mg mb X Y (2 * H + 1) (2 * H + 2) ∧ LevC w mean mg mb Y X (2 * H + 1) (2 * H + 2) ∧ ((Str.cps (Txt.mul (Str.ofString "(") H ++ strG ls hs f.toNat (g - f).toNat ++ Txt.mul (Str.ofString ")") H)).all (· < 128) = true ∧ Str.length (Txt.mul (Str.ofString "(") H ++ strG ls hs f.toNat (g - f).toNat ++ Txt.mul (Str.ofString ")") H) ≤ 200 ∧ (strip (Txt.mul (Str.ofString "(") H ++ strG ls hs f.toNat (g - f).toNat ++ Txt.mul (Str.ofString ")") H)).cps.all (· < 128) = true) ∧ chk (Txt.mul (Str.ofString "(") H ++ strG ls hs f.toNat (g - f).toNat ++ Txt.mul (Str.ofString ")") H) = true ∧ (0 < H → ((Str.cps (Txt.mul (Str.ofString "(") (H - 1) ++ strG ls hs f.toNat (g - f).toNat ++ Txt.mul (Str.ofString ")") (H - 1))).all (· < 128) = true ∧ Str.length (Txt.mul (Str.ofString "(") (H - 1) ++ strG ls hs f.toNat (g - f).toNat ++ Txt.mul (Str.ofString ")") (H - 1)) ≤ 200 ∧ (strip (Txt.mul (Str.ofString "(") (H - 1) ++ strG ls hs f.toNat (g - f).toNat ++ Txt.mul (Str.ofString ")") (H - 1))).cps.all (· < 128) = true) ∧ chk (Txt.mul (Str.ofString "(") (H - 1) ++ strG ls hs f.toNat (g - f).toNat ++ Txt.mul (Str.ofString ")") (H - 1)) = false)
theorem idx3 {k j : Nat} (hk : k < 4) (hj : j < 4 - k) : 0 ≤ 0 + (k : Int) ∧ 0 + (k : Int) < 0 + (k : Int) + 1 + (j : Int) ∧ 0 + (k : Int) + 1 + (j : Int) ≤ 4 := by omega
theorem str60 {ls : List Str} {hs : List Int} {f g : Int} (h0 : 0 ≤ f) (h1 : f < g) (h2 : g ≤ 4) (e1 : ls.length = 5) (e2 : hs.length = 4) (hs0 : ∀ x ∈ hs, 0 ≤ x) (hs2 : ∀ x ∈ hs, x ≤ 2) (hls : ∀ x ∈ ls, x.length ≤ 5) : (strG ls hs f.toNat (g - f).toNat).length ≤ 60 :=
  Nat.le_trans (strG_len hs0 hs2 hls _ (by omega) (by omega)) (by omega)
theorem mod3b (a : Int) : 0 ≤ a.fmod 3 ∧ a.fmod 3 ≤ 2 := by rcases mod3 a with e | e | e <;> rw [e] <;> decide

local macro_rules | `(tactic| walk_at "pyIter ref") => `(tactic| (refine halt ?_))
set_option maxRecDepth 100000 in
set_option maxHeartbeats 8000000 in
theorem seg9 (w : World) (mean mg mb) : ∀ (fa : Addr) (cd : Value) (h₀ : Heap) (s : Shared) (m : Str → Option Value) (Qf : Flow → Shared → Prop) (l : Addr) (x y z : Int) (tx ty tz : Tok) (n : Nat) (o1 o5 : Obj) (lN lH lW lL : Addr) (nN nH nW nL : Nat) (ws ls : List Str) (hs ns : List Int) (vL vW vH vN : List Value) (nw : List (Addr × Obj)),
    Below callerA h₀ [] h₀ → Fr h₀ h₀.objs.size s.heap m → (Mine.hd.heap_39 w.params).In h₀ → Top Mine.hd.view_39 (looseW Mine.hd.view_39 []) mean mg mb h₀ → AllBare s.gens → m "heights" = some (.ref lH) → m "words" = some (.ref lW) → m "leaves" = some (.ref lL) →
    News h₀ h₀.objs.size s.heap nw → (lL, PySem.W.listOf vL.toArray nL) ∈ nw → (lW, PySem.W.listOf vW.toArray nW) ∈ nw → (lH, PySem.W.listOf vH.toArray nH) ∈ nw → (lN, PySem.W.listOf vN.toArray nN) ∈ nw → (l, PySem.W.listOf #[.int x tx, .int y ty, .int z tz] n) ∈ nw → (h₀.objs.size + 1 + 1 + 1 + 1 + 1, o5) ∈ nw → (h₀.objs.size + 1, o1) ∈ nw →
    StrsAre vL ls → StrsAre vW ws → IntsAre vH hs → IntsAre vN ns → ls.length = 5 → ws.length = 5 → hs.length = 4 → ns.length = 5 → o1.data = .cell (some (.ref l)) → o5.data = .cell (some (.ref lN)) → (∀ v ∈ hs, (0 : Int) ≤ v) → (∀ v ∈ hs, v ≤ (2 : Int)) → (∀ v ∈ ls, Str.length v ≤ 5) →
    (∀ f g : Int, 0 ≤ f → f < g → g ≤ 4 → PairOk w mean mg mb ws ls hs ns f g) →
    (∀ (h' : Heap) (tk' : Nat) (gens' : Array GenState), AllBare gens' → (∀ b o, h₀.get? b = some o → h'.get? b = some o) → Qf (.ret (.bool true)) { s with heap := h', toks := tk', gens := gens' }) →
    wpAny (model Challenge.rw_sw0030_01.row.prog w) (callerA.deeper (lawEnv h₀.objs.size fa cd)) (execs (lawItem.body.drop 19) (lawEnv h₀.objs.size fa cd)) Qf (fun _ _ => False) s := by
  dsimp only [lawEnv, lawItem, itemOf, List.drop]
  k_fill
  intro fa cd h₀ s m Qf l x y z tx ty tz n o1 o5 lN lH lW lL nN nH nW nL ws ls hs ns vL vW vH vN nw K0 F X0 T0 hb mH mW mL N qL qW qH qN ql q5 q1 i1 i2 i3 i4 e1 e2 e3 e4 d1 d5 b1 b2 b3 hpair hk
  repeat' (first
    | (k_unfold; (try dsimp only))
    | (k_end; wrow_close)
    | ((with_reducible show wpAny _ _ (exec (PySem.Stmt.For _ _ _ _ _) _) _ _ _); (k_here; k_dflt (refine For_h ?_ (fun _ => rfl))))
    | walk1
    | (dsimp only; walk1)
    | (leave1; walk_say "STEP leave1"; try dsimp only)
    | fail "no step")
  refine unhalt ?_
  rename Fr _ _ _ _ => F1
  rename News _ _ _ _ => N1
  rename IsRange _ _ _ _ _ _ _ _ => R1
  refine range_go (n := 4) (P := fun m => m "heights" = some (.ref lH) ∧ m "words" = some (.ref lW) ∧ m "leaves" = some (.ref lL)) (news := nw) R1 (by decide) (by rfl) rfl (by with_unfolding_all rfl) rfl rfl F1 N1 ⟨mH, mW, mL⟩ hb ?_ ?_
  · intro I1 k t1 io1 m' h1 tk1 gens1 hk4 hP1 hb1 F2 N2
    obtain ⟨p1, p2, p3⟩ := hP1
    have hk' : k = 0 ∨ k = 1 ∨ k = 2 ∨ k = 3 := by omega
    have hsm : Builtin.Range.small (0 + (k : Int) + 1) 5 1 = true := by rcases hk' with rfl | rfl | rfl | rfl <;> decide
    have hsz : Builtin.Range.rangeSize (0 + (k : Int) + 1) 5 1 = ((4 - k : Nat) : Int) := by rcases hk' with rfl | rfl | rfl | rfl <;> rfl
    repeat' (first
      | (k_unfold; (try dsimp only))
      | (k_end; wrow_close)
      | ((with_reducible show wpAny _ _ (exec (PySem.Stmt.For _ _ _ _ _) _) _ _ _); (k_here; k_dflt (refine For_h ?_ (fun _ => rfl))))
      | walk1
      | (dsimp only; walk1)
      | (leave1; walk_say "STEP leave1"; try dsimp only)
      | fail "no step")
    refine unhalt ?_
    rename Fr _ _ _ _ => F3
    rename News _ _ _ _ => N3
    rename IsRange _ _ _ _ _ _ _ _ => R3
    refine range_go (n := 4 - k) (P := fun m => m "heights" = some (.ref lH) ∧ m "words" = some (.ref lW) ∧ m "leaves" = some (.ref lL) ∧ m "first" = some (.int (0 + (k : Int)) t1)) (news := (I1, io1) :: nw) R3 hsm hsz rfl (by with_unfolding_all rfl) rfl rfl F3 N3 ⟨by walk_at "lk", by walk_at "lk", by walk_at "lk", if_pos rfl⟩ (by assumption) ?_ ?_
    · intro I2 j t2 io2 m2 h2 tk2 gens2 hj hP2 hb2 F4 N4
      obtain ⟨p1, p2, p3, p4⟩ := hP2
      obtain ⟨x1, x2, x3⟩ := idx3 hk4 hj
      obtain ⟨X, Y, H, r1, r2, r3, r4, r5, r6, r7, r8, r9, r10, r11, r12⟩ := hpair (0 + (k : Int)) (0 + (k : Int) + 1 + (j : Int)) x1 x2 x3
      have hlen := str60 x1 x2 x3 e1 e3 b1 b2 b3
      refine pairA w mean mg mb fa cd h₀ _ _ _ l x y z tx ty tz n o1 o5 lN lH lW lL nN nH nW nL ws ls hs ns vL vW vH vN _ _ H _ _ X Y ((I2, io2) :: (I1, io1) :: nw) K0 F4 X0 T0 hb2 (by walk_at "lk") (by walk_at "lk") (by walk_at "lk") (by walk_at "lk") (if_pos rfl) N4 (.tail _ (.tail _ qL)) (.tail _ (.tail _ qW)) (.tail _ (.tail _ qH)) (.tail _ (.tail _ qN)) (.tail _ (.tail _ ql)) (.tail _ (.tail _ q5)) (.tail _ (.tail _ q1)) i1 i2 i3 (by assumption) e1 e2 e3 e4 d1 d5 x1 x2 x3 b1 b2 b3 r6 hlen r1 r2 r3 r8 r9 r7 r4 r5 (mod3b _) r10 r11 r12 ?_
      intro h' tk' gens' m' hb' z1 z2 z3 z4 F5 N5
      exact ⟨rfl, h', tk', gens', m', rfl, ⟨z1, z2, z3, z4⟩, hb', F5, N5⟩
    · intro m2 h2 tk2 gens2 hP2 hb2 F4 N4
      obtain ⟨p1, p2, p3, p4⟩ := hP2
      exact wpAny_execs_nil ⟨rfl, h2, tk2, gens2, m2, rfl, ⟨p1, p2, p3⟩, hb2, F4, N4⟩
  · intro m2 h2 tk2 gens2 hP2 hb2 F4 N4
    dsimp only
    repeat' (first
      | (k_unfold; (try dsimp only))
      | (k_end; wrow_close)
      | ((with_reducible show wpAny _ _ (exec (PySem.Stmt.For _ _ _ _ _) _) _ _ _); (k_here; k_dflt (refine For_h ?_ (fun _ => rfl))))
      | walk1
      | (dsimp only; walk1)
      | (leave1; walk_say "STEP leave1"; try dsimp only)
      | fail "no step")
    exact hk _ _ _ hb2 F4.keep
end Mine
namespace Mine
noncomputable def stepB (g g' c c' : Int) : Bool := (g' == g && c' == c) || (g' == g + 1 && (c' == c || c' == c + 1))
noncomputable def partsG (g ys : List Int) : Bool := match g with
  | [g0, g1, g2, g3, g4] => match partsL ys [g0, g1, g2, g3, g4] with
    | [c0, c1, c2, c3, c4] => g0 == 0 && c0 == 0 && stepB g0 g1 c0 c1 && stepB g1 g2 c1 c2 && stepB g2 g3 c2 c3 && stepB g3 g4 c3 c4
    | _ => false
  | _ => false
noncomputable def partsB (xs ys : List Int) : Bool := partsG (partsL xs [0, 1, 2, 3, 4]) ys
noncomputable def vecs : List (List Int) := ((([0, 1] : List Int).flatMap fun a => ([0, 1] : List Int).flatMap fun b => ([0, 1] : List Int).flatMap fun c => ([0, 1] : List Int).map fun d => [0, a, a + b, a + b + c, a + b + c + d]))
theorem parts_v : ∀ a ∈ ([1, 2, 3] : List Int), ∀ b ∈ ([1, 2, 3] : List Int), ∀ c ∈ ([1, 2, 3] : List Int), ∀ e0 ∈ ([0, 1, 2] : List Int), vecs.contains (partsL (dueL [a, b, c] e0) [0, 1, 2, 3, 4]) = true := by decide +kernel
theorem parts_g : ∀ d ∈ ([1, 2] : List Int), ∀ e ∈ ([1, 2] : List Int), ∀ e1 ∈ ([0, 1, 2] : List Int), (vecs.all fun g => partsG g (dueL [d, e] e1)) = true := by decide +kernel
theorem parts_all : ∀ a ∈ ([1, 2, 3] : List Int), ∀ b ∈ ([1, 2, 3] : List Int), ∀ c ∈ ([1, 2, 3] : List Int), ∀ d ∈ ([1, 2] : List Int), ∀ e ∈ ([1, 2] : List Int), ∀ e0 ∈ ([0, 1, 2] : List Int), ∀ e1 ∈ ([0, 1, 2] : List Int),
    partsB (dueL [a, b, c] e0) (dueL [d, e] e1) = true := fun a ha b hb c hc d hd e he e0 h0 e1 h1 =>
  List.all_eq_true.mp (parts_g d hd e he e1 h1) _ (List.contains_iff_mem.mp (parts_v a ha b hb c hc e0 h0))
theorem lst3 {α : Type} {l : List α} (h : l.length = 3) : ∃ a b c, l = [a, b, c] := by
  match l, h with
  | [a, b, c], _ => exact ⟨a, b, c, rfl⟩
theorem lst2 {α : Type} {l : List α} (h : l.length = 2) : ∃ a b, l = [a, b] := by
  match l, h with
  | [a, b], _ => exact ⟨a, b, rfl⟩
theorem lst5 {α : Type} {l : List α} (h : l.length = 5) : ∃ a b c d e, l = [a, b, c, d, e] := by
  match l, h with
  | [a, b, c, d, e], _ => exact ⟨a, b, c, d, e, rfl⟩
noncomputable def Step (g g' c c' : Int) : Prop := (g' = g ∧ c' = c) ∨ (g' = g + 1 ∧ (c' = c ∨ c' = c + 1))
theorem step_of {g g' c c' : Int} (h : stepB g g' c c' = true) : Step g g' c c' := by
  unfold stepB at h; unfold Step
  simp only [Bool.or_eq_true, Bool.and_eq_true, beq_iff_eq] at h
  exact h
theorem parts_fact {ws hs : List Int} {e0 e1 : Int} (h1 : ws.length = 3) (b1 : ∀ v ∈ ws, 1 ≤ v ∧ v ≤ 3) (h2 : hs.length = 2) (b2 : ∀ v ∈ hs, 1 ≤ v ∧ v ≤ 2) (he0 : e0 = 0 ∨ e0 = 1 ∨ e0 = 2) (he1 : e1 = 0 ∨ e1 = 1 ∨ e1 = 2) :
    ∃ g0 g1 g2 g3 g4 c0 c1 c2 c3 c4 : Int, partsL (dueL ws e0) [0, 1, 2, 3, 4] = [g0, g1, g2, g3, g4] ∧ partsL (dueL hs e1) [g0, g1, g2, g3, g4] = [c0, c1, c2, c3, c4] ∧
      g0 = 0 ∧ c0 = 0 ∧ Step g0 g1 c0 c1 ∧ Step g1 g2 c1 c2 ∧ Step g2 g3 c2 c3 ∧ Step g3 g4 c3 c4 := by
  obtain ⟨a, b, c, rfl⟩ := lst3 h1
  obtain ⟨d, e, rfl⟩ := lst2 h2
  have m3 : ∀ v : Int, 1 ≤ v ∧ v ≤ 3 → v ∈ ([1, 2, 3] : List Int) := fun v h => by simp; omega
  have m2 : ∀ v : Int, 1 ≤ v ∧ v ≤ 2 → v ∈ ([1, 2] : List Int) := fun v h => by simp; omega
  have m0 : ∀ v : Int, (v = 0 ∨ v = 1 ∨ v = 2) → v ∈ ([0, 1, 2] : List Int) := fun v h => by simpa using h
  have key := parts_all a (m3 a (b1 a (by simp))) b (m3 b (b1 b (by simp))) c (m3 c (b1 c (by simp))) d (m2 d (b2 d (by simp))) e (m2 e (b2 e (by simp))) e0 (m0 e0 he0) e1 (m0 e1 he1)
  obtain ⟨g0, g1, g2, g3, g4, hg⟩ := lst5 (l := partsL (dueL [a, b, c] e0) [0, 1, 2, 3, 4]) (by simp [partsL])
  obtain ⟨c0, c1, c2, c3, c4, hc⟩ := lst5 (l := partsL (dueL [d, e] e1) [g0, g1, g2, g3, g4]) (by simp [partsL])
  unfold partsB partsG at key
  rw [hg] at key
  dsimp only at key
  rw [hc] at key
  simp only [Bool.and_eq_true, beq_iff_eq] at key
  obtain ⟨⟨⟨⟨⟨k1, k2⟩, k3⟩, k4⟩, k5⟩, k6⟩ := key
  exact ⟨g0, g1, g2, g3, g4, c0, c1, c2, c3, c4, hg, hc, k1, k2, step_of k3, step_of k4, step_of k5, step_of k6⟩
theorem due_len {ws : List Int} {e : Int} (h : ws.length ≤ 3) : (dueL ws e).length ≤ 6 := by
  unfold dueL
  split
  · rw [List.length_take]; omega
  · omega
theorem ints_five {vs : List Value} {a b c d e : Int} (h : IntsAre vs [a, b, c, d, e]) : ∃ t0 t1 t2 t3 t4, vs = [.int a t0, .int b t1, .int c t2, .int d t3, .int e t4] := by
  cases h with | cons _ t0 h => cases h with | cons _ t1 h => cases h with | cons _ t2 h => cases h with | cons _ t3 h => cases h with | cons _ t4 h => cases h with | nil => exact ⟨t0, t1, t2, t3, t4, rfl⟩
end Mine
namespace Mine
noncomputable def goL (x : List Nat) (n : Nat) : List (Nat × List Nat) → Nat → Option Nat → List Nat → Option (Nat × List Nat)
  | [], st, _, r => some (st, r)
  | (p, c) :: ts, st, op, r => if c = [34] then (match op with
      | none => goL x n ts st (some p) r
      | some o => if st ≤ o ∧ o ≤ n then goL x n ts (p + 1) none (r ++ (x.drop st).take (o - st)) else none)
    else goL x n ts st op r
noncomputable def flatP (ys : List Str) : List Nat := (ys.map fun y => y.cps.toList).flatten
theorem flatP_one (ys : List Str) (y : Str) : flatP (ys ++ [y]) = flatP ys ++ y.cps.toList := by simp [flatP]
theorem glued_flatP (ys : List Str) : (Txt.join (Str.ofString "") ys).cps.toList = flatP ys := by
  have h : ∀ (zs : List Str) (a : Array Nat), (zs.foldl (fun acc p => acc ++ (Str.ofString "").cps ++ p.cps) a).toList = a.toList ++ flatP zs := by
    intro zs
    induction zs with
    | nil => intro a; simp [flatP]
    | cons z zs ih =>
      intro a
      rw [List.foldl_cons, ih]
      have e : (Str.ofString "").cps = #[] := by decide +kernel
      simp [flatP, e]
  cases ys with
  | nil => rfl
  | cons y ys =>
    show (ys.foldl (fun acc p => acc ++ (Str.ofString "").cps ++ p.cps) y.cps).toList = _
    rw [h]; simp [flatP]
theorem slice_list (x : Str) {a b : Nat} (hab : a ≤ b) (hb : b ≤ x.length) : (Txt.slice x (some (a : Int)) (some (b : Int))).cps.toList = (x.cps.toList.drop a).take (b - a) := by
  have := StrLaws.sliceText_nat x hab hb
  show (StrLaws.sliceText x (some (a : Int)) (some (b : Int))).cps.toList = _
  rw [this]
theorem slice_end (x : Str) {a : Nat} (ha : a ≤ x.length) : (Txt.slice x (some (a : Int)) none).cps.toList = x.cps.toList.drop a := by
  have hl : x.length = x.cps.toList.length := by simp [Str.length]
  have := StrLaws.sliceText_from (x := x) (i := (a : Int)) ⟨by omega, by omega⟩
  show (StrLaws.sliceText x (some (a : Int)) none).cps.toList = _
  rw [this]
  have e1 : ((a : Int)).toNat = a := by omega
  have e2 : ((x.cps.toList.length : Int) - (a : Int)).toNat = (x.cps.toList.drop a).length := by rw [List.length_drop]; omega
  rw [e1, e2]
  show List.take _ _ = _
  rw [List.take_length]
theorem go_list (x : Str) : ∀ (ts : List (Nat × List Nat)) (st : Nat) (op : Option Nat) (res : List Str) (st' : Nat) (r' : List Nat),
    goL x.cps.toList x.length ts st op (flatP res) = some (st', r') → ∃ res', stripGo x ts st op res = (st', res') ∧ flatP res' = r'
  | [], st, op, res, st', r', h => by
    unfold goL at h
    injection h with h; injection h with h1 h2
    exact ⟨res, by unfold stripGo; rw [h1], h2⟩
  | (p, c) :: ts, st, op, res, st', r', h => by
    unfold goL at h
    unfold stripGo
    split at h
    · rename_i hc
      rw [if_pos hc]
      cases op with
      | none => exact go_list x ts _ _ _ _ _ h
      | some o =>
        dsimp only at h ⊢
        split at h
        · rename_i hb
          by_cases e : st = o
          · rw [if_pos e]
            refine go_list x ts _ _ _ _ _ ?_
            rw [← h]; subst e; simp
          · rw [if_neg e]
            refine go_list x ts _ _ _ _ _ ?_
            rw [flatP_one, slice_list x hb.1 hb.2]; exact h
        · cases h
    · rename_i hc
      rw [if_neg hc]
      exact go_list x ts _ _ _ _ _ h
noncomputable def stripL (x : List Nat) : Option (List Nat) :=
  if x.elem 34 then (match goL x x.length (tk x 0 false) 0 none [] with
    | some (st, r) => if st ≤ x.length then some (r ++ x.drop st) else none
    | none => none)
  else some x
theorem strip_list {x : Str} {r : List Nat} (h : stripL x.cps.toList = some r) : (strip x).cps.toList = r := by
  have hl : x.cps.toList.length = x.length := by simp [Str.length]
  have hf := StrLaws.found_one x 34
  have hq : (⟨#[34]⟩ : Str) = Str.ofString "\"" := by decide +kernel
  rw [hq] at hf
  unfold stripL at h
  unfold strip
  by_cases hm : 34 ∈ x.cps.toList
  · rw [if_pos (by simpa using hm)] at h
    rw [if_neg (by intro e; rw [e, decide_eq_true hm] at hf; cases hf)]
    split at h
    · rename_i st r0 hg
      split at h
      · rename_i hst
        injection h with h
        rw [hl] at hg hst
        obtain ⟨res', e1, e2⟩ := go_list x _ _ _ [] _ _ hg
        rw [e1]
        dsimp only
        rw [glued_flatP]
        by_cases hlt : st < x.length
        · rw [if_pos (by omega), flatP_one, e2, slice_end x hst]; exact h
        · rw [if_neg (by omega), e2, ← h, List.drop_of_length_le (by omega), List.append_nil]
      · cases h
    · cases h
  · rw [if_neg (by simpa using hm)] at h
    injection h with h
    rw [if_pos (by rw [decide_eq_false hm] at hf; simpa using hf)]
    exact h
noncomputable def okC (x : List Nat) : Option Bool :=
  if x.all (fun c => decide (c < 128)) && decide (x.length ≤ 200) then (match stripL x with
    | some r => if r.all (fun c => decide (c < 128)) then some (chkGo (tk r 0 false) 0) else none
    | none => none)
  else none
noncomputable def TxOk (x : Str) (b : Bool) : Prop := (x.cps.all (· < 128) = true ∧ x.length ≤ 200 ∧ (strip x).cps.all (· < 128) = true) ∧ chk x = b
theorem all_list (a : Array Nat) : a.all (· < 128) = a.toList.all (fun c => decide (c < 128)) := by
  rw [← Array.all_toList]
theorem txOk {x : Str} {l : List Nat} {b : Bool} (e : x.cps.toList = l) (h : okC l = some b) : TxOk x b := by
  subst e
  unfold okC at h
  split at h
  · rename_i hc
    rw [Bool.and_eq_true] at hc
    split at h
    · rename_i r hr
      split at h
      · rename_i ha
        have es := strip_list hr
        injection h with h
        refine ⟨⟨by rw [all_list]; exact hc.1, ?_, by rw [all_list, es]; exact ha⟩, by unfold chk; rw [es]; exact h⟩
        have := of_decide_eq_true hc.2
        simpa [Str.length] using this
      · cases h
    · cases h
  · cases h
noncomputable def leafL (c : Nat) : List Nat := if c = 34 then [40, 92, 34, 41] else if c = 40 ∨ c = 41 then [40, 34, c, 34, 41] else [40, c, 41]
theorem leaf_list (c : Nat) : (leaf c).cps.toList = leafL c := by unfold leaf leafL; split <;> (try split) <;> rfl
noncomputable def segF (lf : Nat → List Nat) (hn : Nat → Nat) : Nat → List Nat
  | 0 => lf 0
  | n + 1 => segF lf hn n ++ (List.replicate (hn n) 41 ++ List.replicate (hn n) 40 ++ lf (n + 1))
theorem mul_list {y : String} {c k : Nat} (hy : Str.ofString y = ⟨#[c]⟩) (hk : k ≤ 2) : (Txt.mul (Str.ofString y) (k : Int)).cps.toList = List.replicate k c := by
  rw [hy]
  have : k = 0 ∨ k = 1 ∨ k = 2 := by omega
  rcases this with rfl | rfl | rfl <;> rfl
theorem app_list (x y : Str) : (x ++ y).cps.toList = x.cps.toList ++ y.cps.toList := by
  show (x.cps ++ y.cps).toList = _
  simp
theorem op_eq : Str.ofString "(" = ⟨#[40]⟩ := by decide +kernel
theorem cl_eq : Str.ofString ")" = ⟨#[41]⟩ := by decide +kernel
theorem seg_list {ls : List Str} {hs : List Int} {f : Nat} {lf : Nat → List Nat} {hn : Nat → Nat} : ∀ (n : Nat), (∀ i, i ≤ n → (ls.getD (f + i) Str.empty).cps.toList = lf i) → (∀ i, i < n → hs.getD (f + i) 0 = ((hn i : Nat) : Int) ∧ hn i ≤ 2) →
    (strG ls hs f n).cps.toList = segF lf hn n
  | 0, h1, _ => h1 0 (by omega)
  | n + 1, h1, h2 => by
    unfold strG segF
    obtain ⟨e, b⟩ := h2 n (by omega)
    rw [app_list, app_list, app_list, seg_list n (fun i hi => h1 i (by omega)) (fun i hi => h2 i (by omega)), e, mul_list cl_eq b, mul_list op_eq b]
    congr 2
    exact h1 (n + 1) (by omega)
noncomputable def txtL (c : Nat) (hs : List Nat) (k : Nat) : List Nat := List.replicate k 40 ++ segF (fun i => leafL (c + i)) (fun i => hs.getD i 0) hs.length ++ List.replicate k 41
noncomputable def mx (hs : List Nat) : Nat := hs.foldl max 0
noncomputable def okP (c : Nat) (hs : List Nat) : Bool := (okC (txtL c hs (mx hs)) == some true) && (if mx hs = 0 then true else okC (txtL c hs (mx hs - 1)) == some false)
noncomputable def okW (c : Nat) (hs : List Nat) : Bool := okC (txtL c hs 2) == some true
noncomputable def outL (x rest : List Nat) (p st : Nat) (r : List Nat) : Option (List Nat) := match goL x x.length (tk rest p false) st none r with
  | some (a, b) => if a ≤ x.length then some (b ++ x.drop a) else none
  | none => none
noncomputable def Strips (rest u : List Nat) : Prop := ∀ (pre r : List Nat) (st : Nat), st ≤ pre.length → outL (pre ++ rest) rest pre.length st r = some (r ++ pre.drop st ++ u)
theorem sing_ne {a b : Nat} (h : a ≠ b) : ¬ [a] = [b] := fun e => h (List.cons.inj e).1
theorem two_ne {a b c : Nat} : ¬ [a, b] = [c] := fun e => by cases (List.cons.inj e).2
theorem strips_nil : Strips [] [] := fun pre r st h => by
  unfold outL
  rw [tk, goL, List.append_nil, List.append_nil]
  exact if_pos h
theorem strips_c {c : Nat} {rest u : List Nat} (h1 : c ≠ 34) (h2 : c ≠ 92) (h : Strips rest u) : Strips (c :: rest) (c :: u) := fun pre r st hs => by
  have q := h (pre ++ [c]) r st (by rw [List.length_append]; exact Nat.le_add_right_of_le hs)
  unfold outL at q ⊢
  rw [tk, if_neg h2, goL, if_neg (sing_ne h1), show pre ++ c :: rest = (pre ++ [c]) ++ rest by simp]
  rw [List.drop_append_of_le_length hs, List.length_append (as := pre) (bs := [c])] at q
  rw [show r ++ pre.drop st ++ c :: u = r ++ (pre.drop st ++ [c]) ++ u by simp]
  exact q
theorem strips_e {c : Nat} {rest u : List Nat} (h : Strips rest u) : Strips (92 :: c :: rest) (92 :: c :: u) := fun pre r st hs => by
  have q := h (pre ++ [92, c]) r st (by rw [List.length_append]; exact Nat.le_add_right_of_le hs)
  unfold outL at q ⊢
  rw [tk, if_pos rfl, tk, goL, if_neg two_ne, show pre ++ 92 :: c :: rest = (pre ++ [92, c]) ++ rest by simp]
  rw [List.drop_append_of_le_length hs, List.length_append (as := pre) (bs := [92, c])] at q
  rw [show r ++ pre.drop st ++ 92 :: c :: u = r ++ (pre.drop st ++ [92, c]) ++ u by simp]
  exact q
theorem strips_q {c : Nat} {rest u : List Nat} (h1 : c ≠ 34) (h2 : c ≠ 92) (h : Strips rest u) : Strips (34 :: c :: 34 :: rest) u := fun pre r st hs => by
  have q := h (pre ++ [34, c, 34]) (r ++ pre.drop st) (pre.length + 3) (by rw [List.length_append]; exact Nat.le_refl _)
  unfold outL at q ⊢
  have hd : (pre ++ [34, c, 34]).drop (pre.length + 3) = [] := List.drop_of_length_le (by rw [List.length_append]; exact Nat.le_refl _)
  rw [hd, List.length_append (as := pre) (bs := [34, c, 34]), List.append_nil] at q
  have e : pre ++ 34 :: c :: 34 :: rest = (pre ++ [34, c, 34]) ++ rest := by simp
  have hn : pre.length ≤ ((pre ++ [34, c, 34]) ++ rest).length := by simp only [List.length_append]; omega
  have ht : (((pre ++ [34, c, 34]) ++ rest).drop st).take (pre.length - st) = pre.drop st := by
    rw [← e, List.drop_append_of_le_length hs, List.take_append_of_le_length (by rw [List.length_drop]; exact Nat.le_refl _), List.take_of_length_le (by rw [List.length_drop]; exact Nat.le_refl _)]
  rw [tk, if_neg (by decide), tk, if_neg h2, tk, if_neg (by decide), goL, if_pos rfl, e]
  rw [goL, if_neg (sing_ne h1), goL, if_pos rfl]
  rw [if_pos ⟨hs, hn⟩, ht]
  exact q
theorem goL_none {x : List Nat} {n : Nat} : ∀ (rest : List Nat) (i st : Nat) (e : Bool) (r : List Nat), 34 ∉ rest → goL x n (tk rest i e) st none r = some (st, r)
  | [], i, st, true, r, _ => by rw [tk, goL, if_neg (by decide), goL]
  | [], i, st, false, r, _ => by rw [tk, goL]
  | c :: rest, i, st, true, r, h => by rw [tk, goL, if_neg two_ne]; exact goL_none rest _ _ _ _ fun q => h (.tail _ q)
  | c :: rest, i, st, false, r, h => by
    rw [tk]
    have h' : 34 ∉ rest := fun q => h (.tail _ q)
    split
    · exact goL_none rest _ _ _ _ h'
    · rw [goL, if_neg (sing_ne fun (e : c = 34) => h (by rw [e]; exact .head _))]; exact goL_none rest _ _ _ _ h'
theorem stripL_of {x u : List Nat} (h : Strips x u) : stripL x = some u := by
  have q := h [] [] 0 (Nat.le_refl _)
  unfold stripL
  by_cases hm : 34 ∈ x
  · rw [if_pos (by simpa using hm)]; exact q
  · rw [if_neg (by simpa using hm), ← show outL x x 0 0 [] = some u from q]
    unfold outL
    rw [goL_none x 0 0 false [] hm]
    exact (if_pos (Nat.zero_le _)).symm
noncomputable def PS (a b : List Nat) : Prop := ∀ rest u, Strips rest u → Strips (a ++ rest) (b ++ u)
theorem ps_app {a b a' b' : List Nat} (h : PS a b) (h' : PS a' b') : PS (a ++ a') (b ++ b') := fun rest u q => by rw [List.append_assoc, List.append_assoc]; exact h _ _ (h' _ _ q)
theorem ps_rep {c : Nat} (h1 : c ≠ 34) (h2 : c ≠ 92) : ∀ k, PS (List.replicate k c) (List.replicate k c)
  | 0 => fun _ _ q => q
  | k + 1 => fun rest u q => by rw [List.replicate_succ]; exact strips_c h1 h2 (ps_rep h1 h2 k rest u q)
noncomputable def leafU (c : Nat) : List Nat := if c = 34 then [40, 92, 34, 41] else if c = 40 ∨ c = 41 then [40, 41] else [40, c, 41]
theorem ps_leaf {c : Nat} (h : c ≠ 92) : PS (leafL c) (leafU c) := fun rest u q => by
  have q' := strips_c (c := 41) (by decide) (by decide) q
  unfold leafL leafU
  by_cases e : c = 34
  · rw [if_pos e, if_pos e]; exact strips_c (by decide) (by decide) (strips_e q')
  · rw [if_neg e, if_neg e]
    by_cases e' : c = 40 ∨ c = 41
    · rw [if_pos e', if_pos e']; exact strips_c (by decide) (by decide) (strips_q e h q')
    · rw [if_neg e', if_neg e']; exact strips_c (by decide) (by decide) (strips_c e h q')
theorem ps_seg {lf lu : Nat → List Nat} {hn : Nat → Nat} : ∀ n, (∀ i, i ≤ n → PS (lf i) (lu i)) → PS (segF lf hn n) (segF lu hn n)
  | 0, h => h 0 (Nat.le_refl _)
  | n + 1, h => ps_app (ps_seg n fun i hi => h i (Nat.le_succ_of_le hi)) (ps_app (ps_app (ps_rep (by decide) (by decide) _) (ps_rep (by decide) (by decide) _)) (h (n + 1) (Nat.le_refl _)))
theorem chk_i : ∀ (r : List Nat) (i j : Nat) (e : Bool) (o : Nat), chkGo (tk r i e) o = chkGo (tk r j e) o
  | [], _, _, true, _ => by rw [tk, tk]; rfl
  | [], _, _, false, _ => rfl
  | c :: r, i, j, true, o => by rw [tk, tk, chkGo, chkGo, if_neg two_ne, if_neg two_ne, if_neg two_ne, if_neg two_ne]; exact chk_i r _ _ _ _
  | c :: r, i, j, false, o => by
    rw [tk, tk]
    split
    · exact chk_i r _ _ _ _
    · rw [chkGo, chkGo]
      split
      · exact chk_i r _ _ _ _
      · split
        · split
          · rfl
          · exact chk_i r _ _ _ _
        · exact chk_i r _ _ _ _
noncomputable def ck (r : List Nat) (o : Nat) : Bool := chkGo (tk r 0 false) o
theorem ck_c {c o : Nat} {r : List Nat} (h1 : c ≠ 40) (h2 : c ≠ 41) (h3 : c ≠ 92) : ck (c :: r) o = ck r o := by
  unfold ck; rw [tk, if_neg h3, chkGo, if_neg (sing_ne h1), if_neg (sing_ne h2)]; exact chk_i r _ _ _ _
theorem ck_e {c o : Nat} {r : List Nat} : ck (92 :: c :: r) o = ck r o := by
  unfold ck; rw [tk, if_pos rfl, tk, chkGo, if_neg two_ne, if_neg two_ne]; exact chk_i r _ _ _ _
theorem ck_o {o : Nat} {r : List Nat} : ck (40 :: r) o = ck r (o + 1) := by
  unfold ck; rw [tk, if_neg (by decide), chkGo, if_pos rfl]; exact chk_i r _ _ _ _
theorem ck_z {r : List Nat} : ck (41 :: r) 0 = false := by
  unfold ck; rw [tk, if_neg (by decide), chkGo, if_neg (by decide), if_pos rfl]; rfl
theorem ck_s {o : Nat} {r : List Nat} : ck (41 :: r) (o + 1) = ck r o := by
  unfold ck; rw [tk, if_neg (by decide), chkGo, if_neg (by decide), if_pos rfl, if_neg (Nat.succ_ne_zero _)]; exact chk_i r _ _ _ _
theorem ck_os : ∀ (k o : Nat) (r : List Nat), ck (List.replicate k 40 ++ r) o = ck r (o + k)
  | 0, _, _ => rfl
  | k + 1, o, r => by rw [List.replicate_succ, List.cons_append, ck_o, ck_os k, Nat.add_assoc, Nat.add_comm 1 k]
theorem ck_cs : ∀ (k o : Nat) (r : List Nat), ck (List.replicate k 41 ++ r) (o + k) = ck r o
  | 0, _, _ => rfl
  | k + 1, o, r => by rw [List.replicate_succ, List.cons_append, ← Nat.add_assoc, ck_s, ck_cs k]
theorem ck_cf : ∀ (k o : Nat) (r : List Nat), o < k → ck (List.replicate k 41 ++ r) o = false
  | k + 1, 0, r, _ => by rw [List.replicate_succ, List.cons_append, ck_z]
  | k + 1, o + 1, r, h => by rw [List.replicate_succ, List.cons_append, ck_s]; exact ck_cf k o r (Nat.lt_of_succ_lt_succ h)
theorem ck_leaf {c o : Nat} {r : List Nat} (h : c ≠ 92) : ck (leafU c ++ r) o = ck r o := by
  unfold leafU
  split
  · show ck (40 :: 92 :: 34 :: 41 :: r) o = _; rw [ck_o, ck_e, ck_s]
  · split
    · show ck (40 :: 41 :: r) o = _; rw [ck_o, ck_s]
    · rename_i e; show ck (40 :: c :: 41 :: r) o = _; rw [ck_o, ck_c (fun q => e (.inl q)) (fun q => e (.inr q)) h, ck_s]
theorem ck_seg {lu : Nat → List Nat} {hn : Nat → Nat} {o : Nat} : ∀ (n : Nat) (r : List Nat), (∀ i, i ≤ n → ∀ r, ck (lu i ++ r) o = ck r o) → (∀ i, i < n → hn i ≤ o) → ck (segF lu hn n ++ r) o = ck r o
  | 0, r, h, _ => h 0 (Nat.le_refl _) r
  | n + 1, r, h, hh => by
    have hb := hh n (Nat.lt_succ_self n)
    rw [segF, List.append_assoc, ck_seg n _ (fun i hi => h i (Nat.le_succ_of_le hi)) (fun i hi => hh i (Nat.lt_succ_of_lt hi)), List.append_assoc, List.append_assoc]
    conv => lhs; rw [← Nat.sub_add_cancel hb]
    rw [ck_cs, ck_os, Nat.sub_add_cancel hb]
    exact h (n + 1) (Nat.le_refl _) r
theorem ck_segF {lu : Nat → List Nat} {hn : Nat → Nat} {o : Nat} : ∀ (n : Nat) (r : List Nat), (∀ i, i ≤ n → ∀ r, ck (lu i ++ r) o = ck r o) → (∃ i, i < n ∧ o < hn i) → ck (segF lu hn n ++ r) o = false
  | 0, _, _, h => by obtain ⟨i, hi, _⟩ := h; cases hi
  | n + 1, r, h, hx => by
    rw [segF, List.append_assoc]
    have h' : ∀ i, i ≤ n → ∀ r, ck (lu i ++ r) o = ck r o := fun i hi => h i (Nat.le_succ_of_le hi)
    by_cases q : ∃ i, i < n ∧ o < hn i
    · exact ck_segF n _ h' q
    · rw [ck_seg n _ h' (fun i hi => Nat.le_of_not_lt fun w => q ⟨i, hi, w⟩), List.append_assoc, List.append_assoc]
      obtain ⟨i, hi, ho⟩ := hx
      have : i = n := Nat.le_antisymm (Nat.le_of_lt_succ hi) (Nat.le_of_not_lt fun w => q ⟨i, w, ho⟩)
      exact ck_cf _ _ _ (this ▸ ho)
theorem seg_all {p : Nat → Bool} {lf : Nat → List Nat} {hn : Nat → Nat} (h0 : p 40 = true) (h1 : p 41 = true) : ∀ n, (∀ i, i ≤ n → (lf i).all p = true) → (segF lf hn n).all p = true
  | 0, h => h 0 (Nat.le_refl _)
  | n + 1, h => by
    rw [segF, List.all_append, List.all_append, List.all_append, seg_all h0 h1 n (fun i hi => h i (Nat.le_succ_of_le hi)), h (n + 1) (Nat.le_refl _), List.all_replicate, List.all_replicate, h0, h1]
    simp
theorem seg_len {lf : Nat → List Nat} {hn : Nat → Nat} : ∀ n, (∀ i, i ≤ n → (lf i).length ≤ 5) → (∀ i, i < n → hn i ≤ 2) → (segF lf hn n).length ≤ 9 * n + 5
  | 0, h, _ => h 0 (Nat.le_refl _)
  | n + 1, h, hb => by
    have a := seg_len n (fun i hi => h i (Nat.le_succ_of_le hi)) fun i hi => hb i (Nat.lt_succ_of_lt hi)
    have b := h (n + 1) (Nat.le_refl _)
    have c := hb n (Nat.lt_succ_self n)
    rw [segF, List.length_append, List.length_append, List.length_append, List.length_replicate, List.length_replicate]
    omega
theorem mx_le (k : Nat) : ∀ (l : List Nat) (a : Nat), l.foldl max a ≤ k ↔ a ≤ k ∧ ∀ v ∈ l, v ≤ k
  | [], a => by simp
  | b :: l, a => by
    rw [List.foldl_cons, mx_le k l, Nat.max_le]
    simp [and_assoc]
theorem okC_of {c : Nat} {hs : List Nat} {k : Nat} (h1 : hs.length ≤ 4) (hc : 33 ≤ c ∧ c + hs.length ≤ 41) (hb : ∀ v ∈ hs, v ≤ 2) (hk : k ≤ 2) : okC (txtL c hs k) = some (decide (mx hs ≤ k)) := by
  have hn : ∀ i, i < hs.length → hs.getD i 0 ∈ hs := fun i hi => by rw [List.getD_eq_getElem?_getD, List.getElem?_eq_getElem hi]; exact List.getElem_mem hi
  have n92 : ∀ i, i ≤ hs.length → c + i ≠ 92 := fun i hi => by omega
  have hS : stripL (txtL c hs k) = some (List.replicate k 40 ++ segF (fun i => leafU (c + i)) (fun i => hs.getD i 0) hs.length ++ List.replicate k 41) := by
    have := ps_app (ps_app (ps_rep (c := 40) (by decide) (by decide) k) (ps_seg (lf := fun i => leafL (c + i)) (lu := fun i => leafU (c + i)) (hn := fun i => hs.getD i 0) hs.length fun i hi => ps_leaf (n92 i hi))) (ps_rep (c := 41) (by decide) (by decide) k) [] [] strips_nil
    rw [List.append_nil, List.append_nil] at this
    exact stripL_of this
  have hA : (txtL c hs k).all (fun c => decide (c < 128)) = true := by
    unfold txtL
    rw [List.all_append, List.all_append, seg_all rfl rfl _ (fun i hi => ?_), List.all_replicate, List.all_replicate]
    · simp
    · have : c + i < 128 := by omega
      show (leafL (c + i)).all _ = true
      unfold leafL; split <;> (try split) <;> simp [this]
  have hB : (List.replicate k 40 ++ segF (fun i => leafU (c + i)) (fun i => hs.getD i 0) hs.length ++ List.replicate k 41).all (fun c => decide (c < 128)) = true := by
    rw [List.all_append, List.all_append, seg_all rfl rfl _ (fun i hi => ?_), List.all_replicate, List.all_replicate]
    · simp
    · have : c + i < 128 := by omega
      show (leafU (c + i)).all _ = true
      unfold leafU; split <;> (try split) <;> simp [this]
  have hL : (txtL c hs k).length ≤ 200 := by
    have := seg_len (lf := fun i => leafL (c + i)) (hn := fun i => hs.getD i 0) hs.length (fun i _ => by show (leafL (c + i)).length ≤ 5; unfold leafL; split <;> (try split) <;> simp) fun i hi => hb _ (hn i hi)
    unfold txtL
    rw [List.length_append, List.length_append, List.length_replicate, List.length_replicate]
    omega
  have hl : ∀ i, i ≤ hs.length → ∀ r o, ck (leafU (c + i) ++ r) o = ck r o := fun i hi r o => ck_leaf (n92 i hi)
  have hC : ck (List.replicate k 40 ++ segF (fun i => leafU (c + i)) (fun i => hs.getD i 0) hs.length ++ List.replicate k 41) 0 = decide (mx hs ≤ k) := by
    rw [List.append_assoc, ck_os, Nat.zero_add]
    by_cases hm : mx hs ≤ k
    · rw [ck_seg _ _ (fun i hi r => hl i hi r k) (fun i hi => ((mx_le k hs 0).mp hm).2 _ (hn i hi)), decide_eq_true hm]
      have := ck_cs k 0 []
      rw [Nat.zero_add, List.append_nil] at this
      exact this
    · rw [decide_eq_false hm]
      refine ck_segF _ _ (fun i hi r => hl i hi r k) ?_
      have : ¬ ∀ v ∈ hs, v ≤ k := fun w => hm ((mx_le k hs 0).mpr ⟨Nat.zero_le _, w⟩)
      obtain ⟨v, hv⟩ := Classical.not_forall.mp this
      obtain ⟨hv, hw⟩ := Classical.not_imp.mp hv
      obtain ⟨i, hi, e⟩ := List.getElem_of_mem hv
      exact ⟨i, hi, by show k < hs.getD i 0; rw [List.getD_eq_getElem?_getD, List.getElem?_eq_getElem hi]; show k < hs[i]; rw [e]; exact Nat.lt_of_not_le hw⟩
  unfold okC
  rw [hA, decide_eq_true hL, hS]
  dsimp only
  rw [hB]
  exact congrArg some hC
theorem mx_two {hs : List Nat} (hb : ∀ v ∈ hs, v ≤ 2) : mx hs ≤ 2 := (mx_le 2 hs 0).mpr ⟨by decide, hb⟩
theorem okP_all {c : Nat} {hs : List Nat} (h1 : hs.length = 1 ∨ hs.length = 2 ∨ hs.length = 3 ∨ hs.length = 4) (hc : 33 ≤ c ∧ c + hs.length ≤ 41) (hb : ∀ v ∈ hs, v ≤ 2) : okP c hs = true := by
  have h4 : hs.length ≤ 4 := by omega
  have h2 := mx_two hb
  unfold okP
  rw [okC_of h4 hc hb h2, okC_of h4 hc hb (Nat.le_trans (Nat.sub_le _ _) h2), decide_eq_true (Nat.le_refl _)]
  by_cases h0 : mx hs = 0
  · rw [if_pos h0]; rfl
  · rw [if_neg h0, decide_eq_false (by omega)]; rfl
theorem okW_all {c : Nat} {hs : List Nat} (h1 : hs.length = 4) (hc : 33 ≤ c ∧ c ≤ 37) (hb : ∀ v ∈ hs, v ≤ 2) : okW c hs = true := by
  unfold okW
  rw [okC_of (by omega) (by omega) hb (by decide), decide_eq_true (mx_two hb)]; rfl
noncomputable def hh (A B A' B' : Nat) : Nat := if A = A' then (if B = B' then 0 else 1) else 2
theorem hh_le (A B A' B' : Nat) : hh A B A' B' ≤ 2 := by unfold hh; split <;> (try split) <;> decide
theorem hh_comp {A B A' B' A'' B'' : Nat} (h : A ≤ A' ∧ A' ≤ A'' ∧ B ≤ B' ∧ B' ≤ B'') : max (hh A B A' B') (hh A' B' A'' B'') = hh A B A'' B'' := by
  obtain ⟨h1, h2, h3, h4⟩ := h
  by_cases a : A = A''
  · have e1 : A = A' := Nat.le_antisymm h1 (a ▸ h2)
    have e2 : A' = A'' := e1.symm.trans a
    unfold hh
    rw [if_pos e1, if_pos e2, if_pos a]
    by_cases b : B = B''
    · have f1 : B = B' := Nat.le_antisymm h3 (b ▸ h4)
      rw [if_pos f1, if_pos (f1.symm.trans b), if_pos b]; rfl
    · rw [if_neg b]
      by_cases f1 : B = B'
      · rw [if_pos f1, if_neg (fun e => b (f1.trans e))]; rfl
      · rw [if_neg f1]; split <;> rfl
  · have hA : hh A B A'' B'' = 2 := by unfold hh; rw [if_neg a]
    rw [hA]
    by_cases e1 : A = A'
    · have e2 : hh A' B' A'' B'' = 2 := by unfold hh; rw [if_neg (fun e => a (e1.trans e))]
      rw [e2]; exact Nat.max_eq_right (hh_le _ _ _ _)
    · have e2 : hh A B A' B' = 2 := by unfold hh; rw [if_neg e1]
      rw [e2]; exact Nat.max_eq_left (hh_le _ _ _ _)
theorem num_q1 {A B C : Int} (hb : 64 ≤ B) (ha : 64 ≤ A) (hc : 0 ≤ C ∧ C ≤ 41) : (((128 + A - 192) * 64 + (B - 64)) * 64 + C).fdiv 64 = (A - 64) * 64 + (B - 64) := by
  rw [Int.fdiv_eq_ediv_of_nonneg _ (by decide)]; omega
theorem num_q2 {A B C : Int} (hb : 73 ≤ B ∧ B ≤ 77) (hc : 0 ≤ C ∧ C ≤ 41) : (((128 + A - 192) * 64 + (B - 64)) * 64 + C).fdiv 4096 = A - 64 := by
  rw [Int.fdiv_eq_ediv_of_nonneg _ (by decide)]; omega
theorem num_ne {A B A' B' : Nat} (hb : 73 ≤ B ∧ B ≤ 77) (hb' : 73 ≤ B' ∧ B' ≤ 77) (h : B ≠ B') : ¬ ((A : Int) - 64) * 64 + ((B : Int) - 64) = ((A' : Int) - 64) * 64 + ((B' : Int) - 64) := by omega
theorem cast_b {n lo hi : Nat} (h : lo ≤ n ∧ n ≤ hi) : (lo : Int) ≤ (n : Int) ∧ (n : Int) ≤ (hi : Int) := ⟨Int.ofNat_le.mpr h.1, Int.ofNat_le.mpr h.2⟩
theorem ht_num {A B C A' B' C' : Nat} (ha : 65 ≤ A ∧ A ≤ 69) (hb : 73 ≤ B ∧ B ≤ 77) (hc : 33 ≤ C ∧ C ≤ 41) (ha' : 65 ≤ A' ∧ A' ≤ 69) (hb' : 73 ≤ B' ∧ B' ≤ 77) (hc' : 33 ≤ C' ∧ C' ≤ 41) (hab : A ≠ A' → B ≠ B') :
    ht (((128 + (A : Int) - 192) * 64 + ((B : Int) - 64)) * 64 + (C : Int)) (((128 + (A' : Int) - 192) * 64 + ((B' : Int) - 64)) * 64 + (C' : Int)) = ((hh A B A' B' : Nat) : Int) := by
  have q (n : Nat) (h : 33 ≤ n ∧ n ≤ 41) : (0 : Int) ≤ (n : Int) ∧ (n : Int) ≤ 41 := ⟨Int.natCast_nonneg n, (cast_b h).2⟩
  have r (n : Nat) (h : 73 ≤ n ∧ n ≤ 77) : (64 : Int) ≤ (n : Int) := Int.le_trans (by decide) (cast_b h).1
  have r' (n : Nat) (h : 65 ≤ n ∧ n ≤ 69) : (64 : Int) ≤ (n : Int) := Int.le_trans (by decide) (cast_b h).1
  unfold ht hh
  rw [num_q1 (r B hb) (r' A ha) (q C hc), num_q1 (r B' hb') (r' A' ha') (q C' hc'), num_q2 (cast_b hb) (q C hc), num_q2 (cast_b hb') (q C' hc')]
  clear q r r' ha ha' hc hc'
  by_cases h1 : A = A'
  · subst h1
    rw [if_pos rfl (c := (A : Int) - 64 = (A : Int) - 64)]
    by_cases h2 : B = B'
    · subst h2; rw [if_pos rfl, if_pos rfl, if_pos rfl]; rfl
    · rw [if_neg (num_ne hb hb' h2), if_pos rfl, if_neg h2]; rfl
  · rw [if_neg (num_ne hb hb' (hab h1)), if_neg (fun e => h1 (by omega)), if_neg h1]; rfl
theorem num_rng {A B C : Nat} (ha : 65 ≤ A ∧ A ≤ 69) (hb : 73 ≤ B ∧ B ≤ 77) (hc : 33 ≤ C ∧ C ≤ 41) : 0 ≤ ((128 + (A : Int) - 192) * 64 + ((B : Int) - 64)) * 64 + (C : Int) ∧ ((128 + (A : Int) - 192) * 64 + ((B : Int) - 64)) * 64 + (C : Int) ≤ 1000000 := by omega
theorem seg_text {ls : List Str} {hs : List Int} {f n c : Nat} {h4 : List Nat} {k : Nat} (hk : k ≤ 2) (hlen : h4.length = n) (h1 : ∀ i, i ≤ n → ls.getD (f + i) Str.empty = leaf (c + i)) (h2 : ∀ i, i < n → hs.getD (f + i) 0 = ((h4.getD i 0 : Nat) : Int) ∧ h4.getD i 0 ≤ 2) :
    (Txt.mul (Str.ofString "(") (k : Int) ++ strG ls hs f n ++ Txt.mul (Str.ofString ")") (k : Int)).cps.toList = txtL c h4 k := by
  rw [app_list, app_list, mul_list op_eq hk, mul_list cl_eq hk, seg_list (lf := fun i => leafL (c + i)) (hn := fun i => h4.getD i 0) n (fun i hi => by rw [h1 i hi, leaf_list]) h2]
  subst hlen; rfl
theorem pair_text {ls : List Str} {hs : List Int} {f n c : Nat} {h4 : List Nat} {H : Nat} (hH : mx h4 = H) (hlen : h4.length = n) (hc : 33 ≤ c ∧ c + n ≤ 41) (h0 : n = 1 ∨ n = 2 ∨ n = 3 ∨ n = 4) (hb : ∀ v ∈ h4, v ≤ 2) (h1 : ∀ i, i ≤ n → ls.getD (f + i) Str.empty = leaf (c + i)) (h2 : ∀ i, i < n → hs.getD (f + i) 0 = ((h4.getD i 0 : Nat) : Int) ∧ h4.getD i 0 ≤ 2) (hH2 : H ≤ 2) :
    TxOk (Txt.mul (Str.ofString "(") (H : Int) ++ strG ls hs f n ++ Txt.mul (Str.ofString ")") (H : Int)) true ∧ (H ≠ 0 → TxOk (Txt.mul (Str.ofString "(") ((H - 1 : Nat) : Int) ++ strG ls hs f n ++ Txt.mul (Str.ofString ")") ((H - 1 : Nat) : Int)) false) := by
  have hp := okP_all (c := c) (hs := h4) (by rw [hlen]; exact h0) (by rw [hlen]; exact hc) hb
  unfold okP at hp
  rw [Bool.and_eq_true, hH] at hp
  refine ⟨txOk (seg_text hH2 hlen h1 h2) (by simpa using hp.1), fun hne => ?_⟩
  have := hp.2
  rw [if_neg hne] at this
  exact txOk (seg_text (by omega) hlen h1 h2) (by simpa using this)
end Mine
namespace Mine
theorem cl_true {N M : Nat} {w : World} {loose : List Str} {mean : ExcName → Option Value} {mg mb : Str → Option Value} {f : Addr} {P : Prop} {vs : List Value} {R : Tok → Value} (h : Cl N M w loose mean mg mb f P vs R) (hp : P) : Cl N M w loose mean mg mb f True vs R := by
  unfold Cl at *
  intros
  exact h _ _ _ _ _ _ _ _ _ _ _ _ _ _ _ _ _ (by assumption) (by assumption) (by assumption) (by assumption) (by assumption) hp (by assumption) (by assumption) (by assumption)
noncomputable def ch3 (A B C : Nat) : Nat → Nat
  | 0 => A
  | 1 => B
  | _ => C
theorem ch3_b {A B C : Nat} (ha : 65 ≤ A ∧ A ≤ 69) (hb : 73 ≤ B ∧ B ≤ 77) (hc : 33 ≤ C ∧ C ≤ 41) : ∀ i, i < 3 → 33 ≤ ch3 A B C i ∧ ch3 A B C i ≤ 90 := by
  intro i hi
  match i, hi with
  | 0, _ => exact ⟨Nat.le_trans (by decide) ha.1, Nat.le_trans ha.2 (by decide)⟩
  | 1, _ => exact ⟨Nat.le_trans (by decide) hb.1, Nat.le_trans hb.2 (by decide)⟩
  | 2, _ => exact ⟨hc.1, Nat.le_trans hc.2 (by decide)⟩
theorem far_ne {a b p q : Nat} (h1 : a ≤ p) (h2 : q ≤ b) (h : p < q) : a ≠ b := Nat.ne_of_lt (Nat.lt_of_le_of_lt h1 (Nat.lt_of_lt_of_le h h2))
theorem ch3_ne {A B C A' B' C' k : Nat} (ha : 65 ≤ A ∧ A ≤ 69) (hb : 73 ≤ B ∧ B ≤ 77) (hc : 33 ≤ C ∧ C ≤ 41) (ha' : 65 ≤ A' ∧ A' ≤ 69) (hb' : 73 ≤ B' ∧ B' ≤ 77) (hc' : 33 ≤ C' ∧ C' ≤ 41) (h0 : k ≤ 0 → A ≠ A') (h1 : k ≤ 1 → B ≠ B') (h2 : C ≠ C') :
    ∀ i j, k ≤ i → i < 3 → k ≤ j → j < 3 → ch3 A B C i ≠ ch3 A' B' C' j := by
  intro i j ki hi kj hj
  match i, j, hi, hj with
  | 0, 0, _, _ => exact h0 ki
  | 0, 1, _, _ => exact far_ne ha.2 hb'.1 (by decide)
  | 0, 2, _, _ => exact Ne.symm (far_ne hc'.2 ha.1 (by decide))
  | 1, 0, _, _ => exact Ne.symm (far_ne ha'.2 hb.1 (by decide))
  | 1, 1, _, _ => exact h1 ki
  | 1, 2, _, _ => exact Ne.symm (far_ne hc'.2 hb.1 (by decide))
  | 2, 0, _, _ => exact far_ne hc.2 ha'.1 (by decide)
  | 2, 1, _, _ => exact far_ne hc.2 hb'.1 (by decide)
  | 2, 2, _, _ => exact h2
theorem lev_ok (w : World) (mean mg mb) {A B C A' B' C' : Nat} (ha : 65 ≤ A ∧ A ≤ 69) (hb : 73 ≤ B ∧ B ≤ 77) (hc : 33 ≤ C ∧ C ≤ 41) (ha' : 65 ≤ A' ∧ A' ≤ 69) (hb' : 73 ≤ B' ∧ B' ≤ 77) (hc' : 33 ≤ C' ∧ C' ≤ 41) (hcc : C ≠ C') (hab : A ≠ A' → B ≠ B') :
    LevC w mean mg mb ⟨#[A, B, C]⟩ ⟨#[A', B', C']⟩ (2 * ((hh A B A' B' : Nat) : Int) + 1) (2 * ((hh A B A' B' : Nat) : Int) + 2) := by
  have hb3 : ∀ i, i < 3 → (33 ≤ ch3 A B C i ∧ ch3 A B C i ≤ 90) ∧ (33 ≤ ch3 A' B' C' i ∧ ch3 A' B' C' i ≤ 90) := fun i hi => ⟨ch3_b ha hb hc i hi, ch3_b ha' hb' hc' i hi⟩
  refine ⟨fun mc t u v q1 q2 => ?_⟩
  by_cases h1 : A = A'
  · by_cases h2 : B = B'
    · have e : hh A B A' B' = 0 := by unfold hh; rw [if_pos h1, if_pos h2]
      rw [e] at q1 q2 ⊢
      exact cl_true (lev_c w mean mg mb (ch3 A B C) (ch3 A' B' C') 2 mc t u v) ⟨by decide, fun j hj => (match j, hj with | 0, _ => h1 | 1, _ => h2), ch3_ne ha hb hc ha' hb' hc' (fun h => absurd h (by decide)) (fun h => absurd h (by decide)) hcc, hb3, q1, q2⟩
    · have e : hh A B A' B' = 1 := by unfold hh; rw [if_pos h1, if_neg h2]
      rw [e] at q1 q2 ⊢
      exact cl_true (lev_c w mean mg mb (ch3 A B C) (ch3 A' B' C') 1 mc t u v) ⟨by decide, fun j hj => (match j, hj with | 0, _ => h1), ch3_ne ha hb hc ha' hb' hc' (fun h => absurd h (by decide)) (fun _ => h2) hcc, hb3, q1, q2⟩
  · have h2 := hab h1
    have e : hh A B A' B' = 2 := by unfold hh; rw [if_neg h1]
    rw [e] at q1 q2 ⊢
    exact cl_true (lev_c w mean mg mb (ch3 A B C) (ch3 A' B' C') 0 mc t u v) ⟨by decide, fun j hj => absurd hj (Nat.not_lt_zero _), ch3_ne ha hb hc ha' hb' hc' (fun _ => h1) (fun _ => h2) hcc, hb3, q1, q2⟩
theorem d4 {f g : Nat} (fg : f < g) (g4 : g ≤ 4) : g - f = 1 ∨ g - f = 2 ∨ g - f = 3 ∨ g - f = 4 := by omega
theorem d41 {f g c c0 : Nat} (fg : f < g) (g4 : g ≤ 4) (h : c = c0 + f) (h1 : c0 ≤ 37) (h2 : 33 ≤ c0) : 33 ≤ c ∧ c + (g - f) ≤ 41 := by omega
theorem lt45 {i n f : Nat} (hi : i < f + n) (h : f + n ≤ 4) : i < 4 := Nat.lt_of_lt_of_le hi h
theorem pos_ne {H : Nat} (h : (0 : Int) < (H : Int)) : H ≠ 0 := fun e => by rw [e] at h; exact absurd h (by decide)
theorem pred_cast {H : Nat} (h : H ≠ 0) : ((H : Nat) : Int) - 1 = ((H - 1 : Nat) : Int) := by omega
theorem cast_le {v : Int} {lo hi : Nat} (h : (lo : Int) ≤ v ∧ v ≤ (hi : Int)) : v = ((v.toNat : Nat) : Int) ∧ lo ≤ v.toNat ∧ v.toNat ≤ hi := by omega
theorem step_cast {A A' B B' : Nat} {c c' g g' : Int} (ea : 65 + c = (A : Int)) (ea' : 65 + c' = (A' : Int)) (eb : 73 + g = (B : Int)) (eb' : 73 + g' = (B' : Int)) (h : Step g g' c c') : (B' = B ∧ A' = A) ∨ (B' = B + 1 ∧ (A' = A ∨ A' = A + 1)) := by
  unfold Step at h
  rcases h with ⟨h1, h2⟩ | ⟨h1, h2 | h2⟩
  · exact .inl ⟨by omega, by omega⟩
  · exact .inr ⟨by omega, .inl (by omega)⟩
  · exact .inr ⟨by omega, .inr (by omega)⟩
theorem two4 {v k : Int} (h : 0 ≤ v ∧ v ≤ 4) : k ≤ k + v ∧ k + v ≤ k + 4 := by omega
noncomputable def StepN (A B : Nat → Nat) (i : Nat) : Prop := (B (i + 1) = B i ∧ A (i + 1) = A i) ∨ (B (i + 1) = B i + 1 ∧ (A (i + 1) = A i ∨ A (i + 1) = A i + 1))
theorem mono_1 {a a1 a2 b b1 b2 : Nat} (ih : a ≤ a1 ∧ b ≤ b1 ∧ a1 + b ≤ b1 + a) (st : (b2 = b1 ∧ a2 = a1) ∨ (b2 = b1 + 1 ∧ (a2 = a1 ∨ a2 = a1 + 1))) : (a ≤ a2 ∧ b ≤ b2 ∧ a2 + b ≤ b2 + a) ∧ a1 ≤ a2 ∧ b1 ≤ b2 := by
  rcases st with ⟨e1, e2⟩ | ⟨e1, e2 | e2⟩ <;> subst e1 <;> subst e2 <;> omega
theorem mono_n {A B : Nat → Nat} {f : Nat} : ∀ n, (∀ i, i < f + n → StepN A B i) → A f ≤ A (f + n) ∧ B f ≤ B (f + n) ∧ A (f + n) + B f ≤ B (f + n) + A f
  | 0, _ => ⟨Nat.le_refl _, Nat.le_refl _, Nat.le_of_eq (Nat.add_comm _ _)⟩
  | n + 1, h => (mono_1 (mono_n (A := A) (B := B) (f := f) n fun i hi => h i (Nat.lt_succ_of_lt hi)) (h (f + n) (Nat.lt_succ_self _))).1
noncomputable def htL (A B : Nat → Nat) (f n : Nat) : List Nat := (List.range n).map fun i => hh (A (f + i)) (B (f + i)) (A (f + i + 1)) (B (f + i + 1))
theorem mx_n {A B : Nat → Nat} {f : Nat} : ∀ n, (∀ i, i < f + n → StepN A B i) → mx (htL A B f n) = hh (A f) (B f) (A (f + n)) (B (f + n))
  | 0, _ => by show (0 : Nat) = hh (A f) (B f) (A f) (B f); unfold hh; rw [if_pos rfl, if_pos rfl]
  | n + 1, h => by
    have ih := mx_n (A := A) (B := B) (f := f) n fun i hi => h i (Nat.lt_succ_of_lt hi)
    have m1 := mono_n (A := A) (B := B) (f := f) n fun i hi => h i (Nat.lt_succ_of_lt hi)
    have m2 := (mono_1 m1 (h (f + n) (Nat.lt_succ_self _))).2
    unfold mx htL at ih ⊢
    rw [List.range_succ, List.map_append, List.foldl_append, ih]
    exact hh_comp ⟨m1.1, m2.1, m1.2.1, m2.2⟩
noncomputable def aN (cs : List Int) (i : Nat) : Nat := (65 + cs.getD i 0).toNat
noncomputable def bN (gs : List Int) (i : Nat) : Nat := (73 + gs.getD i 0).toNat
noncomputable def cN (z : Int) (i : Nat) : Nat := (sgn z i).toNat
noncomputable def wordsL (z : Int) (gs cs : List Int) : List Str := (List.range 5).map fun i => ⟨#[aN cs i, bN gs i, cN z i]⟩
noncomputable def leavesL (z : Int) : List Str := (List.range 5).map fun i => leaf (cN z i)
theorem getD_range {α : Type} {f : Nat → α} {i : Nat} {d : α} (hi : i < 5) : ((List.range 5).map f).getD i d = f i := by
  rw [List.getD_eq_getElem?_getD, List.getElem?_map, List.getElem?_range hi]; rfl
section
variable {z : Int} {gs cs : List Int} (hb : ∀ i, i < 5 → (0 ≤ cs.getD i 0 ∧ cs.getD i 0 ≤ 4) ∧ (0 ≤ gs.getD i 0 ∧ gs.getD i 0 ≤ 4))
include hb
theorem a_cast {i : Nat} (hi : i < 5) : (65 + cs.getD i 0) = ((aN cs i : Nat) : Int) ∧ 65 ≤ aN cs i ∧ aN cs i ≤ 69 :=
  cast_le (lo := 65) (hi := 69) (two4 (hb i hi).1)
theorem b_cast {i : Nat} (hi : i < 5) : (73 + gs.getD i 0) = ((bN gs i : Nat) : Int) ∧ 73 ≤ bN gs i ∧ bN gs i ≤ 77 :=
  cast_le (lo := 73) (hi := 77) (two4 (hb i hi).2)
omit hb in
theorem c_cast {i : Nat} (hi : i < 5) : sgn z i = ((cN z i : Nat) : Int) ∧ 33 ≤ cN z i ∧ cN z i ≤ 41 ∧ cN z i = cN z 0 + i ∧ cN z 0 ≤ 37 ∧ 33 ≤ cN z 0 := by
  have h1 := Int.fmod_nonneg_of_pos z (show (0 : Int) < 5 by decide)
  have h2 := Int.fmod_lt_of_pos z (show (0 : Int) < 5 by decide)
  unfold cN sgn
  generalize z.fmod 5 = r at h1 h2
  obtain ⟨r, rfl⟩ := Int.eq_ofNat_of_zero_le h1
  have h3 : r < 5 := Int.ofNat_lt.mp h2
  have e : ∀ k : Nat, (33 + (r : Int) + (k : Int)) = ((33 + r + k : Nat) : Int) := fun k => rfl
  rw [e i, e 0]
  clear e h1 h2
  refine ⟨rfl, ?_, ?_, rfl, ?_, ?_⟩
  · show 33 ≤ 33 + r + i; omega
  · show 33 + r + i ≤ 41; omega
  · show 33 + r + 0 ≤ 37; omega
  · show 33 ≤ 33 + r + 0; omega
theorem row_cast {i : Nat} (hi : i < 5) (p q s' : Tok) : rowO z gs cs i p q s' = PySem.W.listOf #[.int ((aN cs i : Nat) : Int) p, .int ((bN gs i : Nat) : Int) q, .int ((cN z i : Nat) : Int) s'] 0 := by
  unfold rowO
  rw [(a_cast hb hi).1, (b_cast hb hi).1, (c_cast hi).1]
theorem rows_in {nw : List (Addr × Obj)} {vR : List Value} (h5 : vR.length = 5) (h : RowsAt nw vR z gs cs) : RowsIn nw vR (wordsL z gs cs) (leavesL z) := by
  intro i v e
  have hi : i < 5 := by rw [← h5]; exact (List.getElem?_eq_some_iff.mp e).1
  obtain ⟨r, p, q, s', rfl, hr⟩ := h i v e
  rw [row_cast hb hi] at hr
  have ha := a_cast hb hi
  have hb' := b_cast hb hi
  have hc := c_cast (z := z) hi
  refine ⟨r, _, _, _, p, q, s', rfl, hr, ?_, ?_, Nat.le_trans ha.2.2 (by decide), Nat.le_trans hb'.2.2 (by decide), hc.2.1, hc.2.2.1⟩
  · unfold wordsL; rw [List.getElem?_map, List.getElem?_range hi]; rfl
  · unfold leavesL; rw [List.getElem?_map, List.getElem?_range hi]; rfl
theorem num_at {i : Nat} (hi : i < 5) : (numsL z gs cs).getD i 0 = (((128 + (aN cs i : Int) - 192) * 64 + ((bN gs i : Int) - 64)) * 64 + (cN z i : Int)) := by
  unfold numsL
  rw [getD_range hi]
  unfold numF
  rw [(a_cast hb hi).1, (b_cast hb hi).1, (c_cast hi).1]
theorem num_b {i : Nat} (hi : i < 5) : 0 ≤ (numsL z gs cs).getD i 0 ∧ (numsL z gs cs).getD i 0 ≤ 1000000 := by
  rw [num_at hb hi]
  exact num_rng (a_cast hb hi).2 (b_cast hb hi).2 ⟨(c_cast hi).2.1, (c_cast hi).2.2.1⟩
variable (hs : ∀ i, i < 4 → Step (gs.getD i 0) (gs.getD (i + 1) 0) (cs.getD i 0) (cs.getD (i + 1) 0))
include hs
theorem step_n {i : Nat} (hi : i < 4) : StepN (aN cs) (bN gs) i := by
  have h5 : i < 5 := Nat.lt_of_lt_of_le hi (by decide)
  have h6 : i + 1 < 5 := Nat.succ_lt_succ hi
  exact step_cast (a_cast hb h5).1 (a_cast hb h6).1 (b_cast hb h5).1 (b_cast hb h6).1 (hs i hi)
theorem ht_at {f g : Nat} (hfg : f ≤ g) (hg : g ≤ 4) : ht ((numsL z gs cs).getD f 0) ((numsL z gs cs).getD g 0) = ((hh (aN cs f) (bN gs f) (aN cs g) (bN gs g) : Nat) : Int) ∧ aN cs f ≤ aN cs g ∧ bN gs f ≤ bN gs g ∧ (aN cs f ≠ aN cs g → bN gs f ≠ bN gs g) := by
  obtain ⟨n, rfl⟩ := Nat.le.dest hfg
  have m := mono_n (A := aN cs) (B := bN gs) (f := f) n fun i hi => step_n hb hs (lt45 hi hg)
  have hg' : f + n < 5 := Nat.lt_succ_of_le hg
  have hf : f < 5 := Nat.lt_of_le_of_lt hfg hg'
  have hab : aN cs f ≠ aN cs (f + n) → bN gs f ≠ bN gs (f + n) := by omega
  refine ⟨?_, m.1, m.2.1, hab⟩
  rw [num_at hb hf, num_at hb hg']
  exact ht_num (a_cast hb hf).2 (b_cast hb hf).2 ⟨(c_cast hf).2.1, (c_cast hf).2.2.1⟩ (a_cast hb hg').2 (b_cast hb hg').2 ⟨(c_cast hg').2.1, (c_cast hg').2.2.1⟩ hab
theorem hts_at {i : Nat} (hi : i < 4) : (htsOf (numsL z gs cs)).getD i 0 = ((hh (aN cs i) (bN gs i) (aN cs (i + 1)) (bN gs (i + 1)) : Nat) : Int) := by
  have e : (htsOf (numsL z gs cs)).getD i 0 = ht ((numsL z gs cs).getD i 0) ((numsL z gs cs).getD (i + 1) 0) := by
    match i, hi with
    | 0, _ => rfl
    | 1, _ => rfl
    | 2, _ => rfl
    | 3, _ => rfl
  rw [e]
  exact (ht_at hb hs (Nat.le_succ i) hi).1
theorem seg_ok {f n k : Nat} (hk : k ≤ 2) (hn : f + n ≤ 4) : (Txt.mul (Str.ofString "(") (k : Int) ++ strG (leavesL z) (htsOf (numsL z gs cs)) f n ++ Txt.mul (Str.ofString ")") (k : Int)).cps.toList = txtL (cN z f) (htL (aN cs) (bN gs) f n) k := by
  refine seg_text hk (by simp [htL]) (fun i hi => ?_) (fun i hi => ?_)
  · unfold leavesL
    rw [getD_range (by omega)]
    congr 1
    have h1 := (c_cast (z := z) (show f + i < 5 by omega)).2.2.2.1
    have h2 := (c_cast (z := z) (show f < 5 by omega)).2.2.2.1
    omega
  · rw [hts_at hb hs (by omega)]
    have e : (htL (aN cs) (bN gs) f n).getD i 0 = hh (aN cs (f + i)) (bN gs (f + i)) (aN cs (f + i + 1)) (bN gs (f + i + 1)) := by
      unfold htL; rw [List.getD_eq_getElem?_getD, List.getElem?_map, List.getElem?_range hi]; rfl
    rw [e]
    exact ⟨rfl, hh_le _ _ _ _⟩
omit hb hs in
theorem hts_le {f n : Nat} : ∀ v ∈ htL (aN cs) (bN gs) f n, v ≤ 2 := by
  intro v hv
  obtain ⟨i, -, rfl⟩ := List.mem_map.mp hv
  exact hh_le _ _ _ _
theorem pair_fact (w : World) (mean mg mb) : ∀ f g : Int, 0 ≤ f → f < g → g ≤ 4 → PairOk w mean mg mb (wordsL z gs cs) (leavesL z) (htsOf (numsL z gs cs)) (numsL z gs cs) f g := by
  intro f g f0 fg g4
  obtain ⟨f, rfl⟩ := Int.eq_ofNat_of_zero_le f0
  obtain ⟨g, rfl⟩ := Int.eq_ofNat_of_zero_le (Int.le_trans f0 (Int.le_of_lt fg))
  replace fg : f < g := Int.ofNat_lt.mp fg
  replace g4 : g ≤ 4 := Int.ofNat_le.mp g4
  clear f0
  have hf : f < 5 := Nat.lt_of_lt_of_le fg (Nat.le_trans g4 (by decide))
  have hg : g < 5 := Nat.lt_succ_of_le g4
  obtain ⟨ht1, mA, mB, hab⟩ := ht_at (z := z) hb hs (Nat.le_of_lt fg) g4
  have cF := c_cast (z := z) hf
  have cG := c_cast (z := z) hg
  have hcc : cN z f < cN z g := by rw [cF.2.2.2.1, cG.2.2.2.1]; exact Nat.add_lt_add_left fg _
  have e1 : ((f : Nat) : Int).toNat = f := rfl
  have e2 : ((g : Nat) : Int).toNat = g := rfl
  have e3 : (((g : Nat) : Int) - ((f : Nat) : Int)).toNat = g - f := Int.toNat_sub g f
  have efg : f + (g - f) = g := Nat.add_sub_cancel' (Nat.le_of_lt fg)
  have efg4 : f + (g - f) ≤ 4 := by rw [efg]; exact g4
  have hl : (htL (aN cs) (bN gs) f (g - f)).length = g - f := by simp only [htL, List.length_map, List.length_range]
  unfold PairOk
  rw [e1, e2, e3]
  have hp := okP_all (c := cN z f) (hs := htL (aN cs) (bN gs) f (g - f)) (by rw [hl]; exact d4 fg g4) (by rw [hl]; exact d41 fg g4 cF.2.2.2.1 cF.2.2.2.2.1 cF.2.2.2.2.2) hts_le
  unfold okP at hp
  rw [mx_n (A := aN cs) (B := bN gs) (f := f) (g - f) (fun i hi => step_n hb hs (lt45 hi efg4)), efg, Bool.and_eq_true] at hp
  have hH := hh_le (aN cs f) (bN gs f) (aN cs g) (bN gs g)
  generalize hHe : hh (aN cs f) (bN gs f) (aN cs g) (bN gs g) = H at hp hH ht1
  have t1 := txOk (seg_ok (z := z) hb hs hH efg4) (by simpa using hp.1)
  refine ⟨⟨#[aN cs f, bN gs f, cN z f]⟩, ⟨#[aN cs g, bN gs g, cN z g]⟩, (H : Int), getD_range hf, getD_range hg, ?_, num_b hb hf, num_b hb hg, ⟨Int.natCast_nonneg H, Int.ofNat_le.mpr hH⟩, ht1, ?_, ?_, t1.1, t1.2, ?_⟩
  · show [aN cs f, bN gs f, cN z f] < [aN cs g, bN gs g, cN z g]
    rw [List.cons_lt_cons_iff, List.cons_lt_cons_iff, List.cons_lt_cons_iff]
    by_cases h1 : aN cs f = aN cs g
    · by_cases h2 : bN gs f = bN gs g
      · exact .inr ⟨h1, .inr ⟨h2, .inl hcc⟩⟩
      · exact .inr ⟨h1, .inl (Nat.lt_of_le_of_ne mB h2)⟩
    · exact .inl (Nat.lt_of_le_of_ne mA h1)
  · rw [← hHe]
    exact lev_ok w mean mg mb (a_cast hb hf).2 (b_cast hb hf).2 ⟨cF.2.1, cF.2.2.1⟩ (a_cast hb hg).2 (b_cast hb hg).2 ⟨cG.2.1, cG.2.2.1⟩ (Nat.ne_of_lt hcc) hab
  · have hsym : hh (aN cs g) (bN gs g) (aN cs f) (bN gs f) = H := by
      rw [← hHe]; unfold hh
      by_cases h1 : aN cs f = aN cs g
      · rw [if_pos h1, if_pos h1.symm]
        by_cases h2 : bN gs f = bN gs g
        · rw [if_pos h2, if_pos h2.symm]
        · rw [if_neg h2, if_neg (Ne.symm h2)]
      · rw [if_neg h1, if_neg (Ne.symm h1)]
    rw [← hsym]
    exact lev_ok w mean mg mb (a_cast hb hg).2 (b_cast hb hg).2 ⟨cG.2.1, cG.2.2.1⟩ (a_cast hb hf).2 (b_cast hb hf).2 ⟨cF.2.1, cF.2.2.1⟩ (Nat.ne_of_gt hcc) (fun h => Ne.symm (hab (Ne.symm h)))
  · intro h0
    have h0' := pos_ne h0
    have hp2 := hp.2
    rw [if_neg h0'] at hp2
    have t2 := txOk (seg_ok (z := z) hb hs (k := H - 1) (Nat.le_trans (Nat.sub_le _ _) hH) efg4) (by simpa using hp2)
    rw [pred_cast h0']
    exact ⟨t2.1, t2.2⟩
theorem text_fact : ∀ (ls : List Str) (hs : List Int), ls = leavesL z → hs = htsOf (numsL z gs cs) → ((Str.cps (Str.ofString "((" ++ strG ls hs 0 4 ++ Str.ofString "))")).all (· < 128) = true ∧ Str.length (Str.ofString "((" ++ strG ls hs 0 4 ++ Str.ofString "))") ≤ 200 ∧ (strip (Str.ofString "((" ++ strG ls hs 0 4 ++ Str.ofString "))")).cps.all (· < 128) = true) ∧ chk (Str.ofString "((" ++ strG ls hs 0 4 ++ Str.ofString "))") = true := by
  rintro _ _ rfl rfl
  have e1 : Str.ofString "((" = Txt.mul (Str.ofString "(") ((2 : Nat) : Int) := by decide +kernel
  have e2 : Str.ofString "))" = Txt.mul (Str.ofString ")") ((2 : Nat) : Int) := by decide +kernel
  rw [e1, e2]
  have hw := okW_all (c := cN z 0) (hs := htL (aN cs) (bN gs) 0 4) (by simp [htL]) ⟨(c_cast (z := z) (show 0 < 5 by decide)).2.2.2.2.2, (c_cast (z := z) (show 0 < 5 by decide)).2.2.2.2.1⟩ hts_le
  exact txOk (seg_ok (z := z) hb hs (by decide) (by decide)) (by simpa [okW] using hw)
omit hb hs in
theorem hts_b : ∀ v ∈ htsOf (numsL z gs cs), (0 : Int) ≤ v ∧ v ≤ 2 := by
  intro v hv
  simp only [htsOf, List.mem_cons, List.not_mem_nil, or_false] at hv
  rcases hv with e | e | e | e <;> subst e <;> (unfold ht; split <;> split <;> decide)
end
theorem leaf_len (c : Nat) : (leaf c).length ≤ 5 := by unfold leaf; split; decide; split; exact (show 5 ≤ 5 by decide); exact (show 3 ≤ 5 by decide)
theorem leaves_b (z : Int) : ∀ v ∈ leavesL z, Str.length v ≤ 5 := by
  intro v hv
  obtain ⟨i, -, rfl⟩ := List.mem_map.mp hv
  exact leaf_len _
end Mine
namespace Mine

theorem step_b {g g' c c' k : Int} (h : Step g g' c c') (hg : 0 ≤ g ∧ g ≤ k) (hc : 0 ≤ c ∧ c ≤ k) : (0 ≤ g' ∧ g' ≤ k + 1) ∧ (0 ≤ c' ∧ c' ≤ k + 1) := by unfold Step at h; omega
theorem four_b {g c k : Int} (h : (0 ≤ g ∧ g ≤ k) ∧ (0 ≤ c ∧ c ≤ k)) (hk : k ≤ 4) : (0 ≤ c ∧ c ≤ 4) ∧ (0 ≤ g ∧ g ≤ 4) := by omega
theorem five_b {g0 g1 g2 g3 g4 c0 c1 c2 c3 c4 : Int} (z1 : g0 = 0) (z2 : c0 = 0) (s1 : Step g0 g1 c0 c1) (s2 : Step g1 g2 c1 c2) (s3 : Step g2 g3 c2 c3) (s4 : Step g3 g4 c3 c4) :
    (∀ i, i < 5 → (0 ≤ ([c0, c1, c2, c3, c4] : List Int).getD i 0 ∧ ([c0, c1, c2, c3, c4] : List Int).getD i 0 ≤ 4) ∧ (0 ≤ ([g0, g1, g2, g3, g4] : List Int).getD i 0 ∧ ([g0, g1, g2, g3, g4] : List Int).getD i 0 ≤ 4)) ∧
    (∀ i, i < 4 → Step (([g0, g1, g2, g3, g4] : List Int).getD i 0) (([g0, g1, g2, g3, g4] : List Int).getD (i + 1) 0) (([c0, c1, c2, c3, c4] : List Int).getD i 0) (([c0, c1, c2, c3, c4] : List Int).getD (i + 1) 0)) := by
  subst z1; subst z2
  have b0 : ((0 : Int) ≤ 0 ∧ (0 : Int) ≤ 0) := ⟨Int.le_refl _, Int.le_refl _⟩
  have b1 := step_b s1 b0 b0
  have b2 := step_b s2 b1.1 b1.2
  have b3 := step_b s3 b2.1 b2.2
  have b4 := step_b s4 b3.1 b3.2
  constructor
  · intro i hi
    match i, hi with
    | 0, _ => exact four_b (k := 0) ⟨b0, b0⟩ (by decide)
    | 1, _ => exact four_b b1 (by decide)
    | 2, _ => exact four_b b2 (by decide)
    | 3, _ => exact four_b b3 (by decide)
    | 4, _ => exact four_b b4 (by decide)
  · intro i hi
    match i, hi with
    | 0, _ => exact s1
    | 1, _ => exact s2
    | 2, _ => exact s3
    | 3, _ => exact s4
theorem cell_ne (L a b : Nat) (h : a ≠ b) : L + a ≠ L + b := fun e => h (Nat.add_left_cancel e)
set_option maxRecDepth 100000 in
set_option maxHeartbeats 8000000 in
theorem law_all (w : World) (mean mg mb) : ∀ (fa : Addr) (cd : Value) (h₀ : Heap) (s : Shared) (m : Str → Option Value) (Qf : Flow → Shared → Prop) (l : Addr) (x y z : Int) (tx ty tz : Tok) (n : Nat) (o1 o2 o3 o4 o5 : Obj),
    Below callerA h₀ [] h₀ → Fr h₀ h₀.objs.size s.heap m → (Mine.hd.heap_39 w.params).In h₀ → Top Mine.hd.view_39 (looseW Mine.hd.view_39 []) mean mg mb h₀ → AllBare s.gens → News h₀ h₀.objs.size s.heap [(l, PySem.W.listOf #[.int x tx, .int y ty, .int z tz] n), (h₀.objs.size + 1 + 1 + 1 + 1 + 1, o5), (h₀.objs.size + 1 + 1 + 1 + 1, o4), (h₀.objs.size + 1 + 1 + 1, o3), (h₀.objs.size + 1 + 1, o2), (h₀.objs.size + 1, o1)] →
    o1.data = .cell (some (.ref l)) → o2.data = .cell none → o3.data = .cell none → o4.data = .cell none → o5.data = .cell none → Far5 h₀.objs.size l →
    (0 ≤ x ∧ x ≤ 10 ^ 9) → (0 ≤ y ∧ y ≤ 10 ^ 9) → (0 ≤ z ∧ z ≤ 10 ^ 9) →
    (∀ (h' : Heap) (tk' : Nat) (gens' : Array GenState), AllBare gens' → (∀ b o, h₀.get? b = some o → h'.get? b = some o) → Qf (.ret (.bool true)) { s with heap := h', toks := tk', gens := gens' }) →
    wpAny (model Challenge.rw_sw0030_01.row.prog w) (callerA.deeper (lawEnv h₀.objs.size fa cd)) (execs (lawItem.body.drop 1) (lawEnv h₀.objs.size fa cd)) Qf (fun _ _ => False) s := by
  intro fa cd h₀ s m Qf l x y z tx ty tz n o1 o2 o3 o4 o5 K0 F X0 T' hb N d1 d2 d3 d4 d5 far bx by' bz hk
  refine seg2 w mean mg mb fa cd h₀ s m Qf l x y z tx ty tz n o1 _ K0 F X0 T' N (.head _) (.tail _ (.tail _ (.tail _ (.tail _ (.tail _ (.head _)))))) d1 bx by' bz ?_
  intro h1 tk1 m1 W H Ee ys1 ys2 ws hs e0 e1 t0 t1 F1 a1 a2 a3 N1 i1 i2 len1 b1 len2 b2 he0 he1 fW fH fE
  refine seg3 w mean mg mb fa cd h₀ _ _ _ W H Ee ys1 ys2 ws hs e0 e1 t0 t1 _ K0 F1 X0 T' hb a1 a2 a3 N1 (.head _) (.tail _ (.head _)) (.tail _ (.tail _ (.head _))) i1 i2 len1 (by rintro rfl; cases len1) b1 len2 (by rintro rfl; cases len2) (fun v hv => ⟨(b2 v hv).1, Int.le_trans (b2 v hv).2 (by decide)⟩) he0 he1 ?_
  clear fW fH fE F1 N1 a1 a2 a3
  intro h2 tk2 gens2 m2 l1 l2 v1 v2 n1 n2 hb2 F2 a4 a5 N2 i3 i4 f1 f2
  have N2' : News h₀ h₀.objs.size h2 ((h₀.objs.size + 1 + 1 + 1, o3) :: (h₀.objs.size + 1 + 1, o2) :: [(l1, PySem.W.listOf v1.toArray n1), (l2, PySem.W.listOf v2.toArray n2), (l, PySem.W.listOf #[.int x tx, .int y ty, .int z tz] n), (h₀.objs.size + 1 + 1 + 1 + 1 + 1, o5), (h₀.objs.size + 1 + 1 + 1 + 1, o4), (h₀.objs.size + 1, o1)]) := by
    refine pick N2 ?_
    refine List.forall_mem_cons.mpr ⟨(.tail _ (.tail _ (.tail _ (.tail _ (.tail _ (.tail _ (.tail _ (.tail _ (.head _))))))))), List.forall_mem_cons.mpr ⟨(.tail _ (.tail _ (.tail _ (.tail _ (.tail _ (.tail _ (.tail _ (.tail _ (.tail _ (.head _)))))))))), List.forall_mem_cons.mpr ⟨.head _, List.forall_mem_cons.mpr ⟨(.tail _ (.head _)), List.forall_mem_cons.mpr ⟨(.tail _ (.tail _ (.tail _ (.tail _ (.tail _ (.head _)))))), List.forall_mem_cons.mpr ⟨(.tail _ (.tail _ (.tail _ (.tail _ (.tail _ (.tail _ (.head _))))))), List.forall_mem_cons.mpr ⟨(.tail _ (.tail _ (.tail _ (.tail _ (.tail _ (.tail _ (.tail _ (.head _)))))))), List.forall_mem_cons.mpr ⟨(.tail _ (.tail _ (.tail _ (.tail _ (.tail _ (.tail _ (.tail _ (.tail _ (.tail _ (.tail _ (.head _))))))))))), List.forall_mem_nil _⟩⟩⟩⟩⟩⟩⟩⟩
  have ll1 : ∀ p ∈ [(l, PySem.W.listOf #[.int x tx, .int y ty, .int z tz] n), (h₀.objs.size + 1 + 1 + 1 + 1 + 1, o5), (h₀.objs.size + 1 + 1 + 1 + 1, o4), (h₀.objs.size + 1 + 1 + 1, o3), (h₀.objs.size + 1 + 1, o2), (h₀.objs.size + 1, o1)], p.1 ≠ l1 := fun p hp => f1 p (.tail _ (.tail _ (.tail _ hp)))
  have ll2 : ∀ p ∈ [(l, PySem.W.listOf #[.int x tx, .int y ty, .int z tz] n), (h₀.objs.size + 1 + 1 + 1 + 1 + 1, o5), (h₀.objs.size + 1 + 1 + 1 + 1, o4), (h₀.objs.size + 1 + 1 + 1, o3), (h₀.objs.size + 1 + 1, o2), (h₀.objs.size + 1, o1)], p.1 ≠ l2 := fun p hp => f2 p (.tail _ (.tail _ (.tail _ hp)))
  clear f1 f2 N2
  refine seg4 w mean mg mb fa cd h₀ _ _ _ o2 o3 l1 l2 v1 v2 n1 n2 _ _ _ K0 F2 X0 T' hb2 a4 a5 N2'
    ⟨Ne.symm (ll1 _ (.tail _ (.tail _ (.tail _ (.head _))))), Ne.symm (ll2 _ (.tail _ (.tail _ (.tail _ (.head _))))), Ne.symm far.2.2.1, cell_ne _ 5 3 (by decide), cell_ne _ 4 3 (by decide), cell_ne _ 1 3 (by decide), trivial⟩
    ⟨Ne.symm (ll1 _ (.tail _ (.tail _ (.tail _ (.tail _ (.head _)))))), Ne.symm (ll2 _ (.tail _ (.tail _ (.tail _ (.tail _ (.head _)))))), Ne.symm far.2.2.2.1, cell_ne _ 5 2 (by decide), cell_ne _ 4 2 (by decide), cell_ne _ 1 2 (by decide), trivial⟩
    (.head _) (.tail _ (.head _)) i3 i4 (due_len (by rw [len1]; decide)) (due_len (by rw [len2]; decide)) d2 d3 ?_
  intro h3 tk3 m3 lG lC vG vC nG nC o2' o3' F3 N3 iG iC d2' d3' fG fC
  clear N2' F2
  obtain ⟨g0, g1, g2, g3, g4, c0, c1, c2, c3, c4, eg, ec, z1, z2, s1, s2, s3, s4⟩ := parts_fact len1 b1 len2 b2 he0 he1
  rw [eg] at iG iC
  rw [ec] at iC
  obtain ⟨hbd, hst⟩ := five_b z1 z2 s1 s2 s3 s4
  clear z1 z2 s1 s2 s3 s4 eg ec
  generalize hgs : ([g0, g1, g2, g3, g4] : List Int) = gs at iG iC hbd hst
  generalize hcs : ([c0, c1, c2, c3, c4] : List Int) = cs at iC hbd hst
  have lgs : gs.length = 5 := by rw [← hgs]; rfl
  have lcs : cs.length = 5 := by rw [← hcs]; rfl
  clear hgs hcs
  have N3' : News h₀ h₀.objs.size h3 ((h₀.objs.size + 1 + 1 + 1 + 1 + 1, o5) :: (h₀.objs.size + 1 + 1 + 1 + 1, o4) :: [(lC, PySem.W.listOf vC.toArray nC), (lG, PySem.W.listOf vG.toArray nG), (l, PySem.W.listOf #[.int x tx, .int y ty, .int z tz] n), (h₀.objs.size + 1 + 1 + 1, o3'), (h₀.objs.size + 1 + 1, o2'), (h₀.objs.size + 1, o1)]) := by
    refine pick N3 ?_
    refine List.forall_mem_cons.mpr ⟨(.tail _ (.tail _ (.tail _ (.tail _ (.tail _ (.tail _ (.tail _ (.head _)))))))), List.forall_mem_cons.mpr ⟨(.tail _ (.tail _ (.tail _ (.tail _ (.tail _ (.tail _ (.tail _ (.tail _ (.head _))))))))), List.forall_mem_cons.mpr ⟨.head _, List.forall_mem_cons.mpr ⟨(.tail _ (.head _)), List.forall_mem_cons.mpr ⟨(.tail _ (.tail _ (.tail _ (.tail _ (.tail _ (.tail _ (.head _))))))), List.forall_mem_cons.mpr ⟨(.tail _ (.tail _ (.head _))), List.forall_mem_cons.mpr ⟨(.tail _ (.tail _ (.tail _ (.head _)))), List.forall_mem_cons.mpr ⟨(.tail _ (.tail _ (.tail _ (.tail _ (.tail _ (.tail _ (.tail _ (.tail _ (.tail _ (.head _)))))))))), List.forall_mem_nil _⟩⟩⟩⟩⟩⟩⟩⟩
  refine seg5 w mean mg mb fa cd h₀ _ _ _ l x y z tx ty tz n o1 o2' o3' o4 o5 lG lC nG nC vG vC gs cs _ K0 F3 X0 T' N3' (.tail _ (.tail _ (.tail _ (.tail _ (.tail _ (.head _)))))) (.tail _ (.tail _ (.tail _ (.tail _ (.head _))))) (.tail _ (.tail _ (.tail _ (.head _)))) (.tail _ (.tail _ (.head _))) (.tail _ (.head _)) (.head _)
    ⟨Ne.symm (fC _ (.tail _ (.tail _ (.tail _ (.head _))))), Ne.symm (fG _ (.tail _ (.tail _ (.tail _ (.head _))))), Ne.symm far.1, cell_ne _ 3 5 (by decide), cell_ne _ 2 5 (by decide), cell_ne _ 1 5 (by decide), trivial⟩
    ⟨Ne.symm (fC _ (.tail _ (.tail _ (.tail _ (.tail _ (.head _)))))), Ne.symm (fG _ (.tail _ (.tail _ (.tail _ (.tail _ (.head _)))))), Ne.symm far.2.1, cell_ne _ 3 4 (by decide), cell_ne _ 2 4 (by decide), cell_ne _ 1 4 (by decide), trivial⟩
    d1 d2' d3' iG iC lgs lcs bz ?_
  intro h4 tk4 m4 lT lR nT nR vT vR nw6 F4 a6 a7 N4 b5 b4 sub qT qR hR5 hrow iT
  have qN := sub _ (.tail _ (.tail _ (.head _)))
  have q1 := sub _ (.tail _ (.tail _ (.tail _ (.tail _ (.tail _ (.head _))))))
  clear sub N3 N3' F3 fG fC
  refine seg6 w mean mg mb fa cd h₀ _ _ _ o4 o5 lT lR nT nR vT vR z gs cs nw6 K0 F4 X0 T' a6 a7 N4 b5 b4 qT qR d4 d5 hR5 hrow iT hbd ?_
  intro h5 tk5 m5 lN nN vN o5' F5 a8 N5 d5' iN
  clear N4 F4 b5 b4 qT iT
  have hrow' : RowsAt ((h₀.objs.size + 1 + 1 + 1 + 1 + 1, o5') :: (lN, PySem.W.listOf vN.toArray nN) :: nw6) vR z gs cs := fun i v e => by
    obtain ⟨r, p, q, s', e1, e2⟩ := hrow i v e
    exact ⟨r, p, q, s', e1, .tail _ (.tail _ e2)⟩
  refine seg7 w mean mg mb fa cd h₀ _ _ _ o5' lN lR nN nR vN vR (numsL z gs cs) (wordsL z gs cs) (leavesL z) _ K0 F5 X0 T' a8 N5 (.head _) (.tail _ (.head _)) (.tail _ (.tail _ qR)) d5' iN rfl (fun k hk => num_b hbd hk) hR5 rfl rfl (rows_in hbd hR5 hrow') ?_
  intro h6 tk6 m6 lH lW lL nH nW nL vH vW vL F6 m61 m62 m63 N6 iH iW iL
  have hs0 : ∀ v ∈ htsOf (numsL z gs cs), (0 : Int) ≤ v := fun v hv => (hts_b v hv).1
  have hs2 : ∀ v ∈ htsOf (numsL z gs cs), v ≤ (2 : Int) := fun v hv => (hts_b v hv).2
  obtain ⟨tx1, tx2⟩ := text_fact hbd hst _ _ rfl rfl
  refine seg8 w mean mg mb fa cd h₀ _ _ _ lH lL nH nL vH vL (leavesL z) (htsOf (numsL z gs cs)) _ K0 F6 X0 T' hb2 m61 m63 N6 (.head _) (.tail _ (.tail _ (.head _))) iL iH rfl rfl hs0 hs2 (leaves_b z) tx1 tx2 ?_
  intro h7 tk7 gens7 hb7 F7 N7
  refine seg9 w mean mg mb fa cd h₀ _ _ _ l x y z tx ty tz n o1 o5' lN lH lW lL nN nH nW nL (wordsL z gs cs) (leavesL z) (htsOf (numsL z gs cs)) (numsL z gs cs) vL vW vH vN _ K0 F7 X0 T' hb7 m61 m62 m63 N7 (.head _) (.tail _ (.head _)) (.tail _ (.tail _ (.head _))) (.tail _ (.tail _ (.tail _ (.tail _ (.head _))))) (.tail _ (.tail _ (.tail _ (.tail _ (.tail _ qN))))) (.tail _ (.tail _ (.tail _ (.head _)))) (.tail _ (.tail _ (.tail _ (.tail _ (.tail _ q1))))) iL iW iH iN rfl rfl rfl rfl d1 d5' hs0 hs2 (leaves_b z) (pair_fact hbd hst w mean mg mb) ?_
  intro h8 tk8 gens8 hb8 k8
  exact hk _ _ _ hb8 k8
end Mine
namespace Mine
set_option maxRecDepth 100000 in
set_option maxHeartbeats 8000000 in
theorem main : PySem.Challenge.rw_sw0030_01.Holds := hd (by
  k_fill
  intro w s₀ s₁ mg mb G Y fa o pm cd doc dV kV ho hd hcd hD hmg hg args vals as hpre hlay hrd hwl hlo
  have KX := kIn_of Y
  have X := (Ground.X G).1
  have V := (Ground.X G).2
  try w_nolog (first | (have GL := glob_more (Ground.glob G (by first | k_qdec | decide +kernel) (by first | k_qdec | decide +kernel)) V) | (have GL := glob_more (Ground.glob G (by decide +kernel)) V))
  refine Ground.open G ?_
  intro T B D TE TW
  try (refine guard_noD D (by decide +kernel) ?_; clear D)
  obtain ⟨_, _, M⟩ := bmod_of_top T
  have TA := at_of_top T
  try (obtain ⟨_, _, he, B0⟩ := based_of_top T rfl hmg ho hd; have he' : cd = _ := he; subst he'; clear he)
  clear hmg
  wrow_args hpre hlay hrd hwl hlo
  all_goals (
    first | refine callC_kw (enter_call ?_) | refine enter_call ?_ | refine callC_kw (enter_callW ?_) | refine enter_callW ?_ | w_how
    w_top on
    have K0 := below_caller (Top.heap T)
    w_call any ho hd hcd hD T F
    clear hd TA
    k_drop
    skip)
  (all_goals try k_fold)
  repeat' (first
    | (k_unfold; (try dsimp only))
    | (k_end; wrow_close)
    | ((with_reducible show wpAny _ _ (call (Value.ref _) _) _ _ _); (k_here; (with_reducible show wpAny _ _ (call (Value.ref 77) _) _ _ _); k_dflt (refine told_use (by k_asm) (by k_asm) (by k_asm) (by k_asm) (by k_asm) (by exact rfl) (by assumption) (by assumption) (by omega) (by ktr_room) (by ktr_units) ?_); intros; rename_i al9; have ne9 := al9; (try simp only [AllNe, and_true] at ne9); (try dsimp only); k_sweep))
    | ((with_reducible show wpAny _ _ (execs _ _) _ _ _); (k_here; (with_reducible show wpAny _ _ (execs [_, _, _, _, _, _, _, _, _, _, _, _, _, _, _, _, _, _, _, _] _) _ _ _); refine halt ?_))
    | walk1
    | (dsimp only; walk1)
    | (leave1; walk_say "STEP leave1"; try dsimp only)
    | fail "no step")
  refine unhalt ?_
  refine wpAny_mono (?_ : wpAny _ _ _ _ (fun _ _ => False) _) (fun _ _ h => h) (fun _ _ h => h.elim)
  rename Fr _ _ _ _ => F1
  rename News _ _ _ _ => N1
  rename AllNe _ _ => al
  refine' law_all _ _ _ _ _ _ _ _ _ _ _ _ _ _ _ _ _ _ _ _ _ _ _ ?zzK0 F1 ?zzX ?zzT ?zzhb N1 ?zzd1 ?zzd2 ?zzd3 ?zzd4 ?zzd5 ?zzfar ?zzbx ?zzbw ?zzbz ?zzk
  case zzK0 => assumption
  case zzX => assumption
  case zzT => assumption
  case zzhb => exact .of_eq (by assumption)
  case zzd1 => assumption
  case zzd2 => assumption
  case zzd3 => assumption
  case zzd4 => assumption
  case zzd5 => assumption
  case zzfar => exact ⟨allNe_mem al (by k_mem), allNe_mem al (by k_mem), allNe_mem al (by k_mem), allNe_mem al (by k_mem), allNe_mem al (by k_mem)⟩
  case zzbx => assumption
  case zzbw => assumption
  case zzbz => assumption
  case zzk =>
    intro h' tk' gens' hb' keep
    k_unfold
    (try dsimp only)
    show GoodWG _ _ _ _ _ _ _
    refine ⟨.inl ⟨_, _, [], rfl, fun _ => rfl, ReadsW.bool true, ?zzhp, fun _ => ⟨List.nodup_nil, fun _ hm => nomatch hm⟩⟩, .of_keep keep, rfl, hb'⟩
    first
    | rfl
    | wrow_post)
end Mine
end
set_option maxRecDepth 100000 in
theorem PySem.Challenge.cw_sw0030_01_holds : PySem.Challenge.rw_sw0030_01.Holds := by
  exact Mine.main
