import PyProof.Rows.All
import Wide.All
import OpenK.AllK
import Wide.FinOn
import PyProof.AttrMissHeap
import PySem.Challenge.RW_bd5002_01
open PySem PySem.W PySem.Calls PyProof.Rows PyProof.V PySem.Spec
set_option Elab.async false
set_option maxRecDepth 100000
set_option maxHeartbeats 0
set_option linter.unusedVariables false
namespace Mine
open_top hd for PySem.Challenge.rw_bd5002_01
noncomputable abbrev PG : Program := Challenge.rw_bd5002_01.row.prog
noncomputable abbrev KK (w : World) : Frag := hd.heap_39 w.params
noncomputable abbrev LO : List Str := looseW hd.view_39 [Str.ofString "LOCALE_ALIASES", Str.ofString "default_locale", Str.ofString "negotiate_locale", Str.ofString "parse_locale", Str.ofString "get_locale_identifier"]

/-- the table of the thirty-nine pairs -/
def tab : List (Str × Str) := [(Str.ofString "ar", Str.ofString "ar_SY"), (Str.ofString "bg", Str.ofString "bg_BG"), (Str.ofString "bs", Str.ofString "bs_BA"), (Str.ofString "ca", Str.ofString "ca_ES"), (Str.ofString "cs", Str.ofString "cs_CZ"), (Str.ofString "da", Str.ofString "da_DK"), (Str.ofString "de", Str.ofString "de_DE"), (Str.ofString "el", Str.ofString "el_GR"), (Str.ofString "en", Str.ofString "en_US"), (Str.ofString "es", Str.ofString "es_ES"), (Str.ofString "et", Str.ofString "et_EE"), (Str.ofString "fa", Str.ofString "fa_IR"), (Str.ofString "fi", Str.ofString "fi_FI"), (Str.ofString "fr", Str.ofString "fr_FR"), (Str.ofString "gl", Str.ofString "gl_ES"), (Str.ofString "he", Str.ofString "he_IL"), (Str.ofString "hu", Str.ofString "hu_HU"), (Str.ofString "id", Str.ofString "id_ID"), (Str.ofString "is", Str.ofString "is_IS"), (Str.ofString "it", Str.ofString "it_IT"), (Str.ofString "ja", Str.ofString "ja_JP"), (Str.ofString "km", Str.ofString "km_KH"), (Str.ofString "ko", Str.ofString "ko_KR"), (Str.ofString "lt", Str.ofString "lt_LT"), (Str.ofString "lv", Str.ofString "lv_LV"), (Str.ofString "mk", Str.ofString "mk_MK"), (Str.ofString "nl", Str.ofString "nl_NL"), (Str.ofString "nn", Str.ofString "nn_NO"), (Str.ofString "no", Str.ofString "nb_NO"), (Str.ofString "pl", Str.ofString "pl_PL"), (Str.ofString "pt", Str.ofString "pt_PT"), (Str.ofString "ro", Str.ofString "ro_RO"), (Str.ofString "ru", Str.ofString "ru_RU"), (Str.ofString "sk", Str.ofString "sk_SK"), (Str.ofString "sl", Str.ofString "sl_SI"), (Str.ofString "sv", Str.ofString "sv_SE"), (Str.ofString "th", Str.ofString "th_TH"), (Str.ofString "tr", Str.ofString "tr_TR"), (Str.ofString "uk", Str.ofString "uk_UA")]
/-- the same as the default dict's rows -/
def DTab : List (PyData × PyData) := tab.map fun p => (PyData.str p.1, PyData.str p.2)

theorem tabAt15 (w : World) {h : Heap} (x : (hd.heap_39 w.params).In h) : TabAt (PySem.strKind PG w) PyData.str h 15 DTab := by
  have e := kt_tab_in (a := 15) (D := tab.map fun p => (p.1, PyData.str p.2)) PG w x (by kernel_rfl) (by decide +kernel) (by kernel_rfl)
  exact e

theorem noneBooked (w : World) {h : Heap} (x : (hd.heap_39 w.params).In h) : NoneBooked h := by
  have e := x 2 _ rfl
  exact ⟨fun _ => none, ⟨_, #[], _, e, rfl, by intro y hy; simp at hy, fun n => rfl⟩, rfl⟩

/-- a text that is neither empty nor long -/
structure Sm (x : Str) : Prop where
  pos : 1 ≤ x.length
  le : x.length ≤ 100

section
variable {prog : Program} {w : World} {A : Around} {E : Value → Shared → Prop} {s : Shared} {x y z r k : Str} {t u v : Tok} {Q : Value → Shared → Prop}

theorem truthy_sm {Q : Bool → Shared → Prop} (hx : Sm x) (h : ∀ k, s.toks ≤ k → Q true { s with toks := k }) : wpAny (model prog w) A (PySem.truthy (.str x t)) Q E s :=
  wpAny_with_toks (Nat.le_refl s.toks) (KXt.truthy_pos hx.pos hx.le (by decide) fun k hk => h k hk)

theorem notLong (hx : Sm x) : Builtin.Str.tooLong x.length = false := by
  have := hx.le
  unfold Builtin.Str.tooLong sizeLine
  exact decide_eq_false (by omega)
theorem lower_to (e : Txt.lower x = y) (hy : Sm y) (h : ∀ t' k, s.toks ≤ k → Q (.str y t') { s with toks := k }) : wpAny (model prog w) A (PySem.call (.builtin "str.lower") [.str x t]) Q E s :=
  wpAny_with_toks (Nat.le_refl s.toks) (KXw.lower e (by rw [e]; exact notLong hy) fun t' k hk => h t' k hk)
theorem upper_to (e : Txt.upper x = y) (hy : Sm y) (h : ∀ t' k, s.toks ≤ k → Q (.str y t') { s with toks := k }) : wpAny (model prog w) A (PySem.call (.builtin "str.upper") [.str x t]) Q E s :=
  wpAny_with_toks (Nat.le_refl s.toks) (KXw.upper e (by rw [e]; exact notLong hy) fun t' k hk => h t' k hk)

theorem in1_to {l : Addr} {b : Bool} (hl : s.heap.IsList l #[.str y u]) (e : (y == k) = b) (h : Q (.bool b) s) : wpAny (model prog w) A (compareOp .In (.str k t) (.ref l)) Q E s := by
  refine in_list_strs (vs := [.str y u]) (ys := [y]) hl (.cons y u .nil) ?_
  rw [show ([y].any (· == k)) = b from by rw [← e]; simp]
  exact h

theorem get_hit {D : List (PyData × PyData)} {d : Addr} (T : TabAt (PySem.strKind prog w) PyData.str s.heap d D) (hl : lookup (.str k) D = some (.str r))
    (h : ∀ t' n, s.toks ≤ n → Q (.str r t') { s with toks := n }) : wpAny (model prog w) A (PySem.call (.builtin "dict.get") [.ref d, .str k t]) Q E s := by
  refine call_get1_tab same_str (strKind_is prog w k t) T fun v hv => ?_
  rw [hl] at hv
  obtain ⟨t', rfl⟩ := PyProof.V.Flat.str_inv hv
  exact h t' _ (Nat.le_succ _)
theorem get_miss {D : List (PyData × PyData)} {d : Addr} (T : TabAt (PySem.strKind prog w) PyData.str s.heap d D) (hl : lookup (.str k) D = none)
    (h : ∀ n, s.toks ≤ n → Q .none { s with toks := n }) : wpAny (model prog w) A (PySem.call (.builtin "dict.get") [.ref d, .str k t]) Q E s := by
  refine call_get1_tab same_str (strKind_is prog w k t) T fun v hv => ?_
  rw [hl] at hv
  cases PyProof.V.Flat.none_inv hv
  exact h _ (Nat.le_succ _)


theorem isalpha_to {b : Bool} (e : Txt.isalpha x = b) (h : Q (.bool b) s) : wpAny (model prog w) A (PySem.call (.builtin "str.isalpha") [.str x t]) Q E s := KXw.isalpha e h
theorem len_to {n : Nat} (e : x.length = n) (hx : Sm x) (h : ∀ t' k, s.toks ≤ k → Q (.int (n : Int) t') { s with toks := k }) : wpAny (model prog w) A (PySem.call (.builtin "len") [.str x t]) Q E s :=
  wpAny_with_toks (Nat.le_refl s.toks) (SBL.len (by have := hx.le; omega) (by rw [e]; exact fun hk => h _ _ hk))
theorem split_1 {h₀ : Heap} {L : Addr} {m : Str → Option Value} {news : List (Addr × Obj)} {p : Str} (hF : Fr h₀ L s.heap m) (hN : News h₀ L s.heap news) (hx : Sm x) (hy : Sm y) (e : Txt.split x y = [p])
    (h : ∀ D tp h' k, s.toks ≤ k → Fr h₀ L h' m → News h₀ L h' ((D, W.listOf #[.str p tp] 0) :: news) → (∀ q ∈ news, q.1 < D) → Q (.ref D) { s with heap := h', toks := k }) :
    wpAny (model prog w) A (PySem.call (.builtin "str.split") [.str x t, .str y u]) Q E s := by
  refine wpAny_with_toks (Nat.le_refl s.toks) (KSpl.split1 hF hN (by have := hy.pos; simp; omega) (fun D l h' k el _ F N lo hk => ?_) (by have := hx.le; rw [sizeLine_eq]; omega))
  rw [e] at el
  obtain ⟨tp, l', rfl, e2⟩ := KSpl.cons_of el
  cases KSpl.nil_of e2
  exact h D tp h' k hk F N lo
theorem split_2 {h₀ : Heap} {L : Addr} {m : Str → Option Value} {news : List (Addr × Obj)} {p q : Str} (hF : Fr h₀ L s.heap m) (hN : News h₀ L s.heap news) (hx : Sm x) (hy : Sm y) (e : Txt.split x y = [p, q])
    (h : ∀ D tp tq h' k, s.toks ≤ k → Fr h₀ L h' m → News h₀ L h' ((D, W.listOf #[.str p tp, .str q tq] 0) :: news) → (∀ q ∈ news, q.1 < D) → Q (.ref D) { s with heap := h', toks := k }) :
    wpAny (model prog w) A (PySem.call (.builtin "str.split") [.str x t, .str y u]) Q E s := by
  refine wpAny_with_toks (Nat.le_refl s.toks) (KSpl.split1 hF hN (by have := hy.pos; simp; omega) (fun D l h' k el _ F N lo hk => ?_) (by have := hx.le; rw [sizeLine_eq]; omega))
  rw [e] at el
  obtain ⟨tp, l', rfl, e2⟩ := KSpl.cons_of el
  obtain ⟨tq, l'', rfl, e3⟩ := KSpl.cons_of e2
  cases KSpl.nil_of e3
  exact h D tp tq h' k hk F N lo
theorem part_to {h₀ : Heap} {L : Addr} {m : Str → Option Value} {news : List (Addr × Obj)} {p q : Str} (hF : Fr h₀ L s.heap m) (hN : News h₀ L s.heap news) (hx : Sm x) (hy : Sm y) (e : Txt.partition x y = (p, q, r))
    (h : ∀ D ta tb tc h' k, s.toks ≤ k → Fr h₀ L h' m → News h₀ L h' ((D, { cls := .type "tuple", data := .seq [.str p ta, .str q tb, .str r tc].toArray }) :: news) → (∀ a ∈ news, a.1 < D) → Q (.ref D) { s with heap := h', toks := k }) :
    wpAny (model prog w) A (PySem.call (.builtin "str.partition") [.str x t, .str y u]) Q E s :=
  wpAny_with_toks (Nat.le_refl s.toks) (KXpa.partition hF hN (by have := hy.pos; simp; omega) (by rw [e]) (by rw [e]) (by rw [e]) (by have := hx.le; rw [sizeLine_eq]; omega) (fun D ta tb tc h' k F N lo hk => h D ta tb tc h' k hk F N lo))
theorem instr_no (e : (Builtin.Str.occurrences x y 0 x.length 1).isEmpty = true) (h : Q (.bool false) s) : wpAny (model prog w) A (compareOp .In (.str y u) (.str x t)) Q E s :=
  in_str (by rw [e]; exact h)
theorem intup2_no {l : Addr} {u' : Tok} (hl : IsTup s.heap l #[.str y u, .str z u']) (e : (y == k) = false) (e' : (z == k) = false) (h : Q (.bool false) s) : wpAny (model prog w) A (compareOp .In (.str k t) (.ref l)) Q E s := by
  refine in_tuple_strs (items := #[.str y u, .str z u']) (ys := [y, z]) hl (.cons y u (.cons z u' .nil)) ?_
  rw [show ([y, z].any (· == k)) = false from by simp [e, e']]
  exact h
theorem in_hit {D : List (PyData × PyData)} {d : Addr} (T : TabAt (PySem.strKind prog w) PyData.str s.heap d D) (hl : lookup (.str k) D = some (.str r))
    (h : ∀ n, s.toks ≤ n → Q (.bool true) { s with toks := n }) : wpAny (model prog w) A (compareOp .In (.str k t) (.ref d)) Q E s :=
  in_tab same_str (strKind_is prog w k t) T (by rw [hl]; exact h _ (Nat.le_succ _))
theorem in_miss {D : List (PyData × PyData)} {d : Addr} (T : TabAt (PySem.strKind prog w) PyData.str s.heap d D) (hl : lookup (.str k) D = none)
    (h : ∀ n, s.toks ≤ n → Q (.bool false) { s with toks := n }) : wpAny (model prog w) A (compareOp .In (.str k t) (.ref d)) Q E s :=
  in_tab same_str (strKind_is prog w k t) T (by rw [hl]; exact h _ (Nat.le_succ _))
theorem item_hit {D : List (PyData × PyData)} {d : Addr} {value slice : Expr} (T : TabAt (PySem.strKind prog w) PyData.str s.heap d D) (hl : lookup (.str k) D = some (.str r))
    (h : ∀ t' n, s.toks ≤ n → Q (.str r t') { s with toks := n })
    (hs : subscripted slice false (.ref d) (.str k t) = operate [.ref d, .str k t] (getItem (.ref d) (.str k t)) := by with_unfolding_all rfl) (hg : ∀ r, letTemporaryGo value (.ref d) r = pure () := by intro _; with_unfolding_all rfl) :
    wpAny (model prog w) A (subscriptTail value slice (.ref d) (.str k t)) Q E s := by
  refine item_strTab_isSome T (by rw [hl]; rfl) (fun v hv => ?_) hs hg
  rw [hl] at hv
  obtain ⟨t', rfl⟩ := PyProof.V.Flat.str_inv hv
  exact h t' _ (Nat.le_succ _)
theorem join_1 {D : Addr} {p : Str} {tp : Tok} (hl : s.heap.IsList D #[.str p tp]) (hp : Sm p) (hx : Sm x) (hx2 : x.length ≤ 64) (e : Txt.join x [p] = r) (h : ∀ t' k, s.toks ≤ k → Q (.str r t') { s with toks := k }) :
    wpAny (model prog w) A (PySem.call (.builtin "str.join") [.str x t, .ref D]) Q E s := by
  refine wpAny_with_toks (Nat.le_refl s.toks) (join_listC (ys := [p]) hl (.cons p tp .nil) hx2 (by have := hp.le; simp; omega) fun t' k hk => ?_)
  rw [e]; exact h t' k hk
theorem join_2 {D : Addr} {p q : Str} {tp tq : Tok} (hl : s.heap.IsList D #[.str p tp, .str q tq]) (hp : Sm p) (hq : Sm q) (hx2 : x.length ≤ 64) (e : Txt.join x [p, q] = r) (h : ∀ t' k, s.toks ≤ k → Q (.str r t') { s with toks := k }) :
    wpAny (model prog w) A (PySem.call (.builtin "str.join") [.str x t, .ref D]) Q E s := by
  refine wpAny_with_toks (Nat.le_refl s.toks) (join_listC (ys := [p, q]) hl (.cons p tp (.cons q tq .nil)) hx2 (by have := hp.le; have := hq.le; simp; omega) fun t' k hk => ?_)
  rw [e]; exact h t' k hk

/-- replace, whatever the tokens, where the two texts are one or their tokens differ -/
theorem replace_to {u v : Nat} (hu : 1 ≤ u) (hv : 1 ≤ v) (huv : y = z ∨ u < v ∨ v < u) (hx : Sm x) (hz : Sm z) (hnb : NoneBooked s.heap) (e : Txt.replace x y z = r)
    (h : ∀ t' n, s.toks ≤ n → Q (.str r t') { s with toks := n }) : wpAny (model prog w) A (PySem.call (.builtin "str.replace") [.str x t, .str y u, .str z v]) Q E s := by
  subst e
  refine wpAny_with_toks (Nat.le_refl s.toks) ?_
  have hb : x.length + (x.length + 1) * z.length ≤ 16777216 := by
    have h1 := hx.le
    have h2 := hz.le
    have h3 : (x.length + 1) * z.length ≤ 101 * 100 := Nat.mul_le_mul (by omega) h2
    omega
  by_cases q : u = v
  · subst q
    have eyz : y = z := by
      rcases huv with e | e | e
      · exact e
      · exact absurd e (Nat.lt_irrefl _)
      · exact absurd e (Nat.lt_irrefl _)
    subst eyz
    rw [Txt.replace_self] at h
    have hs : isSame (.str y u) (.str y u) = (pure true : Sem Bool) := by
      show isSame.created (y == y) u u = _
      unfold isSame.created
      rw [if_neg (by simpa using Nat.ne_of_gt hu), if_pos (by simp)]
    refine call_givesAt (P := fun _ => True) (m := .val (.str x t)) F.slot_str_replace (typeIs_str _ _ _) F.entry_str_replace (F.args_str_replace_3 _ _ _) ?_ trivial (fun hk => h t _ hk)
    have e : Builtin.«str.replace» ⟨[.str x t, .str y u, .str y u], []⟩ = (if ((Builtin.Str.occurrences x y 0 x.length (x.length + 1)).isEmpty || (y.length == 0 && y.length == 0)) = true then (do rule "str.replace.nothing"; ret (.str x t)) else
          (do let same ← isSame (.str y u) (.str y u)
              if same = true then (do rule "str.replace.old-is-new"; ret (.str x t)) else
              if Builtin.Str.tooLong (x.length + (Builtin.Str.occurrences x y 0 x.length (x.length + 1)).length * y.length) = true then unsupported "str.replace:memory" else
              retStr (Builtin.Str.glued y (Builtin.Str.partsBetween x (Builtin.Str.occurrences x y 0 x.length (x.length + 1)) y.length)))) := rfl
    rw [e, hs]
    split
    · exact Gives.at (.rule (.of_eq rfl))
    · exact Gives.at (.rule (.of_eq rfl))
  · exact SC.replaceA (Nat.ne_of_gt hu) (Nat.ne_of_gt hv) q hb (fun t' k hk => h t' k hk) hnb
end


/-- the rest of a ledger lies in a heap -/
def RestIn (rest : List (Addr × Obj)) (g : Heap) : Prop := ∀ p ∈ rest, g.get? p.1 = some p.2
theorem RestIn.off {rest : List (Addr × Obj)} {g h : Heap} {L a : Addr} {o : Obj} {r : List (Addr × Obj)} (K : RestIn rest g) (N : News g L h ((a, o) :: r)) : ∀ p ∈ rest, p.1 ∉ [(a, o)].map (·.1) := fun p hp q => by
  have e : p.1 = a := by simpa using q
  have z := (N _ (.head _)).2.2
  rw [← e, K p hp] at z
  cases z
theorem off_nil {rest : List (Addr × Obj)} : ∀ p ∈ rest, p.1 ∉ ([] : List (Addr × Obj)).map (·.1) := fun _ _ h => nomatch h
theorem news_tail {h₀ h : Heap} {L : Addr} {p : Addr × Obj} {r : List (Addr × Obj)} (N : News h₀ L h (p :: r)) : News h₀ L h r := fun q hq => N q (.tail _ hq)
theorem news_both {h₀ h : Heap} {L : Addr} {a b : List (Addr × Obj)} (N : News h₀ L h a) (M : News h₀ L h b) : News h₀ L h (a ++ b) := fun p hp => (List.mem_append.mp hp).elim (N p) (M p)
/-- what a call of a def does not get in hand it leaves as it lies -/
theorem call_keep {prog : Program} {w : World} {A A₀ : Around} {s : Shared} {K : Frag} {L : Addr} {h₀ base : Heap} {m mg mb : Str → Option Value} {news rest : List (Addr × Obj)} {p : Program} {loose : List Str} {mean : ExcName → Option Value}
    {env : Env} {outer : List Env} {Q E : Value → Shared → Prop} {name qual : Str} {params : Arguments} {body : List Stmt} {scope : Scope} {dV kV doc pm cdv ct oc : Value} {an od : Option Addr} {osl : Array (Option Value)} {f : Addr} {pos : List Value} {kw : List (Str × Value)} {binds : List (Str × Value)}
    (B : Below A₀ base outer h₀) (F : Fr h₀ L s.heap m) (X₀ : K.In h₀) (N : News h₀ L s.heap news) (NR : News h₀ L s.heap rest) (dis : ∀ p ∈ rest, p.1 ∉ news.map (·.1)) (T : Top p loose mean mg mb h₀) (hA : A.frames = some (env :: outer)) (hf : env.frame = some L) (hke : env.scope.kind = .function)
    (ho : K.lookup f = some ⟨oc, od, .func (fnOf name qual params body scope dV kV doc pm an cdv ct), osl⟩) (hcd : codeIn K cdv qual = true) (hroom : A.depth < recursionLimit)
    (hbind : BindsTo s (fnOf name qual params body scope dV kV doc pm an cdv ct) ⟨pos, kw⟩ binds) (hloc : ∀ y ∈ binds, scope.names.lookup y.1 = some .local)
    (h : ∀ g L' h₁, Fr h₀ L g m → Fr g L' h₁ (fun y => binds.reverse.lookup y) → News g L' h₁ news → Below A base (env :: outer) g → K.In g → Top p loose mean mg mb g → RestIn rest g →
      wpAny (model prog w) (A.deeper (envOf qual scope L' f cdv)) (execs body (envOf qual scope L' f cdv))
        (fun fl s' => LeaveK h₀ L m g (fun r s' => match r with | .ok (.ret v) => (News h₀ L s'.heap rest → Q v s') | .ok _ => False | .error e => E e s') (match fl with | .ret v => v | _ => .none) s')
        (fun e s' => wpAny (model prog w) (A.deeper (envOf qual scope L' f cdv)) (leaving (envOf qual scope L' f cdv) e) (fun _ s'' => E e s'') (fun e' s'' => E e' s'') s')
        { s with heap := h₁, toks := s.toks + binds.length })
    (hco : scope.isCoroutine = false) (hgen : scope.isGenerator = false) (hk : scope.kind = .function)
    (hcell : ∀ x ∈ scope.names, x.2 ≠ .cell) : wpAny (model prog w) A (PySem.call (.ref f) pos kw) Q E s := by
  refine wpAny_call ?_
  obtain ⟨FG, BG, st, lv⟩ := groundX (R := fun r s' => match r with | .ok (.ret v) => (News h₀ L s'.heap rest → Q v s') | .ok _ => False | .error e => E e s') B F N hA hf hke
  have KR : ∀ p ∈ rest, (hideAll s.heap (news.map (·.1))).get? p.1 = some p.2 := fun p hp => hideAll_get _ (NR p hp).1 (dis p hp)
  refine codeAny_call_def (fd := fnOf name qual params body scope dV kV doc pm an cdv ct) (body := body) (binds := binds) hroom ((X₀.keeps F.keep) _ _ ho) rfl (T.nolimit.keeps F.keep) (codeRec_of (X₀.keeps F.keep) hcd) rfl hbind hcell hloc (fun h₁ hns hk₁ => ?_) hco hgen hk
  refine wpAny_mono (h _ s.heap.objs.size h₁ FG ⟨hns, fun b o e => hk₁ b o (of_hideAll _ e), Nat.le_of_eq (hideAll_size _ _)⟩
    (fun p hp => ⟨hk₁ _ _ (N p hp).1, Nat.ne_of_lt (Heap.lt_size (N p hp).1), hideAll_none _ (List.mem_map_of_mem hp)⟩) BG (X₀.keeps st) (T.keeps st) KR) (fun fl s' hl => ?_) fun _ _ y => y
  have z := lv _ _ hl
  obtain ⟨L', m', news', F', N', k⟩ := hl
  exact z fun p hp => ⟨F'.keep _ _ (KR p hp), (NR p hp).2⟩


section
variable {prog : Program} {w : World} {A : Around} {E : Value → Shared → Prop} {s : Shared}
theorem applied_whole {sl : Addr} {b n : Nat} {u : Tok} {Q : Int × Int × Nat → Shared → Prop} (hs : s.heap.IsSliceOf sl .none (.int b u) .none) (hb : n ≤ b) (h : Q (0, 1, n) s) :
    wpAny (model prog w) A (Builtin.Slice.sliceApplied (.ref sl) (pure (n : Int))) Q E s := by
  obtain ⟨os, hos, hcs, hds⟩ := id hs
  unfold Builtin.Slice.sliceApplied Builtin.Slice.sliceFields
  refine wpAny_bind (wpAny_bind (wpAny_field hos hds (x := .none) rfl (wpAny_bind (wpAny_field hos hds (x := .int b u) rfl (wpAny_bind (wpAny_field hos hds (x := .none) rfl (wpAny_pure ?_)))))))
  refine wpAny_bind (slicePart_none ?_)
  show wpAny _ _ (if ((1 : Int) == 0) = true then _ else _) _ _ s
  rw [if_neg (by decide)]
  refine wpAny_bind (slicePart_none (wpAny_bind (slicePart_int (wpAny_bind (wpAny_pure ?_)))))
  show wpAny _ _ (match Builtin.Slice.sliceAdjust none (some (b : Int)) 1 (n : Int) with | (lo, hi) => pure (lo, (1 : Int), Builtin.Slice.slicePlaces lo hi 1)) _ _ s
  have e : Builtin.Slice.sliceAdjust none (some (b : Int)) 1 (n : Int) = (0, (n : Int)) := by
    unfold Builtin.Slice.sliceAdjust
    have h1 : ¬ ((1 : Int) < 0) := by omega
    have h2 : ¬ ((b : Int) < 0) := by omega
    simp only [h1, h2, if_false]
    congr 1
    omega
  rw [e]
  have e2 : Builtin.Slice.slicePlaces 0 (n : Int) 1 = n := by
    unfold Builtin.Slice.slicePlaces
    have h1 : (1 : Int) > 0 := by omega
    simp only [h1, if_true, Int.ediv_one]
    split <;> omega
  show wpAny _ _ (pure ((0 : Int), (1 : Int), Builtin.Slice.slicePlaces 0 (n : Int) 1)) _ _ s
  rw [e2]
  exact wpAny_pure h

theorem getItem_whole {t sl : Addr} {items : Array Value} {b : Nat} {u : Tok} {Q : Value → Shared → Prop} (ht : IsTup s.heap t items) (hs : s.heap.IsSliceOf sl .none (.int b u) .none) (hb : items.size ≤ b) (h : Q (.ref t) s) :
    wpAny (model prog w) A (getItem (.ref t) (.ref sl)) Q E s := by
  obtain ⟨os, hos, hcs, hds⟩ := id hs
  have hTs : s.TypeIs (.ref sl) "slice" := ⟨os, hos, hcs⟩
  unfold getItem
  try with_reducible refine wpAny_holding ?_
  first | refine wpAny_bind (wpAny_pure ?_) | skip
  refine wpAny_bind (wpAny_sequenceKey ht.typeIs (by decide) ?_)
  refine wpAny_bind (wpAny_callSpecial?_slot (name := Str.ofString "__getitem__") ht.typeIs slot_tuple_getitem
    (wpAny_call_entry slot_tuple_getitem ht.typeIs entry_tuple_getitem ?_ (args_tuple_getitem _ _)))
  show wpAny _ _ (Builtin.Tuple.tupleItemsOf (.ref t) >>= _) _ _ s
  refine wpAny_bind (tupleItemsOf_ ht ?_)
  refine wpAny_bind (wpAny_typeOf hTs ?_)
  rw [if_pos (by decide)]
  refine wpAny_bind (applied_whole hs hb ?_)
  show wpAny _ _ (if ((0 : Int) == 0 && (1 : Int) == 1 && items.size == items.size) = true then _ else _) _ _ s
  rw [if_pos (by simp)]
  refine wpAny_bind ?_
  unfold Builtin.Tuple.tupleIsExact
  refine wpAny_bind (wpAny_typeOf ht.typeIs (wpAny_pure ?_))
  rw [if_pos (by decide)]
  first
    | exact wpAny_bind (wpAny_rule (wpAny_bind (wpAny_pure (wpAny_pure ⟨_, rfl, wpAny_pure h⟩))))
    | exact wpAny_bind (wpAny_rule (wpAny_pure ⟨_, rfl, wpAny_pure h⟩))
theorem slice_whole {h₀ : Heap} {L : Addr} {m : Str → Option Value} {news : List (Addr × Obj)} {value slice : Expr} {t : Addr} {items : Array Value} {b : Nat} {u : Tok} {Q : Value → Shared → Prop}
    (F : Fr h₀ L s.heap m) (N : News h₀ L s.heap news) (ht : IsTup s.heap t items) (hb : items.size ≤ b)
    (h : ∀ h', Fr h₀ L h' m → News h₀ L h' news → Q (.ref t) { s with heap := h' })
    (hs : subscripted slice false (.ref t) (.ref s.heap.objs.size) = operate [.ref s.heap.objs.size, .ref t] (getItem (.ref t) (.ref s.heap.objs.size)))
    (hg : ∀ r, letTemporaryGo value (.ref t) r = pure ()) :
    wpAny (model prog w) A (subscriptTail value slice (.ref t) (.ref s.heap.objs.size)) Q E { s with heap := s.heap.push { cls := .type "slice", data := .fields #[.none, .int b u, .none] } } := by
  have ht' : IsTup (s.heap.push { cls := .type "slice", data := .fields #[.none, .int b u, .none] }) t items := ht.keeps fun _ _ e => Heap.get?_push_of_some _ e
  refine subscriptTail_ops (s := { s with heap := s.heap.push { cls := .type "slice", data := .fields #[.none, .int b u, .none] } }) ht'.typeIs slot_tuple_getitem.lookup
    (getItem_whole ht' (Heap.IsSliceOf.new ..) hb ?_) hs hg
  exact h _ (F.push _) (N.grown fun _ _ e => Heap.get?_push_of_some _ e)
end

theorem noFill_tuple_mul : fillsNumberSlot (.type "tuple") "mul" = pure false :=
  PySem.fillsNumberSlot_seq (id := "tuple.__mul__") (r := some (.builtin "tuple.__rmul__")) F.slot_tuple_mul.lookup (by decide +kernel) F.slot_tuple_rmul.lookup (by decide +kernel)
theorem repeat_tuple : seqRepeat? (.type "tuple") = pure (some (.builtin "tuple.__mul__")) := by
  unfold seqRepeat?
  rw [PySem.seqSlot_of (T := "tuple") (name := "__mul__") (id := "tuple.__mul__") F.slot_tuple_mul.lookup (by decide +kernel), PySem.seqSlot_of (T := "tuple") (name := "__rmul__") (id := "tuple.__rmul__") F.slot_tuple_rmul.lookup (by decide +kernel)]
  rfl
theorem rmul_tuple (a : Int) (t : Tok) (l : Addr) (items : Array Value) (n : Nat) :
    Meets (Builtin.«int.__rmul__» ⟨[.int a t, .ref l], []⟩) (fun _ R s => s.heap.get? l = some { cls := .type "tuple", dict := none, data := .seq items n, slots := #[] } ∧ R (.ok (.ret Value.notImplemented)) s) :=
  .of_wp fun prog w A R s h => by obtain ⟨hp, g, d, tk, os⟩ := s; obtain ⟨hl, h⟩ := h; wp_walk; exact ⟨_, rfl, h⟩
theorem tuple_mul_one (t : Tok) (l : Addr) (items : Array Value) (n : Nat) :
    Meets (Builtin.«tuple.__mul__» ⟨[.ref l, .int 1 t], []⟩) (fun _ R s => s.heap.get? l = some { cls := .type "tuple", dict := none, data := .seq items n, slots := #[] } ∧ R (.ok (.ret (.ref l))) s) :=
  .of_wp fun prog w A R s h => by
    obtain ⟨hp, g, d, tk, os⟩ := s
    obtain ⟨hl, h⟩ := h
    wp_walk
    exact ⟨_, rfl, h⟩
theorem mul_one {prog : Program} {w : World} {A : Around} {E : Value → Shared → Prop} {s : Shared} {l : Addr} {items : Array Value} {k : Nat} {u : Tok} {Q : Value → Shared → Prop}
    {x : Int} (hl : s.heap.get? l = some { cls := .type "tuple", dict := none, data := .seq items k, slots := #[] }) (e : x = 1) (h : Q (.ref l) s) :
    wpAny (model prog w) A (binaryOp .Mult (.ref l) (.int x u)) Q E s := by
  subst e
  exact
  wpAny_binaryOp_repeat_ref (T := "tuple") (U := "int") (by decide) ⟨_, hl, rfl⟩ (fun s' => typeIs_int s' 1 u) noFill_tuple_mul F.fills_int_mul F.slot_int_rmul repeat_tuple F.slot_int_index.lookup
    (call_meets F.slot_int_rmul (typeIs_int s 1 u) F.entry_int_rmul (F.args_int_rmul_2 _ _) (rmul_tuple 1 u l items k)
      ⟨hl, rfl, ⟨_, hl, rfl⟩, call_meets F.slot_tuple_mul ⟨_, hl, rfl⟩ F.entry_tuple_mul (F.args_tuple_mul_2 _ _) (tuple_mul_one u l items k) ⟨hl, h⟩⟩)

/-- the source of a comprehension: a tuple of the ledger -/
def CompSrcP (prog : Program) (w : World) (A : Around) (h₀ : Heap) (L : Addr) (m : Str → Option Value) (env : Env) (ct elt : Expr) (x : Str) (scope : Scope) (cl : List (Str × Addr)) (Q : Value → Shared → Prop) (xv : Value) (s₁ : Shared) : Prop :=
  ∃ (ax : Addr) (o : Obj) (its : Array Value) (k : Nat) (news : List (Addr × Obj)), xv = .ref ax ∧ A.handled = none ∧ Fr h₀ L s₁.heap m ∧ News h₀ L s₁.heap news ∧ (ax, o) ∈ news ∧ o.cls = .type "tuple" ∧ o.data = .seq its k ∧ its.size ≤ sizeLine ∧
    ∀ g, LCt.CompRestT prog w A h₀ L m env ct elt x scope cl { s₁ with heap := g } (fun nw => (ax, o) ∈ nw) (fun i v => its[i]? = some v) (LCg.FinE h₀ L m { s₁ with heap := g } Q) its.size 0 [] news
section
variable {prog : Program} {w : World} {A : Around} {E : Value → Shared → Prop} {s : Shared} {h₀ : Heap} {L : Addr} {m : Str → Option Value} {env : Env}
theorem CompSrcP.intro {ct elt : Expr} {x : Str} {scope : Scope} {cl : List (Str × Addr)} {Q : Value → Shared → Prop} {ax : Addr} {its : Array Value} {k : Nat} {news : List (Addr × Obj)} {s₁ : Shared}
    (hh : A.handled = none) (F : Fr h₀ L s₁.heap m) (N : News h₀ L s₁.heap news) (hm : (ax, ({ cls := .type "tuple", data := .seq its k } : Obj)) ∈ news) (hsz : its.size ≤ sizeLine)
    (h : ∀ g, LCt.CompRestT prog w A h₀ L m env ct elt x scope cl { s₁ with heap := g } (fun nw => (ax, ({ cls := .type "tuple", data := .seq its k } : Obj)) ∈ nw) (fun i v => its[i]? = some v) (LCg.FinE h₀ L m { s₁ with heap := g } Q) its.size 0 [] news) :
    CompSrcP prog w A h₀ L m env ct elt x scope cl Q (.ref ax) s₁ := ⟨ax, _, its, k, news, rfl, hh, F, N, hm, rfl, rfl, hsz, h⟩
theorem ListComp_P {ct elt iter : Expr} {x : Str} {px : Pos} {scope : Scope} {cl : List (Str × Addr)} {pos : Pos} {Q : Value → Shared → Prop} (_F₀ : Fr h₀ L s.heap m)
    (hclos : closureFor scope env = pure cl) (hcell : ∀ y ∈ scope.names, y.2 ≠ .cell) (hkind : scope.kind = .function)
    (hnames : ∀ y ∈ scope.names, y.2 = .local → scope.names.lookup y.1 = some .local) (hx : scope.names.lookup x = some .local)
    (h : wpAny (model prog w) A (eval iter env) (CompSrcP prog w A h₀ L m env ct elt x scope cl Q) E s)
    (hs : ∀ x, foldedSetIterable iter env x = pure x) :
    wpAny (model prog w) A (eval (.ListComp elt [⟨.Name x px, iter, [ct], 0⟩] scope pos) env) Q E s := by
  rw [PySem.eval_ListComp]
  refine wpAny_comprehension_free (use := none) rfl hs hclos hkind hnames (wpAny_mono h (fun xv s₁ h₁ => ?_) fun _ _ e => e)
  obtain ⟨ax, o, its, k, news, rfl, hh, F, N, hm, hc, hd, hsz, R⟩ := h₁
  have hl : s₁.heap.IsTuple ax its := ⟨o, (N _ hm).1, hc, k, hd⟩
  have hlt : ax < s₁.heap.objs.size := Heap.lt_size (N _ hm).1
  refine wpAny_pyIter_tuple hl ?_
  have up : ∀ b o, s₁.heap.get? b = some o → (s₁.heap.push { cls := .type "tuple_iterator", data := .fields #[.ref ax, .int 0 0] }).get? b = some o := fun b o e => Heap.get?_push_of_some _ e
  refine LCt.block_T (Walks.tuple hh s₁.heap.objs.size ax (Nat.ne_of_lt hlt) its) hsz (fun i h st => by obtain ⟨o, e, _⟩ := st.1; exact ⟨o, e⟩)
    (S := fun nw => (ax, o) ∈ nw) (fun i h h' o' nw st e e' _ N' S' => ⟨by obtain ⟨o2, q, r⟩ := st.1; rw [e] at q; cases q; exact ⟨_, e', r⟩, ⟨o, (N' _ S').1, hc, k, hd⟩⟩)
    hcell hkind hx ⟨⟨_, Heap.get?_push_size _ rfl, rfl, rfl⟩, ⟨o, up _ _ (N _ hm).1, hc, k, hd⟩⟩ (fun b hb => ?_)
    (F.keeps up) (N.grown up) (Nat.ne_of_lt F.ns.lt) (next_is_new F) (fun p hp => Nat.ne_of_lt (Heap.lt_size (N p hp).1)) hm (R _) ?_
  · show b < (s₁.heap.push _).objs.size
    rw [Heap.size_push]
    rcases List.mem_cons.mp hb with rfl | hb
    · exact Nat.lt_succ_self _
    · rw [List.mem_singleton.mp hb]; exact Nat.lt_succ_of_lt hlt
  · intro D C h tk m' ys news' F' N' o1 hn hC₀ hD₀ hCL hDL hCD offC fin
    refine ⟨m', hn, fun h'' hs'' => fin D h'' tk (F'.change hs'' hCL hC₀) (fun p hp => ?_) o1⟩
    refine ⟨hs''.extBut _ _ ?_ (N' p hp).1, (N' p hp).2⟩
    rcases List.mem_cons.mp hp with rfl | hp
    · exact Ne.symm hCD
    · exact offC p hp
end

/-- tokens are drawn upwards -/
def TkLe (n k : Nat) : Prop := n ≤ k
theorem TkLe.up {n a b : Nat} (h : TkLe n a) (e : a ≤ b) : TkLe n b := Nat.le_trans h e
theorem TkLe.mk {n a : Nat} (h : n ≤ a) : TkLe n a := h
theorem TkLe.out {n a : Nat} (h : TkLe n a) : n ≤ a := h
theorem TkLe.one {n a : Nat} (h : TkLe (n + 1) a) : 1 ≤ a := Nat.le_trans (Nat.le_add_left 1 n) h
/-- a call by a frame of a def: what is known where it stands; what it gets in hand; what it hands back -/
abbrev Callee (w : World) (hand : List (Addr × Obj)) (n d : Nat) (f : Addr) (pos : List Value) (kw : List (Str × Value)) (R : Value → List (Addr × Obj) → Prop) : Prop :=
  ∀ (mean : ExcName → Option Value) (mg mb : Str → Option Value) (dp un : Nat) (gd : Option (List Code)) (cn : Str) (cs : Scope) (a : Addr) (ccd : Value) (cl : List (Str × Addr)) (outer : List Env) (A₀ : Around) (base h₀ : Heap) (L : Addr) (m : Str → Option Value) (s : Shared) (Q E : Value → Shared → Prop) (rest : List (Addr × Obj)),
    Below A₀ base outer h₀ → Fr h₀ L s.heap m → (KK w).In h₀ → News h₀ L s.heap hand → News h₀ L s.heap rest → (∀ p ∈ rest, p.1 ∉ hand.map (·.1)) → Top hd.view_39 LO mean mg mb h₀ → cs.kind = .function →
    dp + d < recursionLimit → un + 16 * d < cLine → TkLe n s.toks →
    (∀ (v : Value) (h' : Heap) (tk' : Nat) (back : List (Addr × Obj)), R v back → Fr h₀ L h' m → News h₀ L h' back → News h₀ L h' rest → (∀ p ∈ rest, p.1 ∉ back.map (·.1)) → TkLe n tk' → Q v { s with heap := h', toks := tk' }) →
    wpAny (model PG w) (ktrTop dp un gd cn cs L a ccd cl outer) (PySem.call (.ref f) pos kw) Q E s

/-- what is asked of the texts: an alias is found -/
structure NegF (P AV ll avl al0 al sep : Str) : Prop where
  hP : Sm P
  hA : Sm AV
  hll : Sm ll
  havl : Sm avl
  h0 : Sm al0
  hal : Sm al
  h1 : Txt.lower AV = avl
  h2 : Txt.lower P = ll
  h3 : (avl == ll) = false
  hg : lookup (PyData.str ll) DTab = some (PyData.str al0)
  h4 : Txt.replace al0 (Str.ofString "_") sep = al
  h5 : Txt.lower al = avl
  h6 : (avl == avl) = true
/-- no aliases -/
structure NoneF (P AV ll avl : Str) : Prop where
  hP : Sm P
  hA : Sm AV
  hll : Sm ll
  havl : Sm avl
  h1 : Txt.lower AV = avl
  h2 : Txt.lower P = ll
  h3 : (avl == ll) = false
  h4 : Txt.split P (Str.ofString "_") = [P]
/-- a language that has no alias -/
structure BareF (P AV ll avl : Str) : Prop where
  n : NoneF P AV ll avl
  hg : lookup (PyData.str ll) DTab = none
/-- a language alone, parsed -/
structure PF1 (x g gl : Str) : Prop where
  hx : Sm x
  hg : Sm g
  hgl : Sm gl
  h1 : Txt.partition x (Str.ofString "@") = (x, Str.ofString "", Str.ofString "")
  h2 : (Builtin.Str.occurrences x (Str.ofString ".") 0 x.length 1).isEmpty = true
  h3 : Txt.split x (Str.ofString "_") = [g]
  h4 : Txt.lower g = gl
  h5 : Txt.isalpha gl = true
/-- a language and a territory, parsed -/
structure PF2 (x g t gl tu : Str) : Prop where
  hx : Sm x
  hg : Sm g
  ht : Sm t
  hgl : Sm gl
  htu : Sm tu
  h1 : Txt.partition x (Str.ofString "@") = (x, Str.ofString "", Str.ofString "")
  h2 : (Builtin.Str.occurrences x (Str.ofString ".") 0 x.length 1).isEmpty = true
  h3 : Txt.split x (Str.ofString "_") = [g, t]
  h4 : Txt.lower g = gl
  h5 : Txt.isalpha gl = true
  h6 : t.length = 2
  h7 : Txt.isalpha t = true
  h8 : Txt.upper t = tu
structure GF1 (x r : Str) : Prop where
  hx : Sm x
  h1 : Txt.join (Str.ofString "_") [x] = r
structure GF2 (x y r : Str) : Prop where
  hx : Sm x
  hy : Sm y
  h1 : Txt.join (Str.ofString "_") [x, y] = r
/-- a variable's text as default_locale looks at it first -/
structure LF (x : Str) : Prop where
  hx : Sm x
  q1 : Txt.split x (Str.ofString ".") = [x]
  q2 : (Str.ofString "C" == x) = false
  q3 : (Str.ofString "POSIX" == x) = false
structure DF2 (x y g t gl tu : Str) : Prop where
  l : LF x
  q4 : lookup (PyData.str x) DTab = some (PyData.str y)
  p : PF2 y g t gl tu
  j : GF2 gl tu y
structure DF1 (x gl : Str) : Prop where
  l : LF x
  q4 : lookup (PyData.str x) DTab = none
  p : PF1 x x gl
  j : GF1 gl gl

theorem Callee.use {w : World} {hand : List (Addr × Obj)} {n d : Nat} {f : Addr} {pos : List Value} {kw : List (Str × Value)} {R : Value → List (Addr × Obj) → Prop}
    {mean : ExcName → Option Value} {mg mb : Str → Option Value} {dp un : Nat} {gd : Option (List Code)} {cn : Str} {cs : Scope} {a : Addr} {ccd : Value} {cl : List (Str × Addr)} {outer : List Env} {A₀ : Around} {base h₀ : Heap} {L : Addr} {m : Str → Option Value} {s : Shared} {Q E : Value → Shared → Prop} {rest : List (Addr × Obj)}
    (hB : Below A₀ base outer h₀) (hF : Fr h₀ L s.heap m) (hX : (hd.heap_39 w.params).In h₀) (hN : News h₀ L s.heap hand) (hR : News h₀ L s.heap rest) (hD : ∀ p ∈ rest, p.1 ∉ hand.map (·.1))
    (hT : Top hd.view_39 (looseW hd.view_39 [Str.ofString "LOCALE_ALIASES", Str.ofString "default_locale", Str.ofString "negotiate_locale", Str.ofString "parse_locale", Str.ofString "get_locale_identifier"]) mean mg mb h₀) (hK : cs.kind = .function)
    (hd' : dp + d < recursionLimit) (hu : un + 16 * d < cLine) (hTk : TkLe n s.toks) (C : Callee w hand n d f pos kw R)
    (ret : ∀ (v : Value) (h' : Heap) (tk' : Nat) (back : List (Addr × Obj)), R v back → Fr h₀ L h' m → News h₀ L h' (back ++ rest) → (∀ p ∈ rest, p.1 ∉ back.map (·.1)) → TkLe n tk' → Q v { s with heap := h', toks := tk' }) :
    wpAny (model Challenge.rw_bd5002_01.row.prog w) (ktrTop dp un gd cn cs L a ccd cl outer) (PySem.call (.ref f) pos kw) Q E s :=
  C mean mg mb dp un gd cn cs a ccd cl outer A₀ base h₀ L m s Q E rest hB hF hX hN hR hD hT hK hd' hu hTk fun v h' tk' back r F N M o t => ret v h' tk' back r F (news_both N M) o t

/-- a for over a list of one item: the tokens of the turn lie above those ahead of the loop -/
theorem for_one {prog : Program} {w : World} {A : Around} {E : Value → Shared → Prop} {s : Shared} {h₀ : Heap} {name : Str} {scope : Scope} {L a : Addr} {cd : Value} {x y : Str} {px py pos : Pos} {body : List Stmt} {Q : Flow → Shared → Prop}
    {m : Str → Option Value} {news : List (Addr × Obj)} {ax : Addr} {lo : Obj} {v : Value} {n : Nat}
    (F : Fr h₀ L s.heap m) (N : News h₀ L s.heap news) (hy : m y = some (.ref ax)) (hm : (ax, lo) ∈ news) (hc : lo.cls = .type "list") (hd : lo.data = .seq #[v] n) (hh : A.handled = none)
    (hk : scope.kind = .function) (hly : (envOf name scope L a cd).kindOf y = some .local) (hlx : (envOf name scope L a cd).kindOf x = some .local) (hdb : (y == ("__debug__" : Str)) = false) (hE : PassesOwn (model prog w) A (envOf name scope L a cd) E)
    (turn : ∀ (I : Addr) (it : Obj) (h : Heap) (tk : Nat), (∀ p ∈ news, p.1 < I) → s.toks ≤ tk → it.cls = .type "list_iterator" → Fr h₀ L h (fun z => if z = x then some v else m z) → News h₀ L h ((I, it) :: news) →
      wpAny (model prog w) A (execs body (envOf name scope L a cd)) (UnrPost h₀ L { s with heap := h, toks := tk } I it (fun m' n' => (ax, lo) ∈ n' ∧ ListRest prog w A E h₀ (envOf name scope L a cd) x body Q s I (ax, lo) [] m' n') Q) E { s with heap := h, toks := tk }) :
    wpAny (model prog w) A (exec (.For (.Name x px) (.Name y py) body [] pos) (envOf name scope L a cd)) Q E s := by
  have hax := N _ hm
  have hl : s.heap.IsList ax #[v] := ⟨lo, hax.1, hc, n, hd⟩
  have hne : ax ≠ s.heap.objs.size := Nat.ne_of_lt (Heap.lt_size hax.1)
  have hLI : L ≠ s.heap.objs.size := Nat.ne_of_lt F.ns.lt
  have hp : ((envOf name scope L a cd).scope.kind == .class || ((envOf name scope L a cd).scope.kind == .module && (envOf name scope L a cd).locals != (envOf name scope L a cd).globals)) = false := by
    show (scope.kind == .class || (scope.kind == .module && _)) = false
    rw [hk]; rfl
  refine wpAny_For (ld F hy ?_ hk hly hdb) (by intro _; rfl)
  refine wpAny_pyIter_list hl ?_
  have W := Walks.list (prog := prog) (w := w) hh s.heap.objs.size ax hne #[v]
  have lo1 : ∀ p ∈ news, p.1 < s.heap.objs.size := fun p hp => Heap.lt_size (N p hp).1
  generalize hI : s.heap.objs.size = I at *
  have hnew : h₀.get? I = none := by rw [← hI]; exact next_is_new F
  refine codeAny_forLoop (fun k s' => (k = 1 ∧ s' = { s with heap := s.heap.push { cls := .type "list_iterator", data := .fields #[.ref ax, .int 0 0] } }) ∨
    (k = 0 ∧ ∃ h' tk m' n', s' = { s with heap := h', toks := tk } ∧ h'.IsListIter I ax 1 ∧ h'.IsList ax #[v] ∧ Fr h₀ L h' m' ∧ News h₀ L h' n' ∧ (∀ p ∈ n', p.1 ≠ I) ∧
      ListRest prog w A E h₀ (envOf name scope L a cd) x body Q s I (ax, lo) [] m' n')) ?_ 1 (.inl ⟨rfl, rfl⟩)
  rintro k s' (⟨rfl, rfl⟩ | ⟨rfl, h', tk, m', n', rfl, hit, hli, F', N', off, r⟩)
  · have F1 := F.push { cls := .type "list_iterator", data := .fields #[.ref ax, .int 0 0] }
    have hkeep : ∀ b o, s.heap.get? b = some o → (s.heap.push { cls := .type "list_iterator", data := .fields #[.ref ax, .int 0 0] }).get? b = some o := fun b o e => Heap.get?_push_of_some _ e
    refine wpAny_with_toks (n := s.toks) (Nat.le_refl _) (W.item 0 _ _ _ (by show 0 < 1; decide) ⟨⟨_, by rw [← hI]; exact Heap.get?_push_size _ rfl, rfl, rfl⟩, hl.at fun o e => hkeep _ _ e⟩ fun v' h₁ tk₁ hP st₁ hk₁ htk => ?_)
    have ev : v' = v := by simpa using hP.symm
    subst ev
    have F2 : Fr h₀ L h₁ m := ⟨F1.ns.at' fun o e => hk₁ _ o (by simpa using hLI) e, fun b o e => hk₁ b o (by intro q; rw [List.mem_singleton.mp q, hnew] at e; cases e) (F1.keep b o e), F.above⟩
    have N2 : News h₀ L h₁ news := fun p hp => ⟨hk₁ _ _ (by simpa using Nat.ne_of_lt (lo1 p hp)) (hkeep _ _ (N p hp).1), (N p hp).2⟩
    refine wpAny_assign_Name (wpAny_storeName_local hlx F2.ns (fun h₂ hn₂ hs₂ => ?_) hp)
    have F3 := F2.set hn₂ hs₂
    have N3 := N2.set hs₂
    obtain ⟨it, g1, g2, g3⟩ := st₁.1
    have gI : h₂.get? I = some it := (hs₂.2 _ (Ne.symm hLI)).trans g1
    have N4 : News h₀ L h₂ ((I, it) :: news) := fun p hp => by
      rcases List.mem_cons.mp hp with rfl | hp
      · exact ⟨gI, Ne.symm hLI, hnew⟩
      · exact N3 p hp
    refine wpAny_passesOwn hE (wpAny_mono (turn I it h₂ (tk₁ + 1) lo1 (Nat.le_succ_of_le htk) g2 F3 N4) (fun f s₃ h₃ => ?_) fun _ _ e => e)
    have fin : UnrEnd h₀ L { s with heap := h₂, toks := tk₁ + 1 } I it (fun m' n' => (ax, lo) ∈ n' ∧ ListRest prog w A E h₀ (envOf name scope L a cd) x body Q s I (ax, lo) [] m' n') s₃ →
        ∃ m, m < 1 ∧ ((m = 1 ∧ s₃ = { s with heap := s.heap.push { cls := .type "list_iterator", data := .fields #[.ref ax, .int 0 0] } }) ∨
          (m = 0 ∧ ∃ h' tk m' n', s₃ = { s with heap := h', toks := tk } ∧ h'.IsListIter I ax 1 ∧ h'.IsList ax #[v'] ∧ Fr h₀ L h' m' ∧ News h₀ L h' n' ∧ (∀ p ∈ n', p.1 ≠ I) ∧
            ListRest prog w A E h₀ (envOf name scope L a cd) x body Q s I (ax, lo) [] m' n')) := by
      rintro ⟨h', tk, m', n', rfl, F', N', off, hmem, r⟩
      exact ⟨0, by decide, .inr ⟨rfl, h', tk, m', n', rfl, ⟨it, (N' _ (.head _)).1, g2, g3⟩, ⟨lo, (N' _ (.tail _ hmem)).1, hc, n, hd⟩, F', fun p hp => N' p (.tail _ hp), off, r⟩⟩
    cases f with
    | ret v => exact h₃
    | brk => exact h₃
    | next => exact fin h₃
    | cont => exact fin h₃
  · refine W.done _ _ _ ⟨hit, hli⟩ fun h₁ tk₁ hk₁ => wpAny_execs_nil ?_
    exact r h₁ tk₁ ⟨F'.ns.at' fun o e => hk₁ _ o (by simpa using hLI) e, fun b o e => hk₁ b o (by intro q; rw [List.mem_singleton.mp q, hnew] at e; cases e) (F'.keep b o e), F'.above⟩ (fun p hp => ⟨hk₁ _ _ (by simpa using off p hp) (N' p hp).1, (N' p hp).2⟩)

theorem news_head {h₀ h : Heap} {L : Addr} {p : Addr × Obj} {r : List (Addr × Obj)} (N : News h₀ L h (p :: r)) : News h₀ L h [p] := fun q hq => N q (List.mem_cons.mpr (.inl (List.mem_singleton.mp hq)))
theorem gen_at {prog : Program} {w : World} {A : Around} {α : Type} {Q : α → Shared → Prop} {E : Value → Shared → Prop} {t : Sem α} {h : Heap} {g : Array GenState} {d : Drawn} {os : OsState} {n X : Nat} (hn : TkLe n X)
    (k : ∀ tk, TkLe n tk → wpAny (model prog w) A t Q E ⟨h, g, d, tk, os⟩) : wpAny (model prog w) A t Q E ⟨h, g, d, X, os⟩ := k X hn
theorem execs_tk {prog : Program} {w : World} {A : Around} {E : Value → Shared → Prop} {s : Shared} {env : Env} {st : Stmt} {rest : List Stmt} {Q : Flow → Shared → Prop} {n : Nat} (hn : TkLe n s.toks)
    (h : wpAny (model prog w) A (exec st env) (fun f s' => TkLe n s'.toks → match f with | .next => wpAny (model prog w) A (execs rest env) Q E s' | f => Q f s') E s) :
    wpAny (model prog w) A (execs (st :: rest) env) Q E s :=
  wpAny_execs_cons (wpAny_with_toks hn (wpAny_mono h (fun _ _ x => x) fun _ _ x _ => x))
def row0 : Str × Str := (Str.ofString "ar", Str.ofString "ar_SY")
def row (i : Nat) : Str × Str := tab.getD i row0
def LA (i : Nat) : Str := (row i).1
def AA (i : Nat) : Str := (row i).2
def UL (i : Nat) : Str := Txt.upper (LA i)
def AL (i : Nat) : Str := Txt.lower (AA i)
def DA (i : Nat) : Str := Txt.replace (AA i) (Str.ofString "_") (Str.ofString "-")
def DL (i : Nat) : Str := Txt.lower (DA i)
def GA (i : Nat) : Str := (Txt.split (AA i) (Str.ofString "_")).getD 0 Str.empty
def TA (i : Nat) : Str := (Txt.split (AA i) (Str.ofString "_")).getD 1 Str.empty
theorem row_mem (i : Nat) : row i ∈ tab := by
  unfold row
  by_cases h : i < tab.length
  · rw [List.getD_eq_getElem?_getD, List.getElem?_eq_getElem h]
    exact List.getElem_mem h
  · rw [List.getD_eq_getElem?_getD, List.getElem?_eq_none (by omega)]
    exact .head _
theorem all_tab (P : Str × Str → Prop) [DecidablePred P] (h : (tab.all fun p => decide (P p)) = true) (i : Nat) : P (row i) := by
  have := List.all_eq_true.mp h _ (row_mem i)
  simpa using this
theorem sm_of {x : Str} (h : 1 ≤ x.length ∧ x.length ≤ 100) : Sm x := ⟨h.1, h.2⟩
theorem smLA (i : Nat) : Sm (LA i) := sm_of (all_tab (fun p => 1 ≤ p.1.length ∧ p.1.length ≤ 100) (by decide +kernel) i)
theorem smAA (i : Nat) : Sm (AA i) := sm_of (all_tab (fun p => 1 ≤ p.2.length ∧ p.2.length ≤ 100) (by decide +kernel) i)
theorem smUL (i : Nat) : Sm (UL i) := sm_of (all_tab (fun p => 1 ≤ (Txt.upper p.1).length ∧ (Txt.upper p.1).length ≤ 100) (by decide +kernel) i)
theorem smAL (i : Nat) : Sm (AL i) := sm_of (all_tab (fun p => 1 ≤ (Txt.lower p.2).length ∧ (Txt.lower p.2).length ≤ 100) (by decide +kernel) i)
theorem smDA (i : Nat) : Sm (DA i) := sm_of (all_tab (fun p => 1 ≤ (Txt.replace p.2 (Str.ofString "_") (Str.ofString "-")).length ∧ (Txt.replace p.2 (Str.ofString "_") (Str.ofString "-")).length ≤ 100) (by decide +kernel) i)
theorem smDL (i : Nat) : Sm (DL i) := sm_of (all_tab (fun p => 1 ≤ (Txt.lower (Txt.replace p.2 (Str.ofString "_") (Str.ofString "-"))).length ∧ (Txt.lower (Txt.replace p.2 (Str.ofString "_") (Str.ofString "-"))).length ≤ 100) (by decide +kernel) i)
theorem smGA (i : Nat) : Sm (GA i) := sm_of (all_tab (fun p => 1 ≤ ((Txt.split p.2 (Str.ofString "_")).getD 0 Str.empty).length ∧ ((Txt.split p.2 (Str.ofString "_")).getD 0 Str.empty).length ≤ 100) (by decide +kernel) i)
theorem smTA (i : Nat) : Sm (TA i) := sm_of (all_tab (fun p => 1 ≤ ((Txt.split p.2 (Str.ofString "_")).getD 1 Str.empty).length ∧ ((Txt.split p.2 (Str.ofString "_")).getD 1 Str.empty).length ≤ 100) (by decide +kernel) i)
theorem lowLA (i : Nat) : Txt.lower (LA i) = LA i := all_tab (fun p => Txt.lower p.1 = p.1) (by decide +kernel) i
theorem lowUL (i : Nat) : Txt.lower (UL i) = LA i := all_tab (fun p => Txt.lower (Txt.upper p.1) = p.1) (by decide +kernel) i
theorem lowAL (i : Nat) : Txt.lower (AL i) = AL i := all_tab (fun p => Txt.lower (Txt.lower p.2) = Txt.lower p.2) (by decide +kernel) i
theorem neAL (i : Nat) : (AL i == LA i) = false := all_tab (fun p => (Txt.lower p.2 == p.1) = false) (by decide +kernel) i
theorem neDL (i : Nat) : (DL i == LA i) = false := all_tab (fun p => (Txt.lower (Txt.replace p.2 (Str.ofString "_") (Str.ofString "-")) == p.1) = false) (by decide +kernel) i
def strOf (o : Option PyData) : Option Str := match o with
  | some (.str x) => some x
  | _ => none
theorem of_strOf {o : Option PyData} {y : Str} (h : strOf o = some y) : o = some (.str y) := by
  unfold strOf at h
  split at h
  · cases h; rfl
  · cases h
theorem getLA (i : Nat) : PySem.Spec.lookup (PyData.str (LA i)) DTab = some (PyData.str (AA i)) := of_strOf (all_tab (fun p => strOf (PySem.Spec.lookup (PyData.str p.1) DTab) = some p.2) (by decide +kernel) i)
theorem getUL (i : Nat) : PySem.Spec.lookup (PyData.str (UL i)) DTab = none := all_tab (fun p => PySem.Spec.lookup (PyData.str (Txt.upper p.1)) DTab = none) (by decide +kernel) i
theorem repAA (i : Nat) : Txt.replace (AA i) (Str.ofString "_") (Str.ofString "_") = AA i := Txt.replace_self _ _
theorem splLA (i : Nat) : Txt.split (LA i) (Str.ofString "_") = [LA i] := all_tab (fun p => Txt.split p.1 (Str.ofString "_") = [p.1]) (by decide +kernel) i
theorem splUL (i : Nat) : Txt.split (UL i) (Str.ofString "_") = [UL i] := all_tab (fun p => Txt.split (Txt.upper p.1) (Str.ofString "_") = [Txt.upper p.1]) (by decide +kernel) i
theorem splAA (i : Nat) : Txt.split (AA i) (Str.ofString "_") = [GA i, TA i] := all_tab (fun p => Txt.split p.2 (Str.ofString "_") = [(Txt.split p.2 (Str.ofString "_")).getD 0 Str.empty, (Txt.split p.2 (Str.ofString "_")).getD 1 Str.empty]) (by decide +kernel) i
theorem dotLA (i : Nat) : Txt.split (LA i) (Str.ofString ".") = [LA i] := all_tab (fun p => Txt.split p.1 (Str.ofString ".") = [p.1]) (by decide +kernel) i
theorem dotUL (i : Nat) : Txt.split (UL i) (Str.ofString ".") = [UL i] := all_tab (fun p => Txt.split (Txt.upper p.1) (Str.ofString ".") = [Txt.upper p.1]) (by decide +kernel) i
theorem atUL (i : Nat) : Txt.partition (UL i) (Str.ofString "@") = (UL i, Str.ofString "", Str.ofString "") := all_tab (fun p => Txt.partition (Txt.upper p.1) (Str.ofString "@") = (Txt.upper p.1, Str.ofString "", Str.ofString "")) (by decide +kernel) i
theorem atAA (i : Nat) : Txt.partition (AA i) (Str.ofString "@") = (AA i, Str.ofString "", Str.ofString "") := all_tab (fun p => Txt.partition p.2 (Str.ofString "@") = (p.2, Str.ofString "", Str.ofString "")) (by decide +kernel) i
theorem noUL (i : Nat) : (Builtin.Str.occurrences (UL i) (Str.ofString ".") 0 (UL i).length 1).isEmpty = true := all_tab (fun p => (Builtin.Str.occurrences (Txt.upper p.1) (Str.ofString ".") 0 (Txt.upper p.1).length 1).isEmpty = true) (by decide +kernel) i
theorem noAA (i : Nat) : (Builtin.Str.occurrences (AA i) (Str.ofString ".") 0 (AA i).length 1).isEmpty = true := all_tab (fun p => (Builtin.Str.occurrences p.2 (Str.ofString ".") 0 p.2.length 1).isEmpty = true) (by decide +kernel) i
theorem cLA (i : Nat) : (Str.ofString "C" == LA i) = false := all_tab (fun p => (Str.ofString "C" == p.1) = false) (by decide +kernel) i
theorem pLA (i : Nat) : (Str.ofString "POSIX" == LA i) = false := all_tab (fun p => (Str.ofString "POSIX" == p.1) = false) (by decide +kernel) i
theorem cUL (i : Nat) : (Str.ofString "C" == UL i) = false := all_tab (fun p => (Str.ofString "C" == Txt.upper p.1) = false) (by decide +kernel) i
theorem pUL (i : Nat) : (Str.ofString "POSIX" == UL i) = false := all_tab (fun p => (Str.ofString "POSIX" == Txt.upper p.1) = false) (by decide +kernel) i
theorem alLA (i : Nat) : Txt.isalpha (LA i) = true := all_tab (fun p => Txt.isalpha p.1 = true) (by decide +kernel) i
theorem alGA (i : Nat) : Txt.isalpha (GA i) = true := all_tab (fun p => Txt.isalpha ((Txt.split p.2 (Str.ofString "_")).getD 0 Str.empty) = true) (by decide +kernel) i
theorem alTA (i : Nat) : Txt.isalpha (TA i) = true := all_tab (fun p => Txt.isalpha ((Txt.split p.2 (Str.ofString "_")).getD 1 Str.empty) = true) (by decide +kernel) i
theorem lowGA (i : Nat) : Txt.lower (GA i) = GA i := all_tab (fun p => Txt.lower ((Txt.split p.2 (Str.ofString "_")).getD 0 Str.empty) = (Txt.split p.2 (Str.ofString "_")).getD 0 Str.empty) (by decide +kernel) i
theorem upTA (i : Nat) : Txt.upper (TA i) = TA i := all_tab (fun p => Txt.upper ((Txt.split p.2 (Str.ofString "_")).getD 1 Str.empty) = (Txt.split p.2 (Str.ofString "_")).getD 1 Str.empty) (by decide +kernel) i
theorem lenTA (i : Nat) : (TA i).length = 2 := all_tab (fun p => ((Txt.split p.2 (Str.ofString "_")).getD 1 Str.empty).length = 2) (by decide +kernel) i
theorem joinAA (i : Nat) : Txt.join (Str.ofString "_") [GA i, TA i] = AA i := all_tab (fun p => Txt.join (Str.ofString "_") [(Txt.split p.2 (Str.ofString "_")).getD 0 Str.empty, (Txt.split p.2 (Str.ofString "_")).getD 1 Str.empty] = p.2) (by decide +kernel) i
theorem joinLA (i : Nat) : Txt.join (Str.ofString "_") [LA i] = LA i := all_tab (fun p => Txt.join (Str.ofString "_") [p.1] = p.1) (by decide +kernel) i
theorem fNeg1 (i : Nat) : NegF (LA i) (AA i) (LA i) (AL i) (AA i) (AA i) (Str.ofString "_") := ⟨smLA i, smAA i, smLA i, smAL i, smAA i, smAA i, rfl, lowLA i, neAL i, getLA i, repAA i, rfl, by simp⟩
theorem fNeg2 (i : Nat) : NegF (UL i) (AL i) (LA i) (AL i) (AA i) (AA i) (Str.ofString "_") := ⟨smUL i, smAL i, smLA i, smAL i, smAA i, smAA i, lowAL i, lowUL i, neAL i, getLA i, repAA i, rfl, by simp⟩
theorem fNeg3 (i : Nat) : NegF (LA i) (DA i) (LA i) (DL i) (AA i) (DA i) (Str.ofString "-") := ⟨smLA i, smDA i, smLA i, smDL i, smAA i, smDA i, rfl, lowLA i, neDL i, getLA i, rfl, rfl, by simp⟩
theorem fNone (i : Nat) : NoneF (LA i) (AA i) (LA i) (AL i) := ⟨smLA i, smAA i, smLA i, smAL i, rfl, lowLA i, neAL i, splLA i⟩
theorem fPF2 (i : Nat) : PF2 (AA i) (GA i) (TA i) (GA i) (TA i) := ⟨smAA i, smGA i, smTA i, smGA i, smTA i, atAA i, noAA i, splAA i, lowGA i, alGA i, lenTA i, alTA i, upTA i⟩
theorem fDF2 (i : Nat) : DF2 (LA i) (AA i) (GA i) (TA i) (GA i) (TA i) := ⟨⟨smLA i, dotLA i, cLA i, pLA i⟩, getLA i, fPF2 i, ⟨smGA i, smTA i, joinAA i⟩⟩
theorem fDF1 (i : Nat) : DF1 (UL i) (LA i) := ⟨⟨smUL i, dotUL i, cUL i, pUL i⟩, getUL i, ⟨smUL i, smUL i, smLA i, atUL i, noUL i, splUL i, lowUL i, alLA i⟩, ⟨smLA i, joinLA i⟩⟩

def bares : List Str := [Str.ofString "zu", Str.ofString "vi", Str.ofString "hr", Str.ofString "zh", Str.ofString "ka"]
def BA (i : Nat) : Str := bares.getD i (Str.ofString "zu")
def BU (i : Nat) : Str := Txt.upper (BA i)
def BM (i : Nat) : Str := BA i ++ Str.ofString "_"
def BV (i : Nat) : Str := BM i ++ BU i
def BW (i : Nat) : Str := Txt.lower (BV i)
theorem all_bare (P : Str → Prop) [DecidablePred P] (h : (bares.all fun p => decide (P p)) = true) (i : Nat) : P (BA i) := by
  have hm : BA i ∈ bares := by
    unfold BA
    by_cases h : i < bares.length
    · rw [List.getD_eq_getElem?_getD, List.getElem?_eq_getElem h]
      exact List.getElem_mem h
    · rw [List.getD_eq_getElem?_getD, List.getElem?_eq_none (by omega)]
      exact .head _
  have := List.all_eq_true.mp h _ hm
  simpa using this
theorem smBA (i : Nat) : Sm (BA i) := sm_of (all_bare (fun p => 1 ≤ p.length ∧ p.length ≤ 100) (by decide +kernel) i)
theorem smBU (i : Nat) : Sm (BU i) := sm_of (all_bare (fun p => 1 ≤ (Txt.upper p).length ∧ (Txt.upper p).length ≤ 100) (by decide +kernel) i)
theorem smBM (i : Nat) : Sm (BM i) := sm_of (all_bare (fun p => 1 ≤ (p ++ Str.ofString "_").length ∧ (p ++ Str.ofString "_").length ≤ 100) (by decide +kernel) i)
theorem smBV (i : Nat) : Sm (BV i) := sm_of (all_bare (fun p => 1 ≤ ((p ++ Str.ofString "_") ++ Txt.upper p).length ∧ ((p ++ Str.ofString "_") ++ Txt.upper p).length ≤ 100) (by decide +kernel) i)
theorem smBW (i : Nat) : Sm (BW i) := sm_of (all_bare (fun p => 1 ≤ (Txt.lower ((p ++ Str.ofString "_") ++ Txt.upper p)).length ∧ (Txt.lower ((p ++ Str.ofString "_") ++ Txt.upper p)).length ≤ 100) (by decide +kernel) i)
theorem fBare (i : Nat) : BareF (BA i) (BV i) (BA i) (BW i) :=
  ⟨⟨smBA i, smBV i, smBA i, smBW i, rfl, all_bare (fun p => Txt.lower p = p) (by decide +kernel) i, all_bare (fun p => (Txt.lower ((p ++ Str.ofString "_") ++ Txt.upper p) == p) = false) (by decide +kernel) i, all_bare (fun p => Txt.split p (Str.ofString "_") = [p]) (by decide +kernel) i⟩,
    all_bare (fun p => PySem.Spec.lookup (PyData.str p) DTab = none) (by decide +kernel) i⟩
theorem fDFb (i : Nat) : DF1 (BA i) (BA i) :=
  ⟨⟨smBA i, all_bare (fun p => Txt.split p (Str.ofString ".") = [p]) (by decide +kernel) i, all_bare (fun p => (Str.ofString "C" == p) = false) (by decide +kernel) i, all_bare (fun p => (Str.ofString "POSIX" == p) = false) (by decide +kernel) i⟩,
    all_bare (fun p => PySem.Spec.lookup (PyData.str p) DTab = none) (by decide +kernel) i,
    ⟨smBA i, smBA i, smBA i, all_bare (fun p => Txt.partition p (Str.ofString "@") = (p, Str.ofString "", Str.ofString "")) (by decide +kernel) i, all_bare (fun p => (Builtin.Str.occurrences p (Str.ofString ".") 0 p.length 1).isEmpty = true) (by decide +kernel) i, all_bare (fun p => Txt.split p (Str.ofString "_") = [p]) (by decide +kernel) i, all_bare (fun p => Txt.lower p = p) (by decide +kernel) i, all_bare (fun p => Txt.isalpha p = true) (by decide +kernel) i⟩,
    ⟨smBA i, all_bare (fun p => Txt.join (Str.ofString "_") [p] = p) (by decide +kernel) i⟩⟩
section
variable {prog : Program} {w : World} {A : Around} {E : Value → Shared → Prop} {s : Shared} {h₀ : Heap} {L : Addr} {m : Str → Option Value} {news : List (Addr × Obj)} {x y z r : Str} {t u : Tok} {Q : Value → Shared → Prop}
theorem add_to (hx : Sm x) (hy : Sm y) (e : x ++ y = r) (h : ∀ t' k, s.toks ≤ k → Q (.str r t') { s with toks := k }) : wpAny (model prog w) A (binaryOp .Add (.str x t) (.str y u)) Q E s :=
  wpAny_with_toks (Nat.le_refl s.toks) (PyProof.Rows.add_str (fun t' k hk => by rw [e]; exact h t' k hk) (by have := hx.le; have := hy.le; rw [sizeLine_eq]; omega))
theorem ne_self (h : Q (.bool false) s) : wpAny (model prog w) A (compareOp .NotEq (.str x t) (.str x u)) Q E s :=
  PyProof.Rows.ne_str (by simpa using h)
theorem slice_to {value slice : Expr} {j : Int} {uj : Tok} (hF : Fr h₀ L s.heap m) (hN : News h₀ L s.heap news) (hx : Sm x) (e : Txt.slice x none (some j) = r)
    (h : ∀ h' t' k, s.toks ≤ k → Fr h₀ L h' m → News h₀ L h' news → Q (.str r t') { s with heap := h', toks := k })
    (hs : subscripted slice false (.str x t) (.ref s.heap.objs.size) = operate [.ref s.heap.objs.size, .str x t] (getItem (.str x t) (.ref s.heap.objs.size)))
    (ht : ∀ r, letTemporaryGo value (.str x t) r = pure ()) :
    wpAny (model prog w) A (subscriptTail value slice (.str x t) (.ref s.heap.objs.size)) Q E { s with heap := s.heap.push { cls := .type "slice", data := .fields #[.none, .int j uj, .none] } } :=
  wpAny_with_toks (n := s.toks) (Nat.le_refl _) (slice_strN_ns hF hN (fun h' t' k F N hk => by rw [e]; exact h h' t' k hk F N) hs ht (by have := hx.le; rw [sizeLine_eq]; omega))
theorem slice_from {value slice : Expr} {j : Int} {uj : Tok} (hF : Fr h₀ L s.heap m) (hN : News h₀ L s.heap news) (hx : Sm x) (e : Txt.slice x (some j) none = r)
    (h : ∀ h' t' k, s.toks ≤ k → Fr h₀ L h' m → News h₀ L h' news → Q (.str r t') { s with heap := h', toks := k })
    (hs : subscripted slice false (.str x t) (.ref s.heap.objs.size) = operate [.ref s.heap.objs.size, .str x t] (getItem (.str x t) (.ref s.heap.objs.size)))
    (ht : ∀ r, letTemporaryGo value (.str x t) r = pure ()) :
    wpAny (model prog w) A (subscriptTail value slice (.str x t) (.ref s.heap.objs.size)) Q E { s with heap := s.heap.push { cls := .type "slice", data := .fields #[.int j uj, .none, .none] } } :=
  wpAny_with_toks (n := s.toks) (Nat.le_refl _) (slice_strN_sn hF hN (fun h' t' k F N hk => by rw [e]; exact h h' t' k hk F N) hs ht (by have := hx.le; rw [sizeLine_eq]; omega))
end

/-- the rows that a written tuple of pairs of texts holds -/
def pairOf (K : Frag) (v : Value) : Option (Str × Tok × Str × Tok) := match v with
  | .ref a => match K.lookup a with
    | some ⟨.type T, none, .seq vs _, sl⟩ => match vs.toList, sl.toList, T == "tuple" with
      | [.str x t, .str y u], [], true => some (x, t, y, u)
      | _, _, _ => none
    | _ => none
  | _ => none
def pairsOf (K : Frag) : List Value → Option (List (Str × Tok × Str × Tok))
  | [] => some []
  | v :: vs => match pairOf K v, pairsOf K vs with
    | some r, some rs => some (r :: rs)
    | _, _ => none
def pairsIn (K : Frag) (src : Addr) : Option (List (Str × Tok × Str × Tok)) := match K.lookup src with
  | some ⟨.type T, none, .seq vs _, sl⟩ => match sl.toList, T == "tuple" with
    | [], true => pairsOf K vs.toList
    | _, _ => none
  | _ => none
/-- a row as it lies -/
def PairAt (h : Heap) (v : Value) (r : Str × Tok × Str × Tok) : Prop := ∃ a n, v = .ref a ∧ h.get? a = some { cls := .type "tuple", dict := none, data := .seq #[.str r.1 r.2.1, .str r.2.2.1 r.2.2.2] n, slots := #[] }
inductive PairsAt (h : Heap) : List Value → List (Str × Tok × Str × Tok) → Prop
  | nil : PairsAt h [] []
  | cons {v : Value} {vs : List Value} {r : Str × Tok × Str × Tok} {rs : List (Str × Tok × Str × Tok)} : PairAt h v r → PairsAt h vs rs → PairsAt h (v :: vs) (r :: rs)
theorem arr_of {α : Type} {a : Array α} {l : List α} (h : a.toList = l) : a = l.toArray := by rw [← h]
theorem pairOf_at {K : Frag} {h : Heap} (X : K.In h) {v : Value} {r : Str × Tok × Str × Tok} (e : pairOf K v = some r) : PairAt h v r := by
  unfold pairOf at e
  split at e
  · rename_i a
    split at e
    · rename_i T vs n sl q
      split at e
      · rename_i x t y u e1 e2 e3
        cases e
        have z := X _ _ q
        rw [arr_of e1, arr_of e2, eq_of_beq e3] at z
        exact ⟨a, n, rfl, z⟩
      · cases e
    · cases e
  · cases e
theorem pairsOf_at {K : Frag} {h : Heap} (X : K.In h) : ∀ {vs : List Value} {rs : List (Str × Tok × Str × Tok)}, pairsOf K vs = some rs → PairsAt h vs rs
  | [], _, e => by cases e; exact .nil
  | v :: vs, _, e => by
    unfold pairsOf at e
    split at e
    · rename_i r rs e1 e2
      cases e
      exact .cons (pairOf_at X e1) (pairsOf_at X e2)
    · cases e
theorem pairsIn_at {K : Frag} {h : Heap} {src : Addr} {rs : List (Str × Tok × Str × Tok)} (X : K.In h) (e : pairsIn K src = some rs) :
    ∃ (vs : List Value) (n : Nat), h.get? src = some { cls := .type "tuple", dict := none, data := .seq vs.toArray n, slots := #[] } ∧ PairsAt h vs rs := by
  unfold pairsIn at e
  split at e
  · rename_i T vs n sl q
    split at e
    · rename_i e1 e2
      have z := X _ _ q
      rw [arr_of e1, eq_of_beq e2, arr_of (rfl : vs.toList = vs.toList)] at z
      exact ⟨vs.toList, n, z, pairsOf_at X e⟩
    · cases e
  · cases e
theorem PairsAt.get {h : Heap} {vs : List Value} {rs : List (Str × Tok × Str × Tok)} (P : PairsAt h vs rs) : ∀ {i : Nat} {r : Str × Tok × Str × Tok}, rs[i]? = some r → ∃ v, vs[i]? = some v ∧ PairAt h v r := by
  induction P with
  | nil => intro i r e; simp at e
  | cons p _ ih =>
    intro i r e
    cases i with
    | zero => simp at e; subst e; exact ⟨_, by simp, p⟩
    | succ i => simpa using ih (by simpa using e)
theorem PairsAt.len {h : Heap} {vs : List Value} {rs : List (Str × Tok × Str × Tok)} (P : PairsAt h vs rs) : vs.length = rs.length := by
  induction P with
  | nil => rfl
  | cons _ _ ih => simp [ih]
theorem PairAt.keeps {h h' : Heap} {v : Value} {r : Str × Tok × Str × Tok} (P : PairAt h v r) (k : ∀ b o, h.get? b = some o → h'.get? b = some o) : PairAt h' v r := by
  obtain ⟨a, n, e, g⟩ := P
  exact ⟨a, n, e, k _ _ g⟩

theorem seqIndex_nat {i n : Nat} (h : i < n) : seqIndex? (i : Int) n = some i := by
  unfold seqIndex?
  have h1 : ¬ ((i : Int) < 0) := by omega
  have h2 : (decide (0 ≤ (i : Int)) && decide ((i : Int) < (n : Int))) = true := by simp; omega
  simp only [h1, if_false, h2, if_true, Int.toNat_natCast]
/-- the texts that a written tuple holds -/
def strsOf : List Value → Option (List (Str × Tok))
  | [] => some []
  | .str x t :: vs => match strsOf vs with
    | some rs => some ((x, t) :: rs)
    | none => none
  | _ => none
def strsIn (K : Frag) (src : Addr) : Option (List (Str × Tok)) := match K.lookup src with
  | some ⟨.type T, none, .seq vs _, sl⟩ => match sl.toList, T == "tuple" with
    | [], true => strsOf vs.toList
    | _, _ => none
  | _ => none
theorem strsOf_eq : ∀ {vs : List Value} {rs : List (Str × Tok)}, strsOf vs = some rs → vs = rs.map fun r => .str r.1 r.2
  | [], _, e => by cases e; rfl
  | .str x t :: vs, _, e => by
    unfold strsOf at e
    split at e
    · rename_i rs e1
      cases e
      rw [strsOf_eq e1]; rfl
    · cases e
  | .none :: _, _, e => by cases e
  | .bool _ :: _, _, e => by cases e
  | .int _ _ :: _, _, e => by cases e
  | .ref _ :: _, _, e => by cases e
theorem strsIn_at {K : Frag} {h : Heap} {src : Addr} {rs : List (Str × Tok)} (X : K.In h) (e : strsIn K src = some rs) : IsTup h src (rs.map fun r => Value.str r.1 r.2).toArray := by
  unfold strsIn at e
  split at e
  · rename_i T vs n sl q
    split at e
    · rename_i e1 e2
      have z := X _ _ q
      rw [arr_of e1, eq_of_beq e2, arr_of (rfl : vs.toList = vs.toList), strsOf_eq e] at z
      exact ⟨_, z, rfl, n, rfl⟩
    · cases e
  · cases e

section
variable {prog : Program} {w : World} {A : Around} {E : Value → Shared → Prop} {s : Shared} {h₀ : Heap} {L : Addr} {m : Str → Option Value} {Q : Value → Shared → Prop}
theorem bare_item {K : Frag} {src : Addr} {value slice : Expr} {x : Int} {u : Tok} (F : Fr h₀ L s.heap m) (X : K.In h₀) (hp : (strsIn K src).map (·.map (·.1)) = some bares) (h0 : 0 ≤ x) (h1 : x < 5)
    (h : ∀ (i : Nat) (t : Tok), Q (.str (BA i) t) s)
    (hs : subscripted slice false (.ref src) (.int x u) = operate [.ref src, .int x u] (getItem (.ref src) (.int x u))) (hg : ∀ r, letTemporaryGo value (.ref src) r = pure ()) :
    wpAny (model prog w) A (subscriptTail value slice (.ref src) (.int x u)) Q E s := by
  cases hq : strsIn K src with
  | none => rw [hq] at hp; cases hp
  | some rs =>
    rw [hq] at hp
    have hp' : rs.map (·.1) = bares := by simpa using hp
    have ht := strsIn_at (X.keeps F.keep) hq
    obtain ⟨i, hi⟩ : ∃ i : Nat, x = i := ⟨x.toNat, by omega⟩
    subst hi
    have hl : bares.length = 5 := by decide
    have hrs : rs.length = 5 := by rw [← hl, ← hp', List.length_map]
    have hlt : i < rs.length := by omega
    have hb : BA i = rs[i].1 := by
      unfold BA
      rw [← hp', List.getD_eq_getElem?_getD, List.getElem?_map, List.getElem?_eq_getElem hlt]
      rfl
    refine item_tuple (j := i) (x := .str (BA i) rs[i].2) ht (by omega) (by omega) ?_ ?_ (h i _) hs hg
    · have hsz : (rs.map fun r => Value.str r.1 r.2).toArray.size = 5 := by rw [List.size_toArray, List.length_map, hrs]
      rw [hsz]
      exact seqIndex_nat (by omega)
    · rw [List.getElem?_toArray, List.getElem?_map, List.getElem?_eq_getElem hlt, hb]
      rfl
/-- an item of the table, unpacked later -/
theorem alias_item {K : Frag} {src : Addr} {value slice : Expr} {x : Int} {u : Tok} (F : Fr h₀ L s.heap m) (X : K.In h₀) (hp : (pairsIn K src).map (·.map fun r => (r.1, r.2.2.1)) = some tab) (h0 : 0 ≤ x) (h1 : x < 39)
    (h : ∀ (i : Nat) (a : Addr) (t1 t2 : Tok), IsTup s.heap a #[.str (LA i) t1, .str (AA i) t2] → Q (.ref a) s)
    (hs : subscripted slice false (.ref src) (.int x u) = operate [.ref src, .int x u] (getItem (.ref src) (.int x u))) (hg : ∀ r, letTemporaryGo value (.ref src) r = pure ()) :
    wpAny (model prog w) A (subscriptTail value slice (.ref src) (.int x u)) Q E s := by
  cases hq : pairsIn K src with
  | none => rw [hq] at hp; cases hp
  | some rs =>
    rw [hq] at hp
    have hp' : rs.map (fun r => (r.1, r.2.2.1)) = tab := by simpa using hp
    obtain ⟨vs, n, g, P⟩ := pairsIn_at (X.keeps F.keep) hq
    obtain ⟨i, hi⟩ : ∃ i : Nat, x = i := ⟨x.toNat, by omega⟩
    subst hi
    have hl : tab.length = 39 := by decide
    have hrs : rs.length = 39 := by rw [← hl, ← hp', List.length_map]
    have hlt : i < rs.length := by omega
    obtain ⟨v, hv, a, n', e, g'⟩ := P.get (List.getElem?_eq_getElem hlt)
    subst e
    have ht : IsTup s.heap src vs.toArray := ⟨_, g, rfl, n, rfl⟩
    have hr : row i = (rs[i].1, rs[i].2.2.1) := by
      unfold row
      rw [← hp', List.getD_eq_getElem?_getD, List.getElem?_map, List.getElem?_eq_getElem hlt]
      rfl
    refine item_tuple (j := i) (x := .ref a) ht (by omega) (by omega) ?_ (by simpa using hv) (h i a rs[i].2.1 rs[i].2.2.2 ⟨_, g', rfl, n', ?_⟩) hs hg
    · have hsz : vs.toArray.size = 39 := by rw [List.size_toArray, P.len, hrs]
      rw [hsz]
      exact seqIndex_nat (by omega)
    · unfold LA AA
      rw [hr]
end
theorem noKeys_lookup : typeLookup (.type "tuple") (Str.ofString "keys") = pure none := by rw [typeLookup_type, builtinLookup_eq_fast]; kernel_rfl
theorem noKeys {prog : Program} {w : World} {A : Around} {E : Value → Shared → Prop} {s : Shared} {a : Addr} {xs : Array Value} {k : Nat} {Q : Option Value → Shared → Prop}
    (hx : s.heap.get? a = some { cls := .type "tuple", dict := none, data := .seq xs k, slots := #[] }) (hA : A.handled = none)
    (h : ∀ h' tk, (∀ b o, s.heap.get? b = some o → h'.get? b = some o) → Q none { s with heap := h', toks := tk }) :
    wpAny (model prog w) A (getAttr? (.ref a) (Str.ofString "keys")) Q E s := by
  obtain ⟨hp, g, d, tk, os⟩ := s
  have hT : ∀ tk', (⟨hp, g, d, tk', os⟩ : Shared).TypeIs (.ref a) "tuple" := fun _ => ⟨_, hx, rfl⟩
  have f1 := sub_AttributeError
  have f3 := F.slot_tuple_getattribute.lookup
  have f4 := F.slot_tuple_getattribute.bind (.ref a)
  have f5 := am_tuple_getattr_none
  unfold getAttr? getAttrBy? getAttrBy
  repeat (any_goals (first | assumption | exact hT _ | ((with_reducible show wpAny _ _ (PySem.call (Value.builtin "tuple.__getattribute__") _ _) _ _ _); refine call_meets F.slot_tuple_getattribute (hT _) am_entry_tuple_getattribute (F.args_tuple_getattribute_2 _ _) (meets_getattribute_miss_tuple a xs k #[] _ _ noKeys_lookup (by decide +kernel) (by decide +kernel)) ⟨hx, hA, fun h' tk' e hx' => ?_⟩) | wp_step))
  obtain ⟨t', u', he⟩ := hx'.there
  have hE : (⟨h', g, d, tk', os⟩ : Shared).TypeIs (.ref e) "AttributeError" := ⟨_, he, rfl⟩
  show wpAny _ _ (getattributeRaised _ _ _ _ _ _ _) _ _ _
  unfold getattributeRaised
  repeat (any_goals (first | assumption | wp_step))
  exact h _ _ hx'.of.keeps
theorem entry_upd : entryFor table "dict.update.loop" = some Builtin.«dict.update.loop» := entryFor_of_tree (by kernel_rfl)
theorem plain_upd : plainId "dict.update.loop" = true := by decide +kernel
def kv (r : Str × Tok × Str × Tok) : Str × Value := (r.1, .str r.2.2.1 r.2.2.2)
theorem PairsAt.keeps {h h' : Heap} {vs : List Value} {rs : List (Str × Tok × Str × Tok)} (P : PairsAt h vs rs) (k : ∀ a o, .ref a ∈ vs → h.get? a = some o → h'.get? a = some o) : PairsAt h' vs rs := by
  induction P with
  | nil => exact .nil
  | cons p _ ih =>
    obtain ⟨a, n, e, g⟩ := p
    exact .cons ⟨a, n, e, k _ _ (e ▸ .head _) g⟩ (ih fun a o hm => k a o (.tail _ hm))
theorem upd_loop {prog : Program} {w : World} {A : Around} {d I src : Addr} {vs : List Value} {rs : List (Str × Tok × Str × Tok)} {R : Result → Shared → Prop} (hh : A.handled = none) (hdI : d ≠ I) (hdS : d ≠ src) (hSI : src ≠ I) (hvs : ∀ a, .ref a ∈ vs → a ≠ d ∧ a ≠ I) (hsz : rs.length ≤ 1000) :
    ∀ (k i : Nat) (s : Shared) (kvs : List (Str × Value)), rs.length - i = k → i ≤ rs.length → s.heap.IsTupleIter I src i → s.heap.IsTuple src vs.toArray → PairsAt s.heap vs rs → s.heap.DictOf (PySem.strKind prog w) d kvs → kvs.length ≤ i →
      (∀ h' tk, h'.DictOf (PySem.strKind prog w) d (merged kvs ((rs.drop i).map kv)) → (∀ b o, b ≠ d → b ≠ I → s.heap.get? b = some o → h'.get? b = some o) → R (.ok (.ret .none)) { s with heap := h', toks := tk }) →
      codeAny (model prog w) A (.builtin "dict.update.loop" ⟨[.ref d, .ref I, .int i 0, .none], []⟩) R s := by
  intro k
  induction k with
  | zero =>
    intro i s kvs hk hi hit htu P hD hl hR
    have hin : i = rs.length := by omega
    subst hin
    refine codeAny_builtin entry_upd ?_
    rw [Around.under_plainId plain_upd _]
    have W := Walks.tuple (prog := prog) (w := w) (A := A.in1) hh I src hSI vs.toArray
    show wpAny _ A.in1 (pyNext (.ref I) >>= _) _ _ s
    have hn : vs.toArray.size = rs.length := by rw [List.size_toArray, P.len]
    refine wpAny_bind (W.done s _ _ ⟨by rw [hn]; exact hit, htu⟩ fun h₁ tk₁ hk₁ => ?_)
    show wpAny _ A.in1 (Builtin.Dict.addKeywords d [] >>= _) _ _ _
    refine wpAny_bind (wpAny_pure ?_)
    refine wpAny_pure (hR h₁ tk₁ ?_ fun b o _ hb e => hk₁ b o (by simpa using hb) e)
    rw [List.drop_length]
    obtain ⟨o, es, ep, ho, r⟩ := hD
    exact ⟨o, es, ep, hk₁ _ _ (by simpa using hdI) ho, r⟩
  | succ k ih =>
    intro i s kvs hk hi hit htu P hD hl hR
    have hlt : i < rs.length := by omega
    refine codeAny_builtin entry_upd ?_
    rw [Around.under_plainId plain_upd _]
    have W := Walks.tuple (prog := prog) (w := w) (A := A.in1) hh I src hSI vs.toArray
    show wpAny _ A.in1 (pyNext (.ref I) >>= _) _ _ s
    have hn : vs.toArray.size = rs.length := by rw [List.size_toArray, P.len]
    refine wpAny_bind (W.item i s _ _ (by rw [hn]; exact hlt) ⟨hit, htu⟩ fun v h₁ tk₁ hP st₁ hk₁ => ?_)
    obtain ⟨v', hv', a, n, rfl, ga⟩ := P.get (List.getElem?_eq_getElem hlt)
    have ev : v = .ref a := by
      have z : vs.toArray[i]? = some v := hP
      rw [List.getElem?_toArray] at z
      exact Option.some.inj (z.symm.trans hv')
    subst ev
    have hma : Value.ref a ∈ vs := List.mem_of_getElem? hv'
    have ga₁ : h₁.get? a = some _ := hk₁ _ _ (by simpa using (hvs a hma).2) ga
    have hD₁ : h₁.DictOf (PySem.strKind prog w) d kvs := by
      obtain ⟨o, es, ep, ho, r⟩ := hD
      exact ⟨o, es, ep, hk₁ _ _ (by simpa using hdI) ho, r⟩
    show wpAny _ A.in1 (holding [.ref a] _ >>= _) _ _ _
    refine wpAny_bind (wpAny_holding (wpAny_bind (wpAny_tryCatch ?_)))
    unfold Builtin.Dict.pairItems
    refine wpAny_bind (wpAny_typeOf (T := "tuple") ⟨_, ga₁, rfl⟩ ?_)
    rw [if_pos (by decide)]
    refine wpAny_bind (wpAny_seqItems ga₁ rfl (wpAny_pure ?_))
    show wpAny _ A.in1 (holding [.str rs[i].1 rs[i].2.1, .str rs[i].2.2.1 rs[i].2.2.2] (dictSet d (.str rs[i].1 rs[i].2.1) (.str rs[i].2.2.1 rs[i].2.2.2))) _ _ _
    refine wpAny_holding (wpAny_dictSet_pairs (knd := PySem.strKind prog w) (strKind_is prog w rs[i].1 rs[i].2.1) hD₁ (fun h₂ hD₂ hs₂ => ?_) (by rw [sizeLine_eq]; omega))
    have keep₂ : ∀ b o, b ≠ d → b ≠ I → s.heap.get? b = some o → h₂.get? b = some o := fun b o hb hb' e => (hs₂.2 b hb).trans (hk₁ b o (by simpa using hb') e)
    refine wpAny_pure ⟨plainId_quiet plain_upd _, ?_⟩
    have hnext := ih (i + 1) { s with heap := h₂, toks := tk₁ + 1 } (stored kvs rs[i].1 (.str rs[i].2.2.1 rs[i].2.2.2)) (by omega) (by omega)
      (by obtain ⟨o, go, r⟩ := st₁.1; exact ⟨o, (hs₂.2 _ (Ne.symm hdI)).trans go, r⟩)
      (by obtain ⟨o, go, r⟩ := htu; exact ⟨o, keep₂ _ _ (Ne.symm hdS) hSI go, r⟩)
      (P.keeps fun a o hm e => keep₂ a o (hvs a hm).1 (hvs a hm).2 e) hD₂ (by have := stored_length_le kvs rs[i].1 (.str rs[i].2.2.1 rs[i].2.2.2); omega)
      (fun h' tk hD' keep' => by
        have e : merged (stored kvs rs[i].1 (.str rs[i].2.2.1 rs[i].2.2.2)) ((rs.drop (i + 1)).map kv) = merged kvs ((rs.drop i).map kv) := by
          rw [List.drop_eq_getElem_cons hlt]; rfl
        rw [e] at hD'
        exact hR h' tk hD' fun b o hb hb' e => keep' b o hb hb' (keep₂ b o hb hb' e))
    have ei : ((i : Int) + 1) = ((i + 1 : Nat) : Int) := by omega
    show codeAny _ A (.builtin "dict.update.loop" ⟨[.ref d, .ref I, .int ((i : Int) + 1) 0, .none], []⟩) R _
    rw [ei]
    exact hnext
theorem flat_kv (rs : List (Str × Tok × Str × Tok)) : FlatPairs PyData.str (rs.map kv) ((rs.map fun r => (r.1, r.2.2.1)).map fun r => (PyData.str r.1, PyData.str r.2)) := by
  induction rs with
  | nil => exact .nil
  | cons r _ ih => exact .cons (PyProof.V.Flat.str _ _) ih
theorem dict_pairs_K {prog : Program} {w : World} {A : Around} {E : Value → Shared → Prop} {s : Shared} {K : Frag} {h₀ : Heap} {L src : Addr} {m : Str → Option Value} {news : List (Addr × Obj)} {Q : Value → Shared → Prop}
    (T : List (Str × Str)) (hh : A.handled = none) (F : Fr h₀ L s.heap m) (N : News h₀ L s.heap news) (hbig : h₀.NoLimit) (X : K.In h₀) (hp : (pairsIn K src).map (·.map fun r => (r.1, r.2.2.1)) = some T) (hn : (T.map (·.1)).Nodup) (hsz : T.length ≤ 1000)
    (k : ∀ d h' tk o kvs, Fr h₀ L h' m → News h₀ L h' ((d, o) :: news) → (∀ p ∈ news, p.1 < d) → (d == sysModules) = false → o.IsDictOf (PySem.strKind prog w) kvs → FlatPairs PyData.str kvs (T.map fun r => (PyData.str r.1, PyData.str r.2)) → Q (.ref d) { s with heap := h', toks := tk }) :
    wpAny (model prog w) A (PySem.call (.type "dict") [.ref src]) Q E s := by
  cases hq : pairsIn K src with
  | none => rw [hq] at hp; cases hp
  | some rs =>
  rw [hq] at hp
  have hp' : rs.map (fun r => (r.1, r.2.2.1)) = T := by simpa using hp
  obtain ⟨vs, n, g, P⟩ := pairsIn_at (X.keeps F.keep) hq
  have hlen : rs.length ≤ 1000 := by rw [← hp', List.length_map] at hsz; exact hsz
  refine callType_codes (Q₁ := fun obj s₁ => obj = .ref s.heap.objs.size ∧ s₁ = { s with heap := s.heap.push { cls := .type "dict", data := .dict #[] } }) PySem.F.kt_called_dict (PySem.F.kt_typeCall_dict_1 _) PySem.F.entry_dict_init (kt_code_dict_new _ ⟨rfl, rfl⟩) ?_
  rintro obj s₁ ⟨rfl, rfl⟩
  have hnew : (s.heap.push { cls := .type "dict", data := .dict #[] }).DictOf (PySem.strKind prog w) s.heap.objs.size [] := Heap.DictOf.new s.heap
  have up : ∀ b o, s.heap.get? b = some o → (s.heap.push { cls := .type "dict", data := .dict #[] }).get? b = some o := fun b o e => Heap.get?_push_of_some _ e
  refine ⟨hnew.typeIs, PySem.F.args_dict_init_2 _ _, ?_⟩
  unfold Builtin.«dict.__init__»
  refine wpAny_bind ?_
  unfold Builtin.Dict.selfAndRest
  refine wpAny_bind (wpAny_notOrdered_dict hnew.typeIs ?_)
  show wpAny _ _ (pure (s.heap.objs.size, [Value.ref src])) _ _ _
  refine wpAny_pure ?_
  show wpAny _ _ (Builtin.Dict.updateFrom "dict.__init__" s.heap.objs.size (.ref src) [] .none) _ _ _
  unfold Builtin.Dict.updateFrom
  refine wpAny_bind (wpAny_typeOf (T := "tuple") ⟨_, up _ _ g, rfl⟩ ?_)
  rw [if_pos (by decide)]
  refine wpAny_bind (noKeys (up _ _ g) hh fun h₁ tk₁ k₁ => ?_)
  rw [if_pos (by rfl)]
  refine wpAny_bind (wpAny_rule ?_)
  have htu : h₁.IsTuple src vs.toArray := ⟨_, k₁ _ _ (up _ _ g), rfl, n, rfl⟩
  refine wpAny_bind (wpAny_pyIter_tuple htu ?_)
  have hlt : ∀ b o, s.heap.get? b = some o → b < s.heap.objs.size := fun b o e => Heap.lt_size e
  have hd₁ : s.heap.objs.size < h₁.objs.size := by
    obtain ⟨o, _, _, ho, _⟩ := hnew
    exact Heap.lt_size (k₁ _ _ ho)
  have up₁ : ∀ b o, h₁.get? b = some o → (h₁.push { cls := .type "tuple_iterator", data := .fields #[.ref src, .int 0 0] }).get? b = some o := fun b o e => Heap.get?_push_of_some _ e
  have keep : ∀ b o, s.heap.get? b = some o → (h₁.push { cls := .type "tuple_iterator", data := .fields #[.ref src, .int 0 0] }).get? b = some o := fun b o e => up₁ _ _ (k₁ _ _ (up _ _ e))
  have hin : ∀ a, .ref a ∈ vs → ∃ o, s.heap.get? a = some o := by
    intro a hm
    have : ∀ {vs : List Value} {rs : List (Str × Tok × Str × Tok)}, PairsAt s.heap vs rs → .ref a ∈ vs → ∃ o, s.heap.get? a = some o := by
      intro vs rs P
      induction P with
      | nil => intro hm; cases hm
      | cons p _ ih =>
        intro hm
        obtain ⟨b, n, e, g⟩ := p
        rcases List.mem_cons.mp hm with q | q
        · rw [e] at q; cases q; exact ⟨_, g⟩
        · exact ih q
    exact this P hm
  refine wpAny_pure ⟨plainId_quiet plain_upd _, ?_⟩
  refine upd_loop (A := A.in1) (src := src) (vs := vs) (rs := rs) hh (Nat.ne_of_lt hd₁) (Nat.ne_of_gt (hlt _ _ g)) (Nat.ne_of_lt (Heap.lt_size (k₁ _ _ (up _ _ g)))) (fun a hm => ?_) hlen rs.length 0 { s with heap := h₁.push { cls := .type "tuple_iterator", data := .fields #[.ref src, .int 0 0] }, toks := tk₁ } [] (by omega) (Nat.zero_le _)
    ⟨_, Heap.get?_push_size _ rfl, rfl, rfl⟩ (by obtain ⟨o, e, r⟩ := htu; exact ⟨o, up₁ _ _ e, r⟩) (P.keeps fun a o _ e => keep a o e) (by obtain ⟨o, es, ep, ho, r⟩ := hnew; exact ⟨o, es, ep, up₁ _ _ (k₁ _ _ ho), r⟩) (Nat.le_refl _) ?_
  · obtain ⟨o, e⟩ := hin a hm
    exact ⟨Nat.ne_of_lt (hlt _ _ e), Nat.ne_of_lt (Nat.lt_trans (hlt _ _ e) hd₁)⟩
  · intro h' tk hD kp
    rw [List.drop_zero, merged_nil_of_nodup (rs.map kv) (by rw [List.map_map]; rw [← hp', List.map_map] at hn; exact hn)] at hD
    obtain ⟨o', ho', hd'⟩ := Heap.dictOf_iff.mp hD
    have keep' : ∀ b o, s.heap.get? b = some o → h'.get? b = some o := fun b o e => kp b o (Nat.ne_of_lt (hlt _ _ e)) (Nat.ne_of_lt (Nat.lt_trans (hlt _ _ e) hd₁)) (keep b o e)
    have F' : Fr h₀ L h' m := F.keeps keep'
    refine ⟨rfl, k _ h' tk o' _ F' (fun p hp => ?_) (fun p hp => Heap.lt_size (N p hp).1) (F.notModules (modules_low hbig)) hd' (hp' ▸ flat_kv rs)⟩
    rcases List.mem_cons.mp hp with rfl | hp
    · exact ⟨ho', Nat.ne_of_gt F.ns.lt, next_is_new F⟩
    · exact ⟨keep' _ _ (N p hp).1, (N p hp).2⟩
/-- the two tables hold the same rows -/
theorem rows_self (D : List (PyData × PyData)) : ∀ l : List (PyData × PyData), (∀ r ∈ l, PySem.Spec.lookup r.1 D = some r.2 ∧ PyData.eqv r.2 r.2 = true) → KeqRows D l true
  | [], _ => .nil
  | (k, v) :: r, h => by
    have a := h (k, v) (.head _)
    have z := KeqRows.hit (v := v) a.1 (rows_self D r fun q hq => h q (.tail _ hq))
    rw [a.2] at z
    exact z
theorem rowsTab : KeqRows DTab DTab true := by
  refine rows_self _ _ ?_
  intro r hr
  obtain ⟨q, hq, rfl⟩ := List.mem_map.mp hr
  have h1 : (tab.all fun q => decide (strOf (PySem.Spec.lookup (PyData.str q.1) DTab) = some q.2)) = true := by decide +kernel
  have h2 : (tab.all fun q => PyData.eqv (PyData.str q.2) (PyData.str q.2)) = true := by decide +kernel
  exact ⟨of_strOf (by simpa using List.all_eq_true.mp h1 q hq), List.all_eq_true.mp h2 q hq⟩
theorem slGA (i : Nat) : Txt.slice (AA i) none (some 2) = GA i := all_tab (fun p => Txt.slice p.2 none (some 2) = (Txt.split p.2 (Str.ofString "_")).getD 0 Str.empty) (by decide +kernel) i
theorem slTA (i : Nat) : Txt.slice (AA i) (some 3) none = TA i := all_tab (fun p => Txt.slice p.2 (some 3) none = (Txt.split p.2 (Str.ofString "_")).getD 1 Str.empty) (by decide +kernel) i
theorem news_two {h₀ h : Heap} {L : Addr} {p q : Addr × Obj} {r : List (Addr × Obj)} (N : News h₀ L h (p :: q :: r)) : News h₀ L h [p, q] := fun x hx => by
  rcases List.mem_cons.mp hx with rfl | hx
  · exact N _ (.head _)
  · rcases List.mem_cons.mp hx with rfl | hx
    · exact N _ (.tail _ (.head _))
    · cases hx
theorem off_one {rest : List (Addr × Obj)} {a : Addr} {o : Obj} (h1 : ∀ p ∈ rest, p.1 ≠ a) : ∀ p ∈ rest, p.1 ∉ [(a, o)].map (·.1) := fun p hp q => h1 p hp (by simpa using q)
theorem off_two {rest : List (Addr × Obj)} {a b : Addr} {o o' : Obj} (h1 : ∀ p ∈ rest, p.1 ≠ a) (h2 : ∀ p ∈ rest, p.1 ≠ b) : ∀ p ∈ rest, p.1 ∉ [(a, o), (b, o')].map (·.1) := fun p hp q => by
  have : p.1 = a ∨ p.1 = b := by simpa using q
  rcases this with e | e
  · exact h1 p hp e
  · exact h2 p hp e
/-- what the walk of a turn leans on: the texts of row i -/
structure RowF (i : Nat) : Prop where
  n1 : NegF (LA i) (AA i) (LA i) (AL i) (AA i) (AA i) (Str.ofString "_")
  n2 : NegF (UL i) (AL i) (LA i) (AL i) (AA i) (AA i) (Str.ofString "_")
  n3 : NegF (LA i) (DA i) (LA i) (DL i) (AA i) (DA i) (Str.ofString "-")
  n4 : NoneF (LA i) (AA i) (LA i) (AL i)
  p2 : PF2 (AA i) (GA i) (TA i) (GA i) (TA i)
  d2 : DF2 (LA i) (AA i) (GA i) (TA i) (GA i) (TA i)
  d1 : DF1 (UL i) (LA i)
  s1 : Sm (LA i)
  s2 : Sm (AA i)
  s3 : Sm (UL i)
  s4 : Sm (AL i)
  e1 : Txt.upper (LA i) = UL i
  e2 : Txt.lower (AA i) = AL i
  e3 : Txt.replace (AA i) (Str.ofString "_") (Str.ofString "-") = DA i
  e4 : Txt.slice (AA i) none (some 2) = GA i
  e5 : Txt.slice (AA i) (some 3) none = TA i
theorem rowF (i : Nat) : RowF i := ⟨fNeg1 i, fNeg2 i, fNeg3 i, fNone i, fPF2 i, fDF2 i, fDF1 i, smLA i, smAA i, smUL i, smAL i, rfl, rfl, rfl, slGA i, slTA i⟩
structure BareRowF (i : Nat) : Prop where
  b : BareF (BA i) (BV i) (BA i) (BW i)
  d : DF1 (BA i) (BA i)
  s1 : Sm (BA i)
  s2 : Sm (BU i)
  s3 : Sm (BM i)
  s4 : Sm (Str.ofString "_")
  e1 : Txt.upper (BA i) = BU i
  e2 : BA i ++ Str.ofString "_" = BM i
  e3 : BM i ++ BU i = BV i
theorem bareRowF (i : Nat) : BareRowF i := ⟨fBare i, fDFb i, smBA i, smBU i, smBM i, ⟨by decide, by decide⟩, rfl, rfl, rfl⟩
theorem okGA (i : Nat) : PyData.canLay0 (.str (GA i)) = true := all_tab (fun p => PyData.canLay0 (.str ((Txt.split p.2 (Str.ofString "_")).getD 0 Str.empty)) = true) (by decide +kernel) i
theorem okTA (i : Nat) : PyData.canLay0 (.str (TA i)) = true := all_tab (fun p => PyData.canLay0 (.str ((Txt.split p.2 (Str.ofString "_")).getD 1 Str.empty)) = true) (by decide +kernel) i
section
variable {prog : Program} {w : World} {A : Around} {E : Value → Shared → Prop} {s : Shared} {h₀ : Heap} {L : Addr} {news : List (Addr × Obj)} {x y : Str} {t u t' u' : Tok} {Q : Value → Shared → Prop}
theorem ne_tup4 {a b : Addr} (N : News h₀ L s.heap news) (hx : PyData.canLay0 (.str x) = true) (hy : PyData.canLay0 (.str y) = true)
    (ma : (a, ({ cls := .type "tuple", data := .seq #[.str x t, .str y u, .none, .none] } : Obj)) ∈ news)
    (mb : (b, ({ cls := .type "tuple", data := .seq #[.str x t', .str y u', .none, .none] } : Obj)) ∈ news)
    (hu : A.units + 64 < cLine) (h : Q (.bool false) s) : wpAny (model prog w) A (compareOp .NotEq (.ref a) (.ref b)) Q E s := by
  have rd : ∀ {c : Addr} {t u : Tok}, (c, ({ cls := .type "tuple", data := .seq #[.str x t, .str y u, .none, .none] } : Obj)) ∈ news →
      ∃ as, Reads s.heap (.ref c) (.tuple [.str x, .str y, .none, .none]) as := fun m =>
    ⟨_, reads_tuple_at (News.get N m) rfl rfl (.cons (.str _ _) (.cons (.str _ _) (.cons .none (.cons .none .nil))))⟩
  obtain ⟨as, ra⟩ := rd ma
  obtain ⟨bs, rb⟩ := rd mb
  have hsh : PySem.SeqAt.shaped (.tuple [.str x, .str y, .none, .none]) = true := by
    simp only [PySem.SeqAt.shaped, PyData.depth, PyData.depthAll, Bool.and_eq_true]
    refine ⟨?_, rfl⟩
    show PyData.canLayAll0 _ = true
    simp only [PyData.canLayAll0, hx, hy, Bool.true_and, Bool.and_true]
    rfl
  refine ne_dataH ra rb hsh hsh hu ?_
  simpa [PyData.eqv, PyData.eqvAll] using h
end
/-- a list of ints is at hand, at the ledger's head -/
def ListGot (h₀ : Heap) (L : Addr) (m : Str → Option Value) (s : Shared) (v : Value) (s' : Shared) : Prop :=
  ∃ (l : Addr) (vs : List Value) (ns : List Int) (k : Nat) (h' : Heap) (tk : Nat), v = .ref l ∧ s' = { s with heap := h', toks := tk } ∧ Fr h₀ L h' m ∧ News h₀ L h' [(l, W.listOf vs.toArray k)] ∧ IntsAre vs ns ∧ ns.length < 2 ^ 62
theorem ListGot.intro {h₀ : Heap} {L : Addr} {m : Str → Option Value} {s : Shared} {l : Addr} {vs : List Value} {ns : List Int} {k : Nat} {h' : Heap} {tk : Nat} (N : News h₀ L h' [(l, W.listOf vs.toArray k)]) (F : Fr h₀ L h' m) (I : IntsAre vs ns) (b : ns.length < 2 ^ 62) :
    ListGot h₀ L m s (.ref l) { s with heap := h', toks := tk } := ⟨l, vs, ns, k, h', tk, rfl, rfl, F, N, I, b⟩
theorem merge_list {prog : Program} {w : World} {A : Around} {E : Value → Shared → Prop} {s : Shared} {h₀ : Heap} {L : Addr} {m : Str → Option Value} {Q : Value → Shared → Prop} {t : Sem Value}
    (F : Fr h₀ L s.heap m)
    (h : wpAny (model prog w) A t (ListGot h₀ L m s) E s)
    (H : ∀ (l : Addr) (vs : List Value) (ns : List Int) (k : Nat) (h' : Heap) (tk : Nat), Fr h₀ L h' m → News h₀ L h' [(l, W.listOf vs.toArray k)] → IntsAre vs ns → ns.length < 2 ^ 62 → Q (.ref l) { s with heap := h', toks := tk }) :
    wpAny (model prog w) A t Q E s :=
  wpAny_mono h (fun v s' ⟨l, vs, ns, k, h', tk, e1, e2, F', N', I, b⟩ => by subst e1; subst e2; exact H l vs ns k h' tk F' N' I b) fun _ _ e => e
local macro_rules | `(tactic| k_steps) => `(tactic| repeat' (first | ((with_reducible show TkLe _ _ → _); intro hTk) | (k_unfold; (try dsimp only)) | (k_end; wrow_close) | walk1 | (dsimp only; walk1) | (leave1; walk_say "STEP leave1"; try dsimp only) | fail "no step"))
local macro_rules | `(tactic| k_room) => `(tactic| ktr_room)
local macro_rules | `(tactic| walk_at "execs cons") => `(tactic| (k_here; (with_reducible refine execs_tk (by with_reducible assumption) ?_)))
local macro_rules | `(tactic| walk_at "execs cons") => `(tactic| (k_here; (with_reducible rename TkLe _ _ => hTk0); (refine gen_at (TkLe.up hTk0 ?le) ?_); (case le => (fail_if_success (with_reducible exact Nat.le_refl _)); omega); clear hTk0; intro tk hTk))
local macro_rules | `(tactic| walk_at "truthy str") => `(tactic| (k_here; (with_reducible show wpAny _ _ (PySem.truthy (Value.str _ _)) _ _ _); (refine truthy_sm (by assumption) ?_); intro tk htk; (try dsimp only at htk)))
local macro_rules | `(tactic| walk_at "call builtin:str.lower") => `(tactic| (k_here; (with_reducible show wpAny _ _ (PySem.call (Value.builtin "str.lower") [Value.str _ _]) _ _ _); (refine lower_to (by assumption) (by assumption) ?_); intro t' tk htk; (try dsimp only at htk)))
local macro_rules | `(tactic| walk_at "call builtin:str.upper") => `(tactic| (k_here; (with_reducible show wpAny _ _ (PySem.call (Value.builtin "str.upper") [Value.str _ _]) _ _ _); (refine upper_to (by assumption) (by assumption) ?_); intro t' tk htk; (try dsimp only at htk)))
local macro_rules | `(tactic| walk_at "call builtin:str.isalpha") => `(tactic| (k_here; (with_reducible show wpAny _ _ (PySem.call (Value.builtin "str.isalpha") [Value.str _ _]) _ _ _); (refine isalpha_to (by assumption) ?_)))
local macro_rules | `(tactic| walk_at "call builtin:len") => `(tactic| (k_here; (with_reducible show wpAny _ _ (PySem.call (Value.builtin "len") [Value.str _ _]) _ _ _); (refine len_to (by assumption) (by assumption) ?_); intro t' tk htk; (try dsimp only at htk)))
local macro_rules | `(tactic| walk_at "call builtin:str.split") => `(tactic| (k_here; (with_reducible show wpAny _ _ (PySem.call (Value.builtin "str.split") [Value.str _ _, Value.str _ _]) _ _ _); k_dflt (refine' split_1 ?k1 ?k2 ?k3 ?k4 ?k5 ?_; (case k1 => k_asm); (case k2 => k_asm); (case k3 => assumption); (case k4 => first | assumption | exact ⟨by decide, by decide⟩); (case k5 => assumption)); intro D' tp' h' tk htk F' N' l1; (try k_lt l1); (try dsimp only at htk)))
local macro_rules | `(tactic| walk_at "call builtin:str.split") => `(tactic| (k_here; (with_reducible show wpAny _ _ (PySem.call (Value.builtin "str.split") [Value.str _ _, Value.str _ _]) _ _ _); k_dflt (refine' split_2 ?k1 ?k2 ?k3 ?k4 ?k5 ?_; (case k1 => k_asm); (case k2 => k_asm); (case k3 => assumption); (case k4 => first | assumption | exact ⟨by decide, by decide⟩); (case k5 => assumption)); intro D' tp' tq' h' tk htk F' N' l1; (try k_lt l1); (try dsimp only at htk)))
local macro_rules | `(tactic| walk_at "call builtin:str.partition") => `(tactic| (k_here; (with_reducible show wpAny _ _ (PySem.call (Value.builtin "str.partition") [Value.str _ _, Value.str _ _]) _ _ _); k_dflt (refine' part_to ?k1 ?k2 ?k3 ?k4 ?k5 ?_; (case k1 => k_asm); (case k2 => k_asm); (case k3 => assumption); (case k4 => first | assumption | exact ⟨by decide, by decide⟩); (case k5 => assumption)); intro D' ta' tb' tc' h' tk htk F' N' l1; (try k_lt l1); (try dsimp only at htk)))
local macro_rules | `(tactic| walk_at "compareOp In str str") => `(tactic| (k_here; (with_reducible show wpAny _ _ (compareOp CmpOp.In (Value.str _ _) (Value.str _ _)) _ _ _); (refine instr_no (by assumption) ?_)))
local macro_rules | `(tactic| walk_at "compareOp In str ref") => `(tactic| (k_here; (with_reducible show wpAny _ _ (compareOp CmpOp.In (Value.str _ _) (Value.ref _)) _ _ _); k_dflt (refine' in1_to ?k1 ?k2 ?_; (case k1 => is_list); (case k2 => assumption))))
local macro_rules | `(tactic| walk_at "compareOp In str ref") => `(tactic| (k_here; (with_reducible show wpAny _ _ (compareOp CmpOp.In (Value.str _ _) (Value.ref _)) _ _ _); k_dflt (refine' intup2_no ?k1 ?k2 ?k3 ?_; (case k1 => exact News.isTup (by k_asm) (by k_mem)); (case k2 => assumption); (case k3 => assumption))))
local macro_rules | `(tactic| walk_at "compareOp In str ref") => `(tactic| (k_here; (with_reducible show wpAny _ _ (compareOp CmpOp.In (Value.str _ _) (Value.ref 15)) _ _ _); (first | refine in_hit (tabAt15 _ (by k_in)) (by assumption) ?_ | refine in_miss (tabAt15 _ (by k_in)) (by assumption) ?_); intro tk htk; (try dsimp only at htk)))
local macro_rules | `(tactic| walk_at "subscriptTail Name Name ref str") => `(tactic| (k_here; (with_reducible show wpAny _ _ (subscriptTail _ _ (Value.ref 15) (Value.str _ _)) _ _ _); (refine item_hit (tabAt15 _ (by k_in)) (by assumption) ?_); intro t' tk htk; (try dsimp only at htk)))
local macro_rules | `(tactic| walk_at "call builtin:dict.get") => `(tactic| (k_here; (with_reducible show wpAny _ _ (PySem.call (Value.builtin "dict.get") [Value.ref 15, Value.str _ _]) _ _ _); (refine get_hit (tabAt15 _ (by k_in)) (by assumption) ?_); intro t' tk htk; (try dsimp only at htk)))
local macro_rules | `(tactic| walk_at "call builtin:dict.get") => `(tactic| (k_here; (with_reducible show wpAny _ _ (PySem.call (Value.builtin "dict.get") [Value.ref 15, Value.str _ _]) _ _ _); (refine get_miss (tabAt15 _ (by k_in)) (by assumption) ?_); intro tk htk; (try dsimp only at htk)))
local macro_rules | `(tactic| walk_at "call builtin:str.join") => `(tactic| (k_here; (with_reducible show wpAny _ _ (PySem.call (Value.builtin "str.join") [Value.str _ _, Value.ref _]) _ _ _); k_dflt (first | (refine' join_1 ?k1 ?k2 ?k3 ?k4 ?k5 ?_; (case k1 => is_list); (case k2 => assumption); (case k3 => first | assumption | exact ⟨by decide, by decide⟩); (case k4 => decide); (case k5 => assumption)) | (refine' join_2 ?k1 ?k2 ?k3 ?k4 ?k5 ?_; (case k1 => is_list); (case k2 => assumption); (case k3 => assumption); (case k4 => decide); (case k5 => assumption))); intro t' tk htk; (try dsimp only at htk)))
local macro_rules | `(tactic| walk_at "call builtin:str.replace") => `(tactic| (k_here; (with_reducible show wpAny _ _ (PySem.call (Value.builtin "str.replace") [Value.str _ _, Value.str _ _, Value.str _ _]) _ _ _); (with_reducible rename TkLe _ _ => hTk0); (have hTk1 := TkLe.out hTk0); (refine replace_to (by omega) (by omega) (by first | exact .inl rfl | (exact .inr (by omega))) (by assumption) (by first | assumption | exact ⟨by decide, by decide⟩) (noneBooked _ (by k_in)) (by assumption) ?_); intro t' tk htk; (try dsimp only at htk)))
local macro_rules | `(tactic| walk_at "exec For Name Name cons nil") => `(tactic| (k_here; (with_unfolding_all refine' for_one ?f1 ?f2 ?f3 ?f4 ?f5 ?f6 ?f7 ?f8 ?f9 ?f10 ?f11 ?f12 ?_; (case f1 => k_asm); (case f2 => k_asm); (case f3 => exact rfl); (case f4 => k_mem); (case f5 => exact rfl); (case f6 => exact rfl); (case f7 => exact rfl); (case f8 => exact rfl); (case f9 => exact rfl); (case f10 => exact rfl); (case f11 => decide); (case f12 => passes_own)); intro i' it' h' tk' l1 htk hit' F' N'; (try k_lt l1); (try dsimp only at htk)))
local macro_rules | `(tactic| walk_at "subscriptTail Name Slice ref ref") => `(tactic| (k_here; (with_reducible show wpAny _ _ (subscriptTail _ (PySem.Expr.Slice none _ none _) (Value.ref _) (Value.ref _)) _ _ _); k_dflt (refine' slice_whole ?F ?N ?l ?b ?_ ?s ?t; (case F => k_asm); (case N => k_asm); (case l => exact News.isTup (by k_asm) (by k_mem)); (case b => exact Nat.le_of_ble_eq_true rfl); (case s => with_unfolding_all rfl); (case t => kmk_pure)); intro h' F' N'))
local macro_rules | `(tactic| walk_at "binaryOp Mult ref int") => `(tactic| (k_here; (with_reducible show wpAny _ _ (binaryOp _ (Value.ref _) (Value.int _ _)) _ _ _); k_dflt (refine' mul_one ?k1 ?k2 ?_; (case k1 => exact News.get (by k_asm) (by k_mem)); (case k2 => rfl))))
local macro_rules | `(tactic| lcg_src) => `(tactic| k_mem)
local macro_rules | `(tactic| walk_at "eval ListComp") => `(tactic| (k_here; lct_look; k_dflt (refine' ListComp_P ?F ?c1 ?c2 ?c3 ?c4 ?c5 ?_ ?c6; (case F => k_asm); (case c1 => with_unfolding_all rfl); (case c2 => decide); (case c3 => exact rfl); (case c4 => decide); (case c5 => exact rfl); (case c6 => intro _; with_unfolding_all rfl))))
local macro_rules | `(tactic| walk_at "CompSrcP") => `(tactic| (k_here; k_dflt (refine' CompSrcP.intro ?a ?b ?c ?d ?e ?_; (case a => exact rfl); (case b => k_asm); (case c => k_asm); (case d => k_mem); (case e => exact Nat.le_of_ble_eq_true rfl)); intro g'; (with_unfolding_all show LCt.CompRestT _ _ _ _ _ _ _ _ _ _ _ _ _ _ _ _ 4 _ _ _)))
theorem neg_hit (w : World) {P AV ll avl al0 al : Str} {tP tA nP nA : Nat} {lP lA : Addr}
    (hN0 : NegF P AV ll avl al0 al (Str.ofString "_")) :
    Callee w [(lA, W.listOf #[.str AV tA] nA), (lP, W.listOf #[.str P tP] nP)] 1 2 32 [.ref lP, .ref lA] [] (fun v back => (∃ t, v = .str al t) ∧ back = []) := by
  obtain ⟨hP, hA, hll, havl, h0, hal, h1, h2, h3, hg, h4, h5, h6⟩ := hN0
  w_top off
  dsimp only [Callee, KK, PG, LO]
  k_fill
  intro mean mg mb dp un gd cn cs a ccd cl outer A₀ base h₀ L m s Q E rest hB hF hX hN hR hD hT hK hd hu hTk hret
  k_dflt (refine' call_keep ?k1 ?k2 ?k3 ?k4 ?kR ?kD ?k5 ?kA ?kF ?kK ?k6 ?k7 ?k8 ?k9 ?kB ?_ ?c2 ?c3 ?c4 ?c5; (case kA => exact rfl); (case kF => exact rfl); (case kK => exact hK); (case k1 => exact hB); (case k2 => exact hF); (case k3 => exact hX); (case k4 => exact hN); (case kR => exact hR); (case kD => exact hD); (case k5 => exact hT); (case k6 => k_is); (case k7 => k_is); (case k8 => ktr_room); (case k9 => first | exact BindsTo.of_eq rfl | exact binds_K (by k_in) rfl (by k_is) rfl rfl rfl); (case c5 => decide); (case kB => exact locs rfl); (case c2 => exact rfl); (case c3 => exact rfl); (case c4 => exact rfl); k_whole; intro g' L' h' FG' F' N' B' X' T' hKR; clear hN; (try dsimp only); (try k_lift B'); (try k_fold))
  k_steps
  all_goals (
    refine' hret _ _ _ [] ⟨⟨_, rfl⟩, rfl⟩ ?a ?b ?c off_nil ?d
    (case a => assumption)
    (case b => exact News.nil)
    (case c => assumption)
    (case d => (with_reducible rename TkLe _ _ => hTk0); (try dsimp only at hTk0 ⊢); first | exact hTk0 | exact TkLe.up hTk0 (by omega)))
theorem neg_sep (w : World) {P AV ll avl al0 al : Str} {tP tA nP nA tS : Nat} {lP lA : Addr}
    (hN0 : NegF P AV ll avl al0 al (Str.ofString "-")) (hS : 1 ≤ tS) :
    Callee w [(lA, W.listOf #[.str AV tA] nA), (lP, W.listOf #[.str P tP] nP)] (tS + 1) 2 32 [.ref lP, .ref lA] [(Str.ofString "sep", .str (Str.ofString "-") tS)] (fun v back => (∃ t, v = .str al t) ∧ back = []) := by
  obtain ⟨hP, hA, hll, havl, h0, hal, h1, h2, h3, hg, h4, h5, h6⟩ := hN0
  w_top off
  dsimp only [Callee, KK, PG, LO]
  k_fill
  intro mean mg mb dp un gd cn cs a ccd cl outer A₀ base h₀ L m s Q E rest hB hF hX hN hR hD hT hK hd hu hTk hret
  k_dflt (refine' call_keep ?k1 ?k2 ?k3 ?k4 ?kR ?kD ?k5 ?kA ?kF ?kK ?k6 ?k7 ?k8 ?k9 ?kB ?_ ?c2 ?c3 ?c4 ?c5; (case kA => exact rfl); (case kF => exact rfl); (case kK => exact hK); (case k1 => exact hB); (case k2 => exact hF); (case k3 => exact hX); (case k4 => exact hN); (case kR => exact hR); (case kD => exact hD); (case k5 => exact hT); (case k6 => k_is); (case k7 => k_is); (case k8 => ktr_room); (case k9 => first | exact BindsTo.of_eq rfl | exact binds_K (by k_in) rfl (by k_is) rfl rfl rfl); (case c5 => decide); (case kB => exact locs rfl); (case c2 => exact rfl); (case c3 => exact rfl); (case c4 => exact rfl); k_whole; intro g' L' h' FG' F' N' B' X' T' hKR; clear hN; (try dsimp only); (try k_lift B'); (try k_fold))
  k_steps
  all_goals (
    refine' hret _ _ _ [] ⟨⟨_, rfl⟩, rfl⟩ ?a ?b ?c off_nil ?d
    (case a => assumption)
    (case b => exact News.nil)
    (case c => assumption)
    (case d => (with_reducible rename TkLe _ _ => hTk0); (try dsimp only at hTk0 ⊢); first | exact hTk0 | exact TkLe.up hTk0 (by omega)))
theorem neg_none (w : World) {P AV ll avl : Str} {tP tA nP nA : Nat} {lP lA : Addr}
    (hN0 : NoneF P AV ll avl) :
    Callee w [(lA, W.listOf #[.str AV tA] nA), (lP, W.listOf #[.str P tP] nP)] 1 2 32 [.ref lP, .ref lA] [(Str.ofString "aliases", .none)] (fun v back => v = .none ∧ back = []) := by
  obtain ⟨hP, hA, hll, havl, h1, h2, h3, h4⟩ := hN0
  w_top off
  dsimp only [Callee, KK, PG, LO]
  k_fill
  intro mean mg mb dp un gd cn cs a ccd cl outer A₀ base h₀ L m s Q E rest hB hF hX hN hR hD hT hK hd hu hTk hret
  k_dflt (refine' call_keep ?k1 ?k2 ?k3 ?k4 ?kR ?kD ?k5 ?kA ?kF ?kK ?k6 ?k7 ?k8 ?k9 ?kB ?_ ?c2 ?c3 ?c4 ?c5; (case kA => exact rfl); (case kF => exact rfl); (case kK => exact hK); (case k1 => exact hB); (case k2 => exact hF); (case k3 => exact hX); (case k4 => exact hN); (case kR => exact hR); (case kD => exact hD); (case k5 => exact hT); (case k6 => k_is); (case k7 => k_is); (case k8 => ktr_room); (case k9 => first | exact BindsTo.of_eq rfl | exact binds_K (by k_in) rfl (by k_is) rfl rfl rfl); (case c5 => decide); (case kB => exact locs rfl); (case c2 => exact rfl); (case c3 => exact rfl); (case c4 => exact rfl); k_whole; intro g' L' h' FG' F' N' B' X' T' hKR; clear hN; (try dsimp only); (try k_lift B'); (try k_fold))
  k_steps
  all_goals (
    refine' hret _ _ _ [] ⟨rfl, rfl⟩ ?a ?b ?c off_nil ?d
    (case a => assumption)
    (case b => exact News.nil)
    (case c => assumption)
    (case d => (with_reducible rename TkLe _ _ => hTk0); (try dsimp only at hTk0 ⊢); first | exact hTk0 | exact TkLe.up hTk0 (by omega)))
theorem neg_bare (w : World) {P AV ll avl : Str} {tP tA nP nA : Nat} {lP lA : Addr}
    (hN0 : BareF P AV ll avl) :
    Callee w [(lA, W.listOf #[.str AV tA] nA), (lP, W.listOf #[.str P tP] nP)] 1 2 32 [.ref lP, .ref lA] [] (fun v back => v = .none ∧ back = []) := by
  obtain ⟨⟨hP, hA, hll, havl, h1, h2, h3, h4⟩, hg⟩ := hN0
  w_top off
  dsimp only [Callee, KK, PG, LO]
  k_fill
  intro mean mg mb dp un gd cn cs a ccd cl outer A₀ base h₀ L m s Q E rest hB hF hX hN hR hD hT hK hd hu hTk hret
  k_dflt (refine' call_keep ?k1 ?k2 ?k3 ?k4 ?kR ?kD ?k5 ?kA ?kF ?kK ?k6 ?k7 ?k8 ?k9 ?kB ?_ ?c2 ?c3 ?c4 ?c5; (case kA => exact rfl); (case kF => exact rfl); (case kK => exact hK); (case k1 => exact hB); (case k2 => exact hF); (case k3 => exact hX); (case k4 => exact hN); (case kR => exact hR); (case kD => exact hD); (case k5 => exact hT); (case k6 => k_is); (case k7 => k_is); (case k8 => ktr_room); (case k9 => first | exact BindsTo.of_eq rfl | exact binds_K (by k_in) rfl (by k_is) rfl rfl rfl); (case c5 => decide); (case kB => exact locs rfl); (case c2 => exact rfl); (case c3 => exact rfl); (case c4 => exact rfl); k_whole; intro g' L' h' FG' F' N' B' X' T' hKR; clear hN; (try dsimp only); (try k_lift B'); (try k_fold))
  k_steps
  all_goals (
    refine' hret _ _ _ [] ⟨rfl, rfl⟩ ?a ?b ?c off_nil ?d
    (case a => assumption)
    (case b => exact News.nil)
    (case c => assumption)
    (case d => (with_reducible rename TkLe _ _ => hTk0); (try dsimp only at hTk0 ⊢); first | exact hTk0 | exact TkLe.up hTk0 (by omega)))
theorem parse1 (w : World) {x g gl : Str} {tx : Nat}
    (hP0 : PF1 x g gl) :
    Callee w [] 0 2 40 [.str x tx] [] (fun v back => ∃ a tg, v = .ref a ∧ back = [(a, { cls := .type "tuple", data := .seq #[.str gl tg, .none, .none, .none] })]) := by
  obtain ⟨hx, hg, hgl, h1, h2, h3, h4, h5⟩ := hP0
  w_top off
  dsimp only [Callee, KK, PG, LO]
  k_fill
  intro mean mg mb dp un gd cn cs a ccd cl outer A₀ base h₀ L m s Q E rest hB hF hX hN hR hD hT hK hd hu hTk hret
  k_dflt (refine' call_keep ?k1 ?k2 ?k3 ?k4 ?kR ?kD ?k5 ?kA ?kF ?kK ?k6 ?k7 ?k8 ?k9 ?kB ?_ ?c2 ?c3 ?c4 ?c5; (case kA => exact rfl); (case kF => exact rfl); (case kK => exact hK); (case k1 => exact hB); (case k2 => exact hF); (case k3 => exact hX); (case k4 => exact hN); (case kR => exact hR); (case kD => exact hD); (case k5 => exact hT); (case k6 => k_is); (case k7 => k_is); (case k8 => ktr_room); (case k9 => first | exact BindsTo.of_eq rfl | exact binds_K (by k_in) rfl (by k_is) rfl rfl rfl); (case c5 => decide); (case kB => exact locs rfl); (case c2 => exact rfl); (case c3 => exact rfl); (case c4 => exact rfl); k_whole; intro g' L' h' FG' F' N' B' X' T' hKR; clear hN; (try dsimp only); (try k_lift B'); (try k_fold))
  k_steps
  all_goals (
    (rename News h₀ L _ (_ :: _) => kN9)
    (with_reducible rename TkLe _ _ => hTk0)
    exact hret _ _ _ _ ⟨_, _, rfl, rfl⟩ (by assumption) (news_head kN9) (by assumption) (RestIn.off hKR (by assumption)) (by (try dsimp only at hTk0 ⊢); first | exact hTk0 | exact TkLe.up hTk0 (by omega)))
theorem parse2 (w : World) {x g t gl tu : Str} {tx : Nat}
    (hP0 : PF2 x g t gl tu) :
    Callee w [] 0 2 40 [.str x tx] [] (fun v back => ∃ a tg tt, v = .ref a ∧ back = [(a, { cls := .type "tuple", data := .seq #[.str gl tg, .str tu tt, .none, .none] })]) := by
  obtain ⟨hx, hg, ht, hgl, htu, h1, h2, h3, h4, h5, h6, h7, h8⟩ := hP0
  w_top off
  dsimp only [Callee, KK, PG, LO]
  k_fill
  intro mean mg mb dp un gd cn cs a ccd cl outer A₀ base h₀ L m s Q E rest hB hF hX hN hR hD hT hK hd hu hTk hret
  k_dflt (refine' call_keep ?k1 ?k2 ?k3 ?k4 ?kR ?kD ?k5 ?kA ?kF ?kK ?k6 ?k7 ?k8 ?k9 ?kB ?_ ?c2 ?c3 ?c4 ?c5; (case kA => exact rfl); (case kF => exact rfl); (case kK => exact hK); (case k1 => exact hB); (case k2 => exact hF); (case k3 => exact hX); (case k4 => exact hN); (case kR => exact hR); (case kD => exact hD); (case k5 => exact hT); (case k6 => k_is); (case k7 => k_is); (case k8 => ktr_room); (case k9 => first | exact BindsTo.of_eq rfl | exact binds_K (by k_in) rfl (by k_is) rfl rfl rfl); (case c5 => decide); (case kB => exact locs rfl); (case c2 => exact rfl); (case c3 => exact rfl); (case c4 => exact rfl); k_whole; intro g' L' h' FG' F' N' B' X' T' hKR; clear hN; (try dsimp only); (try k_lift B'); (try k_fold))
  k_steps
  all_goals (
    (rename News h₀ L _ (_ :: _) => kN9)
    (with_reducible rename TkLe _ _ => hTk0)
    exact hret _ _ _ _ ⟨_, _, _, rfl, rfl⟩ (by assumption) (news_head kN9) (by assumption) (RestIn.off hKR (by assumption)) (by (try dsimp only at hTk0 ⊢); first | exact hTk0 | exact TkLe.up hTk0 (by omega)))
theorem gli1 (w : World) {x r : Str} {tx : Nat} {a1 : Addr}
    (hG0 : GF1 x r) :
    Callee w [(a1, { cls := .type "tuple", data := .seq #[.str x tx, .none, .none, .none] })] 0 2 46 [.ref a1] [] (fun v back => (∃ t, v = .str r t) ∧ back = []) := by
  obtain ⟨hx, h1⟩ := hG0
  w_top off
  dsimp only [Callee, KK, PG, LO]
  k_fill
  intro mean mg mb dp un gd cn cs a ccd cl outer A₀ base h₀ L m s Q E rest hB hF hX hN hR hD hT hK hd hu hTk hret
  k_dflt (refine' call_keep ?k1 ?k2 ?k3 ?k4 ?kR ?kD ?k5 ?kA ?kF ?kK ?k6 ?k7 ?k8 ?k9 ?kB ?_ ?c2 ?c3 ?c4 ?c5; (case kA => exact rfl); (case kF => exact rfl); (case kK => exact hK); (case k1 => exact hB); (case k2 => exact hF); (case k3 => exact hX); (case k4 => exact hN); (case kR => exact hR); (case kD => exact hD); (case k5 => exact hT); (case k6 => k_is); (case k7 => k_is); (case k8 => ktr_room); (case k9 => first | exact BindsTo.of_eq rfl | exact binds_K (by k_in) rfl (by k_is) rfl rfl rfl); (case c5 => decide); (case kB => exact locs rfl); (case c2 => exact rfl); (case c3 => exact rfl); (case c4 => exact rfl); k_whole; intro g' L' h' FG' F' N' B' X' T' hKR; clear hN; (try dsimp only); (try k_lift B'); (try k_fold))
  k_steps
  all_goals (
    refine' hret _ _ _ [] ⟨⟨_, rfl⟩, rfl⟩ ?a ?b ?c off_nil ?d
    (case a => assumption)
    (case b => exact News.nil)
    (case c => assumption)
    (case d => (with_reducible rename TkLe _ _ => hTk0); (try dsimp only at hTk0 ⊢); first | exact hTk0 | exact TkLe.up hTk0 (by omega)))
theorem gli2 (w : World) {x y r : Str} {tx ty : Nat} {a1 : Addr}
    (hG0 : GF2 x y r) :
    Callee w [(a1, { cls := .type "tuple", data := .seq #[.str x tx, .str y ty, .none, .none] })] 0 2 46 [.ref a1] [] (fun v back => (∃ t, v = .str r t) ∧ back = []) := by
  obtain ⟨hx, hy, h1⟩ := hG0
  w_top off
  dsimp only [Callee, KK, PG, LO]
  k_fill
  intro mean mg mb dp un gd cn cs a ccd cl outer A₀ base h₀ L m s Q E rest hB hF hX hN hR hD hT hK hd hu hTk hret
  k_dflt (refine' call_keep ?k1 ?k2 ?k3 ?k4 ?kR ?kD ?k5 ?kA ?kF ?kK ?k6 ?k7 ?k8 ?k9 ?kB ?_ ?c2 ?c3 ?c4 ?c5; (case kA => exact rfl); (case kF => exact rfl); (case kK => exact hK); (case k1 => exact hB); (case k2 => exact hF); (case k3 => exact hX); (case k4 => exact hN); (case kR => exact hR); (case kD => exact hD); (case k5 => exact hT); (case k6 => k_is); (case k7 => k_is); (case k8 => ktr_room); (case k9 => first | exact BindsTo.of_eq rfl | exact binds_K (by k_in) rfl (by k_is) rfl rfl rfl); (case c5 => decide); (case kB => exact locs rfl); (case c2 => exact rfl); (case c3 => exact rfl); (case c4 => exact rfl); k_whole; intro g' L' h' FG' F' N' B' X' T' hKR; clear hN; (try dsimp only); (try k_lift B'); (try k_fold))
  k_steps
  all_goals (
    refine' hret _ _ _ [] ⟨⟨_, rfl⟩, rfl⟩ ?a ?b ?c off_nil ?d
    (case a => assumption)
    (case b => exact News.nil)
    (case c => assumption)
    (case d => (with_reducible rename TkLe _ _ => hTk0); (try dsimp only at hTk0 ⊢); first | exact hTk0 | exact TkLe.up hTk0 (by omega)))
local macro_rules | `(tactic| walk_at "call ref") => `(tactic| (k_here; (with_reducible show wpAny _ _ (PySem.call (Value.ref 40) [Value.str _ _] []) _ _ _); k_dflt (refine' Callee.use (n := 0) ?u1 ?u2 ?u3 News.nil ?u5 off_nil ?u7 ?u8 ?u9 ?u10 ?u11 (parse2 _ ?u12) ?_; (case u12 => assumption); (case u1 => k_asm); (case u2 => k_asm); (case u3 => k_asm); (case u5 => k_asm); (case u7 => k_asm); (case u8 => first | exact rfl | assumption); (case u9 => ktr_room); (case u10 => ktr_units); (case u11 => exact Nat.zero_le _)); intro v' h' tk' b' r' F' N' o' htk; (obtain ⟨a', tg', tu', e1', e2'⟩ := r'); subst e1'; subst e2'; (simp only [List.cons_append, List.nil_append] at N'); (try dsimp only); (try dsimp only at htk)))
local macro_rules | `(tactic| walk_at "call ref") => `(tactic| (k_here; (with_reducible show wpAny _ _ (PySem.call (Value.ref 40) [Value.str _ _] []) _ _ _); k_dflt (refine' Callee.use (n := 0) ?u1 ?u2 ?u3 News.nil ?u5 off_nil ?u7 ?u8 ?u9 ?u10 ?u11 (parse1 _ ?u12) ?_; (case u12 => assumption); (case u1 => k_asm); (case u2 => k_asm); (case u3 => k_asm); (case u5 => k_asm); (case u7 => k_asm); (case u8 => first | exact rfl | assumption); (case u9 => ktr_room); (case u10 => ktr_units); (case u11 => exact Nat.zero_le _)); intro v' h' tk' b' r' F' N' o' htk; (obtain ⟨a', tg', e1', e2'⟩ := r'); subst e1'; subst e2'; (simp only [List.cons_append, List.nil_append] at N'); (try dsimp only); (try dsimp only at htk)))
local macro_rules | `(tactic| walk_at "call ref") => `(tactic| (k_here; (with_reducible show wpAny _ _ (PySem.call (Value.ref 46) [Value.ref _] []) _ _ _); (with_reducible rename News _ _ _ (_ :: _) => N9); k_dflt (refine' Callee.use (n := 0) ?u1 ?u2 ?u3 (news_head N9) (news_tail N9) ?u6 ?u7 ?u8 ?u9 ?u10 ?u11 (gli2 _ ?u12) ?_; (case u12 => assumption); (case u1 => k_asm); (case u2 => k_asm); (case u3 => k_asm); (case u6 => assumption); (case u7 => k_asm); (case u8 => first | exact rfl | assumption); (case u9 => ktr_room); (case u10 => ktr_units); (case u11 => exact Nat.zero_le _)); intro v' h' tk' b' r' F' N' o' htk; (obtain ⟨⟨t', e1'⟩, e2'⟩ := r'); subst e1'; subst e2'; (simp only [List.nil_append] at N'); (try dsimp only); (try dsimp only at htk)))
local macro_rules | `(tactic| walk_at "call ref") => `(tactic| (k_here; (with_reducible show wpAny _ _ (PySem.call (Value.ref 46) [Value.ref _] []) _ _ _); (with_reducible rename News _ _ _ (_ :: _) => N9); k_dflt (refine' Callee.use (n := 0) ?u1 ?u2 ?u3 (news_head N9) (news_tail N9) ?u6 ?u7 ?u8 ?u9 ?u10 ?u11 (gli1 _ ?u12) ?_; (case u12 => assumption); (case u1 => k_asm); (case u2 => k_asm); (case u3 => k_asm); (case u6 => assumption); (case u7 => k_asm); (case u8 => first | exact rfl | assumption); (case u9 => ktr_room); (case u10 => ktr_units); (case u11 => exact Nat.zero_le _)); intro v' h' tk' b' r' F' N' o' htk; (obtain ⟨⟨t', e1'⟩, e2'⟩ := r'); subst e1'; subst e2'; (simp only [List.nil_append] at N'); (try dsimp only); (try dsimp only at htk)))
theorem dl1 (w : World) {x y g t gl tu : Str} {tc tx : Nat} {lD : Addr} {oD : Obj}
    (hD0 : DF2 x y g t gl tu) (hD : oD.IsDictOf (PySem.strKind PG w) [(Str.ofString "LC_X", .str x tx)]) (hs : (lD == sysModules) = false) :
    Callee w [(lD, oD)] 0 4 26 [.str (Str.ofString "LC_X") tc] [(Str.ofString "environ", .ref lD)] (fun v back => (∃ t, v = .str y t) ∧ back = []) := by
  obtain ⟨⟨hx, q1, q2, q3⟩, q4, p0, j0⟩ := hD0
  w_top off
  dsimp only [Callee, KK, PG, LO]
  k_fill
  intro mean mg mb dp un gd cn cs a ccd cl outer A₀ base h₀ L m s Q E rest hB hF hX hN hR hD hT hK hd hu hTk hret
  k_dflt (refine' call_keep ?k1 ?k2 ?k3 ?k4 ?kR ?kD ?k5 ?kA ?kF ?kK ?k6 ?k7 ?k8 ?k9 ?kB ?_ ?c2 ?c3 ?c4 ?c5; (case kA => exact rfl); (case kF => exact rfl); (case kK => exact hK); (case k1 => exact hB); (case k2 => exact hF); (case k3 => exact hX); (case k4 => exact hN); (case kR => exact hR); (case kD => exact hD); (case k5 => exact hT); (case k6 => k_is); (case k7 => k_is); (case k8 => ktr_room); (case k9 => first | exact BindsTo.of_eq rfl | exact binds_K (by k_in) rfl (by k_is) rfl rfl rfl); (case c5 => decide); (case kB => exact locs rfl); (case c2 => exact rfl); (case c3 => exact rfl); (case c4 => exact rfl); k_whole; intro g' L' h' FG' F' N' B' X' T' hKR; clear hN; (try dsimp only); (try k_lift B'); (try k_fold))
  k_steps
  all_goals (
    refine' hret _ _ _ [] ⟨⟨_, rfl⟩, rfl⟩ ?a ?b ?c off_nil ?d
    (case a => assumption)
    (case b => exact News.nil)
    (case c => assumption)
    (case d => exact Nat.zero_le _))
theorem dl2 (w : World) {x gl : Str} {tx : Nat} {lD : Addr} {oD : Obj}
    (hD0 : DF1 x gl) (hD : oD.IsDictOf (PySem.strKind PG w) [(Str.ofString "LANG", .str x tx)]) (hs : (lD == sysModules) = false) :
    Callee w [(lD, oD)] 0 4 26 [] [(Str.ofString "environ", .ref lD)] (fun v back => (∃ t, v = .str gl t) ∧ back = []) := by
  obtain ⟨⟨hx, q1, q2, q3⟩, q4, p0, j0⟩ := hD0
  w_top off
  dsimp only [Callee, KK, PG, LO]
  k_fill
  intro mean mg mb dp un gd cn cs a ccd cl outer A₀ base h₀ L m s Q E rest hB hF hX hN hR hD hT hK hd hu hTk hret
  k_dflt (refine' call_keep ?k1 ?k2 ?k3 ?k4 ?kR ?kD ?k5 ?kA ?kF ?kK ?k6 ?k7 ?k8 ?k9 ?kB ?_ ?c2 ?c3 ?c4 ?c5; (case kA => exact rfl); (case kF => exact rfl); (case kK => exact hK); (case k1 => exact hB); (case k2 => exact hF); (case k3 => exact hX); (case k4 => exact hN); (case kR => exact hR); (case kD => exact hD); (case k5 => exact hT); (case k6 => k_is); (case k7 => k_is); (case k8 => ktr_room); (case k9 => first | exact BindsTo.of_eq rfl | exact binds_K (by k_in) rfl (by k_is) rfl rfl rfl); (case c5 => decide); (case kB => exact locs rfl); (case c2 => exact rfl); (case c3 => exact rfl); (case c4 => exact rfl); k_whole; intro g' L' h' FG' F' N' B' X' T' hKR; clear hN; (try dsimp only); (try k_lift B'); (try k_fold))
  k_steps
  all_goals (
    refine' hret _ _ _ [] ⟨⟨_, rfl⟩, rfl⟩ ?a ?b ?c off_nil ?d
    (case a => assumption)
    (case b => exact News.nil)
    (case c => assumption)
    (case d => exact Nat.zero_le _))
theorem dl3 (w : World) {x gl : Str} {tx : Nat} {lD : Addr} {oD : Obj}
    (hD0 : DF1 x gl) (hD : oD.IsDictOf (PySem.strKind PG w) [(Str.ofString "LC_ALL", .str x tx)]) (hs : (lD == sysModules) = false) :
    Callee w [(lD, oD)] 0 4 26 [] [(Str.ofString "environ", .ref lD)] (fun v back => (∃ t, v = .str gl t) ∧ back = []) := by
  obtain ⟨⟨hx, q1, q2, q3⟩, q4, p0, j0⟩ := hD0
  w_top off
  dsimp only [Callee, KK, PG, LO]
  k_fill
  intro mean mg mb dp un gd cn cs a ccd cl outer A₀ base h₀ L m s Q E rest hB hF hX hN hR hD hT hK hd hu hTk hret
  k_dflt (refine' call_keep ?k1 ?k2 ?k3 ?k4 ?kR ?kD ?k5 ?kA ?kF ?kK ?k6 ?k7 ?k8 ?k9 ?kB ?_ ?c2 ?c3 ?c4 ?c5; (case kA => exact rfl); (case kF => exact rfl); (case kK => exact hK); (case k1 => exact hB); (case k2 => exact hF); (case k3 => exact hX); (case k4 => exact hN); (case kR => exact hR); (case kD => exact hD); (case k5 => exact hT); (case k6 => k_is); (case k7 => k_is); (case k8 => ktr_room); (case k9 => first | exact BindsTo.of_eq rfl | exact binds_K (by k_in) rfl (by k_is) rfl rfl rfl); (case c5 => decide); (case kB => exact locs rfl); (case c2 => exact rfl); (case c3 => exact rfl); (case c4 => exact rfl); k_whole; intro g' L' h' FG' F' N' B' X' T' hKR; clear hN; (try dsimp only); (try k_lift B'); (try k_fold))
  k_steps
  all_goals (
    refine' hret _ _ _ [] ⟨⟨_, rfl⟩, rfl⟩ ?a ?b ?c off_nil ?d
    (case a => assumption)
    (case b => exact News.nil)
    (case c => assumption)
    (case d => exact Nat.zero_le _))
end Mine
open Mine
local macro_rules | `(tactic| k_steps) => `(tactic| repeat' (first | ((with_reducible show TkLe _ _ → _); intro hTk) | (k_unfold; (try dsimp only)) | (k_end; wrow_close) | walk1 | (dsimp only; walk1) | (leave1; walk_say "STEP leave1"; try dsimp only) | fail "no step"))
local macro_rules | `(tactic| k_room) => `(tactic| ktr_room)
local macro_rules | `(tactic| walk_at "execs cons") => `(tactic| (k_here; (with_reducible refine execs_tk (by with_reducible assumption) ?_)))
local macro_rules | `(tactic| walk_at "execs cons") => `(tactic| (k_here; (with_reducible rename TkLe _ _ => hTk0); (refine gen_at (TkLe.up hTk0 ?le) ?_); (case le => (fail_if_success (with_reducible exact Nat.le_refl _)); omega); clear hTk0; intro tk hTk))
local macro_rules | `(tactic| walk_at "truthy str") => `(tactic| (k_here; (with_reducible show wpAny _ _ (PySem.truthy (Value.str _ _)) _ _ _); (refine truthy_sm (by assumption) ?_); intro tk htk; (try dsimp only at htk)))
local macro_rules | `(tactic| walk_at "call builtin:str.lower") => `(tactic| (k_here; (with_reducible show wpAny _ _ (PySem.call (Value.builtin "str.lower") [Value.str _ _]) _ _ _); (refine lower_to (by assumption) (by assumption) ?_); intro t' tk htk; (try dsimp only at htk)))
local macro_rules | `(tactic| walk_at "call builtin:str.upper") => `(tactic| (k_here; (with_reducible show wpAny _ _ (PySem.call (Value.builtin "str.upper") [Value.str _ _]) _ _ _); (refine upper_to (by assumption) (by assumption) ?_); intro t' tk htk; (try dsimp only at htk)))
local macro_rules | `(tactic| walk_at "call builtin:str.isalpha") => `(tactic| (k_here; (with_reducible show wpAny _ _ (PySem.call (Value.builtin "str.isalpha") [Value.str _ _]) _ _ _); (refine isalpha_to (by assumption) ?_)))
local macro_rules | `(tactic| walk_at "call builtin:len") => `(tactic| (k_here; (with_reducible show wpAny _ _ (PySem.call (Value.builtin "len") [Value.str _ _]) _ _ _); (refine len_to (by assumption) (by assumption) ?_); intro t' tk htk; (try dsimp only at htk)))
local macro_rules | `(tactic| walk_at "call builtin:str.split") => `(tactic| (k_here; (with_reducible show wpAny _ _ (PySem.call (Value.builtin "str.split") [Value.str _ _, Value.str _ _]) _ _ _); k_dflt (refine' split_1 ?k1 ?k2 ?k3 ?k4 ?k5 ?_; (case k1 => k_asm); (case k2 => k_asm); (case k3 => assumption); (case k4 => first | assumption | exact ⟨by decide, by decide⟩); (case k5 => assumption)); intro D' tp' h' tk htk F' N' l1; (try k_lt l1); (try dsimp only at htk)))
local macro_rules | `(tactic| walk_at "call builtin:str.split") => `(tactic| (k_here; (with_reducible show wpAny _ _ (PySem.call (Value.builtin "str.split") [Value.str _ _, Value.str _ _]) _ _ _); k_dflt (refine' split_2 ?k1 ?k2 ?k3 ?k4 ?k5 ?_; (case k1 => k_asm); (case k2 => k_asm); (case k3 => assumption); (case k4 => first | assumption | exact ⟨by decide, by decide⟩); (case k5 => assumption)); intro D' tp' tq' h' tk htk F' N' l1; (try k_lt l1); (try dsimp only at htk)))
local macro_rules | `(tactic| walk_at "call builtin:str.partition") => `(tactic| (k_here; (with_reducible show wpAny _ _ (PySem.call (Value.builtin "str.partition") [Value.str _ _, Value.str _ _]) _ _ _); k_dflt (refine' part_to ?k1 ?k2 ?k3 ?k4 ?k5 ?_; (case k1 => k_asm); (case k2 => k_asm); (case k3 => assumption); (case k4 => first | assumption | exact ⟨by decide, by decide⟩); (case k5 => assumption)); intro D' ta' tb' tc' h' tk htk F' N' l1; (try k_lt l1); (try dsimp only at htk)))
local macro_rules | `(tactic| walk_at "compareOp In str str") => `(tactic| (k_here; (with_reducible show wpAny _ _ (compareOp CmpOp.In (Value.str _ _) (Value.str _ _)) _ _ _); (refine instr_no (by assumption) ?_)))
local macro_rules | `(tactic| walk_at "compareOp In str ref") => `(tactic| (k_here; (with_reducible show wpAny _ _ (compareOp CmpOp.In (Value.str _ _) (Value.ref _)) _ _ _); k_dflt (refine' in1_to ?k1 ?k2 ?_; (case k1 => is_list); (case k2 => assumption))))
local macro_rules | `(tactic| walk_at "compareOp In str ref") => `(tactic| (k_here; (with_reducible show wpAny _ _ (compareOp CmpOp.In (Value.str _ _) (Value.ref _)) _ _ _); k_dflt (refine' intup2_no ?k1 ?k2 ?k3 ?_; (case k1 => exact News.isTup (by k_asm) (by k_mem)); (case k2 => assumption); (case k3 => assumption))))
local macro_rules | `(tactic| walk_at "compareOp In str ref") => `(tactic| (k_here; (with_reducible show wpAny _ _ (compareOp CmpOp.In (Value.str _ _) (Value.ref 15)) _ _ _); (first | refine in_hit (tabAt15 _ (by k_in)) (by assumption) ?_ | refine in_miss (tabAt15 _ (by k_in)) (by assumption) ?_); intro tk htk; (try dsimp only at htk)))
local macro_rules | `(tactic| walk_at "subscriptTail Name Name ref str") => `(tactic| (k_here; (with_reducible show wpAny _ _ (subscriptTail _ _ (Value.ref 15) (Value.str _ _)) _ _ _); (refine item_hit (tabAt15 _ (by k_in)) (by assumption) ?_); intro t' tk htk; (try dsimp only at htk)))
local macro_rules | `(tactic| walk_at "call builtin:dict.get") => `(tactic| (k_here; (with_reducible show wpAny _ _ (PySem.call (Value.builtin "dict.get") [Value.ref 15, Value.str _ _]) _ _ _); (refine get_hit (tabAt15 _ (by k_in)) (by assumption) ?_); intro t' tk htk; (try dsimp only at htk)))
local macro_rules | `(tactic| walk_at "call builtin:dict.get") => `(tactic| (k_here; (with_reducible show wpAny _ _ (PySem.call (Value.builtin "dict.get") [Value.ref 15, Value.str _ _]) _ _ _); (refine get_miss (tabAt15 _ (by k_in)) (by assumption) ?_); intro tk htk; (try dsimp only at htk)))
local macro_rules | `(tactic| walk_at "call builtin:str.join") => `(tactic| (k_here; (with_reducible show wpAny _ _ (PySem.call (Value.builtin "str.join") [Value.str _ _, Value.ref _]) _ _ _); k_dflt (first | (refine' join_1 ?k1 ?k2 ?k3 ?k4 ?k5 ?_; (case k1 => is_list); (case k2 => assumption); (case k3 => first | assumption | exact ⟨by decide, by decide⟩); (case k4 => decide); (case k5 => assumption)) | (refine' join_2 ?k1 ?k2 ?k3 ?k4 ?k5 ?_; (case k1 => is_list); (case k2 => assumption); (case k3 => assumption); (case k4 => decide); (case k5 => assumption))); intro t' tk htk; (try dsimp only at htk)))
local macro_rules | `(tactic| walk_at "call builtin:str.replace") => `(tactic| (k_here; (with_reducible show wpAny _ _ (PySem.call (Value.builtin "str.replace") [Value.str _ _, Value.str _ _, Value.str _ _]) _ _ _); (with_reducible rename TkLe _ _ => hTk0); (have hTk1 := TkLe.out hTk0); (refine replace_to (by omega) (by omega) (by first | exact .inl rfl | (exact .inr (by omega))) (by assumption) (by first | assumption | exact ⟨by decide, by decide⟩) (noneBooked _ (by k_in)) (by assumption) ?_); intro t' tk htk; (try dsimp only at htk)))
local macro_rules | `(tactic| walk_at "exec For Name Name cons nil") => `(tactic| (k_here; (with_unfolding_all refine' for_one ?f1 ?f2 ?f3 ?f4 ?f5 ?f6 ?f7 ?f8 ?f9 ?f10 ?f11 ?f12 ?_; (case f1 => k_asm); (case f2 => k_asm); (case f3 => exact rfl); (case f4 => k_mem); (case f5 => exact rfl); (case f6 => exact rfl); (case f7 => exact rfl); (case f8 => exact rfl); (case f9 => exact rfl); (case f10 => exact rfl); (case f11 => decide); (case f12 => passes_own)); intro i' it' h' tk' l1 htk hit' F' N'; (try k_lt l1); (try dsimp only at htk)))
local macro_rules | `(tactic| walk_at "subscriptTail Name Slice ref ref") => `(tactic| (k_here; (with_reducible show wpAny _ _ (subscriptTail _ (PySem.Expr.Slice none _ none _) (Value.ref _) (Value.ref _)) _ _ _); k_dflt (refine' slice_whole ?F ?N ?l ?b ?_ ?s ?t; (case F => k_asm); (case N => k_asm); (case l => exact News.isTup (by k_asm) (by k_mem)); (case b => exact Nat.le_of_ble_eq_true rfl); (case s => with_unfolding_all rfl); (case t => kmk_pure)); intro h' F' N'))
local macro_rules | `(tactic| walk_at "binaryOp Mult ref int") => `(tactic| (k_here; (with_reducible show wpAny _ _ (binaryOp _ (Value.ref _) (Value.int _ _)) _ _ _); k_dflt (refine' mul_one ?k1 ?k2 ?_; (case k1 => exact News.get (by k_asm) (by k_mem)); (case k2 => rfl))))
local macro_rules | `(tactic| lcg_src) => `(tactic| k_mem)
local macro_rules | `(tactic| walk_at "eval ListComp") => `(tactic| (k_here; lct_look; k_dflt (refine' ListComp_P ?F ?c1 ?c2 ?c3 ?c4 ?c5 ?_ ?c6; (case F => k_asm); (case c1 => with_unfolding_all rfl); (case c2 => decide); (case c3 => exact rfl); (case c4 => decide); (case c5 => exact rfl); (case c6 => intro _; with_unfolding_all rfl))))
local macro_rules | `(tactic| walk_at "CompSrcP") => `(tactic| (k_here; k_dflt (refine' CompSrcP.intro ?a ?b ?c ?d ?e ?_; (case a => exact rfl); (case b => k_asm); (case c => k_asm); (case d => k_mem); (case e => exact Nat.le_of_ble_eq_true rfl)); intro g'; (with_unfolding_all show LCt.CompRestT _ _ _ _ _ _ _ _ _ _ _ _ _ _ _ _ 4 _ _ _)))
local macro_rules | `(tactic| walk_at "call ref") => `(tactic| (k_here; (with_reducible show wpAny _ _ (PySem.call (Value.ref 40) [Value.str _ _] []) _ _ _); k_dflt (refine' Callee.use (n := 0) ?u1 ?u2 ?u3 News.nil ?u5 off_nil ?u7 ?u8 ?u9 ?u10 ?u11 (parse2 _ ?u12) ?_; (case u12 => assumption); (case u1 => k_asm); (case u2 => k_asm); (case u3 => k_asm); (case u5 => k_asm); (case u7 => k_asm); (case u8 => first | exact rfl | assumption); (case u9 => ktr_room); (case u10 => ktr_units); (case u11 => exact Nat.zero_le _)); intro v' h' tk' b' r' F' N' o' htk; (obtain ⟨a', tg', tu', e1', e2'⟩ := r'); subst e1'; subst e2'; (simp only [List.cons_append, List.nil_append] at N'); (try dsimp only); (try dsimp only at htk)))
local macro_rules | `(tactic| walk_at "call ref") => `(tactic| (k_here; (with_reducible show wpAny _ _ (PySem.call (Value.ref 40) [Value.str _ _] []) _ _ _); k_dflt (refine' Callee.use (n := 0) ?u1 ?u2 ?u3 News.nil ?u5 off_nil ?u7 ?u8 ?u9 ?u10 ?u11 (parse1 _ ?u12) ?_; (case u12 => assumption); (case u1 => k_asm); (case u2 => k_asm); (case u3 => k_asm); (case u5 => k_asm); (case u7 => k_asm); (case u8 => first | exact rfl | assumption); (case u9 => ktr_room); (case u10 => ktr_units); (case u11 => exact Nat.zero_le _)); intro v' h' tk' b' r' F' N' o' htk; (obtain ⟨a', tg', e1', e2'⟩ := r'); subst e1'; subst e2'; (simp only [List.cons_append, List.nil_append] at N'); (try dsimp only); (try dsimp only at htk)))
local macro_rules | `(tactic| walk_at "call ref") => `(tactic| (k_here; (with_reducible show wpAny _ _ (PySem.call (Value.ref 46) [Value.ref _] []) _ _ _); (with_reducible rename News _ _ _ (_ :: _) => N9); k_dflt (refine' Callee.use (n := 0) ?u1 ?u2 ?u3 (news_head N9) (news_tail N9) ?u6 ?u7 ?u8 ?u9 ?u10 ?u11 (gli2 _ ?u12) ?_; (case u12 => assumption); (case u1 => k_asm); (case u2 => k_asm); (case u3 => k_asm); (case u6 => assumption); (case u7 => k_asm); (case u8 => first | exact rfl | assumption); (case u9 => ktr_room); (case u10 => ktr_units); (case u11 => exact Nat.zero_le _)); intro v' h' tk' b' r' F' N' o' htk; (obtain ⟨⟨t', e1'⟩, e2'⟩ := r'); subst e1'; subst e2'; (simp only [List.nil_append] at N'); (try dsimp only); (try dsimp only at htk)))
local macro_rules | `(tactic| walk_at "call ref") => `(tactic| (k_here; (with_reducible show wpAny _ _ (PySem.call (Value.ref 46) [Value.ref _] []) _ _ _); (with_reducible rename News _ _ _ (_ :: _) => N9); k_dflt (refine' Callee.use (n := 0) ?u1 ?u2 ?u3 (news_head N9) (news_tail N9) ?u6 ?u7 ?u8 ?u9 ?u10 ?u11 (gli1 _ ?u12) ?_; (case u12 => assumption); (case u1 => k_asm); (case u2 => k_asm); (case u3 => k_asm); (case u6 => assumption); (case u7 => k_asm); (case u8 => first | exact rfl | assumption); (case u9 => ktr_room); (case u10 => ktr_units); (case u11 => exact Nat.zero_le _)); intro v' h' tk' b' r' F' N' o' htk; (obtain ⟨⟨t', e1'⟩, e2'⟩ := r'); subst e1'; subst e2'; (simp only [List.nil_append] at N'); (try dsimp only); (try dsimp only at htk)))
local macro_rules | `(tactic| walk_at "eval BoolOp") => `(tactic| (k_here; (with_reducible show wpAny _ _ (eval (PySem.Expr.BoolOp PySem.BoolOp.Or [PySem.Expr.Subscript _ _ _, PySem.Expr.List _ _] _) _) _ _ _); (fail_if_success (with_reducible show wpAny _ _ _ (ListGot _ _ _ _) _ _)); (refine' merge_list ?F ?h ?H; (case F => k_asm)); rotate_left; (intro l vs ns k h' tk F' N' iL hb); rotate_left))
local macro_rules | `(tactic| walk_at "ListGot") => `(tactic| (k_here; (with_reducible rename News _ _ _ (_ :: _) => N9); k_dflt (refine' ListGot.intro (news_head N9) ?f ?i ?b; (case f => k_asm); (case i => l_ints); (case b => first | decide | omega | l_fit | l_fact))))
local macro_rules | `(tactic| walk_at "call type:dict") => `(tactic| (
  k_here
  (with_reducible show wpAny _ _ (PySem.call (Value.type "dict") [Value.ref _]) _ _ _)
  refine dict_pairs_K tab (by exact rfl) (by k_asm) (by k_asm) (Top.nolimit (by k_asm)) (by k_asm) (by kernel_rfl) (by decide +kernel) (by decide) ?_
  intro d' h' tk' o' kvs' F' N' l1 lo' hd' hf'
  (try k_lt l1)
  have tbD := TabAt.ofObj lo' (News.get N' (.head _)) hd' hf'))
local macro_rules | `(tactic| walk_at "compareOp NotEq ref ref") => `(tactic| (
  k_here
  (with_reducible show wpAny _ _ (compareOp CmpOp.NotEq (Value.ref 15) (Value.ref _)) _ _ _)
  k_dflt (refine' kne_tabs (knd := PySem.strKind _ _) (enc := PyData.str) PyProof.V.same_str ?T1 ?T2 ?k1 ?k2 ?k3 ?_)
  (case T1 => exact tabAt15 _ (by k_in))
  (case T2 => with_reducible assumption)
  (case k1 => rfl)
  (case k2 => k_units)
  (case k3 => exact rowsTab)
  ke_norm))
local macro_rules | `(tactic| walk_at "execs cons") => `(tactic| (k_here; (refine gen_at (TkLe.mk (n := 1) ?le) ?_); (case le => omega); intro tk hTk))
local macro_rules | `(tactic| walk_at "execs cons") => `(tactic| (k_here; (with_reducible refine execs_tk (by with_reducible assumption) ?_)))
local macro_rules | `(tactic| walk_at "execs cons") => `(tactic| (k_here; (with_reducible rename TkLe _ _ => hTk0); (refine gen_at (TkLe.up hTk0 ?le) ?_); (case le => (fail_if_success (with_reducible exact Nat.le_refl _)); omega); clear hTk0; intro tk hTk))
local macro_rules | `(tactic| walk_at "subscriptTail Name BinOp ref int") => `(tactic| (k_here; (with_reducible show wpAny _ _ (subscriptTail _ _ (Value.ref 86) (Value.int _ _)) _ _ _); k_dflt (refine' alias_item ?F ?X ?k1 ?k2 ?k3 ?_ ?k4 ?k5; (case F => k_asm); (case X => k_asm); (case k1 => kernel_rfl); (case k2 => first | omega | l_fact); (case k3 => first | omega | l_fact); (case k4 => with_unfolding_all rfl); (case k5 => kmk_pure)); intro i a' t1' t2' htup; (obtain ⟨n1, n2, n3, n4, p2, d2, d1, s1, s2, s3, s4, e1, e2, e3, e4, e5⟩ := rowF i)))
local macro_rules | `(tactic| walk_at "subscriptTail Name BinOp ref int") => `(tactic| (k_here; (with_reducible show wpAny _ _ (subscriptTail _ _ (Value.ref 87) (Value.int _ _)) _ _ _); k_dflt (refine' bare_item ?F ?X ?k1 ?k2 ?k3 ?_ ?k4 ?k5; (case F => k_asm); (case X => k_asm); (case k1 => kernel_rfl); (case k2 => first | omega | l_fact); (case k3 => first | omega | l_fact); (case k4 => with_unfolding_all rfl); (case k5 => kmk_pure)); intro j t'; (obtain ⟨bb, bd, bs1, bs2, bs3, bs4, be1, be2, be3⟩ := bareRowF j)))
local macro_rules | `(tactic| walk_at "binaryOp Add str str") => `(tactic| (k_here; (with_reducible show wpAny _ _ (binaryOp Operator.Add (Value.str _ _) (Value.str _ _)) _ _ _); (refine add_to (by assumption) (by assumption) (by assumption) ?_); intro t' tk htk; (try dsimp only at htk)))
local macro_rules | `(tactic| walk_at "compareOp NotEq str str") => `(tactic| (k_here; refine ne_self ?_))
local macro_rules | `(tactic| walk_at "subscriptTail Name Slice str ref") => `(tactic| (k_here; (with_reducible show wpAny _ _ (subscriptTail _ (PySem.Expr.Slice none _ none _) (Value.str _ _) (Value.ref _)) _ _ _); k_dflt (refine' slice_to ?F ?N ?k1 ?k2 ?_ ?k4 ?k5; (case F => k_asm); (case N => k_asm); (case k1 => assumption); (case k2 => assumption); (case k4 => with_unfolding_all rfl); (case k5 => kmk_pure)); intro h' t' tk htk F' N'; (try dsimp only at htk)))
local macro_rules | `(tactic| walk_at "subscriptTail Name Slice str ref") => `(tactic| (k_here; (with_reducible show wpAny _ _ (subscriptTail _ (PySem.Expr.Slice _ none none _) (Value.str _ _) (Value.ref _)) _ _ _); k_dflt (refine' slice_from ?F ?N ?k1 ?k2 ?_ ?k4 ?k5; (case F => k_asm); (case N => k_asm); (case k1 => assumption); (case k2 => assumption); (case k4 => with_unfolding_all rfl); (case k5 => kmk_pure)); intro h' t' tk htk F' N'; (try dsimp only at htk)))
local macro_rules | `(tactic| walk_at "call ref") => `(tactic| (k_here; (with_reducible show wpAny _ _ (PySem.call (Value.ref 32) [Value.ref _, Value.ref _] []) _ _ _); (with_reducible rename TkLe _ _ => hTk0); (have hTk1 := TkLe.out hTk0); (with_reducible rename News _ _ _ (_ :: _ :: _) => N9); k_dflt (refine' Callee.use (n := 1) ?u1 ?u2 ?u3 (news_two N9) (news_tail (news_tail N9)) ?u6 ?u7 ?u8 ?u9 ?u10 ?u11 (neg_hit _ ?u12) ?_; (case u12 => assumption); (case u1 => k_asm); (case u2 => k_asm); (case u3 => k_asm); (case u6 => first | exact off_two (by k_all) (by k_all) | exact off_one (by k_all)); (case u7 => k_asm); (case u8 => first | exact rfl | assumption); (case u9 => first | ktr_room | k_room | decide); (case u10 => first | ktr_units | k_units | decide); (case u11 => refine TkLe.mk ?_; (try dsimp only); omega)); clear hTk1; intro v' h' tk' b' r' F' N' o' htk; (obtain ⟨⟨t9, e1'⟩, e2'⟩ := r'); subst e1'; subst e2'; (simp only [List.nil_append] at N'); (try dsimp only); (try dsimp only at htk)))
local macro_rules | `(tactic| walk_at "call ref") => `(tactic| (k_here; (with_reducible show wpAny _ _ (PySem.call (Value.ref 32) [Value.ref _, Value.ref _] []) _ _ _); (with_reducible rename TkLe _ _ => hTk0); (have hTk1 := TkLe.out hTk0); (with_reducible rename News _ _ _ (_ :: _ :: _) => N9); k_dflt (refine' Callee.use (n := 1) ?u1 ?u2 ?u3 (news_two N9) (news_tail (news_tail N9)) ?u6 ?u7 ?u8 ?u9 ?u10 ?u11 (neg_bare _ ?u12) ?_; (case u12 => assumption); (case u1 => k_asm); (case u2 => k_asm); (case u3 => k_asm); (case u6 => first | exact off_two (by k_all) (by k_all) | exact off_one (by k_all)); (case u7 => k_asm); (case u8 => first | exact rfl | assumption); (case u9 => first | ktr_room | k_room | decide); (case u10 => first | ktr_units | k_units | decide); (case u11 => refine TkLe.mk ?_; (try dsimp only); omega)); clear hTk1; intro v' h' tk' b' r' F' N' o' htk; (obtain ⟨e1', e2'⟩ := r'); subst e1'; subst e2'; (simp only [List.nil_append] at N'); (try dsimp only); (try dsimp only at htk)))
local macro_rules | `(tactic| walk_at "call ref") => `(tactic| (k_here; ((with_reducible show wpAny _ _ (PySem.call (Value.ref 32) _ _) _ _ _); k_dflt (show wpAny _ _ (PySem.call (Value.ref 32) [Value.ref _, Value.ref _] [(_, Value.str _ _)]) _ _ _)); (with_reducible rename TkLe _ _ => hTk0); (have hTk1 := TkLe.out hTk0); (with_reducible rename News _ _ _ (_ :: _ :: _) => N9); k_dflt (refine' Callee.use (n := _) ?u1 ?u2 ?u3 (news_two N9) (news_tail (news_tail N9)) ?u6 ?u7 ?u8 ?u9 ?u10 ?u11 (neg_sep _ ?u12 ?u13) ?_; (case u12 => assumption); (case u13 => omega); (case u1 => k_asm); (case u2 => k_asm); (case u3 => k_asm); (case u6 => first | exact off_two (by k_all) (by k_all) | exact off_one (by k_all)); (case u7 => k_asm); (case u8 => first | exact rfl | assumption); (case u9 => first | ktr_room | k_room | decide); (case u10 => first | ktr_units | k_units | decide); (case u11 => refine TkLe.mk ?_; (try dsimp only); omega)); clear hTk1; intro v' h' tk' b' r' F' N' o' htk; (obtain ⟨⟨t9, e1'⟩, e2'⟩ := r'); subst e1'; subst e2'; (simp only [List.nil_append] at N'); (try dsimp only); (try dsimp only at htk)))
local macro_rules | `(tactic| walk_at "call ref") => `(tactic| (k_here; ((with_reducible show wpAny _ _ (PySem.call (Value.ref 32) _ _) _ _ _); k_dflt (show wpAny _ _ (PySem.call (Value.ref 32) [Value.ref _, Value.ref _] [(_, Value.none)]) _ _ _)); (with_reducible rename TkLe _ _ => hTk0); (have hTk1 := TkLe.out hTk0); (with_reducible rename News _ _ _ (_ :: _ :: _) => N9); k_dflt (refine' Callee.use (n := 1) ?u1 ?u2 ?u3 (news_two N9) (news_tail (news_tail N9)) ?u6 ?u7 ?u8 ?u9 ?u10 ?u11 (neg_none _ ?u12) ?_; (case u12 => assumption); (case u1 => k_asm); (case u2 => k_asm); (case u3 => k_asm); (case u6 => first | exact off_two (by k_all) (by k_all) | exact off_one (by k_all)); (case u7 => k_asm); (case u8 => first | exact rfl | assumption); (case u9 => first | ktr_room | k_room | decide); (case u10 => first | ktr_units | k_units | decide); (case u11 => refine TkLe.mk ?_; (try dsimp only); omega)); clear hTk1; intro v' h' tk' b' r' F' N' o' htk; (obtain ⟨e1', e2'⟩ := r'); subst e1'; subst e2'; (simp only [List.nil_append] at N'); (try dsimp only); (try dsimp only at htk)))
local macro_rules | `(tactic| walk_at "call ref") => `(tactic| (k_here; ((with_reducible show wpAny _ _ (PySem.call (Value.ref 26) _ _) _ _ _); k_dflt (show wpAny _ _ (PySem.call (Value.ref 26) [Value.str _ _] [(_, Value.ref _)]) _ _ _)); (with_reducible rename News _ _ _ (_ :: _) => N9); k_dflt (refine' Callee.use (n := 0) ?u1 ?u2 ?u3 (news_head N9) (news_tail N9) ?u6 ?u7 ?u8 ?u9 ?u10 ?u11 (dl1 _ ?u12 ?u13 ?u14) ?_; (case u12 => assumption); (case u13 => assumption); (case u14 => assumption); (case u1 => k_asm); (case u2 => k_asm); (case u3 => k_asm); (case u6 => first | exact off_two (by k_all) (by k_all) | exact off_one (by k_all)); (case u7 => k_asm); (case u8 => first | exact rfl | assumption); (case u9 => first | ktr_room | k_room | decide); (case u10 => first | ktr_units | k_units | decide); (case u11 => exact Nat.zero_le _)); intro v' h' tk' b' r' F' N' o' htk; (obtain ⟨⟨t9, e1'⟩, e2'⟩ := r'); subst e1'; subst e2'; (simp only [List.nil_append] at N'); (try dsimp only); (try dsimp only at htk)))
local macro_rules | `(tactic| walk_at "call ref") => `(tactic| (k_here; ((with_reducible show wpAny _ _ (PySem.call (Value.ref 26) _ _) _ _ _); k_dflt (show wpAny _ _ (PySem.call (Value.ref 26) [] [(_, Value.ref _)]) _ _ _)); (with_reducible rename News _ _ _ (_ :: _) => N9); k_dflt (refine' Callee.use (n := 0) ?u1 ?u2 ?u3 (news_head N9) (news_tail N9) ?u6 ?u7 ?u8 ?u9 ?u10 ?u11 (dl2 _ ?u12 ?u13 ?u14) ?_; (case u12 => assumption); (case u13 => assumption); (case u14 => assumption); (case u1 => k_asm); (case u2 => k_asm); (case u3 => k_asm); (case u6 => first | exact off_two (by k_all) (by k_all) | exact off_one (by k_all)); (case u7 => k_asm); (case u8 => first | exact rfl | assumption); (case u9 => first | ktr_room | k_room | decide); (case u10 => first | ktr_units | k_units | decide); (case u11 => exact Nat.zero_le _)); intro v' h' tk' b' r' F' N' o' htk; (obtain ⟨⟨t9, e1'⟩, e2'⟩ := r'); subst e1'; subst e2'; (simp only [List.nil_append] at N'); (try dsimp only); (try dsimp only at htk)))
local macro_rules | `(tactic| walk_at "call ref") => `(tactic| (k_here; ((with_reducible show wpAny _ _ (PySem.call (Value.ref 26) _ _) _ _ _); k_dflt (show wpAny _ _ (PySem.call (Value.ref 26) [] [(_, Value.ref _)]) _ _ _)); (with_reducible rename News _ _ _ (_ :: _) => N9); k_dflt (refine' Callee.use (n := 0) ?u1 ?u2 ?u3 (news_head N9) (news_tail N9) ?u6 ?u7 ?u8 ?u9 ?u10 ?u11 (dl3 _ ?u12 ?u13 ?u14) ?_; (case u12 => assumption); (case u13 => assumption); (case u14 => assumption); (case u1 => k_asm); (case u2 => k_asm); (case u3 => k_asm); (case u6 => first | exact off_two (by k_all) (by k_all) | exact off_one (by k_all)); (case u7 => k_asm); (case u8 => first | exact rfl | assumption); (case u9 => first | ktr_room | k_room | decide); (case u10 => first | ktr_units | k_units | decide); (case u11 => exact Nat.zero_le _)); intro v' h' tk' b' r' F' N' o' htk; (obtain ⟨⟨t9, e1'⟩, e2'⟩ := r'); subst e1'; subst e2'; (simp only [List.nil_append] at N'); (try dsimp only); (try dsimp only at htk)))
local macro_rules | `(tactic| walk_at "compareOp NotEq ref ref") => `(tactic| (
  k_here
  (with_reducible show wpAny _ _ (compareOp CmpOp.NotEq (Value.ref _) (Value.ref _)) _ _ _)
  (with_reducible rename News _ _ _ (_ :: _ :: _) => N9)
  k_dflt (refine' ne_tup4 ?m0 ?m1 ?m2 (.tail _ (.head _)) (.head _) ?m3 ?_; (case m0 => exact N9); (case m1 => exact okGA _); (case m2 => exact okTA _); (case m3 => ke_room))))
local macro_rules | `(tactic| walk_at "callWith ref") => `(tactic| (k_here; (with_reducible show wpAny _ _ (callWith _ (Value.ref _) _ (backTo _ (starEach (_ :: _) _)) []) _ _ _); k_dflt (refine' callWith_K ?k1 ?k2 ?_; (case k1 => k_asm); (case k2 => k_is); k_whole)))
local macro_rules | `(tactic| walk_at "callWith ref") => `(tactic| (k_here; (with_reducible show wpAny _ _ (callWith _ (Value.ref _) _ (backTo _ (starEach (_ :: _) _)) (backToKw _ _)) _ _ _); k_dflt (refine' callWith_KW ?k1 ?k2 ?k3 ?_; (case k1 => k_asm); (case k2 => k_is); (case k3 => exact rfl); k_whole)))
local macro_rules | `(tactic| walk_at "callWith ref") => `(tactic| (k_here; (with_reducible show wpAny _ _ (callWith _ (Value.ref _) _ (backTo _ (starEach [] _)) (backToKw _ _)) _ _ _); k_dflt (refine' callWith_KW0 ?k1 ?k2 ?k3 ?_; (case k1 => k_asm); (case k2 => k_is); (case k3 => exact rfl); k_whole)))
theorem PySem.Challenge.cw_bd5002_01_holds : PySem.Challenge.rw_bd5002_01.Holds :=
  Mine.hd (by
    k_go0
    (all_goals try k_fold)
    k_with "pyIter ref" => k_search (fun pre => True)
    k_steps
    all_goals w_report)
