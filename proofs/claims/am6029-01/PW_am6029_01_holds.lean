import PyProof.Rows.All
import Wide.All
import OpenK.AllK
import Wide.FinOn
import Lean
import PySem.Challenge.RW_am6029_01
open PySem PySem.W PyProof.Rows PySem.Calls PySem.Spec
set_option Elab.async false
set_option linter.unusedVariables false
set_option maxRecDepth 100000
set_option maxHeartbeats 8000000
set_option pp.deepTerms false
set_option pp.maxSteps 400
namespace Mine
open_top hd for PySem.Challenge.rw_am6029_01
section
theorem freshB0 : True := by w_top off; exact True.intro
local macro_rules | `(tactic| walk_at "pad of mine") => `(tactic| fail "a pad")
def S (l : List Nat) : Str := ⟨l.toArray⟩
theorem S_len (l : List Nat) : (S l).length = l.length := by simp [S, Str.length]
theorem S_app (a b : List Nat) : S a ++ S b = S (a ++ b) := by
  have e : (S a ++ S b).cps = (S (a ++ b)).cps := by rw [Str.cps_append]; simp [S]
  exact congrArg Str.mk e
theorem S_inj {a b : List Nat} (h : S a = S b) : a = b := by
  have := congrArg (fun x : Str => x.cps.toList) h
  simpa [S] using this
theorem S_list (l : List Nat) : (S l).cps.toList = l := by simp [S]
theorem sl {n : Nat} (h : n ≤ 1000000) : n ≤ sizeLine := by rw [sizeLine_eq]; omega
def Has (m : Str → Option Value) : List (Str × Value) → Prop
  | [] => True
  | p :: r => m p.1 = some p.2 ∧ Has m r
def pin (m : Str → Option Value) : List (Str × Value) → Str → Option Value
  | [] => m
  | p :: r => fun y => if y = p.1 then some p.2 else pin m r y
theorem pin_eq {m : Str → Option Value} : ∀ {ps : List (Str × Value)}, Has m ps → pin m ps = m
  | [], _ => rfl
  | p :: r, h => by
    funext y
    show (if y = p.1 then some p.2 else pin m r y) = m y
    rw [pin_eq h.2]
    by_cases e : y = p.1
    · rw [if_pos e, e, h.1]
    · rw [if_neg e]
theorem fr_pins {h₀ h : Heap} {L : Addr} {m : Str → Option Value} {ps : List (Str × Value)} (e : Has m ps) (F : Fr h₀ L h m) : Fr h₀ L h (pin m ps) := by
  rw [pin_eq e]; exact F
section
variable {prog : Program} {w : World} {A : Around} {E : Value → Shared → Prop} {s : Shared} {value slice : PySem.Expr} {x y : Str} {a b l : List Nat} {c : Nat} {t u : Tok} {i : Int} {h₀ : Heap} {L : Addr} {m : Str → Option Value} {news : List (Addr × Obj)} {Q : Value → Shared → Prop}
theorem item_S (hx : x = S l) (h0 : 0 ≤ i) (hc : l[i.toNat]? = some c) (hl : l.length ≤ 1000000) (h : ∀ t' k, Q (.str (S [c]) t') { s with toks := k })
    (hs : subscripted slice false (.str x t) (.int i u) = operate [.str x t, .int i u] (getItem (.str x t) (.int i u)) := by with_unfolding_all rfl)
    (ht : ∀ r, letTemporaryGo value (.str x t) r = pure () := by intro _; with_unfolding_all rfl) :
    wpAny (model prog w) A (subscriptTail value slice (.str x t) (.int i u)) Q E s := by
  subst hx
  have hi : i.toNat < l.length := by
    rcases Nat.lt_or_ge i.toNat l.length with h | h
    · exact h
    · rw [List.getElem?_eq_none h] at hc; cases hc
  have e : Txt.item (S l) i = S [c] := by
    unfold Txt.item Txt.charAt seqIndex?
    have h1 : ¬ i < 0 := by omega
    have h2 : (0 ≤ i) = True := by simp [h0]
    have h3 : i < (S l).length := by rw [S_len]; omega
    simp only [h1, if_false, h0, h3, decide_true, Bool.and_self, if_true, Option.bind_some]
    show Str.mk #[((S l).cps[i.toNat]?).getD 0] = _
    have : (S l).cps[i.toNat]? = some c := by simp only [S]; rw [List.getElem?_toArray]; exact hc
    rw [this]; rfl
  refine KXi.item (n := l.length) (S_len l) (by omega) (by omega) (by omega) (fun _ => ?_) hs ht
  rw [e]; exact h _ _
theorem tail_S (hx : x = S (c :: l)) (hl : l.length ≤ 100000) (hF : Fr h₀ L s.heap m) (hN : News h₀ L s.heap news) (h : ∀ h' t' k, Fr h₀ L h' m → News h₀ L h' news → Q (.str (S l) t') { s with heap := h', toks := k })
    (hs : subscripted slice false (.str x t) (.ref s.heap.objs.size) = operate [.ref s.heap.objs.size, .str x t] (getItem (.str x t) (.ref s.heap.objs.size)) := by with_unfolding_all rfl)
    (ht : ∀ r, letTemporaryGo value (.str x t) r = pure () := by intro _; with_unfolding_all rfl) :
    wpAny (model prog w) A (subscriptTail value slice (.str x t) (.ref s.heap.objs.size)) Q E { s with heap := s.heap.push { cls := .type "slice", data := .fields #[.int 1 u, .none, .none] } } := by
  subst hx
  have e : Txt.slice (S (c :: l)) (some 1) none = S l := by
    rw [slice_from_eq (b := ((S (c :: l)).length : Int)) (by omega) (by rw [S_len]; simp only [List.length_cons]; omega) rfl, S_len, S_list]
    simp only [S, List.length_cons]
    congr 1
    have h1 : (1 : Int).toNat = 1 := rfl
    have h2 : (((l.length + 1 : Nat) : Int) - 1).toNat = l.length := by omega
    rw [h1, h2]
    simp
  refine slice_strN_sn hF hN (fun h' t' k F' N' => ?_) hs ht (by rw [S_len]; exact sl (by simp only [List.length_cons]; omega))
  rw [e]; exact h _ _ _ F' N'
theorem len_S (hx : x = S l) (hl : l.length ≤ 1000000) (h : ∀ t' k, Q (.int l.length t') { s with toks := k }) : wpAny (model prog w) A (call (.builtin "len") [.str x t]) Q E s := by
  subst hx
  refine P.len_str (by rw [S_len]; omega) ?_
  rw [S_len]; exact h _ _
theorem add_S (hx : x = S a) (hy : y = S b) (hl : a.length + b.length ≤ 1000000) (h : ∀ t' k, Q (.str (S (a ++ b)) t') { s with toks := k }) : wpAny (model prog w) A (binaryOp .Add (.str x t) (.str y u)) Q E s := by
  subst hx hy
  refine PyProof.Rows.add_str (fun t' k => ?_) (by rw [S_len, S_len]; exact sl hl)
  rw [S_app]; exact h _ _
theorem iadd_S (hx : x = S a) (hy : y = S b) (hl : a.length + b.length ≤ 1000000) (h : ∀ t' k, Q (.str (S (a ++ b)) t') { s with toks := k }) : wpAny (model prog w) A (inplaceOp .Add (.str x t) (.str y u)) Q E s := by
  subst hx hy
  refine P.iadd_str ?_
  rw [S_len, S_len]
  have ea : (a.length == 0) = true → a = [] := fun e => List.length_eq_zero_iff.mp (by simpa using e)
  have eb : (b.length == 0) = true → b = [] := fun e => List.length_eq_zero_iff.mp (by simpa using e)
  by_cases h1 : (a.length == 0) = true
  · rw [if_pos h1]; have := h u s.toks; rw [ea h1, List.nil_append] at this; exact this
  · rw [if_neg h1]
    by_cases h2 : (b.length == 0) = true
    · rw [if_pos h2]; have := h t s.toks; rw [eb h2, List.append_nil] at this; exact this
    · rw [if_neg h2, S_app]
      exact ⟨by rw [S_len, List.length_append]; exact sl hl, h _ _⟩
theorem mul_S (hx : x = S [c]) (hi : i ≤ 1000) (h0 : -1000 ≤ i) (h : ∀ t' k, Q (.str (S (List.replicate i.toNat c)) t') { s with toks := k }) : wpAny (model prog w) A (binaryOp .Mult (.str x t) (.int i u)) Q E s := by
  subst hx
  refine KXi.mul (n := 1) (S_len [c]) (by decide) (by omega) (by omega) (fun t' k _ _ => ?_)
  have e : Txt.mul (S [c]) i = S (List.replicate i.toNat c) := by
    have := mul_one_list c i
    have e2 : (Txt.mul (S [c]) i).cps = (List.replicate i.toNat c).toArray := by
      rw [← this]; exact (Array.toArray_toList ..).symm
    exact congrArg Str.mk e2
  rw [e]; exact h _ _
theorem eq_S (hx : x = S a) (hy : y = S b) (h : Q (.bool (decide (a = b))) s) : wpAny (model prog w) A (compareOp .Eq (.str x t) (.str y u)) Q E s := by
  subst hx hy
  refine P.eq_str ?_
  rw [S_list, S_list]
  have : (a == b) = decide (a = b) := by by_cases e : a = b <;> simp [e]
  rw [this]; exact h
theorem ne_S (hx : x = S a) (hy : y = S b) (h : Q (.bool (decide (a ≠ b))) s) : wpAny (model prog w) A (compareOp .NotEq (.str x t) (.str y u)) Q E s := by
  subst hx hy
  refine P.ne_str ?_
  rw [S_list, S_list]
  have : (a != b) = decide (a ≠ b) := by by_cases e : a = b <;> simp [e]
  rw [this]; exact h
theorem in_S (hx : x = S [c]) (hy : y = S b) (h : Q (.bool (decide (c ∈ b))) s) : wpAny (model prog w) A (compareOp .In (.str x t) (.str y u)) Q E s := by
  subst hx hy
  refine P.in_str ?_
  have := StrLaws.found_one (S b) c
  rw [show S [c] = ⟨#[c]⟩ from rfl, this, S_list]; exact h
theorem notin_S (hx : x = S [c]) (hy : y = S b) (h : Q (.bool (decide (c ∉ b))) s) : wpAny (model prog w) A (compareOp .NotIn (.str x t) (.str y u)) Q E s := by
  subst hx hy
  refine P.notIn_str ?_
  have := StrLaws.found_one (S b) c
  rw [show S [c] = ⟨#[c]⟩ from rfl, this, S_list]
  by_cases e : c ∈ b <;> simpa [e] using h
theorem truthy_S {Q : Bool → Shared → Prop} (hx : x = S a) (hl : a.length ≤ 1000000) (h : ∀ k, Q (decide (a ≠ [])) { s with toks := k }) : wpAny (model prog w) A (truthy (.str x t)) Q E s := by
  subst hx
  refine P.truthy_str (by rw [S_len]; omega) ?_
  rw [S_len]
  have : (((a.length : Nat) : Int) != 0) = decide (a ≠ []) := by
    cases a with
    | nil => rfl
    | cons c l => simp; omega
  rw [this]; exact h _
theorem truthy_Sc {Q : Bool → Shared → Prop} (hx : x = S (c :: l)) (hl : (c :: l).length ≤ 1000000) (h : ∀ k, Q true { s with toks := k }) : wpAny (model prog w) A (truthy (.str x t)) Q E s := truthy_S hx hl h
theorem truthy_Sn {Q : Bool → Shared → Prop} (hx : x = S []) (h : ∀ k, Q false { s with toks := k }) : wpAny (model prog w) A (truthy (.str x t)) Q E s := truthy_S hx (by decide) h
theorem int_S (hx : x = S [c]) (hc : 48 ≤ c ∧ c ≤ 57) (h : ∀ t' k, Q (.int ((c - 48 : Nat) : Int) t') { s with toks := k }) : wpAny (model prog w) A (call (.type "int") [.str x t]) Q E s := by
  subst hx
  have e := PySem.intText_digits (x := S [c]) (by rw [S_list]; intro d hd; rw [List.mem_singleton.mp hd]; exact hc) (by rw [S_list]; exact List.cons_ne_nil _ _) (by rw [S_len]; simp)
  refine KIN.call_text e (by rw [S_len]; simp) ?_
  rw [S_list]
  have : NumText.digitsVal [c] = c - 48 := by unfold NumText.digitsVal; simp
  rw [this]; exact h _ _
end

theorem lit_fig : Str.ofString "0123456789abcdef" = S [48, 49, 50, 51, 52, 53, 54, 55, 56, 57, 97, 98, 99, 100, 101, 102] := by decide +kernel
theorem lit_zero : Str.ofString "0" = S [48] := by decide +kernel
theorem lit_nil : Str.ofString "" = S [] := by decide +kernel
theorem lit_star : Str.ofString "*" = S [42] := by decide +kernel
theorem lit_dots : Str.ofString ".:-/" = S [46, 58, 45, 47] := by decide +kernel
theorem lit_coms : Str.ofString ",;=+" = S [44, 59, 61, 43] := by decide +kernel
theorem lit_xdoa : Str.ofString "xdoa" = S [120, 100, 111, 97] := by decide +kernel
theorem lit_dig : Str.ofString "0123456789" = S [48, 49, 50, 51, 52, 53, 54, 55, 56, 57] := by decide +kernel
theorem lit_a : Str.ofString "a" = S [97] := by decide +kernel
theorem lit_t : Str.ofString "t" = S [116] := by decide +kernel
theorem lit_x : Str.ofString "x" = S [120] := by decide +kernel
theorem lit_d : Str.ofString "d" = S [100] := by decide +kernel
theorem lit_o : Str.ofString "o" = S [111] := by decide +kernel
theorem lit_B : Str.ofString "B" = S [66] := by decide +kernel
theorem lit_integer : Str.ofString "integer" = S [105, 110, 116, 101, 103, 101, 114] := by decide +kernel
theorem lit_string : Str.ofString "string" = S [115, 116, 114, 105, 110, 103] := by decide +kernel
theorem lit_ascii : Str.ofString "ascii" = S [97, 115, 99, 105, 105] := by decide +kernel
theorem lit_ignore : Str.ofString "ignore" = S [105, 103, 110, 111, 114, 101] := by decide +kernel
theorem lit_f02x : Str.ofString "%02x" = S [37, 48, 50, 120] := by decide +kernel
theorem lit_f03o : Str.ofString "%03o" = S [37, 48, 51, 111] := by decide +kernel
theorem lit_fd : Str.ofString "%d" = S [37, 100] := by decide +kernel
theorem lit_b : Str.ofString "b" = S [98] := by decide +kernel

section
variable {prog : Program} {w : World} {A : Around} {E : Value → Shared → Prop} {s : Shared} {value slice : PySem.Expr} {x y : Str} {a b l : List Nat} {c : Nat} {t u : Tok} {i : Int} {h₀ : Heap} {L : Addr} {m : Str → Option Value} {news : List (Addr × Obj)} {Q : Value → Shared → Prop}
theorem itemD_S (hx : x = S l) (h0 : 0 ≤ i) (h1 : i < l.length) (hl : l.length ≤ 1000000) (h : ∀ t' k, Q (.str (S [l.getD i.toNat 0]) t') { s with toks := k })
    (hs : subscripted slice false (.str x t) (.int i u) = operate [.str x t, .int i u] (getItem (.str x t) (.int i u)) := by with_unfolding_all rfl)
    (ht : ∀ r, letTemporaryGo value (.str x t) r = pure () := by intro _; with_unfolding_all rfl) :
    wpAny (model prog w) A (subscriptTail value slice (.str x t) (.int i u)) Q E s :=
  item_S hx h0 (by rw [List.getD_eq_getElem?_getD, List.getElem?_eq_getElem (by omega)]; rfl) hl h hs ht
theorem item0_S (hx : x = S (c :: l)) (hl : l.length ≤ 100000) (h : ∀ t' k, Q (.str (S [c]) t') { s with toks := k })
    (hs : subscripted slice false (.str x t) (.int 0 u) = operate [.str x t, .int 0 u] (getItem (.str x t) (.int 0 u)) := by with_unfolding_all rfl)
    (ht : ∀ r, letTemporaryGo value (.str x t) r = pure () := by intro _; with_unfolding_all rfl) :
    wpAny (model prog w) A (subscriptTail value slice (.str x t) (.int 0 u)) Q E s :=
  item_S hx (by decide) rfl (by simp only [List.length_cons]; omega) h hs ht
end
theorem fm_cast (n b : Nat) : Int.fmod (n : Int) (b : Int) = ((n % b : Nat) : Int) := by
  rw [Int.fmod_eq_emod_of_nonneg _ (by omega)]; rfl
theorem fd_cast (n b : Nat) : Int.fdiv (n : Int) (b : Int) = ((n / b : Nat) : Int) := by
  rw [Int.fdiv_eq_ediv_of_nonneg _ (by omega)]; rfl

theorem fr_ex {h₀ h : Heap} {L : Addr} {m : Str → Option Value} (ps : List (Str × Value)) (e : Has m ps) (F : Fr h₀ L h m) : ∃ u, Fr h₀ L h (pin u ps) := ⟨m, fr_pins e F⟩

theorem retS {h₀ h' : Heap} {L : Addr} {m : Str → Option Value} {news news' : List (Addr × Obj)} {s : Shared} {Q : Value → Shared → Prop} {t : Tok} {tk' : Nat} {x y : Str} (hret : ∀ (t : Tok) (h' : Heap) (tk' : Nat), Fr h₀ L h' m → News h₀ L h' news → Q (.str x t) { s with heap := h', toks := tk' }) (e : y = x) (F : Fr h₀ L h' m) (N : News h₀ L h' news') (hs : ∀ p ∈ news, p ∈ news') : Q (.str y t) { s with heap := h', toks := tk' } := by
  subst e
  exact hret t h' tk' F fun p hp => N p (hs p hp)
section
variable {prog : Program} {w : World} {A : Around} {E : Value → Shared → Prop} {s : Shared} {env : Env} {h₀ : Heap} {x : Str} {body : List Stmt} {Q : Flow → Shared → Prop}
theorem for_ints {l : Addr} {vs : List Value} {ns : List Int} {nn : Nat} {m₀ : Str → Option Value} {news : List (Addr × Obj)} (J : Nat → (Str → Option Value) → List (Addr × Obj) → Prop)
    (hh : A.handled = none) (hl : (l, listOf vs.toArray nn) ∈ news) (hi : IntsAre vs ns) (F : Fr h₀ env.locals s.heap m₀) (N : News h₀ env.locals s.heap news) (hj : J 0 m₀ news)
    (turn : ∀ i n t m₁ nx h tk own, ns[i]? = some n → OwnOff own (nx.map (·.1)) → (l, listOf vs.toArray nn) ∈ nx → J i m₁ nx → Fr h₀ env.locals h (fun y => if y = x then some (.int n t) else m₁ y) → News h₀ env.locals h (nx ++ own) →
      wpAny (model prog w) A (execs body env) (InvPostG h₀ env.locals (fun m' nx => (l, listOf vs.toArray nn) ∈ nx ∧ J (i + 1) m' nx) own { s with heap := h, toks := tk } Q) E { s with heap := h, toks := tk })
    (done : ∀ m₁ nx h tk, J ns.length m₁ nx → Fr h₀ env.locals h m₁ → News h₀ env.locals h nx → Q .next { s with heap := h, toks := tk }) :
    wpAny (model prog w) A (pyIter (.ref l)) (fun it s₂ => LoopAtV prog w A h₀ env x body Q E it s₂) E s := by
  refine kdl_iter J hh hl F N hj ?_ ?_
  · intro i v m₁ nx h tk own hv ho hm hJ F₁ N₁
    obtain ⟨n, t, rfl, hn⟩ := IntsAre.at hi i v hv
    exact turn i n t m₁ nx h tk own hn ho hm hJ F₁ N₁
  · rw [hi.length]; exact done
end

theorem has_str {m : Str → Option Value} {x : Str} {a b : List Nat} {t : Tok} (h : m x = some (.str (S a) t)) (e : a = b) : Has m [(x, .str (S b) t)] := ⟨by rw [h, e], trivial⟩

theorem eq_int {m : Str → Option Value} {x : Str} {a b : Int} {t : Tok} (h : m x = some (.int a t)) (e : a = b) : m x = some (.int b t) := by rw [h, e]
theorem eq_str' {m : Str → Option Value} {x : Str} {a b : List Nat} {t : Tok} (h : m x = some (.str (S a) t)) (e : a = b) : m x = some (.str (S b) t) := by rw [h, e]
theorem eq_byt {m : Str → Option Value} {x : Str} {a b : List UInt8} {t : Tok} (h : m x = some (.bytes a.toArray t)) (e : a = b) : m x = some (.bytes b.toArray t) := by rw [h, e]
-- has_int

end
section
theorem freshB1 : True := by w_top off; exact True.intro
section
variable {prog : Program} {w : World} {A : Around} {E : Value → Shared → Prop} {s : Shared} {h₀ : Heap} {L : Addr} {m : Str → Option Value} {env : Env}
def SrcB (prog : Program) (w : World) (A : Around) (h₀ : Heap) (L : Addr) (m : Str → Option Value) (env : Env) (ct elt : Expr) (x : Str) (scope : Scope) (cl : List (Str × Addr)) (Fin : Shared → List Value → List (Addr × Obj) → Prop) (xv : Value) (s₁ : Shared) : Prop :=
  ∃ b t news, xv = .bytes b t ∧ A.handled = none ∧ Fr h₀ L s₁.heap m ∧ News h₀ L s₁.heap news ∧ b.size ≤ sizeLine ∧
    ∀ s₂ : Shared, (∃ h, s₂ = { s₁ with heap := h }) → LCt.CompRestT prog w A h₀ L m env ct elt x scope cl s₂ (fun _ => True) (fun i v => ∃ (n : UInt8) (u : Tok), b[i]? = some n ∧ v = .int (n.toNat : Int) u) (Fin s₂) b.size 0 [] news
theorem ListComp_B {ct elt iter : Expr} {x : Str} {px : Pos} {scope : Scope} {cl : List (Str × Addr)} {pos : Pos} {Q : Value → Shared → Prop} (F₀ : Fr h₀ L s.heap m)
    (hclos : closureFor scope env = pure cl) (hcell : ∀ y ∈ scope.names, y.2 ≠ .cell) (hkind : scope.kind = .function)
    (hnames : ∀ y ∈ scope.names, y.2 = .local → scope.names.lookup y.1 = some .local) (hx : scope.names.lookup x = some .local)
    (h : wpAny (model prog w) A (eval iter env) (SrcB prog w A h₀ L m env ct elt x scope cl (fun s₂ => LCg.FinE h₀ L m s₂ Q)) E s)
    (hs : ∀ x, foldedSetIterable iter env x = pure x := by intro _; rfl) :
    wpAny (model prog w) A (eval (.ListComp elt [⟨.Name x px, iter, [ct], 0⟩] scope pos) env) Q E s := by
  rw [eval_ListComp]
  refine wpAny_comprehension_free (use := none) rfl hs hclos hkind hnames (wpAny_mono h (fun xv s₁ h₁ => ?_) fun _ _ e => e)
  obtain ⟨b, t, news, rfl, hh, F, N, hsz, R⟩ := h₁
  refine KBw.pyIter_bytes ?_
  have up : ∀ a o, s₁.heap.get? a = some o → (s₁.heap.push { cls := .type "bytes_iterator", data := .fields #[.bytes b t, .int 0 0] }).get? a = some o := fun a o e => Heap.get?_push_of_some _ e
  refine LCt.block_T (KBw.walks hh s₁.heap.objs.size b t) hsz (fun i h st => ?_) ?_ hcell hkind hx ?_ (fun a ha => ?_)
    (F.keeps up) (N.grown up) (Nat.ne_of_lt F.ns.lt) (next_is_new F) (fun p hp => Nat.ne_of_lt (Heap.lt_size (N p hp).1)) trivial (R _ ⟨_, rfl⟩) ?_
  · obtain ⟨o, e, _⟩ := st; exact ⟨o, e⟩
  · rintro i h h' o nw ⟨o', e', r⟩ ho ho' _ _ _
    have : o' = o := by rw [ho] at e'; exact (Option.some.inj e').symm
    exact ⟨o, ho', this ▸ r⟩
  · exact ⟨_, Heap.get?_push_size _ rfl, rfl, rfl⟩
  · show a < (s₁.heap.push _).objs.size
    rw [Heap.size_push, List.mem_singleton.mp ha]
    exact Nat.lt_succ_self _
  · intro D C h tk m' ys news' F' N' o1 hn hC₀ hD₀ hCL hDL hCD offC fin
    refine ⟨m', hn, fun h'' hs'' => fin D h'' tk (F'.change hs'' hCL hC₀) (fun p hp => ?_) o1⟩
    refine ⟨hs''.extBut _ _ ?_ (N' p hp).1, (N' p hp).2⟩
    rcases List.mem_cons.mp hp with rfl | hp
    · exact Ne.symm hCD
    · exact offC p hp
def TestEnd (h₀ : Heap) (L : Addr) (m : Str → Option Value) (s : Shared) (led : List (Addr × Obj)) (ok : Bool) (s' : Shared) : Prop := ok = false ∧ ∃ h' tk', s' = { s with heap := h', toks := tk' } ∧ Fr h₀ L h' m ∧ News h₀ L h' led
theorem rest_none {ct elt : Expr} {x : Str} {scope : Scope} {cl : List (Str × Addr)} {P : Nat → Value → Prop} {Fin : List Value → List (Addr × Obj) → Prop} {news : List (Addr × Obj)}
    (turn : ∀ v i I oI C oC D m₂ h tk (E' : Value → Shared → Prop), P i v → LCg.NsObj oC m₂ → m₂ x = some v → Fr h₀ L h m → News h₀ L h ((I, oI) :: (C, oC) :: (D, LCg.lst []) :: news) → LCg.Off3 I C D news →
      wpAny (model prog w) A (isTrue ct (compEnvC scope cl C env) (eval ct (compEnvC scope cl C env))) (TestEnd h₀ L m { s with heap := h, toks := tk } ((I, oI) :: (C, oC) :: (D, LCg.lst []) :: news)) E' { s with heap := h, toks := tk })
    (fin : Fin [] news) : ∀ n i, LCt.CompRestT prog w A h₀ L m env ct elt x scope cl s (fun _ => True) P Fin n i [] news
  | 0, _ => fin
  | n + 1, i => by
    refine LCt.CompRestT.succ ?_
    intro v I oI C oC D m₂ h tk E' hv hC hx F N off ne
    refine wpAny_mono (turn v i I oI C oC D m₂ h tk E' hv hC hx F N off) (fun ok s' hq => ?_) fun _ _ e => e
    obtain ⟨rfl, h', tk', rfl, F', N'⟩ := hq
    simp only [Bool.false_eq_true, if_false]
    exact LCg.CompEnd.intro F' N' news (fun _ h => h) off trivial (rest_none turn fin n (i + 1))
end

end
section
theorem freshB2 : True := by w_top off; exact True.intro
local macro_rules | `(tactic| walk_at "pad of mine") => `(tactic| fail "a pad")
open PySem.F in
theorem bb_lookup : typeLookup (.type "bytes") "__bytes__" = pure (some (.builtin "bytes.__bytes__")) := by rw [typeLookup_type, builtinLookup_eq_fast]; kernel_rfl
section
variable {prog : Program} {w : World} {A : Around} {E : Value → Shared → Prop} {s : Shared}
theorem bb_new {b : Array UInt8} {t : Tok} {Q : Value → Shared → Prop} (hQ : Q (.bytes b t) s) :
    codeAny (model prog w) A (.call (.builtin "bytes.__new__") ⟨[.type "bytes", .bytes b t], []⟩) (wants Q E) s := by
  refine codeAny_of_tree ?_
  show wpAny _ A.in1 (do checkBuiltinCall "bytes.__new__" ⟨[.type "bytes", .bytes b t], []⟩; again (.builtin "bytes.__new__" ⟨[.type "bytes", .bytes b t], []⟩)) _ _ s
  refine wpAny_bind (wpAny_of_eq (F.bm_newCall _) (wpAny_pure ⟨plainId_quiet F.bm_plain _, codeAny_builtin F.bm_entry ?_⟩))
  rw [Around.under_plainId F.bm_plain _]
  have hT : s.TypeIs (.bytes b t) "bytes" := typeIs_bytes _ _ _
  unfold Builtin.«bytes.__new__»
  refine wpAny_bind (wpAny_of_eq (a := true) rfl ?_)
  refine bm_if_false rfl ?_
  refine wpAny_bind (wpAny_of_eq F.bm_sub ?_)
  refine bm_if_false rfl ?_
  refine wpAny_bind (wpAny_of_eq (F.bm_bind _) ?_)
  refine wpAny_bind (wpAny_of_eq (a := ()) rfl ?_)
  refine wpAny_bind (wpAny_of_eq (a := ()) rfl ?_)
  refine bm_if_false rfl ?_
  refine wpAny_bind (wpAny_specialOf hT bb_lookup ?_)
  refine wpAny_bind (wpAny_rule ?_)
  refine wpAny_bind (wpAny_typeOf hT ?_)
  refine bm_if_true (by decide) ?_
  first
    | exact wpAny_pure hQ
    | exact wpAny_bind (wpAny_pure (wpAny_pure hQ))
    | exact wpAny_pure ⟨_, rfl, hQ⟩
theorem call_bytes_bytes {b : Array UInt8} {t : Tok} {Q : Value → Shared → Prop} (hQ : Q (.bytes b t) s) : wpAny (model prog w) A (call (.type "bytes") [.bytes b t]) Q E s := by
  refine callType_codes (Q₁ := fun obj s₁ => s₁.TypeIs obj "bytes" ∧ Q obj s₁) F.bm_called (F.bm_typeCall _) F.entry_object_init
    (bb_new ⟨typeIs_bytes _ _ _, hQ⟩) fun obj s₁ h₁ => ?_
  exact ⟨h₁.1, F.args_object_init_2 obj _, object_init_meets F.bm_called.init.lookup F.bm_called.made (by decide) prog w A.in1 _ s₁ ⟨h₁.1, rfl, h₁.2⟩⟩
end

end
section
theorem freshF1 : True := by w_top off; exact True.intro
def numF (ns : List Int) (p : Int) : Int := (if 0 < ns.length then ns.getD (p.fmod (ns.length : Int)).toNat 0 else 0) + 7 * p
theorem retI {h₀ h' : Heap} {L : Addr} {m : Str → Option Value} {news : List (Addr × Obj)} {s : Shared} {Q : Value → Shared → Prop} {t : Tok} {tk' : Nat} {x y : Int} (hret : ∀ (t : Tok) (h' : Heap) (tk' : Nat), Fr h₀ L h' m → News h₀ L h' news → Q (.int x t) { s with heap := h', toks := tk' }) (e : y = x) (F : Fr h₀ L h' m) (N : News h₀ L h' news) : Q (.int y t) { s with heap := h', toks := tk' } := by
  subst e
  exact hret t h' tk' F N
theorem number_spec : ∀ {w : World} {mean : ExcName → Option Value} {mg mb : Str → Option Value} (dp un : Nat) (gd : Option (List Code)) (cn : Str) (cs : Scope) (a : Addr) (ccd : Value) (cl : List (Str × Addr)) (outer : List Env) (A₀ : Around) (base h₀ : Heap) (L : Addr) (m : Str → Option Value) (news : List (Addr × Obj)) (s : Shared) (l : Addr) (vs : List Value) (ns : List Int) (i : Int) (tk : Tok)
    (Q E : Value → Shared → Prop) (_ : Below A₀ base outer h₀) (_ : Fr h₀ L s.heap m) (_ : (hd.heap_39 w.params).In h₀) (_ : News h₀ L s.heap news) (_ : Top hd.view_39 (looseW hd.view_39 [Str.ofString "noValue", Str.ofString "Value", Str.ofString "Integer32", Str.ofString "OctetString", Str.ofString "SmiError", Str.ofString "TextualConvention", Str.ofString "HintedString", Str.ofString "HintedInteger", Str.ofString "TestAndIncr", Str.ofString "RowStatus"]) mean mg mb h₀) (_ : cs.kind = .function)
    (_ : base.IsList l vs.toArray) (_ : IntsAre vs ns) (_ : ns.length < 2 ^ 62) (_ : 0 ≤ i) (_ : i < 1000) (_ : dp + 1 < recursionLimit) (_ : un + 8 < cLine)
    (_ : ∀ (t : Tok) (h' : Heap) (tk' : Nat), Fr h₀ L h' m → News h₀ L h' news → Q (.int (numF ns i) t) { s with heap := h', toks := tk' }),
    wpAny (model Challenge.rw_am6029_01.row.prog w) (ktrTop dp un gd cn cs L a ccd cl outer) (call (.ref 402) [.ref l, .int i tk]) Q E s := by
  k_fill
  intro w mean mg mb dp un gd cn cs a ccd cl outer A₀ base h₀ L m news s l vs ns i tk Q E B F X N T hk hl hi hfit h0 h1 hd hu hret
  refine wpAny_call ?_
  k_dflt cell_enter
  k_steps
  · exact retI hret (by unfold numF; rw [if_pos (by assumption)]) (by assumption) (by assumption)
  · exact retI hret (by unfold numF; rw [if_neg (by assumption)]) (by assumption) (by assumption)

end
section
theorem freshF2 : True := by w_top off; exact True.intro

local macro_rules | `(tactic| ktr_rel) => `(tactic| with_reducible first | rfl | assumption | exact lit_fig | exact lit_zero | exact lit_nil | exact lit_star | exact lit_dots | exact lit_coms | exact lit_xdoa | exact lit_dig | exact lit_a | exact lit_t | exact lit_x | exact lit_d | exact lit_o | exact lit_B | exact lit_integer | exact lit_string | exact lit_ascii | exact lit_ignore | exact lit_f02x | exact lit_f03o | exact lit_fd | exact lit_b | fail "no S")
local macro_rules | `(tactic| ktr_unf) => `(tactic| repeat' (first | (k_unfold; (try dsimp only)) | (k_end; kc_close) | ((fail_if_success (with_reducible show wpAny _ _ (exec (Stmt.While _ _ _ _) _) _ _ _)); (fail_if_success (with_reducible show wpAny _ _ (exec (Stmt.For _ _ _ _ _) _) _ _ _)); (fail_if_success (with_reducible show wpAny _ _ (eval (Expr.ListComp _ _ _ _) _) _ _ _)); (fail_if_success (with_reducible show wpAny _ _ (exec (Stmt.Assign _ (Expr.ListComp _ _ _ _) _) _) _ _ _)); (fail_if_success (with_reducible show wpAny _ _ (pyIter _) _ _ _)); (fail_if_success (with_reducible show LCg.CompSrc _ _ _ _ _ _ _ _ _ _ _ _ _ _)); (first | walk1 | (dsimp only; walk1))) | (leave1; walk_say "STEP leave1"; (try dsimp only)) | fail "no step"))
local macro_rules | `(tactic| walk_at "subscriptTail Constant str BinOp") => `(tactic| ((with_reducible show wpAny _ _ (subscriptTail _ _ (Value.str _ _) (Value.int _ _)) _ _ _); (refine' itemD_S ?hx ?h0 ?h1 ?hl ?_); (case hx => ktr_rel); (case h0 => first | decide | omega | exact fmod_lo _ (by decide)); (case h1 => first | decide | omega | exact fmod_hi _ (by decide)); (case hl => first | decide | omega | (simp only [List.length_append, List.length_cons, List.length_nil, List.length_replicate, List.length_map]; omega)); intro _ _))
local macro_rules | `(tactic| walk_at "subscriptTail") => `(tactic| ((with_reducible show wpAny _ _ (subscriptTail _ _ (Value.str _ _) (Value.int _ _)) _ _ _); (refine' itemD_S ?hx ?h0 ?h1 ?hl ?_); (case hx => ktr_rel); (case h0 => first | decide | omega | exact fmod_lo _ (by decide)); (case h1 => first | decide | omega | exact fmod_hi _ (by decide)); (case hl => first | decide | omega | (simp only [List.length_append, List.length_cons, List.length_nil, List.length_replicate, List.length_map]; omega)); intro _ _))
local macro_rules | `(tactic| walk_at "subscriptTail Name Constant str int") => `(tactic| ((with_reducible show wpAny _ _ (subscriptTail _ _ (Value.str _ _) (Value.int 0 _)) _ _ _); (refine' item0_S ?hx ?hl ?_); (case hx => ktr_rel); (case hl => first | decide | omega | (simp only [List.length_append, List.length_cons, List.length_nil, List.length_replicate, List.length_map]; omega)); intro _ _))
local macro_rules | `(tactic| walk_at "subscriptTail") => `(tactic| ((with_reducible show wpAny _ _ (subscriptTail _ _ (Value.str _ _) (Value.int 0 _)) _ _ _); (refine' item0_S ?hx ?hl ?_); (case hx => ktr_rel); (case hl => first | decide | omega | (simp only [List.length_append, List.length_cons, List.length_nil, List.length_replicate, List.length_map]; omega)); intro _ _))
local macro_rules | `(tactic| walk_at "subscriptTail Name Slice str ref") => `(tactic| ((with_reducible show wpAny _ _ (subscriptTail _ (Expr.Slice (some _) none none _) (Value.str _ _) (Value.ref _)) _ _ _); (with_reducible rename Fr _ _ _ _ => F'); (with_reducible rename News _ _ _ _ => N'); (refine' tail_S (s := ⟨_, _, _, _, _⟩) ?hx ?hl F' N' ?_); (case hx => ktr_rel); (case hl => first | decide | omega | (simp only [List.length_append, List.length_cons, List.length_nil, List.length_replicate, List.length_map]; omega)); intro _ _ _ _ _))
local macro_rules | `(tactic| walk_at "subscriptTail") => `(tactic| ((with_reducible show wpAny _ _ (subscriptTail _ (Expr.Slice (some _) none none _) (Value.str _ _) (Value.ref _)) _ _ _); (with_reducible rename Fr _ _ _ _ => F'); (with_reducible rename News _ _ _ _ => N'); (refine' tail_S (s := ⟨_, _, _, _, _⟩) ?hx ?hl F' N' ?_); (case hx => ktr_rel); (case hl => first | decide | omega | (simp only [List.length_append, List.length_cons, List.length_nil, List.length_replicate, List.length_map]; omega)); intro _ _ _ _ _))
local macro_rules | `(tactic| walk_at "call builtin:len cons nil") => `(tactic| ((with_reducible show wpAny _ _ (call (Value.builtin "len") [Value.str _ _]) _ _ _); (refine' len_S ?hx ?hl ?_); (case hx => ktr_rel); (case hl => first | decide | omega | (simp only [List.length_append, List.length_cons, List.length_nil, List.length_replicate, List.length_map]; omega)); intro _ _))
local macro_rules | `(tactic| walk_at "call builtin:len") => `(tactic| ((with_reducible show wpAny _ _ (call (Value.builtin "len") [Value.str _ _]) _ _ _); (refine' len_S ?hx ?hl ?_); (case hx => ktr_rel); (case hl => first | decide | omega | (simp only [List.length_append, List.length_cons, List.length_nil, List.length_replicate, List.length_map]; omega)); intro _ _))
local macro_rules | `(tactic| walk_at "binaryOp Add str str") => `(tactic| ((refine' add_S ?hx ?hy ?hl ?_); (case hx => ktr_rel); (case hy => ktr_rel); (case hl => first | decide | omega | (simp only [List.length_append, List.length_cons, List.length_nil, List.length_replicate, List.length_map]; omega)); intro _ _))
local macro_rules | `(tactic| walk_at "inplaceOp Add str str") => `(tactic| ((refine' iadd_S ?hx ?hy ?hl ?_); (case hx => ktr_rel); (case hy => ktr_rel); (case hl => first | decide | omega | (simp only [List.length_append, List.length_cons, List.length_nil, List.length_replicate, List.length_map]; omega)); intro _ _))
local macro_rules | `(tactic| walk_at "binaryOp Mult str int") => `(tactic| ((refine' mul_S ?hx ?hl ?h0 ?_); (case hx => ktr_rel); (case hl => omega); (case h0 => omega); intro _ _))
local macro_rules | `(tactic| walk_at "compareOp Eq str str") => `(tactic| ((refine' eq_S ?hx ?hy ?_); (case hx => ktr_rel); (case hy => ktr_rel)))
local macro_rules | `(tactic| walk_at "compareOp NotEq str str") => `(tactic| ((refine' ne_S ?hx ?hy ?_); (case hx => ktr_rel); (case hy => ktr_rel)))
local macro_rules | `(tactic| walk_at "compareOp In str str") => `(tactic| ((refine' in_S ?hx ?hy ?_); (case hx => ktr_rel); (case hy => ktr_rel)))
local macro_rules | `(tactic| walk_at "compareOp NotIn str str") => `(tactic| ((refine' notin_S ?hx ?hy ?_); (case hx => ktr_rel); (case hy => ktr_rel)))
local macro_rules | `(tactic| walk_at "truthy str") => `(tactic| ((refine' truthy_S ?hx ?hl ?_); (case hx => ktr_rel); (case hl => first | decide | omega | (simp only [List.length_append, List.length_cons, List.length_nil, List.length_replicate, List.length_map]; omega)); intro _))
local macro_rules | `(tactic| walk_at "call type:int cons nil") => `(tactic| ((with_reducible show wpAny _ _ (call (Value.type "int") [Value.str _ _]) _ _ _); (refine' int_S ?hx ?hc ?_); (case hx => ktr_rel); (case hc => omega); intro _ _))
local macro_rules | `(tactic| walk_at "call type:int") => `(tactic| ((with_reducible show wpAny _ _ (call (Value.type "int") [Value.str _ _]) _ _ _); (refine' int_S ?hx ?hc ?_); (case hx => ktr_rel); (case hc => omega); intro _ _))
local macro_rules | `(tactic| walk_at "compareOp Is bytes ref") => `(tactic| (refine wpAny_is_other (by rfl) (by intro x; cases x) ?_))
local macro_rules | `(tactic| walk_at "truthy str") => `(tactic| first | ((refine truthy_Sn (by with_reducible first | rfl | exact lit_nil) ?_); intro _) | ((refine truthy_Sc (by with_reducible first | rfl | exact lit_star) (by first | decide | omega | (simp only [List.length_append, List.length_cons, List.length_nil, List.length_replicate, List.length_map] at *; omega)) ?_); intro _))

def figD (n : Nat) : Nat := if n < 10 then 48 + n else 87 + n
def figL (b n : Nat) : List Nat := if h : 2 ≤ b ∧ 0 < n then figL b (n / b) ++ [figD (n % b)] else []
termination_by n
decreasing_by exact Nat.div_lt_self h.2 h.1
theorem figL_len (b n : Nat) : ∀ j, 2 ≤ b → n < 2 ^ j → (figL b n).length ≤ j := by
  induction n using Nat.strongRecOn with
  | _ n ih =>
    intro j hb hn
    unfold figL
    by_cases h : 0 < n
    · rw [dif_pos ⟨hb, h⟩]
      cases j with
      | zero => omega
      | succ j =>
        have h1 : n / b < 2 ^ j := by
          have : n / b ≤ n / 2 := Nat.div_le_div_left hb (by decide)
          have : n / 2 < 2 ^ j := by rw [Nat.pow_succ] at hn; omega
          omega
        have := ih (n / b) (Nat.div_lt_self h hb) j hb h1
        simp only [List.length_append, List.length_cons, List.length_nil]; omega
    · rw [dif_neg (by omega)]; exact Nat.zero_le _
local macro_rules | `(tactic| walk_at "subscriptTail Constant str BinOp") => `(tactic| ((with_reducible show wpAny _ _ (subscriptTail _ _ (Value.str _ _) (Value.int (Int.fmod _ _) _)) _ _ _); (refine' itemD_S ?hx ?h0 ?h1 ?hl ?_); (case hx => ktr_rel); (case h0 => (rw [fm_cast]; exact Int.natCast_nonneg _)); (case h1 => k_dflt (rw [fm_cast]; exact Int.ofNat_lt.mpr (Nat.lt_of_lt_of_le (by assumption) (by assumption)))); (case hl => decide); intro _ _))
theorem fig_at (i : Nat) (h : i < 16) : [48, 49, 50, 51, 52, 53, 54, 55, 56, 57, 97, 98, 99, 100, 101, 102].getD i 0 = figD i := by
  have : ∀ i : Fin 16, [48, 49, 50, 51, 52, 53, 54, 55, 56, 57, 97, 98, 99, 100, 101, 102].getD i.1 0 = figD i.1 := by decide
  exact this ⟨i, h⟩
theorem figures_spec : ∀ {w : World} {mean : ExcName → Option Value} {mg mb : Str → Option Value} (dp un : Nat) (gd : Option (List Code)) (cn : Str) (cs : Scope) (a : Addr) (ccd : Value) (cl : List (Str × Addr)) (outer : List Env) (A₀ : Around) (base h₀ : Heap) (L : Addr) (m : Str → Option Value) (news : List (Addr × Obj)) (s : Shared) (n b k : Nat) (t1 t2 t3 : Tok)
    (Q E : Value → Shared → Prop) (_ : Below A₀ base outer h₀) (_ : Fr h₀ L s.heap m) (_ : (hd.heap_39 w.params).In h₀) (_ : News h₀ L s.heap news) (_ : Top hd.view_39 (looseW hd.view_39 [Str.ofString "noValue", Str.ofString "Value", Str.ofString "Integer32", Str.ofString "OctetString", Str.ofString "SmiError", Str.ofString "TextualConvention", Str.ofString "HintedString", Str.ofString "HintedInteger", Str.ofString "TestAndIncr", Str.ofString "RowStatus"]) mean mg mb h₀) (_ : cs.kind = .function)
    (_ : n < 65536) (_ : 2 ≤ b) (_ : b ≤ 16) (_ : k ≤ 3) (_ : dp + 1 < recursionLimit) (_ : un + 8 < cLine)
    (_ : ∀ (t : Tok) (h' : Heap) (tk' : Nat), Fr h₀ L h' m → News h₀ L h' news → Q (.str (S (List.replicate (k - (figL b n).length) 48 ++ figL b n)) t) { s with heap := h', toks := tk' }),
    wpAny (model Challenge.rw_am6029_01.row.prog w) (ktrTop dp un gd cn cs L a ccd cl outer) (call (.ref 409) [.int n t1, .int b t2, .int k t3]) Q E s := by
  k_fill
  intro w mean mg mb dp un gd cn cs a ccd cl outer A₀ base h₀ L m news s n b k t1 t2 t3 Q E B F X N T hk hn hb hb2 hk3 hd hu hret
  refine wpAny_call ?_
  k_dflt cell_enter
  ktr_unf
  rename Fr _ _ _ _ => F1
  rename News _ _ _ _ => N1
  refine While_inv2 (fun μ m nx => nx = news ∧ ∃ (n' : Nat) (l : List Nat) (t4 t5 : Tok), Has m [(Str.ofString "number", .int n' t4), (Str.ofString "told", .str (S l) t5), (Str.ofString "base", .int b t2), (Str.ofString "least", .int k t3)] ∧ figL b n' ++ l = figL b n ∧ n' < 65536 ∧ μ = n') F1 N1 ⟨rfl, n, [], _, _, ⟨rfl, rfl, rfl, rfl, trivial⟩, List.append_nil _, hn, rfl⟩ ?_
  clear F1 N1
  rintro μ m1 nx h1 tk1 F1 N1 ⟨rfl, n', l, t4, t5, e1, e5, e6, rfl⟩
  have F2 := fr_pins e1 F1
  dsimp only [pin] at F2
  clear F1
  have hll : l.length ≤ 16 := by
    have h1 := congrArg List.length e5
    rw [List.length_append] at h1
    have := figL_len b n 16 hb hn
    omega
  have hmod : μ % b < b := Nat.mod_lt _ (by omega)
  ktr_unf
  · have hmu : 0 < μ := by omega
    refine ⟨_, _, _, _, μ / b, rfl, by assumption, by assumption, Nat.div_lt_self hmu hb, rfl, μ / b, _, _, _, ⟨by rw [← fd_cast]; rfl, rfl, rfl, rfl, trivial⟩, ?_, ?_, rfl⟩
    · have e : (Int.fmod (μ : Int) (b : Int)).toNat = μ % b := by rw [fm_cast]; rfl
      rw [e, fig_at (μ % b) (by omega), ← e5]
      conv => rhs; unfold figL
      rw [dif_pos ⟨hb, hmu⟩, List.append_assoc]
    · exact Nat.lt_of_le_of_lt (Nat.div_le_self _ _) e6
  · have h0 : μ = 0 := by omega
    subst h0
    have e : l = figL b n := by
      rw [← e5]; unfold figL; rw [dif_neg (by omega)]; rfl
    subst e
    rw [Int.toNat_sub]
    exact hret _ _ _ (by assumption) (by assumption)

end
section
theorem freshF3 : True := by w_top off; exact True.intro
local macro_rules | `(tactic| walk_at "pad of mine") => `(tactic| fail "a pad")
local macro_rules | `(tactic| walk_at "pad of mine") => `(tactic| fail "a pad")

local macro_rules | `(tactic| ktr_rel) => `(tactic| with_reducible first | rfl | assumption | exact lit_fig | exact lit_zero | exact lit_nil | exact lit_star | exact lit_dots | exact lit_coms | exact lit_xdoa | exact lit_dig | exact lit_a | exact lit_t | exact lit_x | exact lit_d | exact lit_o | exact lit_B | exact lit_integer | exact lit_string | exact lit_ascii | exact lit_ignore | exact lit_f02x | exact lit_f03o | exact lit_fd | exact lit_b | fail "no S")
local macro_rules | `(tactic| ktr_unf) => `(tactic| repeat' (first | (k_unfold; (try dsimp only)) | (k_end; kc_close) | ((fail_if_success (with_reducible show wpAny _ _ (exec (Stmt.While _ _ _ _) _) _ _ _)); (fail_if_success (with_reducible show wpAny _ _ (exec (Stmt.For _ _ _ _ _) _) _ _ _)); (fail_if_success (with_reducible show wpAny _ _ (eval (Expr.ListComp _ _ _ _) _) _ _ _)); (fail_if_success (with_reducible show wpAny _ _ (exec (Stmt.Assign _ (Expr.ListComp _ _ _ _) _) _) _ _ _)); (fail_if_success (with_reducible show wpAny _ _ (pyIter _) _ _ _)); (fail_if_success (with_reducible show LCg.CompSrc _ _ _ _ _ _ _ _ _ _ _ _ _ _)); (first | walk1 | (dsimp only; walk1))) | (leave1; walk_say "STEP leave1"; (try dsimp only)) | fail "no step"))
local macro_rules | `(tactic| walk_at "subscriptTail Constant str BinOp") => `(tactic| ((with_reducible show wpAny _ _ (subscriptTail _ _ (Value.str _ _) (Value.int _ _)) _ _ _); (refine' itemD_S ?hx ?h0 ?h1 ?hl ?_); (case hx => ktr_rel); (case h0 => first | decide | omega | exact fmod_lo _ (by decide)); (case h1 => first | decide | omega | exact fmod_hi _ (by decide)); (case hl => first | decide | omega | (simp only [List.length_append, List.length_cons, List.length_nil, List.length_replicate, List.length_map]; omega)); intro _ _))
local macro_rules | `(tactic| walk_at "subscriptTail") => `(tactic| ((with_reducible show wpAny _ _ (subscriptTail _ _ (Value.str _ _) (Value.int _ _)) _ _ _); (refine' itemD_S ?hx ?h0 ?h1 ?hl ?_); (case hx => ktr_rel); (case h0 => first | decide | omega | exact fmod_lo _ (by decide)); (case h1 => first | decide | omega | exact fmod_hi _ (by decide)); (case hl => first | decide | omega | (simp only [List.length_append, List.length_cons, List.length_nil, List.length_replicate, List.length_map]; omega)); intro _ _))
local macro_rules | `(tactic| walk_at "subscriptTail Name Constant str int") => `(tactic| ((with_reducible show wpAny _ _ (subscriptTail _ _ (Value.str _ _) (Value.int 0 _)) _ _ _); (refine' item0_S ?hx ?hl ?_); (case hx => ktr_rel); (case hl => first | decide | omega | (simp only [List.length_append, List.length_cons, List.length_nil, List.length_replicate, List.length_map]; omega)); intro _ _))
local macro_rules | `(tactic| walk_at "subscriptTail") => `(tactic| ((with_reducible show wpAny _ _ (subscriptTail _ _ (Value.str _ _) (Value.int 0 _)) _ _ _); (refine' item0_S ?hx ?hl ?_); (case hx => ktr_rel); (case hl => first | decide | omega | (simp only [List.length_append, List.length_cons, List.length_nil, List.length_replicate, List.length_map]; omega)); intro _ _))
local macro_rules | `(tactic| walk_at "subscriptTail Name Slice str ref") => `(tactic| ((with_reducible show wpAny _ _ (subscriptTail _ (Expr.Slice (some _) none none _) (Value.str _ _) (Value.ref _)) _ _ _); (with_reducible rename Fr _ _ _ _ => F'); (with_reducible rename News _ _ _ _ => N'); (refine' tail_S (s := ⟨_, _, _, _, _⟩) ?hx ?hl F' N' ?_); (case hx => ktr_rel); (case hl => first | decide | omega | (simp only [List.length_append, List.length_cons, List.length_nil, List.length_replicate, List.length_map]; omega)); intro _ _ _ _ _))
local macro_rules | `(tactic| walk_at "subscriptTail") => `(tactic| ((with_reducible show wpAny _ _ (subscriptTail _ (Expr.Slice (some _) none none _) (Value.str _ _) (Value.ref _)) _ _ _); (with_reducible rename Fr _ _ _ _ => F'); (with_reducible rename News _ _ _ _ => N'); (refine' tail_S (s := ⟨_, _, _, _, _⟩) ?hx ?hl F' N' ?_); (case hx => ktr_rel); (case hl => first | decide | omega | (simp only [List.length_append, List.length_cons, List.length_nil, List.length_replicate, List.length_map]; omega)); intro _ _ _ _ _))
local macro_rules | `(tactic| walk_at "call builtin:len cons nil") => `(tactic| ((with_reducible show wpAny _ _ (call (Value.builtin "len") [Value.str _ _]) _ _ _); (refine' len_S ?hx ?hl ?_); (case hx => ktr_rel); (case hl => first | decide | omega | (simp only [List.length_append, List.length_cons, List.length_nil, List.length_replicate, List.length_map]; omega)); intro _ _))
local macro_rules | `(tactic| walk_at "call builtin:len") => `(tactic| ((with_reducible show wpAny _ _ (call (Value.builtin "len") [Value.str _ _]) _ _ _); (refine' len_S ?hx ?hl ?_); (case hx => ktr_rel); (case hl => first | decide | omega | (simp only [List.length_append, List.length_cons, List.length_nil, List.length_replicate, List.length_map]; omega)); intro _ _))
local macro_rules | `(tactic| walk_at "binaryOp Add str str") => `(tactic| ((refine' add_S ?hx ?hy ?hl ?_); (case hx => ktr_rel); (case hy => ktr_rel); (case hl => first | decide | omega | (simp only [List.length_append, List.length_cons, List.length_nil, List.length_replicate, List.length_map]; omega)); intro _ _))
local macro_rules | `(tactic| walk_at "inplaceOp Add str str") => `(tactic| ((refine' iadd_S ?hx ?hy ?hl ?_); (case hx => ktr_rel); (case hy => ktr_rel); (case hl => first | decide | omega | (simp only [List.length_append, List.length_cons, List.length_nil, List.length_replicate, List.length_map]; omega)); intro _ _))
local macro_rules | `(tactic| walk_at "binaryOp Mult str int") => `(tactic| ((refine' mul_S ?hx ?hl ?h0 ?_); (case hx => ktr_rel); (case hl => omega); (case h0 => omega); intro _ _))
local macro_rules | `(tactic| walk_at "compareOp Eq str str") => `(tactic| ((refine' eq_S ?hx ?hy ?_); (case hx => ktr_rel); (case hy => ktr_rel)))
local macro_rules | `(tactic| walk_at "compareOp NotEq str str") => `(tactic| ((refine' ne_S ?hx ?hy ?_); (case hx => ktr_rel); (case hy => ktr_rel)))
local macro_rules | `(tactic| walk_at "compareOp In str str") => `(tactic| ((refine' in_S ?hx ?hy ?_); (case hx => ktr_rel); (case hy => ktr_rel)))
local macro_rules | `(tactic| walk_at "compareOp NotIn str str") => `(tactic| ((refine' notin_S ?hx ?hy ?_); (case hx => ktr_rel); (case hy => ktr_rel)))
local macro_rules | `(tactic| walk_at "truthy str") => `(tactic| ((refine' truthy_S ?hx ?hl ?_); (case hx => ktr_rel); (case hl => first | decide | omega | (simp only [List.length_append, List.length_cons, List.length_nil, List.length_replicate, List.length_map]; omega)); intro _))
local macro_rules | `(tactic| walk_at "call type:int cons nil") => `(tactic| ((with_reducible show wpAny _ _ (call (Value.type "int") [Value.str _ _]) _ _ _); (refine' int_S ?hx ?hc ?_); (case hx => ktr_rel); (case hc => omega); intro _ _))
local macro_rules | `(tactic| walk_at "call type:int") => `(tactic| ((with_reducible show wpAny _ _ (call (Value.type "int") [Value.str _ _]) _ _ _); (refine' int_S ?hx ?hc ?_); (case hx => ktr_rel); (case hc => omega); intro _ _))
local macro_rules | `(tactic| walk_at "compareOp Is bytes ref") => `(tactic| (refine wpAny_is_other (by rfl) (by intro x; cases x) ?_))
local macro_rules | `(tactic| walk_at "truthy str") => `(tactic| first | ((refine truthy_Sn (by with_reducible first | rfl | exact lit_nil) ?_); intro _) | ((refine truthy_Sc (by with_reducible first | rfl | exact lit_star) (by first | decide | omega | (simp only [List.length_append, List.length_cons, List.length_nil, List.length_replicate, List.length_map] at *; omega)) ?_); intro _))

theorem figures_use : ∀ {w : World} {mean : ExcName → Option Value} {mg mb : Str → Option Value} (dp un : Nat) (gd : Option (List Code)) (cn : Str) (cs : Scope) (a : Addr) (ccd : Value) (cl : List (Str × Addr)) (outer : List Env) (A₀ : Around) (base h₀ : Heap) (L : Addr) (m : Str → Option Value) (news : List (Addr × Obj)) (s : Shared) (N b k : Int) (t1 t2 t3 : Tok)
    (Q E : Value → Shared → Prop) (_ : Below A₀ base outer h₀) (_ : Fr h₀ L s.heap m) (_ : (hd.heap_39 w.params).In h₀) (_ : News h₀ L s.heap news) (_ : Top hd.view_39 (looseW hd.view_39 [Str.ofString "noValue", Str.ofString "Value", Str.ofString "Integer32", Str.ofString "OctetString", Str.ofString "SmiError", Str.ofString "TextualConvention", Str.ofString "HintedString", Str.ofString "HintedInteger", Str.ofString "TestAndIncr", Str.ofString "RowStatus"]) mean mg mb h₀) (_ : cs.kind = .function)
    (_ : 0 ≤ N) (_ : N < 65536) (_ : 2 ≤ b) (_ : b ≤ 16) (_ : 0 ≤ k) (_ : k ≤ 3) (_ : dp + 1 < recursionLimit) (_ : un + 8 < cLine)
    (_ : ∀ (t : Tok) (h' : Heap) (tk' : Nat), Fr h₀ L h' m → News h₀ L h' news → Q (.str (S (List.replicate (k.toNat - (figL b.toNat N.toNat).length) 48 ++ figL b.toNat N.toNat)) t) { s with heap := h', toks := tk' }),
    wpAny (model Challenge.rw_am6029_01.row.prog w) (ktrTop dp un gd cn cs L a ccd cl outer) (call (.ref 409) [.int N t1, .int b t2, .int k t3]) Q E s := by
  intro w mean mg mb dp un gd cn cs a ccd cl outer A₀ base h₀ L m news s N b k t1 t2 t3 Q E B F X N0 T hk h1 h2 h3 h4 h5 h6 hd hu hret
  have e1 : N = (N.toNat : Int) := by omega
  have e2 : b = (b.toNat : Int) := by omega
  have e3 : k = (k.toNat : Int) := by omega
  have := figures_spec dp un gd cn cs a ccd cl outer A₀ base h₀ L m news s N.toNat b.toNat k.toNat t1 t2 t3 Q E B F X N0 T hk (by omega) (by omega) (by omega) (by omega) hd hu hret
  rw [← e1, ← e2, ← e3] at this
  exact this
def valN (rs : List Nat) : Nat := rs.foldl (fun a x => 256 * a + x) 0
def itemL (wy : Nat) (rs : List Nat) : List Nat := if wy = 3 then rs else
  let b := [16, 10, 8].getD wy 0
  let d := figL b (valN rs)
  List.replicate ([2, 1, 3].getD wy 0 - d.length) 48 ++ d
local macro_rules | `(tactic| walk_at "call ref") => `(tactic| ((with_reducible show wpAny _ _ (call (Value.ref 409) _) _ _ _); k_dflt (refine' figures_use _ _ _ _ _ _ _ _ _ _ _ _ _ _ _ _ _ _ _ _ _ _ _ _ ?k1 ?k2 ?k3 ?k4 ?k5 ?kK ?a1 ?a2 ?a3 ?a4 ?a5 ?a6 ?kd ?ku ?kR; (case k1 => k_asm); (case k2 => k_asm); (case k3 => k_asm); (case k4 => k_asm); (case k5 => k_asm); (case kK => first | exact rfl | assumption); (case a1 => omega); (case a2 => omega); (case a3 => omega); (case a4 => omega); (case a5 => omega); (case a6 => omega); (case kd => ktr_room); (case ku => ktr_units); intro t9 h9 tk9 F9 N9; (try dsimp only); (try k_fold))))
theorem join_item {wy : Int} {rs : List Nat} (hw : wy = 3) (hl : rs.length ≤ 2) : Txt.join (Str.ofString "") (List.map (fun a => S [a.toNat]) (List.map Int.ofNat rs)) = S (itemL wy.toNat rs) := by
  subst hw
  have e : itemL (3 : Int).toNat rs = rs := rfl
  rw [e]
  rcases rs with _ | ⟨a, _ | ⟨b, _ | ⟨c, r⟩⟩⟩
  · decide
  · rfl
  · rfl
  · simp only [List.length_cons] at hl; omega
theorem valN_lt {rs : List Nat} (hl : rs.length ≤ 2) (h : ∀ x ∈ rs, x < 256) : valN rs < 65536 := by
  rcases rs with _ | ⟨a, _ | ⟨b, _ | ⟨c, r⟩⟩⟩
  · decide
  · have := h a (.head _); show 256 * 0 + a < 65536; omega
  · have := h a (.head _); have := h b (.tail _ (.head _)); show 256 * (256 * 0 + a) + b < 65536; omega
  · simp only [List.length_cons] at hl; omega
theorem menu_b {wy : Int} (h0 : 0 ≤ wy) (h4 : wy < 4) (h : wy ≠ 3) : 2 ≤ ([16, 10, 8] : List Int).getD wy.toNat 0 ∧ ([16, 10, 8] : List Int).getD wy.toNat 0 ≤ 16 := by
  rcases (by omega : wy = 0 ∨ wy = 1 ∨ wy = 2) with rfl | rfl | rfl <;> decide
theorem menu_c {wy : Int} (h0 : 0 ≤ wy) (h4 : wy < 4) (h : wy ≠ 3) : 0 ≤ ([2, 1, 3] : List Int).getD wy.toNat 0 ∧ ([2, 1, 3] : List Int).getD wy.toNat 0 ≤ 3 := by
  rcases (by omega : wy = 0 ∨ wy = 1 ∨ wy = 2) with rfl | rfl | rfl <;> decide
theorem item_fig {wy : Int} {rs : List Nat} (h0 : 0 ≤ wy) (h4 : wy < 4) (h : wy ≠ 3) : S (List.replicate ((([2, 1, 3] : List Int).getD wy.toNat 0).toNat - (figL (([16, 10, 8] : List Int).getD wy.toNat 0).toNat ((valN rs : Nat) : Int).toNat).length) 48 ++ figL (([16, 10, 8] : List Int).getD wy.toNat 0).toNat ((valN rs : Nat) : Int).toNat) = S (itemL wy.toNat rs) := by
  rw [Int.toNat_natCast]
  rcases (by omega : wy = 0 ∨ wy = 1 ∨ wy = 2) with rfl | rfl | rfl <;> rfl
theorem item_spec : ∀ {w : World} {mean : ExcName → Option Value} {mg mb : Str → Option Value} (dp un : Nat) (gd : Option (List Code)) (cn : Str) (cs : Scope) (a : Addr) (ccd : Value) (cl : List (Str × Addr)) (outer : List Env) (A₀ : Around) (base h₀ : Heap) (L : Addr) (m : Str → Option Value) (news : List (Addr × Obj)) (s : Shared) (wy : Int) (tw : Tok) (r : Addr) (vs : List Value) (c : Nat) (rs : List Nat)
    (Q E : Value → Shared → Prop) (_ : Below A₀ base outer h₀) (_ : Fr h₀ L s.heap m) (_ : (hd.heap_39 w.params).In h₀) (_ : News h₀ L s.heap news) (_ : Top hd.view_39 (looseW hd.view_39 [Str.ofString "noValue", Str.ofString "Value", Str.ofString "Integer32", Str.ofString "OctetString", Str.ofString "SmiError", Str.ofString "TextualConvention", Str.ofString "HintedString", Str.ofString "HintedInteger", Str.ofString "TestAndIncr", Str.ofString "RowStatus"]) mean mg mb h₀) (_ : cs.kind = .function)
    (_ : (r, listOf vs.toArray c) ∈ news) (_ : IntsAre vs (rs.map Int.ofNat)) (_ : rs.length ≤ 2) (_ : ∀ x ∈ rs, x < 256) (_ : wy = 3 → ∀ x ∈ rs, x < 128) (_ : 0 ≤ wy) (_ : wy < 4)
    (_ : dp + 2 < recursionLimit) (_ : un + 20 < cLine)
    (_ : ∀ (t : Tok) (h' : Heap) (tk' : Nat), Fr h₀ L h' m → News h₀ L h' news → Q (.str (S (itemL wy.toNat rs)) t) { s with heap := h', toks := tk' }),
    wpAny (model Challenge.rw_am6029_01.row.prog w) (ktrTop dp un gd cn cs L a ccd cl outer) (call (.ref 414) [.int wy tw, .ref r]) Q E s := by
  k_fill
  intro w mean mg mb dp un gd cn cs a ccd cl outer A₀ base h₀ L m news s wy tw r vs c rs Q E B F X N T hk hmem hints hlen h256 h128 h0 h4 hd hu hret
  refine wpAny_call ?_
  k_dflt cell_enter
  rename Fr _ _ _ _ => F1
  obtain ⟨u, F2⟩ := fr_ex [(Str.ofString "way", .int wy tw), (Str.ofString "row", .ref r)] ⟨rfl, rfl, trivial⟩ F1
  clear F1
  dsimp only [pin] at F2
  ktr_unf
  · k_dflt (refine LCg.ListComp_U (F₀ := by k_asm) (by with_unfolding_all rfl) (by decide) (by rfl) (by decide) (by rfl) ?_)
    ktr_unf
    refine LCg.CompSrc.ledger (by rfl) (by k_asm) (by k_asm) hmem (by rw [List.size_toArray, IntsAre.length hints, List.length_map]; exact sl (by omega)) ?_
    intro g'
    refine kct_list (fun k => S [k.toNat]) hints ?_ ?_
    · intro k' t' I' oI' C' oC' D' m' ys' h' tk' E' hk' hC' hx' F' N' off' ne' hMark'
      have hk2 : 0 ≤ k' ∧ k' < 128 := by
        obtain ⟨x, hx, rfl⟩ := List.mem_map.mp hk'
        have := h128 (by assumption) x hx
        constructor
        · exact Int.natCast_nonneg _
        · exact Int.ofNat_lt.mpr this
      ktr_unf
      exact LCg.CompEnd.intro (by assumption) (by assumption) news (fun _ h => h) off' (Or.inr ⟨_, hmem, rfl, _, rfl⟩) ⟨rfl, _, rfl⟩
    · unfold KPfDone LCg.FinE
      intro ys hys hyl D h tk9 F9 N9 o9
      ktr_unf
      refine retS hret ?_ (by assumption) (by assumption) (fun p hp => .tail _ hp)
      exact join_item (by assumption) hlen
  · rename Fr _ _ _ _ => F1
    refine For_invVF F1 rfl rfl ?_
    ktr_unf
    rename News _ _ _ _ => N1
    refine for_ints (fun i m nx => nx = news ∧ ∃ t, Has m [(Str.ofString "number", .int (valN (rs.take i) : Int) t), (Str.ofString "way", .int wy tw), (Str.ofString "row", .ref r)]) rfl hmem hints F1 N1 ⟨rfl, _, ⟨rfl, rfl, rfl, trivial⟩⟩ ?_ ?_
    · clear F1 N1
      rintro i n t m1 nx h1 tk1 own hn hown hlm ⟨rfl, t4, e1⟩ F1 N1
      rw [← pin_eq e1] at F1
      dsimp only [pin] at F1
      obtain ⟨x, hx, rfl⟩ : ∃ x, rs[i]? = some x ∧ n = Int.ofNat x := by
        rw [List.getElem?_map] at hn
        cases h : rs[i]? with
        | none => rw [h] at hn; cases hn
        | some x => rw [h] at hn; exact ⟨x, rfl, (Option.some.inj hn).symm⟩
      ktr_unf
      have e : (valN (rs.take (i + 1)) : Int) = 256 * (valN (rs.take i) : Int) + Int.ofNat x := by
        unfold valN
        rw [List.take_add_one, hx]
        simp only [Option.toList_some, List.foldl_append, List.foldl_cons, List.foldl_nil]
        exact Int.natCast_add _ _
      exact ⟨_, _, _, _, nx, rfl, by assumption, by assumption, fun p hp => List.mem_append_left _ hp, fun p hp => List.mem_append_right _ hp, hown, hlm, rfl, _, ⟨by rw [e]; rfl, rfl, rfl, trivial⟩⟩
    · clear F1 N1
      rintro m1 nx h1 tk1 ⟨rfl, t4, e1⟩ F1 N1
      have F2 := fr_pins e1 F1
      clear F1
      dsimp only [pin] at F2
      rw [List.length_map, List.take_length] at F2
      have hw3 : wy ≠ 3 := by assumption
      have hv := valN_lt hlen h256
      have hb := menu_b h0 h4 hw3
      have hc := menu_c h0 h4 hw3
      ktr_unf
      refine retS hret ?_ (by assumption) (by assumption) (fun p hp => .tail _ (.tail _ hp))
      exact item_fig h0 h4 hw3

end
section
theorem freshF4 : True := by w_top off; exact True.intro

local macro_rules | `(tactic| ktr_rel) => `(tactic| with_reducible first | rfl | assumption | exact lit_fig | exact lit_zero | exact lit_nil | exact lit_star | exact lit_dots | exact lit_coms | exact lit_xdoa | exact lit_dig | exact lit_a | exact lit_t | exact lit_x | exact lit_d | exact lit_o | exact lit_B | exact lit_integer | exact lit_string | exact lit_ascii | exact lit_ignore | exact lit_f02x | exact lit_f03o | exact lit_fd | exact lit_b | fail "no S")
local macro_rules | `(tactic| ktr_unf) => `(tactic| repeat' (first | (k_unfold; (try dsimp only)) | (k_end; kc_close) | ((fail_if_success (with_reducible show wpAny _ _ (exec (Stmt.While _ _ _ _) _) _ _ _)); (fail_if_success (with_reducible show wpAny _ _ (exec (Stmt.For _ _ _ _ _) _) _ _ _)); (fail_if_success (with_reducible show wpAny _ _ (eval (Expr.ListComp _ _ _ _) _) _ _ _)); (fail_if_success (with_reducible show wpAny _ _ (exec (Stmt.Assign _ (Expr.ListComp _ _ _ _) _) _) _ _ _)); (fail_if_success (with_reducible show wpAny _ _ (pyIter _) _ _ _)); (fail_if_success (with_reducible show LCg.CompSrc _ _ _ _ _ _ _ _ _ _ _ _ _ _)); (first | walk1 | (dsimp only; walk1))) | (leave1; walk_say "STEP leave1"; (try dsimp only)) | fail "no step"))
local macro_rules | `(tactic| walk_at "subscriptTail Constant str BinOp") => `(tactic| ((with_reducible show wpAny _ _ (subscriptTail _ _ (Value.str _ _) (Value.int _ _)) _ _ _); (refine' itemD_S ?hx ?h0 ?h1 ?hl ?_); (case hx => ktr_rel); (case h0 => first | decide | omega | exact fmod_lo _ (by decide)); (case h1 => first | decide | omega | exact fmod_hi _ (by decide)); (case hl => first | decide | omega | (simp only [List.length_append, List.length_cons, List.length_nil, List.length_replicate, List.length_map]; omega)); intro _ _))
local macro_rules | `(tactic| walk_at "subscriptTail") => `(tactic| ((with_reducible show wpAny _ _ (subscriptTail _ _ (Value.str _ _) (Value.int _ _)) _ _ _); (refine' itemD_S ?hx ?h0 ?h1 ?hl ?_); (case hx => ktr_rel); (case h0 => first | decide | omega | exact fmod_lo _ (by decide)); (case h1 => first | decide | omega | exact fmod_hi _ (by decide)); (case hl => first | decide | omega | (simp only [List.length_append, List.length_cons, List.length_nil, List.length_replicate, List.length_map]; omega)); intro _ _))
local macro_rules | `(tactic| walk_at "subscriptTail Name Constant str int") => `(tactic| ((with_reducible show wpAny _ _ (subscriptTail _ _ (Value.str _ _) (Value.int 0 _)) _ _ _); (refine' item0_S ?hx ?hl ?_); (case hx => ktr_rel); (case hl => first | decide | omega | (simp only [List.length_append, List.length_cons, List.length_nil, List.length_replicate, List.length_map]; omega)); intro _ _))
local macro_rules | `(tactic| walk_at "subscriptTail") => `(tactic| ((with_reducible show wpAny _ _ (subscriptTail _ _ (Value.str _ _) (Value.int 0 _)) _ _ _); (refine' item0_S ?hx ?hl ?_); (case hx => ktr_rel); (case hl => first | decide | omega | (simp only [List.length_append, List.length_cons, List.length_nil, List.length_replicate, List.length_map]; omega)); intro _ _))
local macro_rules | `(tactic| walk_at "subscriptTail Name Slice str ref") => `(tactic| ((with_reducible show wpAny _ _ (subscriptTail _ (Expr.Slice (some _) none none _) (Value.str _ _) (Value.ref _)) _ _ _); (with_reducible rename Fr _ _ _ _ => F'); (with_reducible rename News _ _ _ _ => N'); (refine' tail_S (s := ⟨_, _, _, _, _⟩) ?hx ?hl F' N' ?_); (case hx => ktr_rel); (case hl => first | decide | omega | (simp only [List.length_append, List.length_cons, List.length_nil, List.length_replicate, List.length_map]; omega)); intro _ _ _ _ _))
local macro_rules | `(tactic| walk_at "subscriptTail") => `(tactic| ((with_reducible show wpAny _ _ (subscriptTail _ (Expr.Slice (some _) none none _) (Value.str _ _) (Value.ref _)) _ _ _); (with_reducible rename Fr _ _ _ _ => F'); (with_reducible rename News _ _ _ _ => N'); (refine' tail_S (s := ⟨_, _, _, _, _⟩) ?hx ?hl F' N' ?_); (case hx => ktr_rel); (case hl => first | decide | omega | (simp only [List.length_append, List.length_cons, List.length_nil, List.length_replicate, List.length_map]; omega)); intro _ _ _ _ _))
local macro_rules | `(tactic| walk_at "call builtin:len cons nil") => `(tactic| ((with_reducible show wpAny _ _ (call (Value.builtin "len") [Value.str _ _]) _ _ _); (refine' len_S ?hx ?hl ?_); (case hx => ktr_rel); (case hl => first | decide | omega | (simp only [List.length_append, List.length_cons, List.length_nil, List.length_replicate, List.length_map]; omega)); intro _ _))
local macro_rules | `(tactic| walk_at "call builtin:len") => `(tactic| ((with_reducible show wpAny _ _ (call (Value.builtin "len") [Value.str _ _]) _ _ _); (refine' len_S ?hx ?hl ?_); (case hx => ktr_rel); (case hl => first | decide | omega | (simp only [List.length_append, List.length_cons, List.length_nil, List.length_replicate, List.length_map]; omega)); intro _ _))
local macro_rules | `(tactic| walk_at "binaryOp Add str str") => `(tactic| ((refine' add_S ?hx ?hy ?hl ?_); (case hx => ktr_rel); (case hy => ktr_rel); (case hl => first | decide | omega | (simp only [List.length_append, List.length_cons, List.length_nil, List.length_replicate, List.length_map]; omega)); intro _ _))
local macro_rules | `(tactic| walk_at "inplaceOp Add str str") => `(tactic| ((refine' iadd_S ?hx ?hy ?hl ?_); (case hx => ktr_rel); (case hy => ktr_rel); (case hl => first | decide | omega | (simp only [List.length_append, List.length_cons, List.length_nil, List.length_replicate, List.length_map]; omega)); intro _ _))
local macro_rules | `(tactic| walk_at "binaryOp Mult str int") => `(tactic| ((refine' mul_S ?hx ?hl ?h0 ?_); (case hx => ktr_rel); (case hl => omega); (case h0 => omega); intro _ _))
local macro_rules | `(tactic| walk_at "compareOp Eq str str") => `(tactic| ((refine' eq_S ?hx ?hy ?_); (case hx => ktr_rel); (case hy => ktr_rel)))
local macro_rules | `(tactic| walk_at "compareOp NotEq str str") => `(tactic| ((refine' ne_S ?hx ?hy ?_); (case hx => ktr_rel); (case hy => ktr_rel)))
local macro_rules | `(tactic| walk_at "compareOp In str str") => `(tactic| ((refine' in_S ?hx ?hy ?_); (case hx => ktr_rel); (case hy => ktr_rel)))
local macro_rules | `(tactic| walk_at "compareOp NotIn str str") => `(tactic| ((refine' notin_S ?hx ?hy ?_); (case hx => ktr_rel); (case hy => ktr_rel)))
local macro_rules | `(tactic| walk_at "truthy str") => `(tactic| ((refine' truthy_S ?hx ?hl ?_); (case hx => ktr_rel); (case hl => first | decide | omega | (simp only [List.length_append, List.length_cons, List.length_nil, List.length_replicate, List.length_map]; omega)); intro _))
local macro_rules | `(tactic| walk_at "call type:int cons nil") => `(tactic| ((with_reducible show wpAny _ _ (call (Value.type "int") [Value.str _ _]) _ _ _); (refine' int_S ?hx ?hc ?_); (case hx => ktr_rel); (case hc => omega); intro _ _))
local macro_rules | `(tactic| walk_at "call type:int") => `(tactic| ((with_reducible show wpAny _ _ (call (Value.type "int") [Value.str _ _]) _ _ _); (refine' int_S ?hx ?hc ?_); (case hx => ktr_rel); (case hc => omega); intro _ _))
local macro_rules | `(tactic| walk_at "compareOp Is bytes ref") => `(tactic| (refine wpAny_is_other (by rfl) (by intro x; cases x) ?_))
local macro_rules | `(tactic| walk_at "truthy str") => `(tactic| first | ((refine truthy_Sn (by with_reducible first | rfl | exact lit_nil) ?_); intro _) | ((refine truthy_Sc (by with_reducible first | rfl | exact lit_star) (by first | decide | omega | (simp only [List.length_append, List.length_cons, List.length_nil, List.length_replicate, List.length_map] at *; omega)) ?_); intro _))

local macro_rules | `(tactic| k_room) => `(tactic| ktr_room)
def objD (w : World) (hint v : Value) (k1 k2 : Tok) : List DictEntry := [{ hash := PyData.keyHash w.params (Str.ofString "displayHint"), key := Value.str (Str.ofString "displayHint") k1, val := hint }, { hash := PyData.keyHash w.params (Str.ofString "value"), key := Value.str (Str.ofString "value") k2, val := v }]
theorem init_spec : ∀ {w : World} {mean : ExcName → Option Value} {mg mb : Str → Option Value} (dp un : Nat) (gd : Option (List Code)) (cn : Str) (nm : List (Str × NameKind)) (ig ic : Bool) (mo : List (Str × Const)) (a : Addr) (ccd : Value) (cl : List (Str × Addr)) (outer : List Env) (A₀ : Around) (base h₀ : Heap) (L : Addr) (m : Str → Option Value) (news : List (Addr × Obj)) (s : Shared) (hint : Str) (t : Tok)
    (Q E : Value → Shared → Prop) (_ : Below A₀ base outer h₀) (_ : Fr h₀ L s.heap m) (_ : (hd.heap_39 w.params).In h₀) (_ : News h₀ L s.heap news) (_ : Top hd.view_39 (looseW hd.view_39 [Str.ofString "noValue", Str.ofString "Value", Str.ofString "Integer32", Str.ofString "OctetString", Str.ofString "SmiError", Str.ofString "TextualConvention", Str.ofString "HintedString", Str.ofString "HintedInteger", Str.ofString "TestAndIncr", Str.ofString "RowStatus"]) mean mg mb h₀) (_ : dp + 8 < recursionLimit) (_ : un + 40 < cLine)
    (_ : ∀ (x d : Addr) (k1 k2 : Tok) (h' : Heap) (tk' : Nat), (∀ p ∈ news, p.1 < d) → d < x → Fr h₀ L h' m → News h₀ L h' ((x, instObj 313 d) :: (d, dictOf (objD w (.str hint t) (.ref 63) k1 k2) 2) :: news) → Q (.ref x) { s with heap := h', toks := tk' }),
    wpAny (model Challenge.rw_am6029_01.row.prog w) (ktrTop dp un gd cn (Scope.mk ScopeKind.function nm ig ic mo) L a ccd cl outer) (call (.ref 313) [.str hint t]) Q E s := by
  k_fill
  intro w mean mg mb dp un gd cn nm ig ic mo a ccd cl outer A₀ base h₀ L m news s hint t Q E B F X N T hd hu hret
  ktr_unf
  exact hret _ _ _ _ _ _ (by assumption) (by assumption) (by assumption) (by assumption)

end
section
theorem freshF5 : True := by w_top off; exact True.intro

local macro_rules | `(tactic| ktr_rel) => `(tactic| with_reducible first | rfl | assumption | exact lit_fig | exact lit_zero | exact lit_nil | exact lit_star | exact lit_dots | exact lit_coms | exact lit_xdoa | exact lit_dig | exact lit_a | exact lit_t | exact lit_x | exact lit_d | exact lit_o | exact lit_B | exact lit_integer | exact lit_string | exact lit_ascii | exact lit_ignore | exact lit_f02x | exact lit_f03o | exact lit_fd | exact lit_b | fail "no S")
local macro_rules | `(tactic| ktr_unf) => `(tactic| repeat' (first | (k_unfold; (try dsimp only)) | (k_end; kc_close) | ((fail_if_success (with_reducible show wpAny _ _ (exec (Stmt.While _ _ _ _) _) _ _ _)); (fail_if_success (with_reducible show wpAny _ _ (exec (Stmt.For _ _ _ _ _) _) _ _ _)); (fail_if_success (with_reducible show wpAny _ _ (eval (Expr.ListComp _ _ _ _) _) _ _ _)); (fail_if_success (with_reducible show wpAny _ _ (exec (Stmt.Assign _ (Expr.ListComp _ _ _ _) _) _) _ _ _)); (fail_if_success (with_reducible show wpAny _ _ (pyIter _) _ _ _)); (fail_if_success (with_reducible show LCg.CompSrc _ _ _ _ _ _ _ _ _ _ _ _ _ _)); (first | walk1 | (dsimp only; walk1))) | (leave1; walk_say "STEP leave1"; (try dsimp only)) | fail "no step"))
local macro_rules | `(tactic| walk_at "subscriptTail Constant str BinOp") => `(tactic| ((with_reducible show wpAny _ _ (subscriptTail _ _ (Value.str _ _) (Value.int _ _)) _ _ _); (refine' itemD_S ?hx ?h0 ?h1 ?hl ?_); (case hx => ktr_rel); (case h0 => first | decide | omega | exact fmod_lo _ (by decide)); (case h1 => first | decide | omega | exact fmod_hi _ (by decide)); (case hl => first | decide | omega | (simp only [List.length_append, List.length_cons, List.length_nil, List.length_replicate, List.length_map]; omega)); intro _ _))
local macro_rules | `(tactic| walk_at "subscriptTail") => `(tactic| ((with_reducible show wpAny _ _ (subscriptTail _ _ (Value.str _ _) (Value.int _ _)) _ _ _); (refine' itemD_S ?hx ?h0 ?h1 ?hl ?_); (case hx => ktr_rel); (case h0 => first | decide | omega | exact fmod_lo _ (by decide)); (case h1 => first | decide | omega | exact fmod_hi _ (by decide)); (case hl => first | decide | omega | (simp only [List.length_append, List.length_cons, List.length_nil, List.length_replicate, List.length_map]; omega)); intro _ _))
local macro_rules | `(tactic| walk_at "subscriptTail Name Constant str int") => `(tactic| ((with_reducible show wpAny _ _ (subscriptTail _ _ (Value.str _ _) (Value.int 0 _)) _ _ _); (refine' item0_S ?hx ?hl ?_); (case hx => ktr_rel); (case hl => first | decide | omega | (simp only [List.length_append, List.length_cons, List.length_nil, List.length_replicate, List.length_map]; omega)); intro _ _))
local macro_rules | `(tactic| walk_at "subscriptTail") => `(tactic| ((with_reducible show wpAny _ _ (subscriptTail _ _ (Value.str _ _) (Value.int 0 _)) _ _ _); (refine' item0_S ?hx ?hl ?_); (case hx => ktr_rel); (case hl => first | decide | omega | (simp only [List.length_append, List.length_cons, List.length_nil, List.length_replicate, List.length_map]; omega)); intro _ _))
local macro_rules | `(tactic| walk_at "subscriptTail Name Slice str ref") => `(tactic| ((with_reducible show wpAny _ _ (subscriptTail _ (Expr.Slice (some _) none none _) (Value.str _ _) (Value.ref _)) _ _ _); (with_reducible rename Fr _ _ _ _ => F'); (with_reducible rename News _ _ _ _ => N'); (refine' tail_S (s := ⟨_, _, _, _, _⟩) ?hx ?hl F' N' ?_); (case hx => ktr_rel); (case hl => first | decide | omega | (simp only [List.length_append, List.length_cons, List.length_nil, List.length_replicate, List.length_map]; omega)); intro _ _ _ _ _))
local macro_rules | `(tactic| walk_at "subscriptTail") => `(tactic| ((with_reducible show wpAny _ _ (subscriptTail _ (Expr.Slice (some _) none none _) (Value.str _ _) (Value.ref _)) _ _ _); (with_reducible rename Fr _ _ _ _ => F'); (with_reducible rename News _ _ _ _ => N'); (refine' tail_S (s := ⟨_, _, _, _, _⟩) ?hx ?hl F' N' ?_); (case hx => ktr_rel); (case hl => first | decide | omega | (simp only [List.length_append, List.length_cons, List.length_nil, List.length_replicate, List.length_map]; omega)); intro _ _ _ _ _))
local macro_rules | `(tactic| walk_at "call builtin:len cons nil") => `(tactic| ((with_reducible show wpAny _ _ (call (Value.builtin "len") [Value.str _ _]) _ _ _); (refine' len_S ?hx ?hl ?_); (case hx => ktr_rel); (case hl => first | decide | omega | (simp only [List.length_append, List.length_cons, List.length_nil, List.length_replicate, List.length_map]; omega)); intro _ _))
local macro_rules | `(tactic| walk_at "call builtin:len") => `(tactic| ((with_reducible show wpAny _ _ (call (Value.builtin "len") [Value.str _ _]) _ _ _); (refine' len_S ?hx ?hl ?_); (case hx => ktr_rel); (case hl => first | decide | omega | (simp only [List.length_append, List.length_cons, List.length_nil, List.length_replicate, List.length_map]; omega)); intro _ _))
local macro_rules | `(tactic| walk_at "binaryOp Add str str") => `(tactic| ((refine' add_S ?hx ?hy ?hl ?_); (case hx => ktr_rel); (case hy => ktr_rel); (case hl => first | decide | omega | (simp only [List.length_append, List.length_cons, List.length_nil, List.length_replicate, List.length_map]; omega)); intro _ _))
local macro_rules | `(tactic| walk_at "inplaceOp Add str str") => `(tactic| ((refine' iadd_S ?hx ?hy ?hl ?_); (case hx => ktr_rel); (case hy => ktr_rel); (case hl => first | decide | omega | (simp only [List.length_append, List.length_cons, List.length_nil, List.length_replicate, List.length_map]; omega)); intro _ _))
local macro_rules | `(tactic| walk_at "binaryOp Mult str int") => `(tactic| ((refine' mul_S ?hx ?hl ?h0 ?_); (case hx => ktr_rel); (case hl => omega); (case h0 => omega); intro _ _))
local macro_rules | `(tactic| walk_at "compareOp Eq str str") => `(tactic| ((refine' eq_S ?hx ?hy ?_); (case hx => ktr_rel); (case hy => ktr_rel)))
local macro_rules | `(tactic| walk_at "compareOp NotEq str str") => `(tactic| ((refine' ne_S ?hx ?hy ?_); (case hx => ktr_rel); (case hy => ktr_rel)))
local macro_rules | `(tactic| walk_at "compareOp In str str") => `(tactic| ((refine' in_S ?hx ?hy ?_); (case hx => ktr_rel); (case hy => ktr_rel)))
local macro_rules | `(tactic| walk_at "compareOp NotIn str str") => `(tactic| ((refine' notin_S ?hx ?hy ?_); (case hx => ktr_rel); (case hy => ktr_rel)))
local macro_rules | `(tactic| walk_at "truthy str") => `(tactic| ((refine' truthy_S ?hx ?hl ?_); (case hx => ktr_rel); (case hl => first | decide | omega | (simp only [List.length_append, List.length_cons, List.length_nil, List.length_replicate, List.length_map]; omega)); intro _))
local macro_rules | `(tactic| walk_at "call type:int cons nil") => `(tactic| ((with_reducible show wpAny _ _ (call (Value.type "int") [Value.str _ _]) _ _ _); (refine' int_S ?hx ?hc ?_); (case hx => ktr_rel); (case hc => omega); intro _ _))
local macro_rules | `(tactic| walk_at "call type:int") => `(tactic| ((with_reducible show wpAny _ _ (call (Value.type "int") [Value.str _ _]) _ _ _); (refine' int_S ?hx ?hc ?_); (case hx => ktr_rel); (case hc => omega); intro _ _))
local macro_rules | `(tactic| walk_at "compareOp Is bytes ref") => `(tactic| (refine wpAny_is_other (by rfl) (by intro x; cases x) ?_))
local macro_rules | `(tactic| walk_at "truthy str") => `(tactic| first | ((refine truthy_Sn (by with_reducible first | rfl | exact lit_nil) ?_); intro _) | ((refine truthy_Sc (by with_reducible first | rfl | exact lit_star) (by first | decide | omega | (simp only [List.length_append, List.length_cons, List.length_nil, List.length_replicate, List.length_map] at *; omega)) ?_); intro _))

local macro_rules | `(tactic| k_room) => `(tactic| ktr_room)
local macro_rules | `(tactic| walk_at "call type:bytes") => `(tactic| ((with_reducible show wpAny _ _ (call (Value.type "bytes") [Value.bytes _ _]) _ _ _); refine call_bytes_bytes ?_))
def objV (w : World) (v : Value) (k : Tok) : List DictEntry := [{ hash := PyData.keyHash w.params (Str.ofString "value"), key := Value.str (Str.ofString "value") k, val := v }]
theorem octet_spec : ∀ {w : World} {mean : ExcName → Option Value} {mg mb : Str → Option Value} (dp un : Nat) (gd : Option (List Code)) (cn : Str) (nm : List (Str × NameKind)) (ig ic : Bool) (mo : List (Str × Const)) (a : Addr) (ccd : Value) (cl : List (Str × Addr)) (outer : List Env) (A₀ : Around) (base h₀ : Heap) (L : Addr) (m : Str → Option Value) (news : List (Addr × Obj)) (s : Shared) (b : List UInt8) (t : Tok)
    (Q E : Value → Shared → Prop) (_ : Below A₀ base outer h₀) (_ : Fr h₀ L s.heap m) (_ : (hd.heap_39 w.params).In h₀) (_ : News h₀ L s.heap news) (_ : Top hd.view_39 (looseW hd.view_39 [Str.ofString "noValue", Str.ofString "Value", Str.ofString "Integer32", Str.ofString "OctetString", Str.ofString "SmiError", Str.ofString "TextualConvention", Str.ofString "HintedString", Str.ofString "HintedInteger", Str.ofString "TestAndIncr", Str.ofString "RowStatus"]) mean mg mb h₀) (_ : dp + 8 < recursionLimit) (_ : un + 40 < cLine) (_ : b.length ≤ 60000)
    (_ : ∀ (x d : Addr) (k : Tok) (h' : Heap) (tk' : Nat), (∀ p ∈ news, p.1 < d) → d < x → Fr h₀ L h' m → News h₀ L h' ((x, instObj 227 d) :: (d, dictOf (objV w (.bytes b.toArray t) k) 1) :: news) → Q (.ref x) { s with heap := h', toks := tk' }),
    wpAny (model Challenge.rw_am6029_01.row.prog w) (ktrTop dp un gd cn (Scope.mk ScopeKind.function nm ig ic mo) L a ccd cl outer) (call (.ref 227) [.bytes b.toArray t]) Q E s := by
  k_fill
  intro w mean mg mb dp un gd cn nm ig ic mo a ccd cl outer A₀ base h₀ L m news s b t Q E B F X N T hd hu hb hret
  ktr_unf
  k_dflt (refine ListComp_B (F₀ := by k_asm) (by with_unfolding_all rfl) (by decide) (by rfl) (by decide) (by rfl) ?_)
  ktr_unf
  refine ⟨_, _, _, rfl, rfl, by assumption, by assumption, by rw [List.size_toArray]; exact sl (by omega), ?_⟩
  rintro s2 ⟨h2, rfl⟩
  refine rest_none ?_ ?_ _ _
  · intro v i I oI C oC D m2 h tk E' hv hC hx F9 N9 off
    obtain ⟨n, u, hn, rfl⟩ := hv
    have hn0 : 0 ≤ (n.toNat : Int) := Int.natCast_nonneg _
    have hn1 : (n.toNat : Int) ≤ 255 := by have := n.toNat_lt; omega
    ktr_unf
    exact ⟨by rw [decide_eq_true hn1]; rfl, _, _, rfl, by assumption, by assumption⟩
  · unfold LCg.FinE
    intro D h9 tk9 F9 N9 o9
    simp only [LCg.Off1] at o9
    ktr_unf
    exact hret _ _ _ _ _ (by assumption) (by assumption) (by assumption) (fun p hp => by rename News _ _ _ _ => N9; exact N9 p (.tail _ hp))

end
section
theorem freshB3 : True := by w_top off; exact True.intro
section
open PySem.Builtin PySem.Builtin.Str
theorem digitChar_figD : ∀ n : Nat, n < 16 → (Nat.digitChar n).toNat = figD n := by decide
theorem toDigits_figL (b : Nat) (hb : 2 ≤ b) (hb2 : b ≤ 16) (n : Nat) (hn : 0 < n) : (Nat.toDigits b n).map Char.toNat = figL b n := by
  induction n using Nat.strongRecOn with
  | _ n ih =>
    unfold figL
    rw [dif_pos ⟨hb, hn⟩]
    by_cases h : n < b
    · rw [Nat.toDigits_of_lt_base h, Nat.div_eq_of_lt h, Nat.mod_eq_of_lt h]
      have e : figL b 0 = [] := by unfold figL; rw [dif_neg (by omega)]
      rw [e, List.nil_append, List.map_cons, List.map_nil, digitChar_figD n (by omega)]
    · have hm : n % b < b := Nat.mod_lt n (by omega)
      have hq : 0 < n / b := Nat.div_pos (by omega) (by omega)
      have t : Nat.toDigits b (n / b) ++ Nat.toDigits b (n % b) = Nat.toDigits b (b * (n / b) + n % b) := Nat.toDigits_append_toDigits (by omega) hq hm
      rw [Nat.div_add_mod] at t
      rw [← t, List.map_append, ih (n / b) (Nat.div_lt_self hn hb) hq, Nat.toDigits_of_lt_base hm, List.map_cons, List.map_nil, digitChar_figD _ (by omega)]
def decL (b n : Nat) : List Nat := if n = 0 then [48] else figL b n
theorem toDigits_decL (b : Nat) (hb : 2 ≤ b) (hb2 : b ≤ 16) (n : Nat) : (Nat.toDigits b n).map Char.toNat = decL b n := by
  unfold decL
  by_cases h : n = 0
  · rw [if_pos h, h, Nat.toDigits_of_lt_base (by omega)]; rfl
  · rw [if_neg h]; exact toDigits_figL b hb hb2 n (by omega)
theorem figL_in (b : Nat) (hb2 : b ≤ 16) (n : Nat) : ∀ c ∈ figL b n, 48 ≤ c ∧ c ≤ 102 := by
  induction n using Nat.strongRecOn with
  | _ n ih =>
    unfold figL
    by_cases h : 2 ≤ b ∧ 0 < n
    · rw [dif_pos h]
      intro c hc
      rcases List.mem_append.mp hc with hc | hc
      · exact ih (n / b) (Nat.div_lt_self h.2 h.1) c hc
      · rw [List.mem_singleton.mp hc]
        have := Nat.mod_lt n (show 0 < b by omega)
        unfold figD; split <;> omega
    · rw [dif_neg h]; intro c hc; cases hc
theorem decL_in (b : Nat) (hb2 : b ≤ 16) (n : Nat) : ∀ c ∈ decL b n, 48 ≤ c ∧ c ≤ 102 := by
  unfold decL
  by_cases h : n = 0
  · rw [if_pos h]; intro c hc; rw [List.mem_singleton.mp hc]; omega
  · rw [if_neg h]; exact figL_in b hb2 n
theorem decL_len (b n : Nat) (hb : 2 ≤ b) (hn : n < 65536) : (decL b n).length ≤ 16 := by
  unfold decL
  by_cases h : n = 0
  · rw [if_pos h]; decide
  · rw [if_neg h]; exact figL_len b n 16 hb hn
def fpX (k ty : Nat) : Percent := { zero := true, width := some k, type := ty }
theorem field_x {k ty : Nat} {d : List Nat} (hty : ty = 120 ∨ ty = 111) (hd : ∀ c ∈ d, 48 ≤ c ∧ c ≤ 102) :
    percentInt (fpX k ty) false d = d ∧ percentField (fpX k ty) true d = if k ≤ d.length then none else some (List.replicate (k - d.length) 48 ++ d) := by
  refine ⟨by unfold percentInt fpX; rcases hty with rfl | rfl <;> simp, ?_⟩
  unfold percentField
  by_cases h : k ≤ d.length
  · rw [if_pos h, if_pos]
    simp [fpX, h]
  · rw [if_neg h, if_neg]
    · rcases d with _ | ⟨c, r⟩
      · rcases hty with rfl | rfl <;> simp [fpX]
      · have hc := hd c (.head _)
        have h45 : c ≠ 45 := by omega
        have h43 : c ≠ 43 := by omega
        rcases hty with rfl | rfl <;> simp [fpX, h45, h43]
    · simp [fpX]; omega
theorem meets_xo {i : Int} {t u : Tok} (k ty bs : Nat) (hk : k = 2 ∧ ty = 120 ∧ bs = 16 ∨ k = 3 ∧ ty = 111 ∧ bs = 8) (h0 : 0 ≤ i) (h1 : i < 65536) : Meets (Builtin.«str.__mod__» ⟨[.str ⟨#[37, 48, 48 + k, ty]⟩ t, .int i u], []⟩) (fun _ R s => ∀ t' k', R (.ok (.ret (.str (S (List.replicate (k - (decL bs i.toNat).length) 48 ++ decL bs i.toNat)) t'))) { s with toks := k' }) := by
  have hin := decL_in bs (by omega) i.toNat
  have hln := decL_len bs i.toNat (by omega) (by omega)
  have hdg := toDigits_decL bs (by omega) (by omega) i.toNat
  have hab : i.natAbs = i.toNat := by omega
  generalize decL bs i.toNat = D at hin hln hdg ⊢
  have hf := field_x (k := k) (ty := ty) (by omega) hin
  have hneg : decide (i < 0) = false := decide_eq_false (by omega)
  have hbd : ∀ j, j ≤ 3 → 0 + (S (List.replicate (j - D.length) 48 ++ D)).length ≤ 16777216 := by
    intro j hj
    rw [S_len, List.length_append, List.length_replicate]; omega
  apply KPc.meets_of
  intro _ _ _ _ _ _ hQ
  rw [KPc.entry_is]
  unfold Builtin.Str.percentFormat
  refine wpAny_bind (wpAny_isInstance (typeIs_int _ _ _) F.sub_int_tuple ?_)
  refine wpAny_bind (wpAny_of_eq (a := none) rfl ?_)
  refine wpAny_bind (wpAny_of_eq (KPc.fills _ _) ?_)
  kpc_if
  refine wpAny_bind (wpAny_pure ?_)
  refine wpAny_bind ?_
  rw [KPc.range_list]
  refine KPc.start ?_
  intro w' hg
  rcases hk with ⟨rfl, rfl, rfl⟩ | ⟨rfl, rfl, rfl⟩
  all_goals
    refine KPc.turn ?_
    kpc_check
    (repeat kpc_if)
    refine wpAny_bind ?_
    refine wpAny_holding ?_
    (repeat kpc_if)
    refine wpAny_bind (wpAny_of_eq (a := i) rfl ?_)
    (repeat kpc_if)
    refine wpAny_pure ?_
  · show wpAny _ _ (match percentField (fpX 2 120) true (percentInt (fpX 2 120) (decide (i < 0)) ((Nat.toDigits 16 i.natAbs).map Char.toNat)) with | none => _ | some laid => _) _ _ _
    rw [hneg, hab, hdg, hf.1, hf.2]
    by_cases h : 2 ≤ D.length
    · rw [if_pos h]
      refine wpAny_pure ?_
      refine KPc.after_add0 (y := S (List.replicate (2 - D.length) 48 ++ D)) hg ?_ (by kpc_obj) ?_
      · show Str.mk (percentInt (fpX 2 120) false D).toArray = S _
        rw [hf.1, Nat.sub_eq_zero_of_le h]
        rfl
      · intro w2 g2
        refine KPc.turn ?_
        refine wpAny_ite (KPc.ite_no (KPc.short_good g2 (hbd _ (by decide))) ?_)
        (repeat kpc_if)
        refine wpAny_pure ?_
        kpc_if
        exact KPc.finish_ok g2 (hbd _ (by decide)) rfl hQ
    · rw [if_neg h]
      refine wpAny_pure ?_
      refine KPc.after_add0 (y := S (List.replicate (2 - D.length) 48 ++ D)) hg rfl (by kpc_obj) ?_
      intro w2 g2
      refine KPc.turn ?_
      refine wpAny_ite (KPc.ite_no (KPc.short_good g2 (hbd _ (by decide))) ?_)
      (repeat kpc_if)
      refine wpAny_pure ?_
      kpc_if
      exact KPc.finish_ok g2 (hbd _ (by decide)) rfl hQ
  · show wpAny _ _ (match percentField (fpX 3 111) true (percentInt (fpX 3 111) (decide (i < 0)) ((Nat.toDigits 8 i.natAbs).map Char.toNat)) with | none => _ | some laid => _) _ _ _
    rw [hneg, hab, hdg, hf.1, hf.2]
    by_cases h : 3 ≤ D.length
    · rw [if_pos h]
      refine wpAny_pure ?_
      refine KPc.after_add0 (y := S (List.replicate (3 - D.length) 48 ++ D)) hg ?_ (by kpc_obj) ?_
      · show Str.mk (percentInt (fpX 3 111) false D).toArray = S _
        rw [hf.1, Nat.sub_eq_zero_of_le h]
        rfl
      · intro w2 g2
        refine KPc.turn ?_
        refine wpAny_ite (KPc.ite_no (KPc.short_good g2 (hbd _ (by decide))) ?_)
        (repeat kpc_if)
        refine wpAny_pure ?_
        kpc_if
        exact KPc.finish_ok g2 (hbd _ (by decide)) rfl hQ
    · rw [if_neg h]
      refine wpAny_pure ?_
      refine KPc.after_add0 (y := S (List.replicate (3 - D.length) 48 ++ D)) hg rfl (by kpc_obj) ?_
      intro w2 g2
      refine KPc.turn ?_
      refine wpAny_ite (KPc.ite_no (KPc.short_good g2 (hbd _ (by decide))) ?_)
      (repeat kpc_if)
      refine wpAny_pure ?_
      kpc_if
      exact KPc.finish_ok g2 (hbd _ (by decide)) rfl hQ
end
section
variable {prog : Program} {w : World} {A : Around} {E : Value → Shared → Prop} {s : Shared} {x : Str} {t u : Tok} {i : Int} {Q : Value → Shared → Prop}
theorem mod_x (h0 : 0 ≤ i) (h1 : i < 65536) (h : ∀ t' k, Q (.str (S (List.replicate (2 - (decL 16 i.toNat).length) 48 ++ decL 16 i.toNat)) t') { s with toks := k }) : wpAny (model prog w) A (binaryOp .Mod (.str (Str.ofString "%02x") t) (.int i u)) Q E s :=
  KPc.mod_lit (X' := ⟨#[37, 48, 48 + 2, 120]⟩) (by decide +kernel) (shown (N := 2 ^ 1920) (by omega) (by omega) (Int.le_refl _)) (fun _ _ => meets_xo 2 120 16 (.inl ⟨rfl, rfl, rfl⟩) h0 h1) h
theorem mod_o (h0 : 0 ≤ i) (h1 : i < 65536) (h : ∀ t' k, Q (.str (S (List.replicate (3 - (decL 8 i.toNat).length) 48 ++ decL 8 i.toNat)) t') { s with toks := k }) : wpAny (model prog w) A (binaryOp .Mod (.str (Str.ofString "%03o") t) (.int i u)) Q E s :=
  KPc.mod_lit (X' := ⟨#[37, 48, 48 + 3, 111]⟩) (by decide +kernel) (shown (N := 2 ^ 1920) (by omega) (by omega) (Int.le_refl _)) (fun _ _ => meets_xo 3 111 8 (.inr ⟨rfl, rfl, rfl⟩) h0 h1) h
theorem dec_text (n : Nat) : Str.ofString (toString ((n : Nat) : Int)) = S (decL 10 n) := by
  have h := KIN.signs_num n
  rw [toDigits_decL 10 (by decide) (by decide) n] at h
  have e : (Str.ofString (toString ((n : Nat) : Int))).cps = (decL 10 n).toArray := by rw [← h]
  exact congrArg Str.mk e
end

end
section
theorem freshB4 : True := by w_top off; exact True.intro
local macro_rules | `(tactic| walk_at "pad of mine") => `(tactic| fail "a pad")
section
open PySem.Builtin
set_option maxRecDepth 100000
theorem run_ascii1 {id : String} (a : UInt8) (ha : a.toNat < 128) :
    _codecs.runDecoder id _codecs.asciiDecoder (some (Str.ofString "ignore")) true [a].toArray 0 [] = pure ((S [a.toNat]).cps, 1) := by
  unfold _codecs.runDecoder
  dsimp only
  rw [KPc.range_list]
  have e0 : (List.range' 0 [a].toArray.size 1) = [0] := rfl
  rw [e0, List.forIn_cons]
  dsimp only
  have g0 : ¬ ((#[] : Array Nat).size > sizeLine) := Nat.not_lt_zero _
  have f0 : _codecs.asciiDecoder.find true [a].toArray 0 = .text [a.toNat] 1 := by
    show (if a.toNat < 128 then _ else _) = _
    rw [if_pos ha]; rfl
  rw [if_neg g0, if_neg (by simp), f0]
  rfl
theorem run_ascii2 {id : String} (a b : UInt8) (ha : a.toNat < 128) (hb : b.toNat < 128) :
    _codecs.runDecoder id _codecs.asciiDecoder (some (Str.ofString "ignore")) true [a, b].toArray 0 [] = pure ((S [a.toNat, b.toNat]).cps, 2) := by
  unfold _codecs.runDecoder
  dsimp only
  rw [KPc.range_list]
  have e0 : (List.range' 0 [a, b].toArray.size 1) = [0, 1] := rfl
  rw [e0, List.forIn_cons]
  dsimp only
  have g0 : ¬ ((#[] : Array Nat).size > sizeLine) := Nat.not_lt_zero _
  have g1 : ¬ ((#[] ++ [a.toNat].toArray : Array Nat).size > sizeLine) := by rw [sizeLine_eq]; simp
  have f0 : _codecs.asciiDecoder.find true [a, b].toArray 0 = .text [a.toNat] 1 := by
    show (if a.toNat < 128 then _ else _) = _
    rw [if_pos ha]; rfl
  have f1 : _codecs.asciiDecoder.find true [a, b].toArray 1 = .text [b.toNat] 2 := by
    show (if b.toNat < 128 then _ else _) = _
    rw [if_pos hb]; rfl
  rw [if_neg g0, if_neg (by simp), f0]
  dsimp only
  rw [pure_bind]
  dsimp only
  rw [List.forIn_cons]
  dsimp only
  rw [if_neg g1, if_neg (by simp), f1]
  rfl
theorem entry_dec (c : UInt8) (cs : List UInt8) (t t1 t2 : Tok) : «bytes.decode» ⟨[.bytes (c :: cs).toArray t, .str (Str.ofString "ascii") t1, .str (Str.ofString "ignore") t2], []⟩ =
    (mkStr (Str.ofString "utf-8") >>= fun _ => mkStr (Str.ofString "ascii") >>= fun e => mkStr (Str.ofString "ignore") >>= fun g => mkStr (Str.ofString "bytes.decode") >>= fun d =>
    call (.builtin "_codecs.decode.text") [.bytes (c :: cs).toArray t, e, g, d] >>= fun v => ret v) := by kernel_rfl
theorem entry_dec0 (t t1 t2 : Tok) : «bytes.decode» ⟨[.bytes ([] : List UInt8).toArray t, .str (Str.ofString "ascii") t1, .str (Str.ofString "ignore") t2], []⟩ =
    (rule "bytes.decode.empty" >>= fun _ => retStr Str.empty) := by kernel_rfl
theorem road_ascii {id : String} {b : Array UInt8} : _codecs.decodeRoad id b (PySem.Str.ofString "ascii") (some (Str.ofString "ignore")) [] = (_codecs.runDecoder id _codecs.asciiDecoder (some (Str.ofString "ignore")) true b 0 [] >>= fun r => mkStr ⟨r.1⟩) := by kernel_rfl
end
theorem args_dec3 (a b c : Value) : argsOk "bytes.decode" ⟨[a, b, c], []⟩ := by unfold argsOk; kernel_rfl
section
open Builtin
variable {b : Array UInt8} {c : UInt8} {cs : List UInt8} {t : Tok} {x : PySem.Str} {n : Nat}
theorem meets_textA {t1 t2 t3 : Tok} {d : PySem.Str} (hd : ∀ id, _codecs.runDecoder id _codecs.asciiDecoder (some (Str.ofString "ignore")) true b 0 [] = pure (x.cps, n)) :
    Meets («_codecs.decode.text» ⟨[.bytes b t, .str (PySem.Str.ofString "ascii") t1, .str (Str.ofString "ignore") t3, .str d t2], []⟩) (fun _ R s => x.length ≤ sizeLine ∧ R (.ok (.ret (.str x s.toks))) { s with toks := s.toks + 1 }) := by
  refine .of_wp fun prog w A R s hS => ?_
  obtain ⟨hsz, h⟩ := hS
  show wpAny _ _ (Bytes.bytesLike _ (.bytes b t) >>= fun r => _) _ _ s
  refine wpAny_bind (wpAny_of_eq KBd.like_eq ?_)
  refine wpAny_bind (wpAny_of_eq KBd.held_eq ?_)
  show wpAny _ _ (_codecs.decodeRoad _ b (PySem.Str.ofString "ascii") (some (Str.ofString "ignore")) [] >>= fun v => _) _ _ s
  rw [road_ascii, hd]
  refine wpAny_bind (wpAny_bind (wpAny_pure ?_))
  exact wpAny_mkStr (wpAny_pure ⟨_, rfl, h⟩) hsz
theorem meets_decA {t1 t2 : Tok} (hd : ∀ id, _codecs.runDecoder id _codecs.asciiDecoder (some (Str.ofString "ignore")) true (c :: cs).toArray 0 [] = pure (x.cps, n)) :
    Meets («bytes.decode» ⟨[.bytes (c :: cs).toArray t, .str (Str.ofString "ascii") t1, .str (Str.ofString "ignore") t2], []⟩) (fun _ R s => x.length ≤ sizeLine ∧ ∀ t' k, R (.ok (.ret (.str x t'))) { s with toks := k }) := by
  refine .of_wp fun prog w A R s hS => ?_
  obtain ⟨hsz, h⟩ := hS
  rw [entry_dec]
  refine wpAny_bind (wpAny_mkStr ?_ (by decide))
  refine wpAny_bind (wpAny_mkStr ?_ (by decide))
  refine wpAny_bind (wpAny_mkStr ?_ (by decide))
  refine wpAny_bind (wpAny_mkStr ?_ (by decide))
  exact wpAny_bind (call_function_meets KBd.kind_text KBd.plain_text KBd.entry_text (KBd.args_text _ _ _ _) (meets_textA hd) ⟨hsz, wpAny_pure ⟨_, rfl, h _ _⟩⟩)
theorem meets_decA0 {t1 t2 : Tok} : Meets («bytes.decode» ⟨[.bytes ([] : List UInt8).toArray t, .str (Str.ofString "ascii") t1, .str (Str.ofString "ignore") t2], []⟩) (fun _ R s => ∀ t' k, R (.ok (.ret (.str (S []) t'))) { s with toks := k }) := by
  refine .of_wp fun prog w A R s h => ?_
  rw [entry_dec0]
  refine wpAny_bind (wpAny_rule ?_)
  unfold retStr
  exact wpAny_bind (wpAny_mkStr (wpAny_pure ⟨_, rfl, h _ _⟩) (by decide))
end
section
variable {prog : Program} {w : World} {A : Around} {E : Value → Shared → Prop} {s : Shared} {l : List UInt8} {c : UInt8} {t t1 t2 u : Tok} {value slice : PySem.Expr} {i : Int} {h₀ : Heap} {L : Addr} {m : Str → Option Value} {news : List (Addr × Obj)}
theorem decode_B {Q : Value → Shared → Prop} (hl : l.length ≤ 2) (hc : ∀ c ∈ l, c.toNat < 128) (h : ∀ t' k, Q (.str (S (l.map (·.toNat))) t') { s with toks := k }) :
    wpAny (model prog w) A (call (.builtin "bytes.decode") [.bytes l.toArray t, .str (Str.ofString "ascii") t1, .str (Str.ofString "ignore") t2]) Q E s := by
  rcases l with _ | ⟨a, _ | ⟨b, _ | ⟨c, r⟩⟩⟩
  · exact call_meets FB.slot_bytes_decode (typeIs_bytes _ _ _) FB.entry_bytes_decode (args_dec3 _ _ _) meets_decA0 h
  · exact call_meets FB.slot_bytes_decode (typeIs_bytes _ _ _) FB.entry_bytes_decode (args_dec3 _ _ _) (meets_decA (x := S [a.toNat]) fun id => run_ascii1 a (hc a (.head _))) ⟨by rw [S_len]; exact sl (by simp), h⟩
  · exact call_meets FB.slot_bytes_decode (typeIs_bytes _ _ _) FB.entry_bytes_decode (args_dec3 _ _ _) (meets_decA (x := S [a.toNat, b.toNat]) fun id => run_ascii2 a b (hc a (.head _)) (hc b (.tail _ (.head _)))) ⟨by rw [S_len]; exact sl (by simp), h⟩
  · simp only [List.length_cons] at hl; omega
theorem truthy_B {Q : Bool → Shared → Prop} (hl : l.length ≤ 100000) (h : ∀ k, Q (decide (l ≠ [])) { s with toks := k }) : wpAny (model prog w) A (truthy (.bytes l.toArray t)) Q E s := by
  refine truthy_bytes (by rw [List.size_toArray]; omega) ?_
  have : ((l.toArray.size : Int) != 0) = decide (l ≠ []) := by
    cases l with
    | nil => rfl
    | cons c l => simp; omega
  rw [this]; exact h _
theorem truthy_Bc {Q : Bool → Shared → Prop} (hl : (c :: l).length ≤ 100000) (h : ∀ k, Q true { s with toks := k }) : wpAny (model prog w) A (truthy (.bytes (c :: l).toArray t)) Q E s := truthy_B hl h
theorem truthy_Bn {Q : Bool → Shared → Prop} (h : ∀ k, Q false { s with toks := k }) : wpAny (model prog w) A (truthy (.bytes (List.toArray []) t)) Q E s := truthy_B (l := []) (by decide) h
theorem len_B {Q : Value → Shared → Prop} (hl : l.length ≤ 100000) (h : ∀ t' k, Q (.int l.length t') { s with toks := k }) : wpAny (model prog w) A (call (.builtin "len") [.bytes l.toArray t]) Q E s := by
  refine len_bytes (by rw [List.size_toArray]; omega) ?_
  rw [List.size_toArray]; exact h _ _
theorem item0_B {Q : Value → Shared → Prop} (hl : l.length ≤ 100000) (h : ∀ t' k, Q (.int (c.toNat : Int) t') { s with toks := k })
    (hs : subscripted slice false (.bytes (c :: l).toArray t) (.int 0 u) = operate [.bytes (c :: l).toArray t, .int 0 u] (getItem (.bytes (c :: l).toArray t) (.int 0 u)) := by with_unfolding_all rfl)
    (ht : ∀ r, letTemporaryGo value (.bytes (c :: l).toArray t) r = pure () := by intro _; with_unfolding_all rfl) :
    wpAny (model prog w) A (subscriptTail value slice (.bytes (c :: l).toArray t) (.int 0 u)) Q E s := by
  refine tail_of_ItemOn ⟨"bytes", _, FB.slot_bytes_getitem.lookup, typeIs_bytes _ _ _, ?_⟩ hs ht
  exact getItem_gives (typeIs_bytes s _ t) (by decide) FB.slot_bytes_getitem FB.entry_bytes_getitem (FB.args_bytes_getitem_2 _ _) (gives_bytes_getitem _ 0 t u c (by decide) (by simp [seqIndex?])) (h _ _)
theorem head_B {Q : Value → Shared → Prop} (hF : Fr h₀ L s.heap m) (hN : News h₀ L s.heap news) (h0 : 0 ≤ i) (hl : l.length ≤ 100000)
    (h : ∀ h' t' k, Fr h₀ L h' m → News h₀ L h' news → Q (.bytes (l.take i.toNat).toArray t') { s with heap := h', toks := k })
    (hs : subscripted slice false (.bytes l.toArray t) (.ref s.heap.objs.size) = operate [.ref s.heap.objs.size, .bytes l.toArray t] (getItem (.bytes l.toArray t) (.ref s.heap.objs.size)) := by with_unfolding_all rfl)
    (ht : ∀ r, letTemporaryGo value (.bytes l.toArray t) r = pure () := by intro _; with_unfolding_all rfl) :
    wpAny (model prog w) A (subscriptTail value slice (.bytes l.toArray t) (.ref s.heap.objs.size)) Q E { s with heap := s.heap.push { cls := .type "slice", data := .fields #[.none, .int i u, .none] } } := by
  refine KBc.slice_K (lo := none) (hi := some i) hF hN rfl (by constructor) (by constructor) (by rw [KBw.ints_length, List.size_toArray]; omega) (fun h' t' k F' N' _ => ?_) hs ht
  have e : KBy.picked l.toArray none (some i) = (l.take i.toNat).toArray := by
    rw [KBc.picked_eq]
    obtain ⟨n, rfl⟩ := Int.eq_ofNat_of_zero_le h0
    simp only [Option.elim, clipAt_nat, List.drop_zero, Nat.sub_zero, List.size_toArray, Int.toNat_natCast]
    congr 1
    rcases Nat.le_total n l.length with h | h
    · rw [Nat.min_eq_left h]
    · rw [Nat.min_eq_right h, List.take_of_length_le (Nat.le_refl _), List.take_of_length_le h]
  rw [e]; exact h _ _ _ F' N'
theorem drop_B {Q : Value → Shared → Prop} (hF : Fr h₀ L s.heap m) (hN : News h₀ L s.heap news) (h0 : 0 ≤ i) (hl : l.length ≤ 100000)
    (h : ∀ h' t' k, Fr h₀ L h' m → News h₀ L h' news → Q (.bytes (l.drop i.toNat).toArray t') { s with heap := h', toks := k })
    (hs : subscripted slice false (.bytes l.toArray t) (.ref s.heap.objs.size) = operate [.ref s.heap.objs.size, .bytes l.toArray t] (getItem (.bytes l.toArray t) (.ref s.heap.objs.size)) := by with_unfolding_all rfl)
    (ht : ∀ r, letTemporaryGo value (.bytes l.toArray t) r = pure () := by intro _; with_unfolding_all rfl) :
    wpAny (model prog w) A (subscriptTail value slice (.bytes l.toArray t) (.ref s.heap.objs.size)) Q E { s with heap := s.heap.push { cls := .type "slice", data := .fields #[.int i u, .none, .none] } } := by
  refine KBc.slice_K (lo := some i) (hi := none) hF hN rfl (by constructor) (by constructor) (by rw [KBw.ints_length, List.size_toArray]; omega) (fun h' t' k F' N' _ => ?_) hs ht
  have e : KBy.picked l.toArray (some i) none = (l.drop i.toNat).toArray := by
    rw [KBc.picked_eq]
    obtain ⟨n, rfl⟩ := Int.eq_ofNat_of_zero_le h0
    simp only [Option.elim, clipAt_nat, List.size_toArray, Int.toNat_natCast]
    congr 1
    rcases Nat.le_total n l.length with h | h
    · rw [Nat.min_eq_left h, List.take_of_length_le (by rw [List.length_drop]; exact Nat.le_refl _)]
    · rw [Nat.min_eq_right h, Nat.sub_self, List.take_zero, List.drop_eq_nil_of_le h]
  rw [e]; exact h _ _ _ F' N'
end

end
section
theorem freshB5 : True := by w_top off; exact True.intro
theorem and_256 (k c : Nat) (h : c < 256) : (k * 256) &&& c = 0 := by
  apply Nat.eq_of_testBit_eq
  intro i
  rw [Nat.testBit_and, Nat.zero_testBit, show k * 256 = 2 ^ 8 * k from by omega, Nat.testBit_two_pow_mul]
  by_cases hi : 8 ≤ i
  · have : c.testBit i = false := Nat.testBit_lt_two_pow (Nat.lt_of_lt_of_le h (by
      calc 256 = 2 ^ 8 := rfl
        _ ≤ 2 ^ i := Nat.pow_le_pow_right (by decide) hi))
    rw [this, Bool.and_false]
  · simp [hi]
section
variable {prog : Program} {w : World} {A : Around} {E : Value → Shared → Prop} {s : Shared} {t u : Tok} {k c : Nat} {Q : Value → Shared → Prop}
theorem shl8 (hk : k < 65536) (h : ∀ t' j, Q (.int ((k * 256 : Nat) : Int) t') { s with toks := j }) : wpAny (model prog w) A (inplaceOp .LShift (.int (k : Int) t) (.int 8 u)) Q E s := by
  refine ilshift_int_small (by decide) (by decide) (by omega) ?_
  have e : (k : Int) * 2 ^ (8 : Int).toNat = ((k * 256 : Nat) : Int) := by
    show (k : Int) * 256 = _
    omega
  rw [e]; exact h _ _
theorem or8 (hc : c < 256) (h : ∀ t' j, Q (.int ((256 * k + c : Nat) : Int) t') { s with toks := j }) : wpAny (model prog w) A (inplaceOp .BitOr (.int ((k * 256 : Nat) : Int) t) (.int (c : Int) u)) Q E s := by
  refine ior_int ?_
  have e : Builtin.bitOr ((k * 256 : Nat) : Int) (c : Int) = ((256 * k + c : Nat) : Int) := by
    rw [bitOr_and, bitAnd_pp (Int.natCast_nonneg _) (Int.natCast_nonneg _), Int.toNat_natCast, Int.toNat_natCast, and_256 k c hc]
    omega
  rw [e]; exact h _ _
end

end
section
theorem freshP0 : True := by w_top off; exact True.intro
local macro_rules | `(tactic| walk_at "pad of mine") => `(tactic| fail "a pad")
def nthS (l : List Stmt) (i : Nat) : Stmt := l.getD i (.Pass ⟨0, 0, 0, 0⟩)
def bodyS : Stmt → List Stmt
  | .ClassDef _ _ _ b _ _ _ _ _ _ _ => b
  | .FunctionDef _ _ b _ _ _ _ _ _ _ => b
  | .While _ b _ _ => b
  | .For _ _ b _ _ => b
  | .If _ b _ _ => b
  | .Try b _ _ _ _ => b
  | _ => []
def elseS : Stmt → List Stmt
  | .If _ _ o _ => o
  | _ => []
def scopeS : Stmt → Scope
  | .FunctionDef _ _ _ _ _ _ sc _ _ _ => sc
  | _ => default
def topS (i : Nat) : Stmt := nthS PySem.Challenge.pw_am6029_01.main.body i
def prettyS : Stmt := nthS (bodyS (topS 14)) 4
def pScope : Scope := scopeS prettyS
def pElif : List Stmt := bodyS (nthS (elseS (nthS (bodyS prettyS) 0)) 0)
def wOuter : Stmt := nthS pElif 3
def wDig : Stmt := nthS (bodyS wOuter) 2
def wRep : Stmt := nthS (bodyS wOuter) 10
def lScope : Scope := scopeS (topS 23)


end
section
theorem freshP1 : True := by w_top off; exact True.intro

local macro_rules | `(tactic| ktr_rel) => `(tactic| with_reducible first | rfl | assumption | exact lit_fig | exact lit_zero | exact lit_nil | exact lit_star | exact lit_dots | exact lit_coms | exact lit_xdoa | exact lit_dig | exact lit_a | exact lit_t | exact lit_x | exact lit_d | exact lit_o | exact lit_B | exact lit_integer | exact lit_string | exact lit_ascii | exact lit_ignore | exact lit_f02x | exact lit_f03o | exact lit_fd | exact lit_b | fail "no S")
local macro_rules | `(tactic| ktr_unf) => `(tactic| repeat' (first | (k_unfold; (try dsimp only)) | (k_end; kc_close) | ((fail_if_success (with_reducible show wpAny _ _ (exec (Stmt.While _ _ _ _) _) _ _ _)); (fail_if_success (with_reducible show wpAny _ _ (exec (Stmt.For _ _ _ _ _) _) _ _ _)); (fail_if_success (with_reducible show wpAny _ _ (eval (Expr.ListComp _ _ _ _) _) _ _ _)); (fail_if_success (with_reducible show wpAny _ _ (exec (Stmt.Assign _ (Expr.ListComp _ _ _ _) _) _) _ _ _)); (fail_if_success (with_reducible show wpAny _ _ (pyIter _) _ _ _)); (fail_if_success (with_reducible show LCg.CompSrc _ _ _ _ _ _ _ _ _ _ _ _ _ _)); (first | walk1 | (dsimp only; walk1))) | (leave1; walk_say "STEP leave1"; (try dsimp only)) | fail "no step"))
local macro_rules | `(tactic| walk_at "subscriptTail Constant str BinOp") => `(tactic| ((with_reducible show wpAny _ _ (subscriptTail _ _ (Value.str _ _) (Value.int _ _)) _ _ _); (refine' itemD_S ?hx ?h0 ?h1 ?hl ?_); (case hx => ktr_rel); (case h0 => first | decide | omega | exact fmod_lo _ (by decide)); (case h1 => first | decide | omega | exact fmod_hi _ (by decide)); (case hl => first | decide | omega | (simp only [List.length_append, List.length_cons, List.length_nil, List.length_replicate, List.length_map]; omega)); intro _ _))
local macro_rules | `(tactic| walk_at "subscriptTail") => `(tactic| ((with_reducible show wpAny _ _ (subscriptTail _ _ (Value.str _ _) (Value.int _ _)) _ _ _); (refine' itemD_S ?hx ?h0 ?h1 ?hl ?_); (case hx => ktr_rel); (case h0 => first | decide | omega | exact fmod_lo _ (by decide)); (case h1 => first | decide | omega | exact fmod_hi _ (by decide)); (case hl => first | decide | omega | (simp only [List.length_append, List.length_cons, List.length_nil, List.length_replicate, List.length_map]; omega)); intro _ _))
local macro_rules | `(tactic| walk_at "subscriptTail Name Constant str int") => `(tactic| ((with_reducible show wpAny _ _ (subscriptTail _ _ (Value.str _ _) (Value.int 0 _)) _ _ _); (refine' item0_S ?hx ?hl ?_); (case hx => ktr_rel); (case hl => first | decide | omega | (simp only [List.length_append, List.length_cons, List.length_nil, List.length_replicate, List.length_map]; omega)); intro _ _))
local macro_rules | `(tactic| walk_at "subscriptTail") => `(tactic| ((with_reducible show wpAny _ _ (subscriptTail _ _ (Value.str _ _) (Value.int 0 _)) _ _ _); (refine' item0_S ?hx ?hl ?_); (case hx => ktr_rel); (case hl => first | decide | omega | (simp only [List.length_append, List.length_cons, List.length_nil, List.length_replicate, List.length_map]; omega)); intro _ _))
local macro_rules | `(tactic| walk_at "subscriptTail Name Slice str ref") => `(tactic| ((with_reducible show wpAny _ _ (subscriptTail _ (Expr.Slice (some _) none none _) (Value.str _ _) (Value.ref _)) _ _ _); (with_reducible rename Fr _ _ _ _ => F'); (with_reducible rename News _ _ _ _ => N'); (refine' tail_S (s := ⟨_, _, _, _, _⟩) ?hx ?hl F' N' ?_); (case hx => ktr_rel); (case hl => first | decide | omega | (simp only [List.length_append, List.length_cons, List.length_nil, List.length_replicate, List.length_map]; omega)); intro _ _ _ _ _))
local macro_rules | `(tactic| walk_at "subscriptTail") => `(tactic| ((with_reducible show wpAny _ _ (subscriptTail _ (Expr.Slice (some _) none none _) (Value.str _ _) (Value.ref _)) _ _ _); (with_reducible rename Fr _ _ _ _ => F'); (with_reducible rename News _ _ _ _ => N'); (refine' tail_S (s := ⟨_, _, _, _, _⟩) ?hx ?hl F' N' ?_); (case hx => ktr_rel); (case hl => first | decide | omega | (simp only [List.length_append, List.length_cons, List.length_nil, List.length_replicate, List.length_map]; omega)); intro _ _ _ _ _))
local macro_rules | `(tactic| walk_at "call builtin:len cons nil") => `(tactic| ((with_reducible show wpAny _ _ (call (Value.builtin "len") [Value.str _ _]) _ _ _); (refine' len_S ?hx ?hl ?_); (case hx => ktr_rel); (case hl => first | decide | omega | (simp only [List.length_append, List.length_cons, List.length_nil, List.length_replicate, List.length_map]; omega)); intro _ _))
local macro_rules | `(tactic| walk_at "call builtin:len") => `(tactic| ((with_reducible show wpAny _ _ (call (Value.builtin "len") [Value.str _ _]) _ _ _); (refine' len_S ?hx ?hl ?_); (case hx => ktr_rel); (case hl => first | decide | omega | (simp only [List.length_append, List.length_cons, List.length_nil, List.length_replicate, List.length_map]; omega)); intro _ _))
local macro_rules | `(tactic| walk_at "binaryOp Add str str") => `(tactic| ((refine' add_S ?hx ?hy ?hl ?_); (case hx => ktr_rel); (case hy => ktr_rel); (case hl => first | decide | omega | (simp only [List.length_append, List.length_cons, List.length_nil, List.length_replicate, List.length_map]; omega)); intro _ _))
local macro_rules | `(tactic| walk_at "inplaceOp Add str str") => `(tactic| ((refine' iadd_S ?hx ?hy ?hl ?_); (case hx => ktr_rel); (case hy => ktr_rel); (case hl => first | decide | omega | (simp only [List.length_append, List.length_cons, List.length_nil, List.length_replicate, List.length_map]; omega)); intro _ _))
local macro_rules | `(tactic| walk_at "binaryOp Mult str int") => `(tactic| ((refine' mul_S ?hx ?hl ?h0 ?_); (case hx => ktr_rel); (case hl => omega); (case h0 => omega); intro _ _))
local macro_rules | `(tactic| walk_at "compareOp Eq str str") => `(tactic| ((refine' eq_S ?hx ?hy ?_); (case hx => ktr_rel); (case hy => ktr_rel)))
local macro_rules | `(tactic| walk_at "compareOp NotEq str str") => `(tactic| ((refine' ne_S ?hx ?hy ?_); (case hx => ktr_rel); (case hy => ktr_rel)))
local macro_rules | `(tactic| walk_at "compareOp In str str") => `(tactic| ((refine' in_S ?hx ?hy ?_); (case hx => ktr_rel); (case hy => ktr_rel)))
local macro_rules | `(tactic| walk_at "compareOp NotIn str str") => `(tactic| ((refine' notin_S ?hx ?hy ?_); (case hx => ktr_rel); (case hy => ktr_rel)))
local macro_rules | `(tactic| walk_at "truthy str") => `(tactic| ((refine' truthy_S ?hx ?hl ?_); (case hx => ktr_rel); (case hl => first | decide | omega | (simp only [List.length_append, List.length_cons, List.length_nil, List.length_replicate, List.length_map]; omega)); intro _))
local macro_rules | `(tactic| walk_at "call type:int cons nil") => `(tactic| ((with_reducible show wpAny _ _ (call (Value.type "int") [Value.str _ _]) _ _ _); (refine' int_S ?hx ?hc ?_); (case hx => ktr_rel); (case hc => omega); intro _ _))
local macro_rules | `(tactic| walk_at "call type:int") => `(tactic| ((with_reducible show wpAny _ _ (call (Value.type "int") [Value.str _ _]) _ _ _); (refine' int_S ?hx ?hc ?_); (case hx => ktr_rel); (case hc => omega); intro _ _))
local macro_rules | `(tactic| walk_at "compareOp Is bytes ref") => `(tactic| (refine wpAny_is_other (by rfl) (by intro x; cases x) ?_))
local macro_rules | `(tactic| walk_at "truthy str") => `(tactic| first | ((refine truthy_Sn (by with_reducible first | rfl | exact lit_nil) ?_); intro _) | ((refine truthy_Sc (by with_reducible first | rfl | exact lit_star) (by first | decide | omega | (simp only [List.length_append, List.length_cons, List.length_nil, List.length_replicate, List.length_map] at *; omega)) ?_); intro _))

local macro_rules | `(tactic| walk_at "truthy bytes") => `(tactic| (refine truthy_B (by first | omega | (simp only [List.length_append, List.length_cons, List.length_nil, List.length_take, List.length_drop]; omega)) ?_; intro _))
local macro_rules | `(tactic| walk_at "call builtin:len") => `(tactic| ((with_reducible show wpAny _ _ (call (Value.builtin "len") [Value.bytes (List.toArray _) _]) _ _ _); refine len_B (by first | omega | (simp only [List.length_append, List.length_cons, List.length_nil, List.length_take, List.length_drop]; omega)) ?_; intro _ _))
local macro_rules | `(tactic| walk_at "subscriptTail Name str Constant bytes int") => `(tactic| ((with_reducible show wpAny _ _ (subscriptTail _ _ (Value.bytes (List.toArray (_ :: _)) _) (Value.int 0 _)) _ _ _); refine item0_B (by first | omega | (simp only [List.length_append, List.length_cons, List.length_nil] at *; omega)) ?_; intro _ _))
local macro_rules | `(tactic| walk_at "subscriptTail Name Constant bytes int") => `(tactic| ((with_reducible show wpAny _ _ (subscriptTail _ _ (Value.bytes (List.toArray (_ :: _)) _) (Value.int 0 _)) _ _ _); refine item0_B (by first | omega | (simp only [List.length_append, List.length_cons, List.length_nil] at *; omega)) ?_; intro _ _))
local macro_rules | `(tactic| walk_at "subscriptTail") => `(tactic| ((with_reducible show wpAny _ _ (subscriptTail _ _ (Value.bytes (List.toArray (_ :: _)) _) (Value.int 0 _)) _ _ _); refine item0_B (by first | omega | (simp only [List.length_append, List.length_cons, List.length_nil] at *; omega)) ?_; intro _ _))
local macro_rules | `(tactic| walk_at "subscriptTail Name str Slice") => `(tactic| ((with_reducible show wpAny _ _ (subscriptTail _ (Expr.Slice none (some _) none _) (Value.bytes (List.toArray _) _) (Value.ref _)) _ _ _); (with_reducible rename Fr _ _ _ _ => F'); (with_reducible rename News _ _ _ _ => N'); (refine head_B (s := ⟨_, _, _, _, _⟩) F' N' (by first | decide | omega) (by first | omega | (simp only [List.length_append, List.length_cons, List.length_nil, List.length_take, List.length_drop] at *; omega)) ?_); intro _ _ _ _ _))
local macro_rules | `(tactic| walk_at "subscriptTail") => `(tactic| ((with_reducible show wpAny _ _ (subscriptTail _ (Expr.Slice none (some _) none _) (Value.bytes (List.toArray _) _) (Value.ref _)) _ _ _); (with_reducible rename Fr _ _ _ _ => F'); (with_reducible rename News _ _ _ _ => N'); (refine head_B (s := ⟨_, _, _, _, _⟩) F' N' (by first | decide | omega) (by first | omega | (simp only [List.length_append, List.length_cons, List.length_nil, List.length_take, List.length_drop] at *; omega)) ?_); intro _ _ _ _ _))
local macro_rules | `(tactic| walk_at "subscriptTail Name str Slice") => `(tactic| ((with_reducible show wpAny _ _ (subscriptTail _ (Expr.Slice (some _) none none _) (Value.bytes (List.toArray _) _) (Value.ref _)) _ _ _); (with_reducible rename Fr _ _ _ _ => F'); (with_reducible rename News _ _ _ _ => N'); (refine drop_B (s := ⟨_, _, _, _, _⟩) F' N' (by first | decide | omega) (by first | omega | (simp only [List.length_append, List.length_cons, List.length_nil, List.length_take, List.length_drop] at *; omega)) ?_); intro _ _ _ _ _))
local macro_rules | `(tactic| walk_at "subscriptTail") => `(tactic| ((with_reducible show wpAny _ _ (subscriptTail _ (Expr.Slice (some _) none none _) (Value.bytes (List.toArray _) _) (Value.ref _)) _ _ _); (with_reducible rename Fr _ _ _ _ => F'); (with_reducible rename News _ _ _ _ => N'); (refine drop_B (s := ⟨_, _, _, _, _⟩) F' N' (by first | decide | omega) (by first | omega | (simp only [List.length_append, List.length_cons, List.length_nil, List.length_take, List.length_drop] at *; omega)) ?_); intro _ _ _ _ _))
local macro_rules | `(tactic| walk_at "binaryOp Mod str int") => `(tactic| (first | ((with_reducible refine mod_x ?h0 ?h1 ?_); (case h0 => omega); (case h1 => omega); intro _ _) | ((with_reducible refine mod_o ?h0 ?h1 ?_); (case h0 => omega); (case h1 => omega); intro _ _)))
local macro_rules | `(tactic| walk_at "call builtin:bytes.decode") => `(tactic| ((with_reducible refine decode_B ?h0 ?h1 ?_); (case h0 => first | assumption | omega); (case h1 => assumption); intro _ _))
local macro_rules | `(tactic| walk_at "inplaceOp LShift int int") => `(tactic| ((refine shl8 (by omega) ?_); intro _ _))
local macro_rules | `(tactic| walk_at "inplaceOp BitOr int int") => `(tactic| ((refine or8 (by first | assumption | omega) ?_); intro _ _))
local macro_rules | `(tactic| walk_at "truthy bytes") => `(tactic| first | ((with_reducible refine truthy_Bn ?_); intro _) | ((with_reducible refine truthy_Bc ?hl ?_); (case hl => first | decide | omega | (simp only [List.length_append, List.length_cons, List.length_nil, List.length_replicate, List.length_map] at *; omega)); intro _))

def inX : Stmt := nthS (elseS (nthS (elseS (nthS (bodyS wRep) 1)) 0)) 0
def wNum : Stmt := nthS (bodyS inX) 2
theorem num_spec : ∀ {w : World} {mean : ExcName → Option Value} {mg mb : Str → Option Value} (dp un : Nat) (gd : Option (List Code)) (outer : List Env) (A₀ : Around) (base h₀ : Heap) (L : Addr) (m : Str → Option Value) (news : List (Addr × Obj)) (s : Shared) (r : List UInt8) (t1 t2 : Tok) (Q : Flow → Shared → Prop) (E : Value → Shared → Prop)
    (_ : Below A₀ base outer h₀) (_ : Fr h₀ L s.heap m) (_ : (hd.heap_39 w.params).In h₀) (_ : News h₀ L s.heap news) (_ : Top hd.view_39 (looseW hd.view_39 [Str.ofString "noValue", Str.ofString "Value", Str.ofString "Integer32", Str.ofString "OctetString", Str.ofString "SmiError", Str.ofString "TextualConvention", Str.ofString "HintedString", Str.ofString "HintedInteger", Str.ofString "TestAndIncr", Str.ofString "RowStatus"]) mean mg mb h₀)
    (_ : r.length ≤ 2) (_ : Has m [(Str.ofString "number", .int 0 t1), (Str.ofString "numberString", .bytes r.toArray t2)])
    (_ : PassesOwn (model Challenge.rw_am6029_01.row.prog w) (ktrTop dp un gd (Str.ofString "TextualConvention.prettyOut") pScope L 276 (Value.ref 275) [] outer) (envOf (Str.ofString "TextualConvention.prettyOut") pScope L 276 (Value.ref 275)) E)
    (_ : ∀ (h' : Heap) (tk : Nat) (m' : Str → Option Value) (t : Tok), Fr h₀ L h' m' → News h₀ L h' news → Has m' [(Str.ofString "number", .int (valN (r.map (·.toNat)) : Int) t)] → (∀ z, z ≠ Str.ofString "number" → z ≠ Str.ofString "numberString" → m' z = m z) → Q .next { s with heap := h', toks := tk }),
    wpAny (model Challenge.rw_am6029_01.row.prog w) (ktrTop dp un gd (Str.ofString "TextualConvention.prettyOut") pScope L 276 (Value.ref 275) [] outer) (exec wNum (envOf (Str.ofString "TextualConvention.prettyOut") pScope L 276 (Value.ref 275))) Q E s := by
  k_fill
  intro w mean mg mb dp un gd outer A₀ base h₀ L m news s r t1 t2 Q E B F X N T hr hm hE hret
  conv => arg 3; arg 1; whnf
  refine While_inv2 (fun μ m' nx => nx = news ∧ ∃ (r' : List UInt8) (k : Nat) (t1 t2 : Tok), Has m' [(Str.ofString "number", .int (k : Int) t1), (Str.ofString "numberString", .bytes r'.toArray t2)] ∧ (r'.length = μ ∧ μ ≤ 2 ∧ k < 256 ^ (2 - μ)) ∧ (r'.map (·.toNat)).foldl (fun a x => 256 * a + x) k = valN (r.map (·.toNat)) ∧ ∀ z, z ≠ Str.ofString "number" → z ≠ Str.ofString "numberString" → m' z = m z) F N ⟨rfl, r, 0, _, _, hm, ⟨rfl, hr, by have := Nat.pow_pos (n := 2 - r.length) (show 0 < 256 by decide); omega⟩, rfl, fun _ _ _ => rfl⟩ ?_ hE
  clear F N
  rintro μ m1 nx h1 tk1 F1 N1 ⟨rfl, r', k, t3, t4, e1, ⟨rfl, hmu, hk⟩, e2, e3⟩
  rw [← pin_eq e1] at F1
  dsimp only [pin] at F1
  rcases r' with _ | ⟨c, r'⟩
  · ktr_unf
    refine hret _ _ _ _ (by assumption) (by assumption) ⟨by rw [← e2]; rfl, trivial⟩ ?_
    intro z z1 z2
    simp only [z1, z2, if_false]
    exact e3 z z1 z2
  · have hc : c.toNat < 256 := c.toNat_lt
    have hk9 : k < 65536 := by
      have h9 : 256 ^ (2 - (c :: r').length) ≤ 256 ^ 2 := Nat.pow_le_pow_right (by decide) (by omega)
      omega
    ktr_unf
    refine ⟨_, _, _, _, r'.length, rfl, by assumption, by assumption, Nat.lt_succ_self _, rfl, r', 256 * k + c.toNat, _, _, ⟨rfl, rfl, trivial⟩, ⟨rfl, by simp only [List.length_cons] at hmu; omega, ?_⟩, e2, ?_⟩
    · have e9 : 2 - r'.length = (2 - (c :: r').length) + 1 := by simp only [List.length_cons] at hmu ⊢; omega
      rw [e9, Nat.pow_succ]; omega
    · intro z z1 z2
      simp only [z1, z2, if_false]
      exact e3 z z1 z2

end
section
theorem freshP2 : True := by w_top off; exact True.intro
local macro_rules | `(tactic| walk_at "pad of mine") => `(tactic| fail "a pad")

local macro_rules | `(tactic| ktr_rel) => `(tactic| with_reducible first | rfl | assumption | exact lit_fig | exact lit_zero | exact lit_nil | exact lit_star | exact lit_dots | exact lit_coms | exact lit_xdoa | exact lit_dig | exact lit_a | exact lit_t | exact lit_x | exact lit_d | exact lit_o | exact lit_B | exact lit_integer | exact lit_string | exact lit_ascii | exact lit_ignore | exact lit_f02x | exact lit_f03o | exact lit_fd | exact lit_b | fail "no S")
local macro_rules | `(tactic| ktr_unf) => `(tactic| repeat' (first | (k_unfold; (try dsimp only)) | (k_end; kc_close) | ((fail_if_success (with_reducible show wpAny _ _ (exec (Stmt.While _ _ _ _) _) _ _ _)); (fail_if_success (with_reducible show wpAny _ _ (exec (Stmt.For _ _ _ _ _) _) _ _ _)); (fail_if_success (with_reducible show wpAny _ _ (eval (Expr.ListComp _ _ _ _) _) _ _ _)); (fail_if_success (with_reducible show wpAny _ _ (exec (Stmt.Assign _ (Expr.ListComp _ _ _ _) _) _) _ _ _)); (fail_if_success (with_reducible show wpAny _ _ (pyIter _) _ _ _)); (fail_if_success (with_reducible show LCg.CompSrc _ _ _ _ _ _ _ _ _ _ _ _ _ _)); (first | walk1 | (dsimp only; walk1))) | (leave1; walk_say "STEP leave1"; (try dsimp only)) | fail "no step"))
local macro_rules | `(tactic| walk_at "subscriptTail Constant str BinOp") => `(tactic| ((with_reducible show wpAny _ _ (subscriptTail _ _ (Value.str _ _) (Value.int _ _)) _ _ _); (refine' itemD_S ?hx ?h0 ?h1 ?hl ?_); (case hx => ktr_rel); (case h0 => first | decide | omega | exact fmod_lo _ (by decide)); (case h1 => first | decide | omega | exact fmod_hi _ (by decide)); (case hl => first | decide | omega | (simp only [List.length_append, List.length_cons, List.length_nil, List.length_replicate, List.length_map]; omega)); intro _ _))
local macro_rules | `(tactic| walk_at "subscriptTail") => `(tactic| ((with_reducible show wpAny _ _ (subscriptTail _ _ (Value.str _ _) (Value.int _ _)) _ _ _); (refine' itemD_S ?hx ?h0 ?h1 ?hl ?_); (case hx => ktr_rel); (case h0 => first | decide | omega | exact fmod_lo _ (by decide)); (case h1 => first | decide | omega | exact fmod_hi _ (by decide)); (case hl => first | decide | omega | (simp only [List.length_append, List.length_cons, List.length_nil, List.length_replicate, List.length_map]; omega)); intro _ _))
local macro_rules | `(tactic| walk_at "subscriptTail Name Constant str int") => `(tactic| ((with_reducible show wpAny _ _ (subscriptTail _ _ (Value.str _ _) (Value.int 0 _)) _ _ _); (refine' item0_S ?hx ?hl ?_); (case hx => ktr_rel); (case hl => first | decide | omega | (simp only [List.length_append, List.length_cons, List.length_nil, List.length_replicate, List.length_map]; omega)); intro _ _))
local macro_rules | `(tactic| walk_at "subscriptTail") => `(tactic| ((with_reducible show wpAny _ _ (subscriptTail _ _ (Value.str _ _) (Value.int 0 _)) _ _ _); (refine' item0_S ?hx ?hl ?_); (case hx => ktr_rel); (case hl => first | decide | omega | (simp only [List.length_append, List.length_cons, List.length_nil, List.length_replicate, List.length_map]; omega)); intro _ _))
local macro_rules | `(tactic| walk_at "subscriptTail Name Slice str ref") => `(tactic| ((with_reducible show wpAny _ _ (subscriptTail _ (Expr.Slice (some _) none none _) (Value.str _ _) (Value.ref _)) _ _ _); (with_reducible rename Fr _ _ _ _ => F'); (with_reducible rename News _ _ _ _ => N'); (refine' tail_S (s := ⟨_, _, _, _, _⟩) ?hx ?hl F' N' ?_); (case hx => ktr_rel); (case hl => first | decide | omega | (simp only [List.length_append, List.length_cons, List.length_nil, List.length_replicate, List.length_map]; omega)); intro _ _ _ _ _))
local macro_rules | `(tactic| walk_at "subscriptTail") => `(tactic| ((with_reducible show wpAny _ _ (subscriptTail _ (Expr.Slice (some _) none none _) (Value.str _ _) (Value.ref _)) _ _ _); (with_reducible rename Fr _ _ _ _ => F'); (with_reducible rename News _ _ _ _ => N'); (refine' tail_S (s := ⟨_, _, _, _, _⟩) ?hx ?hl F' N' ?_); (case hx => ktr_rel); (case hl => first | decide | omega | (simp only [List.length_append, List.length_cons, List.length_nil, List.length_replicate, List.length_map]; omega)); intro _ _ _ _ _))
local macro_rules | `(tactic| walk_at "call builtin:len cons nil") => `(tactic| ((with_reducible show wpAny _ _ (call (Value.builtin "len") [Value.str _ _]) _ _ _); (refine' len_S ?hx ?hl ?_); (case hx => ktr_rel); (case hl => first | decide | omega | (simp only [List.length_append, List.length_cons, List.length_nil, List.length_replicate, List.length_map]; omega)); intro _ _))
local macro_rules | `(tactic| walk_at "call builtin:len") => `(tactic| ((with_reducible show wpAny _ _ (call (Value.builtin "len") [Value.str _ _]) _ _ _); (refine' len_S ?hx ?hl ?_); (case hx => ktr_rel); (case hl => first | decide | omega | (simp only [List.length_append, List.length_cons, List.length_nil, List.length_replicate, List.length_map]; omega)); intro _ _))
local macro_rules | `(tactic| walk_at "binaryOp Add str str") => `(tactic| ((refine' add_S ?hx ?hy ?hl ?_); (case hx => ktr_rel); (case hy => ktr_rel); (case hl => first | decide | omega | (simp only [List.length_append, List.length_cons, List.length_nil, List.length_replicate, List.length_map]; omega)); intro _ _))
local macro_rules | `(tactic| walk_at "inplaceOp Add str str") => `(tactic| ((refine' iadd_S ?hx ?hy ?hl ?_); (case hx => ktr_rel); (case hy => ktr_rel); (case hl => first | decide | omega | (simp only [List.length_append, List.length_cons, List.length_nil, List.length_replicate, List.length_map]; omega)); intro _ _))
local macro_rules | `(tactic| walk_at "binaryOp Mult str int") => `(tactic| ((refine' mul_S ?hx ?hl ?h0 ?_); (case hx => ktr_rel); (case hl => omega); (case h0 => omega); intro _ _))
local macro_rules | `(tactic| walk_at "compareOp Eq str str") => `(tactic| ((refine' eq_S ?hx ?hy ?_); (case hx => ktr_rel); (case hy => ktr_rel)))
local macro_rules | `(tactic| walk_at "compareOp NotEq str str") => `(tactic| ((refine' ne_S ?hx ?hy ?_); (case hx => ktr_rel); (case hy => ktr_rel)))
local macro_rules | `(tactic| walk_at "compareOp In str str") => `(tactic| ((refine' in_S ?hx ?hy ?_); (case hx => ktr_rel); (case hy => ktr_rel)))
local macro_rules | `(tactic| walk_at "compareOp NotIn str str") => `(tactic| ((refine' notin_S ?hx ?hy ?_); (case hx => ktr_rel); (case hy => ktr_rel)))
local macro_rules | `(tactic| walk_at "truthy str") => `(tactic| ((refine' truthy_S ?hx ?hl ?_); (case hx => ktr_rel); (case hl => first | decide | omega | (simp only [List.length_append, List.length_cons, List.length_nil, List.length_replicate, List.length_map]; omega)); intro _))
local macro_rules | `(tactic| walk_at "call type:int cons nil") => `(tactic| ((with_reducible show wpAny _ _ (call (Value.type "int") [Value.str _ _]) _ _ _); (refine' int_S ?hx ?hc ?_); (case hx => ktr_rel); (case hc => omega); intro _ _))
local macro_rules | `(tactic| walk_at "call type:int") => `(tactic| ((with_reducible show wpAny _ _ (call (Value.type "int") [Value.str _ _]) _ _ _); (refine' int_S ?hx ?hc ?_); (case hx => ktr_rel); (case hc => omega); intro _ _))
local macro_rules | `(tactic| walk_at "compareOp Is bytes ref") => `(tactic| (refine wpAny_is_other (by rfl) (by intro x; cases x) ?_))
local macro_rules | `(tactic| walk_at "truthy str") => `(tactic| first | ((refine truthy_Sn (by with_reducible first | rfl | exact lit_nil) ?_); intro _) | ((refine truthy_Sc (by with_reducible first | rfl | exact lit_star) (by first | decide | omega | (simp only [List.length_append, List.length_cons, List.length_nil, List.length_replicate, List.length_map] at *; omega)) ?_); intro _))

local macro_rules | `(tactic| walk_at "truthy bytes") => `(tactic| (refine truthy_B (by first | omega | (simp only [List.length_append, List.length_cons, List.length_nil, List.length_take, List.length_drop]; omega)) ?_; intro _))
local macro_rules | `(tactic| walk_at "call builtin:len") => `(tactic| ((with_reducible show wpAny _ _ (call (Value.builtin "len") [Value.bytes (List.toArray _) _]) _ _ _); refine len_B (by first | omega | (simp only [List.length_append, List.length_cons, List.length_nil, List.length_take, List.length_drop]; omega)) ?_; intro _ _))
local macro_rules | `(tactic| walk_at "subscriptTail Name str Constant bytes int") => `(tactic| ((with_reducible show wpAny _ _ (subscriptTail _ _ (Value.bytes (List.toArray (_ :: _)) _) (Value.int 0 _)) _ _ _); refine item0_B (by first | omega | (simp only [List.length_append, List.length_cons, List.length_nil] at *; omega)) ?_; intro _ _))
local macro_rules | `(tactic| walk_at "subscriptTail Name Constant bytes int") => `(tactic| ((with_reducible show wpAny _ _ (subscriptTail _ _ (Value.bytes (List.toArray (_ :: _)) _) (Value.int 0 _)) _ _ _); refine item0_B (by first | omega | (simp only [List.length_append, List.length_cons, List.length_nil] at *; omega)) ?_; intro _ _))
local macro_rules | `(tactic| walk_at "subscriptTail") => `(tactic| ((with_reducible show wpAny _ _ (subscriptTail _ _ (Value.bytes (List.toArray (_ :: _)) _) (Value.int 0 _)) _ _ _); refine item0_B (by first | omega | (simp only [List.length_append, List.length_cons, List.length_nil] at *; omega)) ?_; intro _ _))
local macro_rules | `(tactic| walk_at "subscriptTail Name str Slice") => `(tactic| ((with_reducible show wpAny _ _ (subscriptTail _ (Expr.Slice none (some _) none _) (Value.bytes (List.toArray _) _) (Value.ref _)) _ _ _); (with_reducible rename Fr _ _ _ _ => F'); (with_reducible rename News _ _ _ _ => N'); (refine head_B (s := ⟨_, _, _, _, _⟩) F' N' (by first | decide | omega) (by first | omega | (simp only [List.length_append, List.length_cons, List.length_nil, List.length_take, List.length_drop] at *; omega)) ?_); intro _ _ _ _ _))
local macro_rules | `(tactic| walk_at "subscriptTail") => `(tactic| ((with_reducible show wpAny _ _ (subscriptTail _ (Expr.Slice none (some _) none _) (Value.bytes (List.toArray _) _) (Value.ref _)) _ _ _); (with_reducible rename Fr _ _ _ _ => F'); (with_reducible rename News _ _ _ _ => N'); (refine head_B (s := ⟨_, _, _, _, _⟩) F' N' (by first | decide | omega) (by first | omega | (simp only [List.length_append, List.length_cons, List.length_nil, List.length_take, List.length_drop] at *; omega)) ?_); intro _ _ _ _ _))
local macro_rules | `(tactic| walk_at "subscriptTail Name str Slice") => `(tactic| ((with_reducible show wpAny _ _ (subscriptTail _ (Expr.Slice (some _) none none _) (Value.bytes (List.toArray _) _) (Value.ref _)) _ _ _); (with_reducible rename Fr _ _ _ _ => F'); (with_reducible rename News _ _ _ _ => N'); (refine drop_B (s := ⟨_, _, _, _, _⟩) F' N' (by first | decide | omega) (by first | omega | (simp only [List.length_append, List.length_cons, List.length_nil, List.length_take, List.length_drop] at *; omega)) ?_); intro _ _ _ _ _))
local macro_rules | `(tactic| walk_at "subscriptTail") => `(tactic| ((with_reducible show wpAny _ _ (subscriptTail _ (Expr.Slice (some _) none none _) (Value.bytes (List.toArray _) _) (Value.ref _)) _ _ _); (with_reducible rename Fr _ _ _ _ => F'); (with_reducible rename News _ _ _ _ => N'); (refine drop_B (s := ⟨_, _, _, _, _⟩) F' N' (by first | decide | omega) (by first | omega | (simp only [List.length_append, List.length_cons, List.length_nil, List.length_take, List.length_drop] at *; omega)) ?_); intro _ _ _ _ _))
local macro_rules | `(tactic| walk_at "binaryOp Mod str int") => `(tactic| (first | ((with_reducible refine mod_x ?h0 ?h1 ?_); (case h0 => omega); (case h1 => omega); intro _ _) | ((with_reducible refine mod_o ?h0 ?h1 ?_); (case h0 => omega); (case h1 => omega); intro _ _)))
local macro_rules | `(tactic| walk_at "call builtin:bytes.decode") => `(tactic| ((with_reducible refine decode_B ?h0 ?h1 ?_); (case h0 => first | assumption | omega); (case h1 => assumption); intro _ _))
local macro_rules | `(tactic| walk_at "inplaceOp LShift int int") => `(tactic| ((refine shl8 (by omega) ?_); intro _ _))
local macro_rules | `(tactic| walk_at "inplaceOp BitOr int int") => `(tactic| ((refine or8 (by first | assumption | omega) ?_); intro _ _))
local macro_rules | `(tactic| walk_at "truthy bytes") => `(tactic| first | ((with_reducible refine truthy_Bn ?_); intro _) | ((with_reducible refine truthy_Bc ?hl ?_); (case hl => first | decide | omega | (simp only [List.length_append, List.length_cons, List.length_nil, List.length_replicate, List.length_map] at *; omega)); intro _))

local macro_rules | `(tactic| ktr_rel) => `(tactic| with_reducible exact dec_text _)
def wayC (wy : Nat) : Nat := [120, 100, 111, 97].getD wy 0
def sFmt : Stmt := nthS (bodyS wRep) 1
theorem dec_item (rs : List Nat) (hl : rs.length ≤ 2) (h : ∀ x ∈ rs, x < 256) : decL 10 (valN rs) = itemL 1 rs := by
  unfold itemL decL
  by_cases h0 : valN rs = 0
  · rw [if_pos h0, h0]
    have : figL 10 0 = [] := by unfold figL; rw [dif_neg (by omega)]
    simp [this]
  · rw [if_neg h0]
    have : figL 10 (valN rs) ≠ [] := by
      unfold figL; rw [dif_pos ⟨by decide, by omega⟩]; exact fun e => by simp at e
    have hl2 : 1 ≤ (figL 10 (valN rs)).length := List.length_pos_iff.mpr this
    show figL 10 (valN rs) = List.replicate (1 - (figL 10 (valN rs)).length) 48 ++ figL 10 (valN rs)
    rw [Nat.sub_eq_zero_of_le hl2]; rfl
theorem pad_item {b k wy : Nat} (rs : List Nat) (hw : wy = 0 ∧ b = 16 ∧ k = 2 ∨ wy = 2 ∧ b = 8 ∧ k = 3) : List.replicate (k - (decL b (valN rs)).length) 48 ++ decL b (valN rs) = itemL wy rs := by
  unfold decL
  by_cases h0 : valN rs = 0
  · rw [if_pos h0]
    have h1 : ∀ b, figL b 0 = [] := fun b => by unfold figL; rw [dif_neg (by omega)]
    rcases hw with ⟨rfl, rfl, rfl⟩ | ⟨rfl, rfl, rfl⟩ <;> (unfold itemL; simp [h0, h1])
  · rw [if_neg h0]
    rcases hw with ⟨rfl, rfl, rfl⟩ | ⟨rfl, rfl, rfl⟩ <;> rfl
theorem itemL_len (wy : Nat) (hw : wy < 4) (rs : List Nat) (hl : rs.length ≤ 2) (h : ∀ x ∈ rs, x < 256) : (itemL wy rs).length ≤ 20 := by
  have hv := valN_lt hl h
  rcases (by omega : wy = 3 ∨ wy = 0 ∨ wy = 1 ∨ wy = 2) with rfl | rfl | rfl | rfl
  · show rs.length ≤ 20; omega
  · have := figL_len 16 _ 16 (by decide) hv
    show (List.replicate (2 - (figL 16 (valN rs)).length) 48 ++ figL 16 (valN rs)).length ≤ 20
    rw [List.length_append, List.length_replicate]; omega
  · have := figL_len 10 _ 16 (by decide) hv
    show (List.replicate (1 - (figL 10 (valN rs)).length) 48 ++ figL 10 (valN rs)).length ≤ 20
    rw [List.length_append, List.length_replicate]; omega
  · have := figL_len 8 _ 16 (by decide) hv
    show (List.replicate (3 - (figL 8 (valN rs)).length) 48 ++ figL 8 (valN rs)).length ≤ 20
    rw [List.length_append, List.length_replicate]; omega
theorem fmt_spec : ∀ {w : World} {mean : ExcName → Option Value} {mg mb : Str → Option Value} (dp un : Nat) (gd : Option (List Code)) (outer : List Env) (A₀ : Around) (base h₀ : Heap) (L : Addr) (m : Str → Option Value) (news : List (Addr × Obj)) (s : Shared) (wy len : Nat) (rv : List UInt8) (out : List Nat) (t1 t2 t3 t4 : Tok) (Q : Flow → Shared → Prop) (E : Value → Shared → Prop)
    (_ : Below A₀ base outer h₀) (_ : Fr h₀ L s.heap m) (_ : (hd.heap_39 w.params).In h₀) (_ : News h₀ L s.heap news) (_ : Top hd.view_39 (looseW hd.view_39 [Str.ofString "noValue", Str.ofString "Value", Str.ofString "Integer32", Str.ofString "OctetString", Str.ofString "SmiError", Str.ofString "TextualConvention", Str.ofString "HintedString", Str.ofString "HintedInteger", Str.ofString "TestAndIncr", Str.ofString "RowStatus"]) mean mg mb h₀)
    (_ : wy < 4) (_ : len ≤ 2) (_ : rv.length ≤ 10000) (_ : out.length ≤ 50000) (_ : wy = 3 → ∀ c ∈ rv.take len, c.toNat < 128)
    (_ : Has m [(Str.ofString "outputValue", .str (S out) t1), (Str.ofString "runningValue", .bytes rv.toArray t2), (Str.ofString "displayFormat", .str (S [wayC wy]) t3), (Str.ofString "octetLength", .int (len : Int) t4)])
    (_ : PassesOwn (model Challenge.rw_am6029_01.row.prog w) (ktrTop dp un gd (Str.ofString "TextualConvention.prettyOut") pScope L 276 (Value.ref 275) [] outer) (envOf (Str.ofString "TextualConvention.prettyOut") pScope L 276 (Value.ref 275)) E)
    (_ : ∀ (h' : Heap) (tk : Nat) (m' : Str → Option Value) (t : Tok), Fr h₀ L h' m' → News h₀ L h' news → Has m' [(Str.ofString "outputValue", .str (S (out ++ itemL wy ((rv.take len).map (·.toNat)))) t)] → (∀ z, z ≠ Str.ofString "outputValue" → z ≠ Str.ofString "number" → z ≠ Str.ofString "numberString" → m' z = m z) → Q .next { s with heap := h', toks := tk }),
    wpAny (model Challenge.rw_am6029_01.row.prog w) (ktrTop dp un gd (Str.ofString "TextualConvention.prettyOut") pScope L 276 (Value.ref 275) [] outer) (exec sFmt (envOf (Str.ofString "TextualConvention.prettyOut") pScope L 276 (Value.ref 275))) Q E s := by
  k_fill
  intro w mean mg mb dp un gd outer A₀ base h₀ L m news s wy len rv out t1 t2 t3 t4 Q E B F X N T hwy hlen hrv hout hasc hm hE hret
  conv => arg 3; arg 1; whnf
  rw [← pin_eq hm] at F
  dsimp only [pin] at F
  have htl : (rv.take (len : Int).toNat).length ≤ 2 := by rw [List.length_take]; omega
  have hby : ∀ x ∈ (rv.take (len : Int).toNat).map (·.toNat), x < 256 := by
    intro x hx
    obtain ⟨c, _, rfl⟩ := List.mem_map.mp hx
    exact c.toNat_lt
  have hvn : valN ((rv.take (len : Int).toNat).map (·.toNat)) < 65536 := valN_lt (by rw [List.length_map]; exact htl) hby
  have hln := fun wy hw => itemL_len wy hw _ (by rw [List.length_map]; exact htl) hby
  have hd16 := decL_len 16 (((valN ((rv.take (len : Int).toNat).map (·.toNat)) : Nat) : Int)).toNat (by decide) (by rw [Int.toNat_natCast]; exact hvn)
  have hd8 := decL_len 8 (((valN ((rv.take (len : Int).toNat).map (·.toNat)) : Nat) : Int)).toNat (by decide) (by rw [Int.toNat_natCast]; exact hvn)
  have hd10 := decL_len 10 (valN ((rv.take (len : Int).toNat).map (·.toNat))) (by decide) hvn
  have hE0 : (len : Int).toNat = len := Int.toNat_natCast len
  rcases (by omega : wy = 3 ∨ wy = 0 ∨ wy = 1 ∨ wy = 2) with rfl | rfl | rfl | rfl
  · have hasc' : ∀ c ∈ rv.take (len : Int).toNat, c.toNat < 128 := hasc rfl
    dsimp only [wayC, List.getD_cons_zero, List.getD_cons_succ] at F
    ktr_unf
    refine hret _ _ _ _ (by assumption) (by assumption) (has_str rfl ?_) ?_
    · rw [hE0]; rfl
    · intro z z1 z2 z3
      have z5 := congrFun (pin_eq hm) z
      simp only [pin] at z5
      simp only [z1, z2, z3, if_false] at z5 ⊢
      exact z5
  · dsimp only [wayC, List.getD_cons_zero, List.getD_cons_succ] at F
    ktr_unf
    rename Fr _ _ _ _ => F1
    rename News _ _ _ _ => N1
    refine num_spec _ _ _ _ _ _ _ _ _ _ _ (rv.take (len : Int).toNat) _ _ _ _ B F1 X N1 T htl ⟨rfl, rfl, trivial⟩ hE ?_
    intro h9 tk9 m9 t9 F2 N2 e1 e2
    clear F1 N1
    have e4 : Has m9 [(Str.ofString "number", .int (valN ((rv.take (len : Int).toNat).map (·.toNat)) : Int) t9), (Str.ofString "displayFormat", .str (S [120]) t3), (Str.ofString "outputValue", .str (S out) t1)] := ⟨e1.1, (e2 (Str.ofString "displayFormat") (by decide) (by decide)).trans rfl, (e2 (Str.ofString "outputValue") (by decide) (by decide)).trans rfl, trivial⟩
    rw [← pin_eq e4] at F2
    dsimp only [pin] at F2
    ktr_unf
    refine hret _ _ _ _ (by assumption) (fun p hp => by rename News _ _ _ _ => N9; exact N9 p (.tail _ hp)) (has_str rfl ?_) ?_
    · rw [hE0, Int.toNat_natCast]; exact congrArg _ (pad_item _ (.inl ⟨rfl, rfl, rfl⟩))
    · intro z z1 z2 z3
      have z5 := congrFun (pin_eq hm) z
      have z6 := e2 z z2 z3
      have z7 := congrFun (pin_eq e4) z
      simp only [pin] at z5 z7
      simp only [z1, z2, z3, if_false] at z5 z6 z7 ⊢
      exact z7.trans (z6.trans z5)
  · dsimp only [wayC, List.getD_cons_zero, List.getD_cons_succ] at F
    ktr_unf
    rename Fr _ _ _ _ => F1
    rename News _ _ _ _ => N1
    refine num_spec _ _ _ _ _ _ _ _ _ _ _ (rv.take (len : Int).toNat) _ _ _ _ B F1 X N1 T htl ⟨rfl, rfl, trivial⟩ hE ?_
    intro h9 tk9 m9 t9 F2 N2 e1 e2
    clear F1 N1
    have e4 : Has m9 [(Str.ofString "number", .int (valN ((rv.take (len : Int).toNat).map (·.toNat)) : Int) t9), (Str.ofString "displayFormat", .str (S [100]) t3), (Str.ofString "outputValue", .str (S out) t1)] := ⟨e1.1, (e2 (Str.ofString "displayFormat") (by decide) (by decide)).trans rfl, (e2 (Str.ofString "outputValue") (by decide) (by decide)).trans rfl, trivial⟩
    rw [← pin_eq e4] at F2
    dsimp only [pin] at F2
    ktr_unf
    refine hret _ _ _ _ (by assumption) (fun p hp => by rename News _ _ _ _ => N9; exact N9 p (.tail _ hp)) (has_str rfl ?_) ?_
    · rw [← hE0]; exact congrArg _ (dec_item _ (by rw [List.length_map]; exact htl) hby)
    · intro z z1 z2 z3
      have z5 := congrFun (pin_eq hm) z
      have z6 := e2 z z2 z3
      have z7 := congrFun (pin_eq e4) z
      simp only [pin] at z5 z7
      simp only [z1, z2, z3, if_false] at z5 z6 z7 ⊢
      exact z7.trans (z6.trans z5)
  · dsimp only [wayC, List.getD_cons_zero, List.getD_cons_succ] at F
    ktr_unf
    rename Fr _ _ _ _ => F1
    rename News _ _ _ _ => N1
    refine num_spec _ _ _ _ _ _ _ _ _ _ _ (rv.take (len : Int).toNat) _ _ _ _ B F1 X N1 T htl ⟨rfl, rfl, trivial⟩ hE ?_
    intro h9 tk9 m9 t9 F2 N2 e1 e2
    clear F1 N1
    have e4 : Has m9 [(Str.ofString "number", .int (valN ((rv.take (len : Int).toNat).map (·.toNat)) : Int) t9), (Str.ofString "displayFormat", .str (S [111]) t3), (Str.ofString "outputValue", .str (S out) t1)] := ⟨e1.1, (e2 (Str.ofString "displayFormat") (by decide) (by decide)).trans rfl, (e2 (Str.ofString "outputValue") (by decide) (by decide)).trans rfl, trivial⟩
    rw [← pin_eq e4] at F2
    dsimp only [pin] at F2
    ktr_unf
    refine hret _ _ _ _ (by assumption) (fun p hp => by rename News _ _ _ _ => N9; exact N9 p (.tail _ hp)) (has_str rfl ?_) ?_
    · rw [hE0, Int.toNat_natCast]; exact congrArg _ (pad_item _ (.inr ⟨rfl, rfl, rfl⟩))
    · intro z z1 z2 z3
      have z5 := congrFun (pin_eq hm) z
      have z6 := e2 z z2 z3
      have z7 := congrFun (pin_eq e4) z
      simp only [pin] at z5 z7
      simp only [z1, z2, z3, if_false] at z5 z6 z7 ⊢
      exact z7.trans (z6.trans z5)

end
section
theorem freshP3 : True := by w_top off; exact True.intro

local macro_rules | `(tactic| ktr_rel) => `(tactic| with_reducible first | rfl | assumption | exact lit_fig | exact lit_zero | exact lit_nil | exact lit_star | exact lit_dots | exact lit_coms | exact lit_xdoa | exact lit_dig | exact lit_a | exact lit_t | exact lit_x | exact lit_d | exact lit_o | exact lit_B | exact lit_integer | exact lit_string | exact lit_ascii | exact lit_ignore | exact lit_f02x | exact lit_f03o | exact lit_fd | exact lit_b | fail "no S")
local macro_rules | `(tactic| ktr_unf) => `(tactic| repeat' (first | (k_unfold; (try dsimp only)) | (k_end; kc_close) | ((fail_if_success (with_reducible show wpAny _ _ (exec (Stmt.While _ _ _ _) _) _ _ _)); (fail_if_success (with_reducible show wpAny _ _ (exec (Stmt.For _ _ _ _ _) _) _ _ _)); (fail_if_success (with_reducible show wpAny _ _ (eval (Expr.ListComp _ _ _ _) _) _ _ _)); (fail_if_success (with_reducible show wpAny _ _ (exec (Stmt.Assign _ (Expr.ListComp _ _ _ _) _) _) _ _ _)); (fail_if_success (with_reducible show wpAny _ _ (pyIter _) _ _ _)); (fail_if_success (with_reducible show LCg.CompSrc _ _ _ _ _ _ _ _ _ _ _ _ _ _)); (first | walk1 | (dsimp only; walk1))) | (leave1; walk_say "STEP leave1"; (try dsimp only)) | fail "no step"))
local macro_rules | `(tactic| walk_at "subscriptTail Constant str BinOp") => `(tactic| ((with_reducible show wpAny _ _ (subscriptTail _ _ (Value.str _ _) (Value.int _ _)) _ _ _); (refine' itemD_S ?hx ?h0 ?h1 ?hl ?_); (case hx => ktr_rel); (case h0 => first | decide | omega | exact fmod_lo _ (by decide)); (case h1 => first | decide | omega | exact fmod_hi _ (by decide)); (case hl => first | decide | omega | (simp only [List.length_append, List.length_cons, List.length_nil, List.length_replicate, List.length_map]; omega)); intro _ _))
local macro_rules | `(tactic| walk_at "subscriptTail") => `(tactic| ((with_reducible show wpAny _ _ (subscriptTail _ _ (Value.str _ _) (Value.int _ _)) _ _ _); (refine' itemD_S ?hx ?h0 ?h1 ?hl ?_); (case hx => ktr_rel); (case h0 => first | decide | omega | exact fmod_lo _ (by decide)); (case h1 => first | decide | omega | exact fmod_hi _ (by decide)); (case hl => first | decide | omega | (simp only [List.length_append, List.length_cons, List.length_nil, List.length_replicate, List.length_map]; omega)); intro _ _))
local macro_rules | `(tactic| walk_at "subscriptTail Name Constant str int") => `(tactic| ((with_reducible show wpAny _ _ (subscriptTail _ _ (Value.str _ _) (Value.int 0 _)) _ _ _); (refine' item0_S ?hx ?hl ?_); (case hx => ktr_rel); (case hl => first | decide | omega | (simp only [List.length_append, List.length_cons, List.length_nil, List.length_replicate, List.length_map]; omega)); intro _ _))
local macro_rules | `(tactic| walk_at "subscriptTail") => `(tactic| ((with_reducible show wpAny _ _ (subscriptTail _ _ (Value.str _ _) (Value.int 0 _)) _ _ _); (refine' item0_S ?hx ?hl ?_); (case hx => ktr_rel); (case hl => first | decide | omega | (simp only [List.length_append, List.length_cons, List.length_nil, List.length_replicate, List.length_map]; omega)); intro _ _))
local macro_rules | `(tactic| walk_at "subscriptTail Name Slice str ref") => `(tactic| ((with_reducible show wpAny _ _ (subscriptTail _ (Expr.Slice (some _) none none _) (Value.str _ _) (Value.ref _)) _ _ _); (with_reducible rename Fr _ _ _ _ => F'); (with_reducible rename News _ _ _ _ => N'); (refine' tail_S (s := ⟨_, _, _, _, _⟩) ?hx ?hl F' N' ?_); (case hx => ktr_rel); (case hl => first | decide | omega | (simp only [List.length_append, List.length_cons, List.length_nil, List.length_replicate, List.length_map]; omega)); intro _ _ _ _ _))
local macro_rules | `(tactic| walk_at "subscriptTail") => `(tactic| ((with_reducible show wpAny _ _ (subscriptTail _ (Expr.Slice (some _) none none _) (Value.str _ _) (Value.ref _)) _ _ _); (with_reducible rename Fr _ _ _ _ => F'); (with_reducible rename News _ _ _ _ => N'); (refine' tail_S (s := ⟨_, _, _, _, _⟩) ?hx ?hl F' N' ?_); (case hx => ktr_rel); (case hl => first | decide | omega | (simp only [List.length_append, List.length_cons, List.length_nil, List.length_replicate, List.length_map]; omega)); intro _ _ _ _ _))
local macro_rules | `(tactic| walk_at "call builtin:len cons nil") => `(tactic| ((with_reducible show wpAny _ _ (call (Value.builtin "len") [Value.str _ _]) _ _ _); (refine' len_S ?hx ?hl ?_); (case hx => ktr_rel); (case hl => first | decide | omega | (simp only [List.length_append, List.length_cons, List.length_nil, List.length_replicate, List.length_map]; omega)); intro _ _))
local macro_rules | `(tactic| walk_at "call builtin:len") => `(tactic| ((with_reducible show wpAny _ _ (call (Value.builtin "len") [Value.str _ _]) _ _ _); (refine' len_S ?hx ?hl ?_); (case hx => ktr_rel); (case hl => first | decide | omega | (simp only [List.length_append, List.length_cons, List.length_nil, List.length_replicate, List.length_map]; omega)); intro _ _))
local macro_rules | `(tactic| walk_at "binaryOp Add str str") => `(tactic| ((refine' add_S ?hx ?hy ?hl ?_); (case hx => ktr_rel); (case hy => ktr_rel); (case hl => first | decide | omega | (simp only [List.length_append, List.length_cons, List.length_nil, List.length_replicate, List.length_map]; omega)); intro _ _))
local macro_rules | `(tactic| walk_at "inplaceOp Add str str") => `(tactic| ((refine' iadd_S ?hx ?hy ?hl ?_); (case hx => ktr_rel); (case hy => ktr_rel); (case hl => first | decide | omega | (simp only [List.length_append, List.length_cons, List.length_nil, List.length_replicate, List.length_map]; omega)); intro _ _))
local macro_rules | `(tactic| walk_at "binaryOp Mult str int") => `(tactic| ((refine' mul_S ?hx ?hl ?h0 ?_); (case hx => ktr_rel); (case hl => omega); (case h0 => omega); intro _ _))
local macro_rules | `(tactic| walk_at "compareOp Eq str str") => `(tactic| ((refine' eq_S ?hx ?hy ?_); (case hx => ktr_rel); (case hy => ktr_rel)))
local macro_rules | `(tactic| walk_at "compareOp NotEq str str") => `(tactic| ((refine' ne_S ?hx ?hy ?_); (case hx => ktr_rel); (case hy => ktr_rel)))
local macro_rules | `(tactic| walk_at "compareOp In str str") => `(tactic| ((refine' in_S ?hx ?hy ?_); (case hx => ktr_rel); (case hy => ktr_rel)))
local macro_rules | `(tactic| walk_at "compareOp NotIn str str") => `(tactic| ((refine' notin_S ?hx ?hy ?_); (case hx => ktr_rel); (case hy => ktr_rel)))
local macro_rules | `(tactic| walk_at "truthy str") => `(tactic| ((refine' truthy_S ?hx ?hl ?_); (case hx => ktr_rel); (case hl => first | decide | omega | (simp only [List.length_append, List.length_cons, List.length_nil, List.length_replicate, List.length_map]; omega)); intro _))
local macro_rules | `(tactic| walk_at "call type:int cons nil") => `(tactic| ((with_reducible show wpAny _ _ (call (Value.type "int") [Value.str _ _]) _ _ _); (refine' int_S ?hx ?hc ?_); (case hx => ktr_rel); (case hc => omega); intro _ _))
local macro_rules | `(tactic| walk_at "call type:int") => `(tactic| ((with_reducible show wpAny _ _ (call (Value.type "int") [Value.str _ _]) _ _ _); (refine' int_S ?hx ?hc ?_); (case hx => ktr_rel); (case hc => omega); intro _ _))
local macro_rules | `(tactic| walk_at "compareOp Is bytes ref") => `(tactic| (refine wpAny_is_other (by rfl) (by intro x; cases x) ?_))
local macro_rules | `(tactic| walk_at "truthy str") => `(tactic| first | ((refine truthy_Sn (by with_reducible first | rfl | exact lit_nil) ?_); intro _) | ((refine truthy_Sc (by with_reducible first | rfl | exact lit_star) (by first | decide | omega | (simp only [List.length_append, List.length_cons, List.length_nil, List.length_replicate, List.length_map] at *; omega)) ?_); intro _))

local macro_rules | `(tactic| walk_at "truthy bytes") => `(tactic| (refine truthy_B (by first | omega | (simp only [List.length_append, List.length_cons, List.length_nil, List.length_take, List.length_drop]; omega)) ?_; intro _))
local macro_rules | `(tactic| walk_at "call builtin:len") => `(tactic| ((with_reducible show wpAny _ _ (call (Value.builtin "len") [Value.bytes (List.toArray _) _]) _ _ _); refine len_B (by first | omega | (simp only [List.length_append, List.length_cons, List.length_nil, List.length_take, List.length_drop]; omega)) ?_; intro _ _))
local macro_rules | `(tactic| walk_at "subscriptTail Name str Constant bytes int") => `(tactic| ((with_reducible show wpAny _ _ (subscriptTail _ _ (Value.bytes (List.toArray (_ :: _)) _) (Value.int 0 _)) _ _ _); refine item0_B (by first | omega | (simp only [List.length_append, List.length_cons, List.length_nil] at *; omega)) ?_; intro _ _))
local macro_rules | `(tactic| walk_at "subscriptTail Name Constant bytes int") => `(tactic| ((with_reducible show wpAny _ _ (subscriptTail _ _ (Value.bytes (List.toArray (_ :: _)) _) (Value.int 0 _)) _ _ _); refine item0_B (by first | omega | (simp only [List.length_append, List.length_cons, List.length_nil] at *; omega)) ?_; intro _ _))
local macro_rules | `(tactic| walk_at "subscriptTail") => `(tactic| ((with_reducible show wpAny _ _ (subscriptTail _ _ (Value.bytes (List.toArray (_ :: _)) _) (Value.int 0 _)) _ _ _); refine item0_B (by first | omega | (simp only [List.length_append, List.length_cons, List.length_nil] at *; omega)) ?_; intro _ _))
local macro_rules | `(tactic| walk_at "subscriptTail Name str Slice") => `(tactic| ((with_reducible show wpAny _ _ (subscriptTail _ (Expr.Slice none (some _) none _) (Value.bytes (List.toArray _) _) (Value.ref _)) _ _ _); (with_reducible rename Fr _ _ _ _ => F'); (with_reducible rename News _ _ _ _ => N'); (refine head_B (s := ⟨_, _, _, _, _⟩) F' N' (by first | decide | omega) (by first | omega | (simp only [List.length_append, List.length_cons, List.length_nil, List.length_take, List.length_drop] at *; omega)) ?_); intro _ _ _ _ _))
local macro_rules | `(tactic| walk_at "subscriptTail") => `(tactic| ((with_reducible show wpAny _ _ (subscriptTail _ (Expr.Slice none (some _) none _) (Value.bytes (List.toArray _) _) (Value.ref _)) _ _ _); (with_reducible rename Fr _ _ _ _ => F'); (with_reducible rename News _ _ _ _ => N'); (refine head_B (s := ⟨_, _, _, _, _⟩) F' N' (by first | decide | omega) (by first | omega | (simp only [List.length_append, List.length_cons, List.length_nil, List.length_take, List.length_drop] at *; omega)) ?_); intro _ _ _ _ _))
local macro_rules | `(tactic| walk_at "subscriptTail Name str Slice") => `(tactic| ((with_reducible show wpAny _ _ (subscriptTail _ (Expr.Slice (some _) none none _) (Value.bytes (List.toArray _) _) (Value.ref _)) _ _ _); (with_reducible rename Fr _ _ _ _ => F'); (with_reducible rename News _ _ _ _ => N'); (refine drop_B (s := ⟨_, _, _, _, _⟩) F' N' (by first | decide | omega) (by first | omega | (simp only [List.length_append, List.length_cons, List.length_nil, List.length_take, List.length_drop] at *; omega)) ?_); intro _ _ _ _ _))
local macro_rules | `(tactic| walk_at "subscriptTail") => `(tactic| ((with_reducible show wpAny _ _ (subscriptTail _ (Expr.Slice (some _) none none _) (Value.bytes (List.toArray _) _) (Value.ref _)) _ _ _); (with_reducible rename Fr _ _ _ _ => F'); (with_reducible rename News _ _ _ _ => N'); (refine drop_B (s := ⟨_, _, _, _, _⟩) F' N' (by first | decide | omega) (by first | omega | (simp only [List.length_append, List.length_cons, List.length_nil, List.length_take, List.length_drop] at *; omega)) ?_); intro _ _ _ _ _))
local macro_rules | `(tactic| walk_at "binaryOp Mod str int") => `(tactic| (first | ((with_reducible refine mod_x ?h0 ?h1 ?_); (case h0 => omega); (case h1 => omega); intro _ _) | ((with_reducible refine mod_o ?h0 ?h1 ?_); (case h0 => omega); (case h1 => omega); intro _ _)))
local macro_rules | `(tactic| walk_at "call builtin:bytes.decode") => `(tactic| ((with_reducible refine decode_B ?h0 ?h1 ?_); (case h0 => first | assumption | omega); (case h1 => assumption); intro _ _))
local macro_rules | `(tactic| walk_at "inplaceOp LShift int int") => `(tactic| ((refine shl8 (by omega) ?_); intro _ _))
local macro_rules | `(tactic| walk_at "inplaceOp BitOr int int") => `(tactic| ((refine or8 (by first | assumption | omega) ?_); intro _ _))
local macro_rules | `(tactic| walk_at "truthy bytes") => `(tactic| first | ((with_reducible refine truthy_Bn ?_); intro _) | ((with_reducible refine truthy_Bc ?hl ?_); (case hl => first | decide | omega | (simp only [List.length_append, List.length_cons, List.length_nil, List.length_replicate, List.length_map] at *; omega)); intro _))

local macro_rules | `(tactic| ktr_unf) => `(tactic| repeat' (first | (k_unfold; (try dsimp only)) | (k_end; kc_close) | ((fail_if_success (with_reducible show wpAny _ _ (exec (Stmt.While _ _ _ _) _) _ _ _)); (fail_if_success (with_reducible show wpAny _ _ (exec (Stmt.For _ _ _ _ _) _) _ _ _)); (fail_if_success (with_reducible show wpAny _ _ (eval (Expr.ListComp _ _ _ _) _) _ _ _)); (fail_if_success (with_reducible show wpAny _ _ (exec (Stmt.Assign _ (Expr.ListComp _ _ _ _) _) _) _ _ _)); (fail_if_success (with_reducible show wpAny _ _ (pyIter _) _ _ _)); (fail_if_success (with_reducible show wpAny _ _ (exec (Stmt.If (Expr.Compare _ _ [Expr.Constant (Const.str (Str.ofString "a")) _ _] _) _ _ _) _) _ _ _)); (fail_if_success (with_reducible show LCg.CompSrc _ _ _ _ _ _ _ _ _ _ _ _ _ _)); (first | walk1 | (dsimp only; walk1))) | (leave1; walk_say "STEP leave1"; (try dsimp only)) | fail "no step"))

def rtV : Option Nat → Tok → Value
  | none, _ => .none
  | some c, t => .str (S [c]) t
def tellR (wy : Nat) (mk : List Nat) (row : List UInt8) : List Nat := itemL wy (row.map (·.toNat)) ++ (if row = [] then [] else mk)
def tells (wy : Nat) (mk : List Nat) (rows : List (List UInt8)) : List Nat := (rows.map (tellR wy mk)).flatten
def RowsOk (len : Nat) (rest : List UInt8) : List (List UInt8) → Prop
  | [] => True
  | r :: rs => (r.length = len ∨ r = [] ∧ rs = [] ∧ rest = []) ∧ RowsOk len rest rs
def Asc (wy : Nat) (rows : List (List UInt8)) : Prop := wy = 3 → ∀ row ∈ rows, ∀ c ∈ row, c.toNat < 128
theorem rep_spec : ∀ {w : World} {mean : ExcName → Option Value} {mg mb : Str → Option Value} (dp un : Nat) (gd : Option (List Code)) (outer : List Env) (A₀ : Around) (base h₀ : Heap) (L : Addr) (m : Str → Option Value) (news : List (Addr × Obj)) (s : Shared) (wy len : Nat) (rows : List (List UInt8)) (rest : List UInt8) (out : List Nat) (rt : Option Nat) (t1 t2 t3 t4 t5 t6 : Tok) (Q : Flow → Shared → Prop) (E : Value → Shared → Prop)
    (_ : Below A₀ base outer h₀) (_ : Fr h₀ L s.heap m) (_ : (hd.heap_39 w.params).In h₀) (_ : News h₀ L s.heap news) (_ : Top hd.view_39 (looseW hd.view_39 [Str.ofString "noValue", Str.ofString "Value", Str.ofString "Integer32", Str.ofString "OctetString", Str.ofString "SmiError", Str.ofString "TextualConvention", Str.ofString "HintedString", Str.ofString "HintedInteger", Str.ofString "TestAndIncr", Str.ofString "RowStatus"]) mean mg mb h₀)
    (_ : wy < 4) (_ : 1 ≤ len) (_ : len ≤ 2) (_ : (rows.flatten ++ rest).length ≤ 10000) (_ : out.length + 30 * rows.length ≤ 50000) (_ : RowsOk len rest rows) (_ : Asc wy rows)
    (_ : Has m [(Str.ofString "outputValue", .str (S out) t1), (Str.ofString "runningValue", .bytes (rows.flatten ++ rest).toArray t2), (Str.ofString "repeatCount", .int (rows.length : Int) t3), (Str.ofString "displayFormat", .str (S [wayC wy]) t4), (Str.ofString "octetLength", .int (len : Int) t5), (Str.ofString "repeatTerminator", rtV rt t6)])
    (_ : PassesOwn (model Challenge.rw_am6029_01.row.prog w) (ktrTop dp un gd (Str.ofString "TextualConvention.prettyOut") pScope L 276 (Value.ref 275) [] outer) (envOf (Str.ofString "TextualConvention.prettyOut") pScope L 276 (Value.ref 275)) E)
    (_ : ∀ (h' : Heap) (tk : Nat) (m' : Str → Option Value) (t t' : Tok), Fr h₀ L h' m' → News h₀ L h' news → Has m' [(Str.ofString "outputValue", .str (S (out ++ tells wy rt.toList rows)) t), (Str.ofString "runningValue", .bytes rest.toArray t')] → (∀ z, z ≠ Str.ofString "outputValue" → z ≠ Str.ofString "number" → z ≠ Str.ofString "numberString" → z ≠ Str.ofString "runningValue" → z ≠ Str.ofString "repeatCount" → m' z = m z) → Q .next { s with heap := h', toks := tk }),
    wpAny (model Challenge.rw_am6029_01.row.prog w) (ktrTop dp un gd (Str.ofString "TextualConvention.prettyOut") pScope L 276 (Value.ref 275) [] outer) (exec wRep (envOf (Str.ofString "TextualConvention.prettyOut") pScope L 276 (Value.ref 275))) Q E s := by
  k_fill
  intro w mean mg mb dp un gd outer A₀ base h₀ L m news s wy len rows rest out rt t1 t2 t3 t4 t5 t6 Q E B F X N T hwy hl1 hl2 hsz hout hok hasc hm hE hret
  conv => arg 3; arg 1; whnf
  refine While_inv2 (fun μ m' nx => nx = news ∧ ∃ (rows' : List (List UInt8)) (out' : List Nat) (t1 t2 t3 : Tok), Has m' [(Str.ofString "outputValue", .str (S out') t1), (Str.ofString "runningValue", .bytes (rows'.flatten ++ rest).toArray t2), (Str.ofString "repeatCount", .int (rows'.length : Int) t3), (Str.ofString "displayFormat", .str (S [wayC wy]) t4), (Str.ofString "octetLength", .int (len : Int) t5), (Str.ofString "repeatTerminator", rtV rt t6)] ∧ rows'.length = μ ∧ (rows'.flatten ++ rest).length ≤ 10000 ∧ out'.length + 30 * rows'.length ≤ 50000 ∧ RowsOk len rest rows' ∧ Asc wy rows' ∧ out' ++ tells wy rt.toList rows' = out ++ tells wy rt.toList rows ∧ ∀ z, z ≠ Str.ofString "outputValue" → z ≠ Str.ofString "number" → z ≠ Str.ofString "numberString" → z ≠ Str.ofString "runningValue" → z ≠ Str.ofString "repeatCount" → m' z = m z) F N ⟨rfl, rows, out, _, _, _, hm, rfl, hsz, hout, hok, hasc, rfl, fun _ _ _ _ _ _ => rfl⟩ ?_ hE
  clear F N
  rintro μ m1 nx h1 tk1 F1 N1 ⟨rfl, rows', out', u1, u2, u3, e1, rfl, hsz', hout', hok', hasc', e2, e3⟩
  rcases rows' with _ | ⟨row, rows'⟩
  · rw [← pin_eq e1] at F1
    dsimp only [pin] at F1
    ktr_unf
    refine hret _ _ _ _ _ (by assumption) (by assumption) ⟨eq_str' rfl ?_, rfl, trivial⟩ ?_
    · rw [← e2]; exact (List.append_nil _).symm
    · intro z z1 z2 z3 z4 z5
      have z6 := congrFun (pin_eq e1) z
      simp only [pin] at z6
      simp only [z1, z4, z5, if_false] at z6 ⊢
      exact z6.trans (e3 z z1 z2 z3 z4 z5)
  · obtain ⟨hrow, hok2⟩ := hok'
    rcases row with _ | ⟨a, row⟩
    · obtain ⟨rfl, rfl⟩ : rows' = [] ∧ rest = [] := by
        rcases hrow with h | h
        · simp only [List.length_nil] at h; omega
        · exact h.2
      rw [← pin_eq e1] at F1
      dsimp only [pin, List.flatten_cons, List.flatten_nil, List.append_nil, List.nil_append] at F1
      ktr_unf
      rename Fr _ _ _ _ => F2
      rename News _ _ _ _ => N2
      refine fmt_spec _ _ _ _ _ _ _ _ _ _ _ wy len [] out' _ _ _ _ _ _ B F2 X N2 T hwy hl2 (by decide) (by simp only [List.length_cons, List.length_nil] at hout'; omega) ?_ ⟨rfl, rfl, rfl, rfl, trivial⟩ hE ?_
      · intro _ c hc; simp only [List.take_nil] at hc; cases hc
      intro h9 tk9 m9 t9 F9 N9 f1 f2
      clear F2 N2
      obtain ⟨tq, hq⟩ : ∃ tq, m9 (Str.ofString "repeatCount") = some (.int (([] : List (List UInt8)).length : Int) tq) := ⟨_, eq_int ((f2 (Str.ofString "repeatCount") (by decide) (by decide) (by decide)).trans rfl) (by simp only [List.length_cons, List.length_nil]; omega)⟩
      have e4 : Has m9 [(Str.ofString "outputValue", .str (S (out' ++ itemL wy ((([] : List UInt8).take len).map (·.toNat)))) t9), (Str.ofString "runningValue", .bytes (List.toArray ([] : List UInt8)) u2), (Str.ofString "repeatCount", .int (([] : List (List UInt8)).length : Int) tq), (Str.ofString "displayFormat", .str (S [wayC wy]) t4), (Str.ofString "octetLength", .int (len : Int) t5), (Str.ofString "repeatTerminator", rtV rt t6)] := ⟨f1.1, (f2 (Str.ofString "runningValue") (by decide) (by decide) (by decide)).trans rfl, hq, (f2 (Str.ofString "displayFormat") (by decide) (by decide) (by decide)).trans rfl, (f2 (Str.ofString "octetLength") (by decide) (by decide) (by decide)).trans rfl, (f2 (Str.ofString "repeatTerminator") (by decide) (by decide) (by decide)).trans rfl, trivial⟩
      have e5 : ∀ z, z ≠ Str.ofString "outputValue" → z ≠ Str.ofString "number" → z ≠ Str.ofString "numberString" → z ≠ Str.ofString "runningValue" → z ≠ Str.ofString "repeatCount" → m9 z = m z := by
        intro z z1 z2 z3 z4 z5
        have z6 := congrFun (pin_eq e1) z
        have z7 := f2 z z1 z2 z3
        simp only [pin] at z6
        simp only [z1, z4, z5, if_false] at z6 z7
        exact z7.trans (z6.trans (e3 z z1 z2 z3 z4 z5))
      have htk : ([] : List UInt8).take len = [] := List.take_nil
      have hin : itemL wy (([] : List UInt8).map (·.toNat)) = tellR wy rt.toList [] := by unfold tellR; rw [if_pos rfl, List.append_nil]
      have hil := itemL_len wy hwy (([] : List UInt8).map (·.toNat)) (by decide) (by intro x hx; cases hx)
      rw [htk] at e4
      generalize hO : out' ++ itemL wy (([] : List UInt8).map (·.toNat)) = O at e4
      have hOl : O.length ≤ out'.length + 20 := by rw [← hO, List.length_append]; omega
      have hO2 : out'.length + 30 ≤ 50000 := by simp only [List.length_cons, List.length_nil] at hout'; omega
      clear f1 f2 e1 hm hret hsz hout hok hasc
      rw [← pin_eq e4] at F9
      dsimp only [pin] at F9
      rcases rt with _ | rt
      · dsimp only [rtV] at F9
        ktr_unf
        refine ⟨_, _, _, _, 0, rfl, by assumption, by assumption, Nat.lt_succ_self _, rfl, [], O, _, _, _, ⟨rfl, eq_byt rfl List.drop_nil, rfl, rfl, rfl, rfl, trivial⟩, rfl, by decide, by simp only [List.length_nil]; omega, trivial, fun _ _ hr => (by cases hr), ?_, ?_⟩
        · rw [← e2, ← hO, hin]; simp only [tells, List.map_cons, List.map_nil, List.flatten_cons, List.flatten_nil, List.append_assoc]
        · intro z z1 z2 z3 z4 z5
          have z6 := congrFun (pin_eq e4) z
          simp only [pin] at z6
          simp only [z1, z4, z5, if_false] at z6 ⊢
          exact z6.trans (e5 z z1 z2 z3 z4 z5)
      · dsimp only [rtV] at F9
        ktr_unf
        refine ⟨_, _, _, _, 0, rfl, by assumption, by assumption, Nat.lt_succ_self _, rfl, [], O, _, _, _, ⟨rfl, eq_byt rfl List.drop_nil, rfl, rfl, rfl, rfl, trivial⟩, rfl, by decide, by simp only [List.length_nil]; omega, trivial, fun _ _ hr => (by cases hr), ?_, ?_⟩
        · rw [← e2, ← hO, hin]; simp only [tells, List.map_cons, List.map_nil, List.flatten_cons, List.flatten_nil, List.append_assoc]
        · intro z z1 z2 z3 z4 z5
          have z6 := congrFun (pin_eq e4) z
          simp only [pin] at z6
          simp only [z1, z4, z5, if_false] at z6 ⊢
          exact z6.trans (e5 z z1 z2 z3 z4 z5)
    · have hrl : (a :: row).length = len := by
        rcases hrow with h | h
        · exact h
        · cases h.1
      have hn : (((a :: row) :: rows').length : Int) ≠ 0 := by simp only [List.length_cons]; omega
      rw [← pin_eq e1] at F1
      dsimp only [pin] at F1
      rw [List.flatten_cons, List.append_assoc, List.cons_append] at F1
      ktr_unf
      all_goals try contradiction
      rename Fr _ _ _ _ => F2
      rename News _ _ _ _ => N2
      refine fmt_spec _ _ _ _ _ _ _ _ _ _ _ wy len (a :: (row ++ (rows'.flatten ++ rest))) out' _ _ _ _ _ _ B F2 X N2 T hwy hl2 ?_ (by simp only [List.length_cons] at hout'; omega) ?_ ⟨rfl, rfl, rfl, rfl, trivial⟩ hE ?_
      · rw [List.flatten_cons, List.append_assoc, List.cons_append] at hsz'; exact hsz'
      · intro h c hc
        refine hasc' h (a :: row) (.head _) c ?_
        rw [← List.cons_append, ← hrl, List.take_left] at hc
        exact hc
      intro h9 tk9 m9 t9 F9 N9 f1 f2
      clear F2 N2
      obtain ⟨tq, hq⟩ : ∃ tq, m9 (Str.ofString "repeatCount") = some (.int (rows'.length : Int) tq) := ⟨_, eq_int ((f2 (Str.ofString "repeatCount") (by decide) (by decide) (by decide)).trans rfl) (by simp only [List.length_cons, List.length_nil]; omega)⟩
      have e4 : Has m9 [(Str.ofString "outputValue", .str (S (out' ++ itemL wy (((a :: (row ++ (rows'.flatten ++ rest))).take len).map (·.toNat)))) t9), (Str.ofString "runningValue", .bytes (List.toArray (a :: (row ++ (rows'.flatten ++ rest)))) u2), (Str.ofString "repeatCount", .int (rows'.length : Int) tq), (Str.ofString "displayFormat", .str (S [wayC wy]) t4), (Str.ofString "octetLength", .int (len : Int) t5), (Str.ofString "repeatTerminator", rtV rt t6)] := ⟨f1.1, (f2 (Str.ofString "runningValue") (by decide) (by decide) (by decide)).trans rfl, hq, (f2 (Str.ofString "displayFormat") (by decide) (by decide) (by decide)).trans rfl, (f2 (Str.ofString "octetLength") (by decide) (by decide) (by decide)).trans rfl, (f2 (Str.ofString "repeatTerminator") (by decide) (by decide) (by decide)).trans rfl, trivial⟩
      have e5 : ∀ z, z ≠ Str.ofString "outputValue" → z ≠ Str.ofString "number" → z ≠ Str.ofString "numberString" → z ≠ Str.ofString "runningValue" → z ≠ Str.ofString "repeatCount" → m9 z = m z := by
        intro z z1 z2 z3 z4 z5
        have z6 := congrFun (pin_eq e1) z
        have z7 := f2 z z1 z2 z3
        simp only [pin] at z6
        simp only [z1, z4, z5, if_false] at z6 z7
        exact z7.trans (z6.trans (e3 z z1 z2 z3 z4 z5))
      have hsz2 : (a :: (row ++ (rows'.flatten ++ rest))).length ≤ 10000 := by rw [List.flatten_cons, List.append_assoc, List.cons_append] at hsz'; exact hsz'
      have htk : (a :: (row ++ (rows'.flatten ++ rest))).take len = a :: row := by rw [← List.cons_append, ← hrl, List.take_left]
      have hdr : (a :: (row ++ (rows'.flatten ++ rest))).drop (len : Int).toNat = rows'.flatten ++ rest := by rw [Int.toNat_natCast, ← List.cons_append, ← hrl, List.drop_left]
      have hil := itemL_len wy hwy ((a :: row).map (·.toNat)) (by rw [List.length_map]; omega) (by intro x hx; obtain ⟨c, _, rfl⟩ := List.mem_map.mp hx; exact c.toNat_lt)
      rw [htk] at e4
      generalize hO : out' ++ itemL wy ((a :: row).map (·.toNat)) = O at e4
      have hOl : O.length ≤ out'.length + 20 := by rw [← hO, List.length_append]; omega
      have hO2 : out'.length + 30 + 30 * rows'.length ≤ 50000 := by simp only [List.length_cons] at hout'; omega
      clear f1 f2 e1 hm hret hsz hout hok hasc
      rw [← pin_eq e4] at F9
      dsimp only [pin] at F9
      rcases rt with _ | rt
      · dsimp only [rtV] at F9
        ktr_unf
        refine ⟨_, _, _, _, rows'.length, rfl, by assumption, by assumption, Nat.lt_succ_self _, rfl, rows', O, _, _, _, ⟨rfl, eq_byt rfl hdr, rfl, rfl, rfl, rfl, trivial⟩, rfl, ?_, ?_, hok2, fun h row hr => hasc' h row (.tail _ hr), ?_, ?_⟩
        · rw [← hdr, List.length_drop]; omega
        · omega
        · rw [← e2, ← hO]; simp only [tells, tellR, List.map_cons, List.flatten_cons, Option.toList, if_neg (List.cons_ne_nil a row), List.append_assoc, List.append_nil, List.nil_append]
        · intro z z1 z2 z3 z4 z5
          have z6 := congrFun (pin_eq e4) z
          simp only [pin] at z6
          simp only [z1, z4, z5, if_false] at z6 ⊢
          exact z6.trans (e5 z z1 z2 z3 z4 z5)
      · dsimp only [rtV] at F9
        ktr_unf
        refine ⟨_, _, _, _, rows'.length, rfl, by assumption, by assumption, Nat.lt_succ_self _, rfl, rows', O ++ [rt], _, _, _, ⟨rfl, eq_byt rfl hdr, rfl, rfl, rfl, rfl, trivial⟩, rfl, ?_, ?_, hok2, fun h row hr => hasc' h row (.tail _ hr), ?_, ?_⟩
        · rw [← hdr, List.length_drop]; omega
        · rw [List.length_append, List.length_singleton]; omega
        · rw [← e2, ← hO]; simp only [tells, tellR, List.map_cons, List.flatten_cons, Option.toList, if_neg (List.cons_ne_nil a row), List.append_assoc]
        · intro z z1 z2 z3 z4 z5
          have z6 := congrFun (pin_eq e4) z
          simp only [pin] at z6
          simp only [z1, z4, z5, if_false] at z6 ⊢
          exact z6.trans (e5 z z1 z2 z3 z4 z5)

end
section
theorem freshP4 : True := by w_top off; exact True.intro
local macro_rules | `(tactic| walk_at "pad of mine") => `(tactic| fail "a pad")

local macro_rules | `(tactic| ktr_rel) => `(tactic| with_reducible first | rfl | assumption | exact lit_fig | exact lit_zero | exact lit_nil | exact lit_star | exact lit_dots | exact lit_coms | exact lit_xdoa | exact lit_dig | exact lit_a | exact lit_t | exact lit_x | exact lit_d | exact lit_o | exact lit_B | exact lit_integer | exact lit_string | exact lit_ascii | exact lit_ignore | exact lit_f02x | exact lit_f03o | exact lit_fd | exact lit_b | fail "no S")
local macro_rules | `(tactic| ktr_unf) => `(tactic| repeat' (first | (k_unfold; (try dsimp only)) | (k_end; kc_close) | ((fail_if_success (with_reducible show wpAny _ _ (exec (Stmt.While _ _ _ _) _) _ _ _)); (fail_if_success (with_reducible show wpAny _ _ (exec (Stmt.For _ _ _ _ _) _) _ _ _)); (fail_if_success (with_reducible show wpAny _ _ (eval (Expr.ListComp _ _ _ _) _) _ _ _)); (fail_if_success (with_reducible show wpAny _ _ (exec (Stmt.Assign _ (Expr.ListComp _ _ _ _) _) _) _ _ _)); (fail_if_success (with_reducible show wpAny _ _ (pyIter _) _ _ _)); (fail_if_success (with_reducible show LCg.CompSrc _ _ _ _ _ _ _ _ _ _ _ _ _ _)); (first | walk1 | (dsimp only; walk1))) | (leave1; walk_say "STEP leave1"; (try dsimp only)) | fail "no step"))
local macro_rules | `(tactic| walk_at "subscriptTail Constant str BinOp") => `(tactic| ((with_reducible show wpAny _ _ (subscriptTail _ _ (Value.str _ _) (Value.int _ _)) _ _ _); (refine' itemD_S ?hx ?h0 ?h1 ?hl ?_); (case hx => ktr_rel); (case h0 => first | decide | omega | exact fmod_lo _ (by decide)); (case h1 => first | decide | omega | exact fmod_hi _ (by decide)); (case hl => first | decide | omega | (simp only [List.length_append, List.length_cons, List.length_nil, List.length_replicate, List.length_map]; omega)); intro _ _))
local macro_rules | `(tactic| walk_at "subscriptTail") => `(tactic| ((with_reducible show wpAny _ _ (subscriptTail _ _ (Value.str _ _) (Value.int _ _)) _ _ _); (refine' itemD_S ?hx ?h0 ?h1 ?hl ?_); (case hx => ktr_rel); (case h0 => first | decide | omega | exact fmod_lo _ (by decide)); (case h1 => first | decide | omega | exact fmod_hi _ (by decide)); (case hl => first | decide | omega | (simp only [List.length_append, List.length_cons, List.length_nil, List.length_replicate, List.length_map]; omega)); intro _ _))
local macro_rules | `(tactic| walk_at "subscriptTail Name Constant str int") => `(tactic| ((with_reducible show wpAny _ _ (subscriptTail _ _ (Value.str _ _) (Value.int 0 _)) _ _ _); (refine' item0_S ?hx ?hl ?_); (case hx => ktr_rel); (case hl => first | decide | omega | (simp only [List.length_append, List.length_cons, List.length_nil, List.length_replicate, List.length_map]; omega)); intro _ _))
local macro_rules | `(tactic| walk_at "subscriptTail") => `(tactic| ((with_reducible show wpAny _ _ (subscriptTail _ _ (Value.str _ _) (Value.int 0 _)) _ _ _); (refine' item0_S ?hx ?hl ?_); (case hx => ktr_rel); (case hl => first | decide | omega | (simp only [List.length_append, List.length_cons, List.length_nil, List.length_replicate, List.length_map]; omega)); intro _ _))
local macro_rules | `(tactic| walk_at "subscriptTail Name Slice str ref") => `(tactic| ((with_reducible show wpAny _ _ (subscriptTail _ (Expr.Slice (some _) none none _) (Value.str _ _) (Value.ref _)) _ _ _); (with_reducible rename Fr _ _ _ _ => F'); (with_reducible rename News _ _ _ _ => N'); (refine' tail_S (s := ⟨_, _, _, _, _⟩) ?hx ?hl F' N' ?_); (case hx => ktr_rel); (case hl => first | decide | omega | (simp only [List.length_append, List.length_cons, List.length_nil, List.length_replicate, List.length_map]; omega)); intro _ _ _ _ _))
local macro_rules | `(tactic| walk_at "subscriptTail") => `(tactic| ((with_reducible show wpAny _ _ (subscriptTail _ (Expr.Slice (some _) none none _) (Value.str _ _) (Value.ref _)) _ _ _); (with_reducible rename Fr _ _ _ _ => F'); (with_reducible rename News _ _ _ _ => N'); (refine' tail_S (s := ⟨_, _, _, _, _⟩) ?hx ?hl F' N' ?_); (case hx => ktr_rel); (case hl => first | decide | omega | (simp only [List.length_append, List.length_cons, List.length_nil, List.length_replicate, List.length_map]; omega)); intro _ _ _ _ _))
local macro_rules | `(tactic| walk_at "call builtin:len cons nil") => `(tactic| ((with_reducible show wpAny _ _ (call (Value.builtin "len") [Value.str _ _]) _ _ _); (refine' len_S ?hx ?hl ?_); (case hx => ktr_rel); (case hl => first | decide | omega | (simp only [List.length_append, List.length_cons, List.length_nil, List.length_replicate, List.length_map]; omega)); intro _ _))
local macro_rules | `(tactic| walk_at "call builtin:len") => `(tactic| ((with_reducible show wpAny _ _ (call (Value.builtin "len") [Value.str _ _]) _ _ _); (refine' len_S ?hx ?hl ?_); (case hx => ktr_rel); (case hl => first | decide | omega | (simp only [List.length_append, List.length_cons, List.length_nil, List.length_replicate, List.length_map]; omega)); intro _ _))
local macro_rules | `(tactic| walk_at "binaryOp Add str str") => `(tactic| ((refine' add_S ?hx ?hy ?hl ?_); (case hx => ktr_rel); (case hy => ktr_rel); (case hl => first | decide | omega | (simp only [List.length_append, List.length_cons, List.length_nil, List.length_replicate, List.length_map]; omega)); intro _ _))
local macro_rules | `(tactic| walk_at "inplaceOp Add str str") => `(tactic| ((refine' iadd_S ?hx ?hy ?hl ?_); (case hx => ktr_rel); (case hy => ktr_rel); (case hl => first | decide | omega | (simp only [List.length_append, List.length_cons, List.length_nil, List.length_replicate, List.length_map]; omega)); intro _ _))
local macro_rules | `(tactic| walk_at "binaryOp Mult str int") => `(tactic| ((refine' mul_S ?hx ?hl ?h0 ?_); (case hx => ktr_rel); (case hl => omega); (case h0 => omega); intro _ _))
local macro_rules | `(tactic| walk_at "compareOp Eq str str") => `(tactic| ((refine' eq_S ?hx ?hy ?_); (case hx => ktr_rel); (case hy => ktr_rel)))
local macro_rules | `(tactic| walk_at "compareOp NotEq str str") => `(tactic| ((refine' ne_S ?hx ?hy ?_); (case hx => ktr_rel); (case hy => ktr_rel)))
local macro_rules | `(tactic| walk_at "compareOp In str str") => `(tactic| ((refine' in_S ?hx ?hy ?_); (case hx => ktr_rel); (case hy => ktr_rel)))
local macro_rules | `(tactic| walk_at "compareOp NotIn str str") => `(tactic| ((refine' notin_S ?hx ?hy ?_); (case hx => ktr_rel); (case hy => ktr_rel)))
local macro_rules | `(tactic| walk_at "truthy str") => `(tactic| ((refine' truthy_S ?hx ?hl ?_); (case hx => ktr_rel); (case hl => first | decide | omega | (simp only [List.length_append, List.length_cons, List.length_nil, List.length_replicate, List.length_map]; omega)); intro _))
local macro_rules | `(tactic| walk_at "call type:int cons nil") => `(tactic| ((with_reducible show wpAny _ _ (call (Value.type "int") [Value.str _ _]) _ _ _); (refine' int_S ?hx ?hc ?_); (case hx => ktr_rel); (case hc => omega); intro _ _))
local macro_rules | `(tactic| walk_at "call type:int") => `(tactic| ((with_reducible show wpAny _ _ (call (Value.type "int") [Value.str _ _]) _ _ _); (refine' int_S ?hx ?hc ?_); (case hx => ktr_rel); (case hc => omega); intro _ _))
local macro_rules | `(tactic| walk_at "compareOp Is bytes ref") => `(tactic| (refine wpAny_is_other (by rfl) (by intro x; cases x) ?_))
local macro_rules | `(tactic| walk_at "truthy str") => `(tactic| first | ((refine truthy_Sn (by with_reducible first | rfl | exact lit_nil) ?_); intro _) | ((refine truthy_Sc (by with_reducible first | rfl | exact lit_star) (by first | decide | omega | (simp only [List.length_append, List.length_cons, List.length_nil, List.length_replicate, List.length_map] at *; omega)) ?_); intro _))

local macro_rules | `(tactic| walk_at "truthy bytes") => `(tactic| (refine truthy_B (by first | omega | (simp only [List.length_append, List.length_cons, List.length_nil, List.length_take, List.length_drop]; omega)) ?_; intro _))
local macro_rules | `(tactic| walk_at "call builtin:len") => `(tactic| ((with_reducible show wpAny _ _ (call (Value.builtin "len") [Value.bytes (List.toArray _) _]) _ _ _); refine len_B (by first | omega | (simp only [List.length_append, List.length_cons, List.length_nil, List.length_take, List.length_drop]; omega)) ?_; intro _ _))
local macro_rules | `(tactic| walk_at "subscriptTail Name str Constant bytes int") => `(tactic| ((with_reducible show wpAny _ _ (subscriptTail _ _ (Value.bytes (List.toArray (_ :: _)) _) (Value.int 0 _)) _ _ _); refine item0_B (by first | omega | (simp only [List.length_append, List.length_cons, List.length_nil] at *; omega)) ?_; intro _ _))
local macro_rules | `(tactic| walk_at "subscriptTail Name Constant bytes int") => `(tactic| ((with_reducible show wpAny _ _ (subscriptTail _ _ (Value.bytes (List.toArray (_ :: _)) _) (Value.int 0 _)) _ _ _); refine item0_B (by first | omega | (simp only [List.length_append, List.length_cons, List.length_nil] at *; omega)) ?_; intro _ _))
local macro_rules | `(tactic| walk_at "subscriptTail") => `(tactic| ((with_reducible show wpAny _ _ (subscriptTail _ _ (Value.bytes (List.toArray (_ :: _)) _) (Value.int 0 _)) _ _ _); refine item0_B (by first | omega | (simp only [List.length_append, List.length_cons, List.length_nil] at *; omega)) ?_; intro _ _))
local macro_rules | `(tactic| walk_at "subscriptTail Name str Slice") => `(tactic| ((with_reducible show wpAny _ _ (subscriptTail _ (Expr.Slice none (some _) none _) (Value.bytes (List.toArray _) _) (Value.ref _)) _ _ _); (with_reducible rename Fr _ _ _ _ => F'); (with_reducible rename News _ _ _ _ => N'); (refine head_B (s := ⟨_, _, _, _, _⟩) F' N' (by first | decide | omega) (by first | omega | (simp only [List.length_append, List.length_cons, List.length_nil, List.length_take, List.length_drop] at *; omega)) ?_); intro _ _ _ _ _))
local macro_rules | `(tactic| walk_at "subscriptTail") => `(tactic| ((with_reducible show wpAny _ _ (subscriptTail _ (Expr.Slice none (some _) none _) (Value.bytes (List.toArray _) _) (Value.ref _)) _ _ _); (with_reducible rename Fr _ _ _ _ => F'); (with_reducible rename News _ _ _ _ => N'); (refine head_B (s := ⟨_, _, _, _, _⟩) F' N' (by first | decide | omega) (by first | omega | (simp only [List.length_append, List.length_cons, List.length_nil, List.length_take, List.length_drop] at *; omega)) ?_); intro _ _ _ _ _))
local macro_rules | `(tactic| walk_at "subscriptTail Name str Slice") => `(tactic| ((with_reducible show wpAny _ _ (subscriptTail _ (Expr.Slice (some _) none none _) (Value.bytes (List.toArray _) _) (Value.ref _)) _ _ _); (with_reducible rename Fr _ _ _ _ => F'); (with_reducible rename News _ _ _ _ => N'); (refine drop_B (s := ⟨_, _, _, _, _⟩) F' N' (by first | decide | omega) (by first | omega | (simp only [List.length_append, List.length_cons, List.length_nil, List.length_take, List.length_drop] at *; omega)) ?_); intro _ _ _ _ _))
local macro_rules | `(tactic| walk_at "subscriptTail") => `(tactic| ((with_reducible show wpAny _ _ (subscriptTail _ (Expr.Slice (some _) none none _) (Value.bytes (List.toArray _) _) (Value.ref _)) _ _ _); (with_reducible rename Fr _ _ _ _ => F'); (with_reducible rename News _ _ _ _ => N'); (refine drop_B (s := ⟨_, _, _, _, _⟩) F' N' (by first | decide | omega) (by first | omega | (simp only [List.length_append, List.length_cons, List.length_nil, List.length_take, List.length_drop] at *; omega)) ?_); intro _ _ _ _ _))
local macro_rules | `(tactic| walk_at "binaryOp Mod str int") => `(tactic| (first | ((with_reducible refine mod_x ?h0 ?h1 ?_); (case h0 => omega); (case h1 => omega); intro _ _) | ((with_reducible refine mod_o ?h0 ?h1 ?_); (case h0 => omega); (case h1 => omega); intro _ _)))
local macro_rules | `(tactic| walk_at "call builtin:bytes.decode") => `(tactic| ((with_reducible refine decode_B ?h0 ?h1 ?_); (case h0 => first | assumption | omega); (case h1 => assumption); intro _ _))
local macro_rules | `(tactic| walk_at "inplaceOp LShift int int") => `(tactic| ((refine shl8 (by omega) ?_); intro _ _))
local macro_rules | `(tactic| walk_at "inplaceOp BitOr int int") => `(tactic| ((refine or8 (by first | assumption | omega) ?_); intro _ _))
local macro_rules | `(tactic| walk_at "truthy bytes") => `(tactic| first | ((with_reducible refine truthy_Bn ?_); intro _) | ((with_reducible refine truthy_Bc ?hl ?_); (case hl => first | decide | omega | (simp only [List.length_append, List.length_cons, List.length_nil, List.length_replicate, List.length_map] at *; omega)); intro _))

local macro_rules | `(tactic| ktr_unf) => `(tactic| repeat' (first | (k_unfold; (try dsimp only)) | (k_end; kc_close) | ((fail_if_success (with_reducible show wpAny _ _ (exec (Stmt.While _ _ _ _) _) _ _ _)); (fail_if_success (with_reducible show wpAny _ _ (exec (Stmt.For _ _ _ _ _) _) _ _ _)); (fail_if_success (with_reducible show wpAny _ _ (eval (Expr.ListComp _ _ _ _) _) _ _ _)); (fail_if_success (with_reducible show wpAny _ _ (exec (Stmt.Assign _ (Expr.ListComp _ _ _ _) _) _) _ _ _)); (fail_if_success (with_reducible show wpAny _ _ (pyIter _) _ _ _)); (fail_if_success (with_reducible show wpAny _ _ (exec (Stmt.If (Expr.Compare _ _ [Expr.Constant (Const.str (Str.ofString "a")) _ _] _) _ _ _) _) _ _ _)); (fail_if_success (with_reducible show LCg.CompSrc _ _ _ _ _ _ _ _ _ _ _ _ _ _)); (first | walk1 | (dsimp only; walk1))) | (leave1; walk_say "STEP leave1"; (try dsimp only)) | fail "no step"))

theorem dig_spec : ∀ {w : World} {mean : ExcName → Option Value} {mg mb : Str → Option Value} (dp un : Nat) (gd : Option (List Code)) (outer : List Env) (A₀ : Around) (base h₀ : Heap) (L : Addr) (m : Str → Option Value) (news : List (Addr × Obj)) (s : Shared) (d c : Nat) (l : List Nat) (t1 t2 : Tok) (Q : Flow → Shared → Prop) (E : Value → Shared → Prop)
    (_ : Below A₀ base outer h₀) (_ : Fr h₀ L s.heap m) (_ : (hd.heap_39 w.params).In h₀) (_ : News h₀ L s.heap news) (_ : Top hd.view_39 (looseW hd.view_39 [Str.ofString "noValue", Str.ofString "Value", Str.ofString "Integer32", Str.ofString "OctetString", Str.ofString "SmiError", Str.ofString "TextualConvention", Str.ofString "HintedString", Str.ofString "HintedInteger", Str.ofString "TestAndIncr", Str.ofString "RowStatus"]) mean mg mb h₀)
    (_ : d ∈ [48, 49, 50, 51, 52, 53, 54, 55, 56, 57]) (_ : c ∉ [48, 49, 50, 51, 52, 53, 54, 55, 56, 57]) (_ : l.length ≤ 1000)
    (_ : Has m [(Str.ofString "octetLength", .str (S []) t1), (Str.ofString "displayHint", .str (S (d :: c :: l)) t2)])
    (_ : PassesOwn (model Challenge.rw_am6029_01.row.prog w) (ktrTop dp un gd (Str.ofString "TextualConvention.prettyOut") pScope L 276 (Value.ref 275) [] outer) (envOf (Str.ofString "TextualConvention.prettyOut") pScope L 276 (Value.ref 275)) E)
    (_ : ∀ (h' : Heap) (tk : Nat) (m' : Str → Option Value) (t t' : Tok), Fr h₀ L h' m' → News h₀ L h' news → Has m' [(Str.ofString "octetLength", .str (S [d]) t), (Str.ofString "displayHint", .str (S (c :: l)) t')] → (∀ z, z ≠ Str.ofString "octetLength" → z ≠ Str.ofString "displayHint" → m' z = m z) → Q .next { s with heap := h', toks := tk }),
    wpAny (model Challenge.rw_am6029_01.row.prog w) (ktrTop dp un gd (Str.ofString "TextualConvention.prettyOut") pScope L 276 (Value.ref 275) [] outer) (exec wDig (envOf (Str.ofString "TextualConvention.prettyOut") pScope L 276 (Value.ref 275))) Q E s := by
  k_fill
  intro w mean mg mb dp un gd outer A₀ base h₀ L m news s d c l t1 t2 Q E B F X N T hd1 hd2 hl hm hE hret
  conv => arg 3; arg 1; whnf
  refine While_inv2 (fun μ m' nx => nx = news ∧ (μ = 1 ∧ m' = m ∨ μ = 0 ∧ ∃ t1 t2, Has m' [(Str.ofString "octetLength", .str (S [d]) t1), (Str.ofString "displayHint", .str (S (c :: l)) t2)] ∧ ∀ z, z ≠ Str.ofString "octetLength" → z ≠ Str.ofString "displayHint" → m' z = m z)) F N (n₀ := 1) ⟨rfl, .inl ⟨rfl, rfl⟩⟩ ?_ hE
  clear F N
  rintro μ m1 nx h1 tk1 F1 N1 ⟨rfl, ⟨rfl, rfl⟩ | ⟨rfl, u1, u2, e1, e2⟩⟩
  · rw [← pin_eq hm] at F1
    dsimp only [pin] at F1
    ktr_unf
    all_goals try contradiction
    refine ⟨_, _, _, _, 0, rfl, by assumption, by assumption, Nat.lt_succ_self _, rfl, .inr ⟨rfl, _, _, ⟨rfl, rfl, trivial⟩, ?_⟩⟩
    intro z z1 z2
    simp only [z1, z2, if_false]
  · rw [← pin_eq e1] at F1
    dsimp only [pin] at F1
    ktr_unf
    refine hret _ _ _ _ _ (by assumption) (by assumption) ⟨rfl, rfl, trivial⟩ ?_
    intro z z1 z2
    simp only [z1, z2, if_false]
    exact e2 z z1 z2
theorem tells_len (wy : Nat) (hw : wy < 4) (mk : List Nat) (hm : mk.length ≤ 1) (len : Nat) (hl : len ≤ 2) (rest : List UInt8) : ∀ rows, RowsOk len rest rows → (tells wy mk rows).length ≤ 21 * rows.length
  | [], _ => Nat.zero_le _
  | r :: rs, h => by
    have h1 := tells_len wy hw mk hm len hl rest rs h.2
    have h2 : r.length ≤ 2 := by
      rcases h.1 with h | h
      · omega
      · rw [h.1]; decide
    have h3 := itemL_len wy hw (r.map (·.toNat)) (by rw [List.length_map]; exact h2) (by intro x hx; obtain ⟨c, _, rfl⟩ := List.mem_map.mp hx; exact c.toNat_lt)
    show (tellR wy mk r ++ tells wy mk rs).length ≤ 21 * (rs.length + 1)
    rw [List.length_append]
    have h4 : (tellR wy mk r).length ≤ 21 := by
      unfold tellR
      rw [List.length_append]
      split
      · simp only [List.length_nil]; omega
      · omega
    omega
def sepS : Stmt := nthS (bodyS wOuter) 11
def endS : Stmt := nthS (bodyS wOuter) 12
theorem rest_spec : ∀ {w : World} {mean : ExcName → Option Value} {mg mb : Str → Option Value} (dp un : Nat) (gd : Option (List Code)) (outer : List Env) (A₀ : Around) (base h₀ : Heap) (L : Addr) (m : Str → Option Value) (news : List (Addr × Obj)) (s : Shared) (wy len : Nat) (rows : List (List UInt8)) (rest : List UInt8) (out sep R full : List Nat) (rt : Option Nat) (x d : Addr) (hw k1 k2 : Tok) (t1 t2 t3 t4 t5 t6 t7 t8 : Tok) (Q : Flow → Shared → Prop) (E : Value → Shared → Prop)
    (_ : Below A₀ base outer h₀) (_ : Fr h₀ L s.heap m) (_ : (hd.heap_39 w.params).In h₀) (_ : News h₀ L s.heap ((x, instObj 313 d) :: (d, dictOf (objD w (.str (S full) hw) (.ref 63) k1 k2) 2) :: news)) (_ : Top hd.view_39 (looseW hd.view_39 [Str.ofString "noValue", Str.ofString "Value", Str.ofString "Integer32", Str.ofString "OctetString", Str.ofString "SmiError", Str.ofString "TextualConvention", Str.ofString "HintedString", Str.ofString "HintedInteger", Str.ofString "TestAndIncr", Str.ofString "RowStatus"]) mean mg mb h₀)
    (_ : wy < 4) (_ : 1 ≤ len) (_ : len ≤ 2) (_ : (rows.flatten ++ rest).length ≤ 10000) (_ : out.length + 30 * rows.length ≤ 40000) (_ : RowsOk len rest rows) (_ : Asc wy rows) (_ : sep.length ≤ 1) (_ : R.length ≤ 1000) (_ : full.length ≤ 1000)
    (_ : Has m [(Str.ofString "outputValue", .str (S out) t1), (Str.ofString "runningValue", .bytes (rows.flatten ++ rest).toArray t2), (Str.ofString "repeatCount", .int (rows.length : Int) t3), (Str.ofString "displayFormat", .str (S [wayC wy]) t4), (Str.ofString "octetLength", .int (len : Int) t5), (Str.ofString "repeatTerminator", rtV rt t6), (Str.ofString "displaySep", .str (S sep) t7), (Str.ofString "displayHint", .str (S R) t8), (Str.ofString "self", .ref x)])
    (_ : PassesOwn (model Challenge.rw_am6029_01.row.prog w) (ktrTop dp un gd (Str.ofString "TextualConvention.prettyOut") pScope L 276 (Value.ref 275) [] outer) (envOf (Str.ofString "TextualConvention.prettyOut") pScope L 276 (Value.ref 275)) E)
    (_ : ∀ (h' : Heap) (tk : Nat) (m' : Str → Option Value) (t t' t'' : Tok), Fr h₀ L h' m' → News h₀ L h' ((x, instObj 313 d) :: (d, dictOf (objD w (.str (S full) hw) (.ref 63) k1 k2) 2) :: news) → Has m' [(Str.ofString "outputValue", .str (S (out ++ tells wy rt.toList rows ++ if rest = [] then [] else sep)) t), (Str.ofString "runningValue", .bytes rest.toArray t'), (Str.ofString "displayHint", .str (S (if R = [] then full else R)) t''), (Str.ofString "self", .ref x)] → Q .next { s with heap := h', toks := tk }),
    wpAny (model Challenge.rw_am6029_01.row.prog w) (ktrTop dp un gd (Str.ofString "TextualConvention.prettyOut") pScope L 276 (Value.ref 275) [] outer) (execs [wRep, sepS, endS] (envOf (Str.ofString "TextualConvention.prettyOut") pScope L 276 (Value.ref 275))) Q E s := by
  k_fill
  intro w mean mg mb dp un gd outer A₀ base h₀ L m news s wy len rows rest out sep R full rt x d hw k1 k2 t1 t2 t3 t4 t5 t6 t7 t8 Q E B F X N T hwy hl1 hl2 hsz hout hok hasc hsep hR hfull hm hE hret
  conv => arg 3; arg 1; arg 2; arg 1; whnf
  conv => arg 3; arg 1; arg 2; arg 2; arg 1; whnf
  refine wpAny_execs_cons ?_
  refine rep_spec _ _ _ _ _ _ _ _ _ _ _ wy len rows rest out rt _ _ _ _ _ _ _ _ B F X N T hwy hl1 hl2 hsz (by omega) hok hasc ⟨hm.1, hm.2.1, hm.2.2.1, hm.2.2.2.1, hm.2.2.2.2.1, hm.2.2.2.2.2.1, trivial⟩ hE ?_
  intro h9 tk9 m9 t9 u9 F9 N9 e1 e2
  have e4 : Has m9 [(Str.ofString "outputValue", .str (S (out ++ tells wy rt.toList rows)) t9), (Str.ofString "runningValue", .bytes rest.toArray u9), (Str.ofString "displaySep", .str (S sep) t7), (Str.ofString "displayHint", .str (S R) t8), (Str.ofString "self", .ref x)] := ⟨e1.1, e1.2.1, (e2 (Str.ofString "displaySep") (by decide) (by decide) (by decide) (by decide) (by decide)).trans hm.2.2.2.2.2.2.1, (e2 (Str.ofString "displayHint") (by decide) (by decide) (by decide) (by decide) (by decide)).trans hm.2.2.2.2.2.2.2.1, (e2 (Str.ofString "self") (by decide) (by decide) (by decide) (by decide) (by decide)).trans hm.2.2.2.2.2.2.2.2.1, trivial⟩
  have hO : (out ++ tells wy rt.toList rows).length ≤ 40000 := by
    have := tells_len wy hwy rt.toList (by cases rt <;> simp [Option.toList]) len hl2 rest rows hok
    rw [List.length_append]; omega
  have hrl : rest.length ≤ 10000 := by rw [List.length_append] at hsz; omega
  clear hout hsz hok hasc e1 e2 hm F N
  generalize out ++ tells wy rt.toList rows = O at e4 hret hO
  rw [← pin_eq e4] at F9
  dsimp only [pin] at F9
  rcases rest with _ | ⟨r, rest⟩ <;> rcases sep with _ | ⟨c, _ | ⟨c', sep⟩⟩ <;> rcases R with _ | ⟨g, R⟩
  all_goals first
    | (exfalso; simp only [List.length_cons] at hsep; omega)
    | (ktr_unf; refine hret _ _ _ _ _ _ (by assumption) (by assumption) ⟨eq_str' rfl ?_, rfl, eq_str' rfl ?_, rfl, trivial⟩
       · simp only [if_true, if_false, List.append_nil, reduceCtorEq]
       · simp only [if_true, if_false, reduceCtorEq])

end
section
theorem freshP5 : True := by w_top off; exact True.intro


local macro_rules | `(tactic| ktr_rel) => `(tactic| with_reducible first | rfl | assumption | exact lit_fig | exact lit_zero | exact lit_nil | exact lit_star | exact lit_dots | exact lit_coms | exact lit_xdoa | exact lit_dig | exact lit_a | exact lit_t | exact lit_x | exact lit_d | exact lit_o | exact lit_B | exact lit_integer | exact lit_string | exact lit_ascii | exact lit_ignore | exact lit_f02x | exact lit_f03o | exact lit_fd | exact lit_b | fail "no S")
local macro_rules | `(tactic| ktr_unf) => `(tactic| repeat' (first | (k_unfold; (try dsimp only)) | (k_end; kc_close) | ((fail_if_success (with_reducible show wpAny _ _ (exec (Stmt.While _ _ _ _) _) _ _ _)); (fail_if_success (with_reducible show wpAny _ _ (exec (Stmt.For _ _ _ _ _) _) _ _ _)); (fail_if_success (with_reducible show wpAny _ _ (eval (Expr.ListComp _ _ _ _) _) _ _ _)); (fail_if_success (with_reducible show wpAny _ _ (exec (Stmt.Assign _ (Expr.ListComp _ _ _ _) _) _) _ _ _)); (fail_if_success (with_reducible show wpAny _ _ (pyIter _) _ _ _)); (fail_if_success (with_reducible show LCg.CompSrc _ _ _ _ _ _ _ _ _ _ _ _ _ _)); (first | walk1 | (dsimp only; walk1))) | (leave1; walk_say "STEP leave1"; (try dsimp only)) | fail "no step"))
local macro_rules | `(tactic| walk_at "subscriptTail Constant str BinOp") => `(tactic| ((with_reducible show wpAny _ _ (subscriptTail _ _ (Value.str _ _) (Value.int _ _)) _ _ _); (refine' itemD_S ?hx ?h0 ?h1 ?hl ?_); (case hx => ktr_rel); (case h0 => first | decide | omega | exact fmod_lo _ (by decide)); (case h1 => first | decide | omega | exact fmod_hi _ (by decide)); (case hl => first | decide | omega | (simp only [List.length_append, List.length_cons, List.length_nil, List.length_replicate, List.length_map]; omega)); intro _ _))
local macro_rules | `(tactic| walk_at "subscriptTail") => `(tactic| ((with_reducible show wpAny _ _ (subscriptTail _ _ (Value.str _ _) (Value.int _ _)) _ _ _); (refine' itemD_S ?hx ?h0 ?h1 ?hl ?_); (case hx => ktr_rel); (case h0 => first | decide | omega | exact fmod_lo _ (by decide)); (case h1 => first | decide | omega | exact fmod_hi _ (by decide)); (case hl => first | decide | omega | (simp only [List.length_append, List.length_cons, List.length_nil, List.length_replicate, List.length_map]; omega)); intro _ _))
local macro_rules | `(tactic| walk_at "subscriptTail Name Constant str int") => `(tactic| ((with_reducible show wpAny _ _ (subscriptTail _ _ (Value.str _ _) (Value.int 0 _)) _ _ _); (refine' item0_S ?hx ?hl ?_); (case hx => ktr_rel); (case hl => first | decide | omega | (simp only [List.length_append, List.length_cons, List.length_nil, List.length_replicate, List.length_map]; omega)); intro _ _))
local macro_rules | `(tactic| walk_at "subscriptTail") => `(tactic| ((with_reducible show wpAny _ _ (subscriptTail _ _ (Value.str _ _) (Value.int 0 _)) _ _ _); (refine' item0_S ?hx ?hl ?_); (case hx => ktr_rel); (case hl => first | decide | omega | (simp only [List.length_append, List.length_cons, List.length_nil, List.length_replicate, List.length_map]; omega)); intro _ _))
local macro_rules | `(tactic| walk_at "subscriptTail Name Slice str ref") => `(tactic| ((with_reducible show wpAny _ _ (subscriptTail _ (Expr.Slice (some _) none none _) (Value.str _ _) (Value.ref _)) _ _ _); (with_reducible rename Fr _ _ _ _ => F'); (with_reducible rename News _ _ _ _ => N'); (refine' tail_S (s := ⟨_, _, _, _, _⟩) ?hx ?hl F' N' ?_); (case hx => ktr_rel); (case hl => first | decide | omega | (simp only [List.length_append, List.length_cons, List.length_nil, List.length_replicate, List.length_map]; omega)); intro _ _ _ _ _))
local macro_rules | `(tactic| walk_at "subscriptTail") => `(tactic| ((with_reducible show wpAny _ _ (subscriptTail _ (Expr.Slice (some _) none none _) (Value.str _ _) (Value.ref _)) _ _ _); (with_reducible rename Fr _ _ _ _ => F'); (with_reducible rename News _ _ _ _ => N'); (refine' tail_S (s := ⟨_, _, _, _, _⟩) ?hx ?hl F' N' ?_); (case hx => ktr_rel); (case hl => first | decide | omega | (simp only [List.length_append, List.length_cons, List.length_nil, List.length_replicate, List.length_map]; omega)); intro _ _ _ _ _))
local macro_rules | `(tactic| walk_at "call builtin:len cons nil") => `(tactic| ((with_reducible show wpAny _ _ (call (Value.builtin "len") [Value.str _ _]) _ _ _); (refine' len_S ?hx ?hl ?_); (case hx => ktr_rel); (case hl => first | decide | omega | (simp only [List.length_append, List.length_cons, List.length_nil, List.length_replicate, List.length_map]; omega)); intro _ _))
local macro_rules | `(tactic| walk_at "call builtin:len") => `(tactic| ((with_reducible show wpAny _ _ (call (Value.builtin "len") [Value.str _ _]) _ _ _); (refine' len_S ?hx ?hl ?_); (case hx => ktr_rel); (case hl => first | decide | omega | (simp only [List.length_append, List.length_cons, List.length_nil, List.length_replicate, List.length_map]; omega)); intro _ _))
local macro_rules | `(tactic| walk_at "binaryOp Add str str") => `(tactic| ((refine' add_S ?hx ?hy ?hl ?_); (case hx => ktr_rel); (case hy => ktr_rel); (case hl => first | decide | omega | (simp only [List.length_append, List.length_cons, List.length_nil, List.length_replicate, List.length_map]; omega)); intro _ _))
local macro_rules | `(tactic| walk_at "inplaceOp Add str str") => `(tactic| ((refine' iadd_S ?hx ?hy ?hl ?_); (case hx => ktr_rel); (case hy => ktr_rel); (case hl => first | decide | omega | (simp only [List.length_append, List.length_cons, List.length_nil, List.length_replicate, List.length_map]; omega)); intro _ _))
local macro_rules | `(tactic| walk_at "binaryOp Mult str int") => `(tactic| ((refine' mul_S ?hx ?hl ?h0 ?_); (case hx => ktr_rel); (case hl => omega); (case h0 => omega); intro _ _))
local macro_rules | `(tactic| walk_at "compareOp Eq str str") => `(tactic| ((refine' eq_S ?hx ?hy ?_); (case hx => ktr_rel); (case hy => ktr_rel)))
local macro_rules | `(tactic| walk_at "compareOp NotEq str str") => `(tactic| ((refine' ne_S ?hx ?hy ?_); (case hx => ktr_rel); (case hy => ktr_rel)))
local macro_rules | `(tactic| walk_at "compareOp In str str") => `(tactic| ((refine' in_S ?hx ?hy ?_); (case hx => ktr_rel); (case hy => ktr_rel)))
local macro_rules | `(tactic| walk_at "compareOp NotIn str str") => `(tactic| ((refine' notin_S ?hx ?hy ?_); (case hx => ktr_rel); (case hy => ktr_rel)))
local macro_rules | `(tactic| walk_at "truthy str") => `(tactic| ((refine' truthy_S ?hx ?hl ?_); (case hx => ktr_rel); (case hl => first | decide | omega | (simp only [List.length_append, List.length_cons, List.length_nil, List.length_replicate, List.length_map]; omega)); intro _))
local macro_rules | `(tactic| walk_at "call type:int cons nil") => `(tactic| ((with_reducible show wpAny _ _ (call (Value.type "int") [Value.str _ _]) _ _ _); (refine' int_S ?hx ?hc ?_); (case hx => ktr_rel); (case hc => omega); intro _ _))
local macro_rules | `(tactic| walk_at "call type:int") => `(tactic| ((with_reducible show wpAny _ _ (call (Value.type "int") [Value.str _ _]) _ _ _); (refine' int_S ?hx ?hc ?_); (case hx => ktr_rel); (case hc => omega); intro _ _))
local macro_rules | `(tactic| walk_at "compareOp Is bytes ref") => `(tactic| (refine wpAny_is_other (by rfl) (by intro x; cases x) ?_))
local macro_rules | `(tactic| walk_at "truthy str") => `(tactic| first | ((refine truthy_Sn (by with_reducible first | rfl | exact lit_nil) ?_); intro _) | ((refine truthy_Sc (by with_reducible first | rfl | exact lit_star) (by first | decide | omega | (simp only [List.length_append, List.length_cons, List.length_nil, List.length_replicate, List.length_map] at *; omega)) ?_); intro _))

local macro_rules | `(tactic| walk_at "truthy bytes") => `(tactic| (refine truthy_B (by first | omega | (simp only [List.length_append, List.length_cons, List.length_nil, List.length_take, List.length_drop]; omega)) ?_; intro _))
local macro_rules | `(tactic| walk_at "call builtin:len") => `(tactic| ((with_reducible show wpAny _ _ (call (Value.builtin "len") [Value.bytes (List.toArray _) _]) _ _ _); refine len_B (by first | omega | (simp only [List.length_append, List.length_cons, List.length_nil, List.length_take, List.length_drop]; omega)) ?_; intro _ _))
local macro_rules | `(tactic| walk_at "subscriptTail Name str Constant bytes int") => `(tactic| ((with_reducible show wpAny _ _ (subscriptTail _ _ (Value.bytes (List.toArray (_ :: _)) _) (Value.int 0 _)) _ _ _); refine item0_B (by first | omega | (simp only [List.length_append, List.length_cons, List.length_nil] at *; omega)) ?_; intro _ _))
local macro_rules | `(tactic| walk_at "subscriptTail Name Constant bytes int") => `(tactic| ((with_reducible show wpAny _ _ (subscriptTail _ _ (Value.bytes (List.toArray (_ :: _)) _) (Value.int 0 _)) _ _ _); refine item0_B (by first | omega | (simp only [List.length_append, List.length_cons, List.length_nil] at *; omega)) ?_; intro _ _))
local macro_rules | `(tactic| walk_at "subscriptTail") => `(tactic| ((with_reducible show wpAny _ _ (subscriptTail _ _ (Value.bytes (List.toArray (_ :: _)) _) (Value.int 0 _)) _ _ _); refine item0_B (by first | omega | (simp only [List.length_append, List.length_cons, List.length_nil] at *; omega)) ?_; intro _ _))
local macro_rules | `(tactic| walk_at "subscriptTail Name str Slice") => `(tactic| ((with_reducible show wpAny _ _ (subscriptTail _ (Expr.Slice none (some _) none _) (Value.bytes (List.toArray _) _) (Value.ref _)) _ _ _); (with_reducible rename Fr _ _ _ _ => F'); (with_reducible rename News _ _ _ _ => N'); (refine head_B (s := ⟨_, _, _, _, _⟩) F' N' (by first | decide | omega) (by first | omega | (simp only [List.length_append, List.length_cons, List.length_nil, List.length_take, List.length_drop] at *; omega)) ?_); intro _ _ _ _ _))
local macro_rules | `(tactic| walk_at "subscriptTail") => `(tactic| ((with_reducible show wpAny _ _ (subscriptTail _ (Expr.Slice none (some _) none _) (Value.bytes (List.toArray _) _) (Value.ref _)) _ _ _); (with_reducible rename Fr _ _ _ _ => F'); (with_reducible rename News _ _ _ _ => N'); (refine head_B (s := ⟨_, _, _, _, _⟩) F' N' (by first | decide | omega) (by first | omega | (simp only [List.length_append, List.length_cons, List.length_nil, List.length_take, List.length_drop] at *; omega)) ?_); intro _ _ _ _ _))
local macro_rules | `(tactic| walk_at "subscriptTail Name str Slice") => `(tactic| ((with_reducible show wpAny _ _ (subscriptTail _ (Expr.Slice (some _) none none _) (Value.bytes (List.toArray _) _) (Value.ref _)) _ _ _); (with_reducible rename Fr _ _ _ _ => F'); (with_reducible rename News _ _ _ _ => N'); (refine drop_B (s := ⟨_, _, _, _, _⟩) F' N' (by first | decide | omega) (by first | omega | (simp only [List.length_append, List.length_cons, List.length_nil, List.length_take, List.length_drop] at *; omega)) ?_); intro _ _ _ _ _))
local macro_rules | `(tactic| walk_at "subscriptTail") => `(tactic| ((with_reducible show wpAny _ _ (subscriptTail _ (Expr.Slice (some _) none none _) (Value.bytes (List.toArray _) _) (Value.ref _)) _ _ _); (with_reducible rename Fr _ _ _ _ => F'); (with_reducible rename News _ _ _ _ => N'); (refine drop_B (s := ⟨_, _, _, _, _⟩) F' N' (by first | decide | omega) (by first | omega | (simp only [List.length_append, List.length_cons, List.length_nil, List.length_take, List.length_drop] at *; omega)) ?_); intro _ _ _ _ _))
local macro_rules | `(tactic| walk_at "binaryOp Mod str int") => `(tactic| (first | ((with_reducible refine mod_x ?h0 ?h1 ?_); (case h0 => omega); (case h1 => omega); intro _ _) | ((with_reducible refine mod_o ?h0 ?h1 ?_); (case h0 => omega); (case h1 => omega); intro _ _)))
local macro_rules | `(tactic| walk_at "call builtin:bytes.decode") => `(tactic| ((with_reducible refine decode_B ?h0 ?h1 ?_); (case h0 => first | assumption | omega); (case h1 => assumption); intro _ _))
local macro_rules | `(tactic| walk_at "inplaceOp LShift int int") => `(tactic| ((refine shl8 (by omega) ?_); intro _ _))
local macro_rules | `(tactic| walk_at "inplaceOp BitOr int int") => `(tactic| ((refine or8 (by first | assumption | omega) ?_); intro _ _))
local macro_rules | `(tactic| walk_at "truthy bytes") => `(tactic| first | ((with_reducible refine truthy_Bn ?_); intro _) | ((with_reducible refine truthy_Bc ?hl ?_); (case hl => first | decide | omega | (simp only [List.length_append, List.length_cons, List.length_nil, List.length_replicate, List.length_map] at *; omega)); intro _))

local macro_rules | `(tactic| ktr_unf) => `(tactic| repeat' (first | (k_unfold; (try dsimp only)) | (k_end; kc_close) | ((fail_if_success (with_reducible show wpAny _ _ (exec (Stmt.While _ _ _ _) _) _ _ _)); (fail_if_success (with_reducible show wpAny _ _ (execs (Stmt.While _ _ _ _ :: _) _) _ _ _)); (fail_if_success (with_reducible show wpAny _ _ (exec (Stmt.For _ _ _ _ _) _) _ _ _)); (fail_if_success (with_reducible show wpAny _ _ (eval (Expr.ListComp _ _ _ _) _) _ _ _)); (fail_if_success (with_reducible show wpAny _ _ (exec (Stmt.Assign _ (Expr.ListComp _ _ _ _) _) _) _ _ _)); (fail_if_success (with_reducible show wpAny _ _ (pyIter _) _ _ _)); (fail_if_success (with_reducible show wpAny _ _ (exec (Stmt.If (Expr.Compare _ _ [Expr.Constant (Const.str (Str.ofString "a")) _ _] _) _ _ _) _) _ _ _)); (fail_if_success (with_reducible show LCg.CompSrc _ _ _ _ _ _ _ _ _ _ _ _ _ _)); (first | walk1 | (dsimp only; walk1))) | (leave1; walk_say "STEP leave1"; (try dsimp only)) | fail "no step"))

structure Pt where
  len : Nat
  wy : Nat
  rep : Bool
  kd : Nat
  c1 : Nat
  c2 : Nat
def digs : List Nat := [48, 49, 50, 51, 52, 53, 54, 55, 56, 57]
def signs (p : Pt) : List Nat := match p.kd with
  | 0 => []
  | 1 => [p.c1]
  | _ => [p.c1, p.c2]
def codes (p : Pt) : List Nat := (if p.rep = true then [42] else []) ++ (48 + p.len) :: wayC p.wy :: signs p
def mkP (p : Pt) : Option Nat := match p.kd with
  | 0 => none
  | 1 => none
  | _ => some p.c2
def sepP (p : Pt) : List Nat := match p.kd with
  | 1 => [p.c1]
  | _ => []
def POk (p : Pt) : Prop := 1 ≤ p.len ∧ p.len ≤ 2 ∧ p.wy < 4 ∧ p.kd ≤ 2 ∧ (p.kd = 2 → p.rep = true) ∧ p.c1 ∉ [48, 49, 50, 51, 52, 53, 54, 55, 56, 57] ∧ p.c1 ≠ 42
def hdrP (p : Pt) (rows : List (List UInt8)) : List UInt8 := if p.rep = true then [UInt8.ofNat rows.length] else []
def Opens (R : List Nat) : Prop := match R with
  | [] => True
  | c :: _ => c ∈ [48, 49, 50, 51, 52, 53, 54, 55, 56, 57] ∨ c = 42
theorem sg0 {l w r a b} : signs ⟨l, w, r, 0, a, b⟩ = [] := rfl
theorem sg1 {l w r a b} : signs ⟨l, w, r, 1, a, b⟩ = [a] := rfl
theorem sg2 {l w r a b} : signs ⟨l, w, r, 2, a, b⟩ = [a, b] := rfl
def riV (rep : Bool) (n : Nat) (t : Tok) : Value := match rep with
  | true => .int (n : Int) t
  | false => .none
def s8 : Stmt := nthS (bodyS wOuter) 8
def s9 : Stmt := nthS (bodyS wOuter) 9
theorem sep_spec : ∀ {w : World} {mean : ExcName → Option Value} {mg mb : Str → Option Value} (dp un : Nat) (gd : Option (List Code)) (outer : List Env) (A₀ : Around) (base h₀ : Heap) (L : Addr) (m : Str → Option Value) (news : List (Addr × Obj)) (s : Shared) (p : Pt) (rows : List (List UInt8)) (rest : List UInt8) (out R full : List Nat) (x d : Addr) (hw k1 k2 : Tok) (t1 t2 t3 t4 t5 t6 t7 : Tok) (Q : Flow → Shared → Prop) (E : Value → Shared → Prop)
    (_ : Below A₀ base outer h₀) (_ : Fr h₀ L s.heap m) (_ : (hd.heap_39 w.params).In h₀) (_ : News h₀ L s.heap ((x, instObj 313 d) :: (d, dictOf (objD w (.str (S full) hw) (.ref 63) k1 k2) 2) :: news)) (_ : Top hd.view_39 (looseW hd.view_39 [Str.ofString "noValue", Str.ofString "Value", Str.ofString "Integer32", Str.ofString "OctetString", Str.ofString "SmiError", Str.ofString "TextualConvention", Str.ofString "HintedString", Str.ofString "HintedInteger", Str.ofString "TestAndIncr", Str.ofString "RowStatus"]) mean mg mb h₀)
    (_ : POk p) (_ : Opens R) (_ : p.rep = true → p.kd = 1 → R = []) (_ : (rows.flatten ++ rest).length ≤ 9000) (_ : out.length + 30 * rows.length ≤ 40000) (_ : RowsOk p.len rest rows) (_ : Asc p.wy rows) (_ : R.length ≤ 100) (_ : full.length ≤ 1000)
    (_ : Has m [(Str.ofString "outputValue", .str (S out) t1), (Str.ofString "runningValue", .bytes (rows.flatten ++ rest).toArray t2), (Str.ofString "repeatCount", .int (rows.length : Int) t3), (Str.ofString "displayFormat", .str (S [wayC p.wy]) t4), (Str.ofString "octetLength", .int (p.len : Int) t5), (Str.ofString "repeatIndicator", riV p.rep rows.length t6), (Str.ofString "displayHint", .str (S (signs p ++ R)) t7), (Str.ofString "self", .ref x)])
    (_ : PassesOwn (model Challenge.rw_am6029_01.row.prog w) (ktrTop dp un gd (Str.ofString "TextualConvention.prettyOut") pScope L 276 (Value.ref 275) [] outer) (envOf (Str.ofString "TextualConvention.prettyOut") pScope L 276 (Value.ref 275)) E)
    (_ : ∀ (h' : Heap) (tk : Nat) (m' : Str → Option Value) (t t' t'' : Tok), Fr h₀ L h' m' → News h₀ L h' ((x, instObj 313 d) :: (d, dictOf (objD w (.str (S full) hw) (.ref 63) k1 k2) 2) :: news) → Has m' [(Str.ofString "outputValue", .str (S (out ++ tells p.wy (mkP p).toList rows ++ if rest = [] then [] else sepP p)) t), (Str.ofString "runningValue", .bytes rest.toArray t'), (Str.ofString "displayHint", .str (S (if R = [] then full else R)) t''), (Str.ofString "self", .ref x)] → Q .next { s with heap := h', toks := tk }),
    wpAny (model Challenge.rw_am6029_01.row.prog w) (ktrTop dp un gd (Str.ofString "TextualConvention.prettyOut") pScope L 276 (Value.ref 275) [] outer) (execs [s8, s9, wRep, sepS, endS] (envOf (Str.ofString "TextualConvention.prettyOut") pScope L 276 (Value.ref 275))) Q E s := by
  k_fill
  intro w mean mg mb dp un gd outer A₀ base h₀ L m news s p rows rest out R full x d hw k1 k2 t1 t2 t3 t4 t5 t6 t7 Q E B F X N T hp hR hrk hsz hout hok hasc hRl hfull hm hE hret
  conv => arg 3; arg 1; arg 1; whnf
  conv => arg 3; arg 1; arg 2; arg 1; whnf
  conv => arg 3; arg 1; arg 2; arg 2; arg 1; whnf
  obtain ⟨len, wy, rep, kd, c1, c2⟩ := p
  obtain ⟨hl1, hl2, hwy, hkd, hkr, hc1, hc42⟩ := hp
  dsimp only at hl1 hl2 hwy hkd hkr hc1 hc42 hrk hok hasc
  have h42 : ¬ [c1] = [42] := by simp only [List.cons.injEq, and_true]; omega
  have hrl2 : R.length + 2 ≤ 102 := by omega
  rcases (by omega : kd = 0 ∨ kd = 1 ∨ kd = 2) with rfl | rfl | rfl
  · rw [sg0, List.nil_append] at hm
    rw [← pin_eq hm] at F
    clear hm
    rcases rep with _ | _ <;> rcases R with _ | ⟨g, R⟩ <;> dsimp only [pin, riV] at F
    · ktr_unf
      all_goals try contradiction
      rename Fr _ _ _ _ => F2
      rename News _ _ _ _ => N2
      refine rest_spec _ _ _ _ _ _ _ _ _ _ _ wy len rows rest out [] [] full none x d _ _ _ _ _ _ _ _ t1 _ _ _ _ B F2 X N2 T hwy hl1 hl2 (by omega) hout hok hasc (by simp) (by first | decide | (simp only [List.length_cons]; omega)) hfull ⟨rfl, rfl, rfl, rfl, rfl, rfl, congrArg (fun x => some (Value.str x _)) lit_nil, rfl, rfl, trivial⟩ hE hret
    · have hR9 : R.length ≤ 100 := by simp only [List.length_cons] at hRl; omega
      rcases hR with hg | rfl
      · ktr_unf
        all_goals try contradiction
        rename Fr _ _ _ _ => F2
        rename News _ _ _ _ => N2
        refine rest_spec _ _ _ _ _ _ _ _ _ _ _ wy len rows rest out [] (g :: R) full none x d _ _ _ _ _ _ _ _ t1 _ _ _ _ B F2 X N2 T hwy hl1 hl2 (by omega) hout hok hasc (by simp) (by first | decide | (simp only [List.length_cons]; omega)) hfull ⟨rfl, rfl, rfl, rfl, rfl, rfl, congrArg (fun x => some (Value.str x _)) lit_nil, rfl, rfl, trivial⟩ hE hret
      · ktr_unf
        all_goals try contradiction
        rename Fr _ _ _ _ => F2
        rename News _ _ _ _ => N2
        refine rest_spec _ _ _ _ _ _ _ _ _ _ _ wy len rows rest out [] (42 :: R) full none x d _ _ _ _ _ _ _ _ t1 _ _ _ _ B F2 X N2 T hwy hl1 hl2 (by omega) hout hok hasc (by simp) (by first | decide | (simp only [List.length_cons]; omega)) hfull ⟨rfl, rfl, rfl, rfl, rfl, rfl, congrArg (fun x => some (Value.str x _)) lit_nil, rfl, rfl, trivial⟩ hE hret
    · ktr_unf
      all_goals try contradiction
      rename Fr _ _ _ _ => F2
      rename News _ _ _ _ => N2
      refine rest_spec _ _ _ _ _ _ _ _ _ _ _ wy len rows rest out [] [] full none x d _ _ _ _ _ _ _ _ t1 _ _ _ _ B F2 X N2 T hwy hl1 hl2 (by omega) hout hok hasc (by simp) (by first | decide | (simp only [List.length_cons]; omega)) hfull ⟨rfl, rfl, rfl, rfl, rfl, rfl, congrArg (fun x => some (Value.str x _)) lit_nil, rfl, rfl, trivial⟩ hE hret
    · have hR9 : R.length ≤ 100 := by simp only [List.length_cons] at hRl; omega
      rcases hR with hg | rfl
      · ktr_unf
        all_goals try contradiction
        rename Fr _ _ _ _ => F2
        rename News _ _ _ _ => N2
        refine rest_spec _ _ _ _ _ _ _ _ _ _ _ wy len rows rest out [] (g :: R) full none x d _ _ _ _ _ _ _ _ t1 _ _ _ _ B F2 X N2 T hwy hl1 hl2 (by omega) hout hok hasc (by simp) (by first | decide | (simp only [List.length_cons]; omega)) hfull ⟨rfl, rfl, rfl, rfl, rfl, rfl, congrArg (fun x => some (Value.str x _)) lit_nil, rfl, rfl, trivial⟩ hE hret
      · ktr_unf
        all_goals try contradiction
        rename Fr _ _ _ _ => F2
        rename News _ _ _ _ => N2
        refine rest_spec _ _ _ _ _ _ _ _ _ _ _ wy len rows rest out [] (42 :: R) full none x d _ _ _ _ _ _ _ _ t1 _ _ _ _ B F2 X N2 T hwy hl1 hl2 (by omega) hout hok hasc (by simp) (by first | decide | (simp only [List.length_cons]; omega)) hfull ⟨rfl, rfl, rfl, rfl, rfl, rfl, congrArg (fun x => some (Value.str x _)) lit_nil, rfl, rfl, trivial⟩ hE hret
  · rw [sg1, List.cons_append, List.nil_append] at hm
    rw [← pin_eq hm] at F
    clear hm
    rcases rep with _ | _ <;> rcases R with _ | ⟨g, R⟩ <;> dsimp only [pin, riV] at F
    · ktr_unf
      all_goals try contradiction
      rename Fr _ _ _ _ => F2
      rename News _ _ _ _ => N2
      refine rest_spec _ _ _ _ _ _ _ _ _ _ _ wy len rows rest out [c1] [] full none x d _ _ _ _ _ _ _ _ t1 _ _ _ _ B F2 X N2 T hwy hl1 hl2 (by omega) hout hok hasc (by simp) (by first | decide | (simp only [List.length_cons]; omega)) hfull ⟨rfl, rfl, rfl, rfl, rfl, rfl, rfl, rfl, rfl, trivial⟩ hE hret
    · have hR9 : R.length ≤ 100 := by simp only [List.length_cons] at hRl; omega
      ktr_unf
      all_goals try contradiction
      rename Fr _ _ _ _ => F2
      rename News _ _ _ _ => N2
      refine rest_spec _ _ _ _ _ _ _ _ _ _ _ wy len rows rest out [c1] (g :: R) full none x d _ _ _ _ _ _ _ _ t1 _ _ _ _ B F2 X N2 T hwy hl1 hl2 (by omega) hout hok hasc (by simp) (by first | decide | (simp only [List.length_cons]; omega)) hfull ⟨rfl, rfl, rfl, rfl, rfl, rfl, rfl, rfl, rfl, trivial⟩ hE hret
    · ktr_unf
      all_goals try contradiction
      rename Fr _ _ _ _ => F2
      rename News _ _ _ _ => N2
      refine rest_spec _ _ _ _ _ _ _ _ _ _ _ wy len rows rest out [c1] [] full none x d _ _ _ _ _ _ _ _ t1 _ _ _ _ B F2 X N2 T hwy hl1 hl2 (by omega) hout hok hasc (by simp) (by first | decide | (simp only [List.length_cons]; omega)) hfull ⟨rfl, rfl, rfl, rfl, rfl, rfl, rfl, rfl, rfl, trivial⟩ hE hret
    · exact absurd (hrk rfl rfl) (List.cons_ne_nil _ _)
  · rw [sg2, List.cons_append, List.cons_append, List.nil_append] at hm
    obtain rfl := hkr rfl
    rw [← pin_eq hm] at F
    clear hm
    rcases R with _ | ⟨g, R⟩ <;> dsimp only [pin, riV] at F
    · ktr_unf
      all_goals try contradiction
      rename Fr _ _ _ _ => F2
      rename News _ _ _ _ => N2
      refine rest_spec _ _ _ _ _ _ _ _ _ _ _ wy len rows rest out [] [] full (some c2) x d _ _ _ _ _ _ _ _ _ _ _ _ _ B F2 X N2 T hwy hl1 hl2 (by omega) hout hok hasc (by simp) (by first | decide | (simp only [List.length_cons]; omega)) hfull ⟨rfl, rfl, rfl, rfl, rfl, rfl, congrArg (fun x => some (Value.str x _)) lit_nil, rfl, rfl, trivial⟩ hE hret
    · have hR9 : R.length ≤ 100 := by simp only [List.length_cons] at hRl; omega
      ktr_unf
      all_goals try contradiction
      rename Fr _ _ _ _ => F2
      rename News _ _ _ _ => N2
      refine rest_spec _ _ _ _ _ _ _ _ _ _ _ wy len rows rest out [] (g :: R) full (some c2) x d _ _ _ _ _ _ _ _ _ _ _ _ _ B F2 X N2 T hwy hl1 hl2 (by omega) hout hok hasc (by simp) (by first | decide | (simp only [List.length_cons]; omega)) hfull ⟨rfl, rfl, rfl, rfl, rfl, rfl, congrArg (fun x => some (Value.str x _)) lit_nil, rfl, rfl, trivial⟩ hE hret

end
section
theorem freshP6 : True := by w_top off; exact True.intro
local macro_rules | `(tactic| walk_at "pad of mine") => `(tactic| fail "a pad")


local macro_rules | `(tactic| ktr_rel) => `(tactic| with_reducible first | rfl | assumption | exact lit_fig | exact lit_zero | exact lit_nil | exact lit_star | exact lit_dots | exact lit_coms | exact lit_xdoa | exact lit_dig | exact lit_a | exact lit_t | exact lit_x | exact lit_d | exact lit_o | exact lit_B | exact lit_integer | exact lit_string | exact lit_ascii | exact lit_ignore | exact lit_f02x | exact lit_f03o | exact lit_fd | exact lit_b | fail "no S")
local macro_rules | `(tactic| ktr_unf) => `(tactic| repeat' (first | (k_unfold; (try dsimp only)) | (k_end; kc_close) | ((fail_if_success (with_reducible show wpAny _ _ (exec (Stmt.While _ _ _ _) _) _ _ _)); (fail_if_success (with_reducible show wpAny _ _ (exec (Stmt.For _ _ _ _ _) _) _ _ _)); (fail_if_success (with_reducible show wpAny _ _ (eval (Expr.ListComp _ _ _ _) _) _ _ _)); (fail_if_success (with_reducible show wpAny _ _ (exec (Stmt.Assign _ (Expr.ListComp _ _ _ _) _) _) _ _ _)); (fail_if_success (with_reducible show wpAny _ _ (pyIter _) _ _ _)); (fail_if_success (with_reducible show LCg.CompSrc _ _ _ _ _ _ _ _ _ _ _ _ _ _)); (first | walk1 | (dsimp only; walk1))) | (leave1; walk_say "STEP leave1"; (try dsimp only)) | fail "no step"))
local macro_rules | `(tactic| walk_at "subscriptTail Constant str BinOp") => `(tactic| ((with_reducible show wpAny _ _ (subscriptTail _ _ (Value.str _ _) (Value.int _ _)) _ _ _); (refine' itemD_S ?hx ?h0 ?h1 ?hl ?_); (case hx => ktr_rel); (case h0 => first | decide | omega | exact fmod_lo _ (by decide)); (case h1 => first | decide | omega | exact fmod_hi _ (by decide)); (case hl => first | decide | omega | (simp only [List.length_append, List.length_cons, List.length_nil, List.length_replicate, List.length_map]; omega)); intro _ _))
local macro_rules | `(tactic| walk_at "subscriptTail") => `(tactic| ((with_reducible show wpAny _ _ (subscriptTail _ _ (Value.str _ _) (Value.int _ _)) _ _ _); (refine' itemD_S ?hx ?h0 ?h1 ?hl ?_); (case hx => ktr_rel); (case h0 => first | decide | omega | exact fmod_lo _ (by decide)); (case h1 => first | decide | omega | exact fmod_hi _ (by decide)); (case hl => first | decide | omega | (simp only [List.length_append, List.length_cons, List.length_nil, List.length_replicate, List.length_map]; omega)); intro _ _))
local macro_rules | `(tactic| walk_at "subscriptTail Name Constant str int") => `(tactic| ((with_reducible show wpAny _ _ (subscriptTail _ _ (Value.str _ _) (Value.int 0 _)) _ _ _); (refine' item0_S ?hx ?hl ?_); (case hx => ktr_rel); (case hl => first | decide | omega | (simp only [List.length_append, List.length_cons, List.length_nil, List.length_replicate, List.length_map]; omega)); intro _ _))
local macro_rules | `(tactic| walk_at "subscriptTail") => `(tactic| ((with_reducible show wpAny _ _ (subscriptTail _ _ (Value.str _ _) (Value.int 0 _)) _ _ _); (refine' item0_S ?hx ?hl ?_); (case hx => ktr_rel); (case hl => first | decide | omega | (simp only [List.length_append, List.length_cons, List.length_nil, List.length_replicate, List.length_map]; omega)); intro _ _))
local macro_rules | `(tactic| walk_at "subscriptTail Name Slice str ref") => `(tactic| ((with_reducible show wpAny _ _ (subscriptTail _ (Expr.Slice (some _) none none _) (Value.str _ _) (Value.ref _)) _ _ _); (with_reducible rename Fr _ _ _ _ => F'); (with_reducible rename News _ _ _ _ => N'); (refine' tail_S (s := ⟨_, _, _, _, _⟩) ?hx ?hl F' N' ?_); (case hx => ktr_rel); (case hl => first | decide | omega | (simp only [List.length_append, List.length_cons, List.length_nil, List.length_replicate, List.length_map]; omega)); intro _ _ _ _ _))
local macro_rules | `(tactic| walk_at "subscriptTail") => `(tactic| ((with_reducible show wpAny _ _ (subscriptTail _ (Expr.Slice (some _) none none _) (Value.str _ _) (Value.ref _)) _ _ _); (with_reducible rename Fr _ _ _ _ => F'); (with_reducible rename News _ _ _ _ => N'); (refine' tail_S (s := ⟨_, _, _, _, _⟩) ?hx ?hl F' N' ?_); (case hx => ktr_rel); (case hl => first | decide | omega | (simp only [List.length_append, List.length_cons, List.length_nil, List.length_replicate, List.length_map]; omega)); intro _ _ _ _ _))
local macro_rules | `(tactic| walk_at "call builtin:len cons nil") => `(tactic| ((with_reducible show wpAny _ _ (call (Value.builtin "len") [Value.str _ _]) _ _ _); (refine' len_S ?hx ?hl ?_); (case hx => ktr_rel); (case hl => first | decide | omega | (simp only [List.length_append, List.length_cons, List.length_nil, List.length_replicate, List.length_map]; omega)); intro _ _))
local macro_rules | `(tactic| walk_at "call builtin:len") => `(tactic| ((with_reducible show wpAny _ _ (call (Value.builtin "len") [Value.str _ _]) _ _ _); (refine' len_S ?hx ?hl ?_); (case hx => ktr_rel); (case hl => first | decide | omega | (simp only [List.length_append, List.length_cons, List.length_nil, List.length_replicate, List.length_map]; omega)); intro _ _))
local macro_rules | `(tactic| walk_at "binaryOp Add str str") => `(tactic| ((refine' add_S ?hx ?hy ?hl ?_); (case hx => ktr_rel); (case hy => ktr_rel); (case hl => first | decide | omega | (simp only [List.length_append, List.length_cons, List.length_nil, List.length_replicate, List.length_map]; omega)); intro _ _))
local macro_rules | `(tactic| walk_at "inplaceOp Add str str") => `(tactic| ((refine' iadd_S ?hx ?hy ?hl ?_); (case hx => ktr_rel); (case hy => ktr_rel); (case hl => first | decide | omega | (simp only [List.length_append, List.length_cons, List.length_nil, List.length_replicate, List.length_map]; omega)); intro _ _))
local macro_rules | `(tactic| walk_at "binaryOp Mult str int") => `(tactic| ((refine' mul_S ?hx ?hl ?h0 ?_); (case hx => ktr_rel); (case hl => omega); (case h0 => omega); intro _ _))
local macro_rules | `(tactic| walk_at "compareOp Eq str str") => `(tactic| ((refine' eq_S ?hx ?hy ?_); (case hx => ktr_rel); (case hy => ktr_rel)))
local macro_rules | `(tactic| walk_at "compareOp NotEq str str") => `(tactic| ((refine' ne_S ?hx ?hy ?_); (case hx => ktr_rel); (case hy => ktr_rel)))
local macro_rules | `(tactic| walk_at "compareOp In str str") => `(tactic| ((refine' in_S ?hx ?hy ?_); (case hx => ktr_rel); (case hy => ktr_rel)))
local macro_rules | `(tactic| walk_at "compareOp NotIn str str") => `(tactic| ((refine' notin_S ?hx ?hy ?_); (case hx => ktr_rel); (case hy => ktr_rel)))
local macro_rules | `(tactic| walk_at "truthy str") => `(tactic| ((refine' truthy_S ?hx ?hl ?_); (case hx => ktr_rel); (case hl => first | decide | omega | (simp only [List.length_append, List.length_cons, List.length_nil, List.length_replicate, List.length_map]; omega)); intro _))
local macro_rules | `(tactic| walk_at "call type:int cons nil") => `(tactic| ((with_reducible show wpAny _ _ (call (Value.type "int") [Value.str _ _]) _ _ _); (refine' int_S ?hx ?hc ?_); (case hx => ktr_rel); (case hc => omega); intro _ _))
local macro_rules | `(tactic| walk_at "call type:int") => `(tactic| ((with_reducible show wpAny _ _ (call (Value.type "int") [Value.str _ _]) _ _ _); (refine' int_S ?hx ?hc ?_); (case hx => ktr_rel); (case hc => omega); intro _ _))
local macro_rules | `(tactic| walk_at "compareOp Is bytes ref") => `(tactic| (refine wpAny_is_other (by rfl) (by intro x; cases x) ?_))
local macro_rules | `(tactic| walk_at "truthy str") => `(tactic| first | ((refine truthy_Sn (by with_reducible first | rfl | exact lit_nil) ?_); intro _) | ((refine truthy_Sc (by with_reducible first | rfl | exact lit_star) (by first | decide | omega | (simp only [List.length_append, List.length_cons, List.length_nil, List.length_replicate, List.length_map] at *; omega)) ?_); intro _))

local macro_rules | `(tactic| walk_at "truthy bytes") => `(tactic| (refine truthy_B (by first | omega | (simp only [List.length_append, List.length_cons, List.length_nil, List.length_take, List.length_drop]; omega)) ?_; intro _))
local macro_rules | `(tactic| walk_at "call builtin:len") => `(tactic| ((with_reducible show wpAny _ _ (call (Value.builtin "len") [Value.bytes (List.toArray _) _]) _ _ _); refine len_B (by first | omega | (simp only [List.length_append, List.length_cons, List.length_nil, List.length_take, List.length_drop]; omega)) ?_; intro _ _))
local macro_rules | `(tactic| walk_at "subscriptTail Name str Constant bytes int") => `(tactic| ((with_reducible show wpAny _ _ (subscriptTail _ _ (Value.bytes (List.toArray (_ :: _)) _) (Value.int 0 _)) _ _ _); refine item0_B (by first | omega | (simp only [List.length_append, List.length_cons, List.length_nil] at *; omega)) ?_; intro _ _))
local macro_rules | `(tactic| walk_at "subscriptTail Name Constant bytes int") => `(tactic| ((with_reducible show wpAny _ _ (subscriptTail _ _ (Value.bytes (List.toArray (_ :: _)) _) (Value.int 0 _)) _ _ _); refine item0_B (by first | omega | (simp only [List.length_append, List.length_cons, List.length_nil] at *; omega)) ?_; intro _ _))
local macro_rules | `(tactic| walk_at "subscriptTail") => `(tactic| ((with_reducible show wpAny _ _ (subscriptTail _ _ (Value.bytes (List.toArray (_ :: _)) _) (Value.int 0 _)) _ _ _); refine item0_B (by first | omega | (simp only [List.length_append, List.length_cons, List.length_nil] at *; omega)) ?_; intro _ _))
local macro_rules | `(tactic| walk_at "subscriptTail Name str Slice") => `(tactic| ((with_reducible show wpAny _ _ (subscriptTail _ (Expr.Slice none (some _) none _) (Value.bytes (List.toArray _) _) (Value.ref _)) _ _ _); (with_reducible rename Fr _ _ _ _ => F'); (with_reducible rename News _ _ _ _ => N'); (refine head_B (s := ⟨_, _, _, _, _⟩) F' N' (by first | decide | omega) (by first | omega | (simp only [List.length_append, List.length_cons, List.length_nil, List.length_take, List.length_drop] at *; omega)) ?_); intro _ _ _ _ _))
local macro_rules | `(tactic| walk_at "subscriptTail") => `(tactic| ((with_reducible show wpAny _ _ (subscriptTail _ (Expr.Slice none (some _) none _) (Value.bytes (List.toArray _) _) (Value.ref _)) _ _ _); (with_reducible rename Fr _ _ _ _ => F'); (with_reducible rename News _ _ _ _ => N'); (refine head_B (s := ⟨_, _, _, _, _⟩) F' N' (by first | decide | omega) (by first | omega | (simp only [List.length_append, List.length_cons, List.length_nil, List.length_take, List.length_drop] at *; omega)) ?_); intro _ _ _ _ _))
local macro_rules | `(tactic| walk_at "subscriptTail Name str Slice") => `(tactic| ((with_reducible show wpAny _ _ (subscriptTail _ (Expr.Slice (some _) none none _) (Value.bytes (List.toArray _) _) (Value.ref _)) _ _ _); (with_reducible rename Fr _ _ _ _ => F'); (with_reducible rename News _ _ _ _ => N'); (refine drop_B (s := ⟨_, _, _, _, _⟩) F' N' (by first | decide | omega) (by first | omega | (simp only [List.length_append, List.length_cons, List.length_nil, List.length_take, List.length_drop] at *; omega)) ?_); intro _ _ _ _ _))
local macro_rules | `(tactic| walk_at "subscriptTail") => `(tactic| ((with_reducible show wpAny _ _ (subscriptTail _ (Expr.Slice (some _) none none _) (Value.bytes (List.toArray _) _) (Value.ref _)) _ _ _); (with_reducible rename Fr _ _ _ _ => F'); (with_reducible rename News _ _ _ _ => N'); (refine drop_B (s := ⟨_, _, _, _, _⟩) F' N' (by first | decide | omega) (by first | omega | (simp only [List.length_append, List.length_cons, List.length_nil, List.length_take, List.length_drop] at *; omega)) ?_); intro _ _ _ _ _))
local macro_rules | `(tactic| walk_at "binaryOp Mod str int") => `(tactic| (first | ((with_reducible refine mod_x ?h0 ?h1 ?_); (case h0 => omega); (case h1 => omega); intro _ _) | ((with_reducible refine mod_o ?h0 ?h1 ?_); (case h0 => omega); (case h1 => omega); intro _ _)))
local macro_rules | `(tactic| walk_at "call builtin:bytes.decode") => `(tactic| ((with_reducible refine decode_B ?h0 ?h1 ?_); (case h0 => first | assumption | omega); (case h1 => assumption); intro _ _))
local macro_rules | `(tactic| walk_at "inplaceOp LShift int int") => `(tactic| ((refine shl8 (by omega) ?_); intro _ _))
local macro_rules | `(tactic| walk_at "inplaceOp BitOr int int") => `(tactic| ((refine or8 (by first | assumption | omega) ?_); intro _ _))
local macro_rules | `(tactic| walk_at "truthy bytes") => `(tactic| first | ((with_reducible refine truthy_Bn ?_); intro _) | ((with_reducible refine truthy_Bc ?hl ?_); (case hl => first | decide | omega | (simp only [List.length_append, List.length_cons, List.length_nil, List.length_replicate, List.length_map] at *; omega)); intro _))

local macro_rules | `(tactic| ktr_unf) => `(tactic| repeat' (first | (k_unfold; (try dsimp only)) | (k_end; kc_close) | ((fail_if_success (with_reducible show wpAny _ _ (exec (Stmt.While _ _ _ _) _) _ _ _)); (fail_if_success (with_reducible show wpAny _ _ (execs (Stmt.While _ _ _ _ :: _) _) _ _ _)); (fail_if_success (with_reducible show wpAny _ _ (execs (Stmt.If (Expr.BoolOp _ [_, _, _] _) _ _ _ :: _) _) _ _ _)); (fail_if_success (with_reducible show wpAny _ _ (exec (Stmt.For _ _ _ _ _) _) _ _ _)); (fail_if_success (with_reducible show wpAny _ _ (eval (Expr.ListComp _ _ _ _) _) _ _ _)); (fail_if_success (with_reducible show wpAny _ _ (exec (Stmt.Assign _ (Expr.ListComp _ _ _ _) _) _) _ _ _)); (fail_if_success (with_reducible show wpAny _ _ (pyIter _) _ _ _)); (fail_if_success (with_reducible show wpAny _ _ (exec (Stmt.If (Expr.Compare _ _ [Expr.Constant (Const.str (Str.ofString "a")) _ _] _) _ _ _) _) _ _ _)); (fail_if_success (with_reducible show LCg.CompSrc _ _ _ _ _ _ _ _ _ _ _ _ _ _)); (first | walk1 | (dsimp only; walk1))) | (leave1; walk_say "STEP leave1"; (try dsimp only)) | fail "no step"))

def s3 : Stmt := nthS (bodyS wOuter) 3
def s4 : Stmt := nthS (bodyS wOuter) 4
def s5 : Stmt := nthS (bodyS wOuter) 5
def s6 : Stmt := nthS (bodyS wOuter) 6
def s7 : Stmt := nthS (bodyS wOuter) 7
theorem mid_spec : ∀ {w : World} {mean : ExcName → Option Value} {mg mb : Str → Option Value} (dp un : Nat) (gd : Option (List Code)) (outer : List Env) (A₀ : Around) (base h₀ : Heap) (L : Addr) (m : Str → Option Value) (news : List (Addr × Obj)) (s : Shared) (p : Pt) (rows : List (List UInt8)) (rest : List UInt8) (out R full : List Nat) (x d : Addr) (hw k1 k2 : Tok) (t1 t2 t3 t5 t6 t7 : Tok) (Q : Flow → Shared → Prop) (E : Value → Shared → Prop)
    (_ : Below A₀ base outer h₀) (_ : Fr h₀ L s.heap m) (_ : (hd.heap_39 w.params).In h₀) (_ : News h₀ L s.heap ((x, instObj 313 d) :: (d, dictOf (objD w (.str (S full) hw) (.ref 63) k1 k2) 2) :: news)) (_ : Top hd.view_39 (looseW hd.view_39 [Str.ofString "noValue", Str.ofString "Value", Str.ofString "Integer32", Str.ofString "OctetString", Str.ofString "SmiError", Str.ofString "TextualConvention", Str.ofString "HintedString", Str.ofString "HintedInteger", Str.ofString "TestAndIncr", Str.ofString "RowStatus"]) mean mg mb h₀)
    (_ : POk p) (_ : Opens R) (_ : p.rep = true → p.kd = 1 → R = []) (_ : (rows.flatten ++ rest).length ≤ 9000) (_ : out.length + 30 * rows.length ≤ 40000) (_ : RowsOk p.len rest rows) (_ : Asc p.wy rows) (_ : R.length ≤ 100) (_ : full.length ≤ 1000)
    (_ : Has m [(Str.ofString "outputValue", .str (S out) t1), (Str.ofString "runningValue", .bytes (rows.flatten ++ rest).toArray t2), (Str.ofString "repeatCount", .int (rows.length : Int) t3), (Str.ofString "octetLength", .str (S [48 + p.len]) t5), (Str.ofString "repeatIndicator", riV p.rep rows.length t6), (Str.ofString "displayHint", .str (S (wayC p.wy :: (signs p ++ R))) t7), (Str.ofString "self", .ref x)])
    (_ : PassesOwn (model Challenge.rw_am6029_01.row.prog w) (ktrTop dp un gd (Str.ofString "TextualConvention.prettyOut") pScope L 276 (Value.ref 275) [] outer) (envOf (Str.ofString "TextualConvention.prettyOut") pScope L 276 (Value.ref 275)) E)
    (_ : ∀ (h' : Heap) (tk : Nat) (m' : Str → Option Value) (t t' t'' : Tok), Fr h₀ L h' m' → News h₀ L h' ((x, instObj 313 d) :: (d, dictOf (objD w (.str (S full) hw) (.ref 63) k1 k2) 2) :: news) → Has m' [(Str.ofString "outputValue", .str (S (out ++ tells p.wy (mkP p).toList rows ++ if rest = [] then [] else sepP p)) t), (Str.ofString "runningValue", .bytes rest.toArray t'), (Str.ofString "displayHint", .str (S (if R = [] then full else R)) t''), (Str.ofString "self", .ref x)] → Q .next { s with heap := h', toks := tk }),
    wpAny (model Challenge.rw_am6029_01.row.prog w) (ktrTop dp un gd (Str.ofString "TextualConvention.prettyOut") pScope L 276 (Value.ref 275) [] outer) (execs [s3, s4, s5, s6, s7, s8, s9, wRep, sepS, endS] (envOf (Str.ofString "TextualConvention.prettyOut") pScope L 276 (Value.ref 275))) Q E s := by
  k_fill
  intro w mean mg mb dp un gd outer A₀ base h₀ L m news s p rows rest out R full x d hw k1 k2 t1 t2 t3 t5 t6 t7 Q E B F X N T hp hR hrk hsz hout hok hasc hRl hfull hm hE hret
  conv => arg 3; arg 1; arg 1; whnf
  conv => arg 3; arg 1; arg 2; arg 1; whnf
  conv => arg 3; arg 1; arg 2; arg 2; arg 1; whnf
  conv => arg 3; arg 1; arg 2; arg 2; arg 2; arg 1; whnf
  conv => arg 3; arg 1; arg 2; arg 2; arg 2; arg 2; arg 1; whnf
  conv => arg 3; arg 1; arg 2; arg 2; arg 2; arg 2; arg 2; arg 1; whnf
  have hl1 := hp.1
  have hl2 := hp.2.1
  have hS : (signs p ++ R).length ≤ 102 := by
    rw [List.length_append]
    have : (signs p).length ≤ 2 := by unfold signs; split <;> simp
    omega
  have hsub : 48 + p.len - 48 = p.len := by omega
  generalize hH : signs p ++ R = H at hm hS
  generalize hV : rows.flatten ++ rest = V at hm
  generalize hI : riV p.rep rows.length t6 = I at hm
  rw [← pin_eq hm] at F
  dsimp only [pin] at F
  ktr_unf
  rw [hsub] at *
  subst hH hV hI
  rename Fr _ _ _ _ => F2
  rename News _ _ _ _ => N2
  refine sep_spec _ _ _ _ _ _ _ _ _ _ _ p rows rest out R full x d _ _ _ _ _ _ _ _ _ _ _ _ B F2 X N2 T hp hR hrk hsz hout hok hasc hRl hfull ⟨rfl, rfl, rfl, rfl, rfl, rfl, rfl, rfl, trivial⟩ hE hret
theorem body_spec : ∀ {w : World} {mean : ExcName → Option Value} {mg mb : Str → Option Value} (dp un : Nat) (gd : Option (List Code)) (outer : List Env) (A₀ : Around) (base h₀ : Heap) (L : Addr) (m : Str → Option Value) (news : List (Addr × Obj)) (s : Shared) (p : Pt) (rows : List (List UInt8)) (rest : List UInt8) (out R full : List Nat) (x d : Addr) (hw k1 k2 : Tok) (t1 t2 t3 : Tok) (Q : Flow → Shared → Prop) (E : Value → Shared → Prop)
    (_ : Below A₀ base outer h₀) (_ : Fr h₀ L s.heap m) (_ : (hd.heap_39 w.params).In h₀) (_ : News h₀ L s.heap ((x, instObj 313 d) :: (d, dictOf (objD w (.str (S full) hw) (.ref 63) k1 k2) 2) :: news)) (_ : Top hd.view_39 (looseW hd.view_39 [Str.ofString "noValue", Str.ofString "Value", Str.ofString "Integer32", Str.ofString "OctetString", Str.ofString "SmiError", Str.ofString "TextualConvention", Str.ofString "HintedString", Str.ofString "HintedInteger", Str.ofString "TestAndIncr", Str.ofString "RowStatus"]) mean mg mb h₀)
    (_ : POk p) (_ : Opens R) (_ : p.rep = true → p.kd = 1 → R = []) (_ : (rows.flatten ++ rest).length ≤ 9000) (_ : out.length + 30 * rows.length ≤ 40000) (_ : rows.length < 256) (_ : p.rep = false → rows.length = 1) (_ : RowsOk p.len rest rows) (_ : Asc p.wy rows) (_ : (codes p ++ R).length ≤ 100) (_ : full.length ≤ 1000)
    (_ : Has m [(Str.ofString "outputValue", .str (S out) t1), (Str.ofString "runningValue", .bytes (hdrP p rows ++ (rows.flatten ++ rest)).toArray t2), (Str.ofString "displayHint", .str (S (codes p ++ R)) t3), (Str.ofString "self", .ref x)])
    (_ : PassesOwn (model Challenge.rw_am6029_01.row.prog w) (ktrTop dp un gd (Str.ofString "TextualConvention.prettyOut") pScope L 276 (Value.ref 275) [] outer) (envOf (Str.ofString "TextualConvention.prettyOut") pScope L 276 (Value.ref 275)) E)
    (_ : ∀ (h' : Heap) (tk : Nat) (m' : Str → Option Value) (t t' t'' : Tok), Fr h₀ L h' m' → News h₀ L h' ((x, instObj 313 d) :: (d, dictOf (objD w (.str (S full) hw) (.ref 63) k1 k2) 2) :: news) → Has m' [(Str.ofString "outputValue", .str (S (out ++ tells p.wy (mkP p).toList rows ++ if rest = [] then [] else sepP p)) t), (Str.ofString "runningValue", .bytes rest.toArray t'), (Str.ofString "displayHint", .str (S (if R = [] then full else R)) t''), (Str.ofString "self", .ref x)] → Q .next { s with heap := h', toks := tk }),
    wpAny (model Challenge.rw_am6029_01.row.prog w) (ktrTop dp un gd (Str.ofString "TextualConvention.prettyOut") pScope L 276 (Value.ref 275) [] outer) (execs (bodyS wOuter) (envOf (Str.ofString "TextualConvention.prettyOut") pScope L 276 (Value.ref 275))) Q E s := by
  k_fill
  intro w mean mg mb dp un gd outer A₀ base h₀ L m news s p rows rest out R full x d hw k1 k2 t1 t2 t3 Q E B F X N T hp hR hrk hsz hout h256 hone hok hasc hcl hfull hm hE hret
  conv => arg 3; arg 1; whnf
  rcases p with ⟨len, wy, rep, kd, c1, c2⟩
  have hp9 := hp
  obtain ⟨hl1, hl2, hwy, hkd, hkr, hc1, hc42⟩ := hp
  dsimp only at hl1 hl2 hwy hkd hkr hc1 hc42 hrk hone hok hasc
  rw [← pin_eq hm] at F
  dsimp only [pin, codes, hdrP] at F
  have hH : (signs ⟨len, wy, rep, kd, c1, c2⟩ ++ R).length ≤ 100 := by
    unfold codes at hcl
    simp only [List.length_append, List.length_cons] at hcl ⊢
    omega
  have hRl : R.length ≤ 100 := by rw [List.length_append] at hH; omega
  have hH2 : ((48 + len) :: wayC wy :: (signs ⟨len, wy, rep, kd, c1, c2⟩ ++ R)).length ≤ 102 := by simp only [List.length_cons]; omega
  have hcn : (UInt8.ofNat rows.length).toNat = rows.length := by rw [UInt8.toNat_ofNat_of_lt' h256]
  have hcd : 48 + len ∈ [48, 49, 50, 51, 52, 53, 54, 55, 56, 57] := by rcases (by omega : len = 1 ∨ len = 2) with rfl | rfl <;> decide
  have hcw : wayC wy ∉ [48, 49, 50, 51, 52, 53, 54, 55, 56, 57] := by rcases (by omega : wy = 3 ∨ wy = 0 ∨ wy = 1 ∨ wy = 2) with rfl | rfl | rfl | rfl <;> decide
  rcases rep with _ | _
  · simp only [Bool.false_eq_true, if_false, List.nil_append, List.cons_append] at F
    clear hm hcn
    generalize hHe : signs ⟨len, wy, false, kd, c1, c2⟩ ++ R = H at F hH hH2
    generalize hVe : rows.flatten ++ rest = V at F
    have h42 : ¬ [48 + len] = [42] := by simp only [List.cons.injEq, and_true]; omega
    ktr_unf
    refine wpAny_execs_cons ?_
    rename Fr _ _ _ _ => F2
    rename News _ _ _ _ => N2
    refine dig_spec _ _ _ _ _ _ _ _ _ _ _ (48 + len) (wayC wy) H _ _ _ _ B F2 X N2 T hcd hcw (by omega) ⟨congrArg (fun x => some (Value.str x _)) lit_nil, rfl, trivial⟩ hE ?_
    intro h9 tk9 m9 t9 u9 F9 N9 e1 e2
    subst hHe hVe
    refine mid_spec _ _ _ _ _ _ _ _ _ _ _ ⟨len, wy, false, kd, c1, c2⟩ rows rest out R full x d _ _ _ _ _ _ _ t1 _ _ _ B F9 X N9 T hp9 hR hrk hsz hout hok hasc hRl hfull ⟨(e2 (Str.ofString "outputValue") (by decide) (by decide)).trans rfl, (e2 (Str.ofString "runningValue") (by decide) (by decide)).trans rfl, eq_int ((e2 (Str.ofString "repeatCount") (by decide) (by decide)).trans rfl) ?_, e1.1, (e2 (Str.ofString "repeatIndicator") (by decide) (by decide)).trans rfl, e1.2.1, (e2 (Str.ofString "self") (by decide) (by decide)).trans rfl, trivial⟩ hE hret
    rw [hone rfl]; rfl
  · simp only [if_true, List.nil_append, List.cons_append] at F
    clear hm
    generalize hHe : signs ⟨len, wy, true, kd, c1, c2⟩ ++ R = H at F hH hH2
    have hV : (UInt8.ofNat rows.length :: (rows.flatten ++ rest)).length ≤ 9001 := by simp only [List.length_cons]; omega
    generalize UInt8.ofNat rows.length = n at F hcn hV
    have hsz' := hsz
    generalize hVe : rows.flatten ++ rest = V at F hsz' hV
    ktr_unf
    refine wpAny_execs_cons ?_
    rename Fr _ _ _ _ => F2
    rename News _ _ _ _ => N2
    refine dig_spec _ _ _ _ _ _ _ _ _ _ _ (48 + len) (wayC wy) H _ _ _ _ B F2 X N2 T hcd hcw (by omega) ⟨congrArg (fun x => some (Value.str x _)) lit_nil, rfl, trivial⟩ hE ?_
    intro h9 tk9 m9 t9 u9 F9 N9 e1 e2
    subst hHe hVe
    refine mid_spec _ _ _ _ _ _ _ _ _ _ _ ⟨len, wy, true, kd, c1, c2⟩ rows rest out R full x d _ _ _ _ _ _ _ _ _ _ _ B F9 X N9 T hp9 hR hrk hsz hout hok hasc hRl hfull ⟨(e2 (Str.ofString "outputValue") (by decide) (by decide)).trans rfl, eq_byt ((e2 (Str.ofString "runningValue") (by decide) (by decide)).trans rfl) ?_, eq_int ((e2 (Str.ofString "repeatCount") (by decide) (by decide)).trans rfl) (by rw [hcn]), e1.1, eq_int ((e2 (Str.ofString "repeatIndicator") (by decide) (by decide)).trans rfl) (by rw [hcn]), e1.2.1, (e2 (Str.ofString "self") (by decide) (by decide)).trans rfl, trivial⟩ hE hret
    rfl

end
section
theorem freshP7 : True := by w_top off; exact True.intro


local macro_rules | `(tactic| ktr_rel) => `(tactic| with_reducible first | rfl | assumption | exact lit_fig | exact lit_zero | exact lit_nil | exact lit_star | exact lit_dots | exact lit_coms | exact lit_xdoa | exact lit_dig | exact lit_a | exact lit_t | exact lit_x | exact lit_d | exact lit_o | exact lit_B | exact lit_integer | exact lit_string | exact lit_ascii | exact lit_ignore | exact lit_f02x | exact lit_f03o | exact lit_fd | exact lit_b | fail "no S")
local macro_rules | `(tactic| ktr_unf) => `(tactic| repeat' (first | (k_unfold; (try dsimp only)) | (k_end; kc_close) | ((fail_if_success (with_reducible show wpAny _ _ (exec (Stmt.While _ _ _ _) _) _ _ _)); (fail_if_success (with_reducible show wpAny _ _ (exec (Stmt.For _ _ _ _ _) _) _ _ _)); (fail_if_success (with_reducible show wpAny _ _ (eval (Expr.ListComp _ _ _ _) _) _ _ _)); (fail_if_success (with_reducible show wpAny _ _ (exec (Stmt.Assign _ (Expr.ListComp _ _ _ _) _) _) _ _ _)); (fail_if_success (with_reducible show wpAny _ _ (pyIter _) _ _ _)); (fail_if_success (with_reducible show LCg.CompSrc _ _ _ _ _ _ _ _ _ _ _ _ _ _)); (first | walk1 | (dsimp only; walk1))) | (leave1; walk_say "STEP leave1"; (try dsimp only)) | fail "no step"))
local macro_rules | `(tactic| walk_at "subscriptTail Constant str BinOp") => `(tactic| ((with_reducible show wpAny _ _ (subscriptTail _ _ (Value.str _ _) (Value.int _ _)) _ _ _); (refine' itemD_S ?hx ?h0 ?h1 ?hl ?_); (case hx => ktr_rel); (case h0 => first | decide | omega | exact fmod_lo _ (by decide)); (case h1 => first | decide | omega | exact fmod_hi _ (by decide)); (case hl => first | decide | omega | (simp only [List.length_append, List.length_cons, List.length_nil, List.length_replicate, List.length_map]; omega)); intro _ _))
local macro_rules | `(tactic| walk_at "subscriptTail") => `(tactic| ((with_reducible show wpAny _ _ (subscriptTail _ _ (Value.str _ _) (Value.int _ _)) _ _ _); (refine' itemD_S ?hx ?h0 ?h1 ?hl ?_); (case hx => ktr_rel); (case h0 => first | decide | omega | exact fmod_lo _ (by decide)); (case h1 => first | decide | omega | exact fmod_hi _ (by decide)); (case hl => first | decide | omega | (simp only [List.length_append, List.length_cons, List.length_nil, List.length_replicate, List.length_map]; omega)); intro _ _))
local macro_rules | `(tactic| walk_at "subscriptTail Name Constant str int") => `(tactic| ((with_reducible show wpAny _ _ (subscriptTail _ _ (Value.str _ _) (Value.int 0 _)) _ _ _); (refine' item0_S ?hx ?hl ?_); (case hx => ktr_rel); (case hl => first | decide | omega | (simp only [List.length_append, List.length_cons, List.length_nil, List.length_replicate, List.length_map]; omega)); intro _ _))
local macro_rules | `(tactic| walk_at "subscriptTail") => `(tactic| ((with_reducible show wpAny _ _ (subscriptTail _ _ (Value.str _ _) (Value.int 0 _)) _ _ _); (refine' item0_S ?hx ?hl ?_); (case hx => ktr_rel); (case hl => first | decide | omega | (simp only [List.length_append, List.length_cons, List.length_nil, List.length_replicate, List.length_map]; omega)); intro _ _))
local macro_rules | `(tactic| walk_at "subscriptTail Name Slice str ref") => `(tactic| ((with_reducible show wpAny _ _ (subscriptTail _ (Expr.Slice (some _) none none _) (Value.str _ _) (Value.ref _)) _ _ _); (with_reducible rename Fr _ _ _ _ => F'); (with_reducible rename News _ _ _ _ => N'); (refine' tail_S (s := ⟨_, _, _, _, _⟩) ?hx ?hl F' N' ?_); (case hx => ktr_rel); (case hl => first | decide | omega | (simp only [List.length_append, List.length_cons, List.length_nil, List.length_replicate, List.length_map]; omega)); intro _ _ _ _ _))
local macro_rules | `(tactic| walk_at "subscriptTail") => `(tactic| ((with_reducible show wpAny _ _ (subscriptTail _ (Expr.Slice (some _) none none _) (Value.str _ _) (Value.ref _)) _ _ _); (with_reducible rename Fr _ _ _ _ => F'); (with_reducible rename News _ _ _ _ => N'); (refine' tail_S (s := ⟨_, _, _, _, _⟩) ?hx ?hl F' N' ?_); (case hx => ktr_rel); (case hl => first | decide | omega | (simp only [List.length_append, List.length_cons, List.length_nil, List.length_replicate, List.length_map]; omega)); intro _ _ _ _ _))
local macro_rules | `(tactic| walk_at "call builtin:len cons nil") => `(tactic| ((with_reducible show wpAny _ _ (call (Value.builtin "len") [Value.str _ _]) _ _ _); (refine' len_S ?hx ?hl ?_); (case hx => ktr_rel); (case hl => first | decide | omega | (simp only [List.length_append, List.length_cons, List.length_nil, List.length_replicate, List.length_map]; omega)); intro _ _))
local macro_rules | `(tactic| walk_at "call builtin:len") => `(tactic| ((with_reducible show wpAny _ _ (call (Value.builtin "len") [Value.str _ _]) _ _ _); (refine' len_S ?hx ?hl ?_); (case hx => ktr_rel); (case hl => first | decide | omega | (simp only [List.length_append, List.length_cons, List.length_nil, List.length_replicate, List.length_map]; omega)); intro _ _))
local macro_rules | `(tactic| walk_at "binaryOp Add str str") => `(tactic| ((refine' add_S ?hx ?hy ?hl ?_); (case hx => ktr_rel); (case hy => ktr_rel); (case hl => first | decide | omega | (simp only [List.length_append, List.length_cons, List.length_nil, List.length_replicate, List.length_map]; omega)); intro _ _))
local macro_rules | `(tactic| walk_at "inplaceOp Add str str") => `(tactic| ((refine' iadd_S ?hx ?hy ?hl ?_); (case hx => ktr_rel); (case hy => ktr_rel); (case hl => first | decide | omega | (simp only [List.length_append, List.length_cons, List.length_nil, List.length_replicate, List.length_map]; omega)); intro _ _))
local macro_rules | `(tactic| walk_at "binaryOp Mult str int") => `(tactic| ((refine' mul_S ?hx ?hl ?h0 ?_); (case hx => ktr_rel); (case hl => omega); (case h0 => omega); intro _ _))
local macro_rules | `(tactic| walk_at "compareOp Eq str str") => `(tactic| ((refine' eq_S ?hx ?hy ?_); (case hx => ktr_rel); (case hy => ktr_rel)))
local macro_rules | `(tactic| walk_at "compareOp NotEq str str") => `(tactic| ((refine' ne_S ?hx ?hy ?_); (case hx => ktr_rel); (case hy => ktr_rel)))
local macro_rules | `(tactic| walk_at "compareOp In str str") => `(tactic| ((refine' in_S ?hx ?hy ?_); (case hx => ktr_rel); (case hy => ktr_rel)))
local macro_rules | `(tactic| walk_at "compareOp NotIn str str") => `(tactic| ((refine' notin_S ?hx ?hy ?_); (case hx => ktr_rel); (case hy => ktr_rel)))
local macro_rules | `(tactic| walk_at "truthy str") => `(tactic| ((refine' truthy_S ?hx ?hl ?_); (case hx => ktr_rel); (case hl => first | decide | omega | (simp only [List.length_append, List.length_cons, List.length_nil, List.length_replicate, List.length_map]; omega)); intro _))
local macro_rules | `(tactic| walk_at "call type:int cons nil") => `(tactic| ((with_reducible show wpAny _ _ (call (Value.type "int") [Value.str _ _]) _ _ _); (refine' int_S ?hx ?hc ?_); (case hx => ktr_rel); (case hc => omega); intro _ _))
local macro_rules | `(tactic| walk_at "call type:int") => `(tactic| ((with_reducible show wpAny _ _ (call (Value.type "int") [Value.str _ _]) _ _ _); (refine' int_S ?hx ?hc ?_); (case hx => ktr_rel); (case hc => omega); intro _ _))
local macro_rules | `(tactic| walk_at "compareOp Is bytes ref") => `(tactic| (refine wpAny_is_other (by rfl) (by intro x; cases x) ?_))
local macro_rules | `(tactic| walk_at "truthy str") => `(tactic| first | ((refine truthy_Sn (by with_reducible first | rfl | exact lit_nil) ?_); intro _) | ((refine truthy_Sc (by with_reducible first | rfl | exact lit_star) (by first | decide | omega | (simp only [List.length_append, List.length_cons, List.length_nil, List.length_replicate, List.length_map] at *; omega)) ?_); intro _))

local macro_rules | `(tactic| walk_at "truthy bytes") => `(tactic| (refine truthy_B (by first | omega | (simp only [List.length_append, List.length_cons, List.length_nil, List.length_take, List.length_drop]; omega)) ?_; intro _))
local macro_rules | `(tactic| walk_at "call builtin:len") => `(tactic| ((with_reducible show wpAny _ _ (call (Value.builtin "len") [Value.bytes (List.toArray _) _]) _ _ _); refine len_B (by first | omega | (simp only [List.length_append, List.length_cons, List.length_nil, List.length_take, List.length_drop]; omega)) ?_; intro _ _))
local macro_rules | `(tactic| walk_at "subscriptTail Name str Constant bytes int") => `(tactic| ((with_reducible show wpAny _ _ (subscriptTail _ _ (Value.bytes (List.toArray (_ :: _)) _) (Value.int 0 _)) _ _ _); refine item0_B (by first | omega | (simp only [List.length_append, List.length_cons, List.length_nil] at *; omega)) ?_; intro _ _))
local macro_rules | `(tactic| walk_at "subscriptTail Name Constant bytes int") => `(tactic| ((with_reducible show wpAny _ _ (subscriptTail _ _ (Value.bytes (List.toArray (_ :: _)) _) (Value.int 0 _)) _ _ _); refine item0_B (by first | omega | (simp only [List.length_append, List.length_cons, List.length_nil] at *; omega)) ?_; intro _ _))
local macro_rules | `(tactic| walk_at "subscriptTail") => `(tactic| ((with_reducible show wpAny _ _ (subscriptTail _ _ (Value.bytes (List.toArray (_ :: _)) _) (Value.int 0 _)) _ _ _); refine item0_B (by first | omega | (simp only [List.length_append, List.length_cons, List.length_nil] at *; omega)) ?_; intro _ _))
local macro_rules | `(tactic| walk_at "subscriptTail Name str Slice") => `(tactic| ((with_reducible show wpAny _ _ (subscriptTail _ (Expr.Slice none (some _) none _) (Value.bytes (List.toArray _) _) (Value.ref _)) _ _ _); (with_reducible rename Fr _ _ _ _ => F'); (with_reducible rename News _ _ _ _ => N'); (refine head_B (s := ⟨_, _, _, _, _⟩) F' N' (by first | decide | omega) (by first | omega | (simp only [List.length_append, List.length_cons, List.length_nil, List.length_take, List.length_drop] at *; omega)) ?_); intro _ _ _ _ _))
local macro_rules | `(tactic| walk_at "subscriptTail") => `(tactic| ((with_reducible show wpAny _ _ (subscriptTail _ (Expr.Slice none (some _) none _) (Value.bytes (List.toArray _) _) (Value.ref _)) _ _ _); (with_reducible rename Fr _ _ _ _ => F'); (with_reducible rename News _ _ _ _ => N'); (refine head_B (s := ⟨_, _, _, _, _⟩) F' N' (by first | decide | omega) (by first | omega | (simp only [List.length_append, List.length_cons, List.length_nil, List.length_take, List.length_drop] at *; omega)) ?_); intro _ _ _ _ _))
local macro_rules | `(tactic| walk_at "subscriptTail Name str Slice") => `(tactic| ((with_reducible show wpAny _ _ (subscriptTail _ (Expr.Slice (some _) none none _) (Value.bytes (List.toArray _) _) (Value.ref _)) _ _ _); (with_reducible rename Fr _ _ _ _ => F'); (with_reducible rename News _ _ _ _ => N'); (refine drop_B (s := ⟨_, _, _, _, _⟩) F' N' (by first | decide | omega) (by first | omega | (simp only [List.length_append, List.length_cons, List.length_nil, List.length_take, List.length_drop] at *; omega)) ?_); intro _ _ _ _ _))
local macro_rules | `(tactic| walk_at "subscriptTail") => `(tactic| ((with_reducible show wpAny _ _ (subscriptTail _ (Expr.Slice (some _) none none _) (Value.bytes (List.toArray _) _) (Value.ref _)) _ _ _); (with_reducible rename Fr _ _ _ _ => F'); (with_reducible rename News _ _ _ _ => N'); (refine drop_B (s := ⟨_, _, _, _, _⟩) F' N' (by first | decide | omega) (by first | omega | (simp only [List.length_append, List.length_cons, List.length_nil, List.length_take, List.length_drop] at *; omega)) ?_); intro _ _ _ _ _))
local macro_rules | `(tactic| walk_at "binaryOp Mod str int") => `(tactic| (first | ((with_reducible refine mod_x ?h0 ?h1 ?_); (case h0 => omega); (case h1 => omega); intro _ _) | ((with_reducible refine mod_o ?h0 ?h1 ?_); (case h0 => omega); (case h1 => omega); intro _ _)))
local macro_rules | `(tactic| walk_at "call builtin:bytes.decode") => `(tactic| ((with_reducible refine decode_B ?h0 ?h1 ?_); (case h0 => first | assumption | omega); (case h1 => assumption); intro _ _))
local macro_rules | `(tactic| walk_at "inplaceOp LShift int int") => `(tactic| ((refine shl8 (by omega) ?_); intro _ _))
local macro_rules | `(tactic| walk_at "inplaceOp BitOr int int") => `(tactic| ((refine or8 (by first | assumption | omega) ?_); intro _ _))
local macro_rules | `(tactic| walk_at "truthy bytes") => `(tactic| first | ((with_reducible refine truthy_Bn ?_); intro _) | ((with_reducible refine truthy_Bc ?hl ?_); (case hl => first | decide | omega | (simp only [List.length_append, List.length_cons, List.length_nil, List.length_replicate, List.length_map] at *; omega)); intro _))

local macro_rules | `(tactic| ktr_unf) => `(tactic| repeat' (first | (k_unfold; (try dsimp only)) | (k_end; kc_close) | ((fail_if_success (with_reducible show wpAny _ _ (exec (Stmt.While _ _ _ _) _) _ _ _)); (fail_if_success (with_reducible show wpAny _ _ (execs (Stmt.If (Expr.Compare (Expr.Subscript _ _ _) _ _ _) _ _ _ :: _) _) _ _ _)); (fail_if_success (with_reducible show wpAny _ _ (exec (Stmt.For _ _ _ _ _) _) _ _ _)); (fail_if_success (with_reducible show wpAny _ _ (eval (Expr.ListComp _ _ _ _) _) _ _ _)); (fail_if_success (with_reducible show wpAny _ _ (exec (Stmt.Assign _ (Expr.ListComp _ _ _ _) _) _) _ _ _)); (fail_if_success (with_reducible show wpAny _ _ (pyIter _) _ _ _)); (fail_if_success (with_reducible show wpAny _ _ (exec (Stmt.If (Expr.Compare _ _ [Expr.Constant (Const.str (Str.ofString "a")) _ _] _) _ _ _) _) _ _ _)); (fail_if_success (with_reducible show LCg.CompSrc _ _ _ _ _ _ _ _ _ _ _ _ _ _)); (first | walk1 | (dsimp only; walk1))) | (leave1; walk_say "STEP leave1"; (try dsimp only)) | fail "no step"))

structure Grp where
  p : Pt
  rows : List (List UInt8)
def octsG (g : Grp) : List UInt8 := hdrP g.p g.rows ++ g.rows.flatten
def octs (gs : List Grp) : List UInt8 := (gs.map octsG).flatten
def toldG (g : Grp) : List Nat := tells g.p.wy (mkP g.p).toList g.rows
def dueL : List Grp → List Nat
  | [] => []
  | g :: gs => toldG g ++ (if gs = [] then [] else sepP g.p) ++ dueL gs
def PsOk : List Pt → Prop
  | [] => True
  | p :: r => POk p ∧ (p.rep = true → p.kd = 1 → r = []) ∧ PsOk r
def codesL (ps : List Pt) : List Nat := (ps.map codes).flatten
def GsOk (ps : List Pt) : List Pt → List Grp → Prop
  | _, [] => True
  | [], _ :: _ => False
  | p :: r, g :: gs => g.p = p ∧ g.rows.length < 256 ∧ (p.rep = false → g.rows.length = 1 ∧ g.rows.flatten ≠ []) ∧ RowsOk p.len (octs gs) g.rows ∧ Asc p.wy g.rows ∧ GsOk ps (if r = [] then ps else r) gs
def cost : List Grp → Nat
  | [] => 0
  | g :: gs => 30 * g.rows.length + 40 + cost gs
theorem codes_open (p : Pt) (hp : POk p) (l : List Nat) : Opens (codes p ++ l) := by
  obtain ⟨len, wy, rep, kd, c1, c2⟩ := p
  obtain ⟨h1, h2, _⟩ := hp
  dsimp only at h1 h2
  rcases rep with _ | _
  · show 48 + len ∈ _ ∨ _
    left; rcases (by omega : len = 1 ∨ len = 2) with rfl | rfl <;> decide
  · exact .inr rfl
theorem codes_ne (p : Pt) (l : List Nat) : codes p ++ l ≠ [] := by
  obtain ⟨len, wy, rep, kd, c1, c2⟩ := p
  rcases rep with _ | _ <;> exact List.cons_ne_nil _ _
theorem codesL_open : ∀ r, PsOk r → Opens (codesL r)
  | [], _ => trivial
  | p :: r, h => codes_open p h.1 _
theorem codesL_nil : ∀ {r : List Pt}, codesL r = [] → r = []
  | [], _ => rfl
  | p :: r, h => absurd h (codes_ne p _)
theorem octs_nil {ps : List Pt} : ∀ {r : List Pt} {gs : List Grp}, GsOk ps r gs → octs gs = [] → gs = []
  | _, [], _, _ => rfl
  | [], _ :: _, h, _ => h.elim
  | p :: r, g :: gs, h, e => by
    exfalso
    obtain ⟨rfl, _, h3, _⟩ := h
    have e1 : octsG g ++ octs gs = [] := e
    have e2 := (List.append_eq_nil_iff.mp e1).1
    unfold octsG at e2
    have e3 := List.append_eq_nil_iff.mp e2
    rcases hr : g.p.rep with _ | _
    · exact (h3 hr).2 e3.2
    · have := e3.1
      unfold hdrP at this
      rw [if_pos hr] at this
      cases this
theorem told_len {ps : List Pt} {p : Pt} {r : List Pt} {g : Grp} {gs : List Grp} (hp : POk p) (h : GsOk ps (p :: r) (g :: gs)) : (toldG g ++ (if gs = [] then [] else sepP g.p)).length ≤ 30 * g.rows.length + 40 := by
  obtain ⟨rfl, _, _, h4, _⟩ := h
  rw [List.length_append]
  have h1 := tells_len g.p.wy hp.2.2.1 (mkP g.p).toList (by cases mkP g.p <;> simp [Option.toList]) g.p.len hp.2.1 _ _ h4
  have h2 : (if gs = [] then [] else sepP g.p).length ≤ 1 := by
    split
    · decide
    · unfold sepP; split <;> simp
  show (tells g.p.wy (mkP g.p).toList g.rows).length + _ ≤ _
  omega
theorem outer_spec : ∀ {w : World} {mean : ExcName → Option Value} {mg mb : Str → Option Value} (dp un : Nat) (gd : Option (List Code)) (outer : List Env) (A₀ : Around) (base h₀ : Heap) (L : Addr) (m : Str → Option Value) (news : List (Addr × Obj)) (s : Shared) (ps : List Pt) (gs : List Grp) (full : List Nat) (x d : Addr) (hw k1 k2 : Tok) (t1 t2 t3 : Tok) (Q : Flow → Shared → Prop) (E : Value → Shared → Prop)
    (_ : Below A₀ base outer h₀) (_ : Fr h₀ L s.heap m) (_ : (hd.heap_39 w.params).In h₀) (_ : News h₀ L s.heap ((x, instObj 313 d) :: (d, dictOf (objD w (.str (S full) hw) (.ref 63) k1 k2) 2) :: news)) (_ : Top hd.view_39 (looseW hd.view_39 [Str.ofString "noValue", Str.ofString "Value", Str.ofString "Integer32", Str.ofString "OctetString", Str.ofString "SmiError", Str.ofString "TextualConvention", Str.ofString "HintedString", Str.ofString "HintedInteger", Str.ofString "TestAndIncr", Str.ofString "RowStatus"]) mean mg mb h₀)
    (_ : PsOk ps) (_ : GsOk ps ps gs) (_ : full = codesL ps) (_ : full.length ≤ 100) (_ : cost gs ≤ 39000) (_ : (octs gs).length ≤ 9000)
    (_ : Has m [(Str.ofString "outputValue", .str (S []) t1), (Str.ofString "runningValue", .bytes (octs gs).toArray t2), (Str.ofString "displayHint", .str (S full) t3), (Str.ofString "self", .ref x)])
    (_ : PassesOwn (model Challenge.rw_am6029_01.row.prog w) (ktrTop dp un gd (Str.ofString "TextualConvention.prettyOut") pScope L 276 (Value.ref 275) [] outer) (envOf (Str.ofString "TextualConvention.prettyOut") pScope L 276 (Value.ref 275)) E)
    (_ : ∀ (h' : Heap) (tk : Nat) (m' : Str → Option Value) (t : Tok), Fr h₀ L h' m' → News h₀ L h' ((x, instObj 313 d) :: (d, dictOf (objD w (.str (S full) hw) (.ref 63) k1 k2) 2) :: news) → Has m' [(Str.ofString "outputValue", .str (S (dueL gs)) t)] → Q .next { s with heap := h', toks := tk }),
    wpAny (model Challenge.rw_am6029_01.row.prog w) (ktrTop dp un gd (Str.ofString "TextualConvention.prettyOut") pScope L 276 (Value.ref 275) [] outer) (exec wOuter (envOf (Str.ofString "TextualConvention.prettyOut") pScope L 276 (Value.ref 275))) Q E s := by
  k_fill
  intro w mean mg mb dp un gd outer A₀ base h₀ L m news s ps gs full x d hw k1 k2 t1 t2 t3 Q E B F X N T hps hgs hfull hfl hcost hol hm hE hret
  conv => arg 3; arg 1; whnf
  refine While_inv2 (fun μ m' nx => nx = ((x, instObj 313 d) :: (d, dictOf (objD w (.str (S full) hw) (.ref 63) k1 k2) 2) :: news) ∧ ∃ (gs' : List Grp) (rp : List Pt) (out : List Nat) (t1 t2 t3 : Tok), Has m' [(Str.ofString "outputValue", .str (S out) t1), (Str.ofString "runningValue", .bytes (octs gs').toArray t2), (Str.ofString "displayHint", .str (S (codesL rp)) t3), (Str.ofString "self", .ref x)] ∧ gs'.length = μ ∧ PsOk rp ∧ GsOk ps rp gs' ∧ out.length + cost gs' ≤ 39000 ∧ (octs gs').length ≤ 9000 ∧ (codesL rp).length ≤ 100 ∧ out ++ dueL gs' = dueL gs) F N ⟨rfl, gs, ps, [], t1, t2, t3, hfull ▸ hm, rfl, hps, hgs, by simpa using hcost, hol, hfull ▸ hfl, rfl⟩ ?_ hE
  clear F N
  rintro μ m1 nx h1 tk1 F1 N1 ⟨rfl, gs', rp, out, u1, u2, u3, e1, rfl, hpr, hgr, hcr, hor, hcl, e2⟩
  rcases gs' with _ | ⟨g, gs'⟩
  · rw [show octs ([] : List Grp) = [] from rfl] at e1
    rw [← pin_eq e1] at F1
    dsimp only [pin] at F1
    ktr_unf
    refine hret _ _ _ _ (by assumption) (by assumption) (has_str rfl ?_)
    rw [← e2]; exact (List.append_nil _).symm
  · rcases rp with _ | ⟨p, r⟩
    · exact hgr.elim
    · obtain ⟨c, V, hcV⟩ : ∃ c V, octs (g :: gs') = c :: V := by
        rcases h : octs (g :: gs') with _ | ⟨c, V⟩
        · cases octs_nil hgr h
        · exact ⟨c, V, rfl⟩
      obtain ⟨c', H, hcH⟩ : ∃ c' H, codesL (p :: r) = c' :: H := by
        rcases h : codesL (p :: r) with _ | ⟨c', H⟩
        · cases codesL_nil h
        · exact ⟨c', H, rfl⟩
      have hle := told_len hpr.1 hgr
      obtain ⟨rfl, g2, g3, g4, g5, g6⟩ := hgr
      have e1' := e1
      rw [hcV, hcH] at e1
      rw [← pin_eq e1] at F1
      dsimp only [pin] at F1
      have hV9 : (c :: V).length ≤ 9000 := hcV ▸ hor
      have hH9 : (c' :: H).length ≤ 100 := hcH ▸ hcl
      ktr_unf
      rename Fr _ _ _ _ => F2
      rename News _ _ _ _ => N2
      have hoc : octs (g :: gs') = hdrP g.p g.rows ++ (g.rows.flatten ++ octs gs') := by show octsG g ++ octs gs' = _; unfold octsG; exact List.append_assoc _ _ _
      have hoc2 : (hdrP g.p g.rows ++ (g.rows.flatten ++ octs gs')).length ≤ 9000 := hoc ▸ hor
      have hcH2 : c' :: H = codes g.p ++ codesL r := hcH.symm
      have hcr2 : out.length + (30 * g.rows.length + 40 + cost gs') ≤ 39000 := hcr
      have hcl2 : (codes g.p ++ codesL r).length ≤ 100 := hcl
      refine body_spec _ _ _ _ _ _ _ _ _ _ _ g.p g.rows (octs gs') out (codesL r) full x d _ _ _ _ _ _ _ _ B F2 X N2 T hpr.1 (codesL_open _ hpr.2.2) (fun a b => by rw [hpr.2.1 a b]; rfl) (by rw [List.length_append] at hoc2; omega) (by omega) g2 (fun h => (g3 h).1) g4 g5 hcl (by omega) ⟨rfl, (congrArg (fun l : List UInt8 => some (Value.bytes l.toArray u2)) (hcV.symm.trans hoc)), (congrArg (fun l => some (Value.str (S l) u3)) hcH2), rfl, trivial⟩ hE ?_
      intro h9 tk9 m9 v1 v2 v3 F9 N9 e9
      have hgs9 : octs gs' = [] ↔ gs' = [] := ⟨octs_nil g6, fun h => by rw [h]; rfl⟩
      have hr9 : codesL r = [] ↔ r = [] := ⟨codesL_nil, fun h => by rw [h]; rfl⟩
      simp only [hgs9, hr9] at e9
      have happ : (out ++ tells g.p.wy (mkP g.p).toList g.rows ++ if gs' = [] then [] else sepP g.p) = out ++ (toldG g ++ if gs' = [] then [] else sepP g.p) := List.append_assoc _ _ _
      rw [happ] at e9
      refine ⟨_, _, _, _, gs'.length, rfl, by assumption, by assumption, Nat.lt_succ_self _, rfl, gs', (if r = [] then ps else r), _, _, _, _, ⟨e9.1, e9.2.1, eq_str' e9.2.2.1 ?_, e9.2.2.2.1, trivial⟩, rfl, ?_, g6, ?_, ?_, ?_, ?_⟩
      · split
        · exact hfull
        · rfl
      · split
        · exact hps
        · exact hpr.2.2
      · rw [List.length_append]; omega
      · rw [List.length_append, List.length_append] at hoc2; omega
      · split
        · exact hfull ▸ hfl
        · rw [List.length_append] at hcl2; omega
      · rw [← e2, List.append_assoc]; rfl

end
section
theorem freshP8 : True := by w_top off; exact True.intro


local macro_rules | `(tactic| ktr_rel) => `(tactic| with_reducible first | rfl | assumption | exact lit_fig | exact lit_zero | exact lit_nil | exact lit_star | exact lit_dots | exact lit_coms | exact lit_xdoa | exact lit_dig | exact lit_a | exact lit_t | exact lit_x | exact lit_d | exact lit_o | exact lit_B | exact lit_integer | exact lit_string | exact lit_ascii | exact lit_ignore | exact lit_f02x | exact lit_f03o | exact lit_fd | exact lit_b | fail "no S")
local macro_rules | `(tactic| ktr_unf) => `(tactic| repeat' (first | (k_unfold; (try dsimp only)) | (k_end; kc_close) | ((fail_if_success (with_reducible show wpAny _ _ (exec (Stmt.While _ _ _ _) _) _ _ _)); (fail_if_success (with_reducible show wpAny _ _ (exec (Stmt.For _ _ _ _ _) _) _ _ _)); (fail_if_success (with_reducible show wpAny _ _ (eval (Expr.ListComp _ _ _ _) _) _ _ _)); (fail_if_success (with_reducible show wpAny _ _ (exec (Stmt.Assign _ (Expr.ListComp _ _ _ _) _) _) _ _ _)); (fail_if_success (with_reducible show wpAny _ _ (pyIter _) _ _ _)); (fail_if_success (with_reducible show LCg.CompSrc _ _ _ _ _ _ _ _ _ _ _ _ _ _)); (first | walk1 | (dsimp only; walk1))) | (leave1; walk_say "STEP leave1"; (try dsimp only)) | fail "no step"))
local macro_rules | `(tactic| walk_at "subscriptTail Constant str BinOp") => `(tactic| ((with_reducible show wpAny _ _ (subscriptTail _ _ (Value.str _ _) (Value.int _ _)) _ _ _); (refine' itemD_S ?hx ?h0 ?h1 ?hl ?_); (case hx => ktr_rel); (case h0 => first | decide | omega | exact fmod_lo _ (by decide)); (case h1 => first | decide | omega | exact fmod_hi _ (by decide)); (case hl => first | decide | omega | (simp only [List.length_append, List.length_cons, List.length_nil, List.length_replicate, List.length_map]; omega)); intro _ _))
local macro_rules | `(tactic| walk_at "subscriptTail") => `(tactic| ((with_reducible show wpAny _ _ (subscriptTail _ _ (Value.str _ _) (Value.int _ _)) _ _ _); (refine' itemD_S ?hx ?h0 ?h1 ?hl ?_); (case hx => ktr_rel); (case h0 => first | decide | omega | exact fmod_lo _ (by decide)); (case h1 => first | decide | omega | exact fmod_hi _ (by decide)); (case hl => first | decide | omega | (simp only [List.length_append, List.length_cons, List.length_nil, List.length_replicate, List.length_map]; omega)); intro _ _))
local macro_rules | `(tactic| walk_at "subscriptTail Name Constant str int") => `(tactic| ((with_reducible show wpAny _ _ (subscriptTail _ _ (Value.str _ _) (Value.int 0 _)) _ _ _); (refine' item0_S ?hx ?hl ?_); (case hx => ktr_rel); (case hl => first | decide | omega | (simp only [List.length_append, List.length_cons, List.length_nil, List.length_replicate, List.length_map]; omega)); intro _ _))
local macro_rules | `(tactic| walk_at "subscriptTail") => `(tactic| ((with_reducible show wpAny _ _ (subscriptTail _ _ (Value.str _ _) (Value.int 0 _)) _ _ _); (refine' item0_S ?hx ?hl ?_); (case hx => ktr_rel); (case hl => first | decide | omega | (simp only [List.length_append, List.length_cons, List.length_nil, List.length_replicate, List.length_map]; omega)); intro _ _))
local macro_rules | `(tactic| walk_at "subscriptTail Name Slice str ref") => `(tactic| ((with_reducible show wpAny _ _ (subscriptTail _ (Expr.Slice (some _) none none _) (Value.str _ _) (Value.ref _)) _ _ _); (with_reducible rename Fr _ _ _ _ => F'); (with_reducible rename News _ _ _ _ => N'); (refine' tail_S (s := ⟨_, _, _, _, _⟩) ?hx ?hl F' N' ?_); (case hx => ktr_rel); (case hl => first | decide | omega | (simp only [List.length_append, List.length_cons, List.length_nil, List.length_replicate, List.length_map]; omega)); intro _ _ _ _ _))
local macro_rules | `(tactic| walk_at "subscriptTail") => `(tactic| ((with_reducible show wpAny _ _ (subscriptTail _ (Expr.Slice (some _) none none _) (Value.str _ _) (Value.ref _)) _ _ _); (with_reducible rename Fr _ _ _ _ => F'); (with_reducible rename News _ _ _ _ => N'); (refine' tail_S (s := ⟨_, _, _, _, _⟩) ?hx ?hl F' N' ?_); (case hx => ktr_rel); (case hl => first | decide | omega | (simp only [List.length_append, List.length_cons, List.length_nil, List.length_replicate, List.length_map]; omega)); intro _ _ _ _ _))
local macro_rules | `(tactic| walk_at "call builtin:len cons nil") => `(tactic| ((with_reducible show wpAny _ _ (call (Value.builtin "len") [Value.str _ _]) _ _ _); (refine' len_S ?hx ?hl ?_); (case hx => ktr_rel); (case hl => first | decide | omega | (simp only [List.length_append, List.length_cons, List.length_nil, List.length_replicate, List.length_map]; omega)); intro _ _))
local macro_rules | `(tactic| walk_at "call builtin:len") => `(tactic| ((with_reducible show wpAny _ _ (call (Value.builtin "len") [Value.str _ _]) _ _ _); (refine' len_S ?hx ?hl ?_); (case hx => ktr_rel); (case hl => first | decide | omega | (simp only [List.length_append, List.length_cons, List.length_nil, List.length_replicate, List.length_map]; omega)); intro _ _))
local macro_rules | `(tactic| walk_at "binaryOp Add str str") => `(tactic| ((refine' add_S ?hx ?hy ?hl ?_); (case hx => ktr_rel); (case hy => ktr_rel); (case hl => first | decide | omega | (simp only [List.length_append, List.length_cons, List.length_nil, List.length_replicate, List.length_map]; omega)); intro _ _))
local macro_rules | `(tactic| walk_at "inplaceOp Add str str") => `(tactic| ((refine' iadd_S ?hx ?hy ?hl ?_); (case hx => ktr_rel); (case hy => ktr_rel); (case hl => first | decide | omega | (simp only [List.length_append, List.length_cons, List.length_nil, List.length_replicate, List.length_map]; omega)); intro _ _))
local macro_rules | `(tactic| walk_at "binaryOp Mult str int") => `(tactic| ((refine' mul_S ?hx ?hl ?h0 ?_); (case hx => ktr_rel); (case hl => omega); (case h0 => omega); intro _ _))
local macro_rules | `(tactic| walk_at "compareOp Eq str str") => `(tactic| ((refine' eq_S ?hx ?hy ?_); (case hx => ktr_rel); (case hy => ktr_rel)))
local macro_rules | `(tactic| walk_at "compareOp NotEq str str") => `(tactic| ((refine' ne_S ?hx ?hy ?_); (case hx => ktr_rel); (case hy => ktr_rel)))
local macro_rules | `(tactic| walk_at "compareOp In str str") => `(tactic| ((refine' in_S ?hx ?hy ?_); (case hx => ktr_rel); (case hy => ktr_rel)))
local macro_rules | `(tactic| walk_at "compareOp NotIn str str") => `(tactic| ((refine' notin_S ?hx ?hy ?_); (case hx => ktr_rel); (case hy => ktr_rel)))
local macro_rules | `(tactic| walk_at "truthy str") => `(tactic| ((refine' truthy_S ?hx ?hl ?_); (case hx => ktr_rel); (case hl => first | decide | omega | (simp only [List.length_append, List.length_cons, List.length_nil, List.length_replicate, List.length_map]; omega)); intro _))
local macro_rules | `(tactic| walk_at "call type:int cons nil") => `(tactic| ((with_reducible show wpAny _ _ (call (Value.type "int") [Value.str _ _]) _ _ _); (refine' int_S ?hx ?hc ?_); (case hx => ktr_rel); (case hc => omega); intro _ _))
local macro_rules | `(tactic| walk_at "call type:int") => `(tactic| ((with_reducible show wpAny _ _ (call (Value.type "int") [Value.str _ _]) _ _ _); (refine' int_S ?hx ?hc ?_); (case hx => ktr_rel); (case hc => omega); intro _ _))
local macro_rules | `(tactic| walk_at "compareOp Is bytes ref") => `(tactic| (refine wpAny_is_other (by rfl) (by intro x; cases x) ?_))
local macro_rules | `(tactic| walk_at "truthy str") => `(tactic| first | ((refine truthy_Sn (by with_reducible first | rfl | exact lit_nil) ?_); intro _) | ((refine truthy_Sc (by with_reducible first | rfl | exact lit_star) (by first | decide | omega | (simp only [List.length_append, List.length_cons, List.length_nil, List.length_replicate, List.length_map] at *; omega)) ?_); intro _))

local macro_rules | `(tactic| walk_at "truthy bytes") => `(tactic| (refine truthy_B (by first | omega | (simp only [List.length_append, List.length_cons, List.length_nil, List.length_take, List.length_drop]; omega)) ?_; intro _))
local macro_rules | `(tactic| walk_at "call builtin:len") => `(tactic| ((with_reducible show wpAny _ _ (call (Value.builtin "len") [Value.bytes (List.toArray _) _]) _ _ _); refine len_B (by first | omega | (simp only [List.length_append, List.length_cons, List.length_nil, List.length_take, List.length_drop]; omega)) ?_; intro _ _))
local macro_rules | `(tactic| walk_at "subscriptTail Name str Constant bytes int") => `(tactic| ((with_reducible show wpAny _ _ (subscriptTail _ _ (Value.bytes (List.toArray (_ :: _)) _) (Value.int 0 _)) _ _ _); refine item0_B (by first | omega | (simp only [List.length_append, List.length_cons, List.length_nil] at *; omega)) ?_; intro _ _))
local macro_rules | `(tactic| walk_at "subscriptTail Name Constant bytes int") => `(tactic| ((with_reducible show wpAny _ _ (subscriptTail _ _ (Value.bytes (List.toArray (_ :: _)) _) (Value.int 0 _)) _ _ _); refine item0_B (by first | omega | (simp only [List.length_append, List.length_cons, List.length_nil] at *; omega)) ?_; intro _ _))
local macro_rules | `(tactic| walk_at "subscriptTail") => `(tactic| ((with_reducible show wpAny _ _ (subscriptTail _ _ (Value.bytes (List.toArray (_ :: _)) _) (Value.int 0 _)) _ _ _); refine item0_B (by first | omega | (simp only [List.length_append, List.length_cons, List.length_nil] at *; omega)) ?_; intro _ _))
local macro_rules | `(tactic| walk_at "subscriptTail Name str Slice") => `(tactic| ((with_reducible show wpAny _ _ (subscriptTail _ (Expr.Slice none (some _) none _) (Value.bytes (List.toArray _) _) (Value.ref _)) _ _ _); (with_reducible rename Fr _ _ _ _ => F'); (with_reducible rename News _ _ _ _ => N'); (refine head_B (s := ⟨_, _, _, _, _⟩) F' N' (by first | decide | omega) (by first | omega | (simp only [List.length_append, List.length_cons, List.length_nil, List.length_take, List.length_drop] at *; omega)) ?_); intro _ _ _ _ _))
local macro_rules | `(tactic| walk_at "subscriptTail") => `(tactic| ((with_reducible show wpAny _ _ (subscriptTail _ (Expr.Slice none (some _) none _) (Value.bytes (List.toArray _) _) (Value.ref _)) _ _ _); (with_reducible rename Fr _ _ _ _ => F'); (with_reducible rename News _ _ _ _ => N'); (refine head_B (s := ⟨_, _, _, _, _⟩) F' N' (by first | decide | omega) (by first | omega | (simp only [List.length_append, List.length_cons, List.length_nil, List.length_take, List.length_drop] at *; omega)) ?_); intro _ _ _ _ _))
local macro_rules | `(tactic| walk_at "subscriptTail Name str Slice") => `(tactic| ((with_reducible show wpAny _ _ (subscriptTail _ (Expr.Slice (some _) none none _) (Value.bytes (List.toArray _) _) (Value.ref _)) _ _ _); (with_reducible rename Fr _ _ _ _ => F'); (with_reducible rename News _ _ _ _ => N'); (refine drop_B (s := ⟨_, _, _, _, _⟩) F' N' (by first | decide | omega) (by first | omega | (simp only [List.length_append, List.length_cons, List.length_nil, List.length_take, List.length_drop] at *; omega)) ?_); intro _ _ _ _ _))
local macro_rules | `(tactic| walk_at "subscriptTail") => `(tactic| ((with_reducible show wpAny _ _ (subscriptTail _ (Expr.Slice (some _) none none _) (Value.bytes (List.toArray _) _) (Value.ref _)) _ _ _); (with_reducible rename Fr _ _ _ _ => F'); (with_reducible rename News _ _ _ _ => N'); (refine drop_B (s := ⟨_, _, _, _, _⟩) F' N' (by first | decide | omega) (by first | omega | (simp only [List.length_append, List.length_cons, List.length_nil, List.length_take, List.length_drop] at *; omega)) ?_); intro _ _ _ _ _))
local macro_rules | `(tactic| walk_at "binaryOp Mod str int") => `(tactic| (first | ((with_reducible refine mod_x ?h0 ?h1 ?_); (case h0 => omega); (case h1 => omega); intro _ _) | ((with_reducible refine mod_o ?h0 ?h1 ?_); (case h0 => omega); (case h1 => omega); intro _ _)))
local macro_rules | `(tactic| walk_at "call builtin:bytes.decode") => `(tactic| ((with_reducible refine decode_B ?h0 ?h1 ?_); (case h0 => first | assumption | omega); (case h1 => assumption); intro _ _))
local macro_rules | `(tactic| walk_at "inplaceOp LShift int int") => `(tactic| ((refine shl8 (by omega) ?_); intro _ _))
local macro_rules | `(tactic| walk_at "inplaceOp BitOr int int") => `(tactic| ((refine or8 (by first | assumption | omega) ?_); intro _ _))
local macro_rules | `(tactic| walk_at "truthy bytes") => `(tactic| first | ((with_reducible refine truthy_Bn ?_); intro _) | ((with_reducible refine truthy_Bc ?hl ?_); (case hl => first | decide | omega | (simp only [List.length_append, List.length_cons, List.length_nil, List.length_replicate, List.length_map] at *; omega)); intro _))

local macro_rules | `(tactic| ktr_unf) => `(tactic| repeat' (first | (k_unfold; (try dsimp only)) | (k_end; kc_close) | ((fail_if_success (with_reducible show wpAny _ _ (exec (Stmt.While _ _ _ _) _) _ _ _)); (fail_if_success (with_reducible show wpAny _ _ (execs (Stmt.If (Expr.Compare (Expr.Subscript _ _ _) _ _ _) _ _ _ :: _) _) _ _ _)); (fail_if_success (with_reducible show wpAny _ _ (exec (Stmt.For _ _ _ _ _) _) _ _ _)); (fail_if_success (with_reducible show wpAny _ _ (eval (Expr.ListComp _ _ _ _) _) _ _ _)); (fail_if_success (with_reducible show wpAny _ _ (exec (Stmt.Assign _ (Expr.ListComp _ _ _ _) _) _) _ _ _)); (fail_if_success (with_reducible show wpAny _ _ (pyIter _) _ _ _)); (fail_if_success (with_reducible show wpAny _ _ (exec (Stmt.If (Expr.Compare _ _ [Expr.Constant (Const.str (Str.ofString "a")) _ _] _) _ _ _) _) _ _ _)); (fail_if_success (with_reducible show LCg.CompSrc _ _ _ _ _ _ _ _ _ _ _ _ _ _)); (first | walk1 | (dsimp only; walk1))) | (leave1; walk_say "STEP leave1"; (try dsimp only)) | fail "no step"))

local macro_rules | `(tactic| k_room) => `(tactic| ktr_room)
local macro_rules | `(tactic| walk_at "call ref") => `(tactic| ((with_reducible show wpAny _ _ (call (Value.ref 227) _) _ _ _); k_dflt (refine' octet_spec _ _ _ _ _ _ _ _ _ _ _ _ _ _ _ _ _ _ _ _ _ _ _ ?k1 ?k2 ?k3 ?k4 ?k5 ?kd ?ku ?a1 ?kR; (case k1 => k_asm); (case k2 => k_asm); (case k3 => k_asm); (case k4 => k_asm); (case k5 => k_asm); (case kd => ktr_room); (case ku => ktr_units); (case a1 => omega); intro x9 d9 k9 h9 tk9 l9 l8 F9 N9; (try dsimp only); (try k_fold))))
theorem pretty_spec : ∀ {w : World} {mean : ExcName → Option Value} {mg mb : Str → Option Value} (dp un : Nat) (gd : Option (List Code)) (cn : Str) (cs : Scope) (a : Addr) (ccd : Value) (cl : List (Str × Addr)) (outer : List Env) (A₀ : Around) (base h₀ : Heap) (L : Addr) (m : Str → Option Value) (news : List (Addr × Obj)) (s : Shared) (ps : List Pt) (gs : List Grp) (full : List Nat) (x d : Addr) (hw k1 k2 tb : Tok)
    (Q E : Value → Shared → Prop) (_ : Below A₀ base outer h₀) (_ : Fr h₀ L s.heap m) (_ : (hd.heap_39 w.params).In h₀) (_ : News h₀ L s.heap ((x, instObj 313 d) :: (d, dictOf (objD w (.str (S full) hw) (.ref 63) k1 k2) 2) :: news)) (_ : Top hd.view_39 (looseW hd.view_39 [Str.ofString "noValue", Str.ofString "Value", Str.ofString "Integer32", Str.ofString "OctetString", Str.ofString "SmiError", Str.ofString "TextualConvention", Str.ofString "HintedString", Str.ofString "HintedInteger", Str.ofString "TestAndIncr", Str.ofString "RowStatus"]) mean mg mb h₀) (_ : cs.kind = .function) (_ : dp + 12 < recursionLimit) (_ : un + 80 < cLine)
    (_ : ps ≠ []) (_ : PsOk ps) (_ : GsOk ps ps gs) (_ : full = codesL ps) (_ : full.length ≤ 100) (_ : cost gs ≤ 39000) (_ : (octs gs).length ≤ 9000)
    (_ : ∀ (t : Tok) (h' : Heap) (tk' : Nat), Fr h₀ L h' m → News h₀ L h' ((x, instObj 313 d) :: (d, dictOf (objD w (.str (S full) hw) (.ref 63) k1 k2) 2) :: news) → Q (.str (S (dueL gs)) t) { s with heap := h', toks := tk' }),
    wpAny (model Challenge.rw_am6029_01.row.prog w) (ktrTop dp un gd cn cs L a ccd cl outer) (call (.ref 276) [.ref x, .bytes (octs gs).toArray tb]) Q E s := by
  k_fill
  intro w mean mg mb dp un gd cn cs a ccd cl outer A₀ base h₀ L m news s ps gs full x d hw k1 k2 tb Q E B F X N T hk hd hu hpe hps hgs hfull hfl hcost hol hret
  obtain ⟨c, H, hcH⟩ : ∃ c H, full = c :: H := by
    rcases h : full with _ | ⟨c, H⟩
    · exact absurd (codesL_nil (hfull ▸ h)) hpe
    · exact ⟨c, H, rfl⟩
  subst hcH
  refine wpAny_call ?_
  k_dflt cell_enter
  rename Fr _ _ _ _ => F1
  obtain ⟨u, F2⟩ := fr_ex [(Str.ofString "self", .ref x), (Str.ofString "value", .bytes (octs gs).toArray tb)] ⟨rfl, rfl, trivial⟩ F1
  clear F1
  dsimp only [pin] at F2
  ktr_unf
  rename Fr _ _ _ _ => F3
  rename News _ _ _ _ => N3
  k_dflt (refine outer_spec _ _ _ _ _ _ _ _ _ _ _ ps gs (c :: H) x d _ _ _ _ _ _ _ _ (by k_asm) F3 (by k_asm) (fun p hp => N3 p (.tail _ (.tail _ hp))) (by k_asm) hps hgs hfull hfl hcost hol ⟨congrArg (fun x => some (Value.str x _)) lit_nil, rfl, rfl, rfl, trivial⟩ ?_ ?_)
  · passes_own
  · clear F3 N3
    intro h9 tk9 m9 t9 F9 N9 e9
    rw [← pin_eq e9] at F9
    dsimp only [pin] at F9
    ktr_unf
    exact hret _ _ _ (by assumption) (by assumption)

end
section
theorem freshL0 : True := by w_top off; exact True.intro
section
variable {prog : Program} {w : World} {A : Around} {E : Value → Shared → Prop} {s : Shared} {env : Env} {h₀ : Heap} {x : Str} {body : List Stmt} {Q : Flow → Shared → Prop}
theorem for_range {r : Addr} {t₀ u₀ v₀ : Tok} {n : Nat} {m₀ : Str → Option Value} {news : List (Addr × Obj)} (J : Nat → (Str → Option Value) → List (Addr × Obj) → Prop)
    (hh : A.handled = none) (hr : IsRange s.heap r 0 (n : Int) 1 t₀ u₀ v₀) (hn : n ≤ 1000) (F : Fr h₀ env.locals s.heap m₀) (N : News h₀ env.locals s.heap news) (hj : J 0 m₀ news)
    (turn : ∀ i t m₁ nx h tk own, i < n → OwnOff own (nx.map (·.1)) → J i m₁ nx → Fr h₀ env.locals h (fun y => if y = x then some (.int (i : Int) t) else m₁ y) → News h₀ env.locals h (nx ++ own) →
      wpAny (model prog w) A (execs body env) (InvPostG h₀ env.locals (J (i + 1)) own { s with heap := h, toks := tk } Q) E { s with heap := h, toks := tk })
    (done : ∀ m₁ nx h tk, J n m₁ nx → Fr h₀ env.locals h m₁ → News h₀ env.locals h nx → Q .next { s with heap := h, toks := tk }) :
    wpAny (model prog w) A (pyIter (.ref r)) (fun it s₂ => LoopAtV prog w A h₀ env x body Q E it s₂) E s := by
  have hsz : Builtin.Range.rangeSize 0 (n : Int) 1 = (n : Int) := by
    rw [rangeSize_pos (by decide) (by omega)]; omega
  have hsmall : Builtin.Range.small 0 (n : Int) 1 = true := small_one (by decide) (by decide) (by omega) (by omega)
  refine wpAny_pyIter_range hr hsmall ?_
  have W := (Walks.range (prog := prog) (w := w) hh s.heap.objs.size 0 1 n).bound
  refine kdr_loop J W (fun _ h => h) (fun _ h => h) ?_ ?_ ?_ ?_ (by show IsRangeIter _ _ _ _ _; rw [hsz]; simpa using Heap.get?_push_size _ rfl) (F.push _) (fun p hp => ⟨Heap.get?_push_of_some _ (N p hp).1, (N p hp).2⟩) hj ?_ ?_
  · intro i h hi b hb
    rw [List.mem_singleton.mp hb]
    exact ⟨_, hi⟩
  · intro hm
    exact absurd F.ns.lt ((List.mem_singleton.mp hm) ▸ Nat.lt_irrefl _)
  · intro b hb
    rw [List.mem_singleton.mp hb]
    exact next_is_new F
  · intro p hp hI
    exact absurd (Heap.lt_size (N p hp).1) ((List.mem_singleton.mp hI) ▸ Nat.lt_irrefl _)
  · rintro i v m₁ nx h tk own hi ⟨_, t, rfl⟩ hoff hJ F₁ N₁
    have e : (0 : Int) + (i : Int) * 1 = (i : Int) := by omega
    rw [e] at F₁
    exact turn i t m₁ nx h tk own hi hoff hJ F₁ N₁
  · exact fun m₁ nx h tk hJ F₁ N₁ => done m₁ nx h tk hJ F₁ N₁
def JC (c : Addr) (J : (Str → Option Value) → List (Addr × Obj) → Prop) (m : Str → Option Value) (nx : List (Addr × Obj)) : Prop := ∃ o v nx₀, nx = (c, o) :: nx₀ ∧ o.data = .cell v ∧ (∀ p ∈ nx₀, p.1 ≠ c) ∧ J m nx₀
def LoopAtC (prog : Program) (w : World) (A : Around) (h₀ : Heap) (env : Env) (c : Addr) (body : List Stmt) (Q : Flow → Shared → Prop) (E : Value → Shared → Prop) (it : Value) (s₂ : Shared) : Prop :=
  ∃ (I : Addr) (n : Nat) (St : Nat → Heap → Prop) (m : Str → Option Value) (news : List (Addr × Obj)) (J : Nat → (Str → Option Value) → List (Addr × Obj) → Prop),
    it = .ref I ∧ Walks prog w A I [I] [I] n (fun i v => ∃ t, v = .int (i : Int) t) St ∧ (∀ i h, St i h → ∃ o, h.get? I = some o) ∧ env.locals ≠ I ∧ h₀.get? I = none ∧ (∀ p ∈ news, p.1 ≠ I) ∧ St 0 s₂.heap ∧ Fr h₀ env.locals s₂.heap m ∧ News h₀ env.locals s₂.heap news ∧ JC c (J 0) m news ∧
    (∀ i t m₁ nx h tk own o, i < n → o.data = .cell (some (.int (i : Int) t)) → OwnOff own (((c, o) :: nx).map (·.1)) → (∀ p ∈ nx, p.1 ≠ c) → J i m₁ nx → Fr h₀ env.locals h m₁ → News h₀ env.locals h ((c, o) :: nx ++ own) →
      wpAny (model prog w) A (execs body env) (InvPostG h₀ env.locals (JC c (J (i + 1))) own { s₂ with heap := h, toks := tk } Q) E { s₂ with heap := h, toks := tk }) ∧
    ∀ m₁ nx h tk, JC c (J n) m₁ nx → Fr h₀ env.locals h m₁ → News h₀ env.locals h nx → Q .next { s₂ with heap := h, toks := tk }
theorem For_cell {px pos : Pos} {iter : Expr} {c : Addr} (hk : env.scope.kind = .function) (hx : env.kindOf x = some .cell) (hc : env.cells.lookup x = some c)
    (h : wpAny (model prog w) A (eval iter env) (fun xv s₁ => wpAny (model prog w) A (pyIter xv) (fun it s₂ => LoopAtC prog w A h₀ env c body Q E it s₂) E s₁) E s)
    (hs : ∀ x, foldedSetIterable iter env x = pure x := by intro _; rfl)
    (hE : PassesOwn (model prog w) A env E := by passes_own) :
    wpAny (model prog w) A (exec (.For (.Name x px) iter body [] pos) env) Q E s := by
  refine wpAny_For (wpAny_mono h (fun xv s₁ h₁ => wpAny_mono h₁ (fun it s₂ h₂ => ?_) fun _ _ e => e) fun _ _ e => e) hs
  obtain ⟨I, n, St, m, news, J, rfl, W, hob, hLI, hI0, hnI, hst, F, N, hJ, turn, done⟩ := h₂
  refine codeAny_forLoop (fun k s' => ∃ h' tk m' nx i, s' = { s₂ with heap := h', toks := tk } ∧ St i h' ∧ Fr h₀ env.locals h' m' ∧ News h₀ env.locals h' nx ∧ (∀ p ∈ nx, p.1 ≠ I) ∧ JC c (J i) m' nx ∧ i ≤ n ∧ k = n + 1 - i) ?_ (n + 1) ⟨s₂.heap, s₂.toks, m, news, 0, rfl, hst, F, N, hnI, hJ, Nat.zero_le _, rfl⟩
  rintro k s' ⟨h', tk, m', nx, i, rfl, hst', F', N', hnI', hJ', hi, rfl⟩
  have step : ∀ h₁ : Heap, (∀ b o, b ∉ [I] → h'.get? b = some o → h₁.get? b = some o) → Fr h₀ env.locals h₁ m' ∧ News h₀ env.locals h₁ nx := by
    intro h₁ hk₁
    have ni : ∀ b, b ≠ I → b ∉ [I] := fun b hb hm => hb (List.mem_singleton.mp hm)
    refine ⟨⟨F'.ns.at' fun o e => hk₁ _ o (ni _ hLI) e, fun b o e => hk₁ b o (ni b fun q => ?_) (F'.keep b o e), F'.above⟩, fun p hp => ⟨hk₁ _ _ (ni _ (hnI' p hp)) (N' p hp).1, (N' p hp).2⟩⟩
    rw [q, hI0] at e; cases e
  by_cases hlt : i < n
  · refine W.item i _ _ _ hlt hst' fun v h₁ tk₁ hP hst₁ hk₁ => ?_
    obtain ⟨t, rfl⟩ := hP
    obtain ⟨F₁, N₁⟩ := step h₁ hk₁
    obtain ⟨o, v₀, nx₀, rfl, hd, hoff, hj⟩ := hJ'
    have hmem := N₁ (c, o) (.head _)
    have hcI : c ≠ I := hnI' (c, o) (.head _)
    refine wpAny_assign_Name (wpAny_storeName_cell hk hx hc ⟨o, hmem.1, hd⟩ fun h₂ hv hs₂ => ?_)
    obtain ⟨o₂, ho₂, hd₂⟩ := hv
    have F₂ : Fr h₀ env.locals h₂ m' := ⟨F₁.ns.sameBut hs₂ (Ne.symm hmem.2.1), fun b ob e => (hs₂.2 b (fun q => by rw [q, hmem.2.2] at e; cases e)).trans (F₁.keep b ob e), F₁.above⟩
    have N₂ : News h₀ env.locals h₂ ((c, o₂) :: nx₀) := news_set (pre := []) N₁ (fun _ hp => nomatch hp) hoff hs₂ ho₂
    have hLf : env.locals ∉ [I] := fun hm => hLI (List.mem_singleton.mp hm)
    have Nown : News h₀ env.locals h₂ (PyProof.Rows.ownOf h₀ [I] h₂) := news_ownOf hLf
    have hIb : ∀ b ∈ [I], b ≠ c := fun b hb q => hcI (q ▸ List.mem_singleton.mp hb)
    have hst₂ : St (i + 1) h₂ := W.frame _ _ _ hst₁ fun b hb ob e => (hs₂.2 b (hIb b hb)).trans e
    obtain ⟨oI, hoI⟩ := hob _ _ hst₂
    have hown : (I, oI) ∈ PyProof.Rows.ownOf h₀ [I] h₂ := mem_ownOf (List.mem_singleton.mpr rfl) hI0 hoI
    refine wpAny_passesOwn hE (wpAny_mono (turn i t m' nx₀ h₂ tk₁ (PyProof.Rows.ownOf h₀ [I] h₂) o₂ hlt hd₂ ?_ hoff hj F₂ (fun p hp => (List.mem_append.mp hp).elim (N₂ p) (Nown p))) (fun f s₃ h₃ => ?_) fun _ _ e => e)
    · intro p hp b hb q
      have hpI : p.1 = I := List.mem_singleton.mp (ownOf_sub p hp)
      rcases List.mem_cons.mp hb with rfl | hb
      · exact hcI (q.symm.trans hpI)
      · obtain ⟨p', hp', rfl⟩ := List.mem_map.mp hb
        exact hnI' p' (.tail _ hp') (q.symm.trans hpI)
    · have fin : InvEndG h₀ env.locals (JC c (J (i + 1))) (PyProof.Rows.ownOf h₀ [I] h₂) { s₂ with heap := h₂, toks := tk₁ } s₃ → ∃ m, m < n + 1 - i ∧ ∃ h' tk m' nx i, s₃ = { s₂ with heap := h', toks := tk } ∧ St i h' ∧ Fr h₀ env.locals h' m' ∧ News h₀ env.locals h' nx ∧ (∀ p ∈ nx, p.1 ≠ I) ∧ JC c (J i) m' nx ∧ i ≤ n ∧ m = n + 1 - i := by
        rintro ⟨hz, tk₃, m₃, news₃, nx₃, rfl, F₃, N₃, hn, ho, ha, hJ₃⟩
        refine ⟨n + 1 - (i + 1), by omega, hz, tk₃, m₃, nx₃, i + 1, rfl, ?_, F₃, fun p hp => N₃ p (hn p hp), fun p hp q => ?_, hJ₃, hlt, rfl⟩
        · refine W.frame _ _ _ hst₂ fun b hb ob e => ?_
          have hbI : b = I := List.mem_singleton.mp hb
          rw [hbI] at e ⊢
          exact (N₃ _ (ho _ (mem_ownOf (List.mem_singleton.mpr rfl) hI0 e))).1
        · exact ha _ hown _ (List.mem_map.mpr ⟨p, hp, rfl⟩) q.symm
      cases f with
      | ret v => exact h₃
      | brk => exact h₃
      | next => exact fin h₃
      | cont => exact fin h₃
  · have hin : i = n := by omega
    subst hin
    refine W.done _ _ _ hst' fun h₁ tk₁ hk₁ => wpAny_execs_nil ?_
    obtain ⟨F₁, N₁⟩ := step h₁ hk₁
    exact done m' nx h₁ tk₁ hJ' F₁ N₁
theorem for_rangeC {r c : Addr} {t₀ u₀ v₀ : Tok} {n : Nat} {m₀ : Str → Option Value} {o : Obj} {v : Option Value} {news : List (Addr × Obj)} (J : Nat → (Str → Option Value) → List (Addr × Obj) → Prop)
    (hh : A.handled = none) (hr : IsRange s.heap r 0 (n : Int) 1 t₀ u₀ v₀) (hn : n ≤ 1000) (F : Fr h₀ env.locals s.heap m₀) (N : News h₀ env.locals s.heap ((c, o) :: news)) (hd : o.data = .cell v) (hoff : ∀ p ∈ news, p.1 ≠ c) (hj : J 0 m₀ news)
    (turn : ∀ i t m₁ nx h tk own o, i < n → o.data = .cell (some (.int (i : Int) t)) → OwnOff own (((c, o) :: nx).map (·.1)) → (∀ p ∈ nx, p.1 ≠ c) → J i m₁ nx → Fr h₀ env.locals h m₁ → News h₀ env.locals h ((c, o) :: nx ++ own) →
      wpAny (model prog w) A (execs body env) (InvPostG h₀ env.locals (JC c (J (i + 1))) own { s with heap := h, toks := tk } Q) E { s with heap := h, toks := tk })
    (done : ∀ m₁ nx h tk, JC c (J n) m₁ nx → Fr h₀ env.locals h m₁ → News h₀ env.locals h nx → Q .next { s with heap := h, toks := tk }) :
    wpAny (model prog w) A (pyIter (.ref r)) (fun it s₂ => LoopAtC prog w A h₀ env c body Q E it s₂) E s := by
  have hsz : Builtin.Range.rangeSize 0 (n : Int) 1 = (n : Int) := by
    rw [rangeSize_pos (by decide) (by omega)]; omega
  have hsmall : Builtin.Range.small 0 (n : Int) 1 = true := small_one (by decide) (by decide) (by omega) (by omega)
  refine wpAny_pyIter_range hr hsmall ?_
  have W := Walks.range (prog := prog) (w := w) hh s.heap.objs.size 0 1 n
  have e : ∀ i : Nat, (0 : Int) + (i : Int) * 1 = (i : Int) := fun i => by omega
  simp only [e] at W
  refine ⟨s.heap.objs.size, n, _, m₀, (c, o) :: news, J, rfl, W, fun i h hi => ⟨_, hi⟩, ?_, next_is_new F, ?_, by show IsRangeIter _ _ _ _ _; rw [hsz]; simpa using Heap.get?_push_size _ rfl, F.push _, fun p hp => ⟨Heap.get?_push_of_some _ (N p hp).1, (N p hp).2⟩, ⟨o, v, news, rfl, hd, hoff, hj⟩, ?_, done⟩
  · exact fun q => absurd F.ns.lt (q ▸ Nat.lt_irrefl _)
  · exact fun p hp q => absurd (Heap.lt_size (N p hp).1) (q ▸ Nat.lt_irrefl _)
  · intro i t m₁ nx h tk own o hi hd' ho hof hj' F' N'
    exact turn i t m₁ nx h tk own o hi hd' ho hof hj' F' N'
end

end
section
theorem freshL1 : True := by w_top off; exact True.intro
theorem str_I {prog : Program} {w : World} {A : Around} {E : Value → Shared → Prop} {s : Shared} {i : Int} {t : Tok} {Q : Value → Shared → Prop} (h1 : 1 ≤ i) (h2 : i ≤ 2) (h : ∀ t' k, Q (.str (S [48 + i.toNat]) t') { s with toks := k }) : wpAny (model prog w) A (call (.type "str") [.int i t]) Q E s := by
  rcases (by omega : i = 1 ∨ i = 2) with rfl | rfl
  · refine PySem.P.str_of_int (by decide) ?_
    have e : (toString (1 : Int) : Str) = S [48 + (1 : Int).toNat] := by decide +kernel
    rw [e]; exact h _ _
  · refine PySem.P.str_of_int (by decide) ?_
    have e : (toString (2 : Int) : Str) = S [48 + (2 : Int).toNat] := by decide +kernel
    rw [e]; exact h _ _

local macro_rules | `(tactic| ktr_rel) => `(tactic| with_reducible first | rfl | assumption | exact lit_fig | exact lit_zero | exact lit_nil | exact lit_star | exact lit_dots | exact lit_coms | exact lit_xdoa | exact lit_dig | exact lit_a | exact lit_t | exact lit_x | exact lit_d | exact lit_o | exact lit_B | exact lit_integer | exact lit_string | exact lit_ascii | exact lit_ignore | exact lit_f02x | exact lit_f03o | exact lit_fd | exact lit_b | fail "no S")
local macro_rules | `(tactic| ktr_unf) => `(tactic| repeat' (first | (k_unfold; (try dsimp only)) | (k_end; kc_close) | ((fail_if_success (with_reducible show wpAny _ _ (exec (Stmt.While _ _ _ _) _) _ _ _)); (fail_if_success (with_reducible show wpAny _ _ (exec (Stmt.For _ _ _ _ _) _) _ _ _)); (fail_if_success (with_reducible show wpAny _ _ (eval (Expr.ListComp _ _ _ _) _) _ _ _)); (fail_if_success (with_reducible show wpAny _ _ (exec (Stmt.Assign _ (Expr.ListComp _ _ _ _) _) _) _ _ _)); (fail_if_success (with_reducible show wpAny _ _ (pyIter _) _ _ _)); (fail_if_success (with_reducible show LCg.CompSrc _ _ _ _ _ _ _ _ _ _ _ _ _ _)); (first | walk1 | (dsimp only; walk1))) | (leave1; walk_say "STEP leave1"; (try dsimp only)) | fail "no step"))
local macro_rules | `(tactic| walk_at "subscriptTail Constant str BinOp") => `(tactic| ((with_reducible show wpAny _ _ (subscriptTail _ _ (Value.str _ _) (Value.int _ _)) _ _ _); (refine' itemD_S ?hx ?h0 ?h1 ?hl ?_); (case hx => ktr_rel); (case h0 => first | decide | omega | exact fmod_lo _ (by decide)); (case h1 => first | decide | omega | exact fmod_hi _ (by decide)); (case hl => first | decide | omega | (simp only [List.length_append, List.length_cons, List.length_nil, List.length_replicate, List.length_map]; omega)); intro _ _))
local macro_rules | `(tactic| walk_at "subscriptTail") => `(tactic| ((with_reducible show wpAny _ _ (subscriptTail _ _ (Value.str _ _) (Value.int _ _)) _ _ _); (refine' itemD_S ?hx ?h0 ?h1 ?hl ?_); (case hx => ktr_rel); (case h0 => first | decide | omega | exact fmod_lo _ (by decide)); (case h1 => first | decide | omega | exact fmod_hi _ (by decide)); (case hl => first | decide | omega | (simp only [List.length_append, List.length_cons, List.length_nil, List.length_replicate, List.length_map]; omega)); intro _ _))
local macro_rules | `(tactic| walk_at "subscriptTail Name Constant str int") => `(tactic| ((with_reducible show wpAny _ _ (subscriptTail _ _ (Value.str _ _) (Value.int 0 _)) _ _ _); (refine' item0_S ?hx ?hl ?_); (case hx => ktr_rel); (case hl => first | decide | omega | (simp only [List.length_append, List.length_cons, List.length_nil, List.length_replicate, List.length_map]; omega)); intro _ _))
local macro_rules | `(tactic| walk_at "subscriptTail") => `(tactic| ((with_reducible show wpAny _ _ (subscriptTail _ _ (Value.str _ _) (Value.int 0 _)) _ _ _); (refine' item0_S ?hx ?hl ?_); (case hx => ktr_rel); (case hl => first | decide | omega | (simp only [List.length_append, List.length_cons, List.length_nil, List.length_replicate, List.length_map]; omega)); intro _ _))
local macro_rules | `(tactic| walk_at "subscriptTail Name Slice str ref") => `(tactic| ((with_reducible show wpAny _ _ (subscriptTail _ (Expr.Slice (some _) none none _) (Value.str _ _) (Value.ref _)) _ _ _); (with_reducible rename Fr _ _ _ _ => F'); (with_reducible rename News _ _ _ _ => N'); (refine' tail_S (s := ⟨_, _, _, _, _⟩) ?hx ?hl F' N' ?_); (case hx => ktr_rel); (case hl => first | decide | omega | (simp only [List.length_append, List.length_cons, List.length_nil, List.length_replicate, List.length_map]; omega)); intro _ _ _ _ _))
local macro_rules | `(tactic| walk_at "subscriptTail") => `(tactic| ((with_reducible show wpAny _ _ (subscriptTail _ (Expr.Slice (some _) none none _) (Value.str _ _) (Value.ref _)) _ _ _); (with_reducible rename Fr _ _ _ _ => F'); (with_reducible rename News _ _ _ _ => N'); (refine' tail_S (s := ⟨_, _, _, _, _⟩) ?hx ?hl F' N' ?_); (case hx => ktr_rel); (case hl => first | decide | omega | (simp only [List.length_append, List.length_cons, List.length_nil, List.length_replicate, List.length_map]; omega)); intro _ _ _ _ _))
local macro_rules | `(tactic| walk_at "call builtin:len cons nil") => `(tactic| ((with_reducible show wpAny _ _ (call (Value.builtin "len") [Value.str _ _]) _ _ _); (refine' len_S ?hx ?hl ?_); (case hx => ktr_rel); (case hl => first | decide | omega | (simp only [List.length_append, List.length_cons, List.length_nil, List.length_replicate, List.length_map]; omega)); intro _ _))
local macro_rules | `(tactic| walk_at "call builtin:len") => `(tactic| ((with_reducible show wpAny _ _ (call (Value.builtin "len") [Value.str _ _]) _ _ _); (refine' len_S ?hx ?hl ?_); (case hx => ktr_rel); (case hl => first | decide | omega | (simp only [List.length_append, List.length_cons, List.length_nil, List.length_replicate, List.length_map]; omega)); intro _ _))
local macro_rules | `(tactic| walk_at "binaryOp Add str str") => `(tactic| ((refine' add_S ?hx ?hy ?hl ?_); (case hx => ktr_rel); (case hy => ktr_rel); (case hl => first | decide | omega | (simp only [List.length_append, List.length_cons, List.length_nil, List.length_replicate, List.length_map]; omega)); intro _ _))
local macro_rules | `(tactic| walk_at "inplaceOp Add str str") => `(tactic| ((refine' iadd_S ?hx ?hy ?hl ?_); (case hx => ktr_rel); (case hy => ktr_rel); (case hl => first | decide | omega | (simp only [List.length_append, List.length_cons, List.length_nil, List.length_replicate, List.length_map]; omega)); intro _ _))
local macro_rules | `(tactic| walk_at "binaryOp Mult str int") => `(tactic| ((refine' mul_S ?hx ?hl ?h0 ?_); (case hx => ktr_rel); (case hl => omega); (case h0 => omega); intro _ _))
local macro_rules | `(tactic| walk_at "compareOp Eq str str") => `(tactic| ((refine' eq_S ?hx ?hy ?_); (case hx => ktr_rel); (case hy => ktr_rel)))
local macro_rules | `(tactic| walk_at "compareOp NotEq str str") => `(tactic| ((refine' ne_S ?hx ?hy ?_); (case hx => ktr_rel); (case hy => ktr_rel)))
local macro_rules | `(tactic| walk_at "compareOp In str str") => `(tactic| ((refine' in_S ?hx ?hy ?_); (case hx => ktr_rel); (case hy => ktr_rel)))
local macro_rules | `(tactic| walk_at "compareOp NotIn str str") => `(tactic| ((refine' notin_S ?hx ?hy ?_); (case hx => ktr_rel); (case hy => ktr_rel)))
local macro_rules | `(tactic| walk_at "truthy str") => `(tactic| ((refine' truthy_S ?hx ?hl ?_); (case hx => ktr_rel); (case hl => first | decide | omega | (simp only [List.length_append, List.length_cons, List.length_nil, List.length_replicate, List.length_map]; omega)); intro _))
local macro_rules | `(tactic| walk_at "call type:int cons nil") => `(tactic| ((with_reducible show wpAny _ _ (call (Value.type "int") [Value.str _ _]) _ _ _); (refine' int_S ?hx ?hc ?_); (case hx => ktr_rel); (case hc => omega); intro _ _))
local macro_rules | `(tactic| walk_at "call type:int") => `(tactic| ((with_reducible show wpAny _ _ (call (Value.type "int") [Value.str _ _]) _ _ _); (refine' int_S ?hx ?hc ?_); (case hx => ktr_rel); (case hc => omega); intro _ _))
local macro_rules | `(tactic| walk_at "compareOp Is bytes ref") => `(tactic| (refine wpAny_is_other (by rfl) (by intro x; cases x) ?_))
local macro_rules | `(tactic| walk_at "truthy str") => `(tactic| first | ((refine truthy_Sn (by with_reducible first | rfl | exact lit_nil) ?_); intro _) | ((refine truthy_Sc (by with_reducible first | rfl | exact lit_star) (by first | decide | omega | (simp only [List.length_append, List.length_cons, List.length_nil, List.length_replicate, List.length_map] at *; omega)) ?_); intro _))

local macro_rules | `(tactic| walk_at "truthy bytes") => `(tactic| (refine truthy_B (by first | omega | (simp only [List.length_append, List.length_cons, List.length_nil, List.length_take, List.length_drop]; omega)) ?_; intro _))
local macro_rules | `(tactic| walk_at "call builtin:len") => `(tactic| ((with_reducible show wpAny _ _ (call (Value.builtin "len") [Value.bytes (List.toArray _) _]) _ _ _); refine len_B (by first | omega | (simp only [List.length_append, List.length_cons, List.length_nil, List.length_take, List.length_drop]; omega)) ?_; intro _ _))
local macro_rules | `(tactic| walk_at "subscriptTail Name str Constant bytes int") => `(tactic| ((with_reducible show wpAny _ _ (subscriptTail _ _ (Value.bytes (List.toArray (_ :: _)) _) (Value.int 0 _)) _ _ _); refine item0_B (by first | omega | (simp only [List.length_append, List.length_cons, List.length_nil] at *; omega)) ?_; intro _ _))
local macro_rules | `(tactic| walk_at "subscriptTail Name Constant bytes int") => `(tactic| ((with_reducible show wpAny _ _ (subscriptTail _ _ (Value.bytes (List.toArray (_ :: _)) _) (Value.int 0 _)) _ _ _); refine item0_B (by first | omega | (simp only [List.length_append, List.length_cons, List.length_nil] at *; omega)) ?_; intro _ _))
local macro_rules | `(tactic| walk_at "subscriptTail") => `(tactic| ((with_reducible show wpAny _ _ (subscriptTail _ _ (Value.bytes (List.toArray (_ :: _)) _) (Value.int 0 _)) _ _ _); refine item0_B (by first | omega | (simp only [List.length_append, List.length_cons, List.length_nil] at *; omega)) ?_; intro _ _))
local macro_rules | `(tactic| walk_at "subscriptTail Name str Slice") => `(tactic| ((with_reducible show wpAny _ _ (subscriptTail _ (Expr.Slice none (some _) none _) (Value.bytes (List.toArray _) _) (Value.ref _)) _ _ _); (with_reducible rename Fr _ _ _ _ => F'); (with_reducible rename News _ _ _ _ => N'); (refine head_B (s := ⟨_, _, _, _, _⟩) F' N' (by first | decide | omega) (by first | omega | (simp only [List.length_append, List.length_cons, List.length_nil, List.length_take, List.length_drop] at *; omega)) ?_); intro _ _ _ _ _))
local macro_rules | `(tactic| walk_at "subscriptTail") => `(tactic| ((with_reducible show wpAny _ _ (subscriptTail _ (Expr.Slice none (some _) none _) (Value.bytes (List.toArray _) _) (Value.ref _)) _ _ _); (with_reducible rename Fr _ _ _ _ => F'); (with_reducible rename News _ _ _ _ => N'); (refine head_B (s := ⟨_, _, _, _, _⟩) F' N' (by first | decide | omega) (by first | omega | (simp only [List.length_append, List.length_cons, List.length_nil, List.length_take, List.length_drop] at *; omega)) ?_); intro _ _ _ _ _))
local macro_rules | `(tactic| walk_at "subscriptTail Name str Slice") => `(tactic| ((with_reducible show wpAny _ _ (subscriptTail _ (Expr.Slice (some _) none none _) (Value.bytes (List.toArray _) _) (Value.ref _)) _ _ _); (with_reducible rename Fr _ _ _ _ => F'); (with_reducible rename News _ _ _ _ => N'); (refine drop_B (s := ⟨_, _, _, _, _⟩) F' N' (by first | decide | omega) (by first | omega | (simp only [List.length_append, List.length_cons, List.length_nil, List.length_take, List.length_drop] at *; omega)) ?_); intro _ _ _ _ _))
local macro_rules | `(tactic| walk_at "subscriptTail") => `(tactic| ((with_reducible show wpAny _ _ (subscriptTail _ (Expr.Slice (some _) none none _) (Value.bytes (List.toArray _) _) (Value.ref _)) _ _ _); (with_reducible rename Fr _ _ _ _ => F'); (with_reducible rename News _ _ _ _ => N'); (refine drop_B (s := ⟨_, _, _, _, _⟩) F' N' (by first | decide | omega) (by first | omega | (simp only [List.length_append, List.length_cons, List.length_nil, List.length_take, List.length_drop] at *; omega)) ?_); intro _ _ _ _ _))
local macro_rules | `(tactic| walk_at "binaryOp Mod str int") => `(tactic| (first | ((with_reducible refine mod_x ?h0 ?h1 ?_); (case h0 => omega); (case h1 => omega); intro _ _) | ((with_reducible refine mod_o ?h0 ?h1 ?_); (case h0 => omega); (case h1 => omega); intro _ _)))
local macro_rules | `(tactic| walk_at "call builtin:bytes.decode") => `(tactic| ((with_reducible refine decode_B ?h0 ?h1 ?_); (case h0 => first | assumption | omega); (case h1 => assumption); intro _ _))
local macro_rules | `(tactic| walk_at "inplaceOp LShift int int") => `(tactic| ((refine shl8 (by omega) ?_); intro _ _))
local macro_rules | `(tactic| walk_at "inplaceOp BitOr int int") => `(tactic| ((refine or8 (by first | assumption | omega) ?_); intro _ _))
local macro_rules | `(tactic| walk_at "truthy bytes") => `(tactic| first | ((with_reducible refine truthy_Bn ?_); intro _) | ((with_reducible refine truthy_Bc ?hl ?_); (case hl => first | decide | omega | (simp only [List.length_append, List.length_cons, List.length_nil, List.length_replicate, List.length_map] at *; omega)); intro _))

local macro_rules | `(tactic| ktr_unf) => `(tactic| repeat' (first | (k_unfold; (try dsimp only)) | (k_end; kc_close) | ((fail_if_success (with_reducible show wpAny _ _ (exec (Stmt.While _ _ _ _) _) _ _ _)); (fail_if_success (with_reducible show wpAny _ _ (exec (Stmt.For _ _ _ _ _) _) _ _ _)); (fail_if_success (with_reducible show wpAny _ _ (eval (Expr.ListComp _ _ _ _) _) _ _ _)); (fail_if_success (with_reducible show wpAny _ _ (exec (Stmt.Assign _ (Expr.ListComp _ _ _ _) _) _) _ _ _)); (fail_if_success (with_reducible show wpAny _ _ (pyIter _) _ _ _)); (fail_if_success (with_reducible show wpAny _ _ (exec (Stmt.If (Expr.Compare _ _ [Expr.Constant (Const.str (Str.ofString "a")) _ _] _) _ _ _) _) _ _ _)); (fail_if_success (with_reducible show LCg.CompSrc _ _ _ _ _ _ _ _ _ _ _ _ _ _)); (first | walk1 | (dsimp only; walk1))) | (leave1; walk_say "STEP leave1"; (try dsimp only)) | fail "no step"))

local macro_rules | `(tactic| k_room) => `(tactic| ktr_room)
local macro_rules | `(tactic| walk_at "loadName") => `(tactic| k_dflt (refine' wpAny_loadName_local ?k ?l (Fr.ns ?F) ?v ?_; (case F => k_asm); (case k => rfl); (case l => rfl); (case v => rfl); k_whole))
local macro_rules | `(tactic| walk_at "call ref") => `(tactic| ((with_reducible show wpAny _ _ (call (Value.ref 402) _) _ _ _); k_dflt (refine' number_spec _ _ _ _ _ _ _ _ _ _ _ _ _ _ _ _ _ _ _ _ _ _ _ ?k1 ?k2 ?k3 ?k4 ?k5 ?kK ?a1 ?a2 ?a3 ?a4 ?a5 ?kd ?ku ?kR; (case k1 => k_asm); (case k2 => k_asm); (case k3 => k_asm); (case k4 => k_asm); (case k5 => k_asm); (case kK => first | exact rfl | assumption); (case a1 => assumption); (case a2 => assumption); (case a3 => assumption); (case a4 => omega); (case a5 => omega); (case kd => ktr_room); (case ku => ktr_units); intro t9 h9 tk9 F9 N9; (try dsimp only); (try k_fold))))
local macro_rules | `(tactic| walk_at "call type:str") => `(tactic| ((with_reducible show wpAny _ _ (call (Value.type "str") [Value.int _ _]) _ _ _); k_dflt (refine' str_I ?h1 ?h2 ?_; (case h1 => omega); (case h2 => omega)); intro _ _))

def lawFor : Stmt := nthS (bodyS (topS 23)) 0
def kFor : Stmt := nthS (bodyS lawFor) 3
def kS (i : Nat) : Stmt := nthS (bodyS kFor) i
def tupO (len wy : Int) (rep : Bool) (sp mk : List Nat) (u1 u2 u3 u4 : Tok) : Obj := { cls := .type "tuple", data := .seq #[.int len u1, .int wy u2, .bool rep, .str (S sp) u3, .str (S mk) u4] }
theorem push_l {ps : List Value} {v : Value} : ps.toArray.push v = (ps ++ [v]).toArray := by simp
theorem hint_spec : ∀ {w : World} {mean : ExcName → Option Value} {mg mb : Str → Option Value} (dp un : Nat) (gd : Option (List Code)) (a : Addr) (ccd : Value) (outer : List Env) (A₀ : Around) (base h₀ : Heap) (L : Addr) (m : Str → Option Value) (news : List (Addr × Obj)) (s : Shared) (len wy : Int) (rep : Bool) (H sg sp mk : List Nat) (pa : Addr) (ps : List Value) (np : Nat) (oj om ow : Obj) (vj vm : Option Value) (t1 t2 t3 t4 t5 t6 : Tok) (Q : Flow → Shared → Prop) (E : Value → Shared → Prop)
    (_ : Below A₀ base outer h₀) (_ : Fr h₀ L s.heap m) (_ : (hd.heap_39 w.params).In h₀) (_ : Top hd.view_39 (looseW hd.view_39 [Str.ofString "noValue", Str.ofString "Value", Str.ofString "Integer32", Str.ofString "OctetString", Str.ofString "SmiError", Str.ofString "TextualConvention", Str.ofString "HintedString", Str.ofString "HintedInteger", Str.ofString "TestAndIncr", Str.ofString "RowStatus"]) mean mg mb h₀) (_ : dp + 20 < recursionLimit) (_ : un + 200 < cLine) (_ : News h₀ L s.heap ((L + 1 + 1 + 1, oj) :: (L + 1 + 1, om) :: (L + 1, ow) :: (pa, listOf ps.toArray np) :: news))
    (_ : @LT.lt Nat _ (L + 1 + 1 + 1) pa) (_ : OwnOff news [L + 1 + 1 + 1, L + 1 + 1, L + 1, pa])
    (_ : 1 ≤ len) (_ : len ≤ 2) (_ : 0 ≤ wy) (_ : wy < 4) (_ : H.length ≤ 50) (_ : sg.length ≤ 2) (_ : ps.length ≤ 10)
    (_ : oj.data = .cell vj) (_ : om.data = .cell vm) (_ : ow.data = .cell (some (.int wy t1)))
    (_ : Has m [(Str.ofString "length", .int len t2), (Str.ofString "repeated", .bool rep), (Str.ofString "signs", .str (S sg) t3), (Str.ofString "sep", .str (S sp) t4), (Str.ofString "mark", .str (S mk) t5), (Str.ofString "hint", .str (S H) t6), (Str.ofString "parts", .ref pa)])
    (_ : ∀ (h' : Heap) (tk : Nat) (m' : Str → Option Value) (D : Addr) (t t' u1 u2 u3 u4 : Tok), Fr h₀ L h' m' → News h₀ L h' ((L + 1 + 1 + 1, oj) :: (L + 1 + 1, om) :: (L + 1, ow) :: (pa, listOf (ps ++ [Value.ref D]).toArray (np + 1)) :: (D, tupO len wy rep sp mk u1 u2 u3 u4) :: news) → @LT.lt Nat _ pa D → AllLt D news → Has m' [(Str.ofString "hint", .str (S (H ++ ((if rep = true then [42] else []) ++ (48 + len.toNat) :: wayC wy.toNat :: sg))) t)] → (∀ z, z ≠ Str.ofString "hint" → m' z = m z) → Q .next { s with heap := h', toks := tk }),
    wpAny (model Challenge.rw_am6029_01.row.prog w) (ktrTop dp un gd (Str.ofString "law") lScope L a ccd (cellsFrom (L + 1) lScope.names []) outer) (execs [kS 6, kS 7] (envX (Str.ofString "law") lScope L a ccd (cellsFrom (L + 1) lScope.names []))) Q E s := by
  k_fill
  intro w mean mg mb dp un gd a ccd outer A₀ base h₀ L m news s len wy rep H sg sp mk pa ps np oj om ow vj vm t1 t2 t3 t4 t5 t6 Q E B F X T hd hu N hpa hoff hl1 hl2 hw0 hw1 hH hsg hpl hj hm' hw hm hret
  conv => arg 3; arg 1; arg 1; whnf
  conv => arg 3; arg 1; arg 2; arg 1; whnf
  rw [← pin_eq hm] at F
  dsimp only [pin] at F
  rcases rep with _ | _ <;> ktr_unf
  all_goals
    rename Fr _ _ _ _ => F2
    rename News _ _ _ _ => N2
    rw [push_l] at N2
    rename _ ∧ _ => l1
    obtain ⟨q1, q2, q3, q4, q5⟩ := l1
    refine hret _ _ _ _ _ t1 t2 t1 t4 t5 F2 (fun p hp => N2 p ?_) q4 q5 (has_str rfl ?_) ?_
    · simp only [List.mem_cons] at hp ⊢
      rcases hp with h | h | h | h | h | h
      · exact .inr (.inl h)
      · exact .inr (.inr (.inl h))
      · exact .inr (.inr (.inr (.inl h)))
      · exact .inr (.inr (.inr (.inr (.inl h))))
      · exact .inl h
      · exact .inr (.inr (.inr (.inr (.inr h))))
    · simp only [wayC, List.append_assoc, List.cons_append, List.nil_append, if_true, if_false, Bool.false_eq_true, reduceCtorEq]
    · intro z z1
      have z6 := congrFun (pin_eq hm) z
      simp only [pin] at z6
      simp only [z1, if_false] at z6 ⊢
      exact z6

end
section
theorem freshL2 : True := by w_top off; exact True.intro
local macro_rules | `(tactic| walk_at "pad of mine") => `(tactic| fail "a pad")

local macro_rules | `(tactic| ktr_rel) => `(tactic| with_reducible first | rfl | assumption | exact lit_fig | exact lit_zero | exact lit_nil | exact lit_star | exact lit_dots | exact lit_coms | exact lit_xdoa | exact lit_dig | exact lit_a | exact lit_t | exact lit_x | exact lit_d | exact lit_o | exact lit_B | exact lit_integer | exact lit_string | exact lit_ascii | exact lit_ignore | exact lit_f02x | exact lit_f03o | exact lit_fd | exact lit_b | fail "no S")
local macro_rules | `(tactic| ktr_unf) => `(tactic| repeat' (first | (k_unfold; (try dsimp only)) | (k_end; kc_close) | ((fail_if_success (with_reducible show wpAny _ _ (exec (Stmt.While _ _ _ _) _) _ _ _)); (fail_if_success (with_reducible show wpAny _ _ (exec (Stmt.For _ _ _ _ _) _) _ _ _)); (fail_if_success (with_reducible show wpAny _ _ (eval (Expr.ListComp _ _ _ _) _) _ _ _)); (fail_if_success (with_reducible show wpAny _ _ (exec (Stmt.Assign _ (Expr.ListComp _ _ _ _) _) _) _ _ _)); (fail_if_success (with_reducible show wpAny _ _ (pyIter _) _ _ _)); (fail_if_success (with_reducible show LCg.CompSrc _ _ _ _ _ _ _ _ _ _ _ _ _ _)); (first | walk1 | (dsimp only; walk1))) | (leave1; walk_say "STEP leave1"; (try dsimp only)) | fail "no step"))
local macro_rules | `(tactic| walk_at "subscriptTail Constant str BinOp") => `(tactic| ((with_reducible show wpAny _ _ (subscriptTail _ _ (Value.str _ _) (Value.int _ _)) _ _ _); (refine' itemD_S ?hx ?h0 ?h1 ?hl ?_); (case hx => ktr_rel); (case h0 => first | decide | omega | exact fmod_lo _ (by decide)); (case h1 => first | decide | omega | exact fmod_hi _ (by decide)); (case hl => first | decide | omega | (simp only [List.length_append, List.length_cons, List.length_nil, List.length_replicate, List.length_map]; omega)); intro _ _))
local macro_rules | `(tactic| walk_at "subscriptTail") => `(tactic| ((with_reducible show wpAny _ _ (subscriptTail _ _ (Value.str _ _) (Value.int _ _)) _ _ _); (refine' itemD_S ?hx ?h0 ?h1 ?hl ?_); (case hx => ktr_rel); (case h0 => first | decide | omega | exact fmod_lo _ (by decide)); (case h1 => first | decide | omega | exact fmod_hi _ (by decide)); (case hl => first | decide | omega | (simp only [List.length_append, List.length_cons, List.length_nil, List.length_replicate, List.length_map]; omega)); intro _ _))
local macro_rules | `(tactic| walk_at "subscriptTail Name Constant str int") => `(tactic| ((with_reducible show wpAny _ _ (subscriptTail _ _ (Value.str _ _) (Value.int 0 _)) _ _ _); (refine' item0_S ?hx ?hl ?_); (case hx => ktr_rel); (case hl => first | decide | omega | (simp only [List.length_append, List.length_cons, List.length_nil, List.length_replicate, List.length_map]; omega)); intro _ _))
local macro_rules | `(tactic| walk_at "subscriptTail") => `(tactic| ((with_reducible show wpAny _ _ (subscriptTail _ _ (Value.str _ _) (Value.int 0 _)) _ _ _); (refine' item0_S ?hx ?hl ?_); (case hx => ktr_rel); (case hl => first | decide | omega | (simp only [List.length_append, List.length_cons, List.length_nil, List.length_replicate, List.length_map]; omega)); intro _ _))
local macro_rules | `(tactic| walk_at "subscriptTail Name Slice str ref") => `(tactic| ((with_reducible show wpAny _ _ (subscriptTail _ (Expr.Slice (some _) none none _) (Value.str _ _) (Value.ref _)) _ _ _); (with_reducible rename Fr _ _ _ _ => F'); (with_reducible rename News _ _ _ _ => N'); (refine' tail_S (s := ⟨_, _, _, _, _⟩) ?hx ?hl F' N' ?_); (case hx => ktr_rel); (case hl => first | decide | omega | (simp only [List.length_append, List.length_cons, List.length_nil, List.length_replicate, List.length_map]; omega)); intro _ _ _ _ _))
local macro_rules | `(tactic| walk_at "subscriptTail") => `(tactic| ((with_reducible show wpAny _ _ (subscriptTail _ (Expr.Slice (some _) none none _) (Value.str _ _) (Value.ref _)) _ _ _); (with_reducible rename Fr _ _ _ _ => F'); (with_reducible rename News _ _ _ _ => N'); (refine' tail_S (s := ⟨_, _, _, _, _⟩) ?hx ?hl F' N' ?_); (case hx => ktr_rel); (case hl => first | decide | omega | (simp only [List.length_append, List.length_cons, List.length_nil, List.length_replicate, List.length_map]; omega)); intro _ _ _ _ _))
local macro_rules | `(tactic| walk_at "call builtin:len cons nil") => `(tactic| ((with_reducible show wpAny _ _ (call (Value.builtin "len") [Value.str _ _]) _ _ _); (refine' len_S ?hx ?hl ?_); (case hx => ktr_rel); (case hl => first | decide | omega | (simp only [List.length_append, List.length_cons, List.length_nil, List.length_replicate, List.length_map]; omega)); intro _ _))
local macro_rules | `(tactic| walk_at "call builtin:len") => `(tactic| ((with_reducible show wpAny _ _ (call (Value.builtin "len") [Value.str _ _]) _ _ _); (refine' len_S ?hx ?hl ?_); (case hx => ktr_rel); (case hl => first | decide | omega | (simp only [List.length_append, List.length_cons, List.length_nil, List.length_replicate, List.length_map]; omega)); intro _ _))
local macro_rules | `(tactic| walk_at "binaryOp Add str str") => `(tactic| ((refine' add_S ?hx ?hy ?hl ?_); (case hx => ktr_rel); (case hy => ktr_rel); (case hl => first | decide | omega | (simp only [List.length_append, List.length_cons, List.length_nil, List.length_replicate, List.length_map]; omega)); intro _ _))
local macro_rules | `(tactic| walk_at "inplaceOp Add str str") => `(tactic| ((refine' iadd_S ?hx ?hy ?hl ?_); (case hx => ktr_rel); (case hy => ktr_rel); (case hl => first | decide | omega | (simp only [List.length_append, List.length_cons, List.length_nil, List.length_replicate, List.length_map]; omega)); intro _ _))
local macro_rules | `(tactic| walk_at "binaryOp Mult str int") => `(tactic| ((refine' mul_S ?hx ?hl ?h0 ?_); (case hx => ktr_rel); (case hl => omega); (case h0 => omega); intro _ _))
local macro_rules | `(tactic| walk_at "compareOp Eq str str") => `(tactic| ((refine' eq_S ?hx ?hy ?_); (case hx => ktr_rel); (case hy => ktr_rel)))
local macro_rules | `(tactic| walk_at "compareOp NotEq str str") => `(tactic| ((refine' ne_S ?hx ?hy ?_); (case hx => ktr_rel); (case hy => ktr_rel)))
local macro_rules | `(tactic| walk_at "compareOp In str str") => `(tactic| ((refine' in_S ?hx ?hy ?_); (case hx => ktr_rel); (case hy => ktr_rel)))
local macro_rules | `(tactic| walk_at "compareOp NotIn str str") => `(tactic| ((refine' notin_S ?hx ?hy ?_); (case hx => ktr_rel); (case hy => ktr_rel)))
local macro_rules | `(tactic| walk_at "truthy str") => `(tactic| ((refine' truthy_S ?hx ?hl ?_); (case hx => ktr_rel); (case hl => first | decide | omega | (simp only [List.length_append, List.length_cons, List.length_nil, List.length_replicate, List.length_map]; omega)); intro _))
local macro_rules | `(tactic| walk_at "call type:int cons nil") => `(tactic| ((with_reducible show wpAny _ _ (call (Value.type "int") [Value.str _ _]) _ _ _); (refine' int_S ?hx ?hc ?_); (case hx => ktr_rel); (case hc => omega); intro _ _))
local macro_rules | `(tactic| walk_at "call type:int") => `(tactic| ((with_reducible show wpAny _ _ (call (Value.type "int") [Value.str _ _]) _ _ _); (refine' int_S ?hx ?hc ?_); (case hx => ktr_rel); (case hc => omega); intro _ _))
local macro_rules | `(tactic| walk_at "compareOp Is bytes ref") => `(tactic| (refine wpAny_is_other (by rfl) (by intro x; cases x) ?_))
local macro_rules | `(tactic| walk_at "truthy str") => `(tactic| first | ((refine truthy_Sn (by with_reducible first | rfl | exact lit_nil) ?_); intro _) | ((refine truthy_Sc (by with_reducible first | rfl | exact lit_star) (by first | decide | omega | (simp only [List.length_append, List.length_cons, List.length_nil, List.length_replicate, List.length_map] at *; omega)) ?_); intro _))

local macro_rules | `(tactic| walk_at "truthy bytes") => `(tactic| (refine truthy_B (by first | omega | (simp only [List.length_append, List.length_cons, List.length_nil, List.length_take, List.length_drop]; omega)) ?_; intro _))
local macro_rules | `(tactic| walk_at "call builtin:len") => `(tactic| ((with_reducible show wpAny _ _ (call (Value.builtin "len") [Value.bytes (List.toArray _) _]) _ _ _); refine len_B (by first | omega | (simp only [List.length_append, List.length_cons, List.length_nil, List.length_take, List.length_drop]; omega)) ?_; intro _ _))
local macro_rules | `(tactic| walk_at "subscriptTail Name str Constant bytes int") => `(tactic| ((with_reducible show wpAny _ _ (subscriptTail _ _ (Value.bytes (List.toArray (_ :: _)) _) (Value.int 0 _)) _ _ _); refine item0_B (by first | omega | (simp only [List.length_append, List.length_cons, List.length_nil] at *; omega)) ?_; intro _ _))
local macro_rules | `(tactic| walk_at "subscriptTail Name Constant bytes int") => `(tactic| ((with_reducible show wpAny _ _ (subscriptTail _ _ (Value.bytes (List.toArray (_ :: _)) _) (Value.int 0 _)) _ _ _); refine item0_B (by first | omega | (simp only [List.length_append, List.length_cons, List.length_nil] at *; omega)) ?_; intro _ _))
local macro_rules | `(tactic| walk_at "subscriptTail") => `(tactic| ((with_reducible show wpAny _ _ (subscriptTail _ _ (Value.bytes (List.toArray (_ :: _)) _) (Value.int 0 _)) _ _ _); refine item0_B (by first | omega | (simp only [List.length_append, List.length_cons, List.length_nil] at *; omega)) ?_; intro _ _))
local macro_rules | `(tactic| walk_at "subscriptTail Name str Slice") => `(tactic| ((with_reducible show wpAny _ _ (subscriptTail _ (Expr.Slice none (some _) none _) (Value.bytes (List.toArray _) _) (Value.ref _)) _ _ _); (with_reducible rename Fr _ _ _ _ => F'); (with_reducible rename News _ _ _ _ => N'); (refine head_B (s := ⟨_, _, _, _, _⟩) F' N' (by first | decide | omega) (by first | omega | (simp only [List.length_append, List.length_cons, List.length_nil, List.length_take, List.length_drop] at *; omega)) ?_); intro _ _ _ _ _))
local macro_rules | `(tactic| walk_at "subscriptTail") => `(tactic| ((with_reducible show wpAny _ _ (subscriptTail _ (Expr.Slice none (some _) none _) (Value.bytes (List.toArray _) _) (Value.ref _)) _ _ _); (with_reducible rename Fr _ _ _ _ => F'); (with_reducible rename News _ _ _ _ => N'); (refine head_B (s := ⟨_, _, _, _, _⟩) F' N' (by first | decide | omega) (by first | omega | (simp only [List.length_append, List.length_cons, List.length_nil, List.length_take, List.length_drop] at *; omega)) ?_); intro _ _ _ _ _))
local macro_rules | `(tactic| walk_at "subscriptTail Name str Slice") => `(tactic| ((with_reducible show wpAny _ _ (subscriptTail _ (Expr.Slice (some _) none none _) (Value.bytes (List.toArray _) _) (Value.ref _)) _ _ _); (with_reducible rename Fr _ _ _ _ => F'); (with_reducible rename News _ _ _ _ => N'); (refine drop_B (s := ⟨_, _, _, _, _⟩) F' N' (by first | decide | omega) (by first | omega | (simp only [List.length_append, List.length_cons, List.length_nil, List.length_take, List.length_drop] at *; omega)) ?_); intro _ _ _ _ _))
local macro_rules | `(tactic| walk_at "subscriptTail") => `(tactic| ((with_reducible show wpAny _ _ (subscriptTail _ (Expr.Slice (some _) none none _) (Value.bytes (List.toArray _) _) (Value.ref _)) _ _ _); (with_reducible rename Fr _ _ _ _ => F'); (with_reducible rename News _ _ _ _ => N'); (refine drop_B (s := ⟨_, _, _, _, _⟩) F' N' (by first | decide | omega) (by first | omega | (simp only [List.length_append, List.length_cons, List.length_nil, List.length_take, List.length_drop] at *; omega)) ?_); intro _ _ _ _ _))
local macro_rules | `(tactic| walk_at "binaryOp Mod str int") => `(tactic| (first | ((with_reducible refine mod_x ?h0 ?h1 ?_); (case h0 => omega); (case h1 => omega); intro _ _) | ((with_reducible refine mod_o ?h0 ?h1 ?_); (case h0 => omega); (case h1 => omega); intro _ _)))
local macro_rules | `(tactic| walk_at "call builtin:bytes.decode") => `(tactic| ((with_reducible refine decode_B ?h0 ?h1 ?_); (case h0 => first | assumption | omega); (case h1 => assumption); intro _ _))
local macro_rules | `(tactic| walk_at "inplaceOp LShift int int") => `(tactic| ((refine shl8 (by omega) ?_); intro _ _))
local macro_rules | `(tactic| walk_at "inplaceOp BitOr int int") => `(tactic| ((refine or8 (by first | assumption | omega) ?_); intro _ _))
local macro_rules | `(tactic| walk_at "truthy bytes") => `(tactic| first | ((with_reducible refine truthy_Bn ?_); intro _) | ((with_reducible refine truthy_Bc ?hl ?_); (case hl => first | decide | omega | (simp only [List.length_append, List.length_cons, List.length_nil, List.length_replicate, List.length_map] at *; omega)); intro _))

local macro_rules | `(tactic| ktr_unf) => `(tactic| repeat' (first | (k_unfold; (try dsimp only)) | (k_end; kc_close) | ((fail_if_success (with_reducible show wpAny _ _ (exec (Stmt.While _ _ _ _) _) _ _ _)); (fail_if_success (with_reducible show wpAny _ _ (exec (Stmt.For _ _ _ _ _) _) _ _ _)); (fail_if_success (with_reducible show wpAny _ _ (eval (Expr.ListComp _ _ _ _) _) _ _ _)); (fail_if_success (with_reducible show wpAny _ _ (exec (Stmt.Assign _ (Expr.ListComp _ _ _ _) _) _) _ _ _)); (fail_if_success (with_reducible show wpAny _ _ (pyIter _) _ _ _)); (fail_if_success (with_reducible show wpAny _ _ (exec (Stmt.If (Expr.Compare _ _ [Expr.Constant (Const.str (Str.ofString "a")) _ _] _) _ _ _) _) _ _ _)); (fail_if_success (with_reducible show LCg.CompSrc _ _ _ _ _ _ _ _ _ _ _ _ _ _)); (first | walk1 | (dsimp only; walk1))) | (leave1; walk_say "STEP leave1"; (try dsimp only)) | fail "no step"))

local macro_rules | `(tactic| k_room) => `(tactic| ktr_room)
local macro_rules | `(tactic| walk_at "loadName") => `(tactic| k_dflt (refine' wpAny_loadName_local ?k ?l (Fr.ns ?F) ?v ?_; (case F => k_asm); (case k => rfl); (case l => rfl); (case v => rfl); k_whole))
local macro_rules | `(tactic| walk_at "call ref") => `(tactic| ((with_reducible show wpAny _ _ (call (Value.ref 402) _) _ _ _); k_dflt (refine' number_spec _ _ _ _ _ _ _ _ _ _ _ _ _ _ _ _ _ _ _ _ _ _ _ ?k1 ?k2 ?k3 ?k4 ?k5 ?kK ?a1 ?a2 ?a3 ?a4 ?a5 ?kd ?ku ?kR; (case k1 => k_asm); (case k2 => k_asm); (case k3 => k_asm); (case k4 => k_asm); (case k5 => k_asm); (case kK => first | exact rfl | assumption); (case a1 => assumption); (case a2 => assumption); (case a3 => assumption); (case a4 => omega); (case a5 => omega); (case kd => ktr_room); (case ku => ktr_units); intro t9 h9 tk9 F9 N9; (try dsimp only); (try k_fold))))
local macro_rules | `(tactic| walk_at "call type:str") => `(tactic| ((with_reducible show wpAny _ _ (call (Value.type "str") [Value.int _ _]) _ _ _); k_dflt (refine' str_I ?h1 ?h2 ?_; (case h1 => omega); (case h2 => omega)); intro _ _))

def kdOf (rep : Bool) (fm : Int) (more : Bool) : Nat := if rep = true ∧ (fm = 1 ∨ fm = 2 ∧ more = true) then 2 else if fm ≠ 0 then 1 else 0
theorem sign_spec : ∀ {w : World} {mean : ExcName → Option Value} {mg mb : Str → Option Value} (dp un : Nat) (gd : Option (List Code)) (a : Addr) (ccd : Value) (outer : List Env) (A₀ : Around) (base h₀ : Heap) (L : Addr) (m : Str → Option Value) (news : List (Addr × Obj)) (s : Shared) (ln wy : Nat) (rep : Bool) (fm k cnt : Int) (c1 c2 : Nat) (t1 t2 t3 t4 t5 : Tok) (Q : Flow → Shared → Prop) (E : Value → Shared → Prop)
    (_ : Below A₀ base outer h₀) (_ : Fr h₀ L s.heap m) (_ : (hd.heap_39 w.params).In h₀) (_ : Top hd.view_39 (looseW hd.view_39 [Str.ofString "noValue", Str.ofString "Value", Str.ofString "Integer32", Str.ofString "OctetString", Str.ofString "SmiError", Str.ofString "TextualConvention", Str.ofString "HintedString", Str.ofString "HintedInteger", Str.ofString "TestAndIncr", Str.ofString "RowStatus"]) mean mg mb h₀) (_ : dp + 20 < recursionLimit) (_ : un + 200 < cLine) (_ : News h₀ L s.heap news)
    (_ : 0 ≤ fm) (_ : fm < 3) (_ : cnt ≤ 3)
    (_ : Has m [(Str.ofString "repeated", .bool rep), (Str.ofString "form", .int fm t1), (Str.ofString "k", .int k t2), (Str.ofString "count", .int cnt t3), (Str.ofString "first", .str (S [c1]) t4), (Str.ofString "second", .str (S [c2]) t5)])
    (_ : ∀ (h' : Heap) (tk : Nat) (m' : Str → Option Value) (t t' t'' : Tok), Fr h₀ L h' m' → News h₀ L h' news → Has m' [(Str.ofString "signs", .str (S (signs ⟨ln, wy, rep, kdOf rep fm (decide (k < cnt - 1)), c1, c2⟩)) t), (Str.ofString "sep", .str (S (sepP ⟨ln, wy, rep, kdOf rep fm (decide (k < cnt - 1)), c1, c2⟩)) t'), (Str.ofString "mark", .str (S (mkP ⟨ln, wy, rep, kdOf rep fm (decide (k < cnt - 1)), c1, c2⟩).toList) t'')] → (∀ z, z ≠ Str.ofString "signs" → z ≠ Str.ofString "sep" → z ≠ Str.ofString "mark" → m' z = m z) → Q .next { s with heap := h', toks := tk }),
    wpAny (model Challenge.rw_am6029_01.row.prog w) (ktrTop dp un gd (Str.ofString "law") lScope L a ccd (cellsFrom (L + 1) lScope.names []) outer) (exec (kS 5) (envX (Str.ofString "law") lScope L a ccd (cellsFrom (L + 1) lScope.names []))) Q E s := by
  k_fill
  intro w mean mg mb dp un gd a ccd outer A₀ base h₀ L m news s ln wy rep fm k cnt c1 c2 t1 t2 t3 t4 t5 Q E B F X T hd hu N hf0 hf1 hc3 hm hret
  conv => arg 3; arg 1; whnf
  have hs2 : ∀ kd, kdOf rep fm (decide (k < cnt - 1)) = kd → (kd = 0 → signs ⟨ln, wy, rep, kd, c1, c2⟩ = [] ∧ sepP ⟨ln, wy, rep, kd, c1, c2⟩ = [] ∧ (mkP ⟨ln, wy, rep, kd, c1, c2⟩).toList = []) ∧ (kd = 1 → signs ⟨ln, wy, rep, kd, c1, c2⟩ = [c1] ∧ sepP ⟨ln, wy, rep, kd, c1, c2⟩ = [c1] ∧ (mkP ⟨ln, wy, rep, kd, c1, c2⟩).toList = []) ∧ (kd = 2 → signs ⟨ln, wy, rep, kd, c1, c2⟩ = [c1, c2] ∧ sepP ⟨ln, wy, rep, kd, c1, c2⟩ = [] ∧ (mkP ⟨ln, wy, rep, kd, c1, c2⟩).toList = [c2]) := by
    intro kd _
    refine ⟨?_, ?_, ?_⟩ <;> (rintro rfl; exact ⟨rfl, rfl, rfl⟩)
  generalize hkd : kdOf rep fm (decide (k < cnt - 1)) = kd at hret
  have hs := hs2 kd hkd
  clear hs2
  unfold kdOf at hkd
  rw [← pin_eq hm] at F
  dsimp only [pin] at F
  have fin : ∀ z (v1 v2 v3 : Value), z ≠ Str.ofString "signs" → z ≠ Str.ofString "sep" → z ≠ Str.ofString "mark" → pin m [(Str.ofString "signs", v1), (Str.ofString "sep", v2), (Str.ofString "mark", v3), (Str.ofString "repeated", .bool rep), (Str.ofString "form", .int fm t1), (Str.ofString "k", .int k t2), (Str.ofString "count", .int cnt t3), (Str.ofString "first", .str (S [c1]) t4), (Str.ofString "second", .str (S [c2]) t5)] z = m z := by
    intro z v1 v2 v3 z1 z2 z3
    have z6 := congrFun (pin_eq hm) z
    simp only [pin] at z6 ⊢
    simp only [z1, z2, z3, if_false]
    exact z6
  clear hm
  rcases rep with _ | _
  · rcases (by omega : fm = 0 ∨ fm ≠ 0) with rfl | hne
    · have hk0 : kd = 0 := by rw [← hkd]; simp
      subst hk0
      obtain ⟨r1, r2, r3⟩ := hs.1 rfl
      rw [r1, r2, r3] at hret
      clear hs r1 r2 r3 hkd
      ktr_unf
      all_goals try (exfalso; omega)
      rename Fr _ _ _ _ => F2
      rename News _ _ _ _ => N2
      refine hret _ _ _ _ _ _ F2 (fun p hp => N2 p (.tail _ hp)) ⟨congrArg (fun x => some (Value.str x _)) lit_nil, congrArg (fun x => some (Value.str x _)) lit_nil, congrArg (fun x => some (Value.str x _)) lit_nil, trivial⟩ ?_
      intro z z1 z2 z3
      have z6 := fin z .none .none .none z1 z2 z3
      simp only [pin, z1, z2, z3, if_false] at z6 ⊢
      exact z6
    · have hk0 : kd = 1 := by rw [← hkd]; simp [hne]
      subst hk0
      obtain ⟨r1, r2, r3⟩ := hs.2.1 rfl
      rw [r1, r2, r3] at hret
      clear hs r1 r2 r3 hkd
      ktr_unf
      all_goals try (exfalso; omega)
      rename Fr _ _ _ _ => F2
      rename News _ _ _ _ => N2
      refine hret _ _ _ _ _ _ F2 (fun p hp => N2 p (.tail _ hp)) ⟨rfl, rfl, congrArg (fun x => some (Value.str x _)) lit_nil, trivial⟩ ?_
      intro z z1 z2 z3
      have z6 := fin z .none .none .none z1 z2 z3
      simp only [pin, z1, z2, z3, if_false] at z6 ⊢
      exact z6
  · rcases (by omega : fm = 0 ∨ fm = 1 ∨ fm = 2) with rfl | rfl | rfl
    · have hk0 : kd = 0 := by rw [← hkd]; simp
      subst hk0
      obtain ⟨r1, r2, r3⟩ := hs.1 rfl
      rw [r1, r2, r3] at hret
      clear hs r1 r2 r3 hkd
      ktr_unf
      all_goals try (exfalso; omega)
      rename Fr _ _ _ _ => F2
      rename News _ _ _ _ => N2
      refine hret _ _ _ _ _ _ F2 (fun p hp => N2 p (.tail _ hp)) ⟨congrArg (fun x => some (Value.str x _)) lit_nil, congrArg (fun x => some (Value.str x _)) lit_nil, congrArg (fun x => some (Value.str x _)) lit_nil, trivial⟩ ?_
      intro z z1 z2 z3
      have z6 := fin z .none .none .none z1 z2 z3
      simp only [pin, z1, z2, z3, if_false] at z6 ⊢
      exact z6
    · have hk0 : kd = 2 := by rw [← hkd]; simp
      subst hk0
      obtain ⟨r1, r2, r3⟩ := hs.2.2 rfl
      rw [r1, r2, r3] at hret
      clear hs r1 r2 r3 hkd
      ktr_unf
      all_goals try (exfalso; omega)
      rename Fr _ _ _ _ => F2
      rename News _ _ _ _ => N2
      refine hret _ _ _ _ _ _ F2 (fun p hp => N2 p (.tail _ hp)) ⟨rfl, congrArg (fun x => some (Value.str x _)) lit_nil, rfl, trivial⟩ ?_
      intro z z1 z2 z3
      have z6 := fin z .none .none .none z1 z2 z3
      simp only [pin, z1, z2, z3, if_false] at z6 ⊢
      exact z6
    · rcases (by omega : k < cnt - 1 ∨ ¬ k < cnt - 1) with hlt | hlt
      · have hk0 : kd = 2 := by rw [← hkd]; simp [hlt]
        subst hk0
        obtain ⟨r1, r2, r3⟩ := hs.2.2 rfl
        rw [r1, r2, r3] at hret
        clear hs r1 r2 r3 hkd
        ktr_unf
        all_goals try (exfalso; omega)
        rename Fr _ _ _ _ => F2
        rename News _ _ _ _ => N2
        refine hret _ _ _ _ _ _ F2 (fun p hp => N2 p (.tail _ hp)) ⟨rfl, congrArg (fun x => some (Value.str x _)) lit_nil, rfl, trivial⟩ ?_
        intro z z1 z2 z3
        have z6 := fin z .none .none .none z1 z2 z3
        simp only [pin, z1, z2, z3, if_false] at z6 ⊢
        exact z6
      · have hk0 : kd = 1 := by rw [← hkd]; simp [hlt]
        subst hk0
        obtain ⟨r1, r2, r3⟩ := hs.2.1 rfl
        rw [r1, r2, r3] at hret
        clear hs r1 r2 r3 hkd
        ktr_unf
        all_goals try (exfalso; omega)
        rename Fr _ _ _ _ => F2
        rename News _ _ _ _ => N2
        refine hret _ _ _ _ _ _ F2 (fun p hp => N2 p (.tail _ hp)) ⟨rfl, rfl, congrArg (fun x => some (Value.str x _)) lit_nil, trivial⟩ ?_
        intro z z1 z2 z3
        have z6 := fin z .none .none .none z1 z2 z3
        simp only [pin, z1, z2, z3, if_false] at z6 ⊢
        exact z6

end
section
theorem freshL3 : True := by w_top off; exact True.intro


local macro_rules | `(tactic| ktr_rel) => `(tactic| with_reducible first | rfl | assumption | exact lit_fig | exact lit_zero | exact lit_nil | exact lit_star | exact lit_dots | exact lit_coms | exact lit_xdoa | exact lit_dig | exact lit_a | exact lit_t | exact lit_x | exact lit_d | exact lit_o | exact lit_B | exact lit_integer | exact lit_string | exact lit_ascii | exact lit_ignore | exact lit_f02x | exact lit_f03o | exact lit_fd | exact lit_b | fail "no S")
local macro_rules | `(tactic| ktr_unf) => `(tactic| repeat' (first | (k_unfold; (try dsimp only)) | (k_end; kc_close) | ((fail_if_success (with_reducible show wpAny _ _ (exec (Stmt.While _ _ _ _) _) _ _ _)); (fail_if_success (with_reducible show wpAny _ _ (exec (Stmt.For _ _ _ _ _) _) _ _ _)); (fail_if_success (with_reducible show wpAny _ _ (eval (Expr.ListComp _ _ _ _) _) _ _ _)); (fail_if_success (with_reducible show wpAny _ _ (exec (Stmt.Assign _ (Expr.ListComp _ _ _ _) _) _) _ _ _)); (fail_if_success (with_reducible show wpAny _ _ (pyIter _) _ _ _)); (fail_if_success (with_reducible show LCg.CompSrc _ _ _ _ _ _ _ _ _ _ _ _ _ _)); (first | walk1 | (dsimp only; walk1))) | (leave1; walk_say "STEP leave1"; (try dsimp only)) | fail "no step"))
local macro_rules | `(tactic| walk_at "subscriptTail Constant str BinOp") => `(tactic| ((with_reducible show wpAny _ _ (subscriptTail _ _ (Value.str _ _) (Value.int _ _)) _ _ _); (refine' itemD_S ?hx ?h0 ?h1 ?hl ?_); (case hx => ktr_rel); (case h0 => first | decide | omega | exact fmod_lo _ (by decide)); (case h1 => first | decide | omega | exact fmod_hi _ (by decide)); (case hl => first | decide | omega | (simp only [List.length_append, List.length_cons, List.length_nil, List.length_replicate, List.length_map]; omega)); intro _ _))
local macro_rules | `(tactic| walk_at "subscriptTail") => `(tactic| ((with_reducible show wpAny _ _ (subscriptTail _ _ (Value.str _ _) (Value.int _ _)) _ _ _); (refine' itemD_S ?hx ?h0 ?h1 ?hl ?_); (case hx => ktr_rel); (case h0 => first | decide | omega | exact fmod_lo _ (by decide)); (case h1 => first | decide | omega | exact fmod_hi _ (by decide)); (case hl => first | decide | omega | (simp only [List.length_append, List.length_cons, List.length_nil, List.length_replicate, List.length_map]; omega)); intro _ _))
local macro_rules | `(tactic| walk_at "subscriptTail Name Constant str int") => `(tactic| ((with_reducible show wpAny _ _ (subscriptTail _ _ (Value.str _ _) (Value.int 0 _)) _ _ _); (refine' item0_S ?hx ?hl ?_); (case hx => ktr_rel); (case hl => first | decide | omega | (simp only [List.length_append, List.length_cons, List.length_nil, List.length_replicate, List.length_map]; omega)); intro _ _))
local macro_rules | `(tactic| walk_at "subscriptTail") => `(tactic| ((with_reducible show wpAny _ _ (subscriptTail _ _ (Value.str _ _) (Value.int 0 _)) _ _ _); (refine' item0_S ?hx ?hl ?_); (case hx => ktr_rel); (case hl => first | decide | omega | (simp only [List.length_append, List.length_cons, List.length_nil, List.length_replicate, List.length_map]; omega)); intro _ _))
local macro_rules | `(tactic| walk_at "subscriptTail Name Slice str ref") => `(tactic| ((with_reducible show wpAny _ _ (subscriptTail _ (Expr.Slice (some _) none none _) (Value.str _ _) (Value.ref _)) _ _ _); (with_reducible rename Fr _ _ _ _ => F'); (with_reducible rename News _ _ _ _ => N'); (refine' tail_S (s := ⟨_, _, _, _, _⟩) ?hx ?hl F' N' ?_); (case hx => ktr_rel); (case hl => first | decide | omega | (simp only [List.length_append, List.length_cons, List.length_nil, List.length_replicate, List.length_map]; omega)); intro _ _ _ _ _))
local macro_rules | `(tactic| walk_at "subscriptTail") => `(tactic| ((with_reducible show wpAny _ _ (subscriptTail _ (Expr.Slice (some _) none none _) (Value.str _ _) (Value.ref _)) _ _ _); (with_reducible rename Fr _ _ _ _ => F'); (with_reducible rename News _ _ _ _ => N'); (refine' tail_S (s := ⟨_, _, _, _, _⟩) ?hx ?hl F' N' ?_); (case hx => ktr_rel); (case hl => first | decide | omega | (simp only [List.length_append, List.length_cons, List.length_nil, List.length_replicate, List.length_map]; omega)); intro _ _ _ _ _))
local macro_rules | `(tactic| walk_at "call builtin:len cons nil") => `(tactic| ((with_reducible show wpAny _ _ (call (Value.builtin "len") [Value.str _ _]) _ _ _); (refine' len_S ?hx ?hl ?_); (case hx => ktr_rel); (case hl => first | decide | omega | (simp only [List.length_append, List.length_cons, List.length_nil, List.length_replicate, List.length_map]; omega)); intro _ _))
local macro_rules | `(tactic| walk_at "call builtin:len") => `(tactic| ((with_reducible show wpAny _ _ (call (Value.builtin "len") [Value.str _ _]) _ _ _); (refine' len_S ?hx ?hl ?_); (case hx => ktr_rel); (case hl => first | decide | omega | (simp only [List.length_append, List.length_cons, List.length_nil, List.length_replicate, List.length_map]; omega)); intro _ _))
local macro_rules | `(tactic| walk_at "binaryOp Add str str") => `(tactic| ((refine' add_S ?hx ?hy ?hl ?_); (case hx => ktr_rel); (case hy => ktr_rel); (case hl => first | decide | omega | (simp only [List.length_append, List.length_cons, List.length_nil, List.length_replicate, List.length_map]; omega)); intro _ _))
local macro_rules | `(tactic| walk_at "inplaceOp Add str str") => `(tactic| ((refine' iadd_S ?hx ?hy ?hl ?_); (case hx => ktr_rel); (case hy => ktr_rel); (case hl => first | decide | omega | (simp only [List.length_append, List.length_cons, List.length_nil, List.length_replicate, List.length_map]; omega)); intro _ _))
local macro_rules | `(tactic| walk_at "binaryOp Mult str int") => `(tactic| ((refine' mul_S ?hx ?hl ?h0 ?_); (case hx => ktr_rel); (case hl => omega); (case h0 => omega); intro _ _))
local macro_rules | `(tactic| walk_at "compareOp Eq str str") => `(tactic| ((refine' eq_S ?hx ?hy ?_); (case hx => ktr_rel); (case hy => ktr_rel)))
local macro_rules | `(tactic| walk_at "compareOp NotEq str str") => `(tactic| ((refine' ne_S ?hx ?hy ?_); (case hx => ktr_rel); (case hy => ktr_rel)))
local macro_rules | `(tactic| walk_at "compareOp In str str") => `(tactic| ((refine' in_S ?hx ?hy ?_); (case hx => ktr_rel); (case hy => ktr_rel)))
local macro_rules | `(tactic| walk_at "compareOp NotIn str str") => `(tactic| ((refine' notin_S ?hx ?hy ?_); (case hx => ktr_rel); (case hy => ktr_rel)))
local macro_rules | `(tactic| walk_at "truthy str") => `(tactic| ((refine' truthy_S ?hx ?hl ?_); (case hx => ktr_rel); (case hl => first | decide | omega | (simp only [List.length_append, List.length_cons, List.length_nil, List.length_replicate, List.length_map]; omega)); intro _))
local macro_rules | `(tactic| walk_at "call type:int cons nil") => `(tactic| ((with_reducible show wpAny _ _ (call (Value.type "int") [Value.str _ _]) _ _ _); (refine' int_S ?hx ?hc ?_); (case hx => ktr_rel); (case hc => omega); intro _ _))
local macro_rules | `(tactic| walk_at "call type:int") => `(tactic| ((with_reducible show wpAny _ _ (call (Value.type "int") [Value.str _ _]) _ _ _); (refine' int_S ?hx ?hc ?_); (case hx => ktr_rel); (case hc => omega); intro _ _))
local macro_rules | `(tactic| walk_at "compareOp Is bytes ref") => `(tactic| (refine wpAny_is_other (by rfl) (by intro x; cases x) ?_))
local macro_rules | `(tactic| walk_at "truthy str") => `(tactic| first | ((refine truthy_Sn (by with_reducible first | rfl | exact lit_nil) ?_); intro _) | ((refine truthy_Sc (by with_reducible first | rfl | exact lit_star) (by first | decide | omega | (simp only [List.length_append, List.length_cons, List.length_nil, List.length_replicate, List.length_map] at *; omega)) ?_); intro _))

local macro_rules | `(tactic| walk_at "truthy bytes") => `(tactic| (refine truthy_B (by first | omega | (simp only [List.length_append, List.length_cons, List.length_nil, List.length_take, List.length_drop]; omega)) ?_; intro _))
local macro_rules | `(tactic| walk_at "call builtin:len") => `(tactic| ((with_reducible show wpAny _ _ (call (Value.builtin "len") [Value.bytes (List.toArray _) _]) _ _ _); refine len_B (by first | omega | (simp only [List.length_append, List.length_cons, List.length_nil, List.length_take, List.length_drop]; omega)) ?_; intro _ _))
local macro_rules | `(tactic| walk_at "subscriptTail Name str Constant bytes int") => `(tactic| ((with_reducible show wpAny _ _ (subscriptTail _ _ (Value.bytes (List.toArray (_ :: _)) _) (Value.int 0 _)) _ _ _); refine item0_B (by first | omega | (simp only [List.length_append, List.length_cons, List.length_nil] at *; omega)) ?_; intro _ _))
local macro_rules | `(tactic| walk_at "subscriptTail Name Constant bytes int") => `(tactic| ((with_reducible show wpAny _ _ (subscriptTail _ _ (Value.bytes (List.toArray (_ :: _)) _) (Value.int 0 _)) _ _ _); refine item0_B (by first | omega | (simp only [List.length_append, List.length_cons, List.length_nil] at *; omega)) ?_; intro _ _))
local macro_rules | `(tactic| walk_at "subscriptTail") => `(tactic| ((with_reducible show wpAny _ _ (subscriptTail _ _ (Value.bytes (List.toArray (_ :: _)) _) (Value.int 0 _)) _ _ _); refine item0_B (by first | omega | (simp only [List.length_append, List.length_cons, List.length_nil] at *; omega)) ?_; intro _ _))
local macro_rules | `(tactic| walk_at "subscriptTail Name str Slice") => `(tactic| ((with_reducible show wpAny _ _ (subscriptTail _ (Expr.Slice none (some _) none _) (Value.bytes (List.toArray _) _) (Value.ref _)) _ _ _); (with_reducible rename Fr _ _ _ _ => F'); (with_reducible rename News _ _ _ _ => N'); (refine head_B (s := ⟨_, _, _, _, _⟩) F' N' (by first | decide | omega) (by first | omega | (simp only [List.length_append, List.length_cons, List.length_nil, List.length_take, List.length_drop] at *; omega)) ?_); intro _ _ _ _ _))
local macro_rules | `(tactic| walk_at "subscriptTail") => `(tactic| ((with_reducible show wpAny _ _ (subscriptTail _ (Expr.Slice none (some _) none _) (Value.bytes (List.toArray _) _) (Value.ref _)) _ _ _); (with_reducible rename Fr _ _ _ _ => F'); (with_reducible rename News _ _ _ _ => N'); (refine head_B (s := ⟨_, _, _, _, _⟩) F' N' (by first | decide | omega) (by first | omega | (simp only [List.length_append, List.length_cons, List.length_nil, List.length_take, List.length_drop] at *; omega)) ?_); intro _ _ _ _ _))
local macro_rules | `(tactic| walk_at "subscriptTail Name str Slice") => `(tactic| ((with_reducible show wpAny _ _ (subscriptTail _ (Expr.Slice (some _) none none _) (Value.bytes (List.toArray _) _) (Value.ref _)) _ _ _); (with_reducible rename Fr _ _ _ _ => F'); (with_reducible rename News _ _ _ _ => N'); (refine drop_B (s := ⟨_, _, _, _, _⟩) F' N' (by first | decide | omega) (by first | omega | (simp only [List.length_append, List.length_cons, List.length_nil, List.length_take, List.length_drop] at *; omega)) ?_); intro _ _ _ _ _))
local macro_rules | `(tactic| walk_at "subscriptTail") => `(tactic| ((with_reducible show wpAny _ _ (subscriptTail _ (Expr.Slice (some _) none none _) (Value.bytes (List.toArray _) _) (Value.ref _)) _ _ _); (with_reducible rename Fr _ _ _ _ => F'); (with_reducible rename News _ _ _ _ => N'); (refine drop_B (s := ⟨_, _, _, _, _⟩) F' N' (by first | decide | omega) (by first | omega | (simp only [List.length_append, List.length_cons, List.length_nil, List.length_take, List.length_drop] at *; omega)) ?_); intro _ _ _ _ _))
local macro_rules | `(tactic| walk_at "binaryOp Mod str int") => `(tactic| (first | ((with_reducible refine mod_x ?h0 ?h1 ?_); (case h0 => omega); (case h1 => omega); intro _ _) | ((with_reducible refine mod_o ?h0 ?h1 ?_); (case h0 => omega); (case h1 => omega); intro _ _)))
local macro_rules | `(tactic| walk_at "call builtin:bytes.decode") => `(tactic| ((with_reducible refine decode_B ?h0 ?h1 ?_); (case h0 => first | assumption | omega); (case h1 => assumption); intro _ _))
local macro_rules | `(tactic| walk_at "inplaceOp LShift int int") => `(tactic| ((refine shl8 (by omega) ?_); intro _ _))
local macro_rules | `(tactic| walk_at "inplaceOp BitOr int int") => `(tactic| ((refine or8 (by first | assumption | omega) ?_); intro _ _))
local macro_rules | `(tactic| walk_at "truthy bytes") => `(tactic| first | ((with_reducible refine truthy_Bn ?_); intro _) | ((with_reducible refine truthy_Bc ?hl ?_); (case hl => first | decide | omega | (simp only [List.length_append, List.length_cons, List.length_nil, List.length_replicate, List.length_map] at *; omega)); intro _))

local macro_rules | `(tactic| ktr_unf) => `(tactic| repeat' (first | (k_unfold; (try dsimp only)) | (k_end; kc_close) | ((fail_if_success (with_reducible show wpAny _ _ (exec (Stmt.While _ _ _ _) _) _ _ _)); (fail_if_success (with_reducible show wpAny _ _ (execs (Stmt.If _ _ _ _ :: _) _) _ _ _)); (fail_if_success (with_reducible show wpAny _ _ (exec (Stmt.For _ _ _ _ _) _) _ _ _)); (fail_if_success (with_reducible show wpAny _ _ (eval (Expr.ListComp _ _ _ _) _) _ _ _)); (fail_if_success (with_reducible show wpAny _ _ (exec (Stmt.Assign _ (Expr.ListComp _ _ _ _) _) _) _ _ _)); (fail_if_success (with_reducible show wpAny _ _ (pyIter _) _ _ _)); (fail_if_success (with_reducible show wpAny _ _ (exec (Stmt.If (Expr.Compare _ _ [Expr.Constant (Const.str (Str.ofString "a")) _ _] _) _ _ _) _) _ _ _)); (fail_if_success (with_reducible show LCg.CompSrc _ _ _ _ _ _ _ _ _ _ _ _ _ _)); (first | walk1 | (dsimp only; walk1))) | (leave1; walk_say "STEP leave1"; (try dsimp only)) | fail "no step"))

local macro_rules | `(tactic| k_room) => `(tactic| ktr_room)
local macro_rules | `(tactic| walk_at "loadName") => `(tactic| k_dflt (refine' wpAny_loadName_local ?k ?l (Fr.ns ?F) ?v ?_; (case F => k_asm); (case k => rfl); (case l => rfl); (case v => rfl); k_whole))
local macro_rules | `(tactic| walk_at "call ref") => `(tactic| ((with_reducible show wpAny _ _ (call (Value.ref 402) _) _ _ _); k_dflt (refine' number_spec _ _ _ _ _ _ _ _ _ _ _ _ _ _ _ _ _ _ _ _ _ _ _ ?k1 ?k2 ?k3 ?k4 ?k5 ?kK ?a1 ?a2 ?a3 ?a4 ?a5 ?kd ?ku ?kR; (case k1 => k_asm); (case k2 => k_asm); (case k3 => k_asm); (case k4 => k_asm); (case k5 => k_asm); (case kK => first | exact rfl | assumption); (case a1 => assumption); (case a2 => assumption); (case a3 => assumption); (case a4 => omega); (case a5 => omega); (case kd => ktr_room); (case ku => ktr_units); intro t9 h9 tk9 F9 N9; (try dsimp only); (try k_fold))))
local macro_rules | `(tactic| walk_at "call type:str") => `(tactic| ((with_reducible show wpAny _ _ (call (Value.type "str") [Value.int _ _]) _ _ _); k_dflt (refine' str_I ?h1 ?h2 ?_; (case h1 => omega); (case h2 => omega)); intro _ _))

def partOf (D : Int) (more : Bool) : Pt := ⟨(1 + D.fmod 2).toNat, ((D.fdiv 2).fmod 4).toNat, (D.fdiv 8).fmod 2 == 1, kdOf ((D.fdiv 8).fmod 2 == 1) ((D.fdiv 16).fmod 3) more, [46, 58, 45, 47].getD (D.fmod 4).toNat 0, [44, 59, 61, 43].getD ((D.fdiv 4).fmod 4).toNat 0⟩
def partTup (p : Pt) (u1 u2 u3 u4 : Tok) : Obj := tupO (p.len : Int) (p.wy : Int) p.rep (sepP p) (mkP p).toList u1 u2 u3 u4
theorem fm_lo (x : Int) {n : Int} (hn : 0 < n) : 0 ≤ x.fmod n := Int.fmod_nonneg_of_pos _ hn
theorem fm_hi (x : Int) {n : Int} (hn : 0 < n) : x.fmod n < n := Int.fmod_lt_of_pos _ hn
theorem kbody_spec : ∀ {w : World} {mean : ExcName → Option Value} {mg mb : Str → Option Value} (dp un : Nat) (gd : Option (List Code)) (a : Addr) (ccd : Value) (outer : List Env) (A₀ : Around) (base h₀ : Heap) (L : Addr) (m : Str → Option Value) (news : List (Addr × Obj)) (s : Shared) (l : Addr) (vs : List Value) (ns : List Int) (b cnt k : Int) (H : List Nat) (pa : Addr) (ps : List Value) (np : Nat) (oj om ow : Obj) (vj vm vw : Option Value) (t1 t2 t3 t4 : Tok) (Q : Flow → Shared → Prop) (E : Value → Shared → Prop)
    (_ : Below A₀ base outer h₀) (_ : Fr h₀ L s.heap m) (_ : (hd.heap_39 w.params).In h₀) (_ : Top hd.view_39 (looseW hd.view_39 [Str.ofString "noValue", Str.ofString "Value", Str.ofString "Integer32", Str.ofString "OctetString", Str.ofString "SmiError", Str.ofString "TextualConvention", Str.ofString "HintedString", Str.ofString "HintedInteger", Str.ofString "TestAndIncr", Str.ofString "RowStatus"]) mean mg mb h₀) (_ : dp + 20 < recursionLimit) (_ : un + 200 < cLine) (_ : base.IsList l vs.toArray) (_ : IntsAre vs ns) (_ : ns.length < 2 ^ 62) (_ : News h₀ L s.heap ((L + 1 + 1 + 1, oj) :: (L + 1 + 1, om) :: (L + 1, ow) :: (pa, listOf ps.toArray np) :: news))
    (_ : @LT.lt Nat _ (L + 1 + 1 + 1) pa) (_ : OwnOff news [L + 1 + 1 + 1, L + 1 + 1, L + 1, pa])
    (_ : 0 ≤ b) (_ : b ≤ 80) (_ : 0 ≤ k) (_ : k < cnt) (_ : cnt ≤ 3) (_ : H.length ≤ 50) (_ : ps.length ≤ 10)
    (_ : oj.data = .cell vj) (_ : om.data = .cell vm) (_ : ow.data = .cell vw)
    (_ : Has m [(Str.ofString "script", .ref l), (Str.ofString "base", .int b t1), (Str.ofString "count", .int cnt t2), (Str.ofString "k", .int k t3), (Str.ofString "hint", .str (S H) t4), (Str.ofString "parts", .ref pa)])
    (_ : ∀ (h' : Heap) (tk : Nat) (m' : Str → Option Value) (D : Addr) (ow' : Obj) (v' : Option Value) (t u1 u2 u3 u4 : Tok), Fr h₀ L h' m' → ow'.data = .cell v' → News h₀ L h' ((L + 1 + 1 + 1, oj) :: (L + 1 + 1, om) :: (L + 1, ow') :: (pa, listOf (ps ++ [Value.ref D]).toArray (np + 1)) :: (D, partTup (partOf (numF ns (b + 1 + k)) (decide (k < cnt - 1))) u1 u2 u3 u4) :: news) → @LT.lt Nat _ pa D → AllLt D news → Has m' [(Str.ofString "script", .ref l), (Str.ofString "base", .int b t1), (Str.ofString "count", .int cnt t2), (Str.ofString "hint", .str (S (H ++ codes (partOf (numF ns (b + 1 + k)) (decide (k < cnt - 1))))) t), (Str.ofString "parts", .ref pa)] → Q .next { s with heap := h', toks := tk }),
    wpAny (model Challenge.rw_am6029_01.row.prog w) (ktrTop dp un gd (Str.ofString "law") lScope L a ccd (cellsFrom (L + 1) lScope.names []) outer) (execs (bodyS kFor) (envX (Str.ofString "law") lScope L a ccd (cellsFrom (L + 1) lScope.names []))) Q E s := by
  k_fill
  intro w mean mg mb dp un gd a ccd outer A₀ base h₀ L m news s l vs ns b cnt k H pa ps np oj om ow vj vm vw t1 t2 t3 t4 Q E B F X T hd hu hl hi hfit N hpa hoff hb0 hb1 hk0 hk1 hc3 hH hpl hj hm' hw hm hret
  conv => arg 3; arg 1; whnf
  rw [← pin_eq hm] at F
  dsimp only [pin] at F
  clear hm
  ktr_unf
  rename Fr _ _ _ _ => F2
  rename News _ _ _ _ => N2
  rename _ = Data.cell (some (Value.int _ _)) => d9
  generalize numF ns (b + 1 + k) = D0 at F2 N2 hret d9
  have q1 := fm_lo D0 (show (0 : Int) < 2 by decide)
  have q2 := fm_hi D0 (show (0 : Int) < 2 by decide)
  have q3 := fm_lo (D0.fdiv 2) (show (0 : Int) < 4 by decide)
  have q4 := fm_hi (D0.fdiv 2) (show (0 : Int) < 4 by decide)
  refine wpAny_execs_cons ?_
  refine sign_spec _ _ _ _ _ _ _ _ _ _ _ _ _ (1 + D0.fmod 2).toNat ((D0.fdiv 2).fmod 4).toNat ((D0.fdiv 8).fmod 2 == 1) ((D0.fdiv 16).fmod 3) k cnt ([46, 58, 45, 47].getD (D0.fmod 4).toNat 0) ([44, 59, 61, 43].getD ((D0.fdiv 4).fmod 4).toNat 0) _ _ _ _ _ _ _ B F2 X T hd hu N2 (fm_lo _ (by decide)) (fm_hi _ (by decide)) hc3 ⟨rfl, rfl, rfl, rfl, rfl, rfl, trivial⟩ ?_
  intro h9 tk9 m9 v1 v2 v3 F9 N9 e1 e2
  have N10 := fun p hp => N9 p (.tail _ (.tail _ hp))
  clear N2 F2 N9
  refine hint_spec _ _ _ _ _ _ _ _ _ _ _ _ _ (1 + D0.fmod 2) ((D0.fdiv 2).fmod 4) ((D0.fdiv 8).fmod 2 == 1) H _ _ _ pa ps np oj om _ vj vm _ _ _ _ _ _ Q E B F9 X T hd hu N10 hpa hoff (by omega) (by omega) q3 q4 hH ?_ hpl hj hm' d9 ⟨(e2 (Str.ofString "length") (by decide) (by decide) (by decide)).trans rfl, (e2 (Str.ofString "repeated") (by decide) (by decide) (by decide)).trans rfl, e1.1, e1.2.1, e1.2.2.1, (e2 (Str.ofString "hint") (by decide) (by decide) (by decide)).trans rfl, (e2 (Str.ofString "parts") (by decide) (by decide) (by decide)).trans rfl, trivial⟩ ?_
  · unfold signs; split <;> simp
  intro h8 tk8 m8 D w1 w2 w3 w4 w5 w6 F8 N8 g1 g2 g3 g4
  have hp : tupO (1 + D0.fmod 2) ((D0.fdiv 2).fmod 4) ((D0.fdiv 8).fmod 2 == 1) (sepP (partOf D0 (decide (k < cnt - 1)))) (mkP (partOf D0 (decide (k < cnt - 1)))).toList w3 w4 w5 w6 = partTup (partOf D0 (decide (k < cnt - 1))) w3 w4 w5 w6 := by
    unfold partTup
    have a1 : ((partOf D0 (decide (k < cnt - 1))).len : Int) = 1 + D0.fmod 2 := Int.toNat_of_nonneg (by omega)
    have a2 : ((partOf D0 (decide (k < cnt - 1))).wy : Int) = (D0.fdiv 2).fmod 4 := Int.toNat_of_nonneg q3
    rw [a1, a2]; rfl
  have N7 : News h₀ L h8 ((L + 1 + 1 + 1, oj) :: (L + 1 + 1, om) :: (L + 1, _) :: (pa, listOf (ps ++ [Value.ref D]).toArray (np + 1)) :: (D, partTup (partOf D0 (decide (k < cnt - 1))) w3 w4 w5 w6) :: news) := hp ▸ N8
  refine hret _ _ _ D _ _ w1 w3 w4 w5 w6 F8 d9 N7 g1 g2 ⟨(g4 (Str.ofString "script") (by decide)).trans ((e2 (Str.ofString "script") (by decide) (by decide) (by decide)).trans rfl), (g4 (Str.ofString "base") (by decide)).trans ((e2 (Str.ofString "base") (by decide) (by decide) (by decide)).trans rfl), (g4 (Str.ofString "count") (by decide)).trans ((e2 (Str.ofString "count") (by decide) (by decide) (by decide)).trans rfl), g3.1, (g4 (Str.ofString "parts") (by decide)).trans ((e2 (Str.ofString "parts") (by decide) (by decide) (by decide)).trans rfl), trivial⟩

end
section
theorem freshL4 : True := by w_top off; exact True.intro
local macro_rules | `(tactic| walk_at "pad of mine") => `(tactic| fail "a pad")


local macro_rules | `(tactic| ktr_rel) => `(tactic| with_reducible first | rfl | assumption | exact lit_fig | exact lit_zero | exact lit_nil | exact lit_star | exact lit_dots | exact lit_coms | exact lit_xdoa | exact lit_dig | exact lit_a | exact lit_t | exact lit_x | exact lit_d | exact lit_o | exact lit_B | exact lit_integer | exact lit_string | exact lit_ascii | exact lit_ignore | exact lit_f02x | exact lit_f03o | exact lit_fd | exact lit_b | fail "no S")
local macro_rules | `(tactic| ktr_unf) => `(tactic| repeat' (first | (k_unfold; (try dsimp only)) | (k_end; kc_close) | ((fail_if_success (with_reducible show wpAny _ _ (exec (Stmt.While _ _ _ _) _) _ _ _)); (fail_if_success (with_reducible show wpAny _ _ (exec (Stmt.For _ _ _ _ _) _) _ _ _)); (fail_if_success (with_reducible show wpAny _ _ (eval (Expr.ListComp _ _ _ _) _) _ _ _)); (fail_if_success (with_reducible show wpAny _ _ (exec (Stmt.Assign _ (Expr.ListComp _ _ _ _) _) _) _ _ _)); (fail_if_success (with_reducible show wpAny _ _ (pyIter _) _ _ _)); (fail_if_success (with_reducible show LCg.CompSrc _ _ _ _ _ _ _ _ _ _ _ _ _ _)); (first | walk1 | (dsimp only; walk1))) | (leave1; walk_say "STEP leave1"; (try dsimp only)) | fail "no step"))
local macro_rules | `(tactic| walk_at "subscriptTail Constant str BinOp") => `(tactic| ((with_reducible show wpAny _ _ (subscriptTail _ _ (Value.str _ _) (Value.int _ _)) _ _ _); (refine' itemD_S ?hx ?h0 ?h1 ?hl ?_); (case hx => ktr_rel); (case h0 => first | decide | omega | exact fmod_lo _ (by decide)); (case h1 => first | decide | omega | exact fmod_hi _ (by decide)); (case hl => first | decide | omega | (simp only [List.length_append, List.length_cons, List.length_nil, List.length_replicate, List.length_map]; omega)); intro _ _))
local macro_rules | `(tactic| walk_at "subscriptTail") => `(tactic| ((with_reducible show wpAny _ _ (subscriptTail _ _ (Value.str _ _) (Value.int _ _)) _ _ _); (refine' itemD_S ?hx ?h0 ?h1 ?hl ?_); (case hx => ktr_rel); (case h0 => first | decide | omega | exact fmod_lo _ (by decide)); (case h1 => first | decide | omega | exact fmod_hi _ (by decide)); (case hl => first | decide | omega | (simp only [List.length_append, List.length_cons, List.length_nil, List.length_replicate, List.length_map]; omega)); intro _ _))
local macro_rules | `(tactic| walk_at "subscriptTail Name Constant str int") => `(tactic| ((with_reducible show wpAny _ _ (subscriptTail _ _ (Value.str _ _) (Value.int 0 _)) _ _ _); (refine' item0_S ?hx ?hl ?_); (case hx => ktr_rel); (case hl => first | decide | omega | (simp only [List.length_append, List.length_cons, List.length_nil, List.length_replicate, List.length_map]; omega)); intro _ _))
local macro_rules | `(tactic| walk_at "subscriptTail") => `(tactic| ((with_reducible show wpAny _ _ (subscriptTail _ _ (Value.str _ _) (Value.int 0 _)) _ _ _); (refine' item0_S ?hx ?hl ?_); (case hx => ktr_rel); (case hl => first | decide | omega | (simp only [List.length_append, List.length_cons, List.length_nil, List.length_replicate, List.length_map]; omega)); intro _ _))
local macro_rules | `(tactic| walk_at "subscriptTail Name Slice str ref") => `(tactic| ((with_reducible show wpAny _ _ (subscriptTail _ (Expr.Slice (some _) none none _) (Value.str _ _) (Value.ref _)) _ _ _); (with_reducible rename Fr _ _ _ _ => F'); (with_reducible rename News _ _ _ _ => N'); (refine' tail_S (s := ⟨_, _, _, _, _⟩) ?hx ?hl F' N' ?_); (case hx => ktr_rel); (case hl => first | decide | omega | (simp only [List.length_append, List.length_cons, List.length_nil, List.length_replicate, List.length_map]; omega)); intro _ _ _ _ _))
local macro_rules | `(tactic| walk_at "subscriptTail") => `(tactic| ((with_reducible show wpAny _ _ (subscriptTail _ (Expr.Slice (some _) none none _) (Value.str _ _) (Value.ref _)) _ _ _); (with_reducible rename Fr _ _ _ _ => F'); (with_reducible rename News _ _ _ _ => N'); (refine' tail_S (s := ⟨_, _, _, _, _⟩) ?hx ?hl F' N' ?_); (case hx => ktr_rel); (case hl => first | decide | omega | (simp only [List.length_append, List.length_cons, List.length_nil, List.length_replicate, List.length_map]; omega)); intro _ _ _ _ _))
local macro_rules | `(tactic| walk_at "call builtin:len cons nil") => `(tactic| ((with_reducible show wpAny _ _ (call (Value.builtin "len") [Value.str _ _]) _ _ _); (refine' len_S ?hx ?hl ?_); (case hx => ktr_rel); (case hl => first | decide | omega | (simp only [List.length_append, List.length_cons, List.length_nil, List.length_replicate, List.length_map]; omega)); intro _ _))
local macro_rules | `(tactic| walk_at "call builtin:len") => `(tactic| ((with_reducible show wpAny _ _ (call (Value.builtin "len") [Value.str _ _]) _ _ _); (refine' len_S ?hx ?hl ?_); (case hx => ktr_rel); (case hl => first | decide | omega | (simp only [List.length_append, List.length_cons, List.length_nil, List.length_replicate, List.length_map]; omega)); intro _ _))
local macro_rules | `(tactic| walk_at "binaryOp Add str str") => `(tactic| ((refine' add_S ?hx ?hy ?hl ?_); (case hx => ktr_rel); (case hy => ktr_rel); (case hl => first | decide | omega | (simp only [List.length_append, List.length_cons, List.length_nil, List.length_replicate, List.length_map]; omega)); intro _ _))
local macro_rules | `(tactic| walk_at "inplaceOp Add str str") => `(tactic| ((refine' iadd_S ?hx ?hy ?hl ?_); (case hx => ktr_rel); (case hy => ktr_rel); (case hl => first | decide | omega | (simp only [List.length_append, List.length_cons, List.length_nil, List.length_replicate, List.length_map]; omega)); intro _ _))
local macro_rules | `(tactic| walk_at "binaryOp Mult str int") => `(tactic| ((refine' mul_S ?hx ?hl ?h0 ?_); (case hx => ktr_rel); (case hl => omega); (case h0 => omega); intro _ _))
local macro_rules | `(tactic| walk_at "compareOp Eq str str") => `(tactic| ((refine' eq_S ?hx ?hy ?_); (case hx => ktr_rel); (case hy => ktr_rel)))
local macro_rules | `(tactic| walk_at "compareOp NotEq str str") => `(tactic| ((refine' ne_S ?hx ?hy ?_); (case hx => ktr_rel); (case hy => ktr_rel)))
local macro_rules | `(tactic| walk_at "compareOp In str str") => `(tactic| ((refine' in_S ?hx ?hy ?_); (case hx => ktr_rel); (case hy => ktr_rel)))
local macro_rules | `(tactic| walk_at "compareOp NotIn str str") => `(tactic| ((refine' notin_S ?hx ?hy ?_); (case hx => ktr_rel); (case hy => ktr_rel)))
local macro_rules | `(tactic| walk_at "truthy str") => `(tactic| ((refine' truthy_S ?hx ?hl ?_); (case hx => ktr_rel); (case hl => first | decide | omega | (simp only [List.length_append, List.length_cons, List.length_nil, List.length_replicate, List.length_map]; omega)); intro _))
local macro_rules | `(tactic| walk_at "call type:int cons nil") => `(tactic| ((with_reducible show wpAny _ _ (call (Value.type "int") [Value.str _ _]) _ _ _); (refine' int_S ?hx ?hc ?_); (case hx => ktr_rel); (case hc => omega); intro _ _))
local macro_rules | `(tactic| walk_at "call type:int") => `(tactic| ((with_reducible show wpAny _ _ (call (Value.type "int") [Value.str _ _]) _ _ _); (refine' int_S ?hx ?hc ?_); (case hx => ktr_rel); (case hc => omega); intro _ _))
local macro_rules | `(tactic| walk_at "compareOp Is bytes ref") => `(tactic| (refine wpAny_is_other (by rfl) (by intro x; cases x) ?_))
local macro_rules | `(tactic| walk_at "truthy str") => `(tactic| first | ((refine truthy_Sn (by with_reducible first | rfl | exact lit_nil) ?_); intro _) | ((refine truthy_Sc (by with_reducible first | rfl | exact lit_star) (by first | decide | omega | (simp only [List.length_append, List.length_cons, List.length_nil, List.length_replicate, List.length_map] at *; omega)) ?_); intro _))

local macro_rules | `(tactic| walk_at "truthy bytes") => `(tactic| (refine truthy_B (by first | omega | (simp only [List.length_append, List.length_cons, List.length_nil, List.length_take, List.length_drop]; omega)) ?_; intro _))
local macro_rules | `(tactic| walk_at "call builtin:len") => `(tactic| ((with_reducible show wpAny _ _ (call (Value.builtin "len") [Value.bytes (List.toArray _) _]) _ _ _); refine len_B (by first | omega | (simp only [List.length_append, List.length_cons, List.length_nil, List.length_take, List.length_drop]; omega)) ?_; intro _ _))
local macro_rules | `(tactic| walk_at "subscriptTail Name str Constant bytes int") => `(tactic| ((with_reducible show wpAny _ _ (subscriptTail _ _ (Value.bytes (List.toArray (_ :: _)) _) (Value.int 0 _)) _ _ _); refine item0_B (by first | omega | (simp only [List.length_append, List.length_cons, List.length_nil] at *; omega)) ?_; intro _ _))
local macro_rules | `(tactic| walk_at "subscriptTail Name Constant bytes int") => `(tactic| ((with_reducible show wpAny _ _ (subscriptTail _ _ (Value.bytes (List.toArray (_ :: _)) _) (Value.int 0 _)) _ _ _); refine item0_B (by first | omega | (simp only [List.length_append, List.length_cons, List.length_nil] at *; omega)) ?_; intro _ _))
local macro_rules | `(tactic| walk_at "subscriptTail") => `(tactic| ((with_reducible show wpAny _ _ (subscriptTail _ _ (Value.bytes (List.toArray (_ :: _)) _) (Value.int 0 _)) _ _ _); refine item0_B (by first | omega | (simp only [List.length_append, List.length_cons, List.length_nil] at *; omega)) ?_; intro _ _))
local macro_rules | `(tactic| walk_at "subscriptTail Name str Slice") => `(tactic| ((with_reducible show wpAny _ _ (subscriptTail _ (Expr.Slice none (some _) none _) (Value.bytes (List.toArray _) _) (Value.ref _)) _ _ _); (with_reducible rename Fr _ _ _ _ => F'); (with_reducible rename News _ _ _ _ => N'); (refine head_B (s := ⟨_, _, _, _, _⟩) F' N' (by first | decide | omega) (by first | omega | (simp only [List.length_append, List.length_cons, List.length_nil, List.length_take, List.length_drop] at *; omega)) ?_); intro _ _ _ _ _))
local macro_rules | `(tactic| walk_at "subscriptTail") => `(tactic| ((with_reducible show wpAny _ _ (subscriptTail _ (Expr.Slice none (some _) none _) (Value.bytes (List.toArray _) _) (Value.ref _)) _ _ _); (with_reducible rename Fr _ _ _ _ => F'); (with_reducible rename News _ _ _ _ => N'); (refine head_B (s := ⟨_, _, _, _, _⟩) F' N' (by first | decide | omega) (by first | omega | (simp only [List.length_append, List.length_cons, List.length_nil, List.length_take, List.length_drop] at *; omega)) ?_); intro _ _ _ _ _))
local macro_rules | `(tactic| walk_at "subscriptTail Name str Slice") => `(tactic| ((with_reducible show wpAny _ _ (subscriptTail _ (Expr.Slice (some _) none none _) (Value.bytes (List.toArray _) _) (Value.ref _)) _ _ _); (with_reducible rename Fr _ _ _ _ => F'); (with_reducible rename News _ _ _ _ => N'); (refine drop_B (s := ⟨_, _, _, _, _⟩) F' N' (by first | decide | omega) (by first | omega | (simp only [List.length_append, List.length_cons, List.length_nil, List.length_take, List.length_drop] at *; omega)) ?_); intro _ _ _ _ _))
local macro_rules | `(tactic| walk_at "subscriptTail") => `(tactic| ((with_reducible show wpAny _ _ (subscriptTail _ (Expr.Slice (some _) none none _) (Value.bytes (List.toArray _) _) (Value.ref _)) _ _ _); (with_reducible rename Fr _ _ _ _ => F'); (with_reducible rename News _ _ _ _ => N'); (refine drop_B (s := ⟨_, _, _, _, _⟩) F' N' (by first | decide | omega) (by first | omega | (simp only [List.length_append, List.length_cons, List.length_nil, List.length_take, List.length_drop] at *; omega)) ?_); intro _ _ _ _ _))
local macro_rules | `(tactic| walk_at "binaryOp Mod str int") => `(tactic| (first | ((with_reducible refine mod_x ?h0 ?h1 ?_); (case h0 => omega); (case h1 => omega); intro _ _) | ((with_reducible refine mod_o ?h0 ?h1 ?_); (case h0 => omega); (case h1 => omega); intro _ _)))
local macro_rules | `(tactic| walk_at "call builtin:bytes.decode") => `(tactic| ((with_reducible refine decode_B ?h0 ?h1 ?_); (case h0 => first | assumption | omega); (case h1 => assumption); intro _ _))
local macro_rules | `(tactic| walk_at "inplaceOp LShift int int") => `(tactic| ((refine shl8 (by omega) ?_); intro _ _))
local macro_rules | `(tactic| walk_at "inplaceOp BitOr int int") => `(tactic| ((refine or8 (by first | assumption | omega) ?_); intro _ _))
local macro_rules | `(tactic| walk_at "truthy bytes") => `(tactic| first | ((with_reducible refine truthy_Bn ?_); intro _) | ((with_reducible refine truthy_Bc ?hl ?_); (case hl => first | decide | omega | (simp only [List.length_append, List.length_cons, List.length_nil, List.length_replicate, List.length_map] at *; omega)); intro _))

local macro_rules | `(tactic| ktr_unf) => `(tactic| repeat' (first | (k_unfold; (try dsimp only)) | (k_end; kc_close) | ((fail_if_success (with_reducible show wpAny _ _ (exec (Stmt.While _ _ _ _) _) _ _ _)); (fail_if_success (with_reducible show wpAny _ _ (execs (Stmt.If _ _ _ _ :: _) _) _ _ _)); (fail_if_success (with_reducible show wpAny _ _ (exec (Stmt.For _ _ _ _ _) _) _ _ _)); (fail_if_success (with_reducible show wpAny _ _ (eval (Expr.ListComp _ _ _ _) _) _ _ _)); (fail_if_success (with_reducible show wpAny _ _ (exec (Stmt.Assign _ (Expr.ListComp _ _ _ _) _) _) _ _ _)); (fail_if_success (with_reducible show wpAny _ _ (pyIter _) _ _ _)); (fail_if_success (with_reducible show wpAny _ _ (exec (Stmt.If (Expr.Compare _ _ [Expr.Constant (Const.str (Str.ofString "a")) _ _] _) _ _ _) _) _ _ _)); (fail_if_success (with_reducible show LCg.CompSrc _ _ _ _ _ _ _ _ _ _ _ _ _ _)); (first | walk1 | (dsimp only; walk1))) | (leave1; walk_say "STEP leave1"; (try dsimp only)) | fail "no step"))

local macro_rules | `(tactic| k_room) => `(tactic| ktr_room)
local macro_rules | `(tactic| walk_at "loadName") => `(tactic| k_dflt (refine' wpAny_loadName_local ?k ?l (Fr.ns ?F) ?v ?_; (case F => k_asm); (case k => rfl); (case l => rfl); (case v => rfl); k_whole))
local macro_rules | `(tactic| walk_at "call ref") => `(tactic| ((with_reducible show wpAny _ _ (call (Value.ref 402) _) _ _ _); k_dflt (refine' number_spec _ _ _ _ _ _ _ _ _ _ _ _ _ _ _ _ _ _ _ _ _ _ _ ?k1 ?k2 ?k3 ?k4 ?k5 ?kK ?a1 ?a2 ?a3 ?a4 ?a5 ?kd ?ku ?kR; (case k1 => k_asm); (case k2 => k_asm); (case k3 => k_asm); (case k4 => k_asm); (case k5 => k_asm); (case kK => first | exact rfl | assumption); (case a1 => assumption); (case a2 => assumption); (case a3 => assumption); (case a4 => omega); (case a5 => omega); (case kd => ktr_room); (case ku => ktr_units); intro t9 h9 tk9 F9 N9; (try dsimp only); (try k_fold))))
local macro_rules | `(tactic| walk_at "call type:str") => `(tactic| ((with_reducible show wpAny _ _ (call (Value.type "str") [Value.int _ _]) _ _ _); k_dflt (refine' str_I ?h1 ?h2 ?_; (case h1 => omega); (case h2 => omega)); intro _ _))

def partsOf (ns : List Int) (b : Int) (c : Nat) : List Pt := (List.range c).map fun (k : Nat) => partOf (numF ns (b + 1 + (k : Int))) (decide ((k : Int) < (c : Int) - 1))
theorem partsOf_take (ns : List Int) (b : Int) (c i : Nat) (h : i < c) : (partsOf ns b c).take (i + 1) = (partsOf ns b c).take i ++ [partOf (numF ns (b + 1 + (i : Int))) (decide ((i : Int) < (c : Int) - 1))] := by
  rw [List.take_add_one]
  unfold partsOf
  rw [List.getElem?_map, List.getElem?_range h]
  simp only [Option.map_some, Option.toList_some]
theorem codesL_snoc (ps : List Pt) (p : Pt) : codesL (ps ++ [p]) = codesL ps ++ codes p := by
  unfold codesL; simp
theorem codes_len (p : Pt) : (codes p).length ≤ 5 := by
  unfold codes signs
  rw [List.length_append]
  split <;> split <;> simp
theorem codesL_len : ∀ ps : List Pt, (codesL ps).length ≤ 5 * ps.length
  | [] => Nat.zero_le _
  | p :: r => by
    have h1 := codes_len p
    have h2 := codesL_len r
    show (codes p ++ codesL r).length ≤ _
    rw [List.length_append, List.length_cons]; omega
inductive AllAt {α : Type} (f : α → Obj → Prop) (tl : List (Addr × Obj)) : List Value → List α → Prop
  | nil : AllAt f tl [] []
  | cons {ta : Addr} {o : Obj} {x : α} {vs : List Value} {xs : List α} : (ta, o) ∈ tl → f x o → AllAt f tl vs xs → AllAt f tl (.ref ta :: vs) (x :: xs)
theorem AllAt.mono {α : Type} {f : α → Obj → Prop} {tl tl' : List (Addr × Obj)} (hs : ∀ p ∈ tl, p ∈ tl') {vs : List Value} {xs : List α} (h : AllAt f tl vs xs) : AllAt f tl' vs xs := by
  induction h with
  | nil => exact .nil
  | cons h1 h2 _ ih => exact .cons (hs _ h1) h2 ih
theorem AllAt.append {α : Type} {f : α → Obj → Prop} {tl : List (Addr × Obj)} {vs ws : List Value} {xs ys : List α} (h : AllAt f tl vs xs) (k : AllAt f tl ws ys) : AllAt f tl (vs ++ ws) (xs ++ ys) := by
  induction h with
  | nil => exact k
  | cons h1 h2 _ ih => exact .cons h1 h2 ih
theorem AllAt.length {α : Type} {f : α → Obj → Prop} {tl : List (Addr × Obj)} {vs : List Value} {xs : List α} (h : AllAt f tl vs xs) : vs.length = xs.length := by
  induction h with
  | nil => rfl
  | cons h1 h2 _ ih => simp only [List.length_cons, ih]
theorem AllAt.get {α : Type} {f : α → Obj → Prop} {tl : List (Addr × Obj)} {vs : List Value} {xs : List α} (h : AllAt f tl vs xs) (i : Nat) (x : α) (hx : xs[i]? = some x) : ∃ ta o, vs[i]? = some (.ref ta) ∧ (ta, o) ∈ tl ∧ f x o := by
  induction h generalizing i with
  | nil => cases hx
  | cons h1 h2 _ ih =>
    cases i with
    | zero => cases hx; exact ⟨_, _, rfl, h1, h2⟩
    | succ i => exact ih i hx
def IsPart (p : Pt) (o : Obj) : Prop := ∃ u1 u2 u3 u4, o = partTup p u1 u2 u3 u4
theorem off_app {t own : List (Addr × Obj)} {adr : List Addr} (h1 : OwnOff t adr) (h2 : OwnOff own adr) : OwnOff (t ++ own) adr := fun p hp b hb => (List.mem_append.mp hp).elim (fun h => h1 p h b hb) fun h => h2 p h b hb
theorem allLt_use {d : Addr} {l : List (Addr × Obj)} (h : AllLt d l) (p : Addr × Obj) (hp : p ∈ l) : @LT.lt Nat _ p.1 d := by
  induction l with
  | nil => cases hp
  | cons q l ih =>
    cases hp with
    | head => exact h.1
    | tail _ hp => exact ih h.2 hp
theorem kfor_spec : ∀ {w : World} {mean : ExcName → Option Value} {mg mb : Str → Option Value} (dp un : Nat) (gd : Option (List Code)) (a : Addr) (ccd : Value) (outer : List Env) (A₀ : Around) (base h₀ : Heap) (L : Addr) (m : Str → Option Value) (news : List (Addr × Obj)) (s : Shared) (l : Addr) (vs : List Value) (ns : List Int) (b : Int) (c : Nat) (pa : Addr) (oj om ow : Obj) (vj vm vw : Option Value) (t1 t2 t4 : Tok) (Q : Flow → Shared → Prop) (E : Value → Shared → Prop)
    (_ : Below A₀ base outer h₀) (_ : Fr h₀ L s.heap m) (_ : (hd.heap_39 w.params).In h₀) (_ : Top hd.view_39 (looseW hd.view_39 [Str.ofString "noValue", Str.ofString "Value", Str.ofString "Integer32", Str.ofString "OctetString", Str.ofString "SmiError", Str.ofString "TextualConvention", Str.ofString "HintedString", Str.ofString "HintedInteger", Str.ofString "TestAndIncr", Str.ofString "RowStatus"]) mean mg mb h₀) (_ : dp + 20 < recursionLimit) (_ : un + 200 < cLine) (_ : base.IsList l vs.toArray) (_ : IntsAre vs ns) (_ : ns.length < 2 ^ 62) (_ : News h₀ L s.heap ((L + 1 + 1 + 1, oj) :: (L + 1 + 1, om) :: (L + 1, ow) :: (pa, listOf #[] 0) :: news))
    (_ : @LT.lt Nat _ (L + 1 + 1 + 1) pa) (_ : OwnOff news [L + 1 + 1 + 1, L + 1 + 1, L + 1, pa])
    (_ : 0 ≤ b) (_ : b ≤ 80) (_ : c ≤ 3)
    (_ : oj.data = .cell vj) (_ : om.data = .cell vm) (_ : ow.data = .cell vw)
    (_ : Has m [(Str.ofString "script", .ref l), (Str.ofString "base", .int b t1), (Str.ofString "count", .int (c : Int) t2), (Str.ofString "hint", .str (S []) t4), (Str.ofString "parts", .ref pa)])
    (_ : PassesOwn (model Challenge.rw_am6029_01.row.prog w) (ktrTop dp un gd (Str.ofString "law") lScope L a ccd (cellsFrom (L + 1) lScope.names []) outer) (envX (Str.ofString "law") lScope L a ccd (cellsFrom (L + 1) lScope.names [])) E)
    (_ : ∀ (h' : Heap) (tk : Nat) (m' : Str → Option Value) (ow' : Obj) (v' : Option Value) (pvs : List Value) (np : Nat) (tl : List (Addr × Obj)) (t : Tok), Fr h₀ L h' m' → ow'.data = .cell v' → News h₀ L h' ((L + 1 + 1 + 1, oj) :: (L + 1 + 1, om) :: (L + 1, ow') :: (pa, listOf pvs.toArray np) :: tl) → OwnOff tl [L + 1 + 1 + 1, L + 1 + 1, L + 1, pa] → (∀ p ∈ news, p ∈ tl) → AllAt IsPart tl pvs (partsOf ns b c) → Has m' [(Str.ofString "script", .ref l), (Str.ofString "base", .int b t1), (Str.ofString "count", .int (c : Int) t2), (Str.ofString "hint", .str (S (codesL (partsOf ns b c))) t), (Str.ofString "parts", .ref pa)] → Q .next { s with heap := h', toks := tk }),
    wpAny (model Challenge.rw_am6029_01.row.prog w) (ktrTop dp un gd (Str.ofString "law") lScope L a ccd (cellsFrom (L + 1) lScope.names []) outer) (exec kFor (envX (Str.ofString "law") lScope L a ccd (cellsFrom (L + 1) lScope.names []))) Q E s := by
  k_fill
  intro w mean mg mb dp un gd a ccd outer A₀ base h₀ L m news s l vs ns b c pa oj om ow vj vm vw t1 t2 t4 Q E B F X T hd hu hl hi hfit N hpa hoff0 hb0 hb1 hc3 hj hm' hw hm hE hret
  conv => arg 3; arg 1; whnf
  rw [← pin_eq hm] at F
  dsimp only [pin] at F
  refine For_invVF F rfl rfl ?_ (hE := hE)
  have hc3' : id (c ≤ 3) := hc3
  clear hc3
  ktr_unf
  have hc3 : c ≤ 3 := hc3'
  rename IsRange _ _ _ _ _ _ _ _ => R
  rename Fr _ _ _ _ => F2
  rename News _ _ _ _ => N2
  refine for_range (fun i m' nx => ∃ (ow' : Obj) (v' : Option Value) (pvs : List Value) (np : Nat) (tl : List (Addr × Obj)) (t : Tok), nx = (L + 1 + 1 + 1, oj) :: (L + 1 + 1, om) :: (L + 1, ow') :: (pa, listOf pvs.toArray np) :: tl ∧ ow'.data = .cell v' ∧ OwnOff tl [L + 1 + 1 + 1, L + 1 + 1, L + 1, pa] ∧ (∀ p ∈ news, p ∈ tl) ∧ AllAt IsPart tl pvs ((partsOf ns b c).take i) ∧ Has m' [(Str.ofString "script", .ref l), (Str.ofString "base", .int b t1), (Str.ofString "count", .int (c : Int) t2), (Str.ofString "hint", .str (S (codesL ((partsOf ns b c).take i))) t), (Str.ofString "parts", .ref pa)]) rfl R (by omega) F2 N2 ⟨ow, vw, [], 0, news, t4, rfl, hw, hoff0, (fun _ h => h), .nil, ⟨rfl, rfl, rfl, rfl, rfl, trivial⟩⟩ ?_ ?_
  · clear F2 N2 R
    rintro i t m₁ nx h tk own hi9 hown ⟨ow', v', pvs, np, tl, t9, rfl, hd9, hoff9, hsub, hdat, e1⟩ F1 N1
    rw [← pin_eq e1] at F1
    have hlen : (partsOf ns b c).length = c := by unfold partsOf; rw [List.length_map, List.length_range]
    have hpl : pvs.length = i := by
      have := hdat.length
      rw [List.length_take, hlen] at this
      omega
    have hcl := codesL_len ((partsOf ns b c).take i)
    rw [List.length_take, hlen] at hcl
    have hown4 : OwnOff own [L + 1 + 1 + 1, L + 1 + 1, L + 1, pa] := fun p hp b hb => hown p hp b (by
      simp only [List.map_cons, List.mem_cons, List.not_mem_nil, or_false] at hb ⊢
      rcases hb with h | h | h | h <;> simp [h])
    refine kbody_spec _ _ _ _ _ _ _ _ _ _ _ (tl ++ own) _ l vs ns b (c : Int) (i : Int) (codesL ((partsOf ns b c).take i)) pa pvs np oj om ow' vj vm v' _ _ _ _ _ _ B F1 X T hd hu hl hi hfit N1 hpa (off_app hoff9 hown4) hb0 hb1 (by omega) (by omega) (by omega) (by omega) (by omega) hj hm' hd9 ⟨rfl, rfl, rfl, rfl, rfl, rfl, trivial⟩ ?_
    intro h' tk' m' D ow2 v2 t2' u1 u2 u3 u4 F9 hd2 N9 hpD hall e9
    have hall' := allLt_use hall
    have hDown : ∀ p ∈ own, p.1 ≠ D := fun p hp => Nat.ne_of_lt (hall' p (List.mem_append_right _ hp))
    refine ⟨h', tk', m', _, (L + 1 + 1 + 1, oj) :: (L + 1 + 1, om) :: (L + 1, ow2) :: (pa, listOf (pvs ++ [Value.ref D]).toArray (np + 1)) :: (D, partTup (partOf (numF ns (b + 1 + (i : Int))) (decide ((i : Int) < (c : Int) - 1))) u1 u2 u3 u4) :: tl, rfl, F9, N9, ?_, ?_, ?_, ow2, v2, pvs ++ [Value.ref D], np + 1, _, t2', rfl, hd2, ?_, fun p hp => .tail _ (hsub p hp), ?_, ?_⟩
    · intro p hp
      simp only [List.mem_cons, List.mem_append] at hp ⊢
      rcases hp with h | h | h | h | h | h <;> simp [h]
    · intro p hp
      simp only [List.mem_cons, List.mem_append]
      simp [hp]
    · intro p hp b hb
      simp only [List.map_cons, List.mem_cons] at hb
      rcases hb with h | h | h | h | h | h
      · exact hown4 p hp b (by simp [h])
      · exact hown4 p hp b (by simp [h])
      · exact hown4 p hp b (by simp [h])
      · exact hown4 p hp b (by simp [h])
      · exact h ▸ hDown p hp
      · exact hown p hp b (by simp [h])
    · intro p hp b hb
      rcases List.mem_cons.mp hp with rfl | hp
      · simp only [List.mem_cons, List.not_mem_nil, or_false] at hb
        have hpa' : @LT.lt Nat _ (L + 1 + 1 + 1) pa := hpa
        rcases hb with h | h | h | h
        · rw [h]; exact neN (by dsimp only; omega)
        · rw [h]; exact neN (by dsimp only; omega)
        · rw [h]; exact neN (by dsimp only; omega)
        · rw [h]; exact neN (by dsimp only; omega)
      · exact hoff9 p hp b hb
    · rw [partsOf_take ns b c i hi9]
      exact (hdat.mono (fun p hp => .tail _ hp)).append (.cons (.head _) ⟨_, _, _, _, rfl⟩ .nil)
    · rw [partsOf_take ns b c i hi9, codesL_snoc]
      exact ⟨e9.1, e9.2.1, e9.2.2.1, e9.2.2.2.1, e9.2.2.2.2.1, trivial⟩
  · clear F2 N2 R
    rintro m₁ nx h tk ⟨ow', v', pvs, np, tl, t9, rfl, hd9, hoff9, hsub, hdat, e1⟩ F1 N1
    have hlen : (partsOf ns b c).length = c := by unfold partsOf; rw [List.length_map, List.length_range]
    have ht : (partsOf ns b c).take c = partsOf ns b c := List.take_of_length_le (by omega)
    rw [ht] at hdat e1
    exact hret _ _ _ _ _ _ _ _ _ F1 hd9 N1 hoff9 hsub hdat e1

end
section
theorem freshL5 : True := by w_top off; exact True.intro
section
variable {prog : Program} {w : World} {A : Around} {E : Value → Shared → Prop} {s : Shared} {h₀ : Heap} {L D b : Addr} {m : Str → Option Value} {news news' : List (Addr × Obj)} {its its2 : List Value} {n n2 : Nat}
theorem iadd_list {Q : Value → Shared → Prop} (F : Fr h₀ L s.heap m) (N : News h₀ L s.heap news) (hb : (b, listOf its2.toArray n2) ∈ news) (hne : its2 ≠ [])
    (U : Upd D (listOf its.toArray n) (listOf (its ++ its2).toArray (n + 1)) news news') (hz : its.length + its2.length ≤ 100000)
    (h : ∀ h', Fr h₀ L h' m → News h₀ L h' news' → Q (.ref D) { s with heap := h' }) : wpAny (model prog w) A (inplaceOp .Add (.ref D) (.ref b)) Q E s := by
  obtain ⟨pre, post, rfl, rfl, a, c⟩ := U.split
  have z := N (D, listOf its.toArray n) (List.mem_append.mpr (.inr (.head _)))
  have zb := (N _ hb).1
  have tD : s.TypeIs (.ref D) "list" := ⟨_, z.1, rfl⟩
  have tb : s.TypeIs (.ref b) "list" := ⟨_, zb, rfl⟩
  have hfi : fillsInplaceSlot (.type "list") "add" true = pure false := by
    unfold fillsInplaceSlot
    show (typeLookup (.type "list") (dunderI "add") >>= fun fi => pure (fi.isSome && !isSeqSlot fi)) = pure false
    rw [PySem.F.slot_list_iadd.lookup]; rfl
  have hsi : seqSlot? (.type "list") (dunderI "add") = pure (some (.builtin "list.__iadd__")) := PySem.seqSlot_of PySem.F.slot_list_iadd.lookup (by decide +kernel)
  have hnr : typeLookup (.type "list") (dunderR "add") = pure none := by rw [typeLookup_type, builtinLookup_eq_fast]; kernel_rfl
  have hfn : fillsNumberSlot (.type "list") "add" = pure false := PySem.fillsNumberSlot_seq (id := "list.__add__") (r := none) PySem.F.slot_list_add.lookup (by decide +kernel) hnr rfl
  unfold inplaceOp
  refine wpAny_holding ?_
  refine wpAny_bind (wpAny_typeOf tD (wpAny_bind (wpAny_of_eq hfi ?_)))
  show wpAny _ A (if false = true then _ else _) Q E s
  rw [if_neg Bool.false_ne_true]
  refine wpAny_bind (wpAny_binaryOp1_none (nm := "add") tD tb hfn ?_)
  refine wpAny_bind (wpAny_of_eq hsi ?_)
  refine wpAny_bind (wpAny_rule ?_)
  have hs1 : its.toArray.size = its.length := rfl
  have hs2 : its2.toArray.size = its2.length := rfl
  have hline : 100000 ≤ sizeLine := by rw [sizeLine_eq]; decide
  refine call_meets PySem.F.slot_list_iadd ⟨_, z.1, rfl⟩ PySem.F.entry_list_iadd (PySem.F.args_list_iadd_2 _ _) (PySem.AutoSeq1.list___iadd___list_list_0 D its.toArray n b its2.toArray n2 ?_ (by omega) (by omega)) ⟨z.1, zb, h _ (F.change (Heap.SameBut.update ..) z.2.1 z.2.2) (kl_turn _ N a c ?_ ?_)⟩
  · intro q
    have q1 := (Bool.and_eq_true_iff.mp q).2
    unfold Builtin.List.listTooLong at q1
    have q2 := of_decide_eq_true q1
    rw [hs1, hs2] at q2
    omega
  · apply Array.toList_inj.mp
    simp
  · have : 0 < its2.length := List.length_pos_iff.mpr hne
    intro q
    have q1 : (its ++ its2).length = its.length := q
    rw [List.length_append] at q1
    omega
end
theorem list_at {prog : Program} {w : World} {A : Around} {E : Value → Shared → Prop} {s : Shared} {h₀ : Heap} {L l : Addr} {value slice : PySem.Expr} {news : List (Addr × Obj)} {us : List Value} {n : Nat} {k : Int} {u : Tok} {x : Value} {Q : Value → Shared → Prop} (N : News h₀ L s.heap news) (hm : (l, listOf us.toArray n) ∈ news)
    (h0 : 0 ≤ k) (h1 : k < 1000) (hx : us[k.toNat]? = some x) (h : Q x s)
    (hs : subscripted slice false (.ref l) (.int k u) = operate [.ref l, .int k u] (getItem (.ref l) (.int k u)) := by with_unfolding_all rfl) (hg : ∀ r, letTemporaryGo value (.ref l) r = pure () := by intro _; with_unfolding_all rfl) :
    wpAny (model prog w) A (subscriptTail value slice (.ref l) (.int k u)) Q E s :=
  PyProof.Rows.item_listL ⟨_, (N _ hm).1, rfl, n, rfl⟩ h0 (by omega) hx h hs hg

end
section
theorem freshL6 : True := by w_top off; exact True.intro


local macro_rules | `(tactic| ktr_rel) => `(tactic| with_reducible first | rfl | assumption | exact lit_fig | exact lit_zero | exact lit_nil | exact lit_star | exact lit_dots | exact lit_coms | exact lit_xdoa | exact lit_dig | exact lit_a | exact lit_t | exact lit_x | exact lit_d | exact lit_o | exact lit_B | exact lit_integer | exact lit_string | exact lit_ascii | exact lit_ignore | exact lit_f02x | exact lit_f03o | exact lit_fd | exact lit_b | fail "no S")
local macro_rules | `(tactic| ktr_unf) => `(tactic| repeat' (first | (k_unfold; (try dsimp only)) | (k_end; kc_close) | ((fail_if_success (with_reducible show wpAny _ _ (exec (Stmt.While _ _ _ _) _) _ _ _)); (fail_if_success (with_reducible show wpAny _ _ (exec (Stmt.For _ _ _ _ _) _) _ _ _)); (fail_if_success (with_reducible show wpAny _ _ (eval (Expr.ListComp _ _ _ _) _) _ _ _)); (fail_if_success (with_reducible show wpAny _ _ (exec (Stmt.Assign _ (Expr.ListComp _ _ _ _) _) _) _ _ _)); (fail_if_success (with_reducible show wpAny _ _ (pyIter _) _ _ _)); (fail_if_success (with_reducible show LCg.CompSrc _ _ _ _ _ _ _ _ _ _ _ _ _ _)); (first | walk1 | (dsimp only; walk1))) | (leave1; walk_say "STEP leave1"; (try dsimp only)) | fail "no step"))
local macro_rules | `(tactic| walk_at "subscriptTail Constant str BinOp") => `(tactic| ((with_reducible show wpAny _ _ (subscriptTail _ _ (Value.str _ _) (Value.int _ _)) _ _ _); (refine' itemD_S ?hx ?h0 ?h1 ?hl ?_); (case hx => ktr_rel); (case h0 => first | decide | omega | exact fmod_lo _ (by decide)); (case h1 => first | decide | omega | exact fmod_hi _ (by decide)); (case hl => first | decide | omega | (simp only [List.length_append, List.length_cons, List.length_nil, List.length_replicate, List.length_map]; omega)); intro _ _))
local macro_rules | `(tactic| walk_at "subscriptTail") => `(tactic| ((with_reducible show wpAny _ _ (subscriptTail _ _ (Value.str _ _) (Value.int _ _)) _ _ _); (refine' itemD_S ?hx ?h0 ?h1 ?hl ?_); (case hx => ktr_rel); (case h0 => first | decide | omega | exact fmod_lo _ (by decide)); (case h1 => first | decide | omega | exact fmod_hi _ (by decide)); (case hl => first | decide | omega | (simp only [List.length_append, List.length_cons, List.length_nil, List.length_replicate, List.length_map]; omega)); intro _ _))
local macro_rules | `(tactic| walk_at "subscriptTail Name Constant str int") => `(tactic| ((with_reducible show wpAny _ _ (subscriptTail _ _ (Value.str _ _) (Value.int 0 _)) _ _ _); (refine' item0_S ?hx ?hl ?_); (case hx => ktr_rel); (case hl => first | decide | omega | (simp only [List.length_append, List.length_cons, List.length_nil, List.length_replicate, List.length_map]; omega)); intro _ _))
local macro_rules | `(tactic| walk_at "subscriptTail") => `(tactic| ((with_reducible show wpAny _ _ (subscriptTail _ _ (Value.str _ _) (Value.int 0 _)) _ _ _); (refine' item0_S ?hx ?hl ?_); (case hx => ktr_rel); (case hl => first | decide | omega | (simp only [List.length_append, List.length_cons, List.length_nil, List.length_replicate, List.length_map]; omega)); intro _ _))
local macro_rules | `(tactic| walk_at "subscriptTail Name Slice str ref") => `(tactic| ((with_reducible show wpAny _ _ (subscriptTail _ (Expr.Slice (some _) none none _) (Value.str _ _) (Value.ref _)) _ _ _); (with_reducible rename Fr _ _ _ _ => F'); (with_reducible rename News _ _ _ _ => N'); (refine' tail_S (s := ⟨_, _, _, _, _⟩) ?hx ?hl F' N' ?_); (case hx => ktr_rel); (case hl => first | decide | omega | (simp only [List.length_append, List.length_cons, List.length_nil, List.length_replicate, List.length_map]; omega)); intro _ _ _ _ _))
local macro_rules | `(tactic| walk_at "subscriptTail") => `(tactic| ((with_reducible show wpAny _ _ (subscriptTail _ (Expr.Slice (some _) none none _) (Value.str _ _) (Value.ref _)) _ _ _); (with_reducible rename Fr _ _ _ _ => F'); (with_reducible rename News _ _ _ _ => N'); (refine' tail_S (s := ⟨_, _, _, _, _⟩) ?hx ?hl F' N' ?_); (case hx => ktr_rel); (case hl => first | decide | omega | (simp only [List.length_append, List.length_cons, List.length_nil, List.length_replicate, List.length_map]; omega)); intro _ _ _ _ _))
local macro_rules | `(tactic| walk_at "call builtin:len cons nil") => `(tactic| ((with_reducible show wpAny _ _ (call (Value.builtin "len") [Value.str _ _]) _ _ _); (refine' len_S ?hx ?hl ?_); (case hx => ktr_rel); (case hl => first | decide | omega | (simp only [List.length_append, List.length_cons, List.length_nil, List.length_replicate, List.length_map]; omega)); intro _ _))
local macro_rules | `(tactic| walk_at "call builtin:len") => `(tactic| ((with_reducible show wpAny _ _ (call (Value.builtin "len") [Value.str _ _]) _ _ _); (refine' len_S ?hx ?hl ?_); (case hx => ktr_rel); (case hl => first | decide | omega | (simp only [List.length_append, List.length_cons, List.length_nil, List.length_replicate, List.length_map]; omega)); intro _ _))
local macro_rules | `(tactic| walk_at "binaryOp Add str str") => `(tactic| ((refine' add_S ?hx ?hy ?hl ?_); (case hx => ktr_rel); (case hy => ktr_rel); (case hl => first | decide | omega | (simp only [List.length_append, List.length_cons, List.length_nil, List.length_replicate, List.length_map]; omega)); intro _ _))
local macro_rules | `(tactic| walk_at "inplaceOp Add str str") => `(tactic| ((refine' iadd_S ?hx ?hy ?hl ?_); (case hx => ktr_rel); (case hy => ktr_rel); (case hl => first | decide | omega | (simp only [List.length_append, List.length_cons, List.length_nil, List.length_replicate, List.length_map]; omega)); intro _ _))
local macro_rules | `(tactic| walk_at "binaryOp Mult str int") => `(tactic| ((refine' mul_S ?hx ?hl ?h0 ?_); (case hx => ktr_rel); (case hl => omega); (case h0 => omega); intro _ _))
local macro_rules | `(tactic| walk_at "compareOp Eq str str") => `(tactic| ((refine' eq_S ?hx ?hy ?_); (case hx => ktr_rel); (case hy => ktr_rel)))
local macro_rules | `(tactic| walk_at "compareOp NotEq str str") => `(tactic| ((refine' ne_S ?hx ?hy ?_); (case hx => ktr_rel); (case hy => ktr_rel)))
local macro_rules | `(tactic| walk_at "compareOp In str str") => `(tactic| ((refine' in_S ?hx ?hy ?_); (case hx => ktr_rel); (case hy => ktr_rel)))
local macro_rules | `(tactic| walk_at "compareOp NotIn str str") => `(tactic| ((refine' notin_S ?hx ?hy ?_); (case hx => ktr_rel); (case hy => ktr_rel)))
local macro_rules | `(tactic| walk_at "truthy str") => `(tactic| ((refine' truthy_S ?hx ?hl ?_); (case hx => ktr_rel); (case hl => first | decide | omega | (simp only [List.length_append, List.length_cons, List.length_nil, List.length_replicate, List.length_map]; omega)); intro _))
local macro_rules | `(tactic| walk_at "call type:int cons nil") => `(tactic| ((with_reducible show wpAny _ _ (call (Value.type "int") [Value.str _ _]) _ _ _); (refine' int_S ?hx ?hc ?_); (case hx => ktr_rel); (case hc => omega); intro _ _))
local macro_rules | `(tactic| walk_at "call type:int") => `(tactic| ((with_reducible show wpAny _ _ (call (Value.type "int") [Value.str _ _]) _ _ _); (refine' int_S ?hx ?hc ?_); (case hx => ktr_rel); (case hc => omega); intro _ _))
local macro_rules | `(tactic| walk_at "compareOp Is bytes ref") => `(tactic| (refine wpAny_is_other (by rfl) (by intro x; cases x) ?_))
local macro_rules | `(tactic| walk_at "truthy str") => `(tactic| first | ((refine truthy_Sn (by with_reducible first | rfl | exact lit_nil) ?_); intro _) | ((refine truthy_Sc (by with_reducible first | rfl | exact lit_star) (by first | decide | omega | (simp only [List.length_append, List.length_cons, List.length_nil, List.length_replicate, List.length_map] at *; omega)) ?_); intro _))

local macro_rules | `(tactic| walk_at "truthy bytes") => `(tactic| (refine truthy_B (by first | omega | (simp only [List.length_append, List.length_cons, List.length_nil, List.length_take, List.length_drop]; omega)) ?_; intro _))
local macro_rules | `(tactic| walk_at "call builtin:len") => `(tactic| ((with_reducible show wpAny _ _ (call (Value.builtin "len") [Value.bytes (List.toArray _) _]) _ _ _); refine len_B (by first | omega | (simp only [List.length_append, List.length_cons, List.length_nil, List.length_take, List.length_drop]; omega)) ?_; intro _ _))
local macro_rules | `(tactic| walk_at "subscriptTail Name str Constant bytes int") => `(tactic| ((with_reducible show wpAny _ _ (subscriptTail _ _ (Value.bytes (List.toArray (_ :: _)) _) (Value.int 0 _)) _ _ _); refine item0_B (by first | omega | (simp only [List.length_append, List.length_cons, List.length_nil] at *; omega)) ?_; intro _ _))
local macro_rules | `(tactic| walk_at "subscriptTail Name Constant bytes int") => `(tactic| ((with_reducible show wpAny _ _ (subscriptTail _ _ (Value.bytes (List.toArray (_ :: _)) _) (Value.int 0 _)) _ _ _); refine item0_B (by first | omega | (simp only [List.length_append, List.length_cons, List.length_nil] at *; omega)) ?_; intro _ _))
local macro_rules | `(tactic| walk_at "subscriptTail") => `(tactic| ((with_reducible show wpAny _ _ (subscriptTail _ _ (Value.bytes (List.toArray (_ :: _)) _) (Value.int 0 _)) _ _ _); refine item0_B (by first | omega | (simp only [List.length_append, List.length_cons, List.length_nil] at *; omega)) ?_; intro _ _))
local macro_rules | `(tactic| walk_at "subscriptTail Name str Slice") => `(tactic| ((with_reducible show wpAny _ _ (subscriptTail _ (Expr.Slice none (some _) none _) (Value.bytes (List.toArray _) _) (Value.ref _)) _ _ _); (with_reducible rename Fr _ _ _ _ => F'); (with_reducible rename News _ _ _ _ => N'); (refine head_B (s := ⟨_, _, _, _, _⟩) F' N' (by first | decide | omega) (by first | omega | (simp only [List.length_append, List.length_cons, List.length_nil, List.length_take, List.length_drop] at *; omega)) ?_); intro _ _ _ _ _))
local macro_rules | `(tactic| walk_at "subscriptTail") => `(tactic| ((with_reducible show wpAny _ _ (subscriptTail _ (Expr.Slice none (some _) none _) (Value.bytes (List.toArray _) _) (Value.ref _)) _ _ _); (with_reducible rename Fr _ _ _ _ => F'); (with_reducible rename News _ _ _ _ => N'); (refine head_B (s := ⟨_, _, _, _, _⟩) F' N' (by first | decide | omega) (by first | omega | (simp only [List.length_append, List.length_cons, List.length_nil, List.length_take, List.length_drop] at *; omega)) ?_); intro _ _ _ _ _))
local macro_rules | `(tactic| walk_at "subscriptTail Name str Slice") => `(tactic| ((with_reducible show wpAny _ _ (subscriptTail _ (Expr.Slice (some _) none none _) (Value.bytes (List.toArray _) _) (Value.ref _)) _ _ _); (with_reducible rename Fr _ _ _ _ => F'); (with_reducible rename News _ _ _ _ => N'); (refine drop_B (s := ⟨_, _, _, _, _⟩) F' N' (by first | decide | omega) (by first | omega | (simp only [List.length_append, List.length_cons, List.length_nil, List.length_take, List.length_drop] at *; omega)) ?_); intro _ _ _ _ _))
local macro_rules | `(tactic| walk_at "subscriptTail") => `(tactic| ((with_reducible show wpAny _ _ (subscriptTail _ (Expr.Slice (some _) none none _) (Value.bytes (List.toArray _) _) (Value.ref _)) _ _ _); (with_reducible rename Fr _ _ _ _ => F'); (with_reducible rename News _ _ _ _ => N'); (refine drop_B (s := ⟨_, _, _, _, _⟩) F' N' (by first | decide | omega) (by first | omega | (simp only [List.length_append, List.length_cons, List.length_nil, List.length_take, List.length_drop] at *; omega)) ?_); intro _ _ _ _ _))
local macro_rules | `(tactic| walk_at "binaryOp Mod str int") => `(tactic| (first | ((with_reducible refine mod_x ?h0 ?h1 ?_); (case h0 => omega); (case h1 => omega); intro _ _) | ((with_reducible refine mod_o ?h0 ?h1 ?_); (case h0 => omega); (case h1 => omega); intro _ _)))
local macro_rules | `(tactic| walk_at "call builtin:bytes.decode") => `(tactic| ((with_reducible refine decode_B ?h0 ?h1 ?_); (case h0 => first | assumption | omega); (case h1 => assumption); intro _ _))
local macro_rules | `(tactic| walk_at "inplaceOp LShift int int") => `(tactic| ((refine shl8 (by omega) ?_); intro _ _))
local macro_rules | `(tactic| walk_at "inplaceOp BitOr int int") => `(tactic| ((refine or8 (by first | assumption | omega) ?_); intro _ _))
local macro_rules | `(tactic| walk_at "truthy bytes") => `(tactic| first | ((with_reducible refine truthy_Bn ?_); intro _) | ((with_reducible refine truthy_Bc ?hl ?_); (case hl => first | decide | omega | (simp only [List.length_append, List.length_cons, List.length_nil, List.length_replicate, List.length_map] at *; omega)); intro _))

local macro_rules | `(tactic| ktr_unf) => `(tactic| repeat' (first | (k_unfold; (try dsimp only)) | (k_end; kc_close) | ((fail_if_success (with_reducible show wpAny _ _ (exec (Stmt.While _ _ _ _) _) _ _ _)); (fail_if_success (with_reducible show wpAny _ _ (execs (Stmt.If _ _ _ _ :: _) _) _ _ _)); (fail_if_success (with_reducible show wpAny _ _ (exec (Stmt.For _ _ _ _ _) _) _ _ _)); (fail_if_success (with_reducible show wpAny _ _ (eval (Expr.ListComp _ _ _ _) _) _ _ _)); (fail_if_success (with_reducible show wpAny _ _ (exec (Stmt.Assign _ (Expr.ListComp _ _ _ _) _) _) _ _ _)); (fail_if_success (with_reducible show wpAny _ _ (pyIter _) _ _ _)); (fail_if_success (with_reducible show wpAny _ _ (exec (Stmt.If (Expr.Compare _ _ [Expr.Constant (Const.str (Str.ofString "a")) _ _] _) _ _ _) _) _ _ _)); (fail_if_success (with_reducible show LCg.CompSrc _ _ _ _ _ _ _ _ _ _ _ _ _ _)); (first | walk1 | (dsimp only; walk1))) | (leave1; walk_say "STEP leave1"; (try dsimp only)) | fail "no step"))

local macro_rules | `(tactic| k_room) => `(tactic| ktr_room)
local macro_rules | `(tactic| walk_at "loadName") => `(tactic| k_dflt (refine' wpAny_loadName_local ?k ?l (Fr.ns ?F) ?v ?_; (case F => k_asm); (case k => rfl); (case l => rfl); (case v => rfl); k_whole))
local macro_rules | `(tactic| walk_at "call ref") => `(tactic| ((with_reducible show wpAny _ _ (call (Value.ref 402) _) _ _ _); k_dflt (refine' number_spec _ _ _ _ _ _ _ _ _ _ _ _ _ _ _ _ _ _ _ _ _ _ _ ?k1 ?k2 ?k3 ?k4 ?k5 ?kK ?a1 ?a2 ?a3 ?a4 ?a5 ?kd ?ku ?kR; (case k1 => k_asm); (case k2 => k_asm); (case k3 => k_asm); (case k4 => k_asm); (case k5 => k_asm); (case kK => first | exact rfl | assumption); (case a1 => assumption); (case a2 => assumption); (case a3 => assumption); (case a4 => omega); (case a5 => omega); (case kd => ktr_room); (case ku => ktr_units); intro t9 h9 tk9 F9 N9; (try dsimp only); (try k_fold))))
local macro_rules | `(tactic| walk_at "call type:str") => `(tactic| ((with_reducible show wpAny _ _ (call (Value.type "str") [Value.int _ _]) _ _ _); k_dflt (refine' str_I ?h1 ?h2 ?_; (case h1 => omega); (case h2 => omega)); intro _ _))

local macro_rules | `(tactic| walk_at "inplaceOp Add ref ref") => `(tactic| ((with_reducible show wpAny _ _ (inplaceOp Operator.Add (Value.ref _) (Value.ref _)) _ _ _); k_dflt (refine' iadd_list ?F ?N ?b ?ne ?U ?z ?_; (case F => k_asm); (case N => k_asm); (case b => k_mem); (case ne => assumption); (case U => k_upd); (case z => omega)); intro h' F' N'; (try k_sweep)))
local macro_rules | `(tactic| walk_at "inplaceOp Add ref") => `(tactic| ((with_reducible show wpAny _ _ (inplaceOp Operator.Add (Value.ref _) (Value.ref _)) _ _ _); k_dflt (refine' iadd_list ?F ?N ?b ?ne ?U ?z ?_; (case F => k_asm); (case N => k_asm); (case b => k_mem); (case ne => assumption); (case U => k_upd); (case z => omega)); intro h' F' N'; (try k_sweep)))
local macro_rules | `(tactic| walk_at "call ref") => `(tactic| ((with_reducible show wpAny _ _ (call (Value.ref 414) _) _ _ _); k_dflt (refine' item_spec _ _ _ _ _ _ _ _ _ _ _ _ _ _ _ _ _ _ _ _ _ _ _ _ ?k1 ?k2 ?k3 ?k4 ?k5 ?kK ?a1 ?a2 ?a3 ?a4 ?a5 ?a6 ?a7 ?kd ?ku ?kR; (case k1 => k_asm); (case k2 => k_asm); (case k3 => k_asm); (case k4 => k_asm); (case k5 => k_asm); (case kK => first | exact rfl | assumption); (case a1 => k_mem); (case a2 => assumption); (case a3 => assumption); (case a4 => assumption); (case a5 => assumption); (case a6 => omega); (case a7 => omega); (case kd => ktr_room); (case ku => ktr_units); intro t9 h9 tk9 F9 N9; (try dsimp only); (try k_fold))))
local macro_rules | `(tactic| walk_at "ite") => `(tactic| first | (refine ite_neg (by first | omega | (simp only [beq_iff_eq, bne_iff_ne, decide_eq_true_eq, ne_eq]; omega)) ?_) | (refine ite_pos (by first | omega | (simp only [beq_iff_eq, bne_iff_ne, decide_eq_true_eq, ne_eq]; done) | (simp only [beq_iff_eq, bne_iff_ne, decide_eq_true_eq, ne_eq]; omega)) ?_))

def gFor : Stmt := nthS (bodyS lawFor) 7
def jFor : Stmt := nthS (bodyS gFor) 6
def jS (i : Nat) : Stmt := nthS (bodyS jFor) i
def rowZ (wy M j : Int) (x : Int) : Int := if wy = 3 then 32 + (M + 5 * j + x).fmod 90 else (M + 37 * j + 11 * x).fmod 256
def rowN (wy M j : Int) (ln : Nat) : List Nat := (List.range ln).map fun (x : Nat) => (rowZ wy M j (x : Int)).toNat
theorem rowZ_lo (wy M j x : Int) : 0 ≤ rowZ wy M j x := by
  unfold rowZ
  split
  · have := fm_lo (M + 5 * j + x) (show (0 : Int) < 90 by decide); omega
  · exact fm_lo _ (by decide)
theorem rowZ_hi (wy M j x : Int) : rowZ wy M j x < 256 := by
  unfold rowZ
  split
  · have := fm_hi (M + 5 * j + x) (show (0 : Int) < 90 by decide); omega
  · exact fm_hi _ (by decide)
theorem rowZ_asc (M j x : Int) : rowZ 3 M j x < 128 := by
  unfold rowZ
  rw [if_pos rfl]
  have := fm_hi (M + 5 * j + x) (show (0 : Int) < 90 by decide); omega
theorem rowN_ints (wy M j : Int) (ln : Nat) : (rowN wy M j ln).map Int.ofNat = (rangeKs 0 ln).map (rowZ wy M j) := by
  unfold rowN rangeKs
  rw [List.map_map, List.map_map]
  apply List.map_congr_left
  intro x _
  show ((rowZ wy M j (x : Int)).toNat : Int) = rowZ wy M j (0 + (x : Int))
  rw [Int.toNat_of_nonneg (rowZ_lo _ _ _ _), Int.zero_add]
theorem rowN_len (wy M j : Int) (ln : Nat) : (rowN wy M j ln).length = ln := by unfold rowN; rw [List.length_map, List.length_range]
theorem rowN_hi (wy M j : Int) (ln : Nat) : ∀ x ∈ rowN wy M j ln, x < 256 := by
  intro x hx
  obtain ⟨y, _, rfl⟩ := List.mem_map.mp hx
  have := rowZ_hi wy M j (y : Int)
  have := rowZ_lo wy M j (y : Int)
  omega
theorem rowN_asc (wy M j : Int) (ln : Nat) (h : wy = 3) : ∀ x ∈ rowN wy M j ln, x < 128 := by
  subst h
  intro x hx
  obtain ⟨y, _, rfl⟩ := List.mem_map.mp hx
  have := rowZ_asc M j (y : Int)
  have := rowZ_lo 3 M j (y : Int)
  omega
theorem row_spec : ∀ {w : World} {mean : ExcName → Option Value} {mg mb : Str → Option Value} (dp un : Nat) (gd : Option (List Code)) (a : Addr) (ccd : Value) (outer : List Env) (A₀ : Around) (base h₀ : Heap) (L : Addr) (m : Str → Option Value) (news : List (Addr × Obj)) (s : Shared) (wy M j : Int) (ln : Nat) (T mk : List Nat) (oa : Addr) (ovs : List Value) (no : Nat) (oj om ow : Obj) (t1 t2 t3 t4 t5 t6 : Tok) (Q : Flow → Shared → Prop) (E : Value → Shared → Prop)
    (_ : Below A₀ base outer h₀) (_ : Fr h₀ L s.heap m) (_ : (hd.heap_39 w.params).In h₀) (_ : Top hd.view_39 (looseW hd.view_39 [Str.ofString "noValue", Str.ofString "Value", Str.ofString "Integer32", Str.ofString "OctetString", Str.ofString "SmiError", Str.ofString "TextualConvention", Str.ofString "HintedString", Str.ofString "HintedInteger", Str.ofString "TestAndIncr", Str.ofString "RowStatus"]) mean mg mb h₀) (_ : dp + 20 < recursionLimit) (_ : un + 200 < cLine) (_ : News h₀ L s.heap ((L + 1 + 1 + 1, oj) :: (L + 1 + 1, om) :: (L + 1, ow) :: (oa, listOf ovs.toArray no) :: news))
    (_ : @LT.lt Nat _ (L + 1 + 1 + 1) oa) (_ : OwnOff news [L + 1 + 1 + 1, L + 1 + 1, L + 1, oa])
    (_ : 0 ≤ wy) (_ : wy < 4) (_ : 1 ≤ ln) (_ : id (ln ≤ 2)) (_ : 0 ≤ j) (_ : j < 3) (_ : T.length ≤ 1000) (_ : mk.length ≤ 1) (_ : ovs.length ≤ 1000)
    (_ : oj.data = .cell (some (.int j t1))) (_ : om.data = .cell (some (.int M t2))) (_ : ow.data = .cell (some (.int wy t3)))
    (_ : Has m [(Str.ofString "length", .int (ln : Int) t4), (Str.ofString "told", .str (S T) t5), (Str.ofString "octets", .ref oa), (Str.ofString "mark", .str (S mk) t6)])
    (_ : ∀ (h' : Heap) (tk : Nat) (m' : Str → Option Value) (ys : List Value) (t : Tok), Fr h₀ L h' m' → News h₀ L h' ((L + 1 + 1 + 1, oj) :: (L + 1 + 1, om) :: (L + 1, ow) :: (oa, listOf (ovs ++ ys).toArray (no + 1)) :: news) → IntsAre ys ((rowN wy M j ln).map Int.ofNat) → Has m' [(Str.ofString "told", .str (S (T ++ (itemL wy.toNat (rowN wy M j ln) ++ mk))) t)] → (∀ z, z ≠ Str.ofString "told" → z ≠ Str.ofString "row" → m' z = m z) → Q .next { s with heap := h', toks := tk }),
    wpAny (model Challenge.rw_am6029_01.row.prog w) (ktrTop dp un gd (Str.ofString "law") lScope L a ccd (cellsFrom (L + 1) lScope.names []) outer) (execs [jS 1, jS 2, jS 3] (envX (Str.ofString "law") lScope L a ccd (cellsFrom (L + 1) lScope.names []))) Q E s := by
  k_fill
  intro w mean mg mb dp un gd a ccd outer A₀ base h₀ L m news s wy M j ln T mk oa ovs no oj om ow t1 t2 t3 t4 t5 t6 Q E B F X T0 hd hu N hoa hoff hw0 hw1 hl1 hl2 hj0 hj1 hT hmk hov hj hm' hw hm hret
  conv => arg 3; arg 1; arg 1; whnf
  conv => arg 3; arg 1; arg 2; arg 1; whnf
  conv => arg 3; arg 1; arg 2; arg 2; arg 1; whnf
  rw [← pin_eq hm] at F
  dsimp only [pin] at F
  refine wpAny_execs_cons ?_
  k_dflt (refine LCg.Assign_ListComp_U (F₀ := by k_asm) (by rfl) (by with_unfolding_all rfl) (by with_unfolding_all rfl) (by decide) (by rfl) (by decide) (by rfl) (by rfl) (by rfl) ?_)
  ktr_unf
  rename IsRange _ _ _ _ _ _ _ _ => R
  rename Fr _ _ _ _ => F2
  rename News _ _ _ _ => N2
  have hl3 : ln ≤ 2 := hl2
  refine LCg.CompSrc.range (n := ln) rfl F2 N2 R (small_one (by decide) (by decide) (by omega) (by omega)) (by rw [rangeSize_pos (by decide) (by omega)]; omega) (sl (by omega)) ?_
  intro g'
  refine kcf_range (rowZ wy M j) ?_ ?_
  · clear F2 N2 R
    intro k t I oI C oC D m2 ys h tk E' hlo hhi hC hx F' N' off' ne' hMark'
    rcases (by omega : wy = 3 ∨ wy ≠ 3) with h3 | h3
    · ktr_unf
    · ktr_unf
  · unfold KPfDone
    intro ys hys
    clear F2 N2 R
    rw [← rowN_ints] at hys
    have hl2' := rowN_len wy M j ln
    have hr1 : (rowN wy M j ln).length ≤ 2 := by omega
    have hr2 := rowN_hi wy M j ln
    have hr3 := rowN_asc wy M j ln
    have hyl : ys.length = ln := by
      have := hys.length
      rw [List.length_map] at this
      omega
    have hne : ys ≠ [] := fun q => by rw [q] at hyl; simp only [List.length_nil] at hyl; omega
    have hil := itemL_len wy.toNat (by omega) _ hr1 hr2
    unfold LCg.FinA
    intro D h9 tk9 F9 N9 o9
    simp only [LCg.Off1] at o9
    ktr_unf
    rename Fr _ _ _ _ => F2
    rename News _ _ _ _ => N2
    refine hret _ _ _ ys _ F2 (fun p hp => N2 p (.tail _ hp)) hys ⟨rfl, trivial⟩ ?_
    intro z z1 z2
    have z6 := congrFun (pin_eq hm) z
    simp only [pin] at z6
    simp only [z1, z2, if_false] at z6 ⊢
    by_cases z3 : z = Str.ofString "octets"
    · subst z3
      exact z6
    · simp only [z3, if_false] at z6 ⊢
      exact z6
def rowAt (sh : Bool) (it wy M j : Int) (ln : Nat) : List Nat := if sh = true ∧ j = it - 1 then [] else rowN wy M j ln
def tellN (wy : Nat) (mk row : List Nat) : List Nat := itemL wy row ++ (if row = [] then [] else mk)
local macro_rules | `(tactic| ktr_unf) => `(tactic| repeat' (first | (k_unfold; (try dsimp only)) | (k_end; kc_close) | ((fail_if_success (with_reducible show wpAny _ _ (exec (Stmt.While _ _ _ _) _) _ _ _)); (fail_if_success (with_reducible show wpAny _ _ (execs (Stmt.Assign _ (Expr.ListComp _ _ _ _) _ :: _) _) _ _ _)); (fail_if_success (with_reducible show wpAny _ _ (exec (Stmt.For _ _ _ _ _) _) _ _ _)); (fail_if_success (with_reducible show wpAny _ _ (eval (Expr.ListComp _ _ _ _) _) _ _ _)); (fail_if_success (with_reducible show wpAny _ _ (exec (Stmt.Assign _ (Expr.ListComp _ _ _ _) _) _) _ _ _)); (fail_if_success (with_reducible show wpAny _ _ (pyIter _) _ _ _)); (fail_if_success (with_reducible show wpAny _ _ (exec (Stmt.If (Expr.Compare _ _ [Expr.Constant (Const.str (Str.ofString "a")) _ _] _) _ _ _) _) _ _ _)); (fail_if_success (with_reducible show LCg.CompSrc _ _ _ _ _ _ _ _ _ _ _ _ _ _)); (first | walk1 | (dsimp only; walk1))) | (leave1; walk_say "STEP leave1"; (try dsimp only)) | fail "no step"))

theorem jbody_spec : ∀ {w : World} {mean : ExcName → Option Value} {mg mb : Str → Option Value} (dp un : Nat) (gd : Option (List Code)) (a : Addr) (ccd : Value) (outer : List Env) (A₀ : Around) (base h₀ : Heap) (L : Addr) (m : Str → Option Value) (news : List (Addr × Obj)) (s : Shared) (sh : Bool) (it wy M j : Int) (ln : Nat) (T mk : List Nat) (oa : Addr) (ovs : List Value) (no : Nat) (oj om ow : Obj) (t1 t2 t3 t4 t5 t6 t7 : Tok) (Q : Flow → Shared → Prop) (E : Value → Shared → Prop)
    (_ : Below A₀ base outer h₀) (_ : Fr h₀ L s.heap m) (_ : (hd.heap_39 w.params).In h₀) (_ : Top hd.view_39 (looseW hd.view_39 [Str.ofString "noValue", Str.ofString "Value", Str.ofString "Integer32", Str.ofString "OctetString", Str.ofString "SmiError", Str.ofString "TextualConvention", Str.ofString "HintedString", Str.ofString "HintedInteger", Str.ofString "TestAndIncr", Str.ofString "RowStatus"]) mean mg mb h₀) (_ : dp + 20 < recursionLimit) (_ : un + 200 < cLine) (_ : News h₀ L s.heap ((L + 1 + 1 + 1, oj) :: (L + 1 + 1, om) :: (L + 1, ow) :: (oa, listOf ovs.toArray no) :: news))
    (_ : @LT.lt Nat _ (L + 1 + 1 + 1) oa) (_ : OwnOff news [L + 1 + 1 + 1, L + 1 + 1, L + 1, oa])
    (_ : 0 ≤ wy) (_ : wy < 4) (_ : 1 ≤ ln) (_ : id (ln ≤ 2)) (_ : 0 ≤ j) (_ : j < 3) (_ : T.length ≤ 1000) (_ : mk.length ≤ 1) (_ : ovs.length ≤ 1000)
    (_ : oj.data = .cell (some (.int j t1))) (_ : om.data = .cell (some (.int M t2))) (_ : ow.data = .cell (some (.int wy t3)))
    (_ : Has m [(Str.ofString "length", .int (ln : Int) t4), (Str.ofString "told", .str (S T) t5), (Str.ofString "octets", .ref oa), (Str.ofString "mark", .str (S mk) t6), (Str.ofString "short", .bool sh), (Str.ofString "items", .int it t7)])
    (_ : ∀ (f : Flow) (h' : Heap) (tk : Nat) (m' : Str → Option Value) (ys : List Value) (no' : Nat) (t : Tok), (f = .next ∨ f = .cont) → Fr h₀ L h' m' → News h₀ L h' ((L + 1 + 1 + 1, oj) :: (L + 1 + 1, om) :: (L + 1, ow) :: (oa, listOf (ovs ++ ys).toArray no') :: news) → IntsAre ys ((rowAt sh it wy M j ln).map Int.ofNat) → Has m' [(Str.ofString "told", .str (S (T ++ tellN wy.toNat mk (rowAt sh it wy M j ln))) t)] → (∀ z, z ≠ Str.ofString "told" → z ≠ Str.ofString "row" → m' z = m z) → Q f { s with heap := h', toks := tk }),
    wpAny (model Challenge.rw_am6029_01.row.prog w) (ktrTop dp un gd (Str.ofString "law") lScope L a ccd (cellsFrom (L + 1) lScope.names []) outer) (execs (bodyS jFor) (envX (Str.ofString "law") lScope L a ccd (cellsFrom (L + 1) lScope.names []))) Q E s := by
  k_fill
  intro w mean mg mb dp un gd a ccd outer A₀ base h₀ L m news s sh it wy M j ln T mk oa ovs no oj om ow t1 t2 t3 t4 t5 t6 t7 Q E B F X T0 hd hu N hoa hoff hw0 hw1 hl1 hl2 hj0 hj1 hT hmk hov hj hm' hw hm hret
  conv => arg 3; arg 1; whnf
  have hEI : IntsAre [] (([] : List Nat).map Int.ofNat) := .nil
  have hr1 : ([] : List Nat).length ≤ 2 := by decide
  have hr2 : ∀ x ∈ ([] : List Nat), x < 256 := fun x hx => nomatch hx
  have hr3 : wy = 3 → ∀ x ∈ ([] : List Nat), x < 128 := fun _ x hx => nomatch hx
  have hil := itemL_len wy.toNat (by omega) [] hr1 hr2
  have F0 := F
  rw [← pin_eq hm] at F
  dsimp only [pin] at F
  refine wpAny_execs_cons ?_
  rcases (by rcases sh <;> by_cases q : j = it - 1 <;> simp [q] : (sh = true ∧ j = it - 1) ∨ ¬ (sh = true ∧ j = it - 1)) with hc | hc
  · obtain ⟨rfl, rfl⟩ := hc
    have hrow : rowAt true it wy M (it - 1) ln = [] := if_pos ⟨rfl, rfl⟩
    rw [hrow] at hret
    ktr_unf
    rename Fr _ _ _ _ => F2
    rename News _ _ _ _ => N2
    have hret2 := fun h' tk m' t => hret .cont h' tk m' [] no t
    simp only [List.append_nil] at hret2
    refine hret2 _ _ _ _ (.inr trivial) F2 (fun p hp => N2 p (.tail _ hp)) hEI (has_str rfl ?_) ?_
    · rw [show tellN wy.toNat mk [] = itemL wy.toNat [] ++ [] from rfl, List.append_nil]
    · intro z z1 z2
      have z6 := congrFun (pin_eq hm) z
      simp only [pin] at z6
      simp only [z1, z2, if_false] at z6 ⊢
      exact z6
  · have hrow : rowAt sh it wy M j ln = rowN wy M j ln := if_neg hc
    have hrn : rowN wy M j ln ≠ [] := fun q => by
      have := rowN_len wy M j ln
      rw [q] at this
      simp only [List.length_nil] at this
      omega
    have htell : tellN wy.toNat mk (rowN wy M j ln) = itemL wy.toNat (rowN wy M j ln) ++ mk := by unfold tellN; rw [if_neg hrn]
    rw [hrow, htell] at hret
    rcases sh with _ | _
    · ktr_unf
      rename Fr _ _ _ _ => F2
      rename News _ _ _ _ => N2
      refine row_spec _ _ _ _ _ _ _ _ _ _ _ _ _ wy M j ln T mk oa ovs no oj om ow _ _ _ _ _ _ _ _ B F2 X T0 hd hu N2 hoa hoff hw0 hw1 hl1 hl2 hj0 hj1 hT hmk hov hj hm' hw ⟨rfl, rfl, rfl, rfl, trivial⟩ ?_
      intro h9 tk9 m9 ys v9 F9 N9 hys e1 e2
      refine hret .next _ _ _ ys _ _ (.inl rfl) F9 N9 hys e1 ?_
      intro z z1 z2
      have z6 := congrFun (pin_eq hm) z
      have z7 := e2 z z1 z2
      simp only [pin] at z6
      exact z7.trans z6
    · have hj9 : j ≠ it - 1 := fun q => hc ⟨rfl, q⟩
      ktr_unf
      rename Fr _ _ _ _ => F2
      rename News _ _ _ _ => N2
      refine row_spec _ _ _ _ _ _ _ _ _ _ _ _ _ wy M j ln T mk oa ovs no oj om ow _ _ _ _ _ _ _ _ B F2 X T0 hd hu N2 hoa hoff hw0 hw1 hl1 hl2 hj0 hj1 hT hmk hov hj hm' hw ⟨rfl, rfl, rfl, rfl, trivial⟩ ?_
      intro h9 tk9 m9 ys v9 F9 N9 hys e1 e2
      refine hret .next _ _ _ ys _ _ (.inl rfl) F9 N9 hys e1 ?_
      intro z z1 z2
      have z6 := congrFun (pin_eq hm) z
      have z7 := e2 z z1 z2
      simp only [pin] at z6
      exact z7.trans z6

end
section
theorem freshL7 : True := by w_top off; exact True.intro
local macro_rules | `(tactic| walk_at "pad of mine") => `(tactic| fail "a pad")


local macro_rules | `(tactic| ktr_rel) => `(tactic| with_reducible first | rfl | assumption | exact lit_fig | exact lit_zero | exact lit_nil | exact lit_star | exact lit_dots | exact lit_coms | exact lit_xdoa | exact lit_dig | exact lit_a | exact lit_t | exact lit_x | exact lit_d | exact lit_o | exact lit_B | exact lit_integer | exact lit_string | exact lit_ascii | exact lit_ignore | exact lit_f02x | exact lit_f03o | exact lit_fd | exact lit_b | fail "no S")
local macro_rules | `(tactic| ktr_unf) => `(tactic| repeat' (first | (k_unfold; (try dsimp only)) | (k_end; kc_close) | ((fail_if_success (with_reducible show wpAny _ _ (exec (Stmt.While _ _ _ _) _) _ _ _)); (fail_if_success (with_reducible show wpAny _ _ (exec (Stmt.For _ _ _ _ _) _) _ _ _)); (fail_if_success (with_reducible show wpAny _ _ (eval (Expr.ListComp _ _ _ _) _) _ _ _)); (fail_if_success (with_reducible show wpAny _ _ (exec (Stmt.Assign _ (Expr.ListComp _ _ _ _) _) _) _ _ _)); (fail_if_success (with_reducible show wpAny _ _ (pyIter _) _ _ _)); (fail_if_success (with_reducible show LCg.CompSrc _ _ _ _ _ _ _ _ _ _ _ _ _ _)); (first | walk1 | (dsimp only; walk1))) | (leave1; walk_say "STEP leave1"; (try dsimp only)) | fail "no step"))
local macro_rules | `(tactic| walk_at "subscriptTail Constant str BinOp") => `(tactic| ((with_reducible show wpAny _ _ (subscriptTail _ _ (Value.str _ _) (Value.int _ _)) _ _ _); (refine' itemD_S ?hx ?h0 ?h1 ?hl ?_); (case hx => ktr_rel); (case h0 => first | decide | omega | exact fmod_lo _ (by decide)); (case h1 => first | decide | omega | exact fmod_hi _ (by decide)); (case hl => first | decide | omega | (simp only [List.length_append, List.length_cons, List.length_nil, List.length_replicate, List.length_map]; omega)); intro _ _))
local macro_rules | `(tactic| walk_at "subscriptTail") => `(tactic| ((with_reducible show wpAny _ _ (subscriptTail _ _ (Value.str _ _) (Value.int _ _)) _ _ _); (refine' itemD_S ?hx ?h0 ?h1 ?hl ?_); (case hx => ktr_rel); (case h0 => first | decide | omega | exact fmod_lo _ (by decide)); (case h1 => first | decide | omega | exact fmod_hi _ (by decide)); (case hl => first | decide | omega | (simp only [List.length_append, List.length_cons, List.length_nil, List.length_replicate, List.length_map]; omega)); intro _ _))
local macro_rules | `(tactic| walk_at "subscriptTail Name Constant str int") => `(tactic| ((with_reducible show wpAny _ _ (subscriptTail _ _ (Value.str _ _) (Value.int 0 _)) _ _ _); (refine' item0_S ?hx ?hl ?_); (case hx => ktr_rel); (case hl => first | decide | omega | (simp only [List.length_append, List.length_cons, List.length_nil, List.length_replicate, List.length_map]; omega)); intro _ _))
local macro_rules | `(tactic| walk_at "subscriptTail") => `(tactic| ((with_reducible show wpAny _ _ (subscriptTail _ _ (Value.str _ _) (Value.int 0 _)) _ _ _); (refine' item0_S ?hx ?hl ?_); (case hx => ktr_rel); (case hl => first | decide | omega | (simp only [List.length_append, List.length_cons, List.length_nil, List.length_replicate, List.length_map]; omega)); intro _ _))
local macro_rules | `(tactic| walk_at "subscriptTail Name Slice str ref") => `(tactic| ((with_reducible show wpAny _ _ (subscriptTail _ (Expr.Slice (some _) none none _) (Value.str _ _) (Value.ref _)) _ _ _); (with_reducible rename Fr _ _ _ _ => F'); (with_reducible rename News _ _ _ _ => N'); (refine' tail_S (s := ⟨_, _, _, _, _⟩) ?hx ?hl F' N' ?_); (case hx => ktr_rel); (case hl => first | decide | omega | (simp only [List.length_append, List.length_cons, List.length_nil, List.length_replicate, List.length_map]; omega)); intro _ _ _ _ _))
local macro_rules | `(tactic| walk_at "subscriptTail") => `(tactic| ((with_reducible show wpAny _ _ (subscriptTail _ (Expr.Slice (some _) none none _) (Value.str _ _) (Value.ref _)) _ _ _); (with_reducible rename Fr _ _ _ _ => F'); (with_reducible rename News _ _ _ _ => N'); (refine' tail_S (s := ⟨_, _, _, _, _⟩) ?hx ?hl F' N' ?_); (case hx => ktr_rel); (case hl => first | decide | omega | (simp only [List.length_append, List.length_cons, List.length_nil, List.length_replicate, List.length_map]; omega)); intro _ _ _ _ _))
local macro_rules | `(tactic| walk_at "call builtin:len cons nil") => `(tactic| ((with_reducible show wpAny _ _ (call (Value.builtin "len") [Value.str _ _]) _ _ _); (refine' len_S ?hx ?hl ?_); (case hx => ktr_rel); (case hl => first | decide | omega | (simp only [List.length_append, List.length_cons, List.length_nil, List.length_replicate, List.length_map]; omega)); intro _ _))
local macro_rules | `(tactic| walk_at "call builtin:len") => `(tactic| ((with_reducible show wpAny _ _ (call (Value.builtin "len") [Value.str _ _]) _ _ _); (refine' len_S ?hx ?hl ?_); (case hx => ktr_rel); (case hl => first | decide | omega | (simp only [List.length_append, List.length_cons, List.length_nil, List.length_replicate, List.length_map]; omega)); intro _ _))
local macro_rules | `(tactic| walk_at "binaryOp Add str str") => `(tactic| ((refine' add_S ?hx ?hy ?hl ?_); (case hx => ktr_rel); (case hy => ktr_rel); (case hl => first | decide | omega | (simp only [List.length_append, List.length_cons, List.length_nil, List.length_replicate, List.length_map]; omega)); intro _ _))
local macro_rules | `(tactic| walk_at "inplaceOp Add str str") => `(tactic| ((refine' iadd_S ?hx ?hy ?hl ?_); (case hx => ktr_rel); (case hy => ktr_rel); (case hl => first | decide | omega | (simp only [List.length_append, List.length_cons, List.length_nil, List.length_replicate, List.length_map]; omega)); intro _ _))
local macro_rules | `(tactic| walk_at "binaryOp Mult str int") => `(tactic| ((refine' mul_S ?hx ?hl ?h0 ?_); (case hx => ktr_rel); (case hl => omega); (case h0 => omega); intro _ _))
local macro_rules | `(tactic| walk_at "compareOp Eq str str") => `(tactic| ((refine' eq_S ?hx ?hy ?_); (case hx => ktr_rel); (case hy => ktr_rel)))
local macro_rules | `(tactic| walk_at "compareOp NotEq str str") => `(tactic| ((refine' ne_S ?hx ?hy ?_); (case hx => ktr_rel); (case hy => ktr_rel)))
local macro_rules | `(tactic| walk_at "compareOp In str str") => `(tactic| ((refine' in_S ?hx ?hy ?_); (case hx => ktr_rel); (case hy => ktr_rel)))
local macro_rules | `(tactic| walk_at "compareOp NotIn str str") => `(tactic| ((refine' notin_S ?hx ?hy ?_); (case hx => ktr_rel); (case hy => ktr_rel)))
local macro_rules | `(tactic| walk_at "truthy str") => `(tactic| ((refine' truthy_S ?hx ?hl ?_); (case hx => ktr_rel); (case hl => first | decide | omega | (simp only [List.length_append, List.length_cons, List.length_nil, List.length_replicate, List.length_map]; omega)); intro _))
local macro_rules | `(tactic| walk_at "call type:int cons nil") => `(tactic| ((with_reducible show wpAny _ _ (call (Value.type "int") [Value.str _ _]) _ _ _); (refine' int_S ?hx ?hc ?_); (case hx => ktr_rel); (case hc => omega); intro _ _))
local macro_rules | `(tactic| walk_at "call type:int") => `(tactic| ((with_reducible show wpAny _ _ (call (Value.type "int") [Value.str _ _]) _ _ _); (refine' int_S ?hx ?hc ?_); (case hx => ktr_rel); (case hc => omega); intro _ _))
local macro_rules | `(tactic| walk_at "compareOp Is bytes ref") => `(tactic| (refine wpAny_is_other (by rfl) (by intro x; cases x) ?_))
local macro_rules | `(tactic| walk_at "truthy str") => `(tactic| first | ((refine truthy_Sn (by with_reducible first | rfl | exact lit_nil) ?_); intro _) | ((refine truthy_Sc (by with_reducible first | rfl | exact lit_star) (by first | decide | omega | (simp only [List.length_append, List.length_cons, List.length_nil, List.length_replicate, List.length_map] at *; omega)) ?_); intro _))

local macro_rules | `(tactic| walk_at "truthy bytes") => `(tactic| (refine truthy_B (by first | omega | (simp only [List.length_append, List.length_cons, List.length_nil, List.length_take, List.length_drop]; omega)) ?_; intro _))
local macro_rules | `(tactic| walk_at "call builtin:len") => `(tactic| ((with_reducible show wpAny _ _ (call (Value.builtin "len") [Value.bytes (List.toArray _) _]) _ _ _); refine len_B (by first | omega | (simp only [List.length_append, List.length_cons, List.length_nil, List.length_take, List.length_drop]; omega)) ?_; intro _ _))
local macro_rules | `(tactic| walk_at "subscriptTail Name str Constant bytes int") => `(tactic| ((with_reducible show wpAny _ _ (subscriptTail _ _ (Value.bytes (List.toArray (_ :: _)) _) (Value.int 0 _)) _ _ _); refine item0_B (by first | omega | (simp only [List.length_append, List.length_cons, List.length_nil] at *; omega)) ?_; intro _ _))
local macro_rules | `(tactic| walk_at "subscriptTail Name Constant bytes int") => `(tactic| ((with_reducible show wpAny _ _ (subscriptTail _ _ (Value.bytes (List.toArray (_ :: _)) _) (Value.int 0 _)) _ _ _); refine item0_B (by first | omega | (simp only [List.length_append, List.length_cons, List.length_nil] at *; omega)) ?_; intro _ _))
local macro_rules | `(tactic| walk_at "subscriptTail") => `(tactic| ((with_reducible show wpAny _ _ (subscriptTail _ _ (Value.bytes (List.toArray (_ :: _)) _) (Value.int 0 _)) _ _ _); refine item0_B (by first | omega | (simp only [List.length_append, List.length_cons, List.length_nil] at *; omega)) ?_; intro _ _))
local macro_rules | `(tactic| walk_at "subscriptTail Name str Slice") => `(tactic| ((with_reducible show wpAny _ _ (subscriptTail _ (Expr.Slice none (some _) none _) (Value.bytes (List.toArray _) _) (Value.ref _)) _ _ _); (with_reducible rename Fr _ _ _ _ => F'); (with_reducible rename News _ _ _ _ => N'); (refine head_B (s := ⟨_, _, _, _, _⟩) F' N' (by first | decide | omega) (by first | omega | (simp only [List.length_append, List.length_cons, List.length_nil, List.length_take, List.length_drop] at *; omega)) ?_); intro _ _ _ _ _))
local macro_rules | `(tactic| walk_at "subscriptTail") => `(tactic| ((with_reducible show wpAny _ _ (subscriptTail _ (Expr.Slice none (some _) none _) (Value.bytes (List.toArray _) _) (Value.ref _)) _ _ _); (with_reducible rename Fr _ _ _ _ => F'); (with_reducible rename News _ _ _ _ => N'); (refine head_B (s := ⟨_, _, _, _, _⟩) F' N' (by first | decide | omega) (by first | omega | (simp only [List.length_append, List.length_cons, List.length_nil, List.length_take, List.length_drop] at *; omega)) ?_); intro _ _ _ _ _))
local macro_rules | `(tactic| walk_at "subscriptTail Name str Slice") => `(tactic| ((with_reducible show wpAny _ _ (subscriptTail _ (Expr.Slice (some _) none none _) (Value.bytes (List.toArray _) _) (Value.ref _)) _ _ _); (with_reducible rename Fr _ _ _ _ => F'); (with_reducible rename News _ _ _ _ => N'); (refine drop_B (s := ⟨_, _, _, _, _⟩) F' N' (by first | decide | omega) (by first | omega | (simp only [List.length_append, List.length_cons, List.length_nil, List.length_take, List.length_drop] at *; omega)) ?_); intro _ _ _ _ _))
local macro_rules | `(tactic| walk_at "subscriptTail") => `(tactic| ((with_reducible show wpAny _ _ (subscriptTail _ (Expr.Slice (some _) none none _) (Value.bytes (List.toArray _) _) (Value.ref _)) _ _ _); (with_reducible rename Fr _ _ _ _ => F'); (with_reducible rename News _ _ _ _ => N'); (refine drop_B (s := ⟨_, _, _, _, _⟩) F' N' (by first | decide | omega) (by first | omega | (simp only [List.length_append, List.length_cons, List.length_nil, List.length_take, List.length_drop] at *; omega)) ?_); intro _ _ _ _ _))
local macro_rules | `(tactic| walk_at "binaryOp Mod str int") => `(tactic| (first | ((with_reducible refine mod_x ?h0 ?h1 ?_); (case h0 => omega); (case h1 => omega); intro _ _) | ((with_reducible refine mod_o ?h0 ?h1 ?_); (case h0 => omega); (case h1 => omega); intro _ _)))
local macro_rules | `(tactic| walk_at "call builtin:bytes.decode") => `(tactic| ((with_reducible refine decode_B ?h0 ?h1 ?_); (case h0 => first | assumption | omega); (case h1 => assumption); intro _ _))
local macro_rules | `(tactic| walk_at "inplaceOp LShift int int") => `(tactic| ((refine shl8 (by omega) ?_); intro _ _))
local macro_rules | `(tactic| walk_at "inplaceOp BitOr int int") => `(tactic| ((refine or8 (by first | assumption | omega) ?_); intro _ _))
local macro_rules | `(tactic| walk_at "truthy bytes") => `(tactic| first | ((with_reducible refine truthy_Bn ?_); intro _) | ((with_reducible refine truthy_Bc ?hl ?_); (case hl => first | decide | omega | (simp only [List.length_append, List.length_cons, List.length_nil, List.length_replicate, List.length_map] at *; omega)); intro _))

local macro_rules | `(tactic| ktr_unf) => `(tactic| repeat' (first | (k_unfold; (try dsimp only)) | (k_end; kc_close) | ((fail_if_success (with_reducible show wpAny _ _ (exec (Stmt.While _ _ _ _) _) _ _ _)); (fail_if_success (with_reducible show wpAny _ _ (execs (Stmt.Assign _ (Expr.ListComp _ _ _ _) _ :: _) _) _ _ _)); (fail_if_success (with_reducible show wpAny _ _ (exec (Stmt.For _ _ _ _ _) _) _ _ _)); (fail_if_success (with_reducible show wpAny _ _ (eval (Expr.ListComp _ _ _ _) _) _ _ _)); (fail_if_success (with_reducible show wpAny _ _ (exec (Stmt.Assign _ (Expr.ListComp _ _ _ _) _) _) _ _ _)); (fail_if_success (with_reducible show wpAny _ _ (pyIter _) _ _ _)); (fail_if_success (with_reducible show wpAny _ _ (exec (Stmt.If (Expr.Compare _ _ [Expr.Constant (Const.str (Str.ofString "a")) _ _] _) _ _ _) _) _ _ _)); (fail_if_success (with_reducible show LCg.CompSrc _ _ _ _ _ _ _ _ _ _ _ _ _ _)); (first | walk1 | (dsimp only; walk1))) | (leave1; walk_say "STEP leave1"; (try dsimp only)) | fail "no step"))

local macro_rules | `(tactic| k_room) => `(tactic| ktr_room)
local macro_rules | `(tactic| walk_at "loadName") => `(tactic| k_dflt (refine' wpAny_loadName_local ?k ?l (Fr.ns ?F) ?v ?_; (case F => k_asm); (case k => rfl); (case l => rfl); (case v => rfl); k_whole))
local macro_rules | `(tactic| walk_at "call ref") => `(tactic| ((with_reducible show wpAny _ _ (call (Value.ref 402) _) _ _ _); k_dflt (refine' number_spec _ _ _ _ _ _ _ _ _ _ _ _ _ _ _ _ _ _ _ _ _ _ _ ?k1 ?k2 ?k3 ?k4 ?k5 ?kK ?a1 ?a2 ?a3 ?a4 ?a5 ?kd ?ku ?kR; (case k1 => k_asm); (case k2 => k_asm); (case k3 => k_asm); (case k4 => k_asm); (case k5 => k_asm); (case kK => first | exact rfl | assumption); (case a1 => assumption); (case a2 => assumption); (case a3 => assumption); (case a4 => omega); (case a5 => omega); (case kd => ktr_room); (case ku => ktr_units); intro t9 h9 tk9 F9 N9; (try dsimp only); (try k_fold))))
local macro_rules | `(tactic| walk_at "call type:str") => `(tactic| ((with_reducible show wpAny _ _ (call (Value.type "str") [Value.int _ _]) _ _ _); k_dflt (refine' str_I ?h1 ?h2 ?_; (case h1 => omega); (case h2 => omega)); intro _ _))

local macro_rules | `(tactic| walk_at "inplaceOp Add ref ref") => `(tactic| ((with_reducible show wpAny _ _ (inplaceOp Operator.Add (Value.ref _) (Value.ref _)) _ _ _); k_dflt (refine' iadd_list ?F ?N ?b ?ne ?U ?z ?_; (case F => k_asm); (case N => k_asm); (case b => k_mem); (case ne => assumption); (case U => k_upd); (case z => omega)); intro h' F' N'; (try k_sweep)))
local macro_rules | `(tactic| walk_at "inplaceOp Add ref") => `(tactic| ((with_reducible show wpAny _ _ (inplaceOp Operator.Add (Value.ref _) (Value.ref _)) _ _ _); k_dflt (refine' iadd_list ?F ?N ?b ?ne ?U ?z ?_; (case F => k_asm); (case N => k_asm); (case b => k_mem); (case ne => assumption); (case U => k_upd); (case z => omega)); intro h' F' N'; (try k_sweep)))
local macro_rules | `(tactic| walk_at "call ref") => `(tactic| ((with_reducible show wpAny _ _ (call (Value.ref 414) _) _ _ _); k_dflt (refine' item_spec _ _ _ _ _ _ _ _ _ _ _ _ _ _ _ _ _ _ _ _ _ _ _ _ ?k1 ?k2 ?k3 ?k4 ?k5 ?kK ?a1 ?a2 ?a3 ?a4 ?a5 ?a6 ?a7 ?kd ?ku ?kR; (case k1 => k_asm); (case k2 => k_asm); (case k3 => k_asm); (case k4 => k_asm); (case k5 => k_asm); (case kK => first | exact rfl | assumption); (case a1 => k_mem); (case a2 => assumption); (case a3 => assumption); (case a4 => assumption); (case a5 => assumption); (case a6 => omega); (case a7 => omega); (case kd => ktr_room); (case ku => ktr_units); intro t9 h9 tk9 F9 N9; (try dsimp only); (try k_fold))))
local macro_rules | `(tactic| walk_at "ite") => `(tactic| first | (refine ite_neg (by first | omega | (simp only [beq_iff_eq, bne_iff_ne, decide_eq_true_eq, ne_eq]; omega)) ?_) | (refine ite_pos (by first | omega | (simp only [beq_iff_eq, bne_iff_ne, decide_eq_true_eq, ne_eq]; done) | (simp only [beq_iff_eq, bne_iff_ne, decide_eq_true_eq, ne_eq]; omega)) ?_))

def rowsN (sh : Bool) (it : Nat) (wy M : Int) (ln : Nat) : List (List Nat) := (List.range it).map fun (j : Nat) => rowAt sh (it : Int) wy M (j : Int) ln
def tellsN (wy : Nat) (mk : List Nat) (rows : List (List Nat)) : List Nat := (rows.map (tellN wy mk)).flatten
theorem rowAt_ok (sh : Bool) (it wy M j : Int) (ln : Nat) (h : ln ≤ 2) : (rowAt sh it wy M j ln).length ≤ 2 ∧ ∀ x ∈ rowAt sh it wy M j ln, x < 256 := by
  unfold rowAt
  split
  · exact ⟨by decide, fun x hx => nomatch hx⟩
  · exact ⟨by rw [rowN_len]; exact h, rowN_hi _ _ _ _⟩
theorem rowsN_take (sh : Bool) (it : Nat) (wy M : Int) (ln i : Nat) (h : i < it) : (rowsN sh it wy M ln).take (i + 1) = (rowsN sh it wy M ln).take i ++ [rowAt sh (it : Int) wy M (i : Int) ln] := by
  rw [List.take_add_one]
  unfold rowsN
  rw [List.getElem?_map, List.getElem?_range h]
  simp only [Option.map_some, Option.toList_some]
theorem rows_len (wy : Nat) (hw : wy < 4) (mk : List Nat) (hm : mk.length ≤ 1) : ∀ rows : List (List Nat), (∀ r ∈ rows, r.length ≤ 2 ∧ ∀ x ∈ r, x < 256) → (tellsN wy mk rows).length ≤ 21 * rows.length ∧ rows.flatten.length ≤ 2 * rows.length
  | [], _ => ⟨Nat.zero_le _, Nat.zero_le _⟩
  | r :: rs, h => by
    have h1 := rows_len wy hw mk hm rs (fun r hr => h r (.tail _ hr))
    have h2 := h r (.head _)
    have h3 := itemL_len wy hw r h2.1 h2.2
    have h4 : (tellN wy mk r).length ≤ 21 := by
      unfold tellN
      rw [List.length_append]
      split
      · simp only [List.length_nil]; omega
      · omega
    have e1 : tellsN wy mk (r :: rs) = tellN wy mk r ++ tellsN wy mk rs := rfl
    rw [e1, List.length_append, List.flatten_cons, List.length_append, List.length_cons]
    exact ⟨by omega, by omega⟩
theorem jfor_spec : ∀ {w : World} {mean : ExcName → Option Value} {mg mb : Str → Option Value} (dp un : Nat) (gd : Option (List Code)) (a : Addr) (ccd : Value) (outer : List Env) (A₀ : Around) (base h₀ : Heap) (L : Addr) (m : Str → Option Value) (news : List (Addr × Obj)) (s : Shared) (sh : Bool) (it : Nat) (wy M : Int) (ln : Nat) (mk : List Nat) (oa : Addr) (ovs : List Value) (no : Nat) (oj om ow : Obj) (vj : Option Value) (t2 t3 t4 t5 t6 t7 : Tok) (Q : Flow → Shared → Prop) (E : Value → Shared → Prop)
    (_ : Below A₀ base outer h₀) (_ : Fr h₀ L s.heap m) (_ : (hd.heap_39 w.params).In h₀) (_ : Top hd.view_39 (looseW hd.view_39 [Str.ofString "noValue", Str.ofString "Value", Str.ofString "Integer32", Str.ofString "OctetString", Str.ofString "SmiError", Str.ofString "TextualConvention", Str.ofString "HintedString", Str.ofString "HintedInteger", Str.ofString "TestAndIncr", Str.ofString "RowStatus"]) mean mg mb h₀) (_ : dp + 20 < recursionLimit) (_ : un + 200 < cLine) (_ : News h₀ L s.heap ((L + 1 + 1 + 1, oj) :: (L + 1 + 1, om) :: (L + 1, ow) :: (oa, listOf ovs.toArray no) :: news))
    (_ : @LT.lt Nat _ (L + 1 + 1 + 1) oa) (_ : OwnOff news [L + 1 + 1 + 1, L + 1 + 1, L + 1, oa])
    (_ : 0 ≤ wy) (_ : wy < 4) (_ : 1 ≤ ln) (_ : ln ≤ 2) (_ : id (it ≤ 3)) (_ : mk.length ≤ 1) (_ : ovs.length ≤ 900)
    (_ : oj.data = .cell vj) (_ : om.data = .cell (some (.int M t2))) (_ : ow.data = .cell (some (.int wy t3)))
    (_ : Has m [(Str.ofString "length", .int (ln : Int) t4), (Str.ofString "told", .str (S []) t5), (Str.ofString "octets", .ref oa), (Str.ofString "mark", .str (S mk) t6), (Str.ofString "short", .bool sh), (Str.ofString "items", .int (it : Int) t7)])
    (_ : PassesOwn (model Challenge.rw_am6029_01.row.prog w) (ktrTop dp un gd (Str.ofString "law") lScope L a ccd (cellsFrom (L + 1) lScope.names []) outer) (envX (Str.ofString "law") lScope L a ccd (cellsFrom (L + 1) lScope.names [])) E)
    (_ : ∀ (h' : Heap) (tk : Nat) (m' : Str → Option Value) (ys : List Value) (no' : Nat) (oj' : Obj) (vj' : Option Value) (t : Tok), Fr h₀ L h' m' → oj'.data = .cell vj' → News h₀ L h' ((L + 1 + 1 + 1, oj') :: (L + 1 + 1, om) :: (L + 1, ow) :: (oa, listOf (ovs ++ ys).toArray no') :: news) → IntsAre ys (((rowsN sh it wy M ln).flatten).map Int.ofNat) → Has m' [(Str.ofString "told", .str (S (tellsN wy.toNat mk (rowsN sh it wy M ln))) t)] → (∀ z, z ≠ Str.ofString "told" → z ≠ Str.ofString "row" → m' z = m z) → Q .next { s with heap := h', toks := tk }),
    wpAny (model Challenge.rw_am6029_01.row.prog w) (ktrTop dp un gd (Str.ofString "law") lScope L a ccd (cellsFrom (L + 1) lScope.names []) outer) (exec jFor (envX (Str.ofString "law") lScope L a ccd (cellsFrom (L + 1) lScope.names []))) Q E s := by
  k_fill
  intro w mean mg mb dp un gd a ccd outer A₀ base h₀ L m news s sh it wy M ln mk oa ovs no oj om ow vj t2 t3 t4 t5 t6 t7 Q E B F X T0 hd hu N hoa hoff hw0 hw1 hl1 hl2 hit hmk hov hj hm' hw hm hE hret
  conv => arg 3; arg 1; whnf
  refine For_cell (h₀ := h₀) (c := L + 1 + 1 + 1) rfl rfl rfl ?_ (hE := hE)
  have F0 := F
  rw [← pin_eq hm] at F
  dsimp only [pin] at F
  clear F0
  ktr_unf
  rename IsRange _ _ _ _ _ _ _ _ => R
  rename Fr _ _ _ _ => F2
  rename News _ _ _ _ => N2
  have hit3 : it ≤ 3 := hit
  have hpm := pin_eq hm
  dsimp only [pin] at hpm
  rw [hpm] at F2
  have hlen : (rowsN sh it wy M ln).length = it := by unfold rowsN; rw [List.length_map, List.length_range]
  have hok : ∀ r ∈ rowsN sh it wy M ln, r.length ≤ 2 ∧ ∀ x ∈ r, x < 256 := by
    intro r hr
    obtain ⟨j, _, rfl⟩ := List.mem_map.mp hr
    exact rowAt_ok _ _ _ _ _ _ hl2
  refine for_rangeC (fun i m' nx => ∃ (ys : List Value) (no' : Nat) (t : Tok), nx = (L + 1 + 1, om) :: (L + 1, ow) :: (oa, listOf (ovs ++ ys).toArray no') :: news ∧ IntsAre ys ((((rowsN sh it wy M ln).take i).flatten).map Int.ofNat) ∧ Has m' [(Str.ofString "told", .str (S (tellsN wy.toNat mk ((rowsN sh it wy M ln).take i))) t)] ∧ ∀ z, z ≠ Str.ofString "told" → z ≠ Str.ofString "row" → m' z = m z) rfl R (by omega) F2 N2 hj ?_ ⟨[], no, t5, by rw [List.append_nil], .nil, ⟨hm.2.1, trivial⟩, fun _ _ _ => rfl⟩ ?_ ?_
  · intro p hp
    simp only [List.mem_cons] at hp
    have hoa' : @LT.lt Nat _ (L + 1 + 1 + 1) oa := hoa
    rcases hp with h | h | h | h
    · rw [h]; exact neN (by dsimp only; omega)
    · rw [h]; exact neN (by dsimp only; omega)
    · rw [h]; exact neN (by dsimp only; omega)
    · exact hoff p h _ (.head _)
  · clear F2 N2 R
    rintro i t m₁ nx h tk own o hi9 hd9 hown hoffn ⟨ys, no', t9, rfl, hys, e1, e2⟩ F1 N1
    have hown4 : OwnOff own [L + 1 + 1 + 1, L + 1 + 1, L + 1, oa] := fun p hp b hb => hown p hp b (by
      simp only [List.map_cons, List.mem_cons, List.not_mem_nil, or_false] at hb ⊢
      rcases hb with h | h | h | h <;> simp [h])
    have hrl := rows_len wy.toNat (by omega) mk hmk ((rowsN sh it wy M ln).take i) (fun r hr => hok r (List.mem_of_mem_take hr))
    rw [List.length_take, hlen] at hrl
    have hyl := hys.length
    rw [List.length_map] at hyl
    have hm1 := hm
    refine jbody_spec _ _ _ _ _ _ _ _ _ _ _ (news ++ own) _ sh (it : Int) wy M (i : Int) ln (tellsN wy.toNat mk ((rowsN sh it wy M ln).take i)) mk oa (ovs ++ ys) no' o om ow _ _ _ _ _ _ _ _ _ B F1 X T0 hd hu N1 hoa (off_app hoff hown4) hw0 hw1 hl1 hl2 (by omega) (by omega) (by omega) hmk (by rw [List.length_append]; omega) hd9 hm' hw ⟨(e2 (Str.ofString "length") (by decide) (by decide)).trans hm.1, e1.1, (e2 (Str.ofString "octets") (by decide) (by decide)).trans hm.2.2.1, (e2 (Str.ofString "mark") (by decide) (by decide)).trans hm.2.2.2.1, (e2 (Str.ofString "short") (by decide) (by decide)).trans hm.2.2.2.2.1, (e2 (Str.ofString "items") (by decide) (by decide)).trans hm.2.2.2.2.2.1, trivial⟩ ?_
    intro f h9 tk9 m9 ys2 no2 v9 hf F9 N9 hys2 g1 g2
    have fin : InvEndG h₀ L (JC (L + 1 + 1 + 1) (fun m' nx => ∃ (ys : List Value) (no' : Nat) (t : Tok), nx = (L + 1 + 1, om) :: (L + 1, ow) :: (oa, listOf (ovs ++ ys).toArray no') :: news ∧ IntsAre ys ((((rowsN sh it wy M ln).take (i + 1)).flatten).map Int.ofNat) ∧ Has m' [(Str.ofString "told", .str (S (tellsN wy.toNat mk ((rowsN sh it wy M ln).take (i + 1)))) t)] ∧ ∀ z, z ≠ Str.ofString "told" → z ≠ Str.ofString "row" → m' z = m z)) own { s with heap := h, toks := tk } { s with heap := h9, toks := tk9 } := by
      refine ⟨h9, tk9, m9, _, (L + 1 + 1 + 1, o) :: (L + 1 + 1, om) :: (L + 1, ow) :: (oa, listOf (ovs ++ (ys ++ ys2)).toArray no2) :: news, rfl, F9, N9, ?_, ?_, ?_, o, _, _, rfl, hd9, ?_, ys ++ ys2, no2, v9, rfl, ?_, ?_, ?_⟩
      · intro p hp
        rw [List.append_assoc]
        simp only [List.mem_cons, List.mem_append] at hp ⊢
        rcases hp with h | h | h | h | h <;> simp [h]
      · intro p hp
        simp only [List.mem_cons, List.mem_append]
        simp [hp]
      · intro p hp b hb
        simp only [List.map_cons, List.mem_cons] at hb
        rcases hb with h | h | h | h | h
        · exact hown4 p hp b (by simp [h])
        · exact hown4 p hp b (by simp [h])
        · exact hown4 p hp b (by simp [h])
        · exact hown4 p hp b (by simp [h])
        · exact hown p hp b (by simp [h])
      · intro p hp
        simp only [List.mem_cons] at hp
        have hoa' : @LT.lt Nat _ (L + 1 + 1 + 1) oa := hoa
        rcases hp with h | h | h | h
        · rw [h]; exact neN (by dsimp only; omega)
        · rw [h]; exact neN (by dsimp only; omega)
        · rw [h]; exact neN (by dsimp only; omega)
        · exact hoff p h _ (.head _)
      · rw [rowsN_take sh it wy M ln i hi9, List.flatten_append, List.map_append]
        refine IntsAre.append hys ?_
        simpa using hys2
      · rw [rowsN_take sh it wy M ln i hi9]
        refine has_str g1.1 ?_
        unfold tellsN
        rw [List.map_append, List.flatten_append]
        simp
      · exact fun z z1 z2 => (g2 z z1 z2).trans (e2 z z1 z2)
    rcases hf with rfl | rfl <;> exact fin
  · clear F2 N2 R
    rintro m₁ nx h tk ⟨o, v, nx₀, rfl, hd9, _, ys, no', t9, rfl, hys, e1, e2⟩ F1 N1
    have ht : (rowsN sh it wy M ln).take it = rowsN sh it wy M ln := List.take_of_length_le (by omega)
    rw [ht] at hys e1
    exact hret _ _ _ ys no' o v t9 F1 hd9 N1 hys e1 e2

end
section
theorem freshL8 : True := by w_top off; exact True.intro


local macro_rules | `(tactic| ktr_rel) => `(tactic| with_reducible first | rfl | assumption | exact lit_fig | exact lit_zero | exact lit_nil | exact lit_star | exact lit_dots | exact lit_coms | exact lit_xdoa | exact lit_dig | exact lit_a | exact lit_t | exact lit_x | exact lit_d | exact lit_o | exact lit_B | exact lit_integer | exact lit_string | exact lit_ascii | exact lit_ignore | exact lit_f02x | exact lit_f03o | exact lit_fd | exact lit_b | fail "no S")
local macro_rules | `(tactic| ktr_unf) => `(tactic| repeat' (first | (k_unfold; (try dsimp only)) | (k_end; kc_close) | ((fail_if_success (with_reducible show wpAny _ _ (exec (Stmt.While _ _ _ _) _) _ _ _)); (fail_if_success (with_reducible show wpAny _ _ (exec (Stmt.For _ _ _ _ _) _) _ _ _)); (fail_if_success (with_reducible show wpAny _ _ (eval (Expr.ListComp _ _ _ _) _) _ _ _)); (fail_if_success (with_reducible show wpAny _ _ (exec (Stmt.Assign _ (Expr.ListComp _ _ _ _) _) _) _ _ _)); (fail_if_success (with_reducible show wpAny _ _ (pyIter _) _ _ _)); (fail_if_success (with_reducible show LCg.CompSrc _ _ _ _ _ _ _ _ _ _ _ _ _ _)); (first | walk1 | (dsimp only; walk1))) | (leave1; walk_say "STEP leave1"; (try dsimp only)) | fail "no step"))
local macro_rules | `(tactic| walk_at "subscriptTail Constant str BinOp") => `(tactic| ((with_reducible show wpAny _ _ (subscriptTail _ _ (Value.str _ _) (Value.int _ _)) _ _ _); (refine' itemD_S ?hx ?h0 ?h1 ?hl ?_); (case hx => ktr_rel); (case h0 => first | decide | omega | exact fmod_lo _ (by decide)); (case h1 => first | decide | omega | exact fmod_hi _ (by decide)); (case hl => first | decide | omega | (simp only [List.length_append, List.length_cons, List.length_nil, List.length_replicate, List.length_map]; omega)); intro _ _))
local macro_rules | `(tactic| walk_at "subscriptTail") => `(tactic| ((with_reducible show wpAny _ _ (subscriptTail _ _ (Value.str _ _) (Value.int _ _)) _ _ _); (refine' itemD_S ?hx ?h0 ?h1 ?hl ?_); (case hx => ktr_rel); (case h0 => first | decide | omega | exact fmod_lo _ (by decide)); (case h1 => first | decide | omega | exact fmod_hi _ (by decide)); (case hl => first | decide | omega | (simp only [List.length_append, List.length_cons, List.length_nil, List.length_replicate, List.length_map]; omega)); intro _ _))
local macro_rules | `(tactic| walk_at "subscriptTail Name Constant str int") => `(tactic| ((with_reducible show wpAny _ _ (subscriptTail _ _ (Value.str _ _) (Value.int 0 _)) _ _ _); (refine' item0_S ?hx ?hl ?_); (case hx => ktr_rel); (case hl => first | decide | omega | (simp only [List.length_append, List.length_cons, List.length_nil, List.length_replicate, List.length_map]; omega)); intro _ _))
local macro_rules | `(tactic| walk_at "subscriptTail") => `(tactic| ((with_reducible show wpAny _ _ (subscriptTail _ _ (Value.str _ _) (Value.int 0 _)) _ _ _); (refine' item0_S ?hx ?hl ?_); (case hx => ktr_rel); (case hl => first | decide | omega | (simp only [List.length_append, List.length_cons, List.length_nil, List.length_replicate, List.length_map]; omega)); intro _ _))
local macro_rules | `(tactic| walk_at "subscriptTail Name Slice str ref") => `(tactic| ((with_reducible show wpAny _ _ (subscriptTail _ (Expr.Slice (some _) none none _) (Value.str _ _) (Value.ref _)) _ _ _); (with_reducible rename Fr _ _ _ _ => F'); (with_reducible rename News _ _ _ _ => N'); (refine' tail_S (s := ⟨_, _, _, _, _⟩) ?hx ?hl F' N' ?_); (case hx => ktr_rel); (case hl => first | decide | omega | (simp only [List.length_append, List.length_cons, List.length_nil, List.length_replicate, List.length_map]; omega)); intro _ _ _ _ _))
local macro_rules | `(tactic| walk_at "subscriptTail") => `(tactic| ((with_reducible show wpAny _ _ (subscriptTail _ (Expr.Slice (some _) none none _) (Value.str _ _) (Value.ref _)) _ _ _); (with_reducible rename Fr _ _ _ _ => F'); (with_reducible rename News _ _ _ _ => N'); (refine' tail_S (s := ⟨_, _, _, _, _⟩) ?hx ?hl F' N' ?_); (case hx => ktr_rel); (case hl => first | decide | omega | (simp only [List.length_append, List.length_cons, List.length_nil, List.length_replicate, List.length_map]; omega)); intro _ _ _ _ _))
local macro_rules | `(tactic| walk_at "call builtin:len cons nil") => `(tactic| ((with_reducible show wpAny _ _ (call (Value.builtin "len") [Value.str _ _]) _ _ _); (refine' len_S ?hx ?hl ?_); (case hx => ktr_rel); (case hl => first | decide | omega | (simp only [List.length_append, List.length_cons, List.length_nil, List.length_replicate, List.length_map]; omega)); intro _ _))
local macro_rules | `(tactic| walk_at "call builtin:len") => `(tactic| ((with_reducible show wpAny _ _ (call (Value.builtin "len") [Value.str _ _]) _ _ _); (refine' len_S ?hx ?hl ?_); (case hx => ktr_rel); (case hl => first | decide | omega | (simp only [List.length_append, List.length_cons, List.length_nil, List.length_replicate, List.length_map]; omega)); intro _ _))
local macro_rules | `(tactic| walk_at "binaryOp Add str str") => `(tactic| ((refine' add_S ?hx ?hy ?hl ?_); (case hx => ktr_rel); (case hy => ktr_rel); (case hl => first | decide | omega | (simp only [List.length_append, List.length_cons, List.length_nil, List.length_replicate, List.length_map]; omega)); intro _ _))
local macro_rules | `(tactic| walk_at "inplaceOp Add str str") => `(tactic| ((refine' iadd_S ?hx ?hy ?hl ?_); (case hx => ktr_rel); (case hy => ktr_rel); (case hl => first | decide | omega | (simp only [List.length_append, List.length_cons, List.length_nil, List.length_replicate, List.length_map]; omega)); intro _ _))
local macro_rules | `(tactic| walk_at "binaryOp Mult str int") => `(tactic| ((refine' mul_S ?hx ?hl ?h0 ?_); (case hx => ktr_rel); (case hl => omega); (case h0 => omega); intro _ _))
local macro_rules | `(tactic| walk_at "compareOp Eq str str") => `(tactic| ((refine' eq_S ?hx ?hy ?_); (case hx => ktr_rel); (case hy => ktr_rel)))
local macro_rules | `(tactic| walk_at "compareOp NotEq str str") => `(tactic| ((refine' ne_S ?hx ?hy ?_); (case hx => ktr_rel); (case hy => ktr_rel)))
local macro_rules | `(tactic| walk_at "compareOp In str str") => `(tactic| ((refine' in_S ?hx ?hy ?_); (case hx => ktr_rel); (case hy => ktr_rel)))
local macro_rules | `(tactic| walk_at "compareOp NotIn str str") => `(tactic| ((refine' notin_S ?hx ?hy ?_); (case hx => ktr_rel); (case hy => ktr_rel)))
local macro_rules | `(tactic| walk_at "truthy str") => `(tactic| ((refine' truthy_S ?hx ?hl ?_); (case hx => ktr_rel); (case hl => first | decide | omega | (simp only [List.length_append, List.length_cons, List.length_nil, List.length_replicate, List.length_map]; omega)); intro _))
local macro_rules | `(tactic| walk_at "call type:int cons nil") => `(tactic| ((with_reducible show wpAny _ _ (call (Value.type "int") [Value.str _ _]) _ _ _); (refine' int_S ?hx ?hc ?_); (case hx => ktr_rel); (case hc => omega); intro _ _))
local macro_rules | `(tactic| walk_at "call type:int") => `(tactic| ((with_reducible show wpAny _ _ (call (Value.type "int") [Value.str _ _]) _ _ _); (refine' int_S ?hx ?hc ?_); (case hx => ktr_rel); (case hc => omega); intro _ _))
local macro_rules | `(tactic| walk_at "compareOp Is bytes ref") => `(tactic| (refine wpAny_is_other (by rfl) (by intro x; cases x) ?_))
local macro_rules | `(tactic| walk_at "truthy str") => `(tactic| first | ((refine truthy_Sn (by with_reducible first | rfl | exact lit_nil) ?_); intro _) | ((refine truthy_Sc (by with_reducible first | rfl | exact lit_star) (by first | decide | omega | (simp only [List.length_append, List.length_cons, List.length_nil, List.length_replicate, List.length_map] at *; omega)) ?_); intro _))

local macro_rules | `(tactic| walk_at "truthy bytes") => `(tactic| (refine truthy_B (by first | omega | (simp only [List.length_append, List.length_cons, List.length_nil, List.length_take, List.length_drop]; omega)) ?_; intro _))
local macro_rules | `(tactic| walk_at "call builtin:len") => `(tactic| ((with_reducible show wpAny _ _ (call (Value.builtin "len") [Value.bytes (List.toArray _) _]) _ _ _); refine len_B (by first | omega | (simp only [List.length_append, List.length_cons, List.length_nil, List.length_take, List.length_drop]; omega)) ?_; intro _ _))
local macro_rules | `(tactic| walk_at "subscriptTail Name str Constant bytes int") => `(tactic| ((with_reducible show wpAny _ _ (subscriptTail _ _ (Value.bytes (List.toArray (_ :: _)) _) (Value.int 0 _)) _ _ _); refine item0_B (by first | omega | (simp only [List.length_append, List.length_cons, List.length_nil] at *; omega)) ?_; intro _ _))
local macro_rules | `(tactic| walk_at "subscriptTail Name Constant bytes int") => `(tactic| ((with_reducible show wpAny _ _ (subscriptTail _ _ (Value.bytes (List.toArray (_ :: _)) _) (Value.int 0 _)) _ _ _); refine item0_B (by first | omega | (simp only [List.length_append, List.length_cons, List.length_nil] at *; omega)) ?_; intro _ _))
local macro_rules | `(tactic| walk_at "subscriptTail") => `(tactic| ((with_reducible show wpAny _ _ (subscriptTail _ _ (Value.bytes (List.toArray (_ :: _)) _) (Value.int 0 _)) _ _ _); refine item0_B (by first | omega | (simp only [List.length_append, List.length_cons, List.length_nil] at *; omega)) ?_; intro _ _))
local macro_rules | `(tactic| walk_at "subscriptTail Name str Slice") => `(tactic| ((with_reducible show wpAny _ _ (subscriptTail _ (Expr.Slice none (some _) none _) (Value.bytes (List.toArray _) _) (Value.ref _)) _ _ _); (with_reducible rename Fr _ _ _ _ => F'); (with_reducible rename News _ _ _ _ => N'); (refine head_B (s := ⟨_, _, _, _, _⟩) F' N' (by first | decide | omega) (by first | omega | (simp only [List.length_append, List.length_cons, List.length_nil, List.length_take, List.length_drop] at *; omega)) ?_); intro _ _ _ _ _))
local macro_rules | `(tactic| walk_at "subscriptTail") => `(tactic| ((with_reducible show wpAny _ _ (subscriptTail _ (Expr.Slice none (some _) none _) (Value.bytes (List.toArray _) _) (Value.ref _)) _ _ _); (with_reducible rename Fr _ _ _ _ => F'); (with_reducible rename News _ _ _ _ => N'); (refine head_B (s := ⟨_, _, _, _, _⟩) F' N' (by first | decide | omega) (by first | omega | (simp only [List.length_append, List.length_cons, List.length_nil, List.length_take, List.length_drop] at *; omega)) ?_); intro _ _ _ _ _))
local macro_rules | `(tactic| walk_at "subscriptTail Name str Slice") => `(tactic| ((with_reducible show wpAny _ _ (subscriptTail _ (Expr.Slice (some _) none none _) (Value.bytes (List.toArray _) _) (Value.ref _)) _ _ _); (with_reducible rename Fr _ _ _ _ => F'); (with_reducible rename News _ _ _ _ => N'); (refine drop_B (s := ⟨_, _, _, _, _⟩) F' N' (by first | decide | omega) (by first | omega | (simp only [List.length_append, List.length_cons, List.length_nil, List.length_take, List.length_drop] at *; omega)) ?_); intro _ _ _ _ _))
local macro_rules | `(tactic| walk_at "subscriptTail") => `(tactic| ((with_reducible show wpAny _ _ (subscriptTail _ (Expr.Slice (some _) none none _) (Value.bytes (List.toArray _) _) (Value.ref _)) _ _ _); (with_reducible rename Fr _ _ _ _ => F'); (with_reducible rename News _ _ _ _ => N'); (refine drop_B (s := ⟨_, _, _, _, _⟩) F' N' (by first | decide | omega) (by first | omega | (simp only [List.length_append, List.length_cons, List.length_nil, List.length_take, List.length_drop] at *; omega)) ?_); intro _ _ _ _ _))
local macro_rules | `(tactic| walk_at "binaryOp Mod str int") => `(tactic| (first | ((with_reducible refine mod_x ?h0 ?h1 ?_); (case h0 => omega); (case h1 => omega); intro _ _) | ((with_reducible refine mod_o ?h0 ?h1 ?_); (case h0 => omega); (case h1 => omega); intro _ _)))
local macro_rules | `(tactic| walk_at "call builtin:bytes.decode") => `(tactic| ((with_reducible refine decode_B ?h0 ?h1 ?_); (case h0 => first | assumption | omega); (case h1 => assumption); intro _ _))
local macro_rules | `(tactic| walk_at "inplaceOp LShift int int") => `(tactic| ((refine shl8 (by omega) ?_); intro _ _))
local macro_rules | `(tactic| walk_at "inplaceOp BitOr int int") => `(tactic| ((refine or8 (by first | assumption | omega) ?_); intro _ _))
local macro_rules | `(tactic| walk_at "truthy bytes") => `(tactic| first | ((with_reducible refine truthy_Bn ?_); intro _) | ((with_reducible refine truthy_Bc ?hl ?_); (case hl => first | decide | omega | (simp only [List.length_append, List.length_cons, List.length_nil, List.length_replicate, List.length_map] at *; omega)); intro _))

local macro_rules | `(tactic| ktr_unf) => `(tactic| repeat' (first | (k_unfold; (try dsimp only)) | (k_end; kc_close) | ((fail_if_success (with_reducible show wpAny _ _ (exec (Stmt.While _ _ _ _) _) _ _ _)); (fail_if_success (with_reducible show wpAny _ _ (exec (Stmt.For _ _ _ _ _) _) _ _ _)); (fail_if_success (with_reducible show wpAny _ _ (eval (Expr.ListComp _ _ _ _) _) _ _ _)); (fail_if_success (with_reducible show wpAny _ _ (exec (Stmt.Assign _ (Expr.ListComp _ _ _ _) _) _) _ _ _)); (fail_if_success (with_reducible show wpAny _ _ (pyIter _) _ _ _)); (fail_if_success (with_reducible show wpAny _ _ (exec (Stmt.If (Expr.Compare _ _ [Expr.Constant (Const.str (Str.ofString "a")) _ _] _) _ _ _) _) _ _ _)); (fail_if_success (with_reducible show LCg.CompSrc _ _ _ _ _ _ _ _ _ _ _ _ _ _)); (first | walk1 | (dsimp only; walk1))) | (leave1; walk_say "STEP leave1"; (try dsimp only)) | fail "no step"))

local macro_rules | `(tactic| k_room) => `(tactic| ktr_room)
local macro_rules | `(tactic| walk_at "loadName") => `(tactic| k_dflt (refine' wpAny_loadName_local ?k ?l (Fr.ns ?F) ?v ?_; (case F => k_asm); (case k => rfl); (case l => rfl); (case v => rfl); k_whole))
local macro_rules | `(tactic| walk_at "call ref") => `(tactic| ((with_reducible show wpAny _ _ (call (Value.ref 402) _) _ _ _); k_dflt (refine' number_spec _ _ _ _ _ _ _ _ _ _ _ _ _ _ _ _ _ _ _ _ _ _ _ ?k1 ?k2 ?k3 ?k4 ?k5 ?kK ?a1 ?a2 ?a3 ?a4 ?a5 ?kd ?ku ?kR; (case k1 => k_asm); (case k2 => k_asm); (case k3 => k_asm); (case k4 => k_asm); (case k5 => k_asm); (case kK => first | exact rfl | assumption); (case a1 => assumption); (case a2 => assumption); (case a3 => assumption); (case a4 => omega); (case a5 => omega); (case kd => ktr_room); (case ku => ktr_units); intro t9 h9 tk9 F9 N9; (try dsimp only); (try k_fold))))
local macro_rules | `(tactic| walk_at "call type:str") => `(tactic| ((with_reducible show wpAny _ _ (call (Value.type "str") [Value.int _ _]) _ _ _); k_dflt (refine' str_I ?h1 ?h2 ?_; (case h1 => omega); (case h2 => omega)); intro _ _))

local macro_rules | `(tactic| walk_at "inplaceOp Add ref ref") => `(tactic| ((with_reducible show wpAny _ _ (inplaceOp Operator.Add (Value.ref _) (Value.ref _)) _ _ _); k_dflt (refine' iadd_list ?F ?N ?b ?ne ?U ?z ?_; (case F => k_asm); (case N => k_asm); (case b => k_mem); (case ne => assumption); (case U => k_upd); (case z => omega)); intro h' F' N'; (try k_sweep)))
local macro_rules | `(tactic| walk_at "inplaceOp Add ref") => `(tactic| ((with_reducible show wpAny _ _ (inplaceOp Operator.Add (Value.ref _) (Value.ref _)) _ _ _); k_dflt (refine' iadd_list ?F ?N ?b ?ne ?U ?z ?_; (case F => k_asm); (case N => k_asm); (case b => k_mem); (case ne => assumption); (case U => k_upd); (case z => omega)); intro h' F' N'; (try k_sweep)))
local macro_rules | `(tactic| walk_at "call ref") => `(tactic| ((with_reducible show wpAny _ _ (call (Value.ref 414) _) _ _ _); k_dflt (refine' item_spec _ _ _ _ _ _ _ _ _ _ _ _ _ _ _ _ _ _ _ _ _ _ _ _ ?k1 ?k2 ?k3 ?k4 ?k5 ?kK ?a1 ?a2 ?a3 ?a4 ?a5 ?a6 ?a7 ?kd ?ku ?kR; (case k1 => k_asm); (case k2 => k_asm); (case k3 => k_asm); (case k4 => k_asm); (case k5 => k_asm); (case kK => first | exact rfl | assumption); (case a1 => k_mem); (case a2 => assumption); (case a3 => assumption); (case a4 => assumption); (case a5 => assumption); (case a6 => omega); (case a7 => omega); (case kd => ktr_room); (case ku => ktr_units); intro t9 h9 tk9 F9 N9; (try dsimp only); (try k_fold))))
local macro_rules | `(tactic| walk_at "ite") => `(tactic| first | (refine ite_neg (by first | omega | (simp only [beq_iff_eq, bne_iff_ne, decide_eq_true_eq, ne_eq]; omega)) ?_) | (refine ite_pos (by first | omega | (simp only [beq_iff_eq, bne_iff_ne, decide_eq_true_eq, ne_eq]; done) | (simp only [beq_iff_eq, bne_iff_ne, decide_eq_true_eq, ne_eq]; omega)) ?_))

local macro_rules | `(tactic| walk_at "subscriptTail") => `(tactic| ((with_reducible show wpAny _ _ (subscriptTail _ _ (Value.ref _) (Value.int _ _)) _ _ _); k_dflt (refine' list_at ?N ?m ?h0 ?h1 ?hx ?_; (case N => k_asm); (case m => k_mem); (case h0 => first | omega | exact fm_lo _ (by omega)); (case h1 => first | omega | (refine Int.lt_trans (fm_hi _ (by omega)) (by omega))); (case hx => assumption))))
local macro_rules | `(tactic| walk_at "subscriptTail Name BinOp ref int") => `(tactic| ((with_reducible show wpAny _ _ (subscriptTail _ _ (Value.ref _) (Value.int _ _)) _ _ _); k_dflt (refine' list_at ?N ?m ?h0 ?h1 ?hx ?_; (case N => k_asm); (case m => k_mem); (case h0 => first | omega | exact fm_lo _ (by omega)); (case h1 => first | omega | (refine Int.lt_trans (fm_hi _ (by omega)) (by omega))); (case hx => assumption))))

def gS (i : Nat) : Stmt := nthS (bodyS gFor) i
def shOf (rep : Bool) (D : Int) (last : Bool) : Bool := rep && last && decide (0 < D.fmod 4) && ((D.fdiv 4).fmod 3 == 0)
def itOf (rep : Bool) (D : Int) : Nat := if rep = true then (D.fmod 4).toNat else 1
theorem ghead_spec : ∀ {w : World} {mean : ExcName → Option Value} {mg mb : Str → Option Value} (dp un : Nat) (gd : Option (List Code)) (a : Addr) (ccd : Value) (outer : List Env) (A₀ : Around) (base h₀ : Heap) (L : Addr) (m : Str → Option Value) (news : List (Addr × Obj)) (s : Shared) (l : Addr) (vs : List Value) (ns : List Int) (b c g tot : Int) (p : Pt) (pa ta oa : Addr) (pvs ovs : List Value) (np no : Nat) (oj om ow : Obj) (vj vm vw : Option Value) (u1 u2 u3 u4 t1 t2 t3 t4 : Tok) (Q : Flow → Shared → Prop) (E : Value → Shared → Prop)
    (_ : Below A₀ base outer h₀) (_ : Fr h₀ L s.heap m) (_ : (hd.heap_39 w.params).In h₀) (_ : Top hd.view_39 (looseW hd.view_39 [Str.ofString "noValue", Str.ofString "Value", Str.ofString "Integer32", Str.ofString "OctetString", Str.ofString "SmiError", Str.ofString "TextualConvention", Str.ofString "HintedString", Str.ofString "HintedInteger", Str.ofString "TestAndIncr", Str.ofString "RowStatus"]) mean mg mb h₀) (_ : dp + 20 < recursionLimit) (_ : un + 200 < cLine) (_ : base.IsList l vs.toArray) (_ : IntsAre vs ns) (_ : ns.length < 2 ^ 62) (_ : News h₀ L s.heap ((L + 1 + 1 + 1, oj) :: (L + 1 + 1, om) :: (L + 1, ow) :: (oa, listOf ovs.toArray no) :: (pa, listOf pvs.toArray np) :: (ta, partTup p u1 u2 u3 u4) :: news))
    (_ : @LT.lt Nat _ (L + 1 + 1 + 1) oa) (_ : @LT.lt Nat _ (L + 1 + 1 + 1) pa) (_ : @Ne Nat pa oa) (_ : @Ne Nat ta oa) (_ : @Ne Nat ta (L + 1)) (_ : @Ne Nat ta (L + 1 + 1)) (_ : OwnOff news [L + 1 + 1 + 1, L + 1 + 1, L + 1, oa])
    (_ : 0 ≤ b) (_ : b ≤ 80) (_ : 0 ≤ g) (_ : g < tot) (_ : tot ≤ 6) (_ : 1 ≤ c) (_ : c ≤ 3) (_ : ovs.length ≤ 900) (_ : pvs[(g.fmod c).toNat]? = some (.ref ta))
    (_ : oj.data = .cell vj) (_ : om.data = .cell vm) (_ : ow.data = .cell vw)
    (_ : Has m [(Str.ofString "script", .ref l), (Str.ofString "base", .int b t1), (Str.ofString "count", .int c t2), (Str.ofString "g", .int g t3), (Str.ofString "total", .int tot t4), (Str.ofString "parts", .ref pa), (Str.ofString "octets", .ref oa)])
    (_ : ∀ (h' : Heap) (tk : Nat) (m' : Str → Option Value) (om' ow' : Obj) (w1 w2 w3 w4 w5 w6 w7 w8 : Tok), Fr h₀ L h' m' → om'.data = .cell (some (.int (numF ns (b + 6 + 2 * g)) w1)) → ow'.data = .cell (some (.int (p.wy : Int) w2)) → News h₀ L h' ((L + 1 + 1 + 1, oj) :: (L + 1 + 1, om') :: (L + 1, ow') :: (oa, listOf ovs.toArray no) :: news) → Has m' [(Str.ofString "length", .int (p.len : Int) w3), (Str.ofString "repeated", .bool p.rep), (Str.ofString "sep", .str (S (sepP p)) w4), (Str.ofString "mark", .str (S (mkP p).toList) w5), (Str.ofString "drawn", .int (numF ns (b + 5 + 2 * g)) w6), (Str.ofString "told", .str (S []) w7), (Str.ofString "items", .int (itOf p.rep (numF ns (b + 5 + 2 * g)) : Int) w8)] → (∀ z, z ≠ Str.ofString "length" → z ≠ Str.ofString "repeated" → z ≠ Str.ofString "sep" → z ≠ Str.ofString "mark" → z ≠ Str.ofString "drawn" → z ≠ Str.ofString "told" → z ≠ Str.ofString "items" → m' z = m z) → Q .next { s with heap := h', toks := tk }),
    wpAny (model Challenge.rw_am6029_01.row.prog w) (ktrTop dp un gd (Str.ofString "law") lScope L a ccd (cellsFrom (L + 1) lScope.names []) outer) (execs [gS 0, gS 1, gS 2, gS 3] (envX (Str.ofString "law") lScope L a ccd (cellsFrom (L + 1) lScope.names []))) Q E s := by
  k_fill
  intro w mean mg mb dp un gd a ccd outer A₀ base h₀ L m news s l vs ns b c g tot p pa ta oa pvs ovs np no oj om ow vj vm vw u1 u2 u3 u4 t1 t2 t3 t4 Q E B F X T0 hd hu hl hi hfit N hoa hpa hpo hto ht1 ht2 hoff hb0 hb1 hg0 hg1 ht6 hc1 hc3 hov hpx hj hm' hw hm hret
  conv => arg 3; arg 1; arg 1; whnf
  conv => arg 3; arg 1; arg 2; arg 1; whnf
  conv => arg 3; arg 1; arg 2; arg 2; arg 1; whnf
  conv => arg 3; arg 1; arg 2; arg 2; arg 2; arg 1; whnf
  rw [← pin_eq hm] at F
  dsimp only [pin] at F
  unfold partTup tupO at N
  ktr_unf
  all_goals
    rename Fr _ _ _ _ => F2
    rename News _ _ _ _ => N2
    rename _ = Data.cell (some (Value.int (ite _ _ _) _)) => d9
    rename _ = Data.cell (some (Value.int (p.wy : Int) _)) => d8
    have hM : ∀ X : Int, (if 0 < ns.length then ns.getD (X.fmod ns.length).toNat 0 + 7 * X else 0 + 7 * X) = numF ns X := by
      intro X
      unfold numF
      split <;> rfl
    rw [hM] at d9
    have hq := fm_lo (numF ns (b + 5 + 2 * g)) (show (0 : Int) < 4 by decide)
    refine hret _ _ _ _ _ _ _ _ _ _ _ _ _ F2 d9 d8 (fun p hp => N2 p ?_) ⟨rfl, by first | exact congrArg (fun x => some (Value.bool x)) (Eq.symm (by assumption)) | rfl, rfl, rfl, rfl, congrArg (fun x => some (Value.str x _)) lit_nil, congrArg (fun x => some (Value.int x _)) ?_, trivial⟩ ?_
    · simp only [List.mem_cons] at hp ⊢
      rcases hp with h | h | h | h | h <;> simp [h]
    · unfold itOf
      first
        | (rw [if_pos (by assumption), Int.toNat_of_nonneg hq])
        | (rw [if_neg (by simp [*])]; rfl)
    · intro z z1 z2 z3 z4 z5 z6 z7
      have y1 := congrFun (pin_eq hm) z
      simp only [pin] at y1
      simp only [z1, z2, z3, z4, z5, z6, z7, if_false] at y1 ⊢
      exact y1

end
section
theorem freshL9 : True := by w_top off; exact True.intro
local macro_rules | `(tactic| walk_at "pad of mine") => `(tactic| fail "a pad")


local macro_rules | `(tactic| ktr_rel) => `(tactic| with_reducible first | rfl | assumption | exact lit_fig | exact lit_zero | exact lit_nil | exact lit_star | exact lit_dots | exact lit_coms | exact lit_xdoa | exact lit_dig | exact lit_a | exact lit_t | exact lit_x | exact lit_d | exact lit_o | exact lit_B | exact lit_integer | exact lit_string | exact lit_ascii | exact lit_ignore | exact lit_f02x | exact lit_f03o | exact lit_fd | exact lit_b | fail "no S")
local macro_rules | `(tactic| ktr_unf) => `(tactic| repeat' (first | (k_unfold; (try dsimp only)) | (k_end; kc_close) | ((fail_if_success (with_reducible show wpAny _ _ (exec (Stmt.While _ _ _ _) _) _ _ _)); (fail_if_success (with_reducible show wpAny _ _ (exec (Stmt.For _ _ _ _ _) _) _ _ _)); (fail_if_success (with_reducible show wpAny _ _ (eval (Expr.ListComp _ _ _ _) _) _ _ _)); (fail_if_success (with_reducible show wpAny _ _ (exec (Stmt.Assign _ (Expr.ListComp _ _ _ _) _) _) _ _ _)); (fail_if_success (with_reducible show wpAny _ _ (pyIter _) _ _ _)); (fail_if_success (with_reducible show LCg.CompSrc _ _ _ _ _ _ _ _ _ _ _ _ _ _)); (first | walk1 | (dsimp only; walk1))) | (leave1; walk_say "STEP leave1"; (try dsimp only)) | fail "no step"))
local macro_rules | `(tactic| walk_at "subscriptTail Constant str BinOp") => `(tactic| ((with_reducible show wpAny _ _ (subscriptTail _ _ (Value.str _ _) (Value.int _ _)) _ _ _); (refine' itemD_S ?hx ?h0 ?h1 ?hl ?_); (case hx => ktr_rel); (case h0 => first | decide | omega | exact fmod_lo _ (by decide)); (case h1 => first | decide | omega | exact fmod_hi _ (by decide)); (case hl => first | decide | omega | (simp only [List.length_append, List.length_cons, List.length_nil, List.length_replicate, List.length_map]; omega)); intro _ _))
local macro_rules | `(tactic| walk_at "subscriptTail") => `(tactic| ((with_reducible show wpAny _ _ (subscriptTail _ _ (Value.str _ _) (Value.int _ _)) _ _ _); (refine' itemD_S ?hx ?h0 ?h1 ?hl ?_); (case hx => ktr_rel); (case h0 => first | decide | omega | exact fmod_lo _ (by decide)); (case h1 => first | decide | omega | exact fmod_hi _ (by decide)); (case hl => first | decide | omega | (simp only [List.length_append, List.length_cons, List.length_nil, List.length_replicate, List.length_map]; omega)); intro _ _))
local macro_rules | `(tactic| walk_at "subscriptTail Name Constant str int") => `(tactic| ((with_reducible show wpAny _ _ (subscriptTail _ _ (Value.str _ _) (Value.int 0 _)) _ _ _); (refine' item0_S ?hx ?hl ?_); (case hx => ktr_rel); (case hl => first | decide | omega | (simp only [List.length_append, List.length_cons, List.length_nil, List.length_replicate, List.length_map]; omega)); intro _ _))
local macro_rules | `(tactic| walk_at "subscriptTail") => `(tactic| ((with_reducible show wpAny _ _ (subscriptTail _ _ (Value.str _ _) (Value.int 0 _)) _ _ _); (refine' item0_S ?hx ?hl ?_); (case hx => ktr_rel); (case hl => first | decide | omega | (simp only [List.length_append, List.length_cons, List.length_nil, List.length_replicate, List.length_map]; omega)); intro _ _))
local macro_rules | `(tactic| walk_at "subscriptTail Name Slice str ref") => `(tactic| ((with_reducible show wpAny _ _ (subscriptTail _ (Expr.Slice (some _) none none _) (Value.str _ _) (Value.ref _)) _ _ _); (with_reducible rename Fr _ _ _ _ => F'); (with_reducible rename News _ _ _ _ => N'); (refine' tail_S (s := ⟨_, _, _, _, _⟩) ?hx ?hl F' N' ?_); (case hx => ktr_rel); (case hl => first | decide | omega | (simp only [List.length_append, List.length_cons, List.length_nil, List.length_replicate, List.length_map]; omega)); intro _ _ _ _ _))
local macro_rules | `(tactic| walk_at "subscriptTail") => `(tactic| ((with_reducible show wpAny _ _ (subscriptTail _ (Expr.Slice (some _) none none _) (Value.str _ _) (Value.ref _)) _ _ _); (with_reducible rename Fr _ _ _ _ => F'); (with_reducible rename News _ _ _ _ => N'); (refine' tail_S (s := ⟨_, _, _, _, _⟩) ?hx ?hl F' N' ?_); (case hx => ktr_rel); (case hl => first | decide | omega | (simp only [List.length_append, List.length_cons, List.length_nil, List.length_replicate, List.length_map]; omega)); intro _ _ _ _ _))
local macro_rules | `(tactic| walk_at "call builtin:len cons nil") => `(tactic| ((with_reducible show wpAny _ _ (call (Value.builtin "len") [Value.str _ _]) _ _ _); (refine' len_S ?hx ?hl ?_); (case hx => ktr_rel); (case hl => first | decide | omega | (simp only [List.length_append, List.length_cons, List.length_nil, List.length_replicate, List.length_map]; omega)); intro _ _))
local macro_rules | `(tactic| walk_at "call builtin:len") => `(tactic| ((with_reducible show wpAny _ _ (call (Value.builtin "len") [Value.str _ _]) _ _ _); (refine' len_S ?hx ?hl ?_); (case hx => ktr_rel); (case hl => first | decide | omega | (simp only [List.length_append, List.length_cons, List.length_nil, List.length_replicate, List.length_map]; omega)); intro _ _))
local macro_rules | `(tactic| walk_at "binaryOp Add str str") => `(tactic| ((refine' add_S ?hx ?hy ?hl ?_); (case hx => ktr_rel); (case hy => ktr_rel); (case hl => first | decide | omega | (simp only [List.length_append, List.length_cons, List.length_nil, List.length_replicate, List.length_map]; omega)); intro _ _))
local macro_rules | `(tactic| walk_at "inplaceOp Add str str") => `(tactic| ((refine' iadd_S ?hx ?hy ?hl ?_); (case hx => ktr_rel); (case hy => ktr_rel); (case hl => first | decide | omega | (simp only [List.length_append, List.length_cons, List.length_nil, List.length_replicate, List.length_map]; omega)); intro _ _))
local macro_rules | `(tactic| walk_at "binaryOp Mult str int") => `(tactic| ((refine' mul_S ?hx ?hl ?h0 ?_); (case hx => ktr_rel); (case hl => omega); (case h0 => omega); intro _ _))
local macro_rules | `(tactic| walk_at "compareOp Eq str str") => `(tactic| ((refine' eq_S ?hx ?hy ?_); (case hx => ktr_rel); (case hy => ktr_rel)))
local macro_rules | `(tactic| walk_at "compareOp NotEq str str") => `(tactic| ((refine' ne_S ?hx ?hy ?_); (case hx => ktr_rel); (case hy => ktr_rel)))
local macro_rules | `(tactic| walk_at "compareOp In str str") => `(tactic| ((refine' in_S ?hx ?hy ?_); (case hx => ktr_rel); (case hy => ktr_rel)))
local macro_rules | `(tactic| walk_at "compareOp NotIn str str") => `(tactic| ((refine' notin_S ?hx ?hy ?_); (case hx => ktr_rel); (case hy => ktr_rel)))
local macro_rules | `(tactic| walk_at "truthy str") => `(tactic| ((refine' truthy_S ?hx ?hl ?_); (case hx => ktr_rel); (case hl => first | decide | omega | (simp only [List.length_append, List.length_cons, List.length_nil, List.length_replicate, List.length_map]; omega)); intro _))
local macro_rules | `(tactic| walk_at "call type:int cons nil") => `(tactic| ((with_reducible show wpAny _ _ (call (Value.type "int") [Value.str _ _]) _ _ _); (refine' int_S ?hx ?hc ?_); (case hx => ktr_rel); (case hc => omega); intro _ _))
local macro_rules | `(tactic| walk_at "call type:int") => `(tactic| ((with_reducible show wpAny _ _ (call (Value.type "int") [Value.str _ _]) _ _ _); (refine' int_S ?hx ?hc ?_); (case hx => ktr_rel); (case hc => omega); intro _ _))
local macro_rules | `(tactic| walk_at "compareOp Is bytes ref") => `(tactic| (refine wpAny_is_other (by rfl) (by intro x; cases x) ?_))
local macro_rules | `(tactic| walk_at "truthy str") => `(tactic| first | ((refine truthy_Sn (by with_reducible first | rfl | exact lit_nil) ?_); intro _) | ((refine truthy_Sc (by with_reducible first | rfl | exact lit_star) (by first | decide | omega | (simp only [List.length_append, List.length_cons, List.length_nil, List.length_replicate, List.length_map] at *; omega)) ?_); intro _))

local macro_rules | `(tactic| walk_at "truthy bytes") => `(tactic| (refine truthy_B (by first | omega | (simp only [List.length_append, List.length_cons, List.length_nil, List.length_take, List.length_drop]; omega)) ?_; intro _))
local macro_rules | `(tactic| walk_at "call builtin:len") => `(tactic| ((with_reducible show wpAny _ _ (call (Value.builtin "len") [Value.bytes (List.toArray _) _]) _ _ _); refine len_B (by first | omega | (simp only [List.length_append, List.length_cons, List.length_nil, List.length_take, List.length_drop]; omega)) ?_; intro _ _))
local macro_rules | `(tactic| walk_at "subscriptTail Name str Constant bytes int") => `(tactic| ((with_reducible show wpAny _ _ (subscriptTail _ _ (Value.bytes (List.toArray (_ :: _)) _) (Value.int 0 _)) _ _ _); refine item0_B (by first | omega | (simp only [List.length_append, List.length_cons, List.length_nil] at *; omega)) ?_; intro _ _))
local macro_rules | `(tactic| walk_at "subscriptTail Name Constant bytes int") => `(tactic| ((with_reducible show wpAny _ _ (subscriptTail _ _ (Value.bytes (List.toArray (_ :: _)) _) (Value.int 0 _)) _ _ _); refine item0_B (by first | omega | (simp only [List.length_append, List.length_cons, List.length_nil] at *; omega)) ?_; intro _ _))
local macro_rules | `(tactic| walk_at "subscriptTail") => `(tactic| ((with_reducible show wpAny _ _ (subscriptTail _ _ (Value.bytes (List.toArray (_ :: _)) _) (Value.int 0 _)) _ _ _); refine item0_B (by first | omega | (simp only [List.length_append, List.length_cons, List.length_nil] at *; omega)) ?_; intro _ _))
local macro_rules | `(tactic| walk_at "subscriptTail Name str Slice") => `(tactic| ((with_reducible show wpAny _ _ (subscriptTail _ (Expr.Slice none (some _) none _) (Value.bytes (List.toArray _) _) (Value.ref _)) _ _ _); (with_reducible rename Fr _ _ _ _ => F'); (with_reducible rename News _ _ _ _ => N'); (refine head_B (s := ⟨_, _, _, _, _⟩) F' N' (by first | decide | omega) (by first | omega | (simp only [List.length_append, List.length_cons, List.length_nil, List.length_take, List.length_drop] at *; omega)) ?_); intro _ _ _ _ _))
local macro_rules | `(tactic| walk_at "subscriptTail") => `(tactic| ((with_reducible show wpAny _ _ (subscriptTail _ (Expr.Slice none (some _) none _) (Value.bytes (List.toArray _) _) (Value.ref _)) _ _ _); (with_reducible rename Fr _ _ _ _ => F'); (with_reducible rename News _ _ _ _ => N'); (refine head_B (s := ⟨_, _, _, _, _⟩) F' N' (by first | decide | omega) (by first | omega | (simp only [List.length_append, List.length_cons, List.length_nil, List.length_take, List.length_drop] at *; omega)) ?_); intro _ _ _ _ _))
local macro_rules | `(tactic| walk_at "subscriptTail Name str Slice") => `(tactic| ((with_reducible show wpAny _ _ (subscriptTail _ (Expr.Slice (some _) none none _) (Value.bytes (List.toArray _) _) (Value.ref _)) _ _ _); (with_reducible rename Fr _ _ _ _ => F'); (with_reducible rename News _ _ _ _ => N'); (refine drop_B (s := ⟨_, _, _, _, _⟩) F' N' (by first | decide | omega) (by first | omega | (simp only [List.length_append, List.length_cons, List.length_nil, List.length_take, List.length_drop] at *; omega)) ?_); intro _ _ _ _ _))
local macro_rules | `(tactic| walk_at "subscriptTail") => `(tactic| ((with_reducible show wpAny _ _ (subscriptTail _ (Expr.Slice (some _) none none _) (Value.bytes (List.toArray _) _) (Value.ref _)) _ _ _); (with_reducible rename Fr _ _ _ _ => F'); (with_reducible rename News _ _ _ _ => N'); (refine drop_B (s := ⟨_, _, _, _, _⟩) F' N' (by first | decide | omega) (by first | omega | (simp only [List.length_append, List.length_cons, List.length_nil, List.length_take, List.length_drop] at *; omega)) ?_); intro _ _ _ _ _))
local macro_rules | `(tactic| walk_at "binaryOp Mod str int") => `(tactic| (first | ((with_reducible refine mod_x ?h0 ?h1 ?_); (case h0 => omega); (case h1 => omega); intro _ _) | ((with_reducible refine mod_o ?h0 ?h1 ?_); (case h0 => omega); (case h1 => omega); intro _ _)))
local macro_rules | `(tactic| walk_at "call builtin:bytes.decode") => `(tactic| ((with_reducible refine decode_B ?h0 ?h1 ?_); (case h0 => first | assumption | omega); (case h1 => assumption); intro _ _))
local macro_rules | `(tactic| walk_at "inplaceOp LShift int int") => `(tactic| ((refine shl8 (by omega) ?_); intro _ _))
local macro_rules | `(tactic| walk_at "inplaceOp BitOr int int") => `(tactic| ((refine or8 (by first | assumption | omega) ?_); intro _ _))
local macro_rules | `(tactic| walk_at "truthy bytes") => `(tactic| first | ((with_reducible refine truthy_Bn ?_); intro _) | ((with_reducible refine truthy_Bc ?hl ?_); (case hl => first | decide | omega | (simp only [List.length_append, List.length_cons, List.length_nil, List.length_replicate, List.length_map] at *; omega)); intro _))

local macro_rules | `(tactic| ktr_unf) => `(tactic| repeat' (first | (k_unfold; (try dsimp only)) | (k_end; kc_close) | ((fail_if_success (with_reducible show wpAny _ _ (exec (Stmt.While _ _ _ _) _) _ _ _)); (fail_if_success (with_reducible show wpAny _ _ (exec (Stmt.For _ _ _ _ _) _) _ _ _)); (fail_if_success (with_reducible show wpAny _ _ (eval (Expr.ListComp _ _ _ _) _) _ _ _)); (fail_if_success (with_reducible show wpAny _ _ (exec (Stmt.Assign _ (Expr.ListComp _ _ _ _) _) _) _ _ _)); (fail_if_success (with_reducible show wpAny _ _ (pyIter _) _ _ _)); (fail_if_success (with_reducible show wpAny _ _ (exec (Stmt.If (Expr.Compare _ _ [Expr.Constant (Const.str (Str.ofString "a")) _ _] _) _ _ _) _) _ _ _)); (fail_if_success (with_reducible show LCg.CompSrc _ _ _ _ _ _ _ _ _ _ _ _ _ _)); (first | walk1 | (dsimp only; walk1))) | (leave1; walk_say "STEP leave1"; (try dsimp only)) | fail "no step"))

local macro_rules | `(tactic| k_room) => `(tactic| ktr_room)
local macro_rules | `(tactic| walk_at "loadName") => `(tactic| k_dflt (refine' wpAny_loadName_local ?k ?l (Fr.ns ?F) ?v ?_; (case F => k_asm); (case k => rfl); (case l => rfl); (case v => rfl); k_whole))
local macro_rules | `(tactic| walk_at "call ref") => `(tactic| ((with_reducible show wpAny _ _ (call (Value.ref 402) _) _ _ _); k_dflt (refine' number_spec _ _ _ _ _ _ _ _ _ _ _ _ _ _ _ _ _ _ _ _ _ _ _ ?k1 ?k2 ?k3 ?k4 ?k5 ?kK ?a1 ?a2 ?a3 ?a4 ?a5 ?kd ?ku ?kR; (case k1 => k_asm); (case k2 => k_asm); (case k3 => k_asm); (case k4 => k_asm); (case k5 => k_asm); (case kK => first | exact rfl | assumption); (case a1 => assumption); (case a2 => assumption); (case a3 => assumption); (case a4 => omega); (case a5 => omega); (case kd => ktr_room); (case ku => ktr_units); intro t9 h9 tk9 F9 N9; (try dsimp only); (try k_fold))))
local macro_rules | `(tactic| walk_at "call type:str") => `(tactic| ((with_reducible show wpAny _ _ (call (Value.type "str") [Value.int _ _]) _ _ _); k_dflt (refine' str_I ?h1 ?h2 ?_; (case h1 => omega); (case h2 => omega)); intro _ _))

local macro_rules | `(tactic| walk_at "inplaceOp Add ref ref") => `(tactic| ((with_reducible show wpAny _ _ (inplaceOp Operator.Add (Value.ref _) (Value.ref _)) _ _ _); k_dflt (refine' iadd_list ?F ?N ?b ?ne ?U ?z ?_; (case F => k_asm); (case N => k_asm); (case b => k_mem); (case ne => assumption); (case U => k_upd); (case z => omega)); intro h' F' N'; (try k_sweep)))
local macro_rules | `(tactic| walk_at "inplaceOp Add ref") => `(tactic| ((with_reducible show wpAny _ _ (inplaceOp Operator.Add (Value.ref _) (Value.ref _)) _ _ _); k_dflt (refine' iadd_list ?F ?N ?b ?ne ?U ?z ?_; (case F => k_asm); (case N => k_asm); (case b => k_mem); (case ne => assumption); (case U => k_upd); (case z => omega)); intro h' F' N'; (try k_sweep)))
local macro_rules | `(tactic| walk_at "call ref") => `(tactic| ((with_reducible show wpAny _ _ (call (Value.ref 414) _) _ _ _); k_dflt (refine' item_spec _ _ _ _ _ _ _ _ _ _ _ _ _ _ _ _ _ _ _ _ _ _ _ _ ?k1 ?k2 ?k3 ?k4 ?k5 ?kK ?a1 ?a2 ?a3 ?a4 ?a5 ?a6 ?a7 ?kd ?ku ?kR; (case k1 => k_asm); (case k2 => k_asm); (case k3 => k_asm); (case k4 => k_asm); (case k5 => k_asm); (case kK => first | exact rfl | assumption); (case a1 => k_mem); (case a2 => assumption); (case a3 => assumption); (case a4 => assumption); (case a5 => assumption); (case a6 => omega); (case a7 => omega); (case kd => ktr_room); (case ku => ktr_units); intro t9 h9 tk9 F9 N9; (try dsimp only); (try k_fold))))
local macro_rules | `(tactic| walk_at "ite") => `(tactic| first | (refine ite_neg (by first | omega | (simp only [beq_iff_eq, bne_iff_ne, decide_eq_true_eq, ne_eq]; omega)) ?_) | (refine ite_pos (by first | omega | (simp only [beq_iff_eq, bne_iff_ne, decide_eq_true_eq, ne_eq]; done) | (simp only [beq_iff_eq, bne_iff_ne, decide_eq_true_eq, ne_eq]; omega)) ?_))

local macro_rules | `(tactic| walk_at "subscriptTail") => `(tactic| ((with_reducible show wpAny _ _ (subscriptTail _ _ (Value.ref _) (Value.int _ _)) _ _ _); k_dflt (refine' list_at ?N ?m ?h0 ?h1 ?hx ?_; (case N => k_asm); (case m => k_mem); (case h0 => first | omega | exact fm_lo _ (by omega)); (case h1 => first | omega | (refine Int.lt_trans (fm_hi _ (by omega)) (by omega))); (case hx => assumption))))
local macro_rules | `(tactic| walk_at "subscriptTail Name BinOp ref int") => `(tactic| ((with_reducible show wpAny _ _ (subscriptTail _ _ (Value.ref _) (Value.int _ _)) _ _ _); k_dflt (refine' list_at ?N ?m ?h0 ?h1 ?hx ?_; (case N => k_asm); (case m => k_mem); (case h0 => first | omega | exact fm_lo _ (by omega)); (case h1 => first | omega | (refine Int.lt_trans (fm_hi _ (by omega)) (by omega))); (case hx => assumption))))

def shO (rep : Bool) (it : Nat) (D : Int) (last : Bool) : Bool := rep && last && decide (0 < it) && ((D.fdiv 4).fmod 3 == 0)
theorem gshort_spec : ∀ {w : World} {mean : ExcName → Option Value} {mg mb : Str → Option Value} (dp un : Nat) (gd : Option (List Code)) (a : Addr) (ccd : Value) (outer : List Env) (A₀ : Around) (base h₀ : Heap) (L : Addr) (m : Str → Option Value) (news : List (Addr × Obj)) (s : Shared) (rep : Bool) (it : Nat) (D g tot : Int) (oa : Addr) (ovs : List Value) (no : Nat) (oj om ow : Obj) (vj vm vw : Option Value) (t1 t2 t3 t4 : Tok) (Q : Flow → Shared → Prop) (E : Value → Shared → Prop)
    (_ : Below A₀ base outer h₀) (_ : Fr h₀ L s.heap m) (_ : (hd.heap_39 w.params).In h₀) (_ : Top hd.view_39 (looseW hd.view_39 [Str.ofString "noValue", Str.ofString "Value", Str.ofString "Integer32", Str.ofString "OctetString", Str.ofString "SmiError", Str.ofString "TextualConvention", Str.ofString "HintedString", Str.ofString "HintedInteger", Str.ofString "TestAndIncr", Str.ofString "RowStatus"]) mean mg mb h₀) (_ : dp + 20 < recursionLimit) (_ : un + 200 < cLine) (_ : News h₀ L s.heap ((L + 1 + 1 + 1, oj) :: (L + 1 + 1, om) :: (L + 1, ow) :: (oa, listOf ovs.toArray no) :: news))
    (_ : @LT.lt Nat _ (L + 1 + 1 + 1) oa) (_ : OwnOff news [L + 1 + 1 + 1, L + 1 + 1, L + 1, oa])
    (_ : it ≤ 3) (_ : ovs.length ≤ 900)
    (_ : oj.data = .cell vj) (_ : om.data = .cell vm) (_ : ow.data = .cell vw)
    (_ : Has m [(Str.ofString "repeated", .bool rep), (Str.ofString "items", .int (it : Int) t1), (Str.ofString "drawn", .int D t2), (Str.ofString "g", .int g t3), (Str.ofString "total", .int tot t4), (Str.ofString "octets", .ref oa)])
    (_ : ∀ (h' : Heap) (tk : Nat) (m' : Str → Option Value) (ys : List Value) (no' : Nat), Fr h₀ L h' m' → News h₀ L h' ((L + 1 + 1 + 1, oj) :: (L + 1 + 1, om) :: (L + 1, ow) :: (oa, listOf (ovs ++ ys).toArray no') :: news) → IntsAre ys (if rep = true then [(it : Int)] else []) → Has m' [(Str.ofString "short", .bool (shO rep it D (decide (g = tot - 1))))] → (∀ z, z ≠ Str.ofString "short" → m' z = m z) → Q .next { s with heap := h', toks := tk }),
    wpAny (model Challenge.rw_am6029_01.row.prog w) (ktrTop dp un gd (Str.ofString "law") lScope L a ccd (cellsFrom (L + 1) lScope.names []) outer) (execs [gS 4, gS 5] (envX (Str.ofString "law") lScope L a ccd (cellsFrom (L + 1) lScope.names []))) Q E s := by
  k_fill
  intro w mean mg mb dp un gd a ccd outer A₀ base h₀ L m news s rep it D g tot oa ovs no oj om ow vj vm vw t1 t2 t3 t4 Q E B F X T0 hd hu N hoa hoff hit hov hj hm' hw hm hret
  conv => arg 3; arg 1; arg 1; whnf
  conv => arg 3; arg 1; arg 2; arg 1; whnf
  rw [← pin_eq hm] at F
  dsimp only [pin] at F
  have fin : ∀ (b : Bool) z, z ≠ Str.ofString "short" → pin m [(Str.ofString "short", .bool b), (Str.ofString "repeated", .bool rep), (Str.ofString "items", .int (it : Int) t1), (Str.ofString "drawn", .int D t2), (Str.ofString "g", .int g t3), (Str.ofString "total", .int tot t4), (Str.ofString "octets", .ref oa)] z = m z := by
    intro b z z1
    have y1 := congrFun (pin_eq hm) z
    simp only [pin] at y1 ⊢
    simp only [z1, if_false]
    exact y1
  clear hm
  rcases rep with _ | _
  · have hsh : shO false it D (decide (g = tot - 1)) = false := rfl
    rw [hsh] at hret
    ktr_unf
    rename Fr _ _ _ _ => F2
    rename News _ _ _ _ => N2
    have hret2 := fun h' tk m' => hret h' tk m' [] no
    rw [List.append_nil] at hret2
    exact hret2 _ _ _ F2 N2 .nil ⟨rfl, trivial⟩ (fin false)
  · rcases (by omega : g = tot - 1 ∨ g ≠ tot - 1) with h1 | h1
    · rcases (by omega : it = 0 ∨ 0 < it) with h2 | h2
      · have hsh : shO true it D (decide (g = tot - 1)) = false := by unfold shO; rw [h2]; simp
        rw [hsh] at hret
        ktr_unf
        rename Fr _ _ _ _ => F2
        rename News _ _ _ _ => N2
        rw [push_l] at N2
        exact hret _ _ _ _ _ F2 N2 (.cons _ _ .nil) ⟨congrArg (fun b => some (Value.bool b)) (by simp [h2]), trivial⟩ (fin _)
      · have hsh : shO true it D (decide (g = tot - 1)) = ((D.fdiv 4).fmod 3 == 0) := by unfold shO; simp [h1, h2]
        rw [hsh] at hret
        ktr_unf
        rename Fr _ _ _ _ => F2
        rename News _ _ _ _ => N2
        rw [push_l] at N2
        exact hret _ _ _ _ _ F2 N2 (.cons _ _ .nil) ⟨rfl, trivial⟩ (fin _)
    · have hsh : shO true it D (decide (g = tot - 1)) = false := by unfold shO; simp [h1]
      rw [hsh] at hret
      ktr_unf
      rename Fr _ _ _ _ => F2
      rename News _ _ _ _ => N2
      rw [push_l] at N2
      exact hret _ _ _ _ _ F2 N2 (.cons _ _ .nil) ⟨congrArg (fun b => some (Value.bool b)) (by simp [h1]), trivial⟩ (fin _)

end
section
theorem freshL10 : True := by w_top off; exact True.intro

local macro_rules | `(tactic| ktr_rel) => `(tactic| with_reducible first | rfl | assumption | exact lit_fig | exact lit_zero | exact lit_nil | exact lit_star | exact lit_dots | exact lit_coms | exact lit_xdoa | exact lit_dig | exact lit_a | exact lit_t | exact lit_x | exact lit_d | exact lit_o | exact lit_B | exact lit_integer | exact lit_string | exact lit_ascii | exact lit_ignore | exact lit_f02x | exact lit_f03o | exact lit_fd | exact lit_b | fail "no S")
local macro_rules | `(tactic| ktr_unf) => `(tactic| repeat' (first | (k_unfold; (try dsimp only)) | (k_end; kc_close) | ((fail_if_success (with_reducible show wpAny _ _ (exec (Stmt.While _ _ _ _) _) _ _ _)); (fail_if_success (with_reducible show wpAny _ _ (exec (Stmt.For _ _ _ _ _) _) _ _ _)); (fail_if_success (with_reducible show wpAny _ _ (eval (Expr.ListComp _ _ _ _) _) _ _ _)); (fail_if_success (with_reducible show wpAny _ _ (exec (Stmt.Assign _ (Expr.ListComp _ _ _ _) _) _) _ _ _)); (fail_if_success (with_reducible show wpAny _ _ (pyIter _) _ _ _)); (fail_if_success (with_reducible show LCg.CompSrc _ _ _ _ _ _ _ _ _ _ _ _ _ _)); (first | walk1 | (dsimp only; walk1))) | (leave1; walk_say "STEP leave1"; (try dsimp only)) | fail "no step"))
local macro_rules | `(tactic| walk_at "subscriptTail Constant str BinOp") => `(tactic| ((with_reducible show wpAny _ _ (subscriptTail _ _ (Value.str _ _) (Value.int _ _)) _ _ _); (refine' itemD_S ?hx ?h0 ?h1 ?hl ?_); (case hx => ktr_rel); (case h0 => first | decide | omega | exact fmod_lo _ (by decide)); (case h1 => first | decide | omega | exact fmod_hi _ (by decide)); (case hl => first | decide | omega | (simp only [List.length_append, List.length_cons, List.length_nil, List.length_replicate, List.length_map]; omega)); intro _ _))
local macro_rules | `(tactic| walk_at "subscriptTail") => `(tactic| ((with_reducible show wpAny _ _ (subscriptTail _ _ (Value.str _ _) (Value.int _ _)) _ _ _); (refine' itemD_S ?hx ?h0 ?h1 ?hl ?_); (case hx => ktr_rel); (case h0 => first | decide | omega | exact fmod_lo _ (by decide)); (case h1 => first | decide | omega | exact fmod_hi _ (by decide)); (case hl => first | decide | omega | (simp only [List.length_append, List.length_cons, List.length_nil, List.length_replicate, List.length_map]; omega)); intro _ _))
local macro_rules | `(tactic| walk_at "subscriptTail Name Constant str int") => `(tactic| ((with_reducible show wpAny _ _ (subscriptTail _ _ (Value.str _ _) (Value.int 0 _)) _ _ _); (refine' item0_S ?hx ?hl ?_); (case hx => ktr_rel); (case hl => first | decide | omega | (simp only [List.length_append, List.length_cons, List.length_nil, List.length_replicate, List.length_map]; omega)); intro _ _))
local macro_rules | `(tactic| walk_at "subscriptTail") => `(tactic| ((with_reducible show wpAny _ _ (subscriptTail _ _ (Value.str _ _) (Value.int 0 _)) _ _ _); (refine' item0_S ?hx ?hl ?_); (case hx => ktr_rel); (case hl => first | decide | omega | (simp only [List.length_append, List.length_cons, List.length_nil, List.length_replicate, List.length_map]; omega)); intro _ _))
local macro_rules | `(tactic| walk_at "subscriptTail Name Slice str ref") => `(tactic| ((with_reducible show wpAny _ _ (subscriptTail _ (Expr.Slice (some _) none none _) (Value.str _ _) (Value.ref _)) _ _ _); (with_reducible rename Fr _ _ _ _ => F'); (with_reducible rename News _ _ _ _ => N'); (refine' tail_S (s := ⟨_, _, _, _, _⟩) ?hx ?hl F' N' ?_); (case hx => ktr_rel); (case hl => first | decide | omega | (simp only [List.length_append, List.length_cons, List.length_nil, List.length_replicate, List.length_map]; omega)); intro _ _ _ _ _))
local macro_rules | `(tactic| walk_at "subscriptTail") => `(tactic| ((with_reducible show wpAny _ _ (subscriptTail _ (Expr.Slice (some _) none none _) (Value.str _ _) (Value.ref _)) _ _ _); (with_reducible rename Fr _ _ _ _ => F'); (with_reducible rename News _ _ _ _ => N'); (refine' tail_S (s := ⟨_, _, _, _, _⟩) ?hx ?hl F' N' ?_); (case hx => ktr_rel); (case hl => first | decide | omega | (simp only [List.length_append, List.length_cons, List.length_nil, List.length_replicate, List.length_map]; omega)); intro _ _ _ _ _))
local macro_rules | `(tactic| walk_at "call builtin:len cons nil") => `(tactic| ((with_reducible show wpAny _ _ (call (Value.builtin "len") [Value.str _ _]) _ _ _); (refine' len_S ?hx ?hl ?_); (case hx => ktr_rel); (case hl => first | decide | omega | (simp only [List.length_append, List.length_cons, List.length_nil, List.length_replicate, List.length_map]; omega)); intro _ _))
local macro_rules | `(tactic| walk_at "call builtin:len") => `(tactic| ((with_reducible show wpAny _ _ (call (Value.builtin "len") [Value.str _ _]) _ _ _); (refine' len_S ?hx ?hl ?_); (case hx => ktr_rel); (case hl => first | decide | omega | (simp only [List.length_append, List.length_cons, List.length_nil, List.length_replicate, List.length_map]; omega)); intro _ _))
local macro_rules | `(tactic| walk_at "binaryOp Add str str") => `(tactic| ((refine' add_S ?hx ?hy ?hl ?_); (case hx => ktr_rel); (case hy => ktr_rel); (case hl => first | decide | omega | (simp only [List.length_append, List.length_cons, List.length_nil, List.length_replicate, List.length_map]; omega)); intro _ _))
local macro_rules | `(tactic| walk_at "inplaceOp Add str str") => `(tactic| ((refine' iadd_S ?hx ?hy ?hl ?_); (case hx => ktr_rel); (case hy => ktr_rel); (case hl => first | decide | omega | (simp only [List.length_append, List.length_cons, List.length_nil, List.length_replicate, List.length_map]; omega)); intro _ _))
local macro_rules | `(tactic| walk_at "binaryOp Mult str int") => `(tactic| ((refine' mul_S ?hx ?hl ?h0 ?_); (case hx => ktr_rel); (case hl => omega); (case h0 => omega); intro _ _))
local macro_rules | `(tactic| walk_at "compareOp Eq str str") => `(tactic| ((refine' eq_S ?hx ?hy ?_); (case hx => ktr_rel); (case hy => ktr_rel)))
local macro_rules | `(tactic| walk_at "compareOp NotEq str str") => `(tactic| ((refine' ne_S ?hx ?hy ?_); (case hx => ktr_rel); (case hy => ktr_rel)))
local macro_rules | `(tactic| walk_at "compareOp In str str") => `(tactic| ((refine' in_S ?hx ?hy ?_); (case hx => ktr_rel); (case hy => ktr_rel)))
local macro_rules | `(tactic| walk_at "compareOp NotIn str str") => `(tactic| ((refine' notin_S ?hx ?hy ?_); (case hx => ktr_rel); (case hy => ktr_rel)))
local macro_rules | `(tactic| walk_at "truthy str") => `(tactic| ((refine' truthy_S ?hx ?hl ?_); (case hx => ktr_rel); (case hl => first | decide | omega | (simp only [List.length_append, List.length_cons, List.length_nil, List.length_replicate, List.length_map]; omega)); intro _))
local macro_rules | `(tactic| walk_at "call type:int cons nil") => `(tactic| ((with_reducible show wpAny _ _ (call (Value.type "int") [Value.str _ _]) _ _ _); (refine' int_S ?hx ?hc ?_); (case hx => ktr_rel); (case hc => omega); intro _ _))
local macro_rules | `(tactic| walk_at "call type:int") => `(tactic| ((with_reducible show wpAny _ _ (call (Value.type "int") [Value.str _ _]) _ _ _); (refine' int_S ?hx ?hc ?_); (case hx => ktr_rel); (case hc => omega); intro _ _))
local macro_rules | `(tactic| walk_at "compareOp Is bytes ref") => `(tactic| (refine wpAny_is_other (by rfl) (by intro x; cases x) ?_))
local macro_rules | `(tactic| walk_at "truthy str") => `(tactic| first | ((refine truthy_Sn (by with_reducible first | rfl | exact lit_nil) ?_); intro _) | ((refine truthy_Sc (by with_reducible first | rfl | exact lit_star) (by first | decide | omega | (simp only [List.length_append, List.length_cons, List.length_nil, List.length_replicate, List.length_map] at *; omega)) ?_); intro _))

local macro_rules | `(tactic| walk_at "truthy bytes") => `(tactic| (refine truthy_B (by first | omega | (simp only [List.length_append, List.length_cons, List.length_nil, List.length_take, List.length_drop]; omega)) ?_; intro _))
local macro_rules | `(tactic| walk_at "call builtin:len") => `(tactic| ((with_reducible show wpAny _ _ (call (Value.builtin "len") [Value.bytes (List.toArray _) _]) _ _ _); refine len_B (by first | omega | (simp only [List.length_append, List.length_cons, List.length_nil, List.length_take, List.length_drop]; omega)) ?_; intro _ _))
local macro_rules | `(tactic| walk_at "subscriptTail Name str Constant bytes int") => `(tactic| ((with_reducible show wpAny _ _ (subscriptTail _ _ (Value.bytes (List.toArray (_ :: _)) _) (Value.int 0 _)) _ _ _); refine item0_B (by first | omega | (simp only [List.length_append, List.length_cons, List.length_nil] at *; omega)) ?_; intro _ _))
local macro_rules | `(tactic| walk_at "subscriptTail Name Constant bytes int") => `(tactic| ((with_reducible show wpAny _ _ (subscriptTail _ _ (Value.bytes (List.toArray (_ :: _)) _) (Value.int 0 _)) _ _ _); refine item0_B (by first | omega | (simp only [List.length_append, List.length_cons, List.length_nil] at *; omega)) ?_; intro _ _))
local macro_rules | `(tactic| walk_at "subscriptTail") => `(tactic| ((with_reducible show wpAny _ _ (subscriptTail _ _ (Value.bytes (List.toArray (_ :: _)) _) (Value.int 0 _)) _ _ _); refine item0_B (by first | omega | (simp only [List.length_append, List.length_cons, List.length_nil] at *; omega)) ?_; intro _ _))
local macro_rules | `(tactic| walk_at "subscriptTail Name str Slice") => `(tactic| ((with_reducible show wpAny _ _ (subscriptTail _ (Expr.Slice none (some _) none _) (Value.bytes (List.toArray _) _) (Value.ref _)) _ _ _); (with_reducible rename Fr _ _ _ _ => F'); (with_reducible rename News _ _ _ _ => N'); (refine head_B (s := ⟨_, _, _, _, _⟩) F' N' (by first | decide | omega) (by first | omega | (simp only [List.length_append, List.length_cons, List.length_nil, List.length_take, List.length_drop] at *; omega)) ?_); intro _ _ _ _ _))
local macro_rules | `(tactic| walk_at "subscriptTail") => `(tactic| ((with_reducible show wpAny _ _ (subscriptTail _ (Expr.Slice none (some _) none _) (Value.bytes (List.toArray _) _) (Value.ref _)) _ _ _); (with_reducible rename Fr _ _ _ _ => F'); (with_reducible rename News _ _ _ _ => N'); (refine head_B (s := ⟨_, _, _, _, _⟩) F' N' (by first | decide | omega) (by first | omega | (simp only [List.length_append, List.length_cons, List.length_nil, List.length_take, List.length_drop] at *; omega)) ?_); intro _ _ _ _ _))
local macro_rules | `(tactic| walk_at "subscriptTail Name str Slice") => `(tactic| ((with_reducible show wpAny _ _ (subscriptTail _ (Expr.Slice (some _) none none _) (Value.bytes (List.toArray _) _) (Value.ref _)) _ _ _); (with_reducible rename Fr _ _ _ _ => F'); (with_reducible rename News _ _ _ _ => N'); (refine drop_B (s := ⟨_, _, _, _, _⟩) F' N' (by first | decide | omega) (by first | omega | (simp only [List.length_append, List.length_cons, List.length_nil, List.length_take, List.length_drop] at *; omega)) ?_); intro _ _ _ _ _))
local macro_rules | `(tactic| walk_at "subscriptTail") => `(tactic| ((with_reducible show wpAny _ _ (subscriptTail _ (Expr.Slice (some _) none none _) (Value.bytes (List.toArray _) _) (Value.ref _)) _ _ _); (with_reducible rename Fr _ _ _ _ => F'); (with_reducible rename News _ _ _ _ => N'); (refine drop_B (s := ⟨_, _, _, _, _⟩) F' N' (by first | decide | omega) (by first | omega | (simp only [List.length_append, List.length_cons, List.length_nil, List.length_take, List.length_drop] at *; omega)) ?_); intro _ _ _ _ _))
local macro_rules | `(tactic| walk_at "binaryOp Mod str int") => `(tactic| (first | ((with_reducible refine mod_x ?h0 ?h1 ?_); (case h0 => omega); (case h1 => omega); intro _ _) | ((with_reducible refine mod_o ?h0 ?h1 ?_); (case h0 => omega); (case h1 => omega); intro _ _)))
local macro_rules | `(tactic| walk_at "call builtin:bytes.decode") => `(tactic| ((with_reducible refine decode_B ?h0 ?h1 ?_); (case h0 => first | assumption | omega); (case h1 => assumption); intro _ _))
local macro_rules | `(tactic| walk_at "inplaceOp LShift int int") => `(tactic| ((refine shl8 (by omega) ?_); intro _ _))
local macro_rules | `(tactic| walk_at "inplaceOp BitOr int int") => `(tactic| ((refine or8 (by first | assumption | omega) ?_); intro _ _))
local macro_rules | `(tactic| walk_at "truthy bytes") => `(tactic| first | ((with_reducible refine truthy_Bn ?_); intro _) | ((with_reducible refine truthy_Bc ?hl ?_); (case hl => first | decide | omega | (simp only [List.length_append, List.length_cons, List.length_nil, List.length_replicate, List.length_map] at *; omega)); intro _))

local macro_rules | `(tactic| ktr_unf) => `(tactic| repeat' (first | (k_unfold; (try dsimp only)) | (k_end; kc_close) | ((fail_if_success (with_reducible show wpAny _ _ (exec (Stmt.While _ _ _ _) _) _ _ _)); (fail_if_success (with_reducible show wpAny _ _ (exec (Stmt.For _ _ _ _ _) _) _ _ _)); (fail_if_success (with_reducible show wpAny _ _ (eval (Expr.ListComp _ _ _ _) _) _ _ _)); (fail_if_success (with_reducible show wpAny _ _ (exec (Stmt.Assign _ (Expr.ListComp _ _ _ _) _) _) _ _ _)); (fail_if_success (with_reducible show wpAny _ _ (pyIter _) _ _ _)); (fail_if_success (with_reducible show wpAny _ _ (exec (Stmt.If (Expr.Compare _ _ [Expr.Constant (Const.str (Str.ofString "a")) _ _] _) _ _ _) _) _ _ _)); (fail_if_success (with_reducible show LCg.CompSrc _ _ _ _ _ _ _ _ _ _ _ _ _ _)); (first | walk1 | (dsimp only; walk1))) | (leave1; walk_say "STEP leave1"; (try dsimp only)) | fail "no step"))

local macro_rules | `(tactic| k_room) => `(tactic| ktr_room)
local macro_rules | `(tactic| walk_at "loadName") => `(tactic| k_dflt (refine' wpAny_loadName_local ?k ?l (Fr.ns ?F) ?v ?_; (case F => k_asm); (case k => rfl); (case l => rfl); (case v => rfl); k_whole))
local macro_rules | `(tactic| walk_at "call ref") => `(tactic| ((with_reducible show wpAny _ _ (call (Value.ref 402) _) _ _ _); k_dflt (refine' number_spec _ _ _ _ _ _ _ _ _ _ _ _ _ _ _ _ _ _ _ _ _ _ _ ?k1 ?k2 ?k3 ?k4 ?k5 ?kK ?a1 ?a2 ?a3 ?a4 ?a5 ?kd ?ku ?kR; (case k1 => k_asm); (case k2 => k_asm); (case k3 => k_asm); (case k4 => k_asm); (case k5 => k_asm); (case kK => first | exact rfl | assumption); (case a1 => assumption); (case a2 => assumption); (case a3 => assumption); (case a4 => omega); (case a5 => omega); (case kd => ktr_room); (case ku => ktr_units); intro t9 h9 tk9 F9 N9; (try dsimp only); (try k_fold))))
local macro_rules | `(tactic| walk_at "call type:str") => `(tactic| ((with_reducible show wpAny _ _ (call (Value.type "str") [Value.int _ _]) _ _ _); k_dflt (refine' str_I ?h1 ?h2 ?_; (case h1 => omega); (case h2 => omega)); intro _ _))

local macro_rules | `(tactic| walk_at "inplaceOp Add ref ref") => `(tactic| ((with_reducible show wpAny _ _ (inplaceOp Operator.Add (Value.ref _) (Value.ref _)) _ _ _); k_dflt (refine' iadd_list ?F ?N ?b ?ne ?U ?z ?_; (case F => k_asm); (case N => k_asm); (case b => k_mem); (case ne => assumption); (case U => k_upd); (case z => omega)); intro h' F' N'; (try k_sweep)))
local macro_rules | `(tactic| walk_at "inplaceOp Add ref") => `(tactic| ((with_reducible show wpAny _ _ (inplaceOp Operator.Add (Value.ref _) (Value.ref _)) _ _ _); k_dflt (refine' iadd_list ?F ?N ?b ?ne ?U ?z ?_; (case F => k_asm); (case N => k_asm); (case b => k_mem); (case ne => assumption); (case U => k_upd); (case z => omega)); intro h' F' N'; (try k_sweep)))
local macro_rules | `(tactic| walk_at "call ref") => `(tactic| ((with_reducible show wpAny _ _ (call (Value.ref 414) _) _ _ _); k_dflt (refine' item_spec _ _ _ _ _ _ _ _ _ _ _ _ _ _ _ _ _ _ _ _ _ _ _ _ ?k1 ?k2 ?k3 ?k4 ?k5 ?kK ?a1 ?a2 ?a3 ?a4 ?a5 ?a6 ?a7 ?kd ?ku ?kR; (case k1 => k_asm); (case k2 => k_asm); (case k3 => k_asm); (case k4 => k_asm); (case k5 => k_asm); (case kK => first | exact rfl | assumption); (case a1 => k_mem); (case a2 => assumption); (case a3 => assumption); (case a4 => assumption); (case a5 => assumption); (case a6 => omega); (case a7 => omega); (case kd => ktr_room); (case ku => ktr_units); intro t9 h9 tk9 F9 N9; (try dsimp only); (try k_fold))))
local macro_rules | `(tactic| walk_at "ite") => `(tactic| first | (refine ite_neg (by first | omega | (simp only [beq_iff_eq, bne_iff_ne, decide_eq_true_eq, ne_eq]; omega)) ?_) | (refine ite_pos (by first | omega | (simp only [beq_iff_eq, bne_iff_ne, decide_eq_true_eq, ne_eq]; done) | (simp only [beq_iff_eq, bne_iff_ne, decide_eq_true_eq, ne_eq]; omega)) ?_))

local macro_rules | `(tactic| walk_at "subscriptTail") => `(tactic| ((with_reducible show wpAny _ _ (subscriptTail _ _ (Value.ref _) (Value.int _ _)) _ _ _); k_dflt (refine' list_at ?N ?m ?h0 ?h1 ?hx ?_; (case N => k_asm); (case m => k_mem); (case h0 => first | omega | exact fm_lo _ (by omega)); (case h1 => first | omega | (refine Int.lt_trans (fm_hi _ (by omega)) (by omega))); (case hx => assumption))))
local macro_rules | `(tactic| walk_at "subscriptTail Name BinOp ref int") => `(tactic| ((with_reducible show wpAny _ _ (subscriptTail _ _ (Value.ref _) (Value.int _ _)) _ _ _); k_dflt (refine' list_at ?N ?m ?h0 ?h1 ?hx ?_; (case N => k_asm); (case m => k_mem); (case h0 => first | omega | exact fm_lo _ (by omega)); (case h1 => first | omega | (refine Int.lt_trans (fm_hi _ (by omega)) (by omega))); (case hx => assumption))))

def pieceO (T sp : List Nat) (u1 u2 : Tok) : Obj := { cls := .type "tuple", data := .seq #[.str (S T) u1, .str (S sp) u2] }
def IsPiece (x : List Nat × List Nat) (o : Obj) : Prop := ∃ u1 u2, o = pieceO x.1 x.2 u1 u2
theorem gend_spec : ∀ {w : World} {mean : ExcName → Option Value} {mg mb : Str → Option Value} (dp un : Nat) (gd : Option (List Code)) (a : Addr) (ccd : Value) (outer : List Env) (A₀ : Around) (base h₀ : Heap) (L : Addr) (m : Str → Option Value) (news : List (Addr × Obj)) (s : Shared) (T sp : List Nat) (qa : Addr) (qvs : List Value) (nq : Nat) (t1 t2 : Tok) (Q : Flow → Shared → Prop) (E : Value → Shared → Prop)
    (_ : Below A₀ base outer h₀) (_ : Fr h₀ L s.heap m) (_ : (hd.heap_39 w.params).In h₀) (_ : Top hd.view_39 (looseW hd.view_39 [Str.ofString "noValue", Str.ofString "Value", Str.ofString "Integer32", Str.ofString "OctetString", Str.ofString "SmiError", Str.ofString "TextualConvention", Str.ofString "HintedString", Str.ofString "HintedInteger", Str.ofString "TestAndIncr", Str.ofString "RowStatus"]) mean mg mb h₀) (_ : dp + 20 < recursionLimit) (_ : un + 200 < cLine) (_ : News h₀ L s.heap ((qa, listOf qvs.toArray nq) :: news)) (_ : OwnOff news [qa]) (_ : qvs.length ≤ 100)
    (_ : Has m [(Str.ofString "told", .str (S T) t1), (Str.ofString "sep", .str (S sp) t2), (Str.ofString "pieces", .ref qa)])
    (_ : ∀ (h' : Heap) (tk : Nat) (D : Addr), Fr h₀ L h' m → News h₀ L h' ((qa, listOf (qvs ++ [Value.ref D]).toArray (nq + 1)) :: (D, pieceO T sp t1 t2) :: news) → @LT.lt Nat _ qa D → AllLt D news → Q .next { s with heap := h', toks := tk }),
    wpAny (model Challenge.rw_am6029_01.row.prog w) (ktrTop dp un gd (Str.ofString "law") lScope L a ccd (cellsFrom (L + 1) lScope.names []) outer) (execs [gS 7] (envX (Str.ofString "law") lScope L a ccd (cellsFrom (L + 1) lScope.names []))) Q E s := by
  k_fill
  intro w mean mg mb dp un gd a ccd outer A₀ base h₀ L m news s T sp qa qvs nq t1 t2 Q E B F X T0 hd hu N hoff hq hm hret
  conv => arg 3; arg 1; arg 1; whnf
  have hpm := pin_eq hm
  rw [← hpm] at F
  dsimp only [pin] at F hpm
  ktr_unf
  rename Fr _ _ _ _ => F2
  rename News _ _ _ _ => N2
  rename _ ∧ _ => l1
  obtain ⟨q1, q2⟩ := l1
  rw [push_l] at N2
  rw [hpm] at F2
  refine hret _ _ _ F2 (fun p hp => N2 p ?_) q1 q2
  simp only [List.mem_cons] at hp ⊢
  rcases hp with h | h | h
  · exact .inr (.inl h)
  · exact .inl h
  · exact .inr (.inr h)

end
section
theorem freshL11 : True := by w_top off; exact True.intro
section
variable {M : Model} {A : Around} {E : Value → Shared → Prop} {env : Env}
theorem execs_app_wp (l2 : List Stmt) : ∀ (l1 : List Stmt) Γ (K : Flow → _ → Shared → Prop) (EE : Value → _ → Shared → Prop) p s, Sem.wp M Γ (execs l1 env) (fun f p' s' => match f with | .next => Sem.wp M Γ (execs l2 env) K EE p' s' | f => K f p' s') EE p s → Sem.wp M Γ (execs (l1 ++ l2) env) K EE p s := by
  intro l1
  induction l1 with
  | nil =>
    intro Γ K EE p s h
    rw [execs_nil, Sem.wp_pure'] at h
    exact h
  | cons st l1 ih =>
    intro Γ K EE p s h
    rw [List.cons_append, execs_cons, Sem.wp_bind']
    rw [execs_cons, Sem.wp_bind'] at h
    refine Sem.wp_mono M Γ _ (fun f p' s' h' => ?_) (fun _ _ _ h' => h') _ _ h
    cases f with
    | next => exact ih Γ K EE p' s' h'
    | ret v => exact h'
    | brk => exact h'
    | cont => exact h'
theorem execs_app {l1 l2 : List Stmt} {Q : Flow → Shared → Prop} {s : Shared} (h : wpAny M A (execs l1 env) (fun f s' => match f with | .next => wpAny M A (execs l2 env) Q E s' | f => Q f s') E s) : wpAny M A (execs (l1 ++ l2) env) Q E s := fun Γ p hΓ => by
  refine execs_app_wp l2 l1 Γ _ _ p s ?_
  refine Sem.wp_mono M Γ _ (fun f p' s' h' => ?_) (fun _ _ _ h' => h') _ _ (h Γ p hΓ)
  cases f with
  | next => exact h' Γ p' hΓ
  | ret v => exact h'
  | brk => exact h'
  | cont => exact h'
end

end
section
theorem freshL12 : True := by w_top off; exact True.intro

local macro_rules | `(tactic| ktr_rel) => `(tactic| with_reducible first | rfl | assumption | exact lit_fig | exact lit_zero | exact lit_nil | exact lit_star | exact lit_dots | exact lit_coms | exact lit_xdoa | exact lit_dig | exact lit_a | exact lit_t | exact lit_x | exact lit_d | exact lit_o | exact lit_B | exact lit_integer | exact lit_string | exact lit_ascii | exact lit_ignore | exact lit_f02x | exact lit_f03o | exact lit_fd | exact lit_b | fail "no S")
local macro_rules | `(tactic| ktr_unf) => `(tactic| repeat' (first | (k_unfold; (try dsimp only)) | (k_end; kc_close) | ((fail_if_success (with_reducible show wpAny _ _ (exec (Stmt.While _ _ _ _) _) _ _ _)); (fail_if_success (with_reducible show wpAny _ _ (exec (Stmt.For _ _ _ _ _) _) _ _ _)); (fail_if_success (with_reducible show wpAny _ _ (eval (Expr.ListComp _ _ _ _) _) _ _ _)); (fail_if_success (with_reducible show wpAny _ _ (exec (Stmt.Assign _ (Expr.ListComp _ _ _ _) _) _) _ _ _)); (fail_if_success (with_reducible show wpAny _ _ (pyIter _) _ _ _)); (fail_if_success (with_reducible show LCg.CompSrc _ _ _ _ _ _ _ _ _ _ _ _ _ _)); (first | walk1 | (dsimp only; walk1))) | (leave1; walk_say "STEP leave1"; (try dsimp only)) | fail "no step"))
local macro_rules | `(tactic| walk_at "subscriptTail Constant str BinOp") => `(tactic| ((with_reducible show wpAny _ _ (subscriptTail _ _ (Value.str _ _) (Value.int _ _)) _ _ _); (refine' itemD_S ?hx ?h0 ?h1 ?hl ?_); (case hx => ktr_rel); (case h0 => first | decide | omega | exact fmod_lo _ (by decide)); (case h1 => first | decide | omega | exact fmod_hi _ (by decide)); (case hl => first | decide | omega | (simp only [List.length_append, List.length_cons, List.length_nil, List.length_replicate, List.length_map]; omega)); intro _ _))
local macro_rules | `(tactic| walk_at "subscriptTail") => `(tactic| ((with_reducible show wpAny _ _ (subscriptTail _ _ (Value.str _ _) (Value.int _ _)) _ _ _); (refine' itemD_S ?hx ?h0 ?h1 ?hl ?_); (case hx => ktr_rel); (case h0 => first | decide | omega | exact fmod_lo _ (by decide)); (case h1 => first | decide | omega | exact fmod_hi _ (by decide)); (case hl => first | decide | omega | (simp only [List.length_append, List.length_cons, List.length_nil, List.length_replicate, List.length_map]; omega)); intro _ _))
local macro_rules | `(tactic| walk_at "subscriptTail Name Constant str int") => `(tactic| ((with_reducible show wpAny _ _ (subscriptTail _ _ (Value.str _ _) (Value.int 0 _)) _ _ _); (refine' item0_S ?hx ?hl ?_); (case hx => ktr_rel); (case hl => first | decide | omega | (simp only [List.length_append, List.length_cons, List.length_nil, List.length_replicate, List.length_map]; omega)); intro _ _))
local macro_rules | `(tactic| walk_at "subscriptTail") => `(tactic| ((with_reducible show wpAny _ _ (subscriptTail _ _ (Value.str _ _) (Value.int 0 _)) _ _ _); (refine' item0_S ?hx ?hl ?_); (case hx => ktr_rel); (case hl => first | decide | omega | (simp only [List.length_append, List.length_cons, List.length_nil, List.length_replicate, List.length_map]; omega)); intro _ _))
local macro_rules | `(tactic| walk_at "subscriptTail Name Slice str ref") => `(tactic| ((with_reducible show wpAny _ _ (subscriptTail _ (Expr.Slice (some _) none none _) (Value.str _ _) (Value.ref _)) _ _ _); (with_reducible rename Fr _ _ _ _ => F'); (with_reducible rename News _ _ _ _ => N'); (refine' tail_S (s := ⟨_, _, _, _, _⟩) ?hx ?hl F' N' ?_); (case hx => ktr_rel); (case hl => first | decide | omega | (simp only [List.length_append, List.length_cons, List.length_nil, List.length_replicate, List.length_map]; omega)); intro _ _ _ _ _))
local macro_rules | `(tactic| walk_at "subscriptTail") => `(tactic| ((with_reducible show wpAny _ _ (subscriptTail _ (Expr.Slice (some _) none none _) (Value.str _ _) (Value.ref _)) _ _ _); (with_reducible rename Fr _ _ _ _ => F'); (with_reducible rename News _ _ _ _ => N'); (refine' tail_S (s := ⟨_, _, _, _, _⟩) ?hx ?hl F' N' ?_); (case hx => ktr_rel); (case hl => first | decide | omega | (simp only [List.length_append, List.length_cons, List.length_nil, List.length_replicate, List.length_map]; omega)); intro _ _ _ _ _))
local macro_rules | `(tactic| walk_at "call builtin:len cons nil") => `(tactic| ((with_reducible show wpAny _ _ (call (Value.builtin "len") [Value.str _ _]) _ _ _); (refine' len_S ?hx ?hl ?_); (case hx => ktr_rel); (case hl => first | decide | omega | (simp only [List.length_append, List.length_cons, List.length_nil, List.length_replicate, List.length_map]; omega)); intro _ _))
local macro_rules | `(tactic| walk_at "call builtin:len") => `(tactic| ((with_reducible show wpAny _ _ (call (Value.builtin "len") [Value.str _ _]) _ _ _); (refine' len_S ?hx ?hl ?_); (case hx => ktr_rel); (case hl => first | decide | omega | (simp only [List.length_append, List.length_cons, List.length_nil, List.length_replicate, List.length_map]; omega)); intro _ _))
local macro_rules | `(tactic| walk_at "binaryOp Add str str") => `(tactic| ((refine' add_S ?hx ?hy ?hl ?_); (case hx => ktr_rel); (case hy => ktr_rel); (case hl => first | decide | omega | (simp only [List.length_append, List.length_cons, List.length_nil, List.length_replicate, List.length_map]; omega)); intro _ _))
local macro_rules | `(tactic| walk_at "inplaceOp Add str str") => `(tactic| ((refine' iadd_S ?hx ?hy ?hl ?_); (case hx => ktr_rel); (case hy => ktr_rel); (case hl => first | decide | omega | (simp only [List.length_append, List.length_cons, List.length_nil, List.length_replicate, List.length_map]; omega)); intro _ _))
local macro_rules | `(tactic| walk_at "binaryOp Mult str int") => `(tactic| ((refine' mul_S ?hx ?hl ?h0 ?_); (case hx => ktr_rel); (case hl => omega); (case h0 => omega); intro _ _))
local macro_rules | `(tactic| walk_at "compareOp Eq str str") => `(tactic| ((refine' eq_S ?hx ?hy ?_); (case hx => ktr_rel); (case hy => ktr_rel)))
local macro_rules | `(tactic| walk_at "compareOp NotEq str str") => `(tactic| ((refine' ne_S ?hx ?hy ?_); (case hx => ktr_rel); (case hy => ktr_rel)))
local macro_rules | `(tactic| walk_at "compareOp In str str") => `(tactic| ((refine' in_S ?hx ?hy ?_); (case hx => ktr_rel); (case hy => ktr_rel)))
local macro_rules | `(tactic| walk_at "compareOp NotIn str str") => `(tactic| ((refine' notin_S ?hx ?hy ?_); (case hx => ktr_rel); (case hy => ktr_rel)))
local macro_rules | `(tactic| walk_at "truthy str") => `(tactic| ((refine' truthy_S ?hx ?hl ?_); (case hx => ktr_rel); (case hl => first | decide | omega | (simp only [List.length_append, List.length_cons, List.length_nil, List.length_replicate, List.length_map]; omega)); intro _))
local macro_rules | `(tactic| walk_at "call type:int cons nil") => `(tactic| ((with_reducible show wpAny _ _ (call (Value.type "int") [Value.str _ _]) _ _ _); (refine' int_S ?hx ?hc ?_); (case hx => ktr_rel); (case hc => omega); intro _ _))
local macro_rules | `(tactic| walk_at "call type:int") => `(tactic| ((with_reducible show wpAny _ _ (call (Value.type "int") [Value.str _ _]) _ _ _); (refine' int_S ?hx ?hc ?_); (case hx => ktr_rel); (case hc => omega); intro _ _))
local macro_rules | `(tactic| walk_at "compareOp Is bytes ref") => `(tactic| (refine wpAny_is_other (by rfl) (by intro x; cases x) ?_))
local macro_rules | `(tactic| walk_at "truthy str") => `(tactic| first | ((refine truthy_Sn (by with_reducible first | rfl | exact lit_nil) ?_); intro _) | ((refine truthy_Sc (by with_reducible first | rfl | exact lit_star) (by first | decide | omega | (simp only [List.length_append, List.length_cons, List.length_nil, List.length_replicate, List.length_map] at *; omega)) ?_); intro _))

def gRows (p : Pt) (D M : Int) (last : Bool) : List (List Nat) := rowsN (shO p.rep (itOf p.rep D) D last) (itOf p.rep D) (p.wy : Int) M p.len
def gOcts (p : Pt) (D M : Int) (last : Bool) : List Nat := (if p.rep = true then [itOf p.rep D] else []) ++ (gRows p D M last).flatten
def gTold (p : Pt) (D M : Int) (last : Bool) : List Nat := tellsN p.wy (mkP p).toList (gRows p D M last)
theorem gbody_spec : ∀ {w : World} {mean : ExcName → Option Value} {mg mb : Str → Option Value} (dp un : Nat) (gd : Option (List Code)) (a : Addr) (ccd : Value) (outer : List Env) (A₀ : Around) (base h₀ : Heap) (L : Addr) (m : Str → Option Value) (news : List (Addr × Obj)) (s : Shared) (l : Addr) (vs : List Value) (ns : List Int) (b : Int) (c g tot : Nat) (ps : List Pt) (p : Pt) (pa oa qa : Addr) (pvs ovs qvs : List Value) (np no nq : Nat) (oj om ow : Obj) (vj vm vw : Option Value) (t1 t2 t3 t4 : Tok) (Q : Flow → Shared → Prop) (E : Value → Shared → Prop)
    (_ : Below A₀ base outer h₀) (_ : Fr h₀ L s.heap m) (_ : (hd.heap_39 w.params).In h₀) (_ : Top hd.view_39 (looseW hd.view_39 [Str.ofString "noValue", Str.ofString "Value", Str.ofString "Integer32", Str.ofString "OctetString", Str.ofString "SmiError", Str.ofString "TextualConvention", Str.ofString "HintedString", Str.ofString "HintedInteger", Str.ofString "TestAndIncr", Str.ofString "RowStatus"]) mean mg mb h₀) (_ : dp + 20 < recursionLimit) (_ : un + 200 < cLine) (_ : base.IsList l vs.toArray) (_ : IntsAre vs ns) (_ : ns.length < 2 ^ 62) (_ : News h₀ L s.heap ((L + 1 + 1 + 1, oj) :: (L + 1 + 1, om) :: (L + 1, ow) :: (oa, listOf ovs.toArray no) :: (qa, listOf qvs.toArray nq) :: news))
    (_ : @LT.lt Nat _ (L + 1 + 1 + 1) oa) (_ : @LT.lt Nat _ oa qa) (_ : @LT.lt Nat _ (L + 1 + 1 + 1) pa) (_ : OwnOff news [L + 1 + 1 + 1, L + 1 + 1, L + 1, oa, qa])
    (_ : (pa, listOf pvs.toArray np) ∈ news) (_ : AllAt IsPart news pvs ps) (_ : ps[g % c]? = some p) (_ : POk p)
    (_ : 0 ≤ b) (_ : b ≤ 80) (_ : g < tot) (_ : tot ≤ 6) (_ : 1 ≤ c) (_ : c ≤ 3) (_ : ovs.length ≤ 850) (_ : qvs.length ≤ 50)
    (_ : oj.data = .cell vj) (_ : om.data = .cell vm) (_ : ow.data = .cell vw)
    (_ : Has m [(Str.ofString "script", .ref l), (Str.ofString "base", .int b t1), (Str.ofString "count", .int (c : Int) t2), (Str.ofString "g", .int (g : Int) t3), (Str.ofString "total", .int (tot : Int) t4), (Str.ofString "parts", .ref pa), (Str.ofString "octets", .ref oa), (Str.ofString "pieces", .ref qa)])
    (_ : PassesOwn (model Challenge.rw_am6029_01.row.prog w) (ktrTop dp un gd (Str.ofString "law") lScope L a ccd (cellsFrom (L + 1) lScope.names []) outer) (envX (Str.ofString "law") lScope L a ccd (cellsFrom (L + 1) lScope.names [])) E)
    (_ : ∀ (h' : Heap) (tk : Nat) (m' : Str → Option Value) (oj' om' ow' : Obj) (vj' vm' vw' : Option Value) (ys : List Value) (no' : Nat) (D : Addr) (w1 w2 : Tok), Fr h₀ L h' m' → oj'.data = .cell vj' → om'.data = .cell vm' → ow'.data = .cell vw' → News h₀ L h' ((L + 1 + 1 + 1, oj') :: (L + 1 + 1, om') :: (L + 1, ow') :: (oa, listOf (ovs ++ ys).toArray no') :: (qa, listOf (qvs ++ [Value.ref D]).toArray (nq + 1)) :: (D, pieceO (gTold p (numF ns (b + 5 + 2 * (g : Int))) (numF ns (b + 6 + 2 * (g : Int))) (decide ((g : Int) = (tot : Int) - 1))) (sepP p) w1 w2) :: news) → @LT.lt Nat _ qa D → AllLt D news → IntsAre ys ((gOcts p (numF ns (b + 5 + 2 * (g : Int))) (numF ns (b + 6 + 2 * (g : Int))) (decide ((g : Int) = (tot : Int) - 1))).map Int.ofNat) → (∀ z, z ≠ Str.ofString "length" → z ≠ Str.ofString "repeated" → z ≠ Str.ofString "sep" → z ≠ Str.ofString "mark" → z ≠ Str.ofString "drawn" → z ≠ Str.ofString "told" → z ≠ Str.ofString "items" → z ≠ Str.ofString "short" → z ≠ Str.ofString "row" → m' z = m z) → Q .next { s with heap := h', toks := tk }),
    wpAny (model Challenge.rw_am6029_01.row.prog w) (ktrTop dp un gd (Str.ofString "law") lScope L a ccd (cellsFrom (L + 1) lScope.names []) outer) (execs (bodyS gFor) (envX (Str.ofString "law") lScope L a ccd (cellsFrom (L + 1) lScope.names []))) Q E s := by
  intro w mean mg mb dp un gd a ccd outer A₀ base h₀ L m news s l vs ns b c g tot ps p pa oa qa pvs ovs qvs np no nq oj om ow vj vm vw t1 t2 t3 t4 Q E B F X T0 hd hu hl hi hfit N hoa hoq hpa hoff hpm hall hp hpk hb0 hb1 hg1 ht6 hc1 hc3 hov hqv hj hm' hw hm hE hret
  show wpAny _ _ (execs ([gS 0, gS 1, gS 2, gS 3] ++ ([gS 4, gS 5] ++ ([jFor] ++ [gS 7]))) _) _ _ _
  obtain ⟨ta, o, hta, htm, u1, u2, u3, u4, rfl⟩ := hall.get _ _ hp
  have hoff4 : OwnOff news [L + 1 + 1 + 1, L + 1 + 1, L + 1, oa] := fun q hq b hb => hoff q hq b (by
    simp only [List.mem_cons, List.not_mem_nil, or_false] at hb ⊢
    rcases hb with h | h | h | h <;> simp [h])
  have hqoff : ∀ b' ∈ [L + 1 + 1 + 1, L + 1 + 1, L + 1, oa], qa ≠ b' := by
    intro b' hb
    simp only [List.mem_cons, List.not_mem_nil, or_false] at hb
    rcases hb with h | h | h | h <;> (rw [h]; exact neN (by omega))
  have hoffq : ∀ {o : Obj}, OwnOff ((qa, o) :: news) [L + 1 + 1 + 1, L + 1 + 1, L + 1, oa] := fun q hq b hb => by
    rcases List.mem_cons.mp hq with rfl | hq
    · exact hqoff b hb
    · exact hoff4 q hq b hb
  refine execs_app ?_
  have hmod : ((g : Int).fmod (c : Int)).toNat = g % c := by rw [fm_cast]; exact Int.toNat_natCast _
  refine ghead_spec _ _ _ _ _ _ _ _ _ _ _ ((qa, listOf qvs.toArray nq) :: news) _ l vs ns b (c : Int) (g : Int) (tot : Int) p pa ta oa pvs ovs np no oj om ow vj vm vw u1 u2 u3 u4 _ _ _ _ _ _ B F X T0 hd hu hl hi hfit (fun q hq => N q ?_) hoa hpa (hoff _ hpm oa (by simp)) (hoff _ htm oa (by simp)) (hoff _ htm (L + 1) (by simp)) (hoff _ htm (L + 1 + 1) (by simp)) hoffq hb0 hb1 (by omega) (by omega) (by omega) (by omega) (by omega) (by omega) (by rw [hmod]; exact hta) hj hm' hw ⟨hm.1, hm.2.1, hm.2.2.1, hm.2.2.2.1, hm.2.2.2.2.1, hm.2.2.2.2.2.1, hm.2.2.2.2.2.2.1, trivial⟩ ?_
  · simp only [List.mem_cons] at hq ⊢
    rcases hq with h | h | h | h | h | h | h | h
    · simp [h]
    · simp [h]
    · simp [h]
    · simp [h]
    · exact .inr (.inr (.inr (.inr (.inr (h ▸ hpm)))))
    · exact .inr (.inr (.inr (.inr (.inr (h ▸ htm)))))
    · simp [h]
    · simp [h]
  intro h1 tk1 m1 om1 ow1 w1 w2 w3 w4 w5 w6 w7 w8 F1 dm1 dw1 N1 a1 a2
  generalize hD0 : numF ns (b + 5 + 2 * (g : Int)) = D0 at a1 hret
  generalize hM0 : numF ns (b + 6 + 2 * (g : Int)) = M0 at dm1 hret
  have hit : itOf p.rep D0 ≤ 3 := by
    unfold itOf
    have x1 := fm_lo D0 (show (0 : Int) < 4 by decide)
    have x2 := fm_hi D0 (show (0 : Int) < 4 by decide)
    split <;> omega
  refine execs_app ?_
  refine gshort_spec _ _ _ _ _ _ _ _ _ _ _ ((qa, listOf qvs.toArray nq) :: news) _ p.rep (itOf p.rep D0) D0 (g : Int) (tot : Int) oa ovs no oj om1 ow1 vj _ _ _ _ _ _ _ _ B F1 X T0 hd hu N1 hoa hoffq hit (by omega) hj dm1 dw1 ⟨a1.2.1, a1.2.2.2.2.2.2.1, a1.2.2.2.2.1, (a2 (Str.ofString "g") (by decide) (by decide) (by decide) (by decide) (by decide) (by decide) (by decide)).trans hm.2.2.2.1, (a2 (Str.ofString "total") (by decide) (by decide) (by decide) (by decide) (by decide) (by decide) (by decide)).trans hm.2.2.2.2.1, (a2 (Str.ofString "octets") (by decide) (by decide) (by decide) (by decide) (by decide) (by decide) (by decide)).trans hm.2.2.2.2.2.2.1, trivial⟩ ?_
  intro h2 tk2 m2 ys2 no2 F2 N2 hys2 b1 b2
  have hyl2 : ys2.length ≤ 1 := by
    have := hys2.length
    rw [this]; split <;> simp
  refine execs_app ?_
  refine wpAny_execs_cons ?_
  refine jfor_spec _ _ _ _ _ _ _ _ _ _ _ ((qa, listOf qvs.toArray nq) :: news) _ (shO p.rep (itOf p.rep D0) D0 (decide ((g : Int) = (tot : Int) - 1))) (itOf p.rep D0) (p.wy : Int) M0 p.len (mkP p).toList oa (ovs ++ ys2) no2 oj om1 ow1 vj _ _ _ _ _ _ _ _ B F2 X T0 hd hu N2 hoa hoffq (by omega) (by have := hpk.2.2.1; omega) hpk.1 hpk.2.1 hit (by cases mkP p <;> simp [Option.toList]) (by rw [List.length_append]; omega) hj dm1 dw1 ⟨(b2 (Str.ofString "length") (by decide)).trans a1.1, (b2 (Str.ofString "told") (by decide)).trans a1.2.2.2.2.2.1, (b2 (Str.ofString "octets") (by decide)).trans ((a2 (Str.ofString "octets") (by decide) (by decide) (by decide) (by decide) (by decide) (by decide) (by decide)).trans hm.2.2.2.2.2.2.1), (b2 (Str.ofString "mark") (by decide)).trans a1.2.2.2.1, b1.1, (b2 (Str.ofString "items") (by decide)).trans a1.2.2.2.2.2.2.1, trivial⟩ hE ?_
  intro h3 tk3 m3 ys3 no3 oj3 vj3 w9 F3 dj3 N3 hys3 c1 c2
  refine wpAny_execs_nil ?_
  show wpAny _ _ (execs [gS 7] _) _ _ _
  have N4 : News h₀ L h3 ((qa, listOf qvs.toArray nq) :: (L + 1 + 1 + 1, oj3) :: (L + 1 + 1, om1) :: (L + 1, ow1) :: (oa, listOf ((ovs ++ ys2) ++ ys3).toArray no3) :: news) := fun q hq => N3 q (by
    simp only [List.mem_cons] at hq ⊢
    rcases hq with h | h | h | h | h | h <;> simp [h])
  refine gend_spec _ _ _ _ _ _ _ _ _ _ _ _ _ (gTold p D0 M0 (decide ((g : Int) = (tot : Int) - 1))) (sepP p) qa qvs nq _ _ _ _ B F3 X T0 hd hu N4 ?_ (by omega) ⟨c1.1, (c2 (Str.ofString "sep") (by decide) (by decide)).trans ((b2 (Str.ofString "sep") (by decide)).trans a1.2.2.1), (c2 (Str.ofString "pieces") (by decide) (by decide)).trans ((b2 (Str.ofString "pieces") (by decide)).trans ((a2 (Str.ofString "pieces") (by decide) (by decide) (by decide) (by decide) (by decide) (by decide) (by decide)).trans hm.2.2.2.2.2.2.2.1)), trivial⟩ ?_
  · intro q hq b' hb
    rw [List.mem_singleton.mp hb]
    simp only [List.mem_cons] at hq
    rcases hq with h | h | h | h | h
    · rw [h]; exact neN (by dsimp only; omega)
    · rw [h]; exact neN (by dsimp only; omega)
    · rw [h]; exact neN (by dsimp only; omega)
    · rw [h]; exact neN (by dsimp only; omega)
    · exact hoff q h qa (by simp)
  intro h4 tk4 D F4 N5 hqD hallD
  have hys : IntsAre (ys2 ++ ys3) ((gOcts p D0 M0 (decide ((g : Int) = (tot : Int) - 1))).map Int.ofNat) := by
    unfold gOcts
    rw [List.map_append]
    refine IntsAre.append ?_ hys3
    have e : (if p.rep = true then [((itOf p.rep D0 : Nat) : Int)] else []) = List.map Int.ofNat (if p.rep = true then [itOf p.rep D0] else []) := by split <;> rfl
    rw [← e]; exact hys2
  refine hret _ _ _ oj3 om1 ow1 vj3 _ _ (ys2 ++ ys3) no3 D w9 w4 F4 dj3 dm1 dw1 (fun q hq => N5 q ?_) hqD ?_ hys ?_
  · rw [← List.append_assoc] at hq
    simp only [List.mem_cons] at hq ⊢
    rcases hq with h | h | h | h | h | h | h <;> simp [h]
  · obtain ⟨_, _, _, _, r⟩ := hallD
    exact r
  · intro z z1 z2 z3 z4 z5 z6 z7 z8 z9
    exact (c2 z z6 z9).trans ((b2 z z8).trans (a2 z z1 z2 z3 z4 z5 z6 z7))

end
section
theorem freshL13 : True := by w_top off; exact True.intro

local macro_rules | `(tactic| ktr_rel) => `(tactic| with_reducible first | rfl | assumption | exact lit_fig | exact lit_zero | exact lit_nil | exact lit_star | exact lit_dots | exact lit_coms | exact lit_xdoa | exact lit_dig | exact lit_a | exact lit_t | exact lit_x | exact lit_d | exact lit_o | exact lit_B | exact lit_integer | exact lit_string | exact lit_ascii | exact lit_ignore | exact lit_f02x | exact lit_f03o | exact lit_fd | exact lit_b | fail "no S")
local macro_rules | `(tactic| ktr_unf) => `(tactic| repeat' (first | (k_unfold; (try dsimp only)) | (k_end; kc_close) | ((fail_if_success (with_reducible show wpAny _ _ (exec (Stmt.While _ _ _ _) _) _ _ _)); (fail_if_success (with_reducible show wpAny _ _ (exec (Stmt.For _ _ _ _ _) _) _ _ _)); (fail_if_success (with_reducible show wpAny _ _ (eval (Expr.ListComp _ _ _ _) _) _ _ _)); (fail_if_success (with_reducible show wpAny _ _ (exec (Stmt.Assign _ (Expr.ListComp _ _ _ _) _) _) _ _ _)); (fail_if_success (with_reducible show wpAny _ _ (pyIter _) _ _ _)); (fail_if_success (with_reducible show LCg.CompSrc _ _ _ _ _ _ _ _ _ _ _ _ _ _)); (first | walk1 | (dsimp only; walk1))) | (leave1; walk_say "STEP leave1"; (try dsimp only)) | fail "no step"))
local macro_rules | `(tactic| walk_at "subscriptTail Constant str BinOp") => `(tactic| ((with_reducible show wpAny _ _ (subscriptTail _ _ (Value.str _ _) (Value.int _ _)) _ _ _); (refine' itemD_S ?hx ?h0 ?h1 ?hl ?_); (case hx => ktr_rel); (case h0 => first | decide | omega | exact fmod_lo _ (by decide)); (case h1 => first | decide | omega | exact fmod_hi _ (by decide)); (case hl => first | decide | omega | (simp only [List.length_append, List.length_cons, List.length_nil, List.length_replicate, List.length_map]; omega)); intro _ _))
local macro_rules | `(tactic| walk_at "subscriptTail") => `(tactic| ((with_reducible show wpAny _ _ (subscriptTail _ _ (Value.str _ _) (Value.int _ _)) _ _ _); (refine' itemD_S ?hx ?h0 ?h1 ?hl ?_); (case hx => ktr_rel); (case h0 => first | decide | omega | exact fmod_lo _ (by decide)); (case h1 => first | decide | omega | exact fmod_hi _ (by decide)); (case hl => first | decide | omega | (simp only [List.length_append, List.length_cons, List.length_nil, List.length_replicate, List.length_map]; omega)); intro _ _))
local macro_rules | `(tactic| walk_at "subscriptTail Name Constant str int") => `(tactic| ((with_reducible show wpAny _ _ (subscriptTail _ _ (Value.str _ _) (Value.int 0 _)) _ _ _); (refine' item0_S ?hx ?hl ?_); (case hx => ktr_rel); (case hl => first | decide | omega | (simp only [List.length_append, List.length_cons, List.length_nil, List.length_replicate, List.length_map]; omega)); intro _ _))
local macro_rules | `(tactic| walk_at "subscriptTail") => `(tactic| ((with_reducible show wpAny _ _ (subscriptTail _ _ (Value.str _ _) (Value.int 0 _)) _ _ _); (refine' item0_S ?hx ?hl ?_); (case hx => ktr_rel); (case hl => first | decide | omega | (simp only [List.length_append, List.length_cons, List.length_nil, List.length_replicate, List.length_map]; omega)); intro _ _))
local macro_rules | `(tactic| walk_at "subscriptTail Name Slice str ref") => `(tactic| ((with_reducible show wpAny _ _ (subscriptTail _ (Expr.Slice (some _) none none _) (Value.str _ _) (Value.ref _)) _ _ _); (with_reducible rename Fr _ _ _ _ => F'); (with_reducible rename News _ _ _ _ => N'); (refine' tail_S (s := ⟨_, _, _, _, _⟩) ?hx ?hl F' N' ?_); (case hx => ktr_rel); (case hl => first | decide | omega | (simp only [List.length_append, List.length_cons, List.length_nil, List.length_replicate, List.length_map]; omega)); intro _ _ _ _ _))
local macro_rules | `(tactic| walk_at "subscriptTail") => `(tactic| ((with_reducible show wpAny _ _ (subscriptTail _ (Expr.Slice (some _) none none _) (Value.str _ _) (Value.ref _)) _ _ _); (with_reducible rename Fr _ _ _ _ => F'); (with_reducible rename News _ _ _ _ => N'); (refine' tail_S (s := ⟨_, _, _, _, _⟩) ?hx ?hl F' N' ?_); (case hx => ktr_rel); (case hl => first | decide | omega | (simp only [List.length_append, List.length_cons, List.length_nil, List.length_replicate, List.length_map]; omega)); intro _ _ _ _ _))
local macro_rules | `(tactic| walk_at "call builtin:len cons nil") => `(tactic| ((with_reducible show wpAny _ _ (call (Value.builtin "len") [Value.str _ _]) _ _ _); (refine' len_S ?hx ?hl ?_); (case hx => ktr_rel); (case hl => first | decide | omega | (simp only [List.length_append, List.length_cons, List.length_nil, List.length_replicate, List.length_map]; omega)); intro _ _))
local macro_rules | `(tactic| walk_at "call builtin:len") => `(tactic| ((with_reducible show wpAny _ _ (call (Value.builtin "len") [Value.str _ _]) _ _ _); (refine' len_S ?hx ?hl ?_); (case hx => ktr_rel); (case hl => first | decide | omega | (simp only [List.length_append, List.length_cons, List.length_nil, List.length_replicate, List.length_map]; omega)); intro _ _))
local macro_rules | `(tactic| walk_at "binaryOp Add str str") => `(tactic| ((refine' add_S ?hx ?hy ?hl ?_); (case hx => ktr_rel); (case hy => ktr_rel); (case hl => first | decide | omega | (simp only [List.length_append, List.length_cons, List.length_nil, List.length_replicate, List.length_map]; omega)); intro _ _))
local macro_rules | `(tactic| walk_at "inplaceOp Add str str") => `(tactic| ((refine' iadd_S ?hx ?hy ?hl ?_); (case hx => ktr_rel); (case hy => ktr_rel); (case hl => first | decide | omega | (simp only [List.length_append, List.length_cons, List.length_nil, List.length_replicate, List.length_map]; omega)); intro _ _))
local macro_rules | `(tactic| walk_at "binaryOp Mult str int") => `(tactic| ((refine' mul_S ?hx ?hl ?h0 ?_); (case hx => ktr_rel); (case hl => omega); (case h0 => omega); intro _ _))
local macro_rules | `(tactic| walk_at "compareOp Eq str str") => `(tactic| ((refine' eq_S ?hx ?hy ?_); (case hx => ktr_rel); (case hy => ktr_rel)))
local macro_rules | `(tactic| walk_at "compareOp NotEq str str") => `(tactic| ((refine' ne_S ?hx ?hy ?_); (case hx => ktr_rel); (case hy => ktr_rel)))
local macro_rules | `(tactic| walk_at "compareOp In str str") => `(tactic| ((refine' in_S ?hx ?hy ?_); (case hx => ktr_rel); (case hy => ktr_rel)))
local macro_rules | `(tactic| walk_at "compareOp NotIn str str") => `(tactic| ((refine' notin_S ?hx ?hy ?_); (case hx => ktr_rel); (case hy => ktr_rel)))
local macro_rules | `(tactic| walk_at "truthy str") => `(tactic| ((refine' truthy_S ?hx ?hl ?_); (case hx => ktr_rel); (case hl => first | decide | omega | (simp only [List.length_append, List.length_cons, List.length_nil, List.length_replicate, List.length_map]; omega)); intro _))
local macro_rules | `(tactic| walk_at "call type:int cons nil") => `(tactic| ((with_reducible show wpAny _ _ (call (Value.type "int") [Value.str _ _]) _ _ _); (refine' int_S ?hx ?hc ?_); (case hx => ktr_rel); (case hc => omega); intro _ _))
local macro_rules | `(tactic| walk_at "call type:int") => `(tactic| ((with_reducible show wpAny _ _ (call (Value.type "int") [Value.str _ _]) _ _ _); (refine' int_S ?hx ?hc ?_); (case hx => ktr_rel); (case hc => omega); intro _ _))
local macro_rules | `(tactic| walk_at "compareOp Is bytes ref") => `(tactic| (refine wpAny_is_other (by rfl) (by intro x; cases x) ?_))
local macro_rules | `(tactic| walk_at "truthy str") => `(tactic| first | ((refine truthy_Sn (by with_reducible first | rfl | exact lit_nil) ?_); intro _) | ((refine truthy_Sc (by with_reducible first | rfl | exact lit_star) (by first | decide | omega | (simp only [List.length_append, List.length_cons, List.length_nil, List.length_replicate, List.length_map] at *; omega)) ?_); intro _))

local macro_rules | `(tactic| walk_at "truthy bytes") => `(tactic| (refine truthy_B (by first | omega | (simp only [List.length_append, List.length_cons, List.length_nil, List.length_take, List.length_drop]; omega)) ?_; intro _))
local macro_rules | `(tactic| walk_at "call builtin:len") => `(tactic| ((with_reducible show wpAny _ _ (call (Value.builtin "len") [Value.bytes (List.toArray _) _]) _ _ _); refine len_B (by first | omega | (simp only [List.length_append, List.length_cons, List.length_nil, List.length_take, List.length_drop]; omega)) ?_; intro _ _))
local macro_rules | `(tactic| walk_at "subscriptTail Name str Constant bytes int") => `(tactic| ((with_reducible show wpAny _ _ (subscriptTail _ _ (Value.bytes (List.toArray (_ :: _)) _) (Value.int 0 _)) _ _ _); refine item0_B (by first | omega | (simp only [List.length_append, List.length_cons, List.length_nil] at *; omega)) ?_; intro _ _))
local macro_rules | `(tactic| walk_at "subscriptTail Name Constant bytes int") => `(tactic| ((with_reducible show wpAny _ _ (subscriptTail _ _ (Value.bytes (List.toArray (_ :: _)) _) (Value.int 0 _)) _ _ _); refine item0_B (by first | omega | (simp only [List.length_append, List.length_cons, List.length_nil] at *; omega)) ?_; intro _ _))
local macro_rules | `(tactic| walk_at "subscriptTail") => `(tactic| ((with_reducible show wpAny _ _ (subscriptTail _ _ (Value.bytes (List.toArray (_ :: _)) _) (Value.int 0 _)) _ _ _); refine item0_B (by first | omega | (simp only [List.length_append, List.length_cons, List.length_nil] at *; omega)) ?_; intro _ _))
local macro_rules | `(tactic| walk_at "subscriptTail Name str Slice") => `(tactic| ((with_reducible show wpAny _ _ (subscriptTail _ (Expr.Slice none (some _) none _) (Value.bytes (List.toArray _) _) (Value.ref _)) _ _ _); (with_reducible rename Fr _ _ _ _ => F'); (with_reducible rename News _ _ _ _ => N'); (refine head_B (s := ⟨_, _, _, _, _⟩) F' N' (by first | decide | omega) (by first | omega | (simp only [List.length_append, List.length_cons, List.length_nil, List.length_take, List.length_drop] at *; omega)) ?_); intro _ _ _ _ _))
local macro_rules | `(tactic| walk_at "subscriptTail") => `(tactic| ((with_reducible show wpAny _ _ (subscriptTail _ (Expr.Slice none (some _) none _) (Value.bytes (List.toArray _) _) (Value.ref _)) _ _ _); (with_reducible rename Fr _ _ _ _ => F'); (with_reducible rename News _ _ _ _ => N'); (refine head_B (s := ⟨_, _, _, _, _⟩) F' N' (by first | decide | omega) (by first | omega | (simp only [List.length_append, List.length_cons, List.length_nil, List.length_take, List.length_drop] at *; omega)) ?_); intro _ _ _ _ _))
local macro_rules | `(tactic| walk_at "subscriptTail Name str Slice") => `(tactic| ((with_reducible show wpAny _ _ (subscriptTail _ (Expr.Slice (some _) none none _) (Value.bytes (List.toArray _) _) (Value.ref _)) _ _ _); (with_reducible rename Fr _ _ _ _ => F'); (with_reducible rename News _ _ _ _ => N'); (refine drop_B (s := ⟨_, _, _, _, _⟩) F' N' (by first | decide | omega) (by first | omega | (simp only [List.length_append, List.length_cons, List.length_nil, List.length_take, List.length_drop] at *; omega)) ?_); intro _ _ _ _ _))
local macro_rules | `(tactic| walk_at "subscriptTail") => `(tactic| ((with_reducible show wpAny _ _ (subscriptTail _ (Expr.Slice (some _) none none _) (Value.bytes (List.toArray _) _) (Value.ref _)) _ _ _); (with_reducible rename Fr _ _ _ _ => F'); (with_reducible rename News _ _ _ _ => N'); (refine drop_B (s := ⟨_, _, _, _, _⟩) F' N' (by first | decide | omega) (by first | omega | (simp only [List.length_append, List.length_cons, List.length_nil, List.length_take, List.length_drop] at *; omega)) ?_); intro _ _ _ _ _))
local macro_rules | `(tactic| walk_at "binaryOp Mod str int") => `(tactic| (first | ((with_reducible refine mod_x ?h0 ?h1 ?_); (case h0 => omega); (case h1 => omega); intro _ _) | ((with_reducible refine mod_o ?h0 ?h1 ?_); (case h0 => omega); (case h1 => omega); intro _ _)))
local macro_rules | `(tactic| walk_at "call builtin:bytes.decode") => `(tactic| ((with_reducible refine decode_B ?h0 ?h1 ?_); (case h0 => first | assumption | omega); (case h1 => assumption); intro _ _))
local macro_rules | `(tactic| walk_at "inplaceOp LShift int int") => `(tactic| ((refine shl8 (by omega) ?_); intro _ _))
local macro_rules | `(tactic| walk_at "inplaceOp BitOr int int") => `(tactic| ((refine or8 (by first | assumption | omega) ?_); intro _ _))
local macro_rules | `(tactic| walk_at "truthy bytes") => `(tactic| first | ((with_reducible refine truthy_Bn ?_); intro _) | ((with_reducible refine truthy_Bc ?hl ?_); (case hl => first | decide | omega | (simp only [List.length_append, List.length_cons, List.length_nil, List.length_replicate, List.length_map] at *; omega)); intro _))

local macro_rules | `(tactic| ktr_unf) => `(tactic| repeat' (first | (k_unfold; (try dsimp only)) | (k_end; kc_close) | ((fail_if_success (with_reducible show wpAny _ _ (exec (Stmt.While _ _ _ _) _) _ _ _)); (fail_if_success (with_reducible show wpAny _ _ (execs (Stmt.Assign _ (Expr.ListComp _ _ _ _) _ :: _) _) _ _ _)); (fail_if_success (with_reducible show wpAny _ _ (exec (Stmt.For _ _ _ _ _) _) _ _ _)); (fail_if_success (with_reducible show wpAny _ _ (eval (Expr.ListComp _ _ _ _) _) _ _ _)); (fail_if_success (with_reducible show wpAny _ _ (exec (Stmt.Assign _ (Expr.ListComp _ _ _ _) _) _) _ _ _)); (fail_if_success (with_reducible show wpAny _ _ (pyIter _) _ _ _)); (fail_if_success (with_reducible show wpAny _ _ (exec (Stmt.If (Expr.Compare _ _ [Expr.Constant (Const.str (Str.ofString "a")) _ _] _) _ _ _) _) _ _ _)); (fail_if_success (with_reducible show LCg.CompSrc _ _ _ _ _ _ _ _ _ _ _ _ _ _)); (first | walk1 | (dsimp only; walk1))) | (leave1; walk_say "STEP leave1"; (try dsimp only)) | fail "no step"))

local macro_rules | `(tactic| k_room) => `(tactic| ktr_room)
local macro_rules | `(tactic| walk_at "loadName") => `(tactic| k_dflt (refine' wpAny_loadName_local ?k ?l (Fr.ns ?F) ?v ?_; (case F => k_asm); (case k => rfl); (case l => rfl); (case v => rfl); k_whole))
local macro_rules | `(tactic| walk_at "call ref") => `(tactic| ((with_reducible show wpAny _ _ (call (Value.ref 402) _) _ _ _); k_dflt (refine' number_spec _ _ _ _ _ _ _ _ _ _ _ _ _ _ _ _ _ _ _ _ _ _ _ ?k1 ?k2 ?k3 ?k4 ?k5 ?kK ?a1 ?a2 ?a3 ?a4 ?a5 ?kd ?ku ?kR; (case k1 => k_asm); (case k2 => k_asm); (case k3 => k_asm); (case k4 => k_asm); (case k5 => k_asm); (case kK => first | exact rfl | assumption); (case a1 => assumption); (case a2 => assumption); (case a3 => assumption); (case a4 => omega); (case a5 => omega); (case kd => ktr_room); (case ku => ktr_units); intro t9 h9 tk9 F9 N9; (try dsimp only); (try k_fold))))
local macro_rules | `(tactic| walk_at "call type:str") => `(tactic| ((with_reducible show wpAny _ _ (call (Value.type "str") [Value.int _ _]) _ _ _); k_dflt (refine' str_I ?h1 ?h2 ?_; (case h1 => omega); (case h2 => omega)); intro _ _))

local macro_rules | `(tactic| walk_at "inplaceOp Add ref ref") => `(tactic| ((with_reducible show wpAny _ _ (inplaceOp Operator.Add (Value.ref _) (Value.ref _)) _ _ _); k_dflt (refine' iadd_list ?F ?N ?b ?ne ?U ?z ?_; (case F => k_asm); (case N => k_asm); (case b => k_mem); (case ne => assumption); (case U => k_upd); (case z => omega)); intro h' F' N'; (try k_sweep)))
local macro_rules | `(tactic| walk_at "inplaceOp Add ref") => `(tactic| ((with_reducible show wpAny _ _ (inplaceOp Operator.Add (Value.ref _) (Value.ref _)) _ _ _); k_dflt (refine' iadd_list ?F ?N ?b ?ne ?U ?z ?_; (case F => k_asm); (case N => k_asm); (case b => k_mem); (case ne => assumption); (case U => k_upd); (case z => omega)); intro h' F' N'; (try k_sweep)))
local macro_rules | `(tactic| walk_at "call ref") => `(tactic| ((with_reducible show wpAny _ _ (call (Value.ref 414) _) _ _ _); k_dflt (refine' item_spec _ _ _ _ _ _ _ _ _ _ _ _ _ _ _ _ _ _ _ _ _ _ _ _ ?k1 ?k2 ?k3 ?k4 ?k5 ?kK ?a1 ?a2 ?a3 ?a4 ?a5 ?a6 ?a7 ?kd ?ku ?kR; (case k1 => k_asm); (case k2 => k_asm); (case k3 => k_asm); (case k4 => k_asm); (case k5 => k_asm); (case kK => first | exact rfl | assumption); (case a1 => k_mem); (case a2 => assumption); (case a3 => assumption); (case a4 => assumption); (case a5 => assumption); (case a6 => omega); (case a7 => omega); (case kd => ktr_room); (case ku => ktr_units); intro t9 h9 tk9 F9 N9; (try dsimp only); (try k_fold))))
local macro_rules | `(tactic| walk_at "ite") => `(tactic| first | (refine ite_neg (by first | omega | (simp only [beq_iff_eq, bne_iff_ne, decide_eq_true_eq, ne_eq]; omega)) ?_) | (refine ite_pos (by first | omega | (simp only [beq_iff_eq, bne_iff_ne, decide_eq_true_eq, ne_eq]; done) | (simp only [beq_iff_eq, bne_iff_ne, decide_eq_true_eq, ne_eq]; omega)) ?_))

def pAt (ps : List Pt) (c g : Nat) : Pt := ps.getD (g % c) ⟨1, 0, false, 0, 0, 0⟩
def octAt (ns : List Int) (b : Int) (c tot : Nat) (ps : List Pt) (g : Nat) : List Nat := gOcts (pAt ps c g) (numF ns (b + 5 + 2 * (g : Int))) (numF ns (b + 6 + 2 * (g : Int))) (decide ((g : Int) = (tot : Int) - 1))
def pieceAt (ns : List Int) (b : Int) (c tot : Nat) (ps : List Pt) (g : Nat) : List Nat × List Nat := (gTold (pAt ps c g) (numF ns (b + 5 + 2 * (g : Int))) (numF ns (b + 6 + 2 * (g : Int))) (decide ((g : Int) = (tot : Int) - 1)), sepP (pAt ps c g))
theorem itOf_le (rep : Bool) (D : Int) : itOf rep D ≤ 3 := by
  unfold itOf
  have x1 := fm_lo D (show (0 : Int) < 4 by decide)
  have x2 := fm_hi D (show (0 : Int) < 4 by decide)
  split <;> omega
theorem gRows_ok (p : Pt) (hp : POk p) (D M : Int) (last : Bool) : (gRows p D M last).length ≤ 3 ∧ ∀ r ∈ gRows p D M last, r.length ≤ 2 ∧ ∀ x ∈ r, x < 256 := by
  unfold gRows rowsN
  refine ⟨by rw [List.length_map, List.length_range]; exact itOf_le _ _, ?_⟩
  intro r hr
  obtain ⟨j, _, rfl⟩ := List.mem_map.mp hr
  exact rowAt_ok _ _ _ _ _ _ hp.2.1
theorem gOcts_len (p : Pt) (hp : POk p) (D M : Int) (last : Bool) : (gOcts p D M last).length ≤ 7 := by
  have h := gRows_ok p hp D M last
  have h2 := (rows_len 0 (by decide) [] (by decide) _ h.2).2
  unfold gOcts
  rw [List.length_append]
  have : (if p.rep = true then [itOf p.rep D] else []).length ≤ 1 := by split <;> simp
  omega
theorem flat_len {α : Type} (f : Nat → List α) (k : Nat) (h : ∀ g, (f g).length ≤ k) : ∀ n, (((List.range n).map f).flatten).length ≤ k * n
  | 0 => Nat.zero_le _
  | n + 1 => by
    rw [List.range_succ, List.map_append, List.flatten_append, List.length_append, Nat.mul_succ]
    have h1 := flat_len f k h n
    have h2 := h n
    simp only [List.map_cons, List.map_nil, List.flatten_cons, List.flatten_nil, List.append_nil]
    omega
theorem pAt_ok (ps : List Pt) (c g : Nat) (hps : ∀ p ∈ ps, POk p) (hc : c = ps.length) (h1 : 1 ≤ c) : ps[g % c]? = some (pAt ps c g) ∧ POk (pAt ps c g) := by
  have hlt : g % c < ps.length := by rw [← hc]; exact Nat.mod_lt _ h1
  have e : ps[g % c]? = some (pAt ps c g) := by
    unfold pAt
    rw [List.getD_eq_getElem?_getD, List.getElem?_eq_getElem hlt]; rfl
  exact ⟨e, hps _ (List.mem_of_getElem? e)⟩
theorem gfor_spec : ∀ {w : World} {mean : ExcName → Option Value} {mg mb : Str → Option Value} (dp un : Nat) (gd : Option (List Code)) (a : Addr) (ccd : Value) (outer : List Env) (A₀ : Around) (base h₀ : Heap) (L : Addr) (m : Str → Option Value) (news : List (Addr × Obj)) (s : Shared) (l : Addr) (vs : List Value) (ns : List Int) (b : Int) (c tot : Nat) (ps : List Pt) (pa oa qa : Addr) (pvs : List Value) (np : Nat) (oj om ow : Obj) (vj vm vw : Option Value) (t1 t2 t4 : Tok) (Q : Flow → Shared → Prop) (E : Value → Shared → Prop)
    (_ : Below A₀ base outer h₀) (_ : Fr h₀ L s.heap m) (_ : (hd.heap_39 w.params).In h₀) (_ : Top hd.view_39 (looseW hd.view_39 [Str.ofString "noValue", Str.ofString "Value", Str.ofString "Integer32", Str.ofString "OctetString", Str.ofString "SmiError", Str.ofString "TextualConvention", Str.ofString "HintedString", Str.ofString "HintedInteger", Str.ofString "TestAndIncr", Str.ofString "RowStatus"]) mean mg mb h₀) (_ : dp + 20 < recursionLimit) (_ : un + 200 < cLine) (_ : base.IsList l vs.toArray) (_ : IntsAre vs ns) (_ : ns.length < 2 ^ 62) (_ : News h₀ L s.heap ((L + 1 + 1 + 1, oj) :: (L + 1 + 1, om) :: (L + 1, ow) :: (oa, listOf #[] 0) :: (qa, listOf #[] 0) :: news))
    (_ : @LT.lt Nat _ (L + 1 + 1 + 1) oa) (_ : @LT.lt Nat _ oa qa) (_ : @LT.lt Nat _ (L + 1 + 1 + 1) pa) (_ : OwnOff news [L + 1 + 1 + 1, L + 1 + 1, L + 1, oa, qa])
    (_ : (pa, listOf pvs.toArray np) ∈ news) (_ : AllAt IsPart news pvs ps) (_ : ∀ p ∈ ps, POk p) (_ : c = ps.length)
    (_ : 0 ≤ b) (_ : b ≤ 80) (_ : id (tot ≤ 6)) (_ : 1 ≤ c) (_ : c ≤ 3)
    (_ : oj.data = .cell vj) (_ : om.data = .cell vm) (_ : ow.data = .cell vw)
    (_ : Has m [(Str.ofString "script", .ref l), (Str.ofString "base", .int b t1), (Str.ofString "count", .int (c : Int) t2), (Str.ofString "total", .int (tot : Int) t4), (Str.ofString "parts", .ref pa), (Str.ofString "octets", .ref oa), (Str.ofString "pieces", .ref qa)])
    (_ : PassesOwn (model Challenge.rw_am6029_01.row.prog w) (ktrTop dp un gd (Str.ofString "law") lScope L a ccd (cellsFrom (L + 1) lScope.names []) outer) (envX (Str.ofString "law") lScope L a ccd (cellsFrom (L + 1) lScope.names [])) E)
    (_ : ∀ (h' : Heap) (tk : Nat) (m' : Str → Option Value) (oj' om' ow' : Obj) (vj' vm' vw' : Option Value) (ys qvs : List Value) (no nq : Nat) (tl : List (Addr × Obj)), Fr h₀ L h' m' → oj'.data = .cell vj' → om'.data = .cell vm' → ow'.data = .cell vw' → News h₀ L h' ((L + 1 + 1 + 1, oj') :: (L + 1 + 1, om') :: (L + 1, ow') :: (oa, listOf ys.toArray no) :: (qa, listOf qvs.toArray nq) :: tl) → (∀ p ∈ news, p ∈ tl) → AllAt IsPiece tl qvs ((List.range tot).map (pieceAt ns b c tot ps)) → IntsAre ys ((((List.range tot).map (octAt ns b c tot ps)).flatten).map Int.ofNat) → (∀ z, z ≠ Str.ofString "g" → z ≠ Str.ofString "length" → z ≠ Str.ofString "repeated" → z ≠ Str.ofString "sep" → z ≠ Str.ofString "mark" → z ≠ Str.ofString "drawn" → z ≠ Str.ofString "told" → z ≠ Str.ofString "items" → z ≠ Str.ofString "short" → z ≠ Str.ofString "row" → m' z = m z) → Q .next { s with heap := h', toks := tk }),
    wpAny (model Challenge.rw_am6029_01.row.prog w) (ktrTop dp un gd (Str.ofString "law") lScope L a ccd (cellsFrom (L + 1) lScope.names []) outer) (exec gFor (envX (Str.ofString "law") lScope L a ccd (cellsFrom (L + 1) lScope.names []))) Q E s := by
  k_fill
  intro w mean mg mb dp un gd a ccd outer A₀ base h₀ L m news s l vs ns b c tot ps pa oa qa pvs np oj om ow vj vm vw t1 t2 t4 Q E B F X T0 hd hu hl hi hfit N hoa hoq hpa hoff hpm hall hps hcl hb0 hb1 htot hc1 hc3 hj hm' hw hm hE hret
  conv => arg 3; arg 1; whnf
  have hpe := pin_eq hm
  rw [← hpe] at F
  dsimp only [pin] at F hpe
  refine For_invVF F rfl rfl ?_ (hE := hE)
  ktr_unf
  rename IsRange _ _ _ _ _ _ _ _ => R
  rename Fr _ _ _ _ => F2
  rename News _ _ _ _ => N2
  rw [hpe] at F2
  have htot6 : tot ≤ 6 := htot
  refine for_range (fun i m' nx => ∃ (oj' om' ow' : Obj) (vj' vm' vw' : Option Value) (ys qvs : List Value) (no nq : Nat) (tl : List (Addr × Obj)), nx = (L + 1 + 1 + 1, oj') :: (L + 1 + 1, om') :: (L + 1, ow') :: (oa, listOf ys.toArray no) :: (qa, listOf qvs.toArray nq) :: tl ∧ oj'.data = .cell vj' ∧ om'.data = .cell vm' ∧ ow'.data = .cell vw' ∧ OwnOff tl [L + 1 + 1 + 1, L + 1 + 1, L + 1, oa, qa] ∧ (∀ p ∈ news, p ∈ tl) ∧ AllAt IsPiece tl qvs ((List.range i).map (pieceAt ns b c tot ps)) ∧ IntsAre ys ((((List.range i).map (octAt ns b c tot ps)).flatten).map Int.ofNat) ∧ (∀ z, z ≠ Str.ofString "g" → z ≠ Str.ofString "length" → z ≠ Str.ofString "repeated" → z ≠ Str.ofString "sep" → z ≠ Str.ofString "mark" → z ≠ Str.ofString "drawn" → z ≠ Str.ofString "told" → z ≠ Str.ofString "items" → z ≠ Str.ofString "short" → z ≠ Str.ofString "row" → m' z = m z)) rfl R (by omega) F2 N2 ⟨oj, om, ow, vj, vm, vw, [], [], 0, 0, news, rfl, hj, hm', hw, hoff, fun _ h => h, .nil, .nil, fun _ _ _ _ _ _ _ _ _ _ _ => rfl⟩ ?_ ?_
  · clear F2 N2 R
    rintro i t m₁ nx h tk own hi9 hown ⟨oj1, om1, ow1, vj1, vm1, vw1, ys, qvs, no, nq, tl, rfl, d1, d2, d3, hoff1, hsub, hpc, hys, e1⟩ F1 N1
    have hown5 : OwnOff own [L + 1 + 1 + 1, L + 1 + 1, L + 1, oa, qa] := fun p hp b hb => hown p hp b (by
      simp only [List.map_cons, List.mem_cons, List.not_mem_nil, or_false] at hb ⊢
      rcases hb with h | h | h | h | h <;> simp [h])
    have hsub2 : ∀ p ∈ news, p ∈ tl ++ own := fun p hp => List.mem_append_left _ (hsub p hp)
    have hpA := pAt_ok ps c i hps hcl hc1
    have hyl := hys.length
    rw [List.length_map] at hyl
    have hfl := flat_len (octAt ns b c tot ps) 7 (fun g => gOcts_len _ (pAt_ok ps c g hps hcl hc1).2 _ _ _) i
    have hql := hpc.length
    rw [List.length_map, List.length_range] at hql
    have g1 : ∀ z v, z ≠ Str.ofString "g" → z ≠ Str.ofString "length" → z ≠ Str.ofString "repeated" → z ≠ Str.ofString "sep" → z ≠ Str.ofString "mark" → z ≠ Str.ofString "drawn" → z ≠ Str.ofString "told" → z ≠ Str.ofString "items" → z ≠ Str.ofString "short" → z ≠ Str.ofString "row" → (if z = Str.ofString "g" then v else m₁ z) = m z := fun z v z1 z2 z3 z4 z5 z6 z7 z8 z9 z10 => (if_neg z1).trans (e1 z z1 z2 z3 z4 z5 z6 z7 z8 z9 z10)
    refine gbody_spec _ _ _ _ _ _ _ _ _ _ _ (tl ++ own) _ l vs ns b c i tot ps (pAt ps c i) pa oa qa pvs ys qvs np no nq oj1 om1 ow1 vj1 vm1 vw1 _ _ _ _ _ _ B F1 X T0 hd hu hl hi hfit N1 hoa hoq hpa (off_app hoff1 hown5) (hsub2 _ hpm) (hall.mono hsub2) hpA.1 hpA.2 hb0 hb1 hi9 htot6 hc1 hc3 (by omega) (by omega) d1 d2 d3 ⟨(g1 (Str.ofString "script") _ (by decide) (by decide) (by decide) (by decide) (by decide) (by decide) (by decide) (by decide) (by decide) (by decide)).trans hm.1, (g1 (Str.ofString "base") _ (by decide) (by decide) (by decide) (by decide) (by decide) (by decide) (by decide) (by decide) (by decide) (by decide)).trans hm.2.1, (g1 (Str.ofString "count") _ (by decide) (by decide) (by decide) (by decide) (by decide) (by decide) (by decide) (by decide) (by decide) (by decide)).trans hm.2.2.1, if_pos rfl, (g1 (Str.ofString "total") _ (by decide) (by decide) (by decide) (by decide) (by decide) (by decide) (by decide) (by decide) (by decide) (by decide)).trans hm.2.2.2.1, (g1 (Str.ofString "parts") _ (by decide) (by decide) (by decide) (by decide) (by decide) (by decide) (by decide) (by decide) (by decide) (by decide)).trans hm.2.2.2.2.1, (g1 (Str.ofString "octets") _ (by decide) (by decide) (by decide) (by decide) (by decide) (by decide) (by decide) (by decide) (by decide) (by decide)).trans hm.2.2.2.2.2.1, (g1 (Str.ofString "pieces") _ (by decide) (by decide) (by decide) (by decide) (by decide) (by decide) (by decide) (by decide) (by decide) (by decide)).trans hm.2.2.2.2.2.2.1, trivial⟩ hE ?_
    intro h9 tk9 m9 oj2 om2 ow2 vj2 vm2 vw2 ys2 no2 D w1 w2 F9 f1 f2 f3 N9 hqD hall9 hys2 e2
    have hall' := allLt_use hall9
    refine ⟨h9, tk9, m9, _, (L + 1 + 1 + 1, oj2) :: (L + 1 + 1, om2) :: (L + 1, ow2) :: (oa, listOf (ys ++ ys2).toArray no2) :: (qa, listOf (qvs ++ [Value.ref D]).toArray (nq + 1)) :: (D, pieceO (gTold (pAt ps c i) (numF ns (b + 5 + 2 * (i : Int))) (numF ns (b + 6 + 2 * (i : Int))) (decide ((i : Int) = (tot : Int) - 1))) (sepP (pAt ps c i)) w1 w2) :: tl, rfl, F9, N9, ?_, ?_, ?_, oj2, om2, ow2, vj2, vm2, vw2, ys ++ ys2, qvs ++ [Value.ref D], no2, nq + 1, _, rfl, f1, f2, f3, ?_, ?_, ?_, ?_, ?_⟩
    · intro p hp
      simp only [List.mem_cons, List.mem_append] at hp ⊢
      rcases hp with h | h | h | h | h | h | h <;> simp [h]
    · intro p hp
      simp only [List.mem_cons, List.mem_append]
      simp [hp]
    · intro p hp b' hb
      simp only [List.map_cons, List.mem_cons] at hb
      rcases hb with h | h | h | h | h | h | h
      · exact hown5 p hp b' (by simp [h])
      · exact hown5 p hp b' (by simp [h])
      · exact hown5 p hp b' (by simp [h])
      · exact hown5 p hp b' (by simp [h])
      · exact hown5 p hp b' (by simp [h])
      · exact h ▸ Nat.ne_of_lt (hall' p (List.mem_append_right _ hp))
      · exact hown p hp b' (by simp [h])
    · intro p hp b' hb
      rcases List.mem_cons.mp hp with rfl | hp
      · simp only [List.mem_cons, List.not_mem_nil, or_false] at hb
        rcases hb with h | h | h | h | h <;> (rw [h]; exact neN (by dsimp only; omega))
      · exact hoff1 p hp b' hb
    · exact fun p hp => .tail _ (hsub p hp)
    · rw [List.range_succ, List.map_append]
      exact (hpc.mono (fun p hp => .tail _ hp)).append (.cons (.head _) ⟨_, _, rfl⟩ .nil)
    · rw [List.range_succ, List.map_append, List.flatten_append, List.map_append]
      refine IntsAre.append hys ?_
      simp only [List.map_cons, List.map_nil, List.flatten_cons, List.flatten_nil, List.append_nil]
      exact hys2
    · intro z z1 z2 z3 z4 z5 z6 z7 z8 z9 z10
      exact (e2 z z2 z3 z4 z5 z6 z7 z8 z9 z10).trans (g1 z _ z1 z2 z3 z4 z5 z6 z7 z8 z9 z10)
  · clear F2 N2 R
    rintro m₁ nx h tk ⟨oj1, om1, ow1, vj1, vm1, vw1, ys, qvs, no, nq, tl, rfl, d1, d2, d3, hoff1, hsub, hpc, hys, e1⟩ F1 N1
    exact hret _ _ _ _ _ _ _ _ _ ys qvs no nq tl F1 d1 d2 d3 N1 hsub hpc hys e1

end
section
theorem freshL14 : True := by w_top off; exact True.intro

local macro_rules | `(tactic| ktr_rel) => `(tactic| with_reducible first | rfl | assumption | exact lit_fig | exact lit_zero | exact lit_nil | exact lit_star | exact lit_dots | exact lit_coms | exact lit_xdoa | exact lit_dig | exact lit_a | exact lit_t | exact lit_x | exact lit_d | exact lit_o | exact lit_B | exact lit_integer | exact lit_string | exact lit_ascii | exact lit_ignore | exact lit_f02x | exact lit_f03o | exact lit_fd | exact lit_b | fail "no S")
local macro_rules | `(tactic| ktr_unf) => `(tactic| repeat' (first | (k_unfold; (try dsimp only)) | (k_end; kc_close) | ((fail_if_success (with_reducible show wpAny _ _ (exec (Stmt.While _ _ _ _) _) _ _ _)); (fail_if_success (with_reducible show wpAny _ _ (exec (Stmt.For _ _ _ _ _) _) _ _ _)); (fail_if_success (with_reducible show wpAny _ _ (eval (Expr.ListComp _ _ _ _) _) _ _ _)); (fail_if_success (with_reducible show wpAny _ _ (exec (Stmt.Assign _ (Expr.ListComp _ _ _ _) _) _) _ _ _)); (fail_if_success (with_reducible show wpAny _ _ (pyIter _) _ _ _)); (fail_if_success (with_reducible show LCg.CompSrc _ _ _ _ _ _ _ _ _ _ _ _ _ _)); (first | walk1 | (dsimp only; walk1))) | (leave1; walk_say "STEP leave1"; (try dsimp only)) | fail "no step"))
local macro_rules | `(tactic| walk_at "subscriptTail Constant str BinOp") => `(tactic| ((with_reducible show wpAny _ _ (subscriptTail _ _ (Value.str _ _) (Value.int _ _)) _ _ _); (refine' itemD_S ?hx ?h0 ?h1 ?hl ?_); (case hx => ktr_rel); (case h0 => first | decide | omega | exact fmod_lo _ (by decide)); (case h1 => first | decide | omega | exact fmod_hi _ (by decide)); (case hl => first | decide | omega | (simp only [List.length_append, List.length_cons, List.length_nil, List.length_replicate, List.length_map]; omega)); intro _ _))
local macro_rules | `(tactic| walk_at "subscriptTail") => `(tactic| ((with_reducible show wpAny _ _ (subscriptTail _ _ (Value.str _ _) (Value.int _ _)) _ _ _); (refine' itemD_S ?hx ?h0 ?h1 ?hl ?_); (case hx => ktr_rel); (case h0 => first | decide | omega | exact fmod_lo _ (by decide)); (case h1 => first | decide | omega | exact fmod_hi _ (by decide)); (case hl => first | decide | omega | (simp only [List.length_append, List.length_cons, List.length_nil, List.length_replicate, List.length_map]; omega)); intro _ _))
local macro_rules | `(tactic| walk_at "subscriptTail Name Constant str int") => `(tactic| ((with_reducible show wpAny _ _ (subscriptTail _ _ (Value.str _ _) (Value.int 0 _)) _ _ _); (refine' item0_S ?hx ?hl ?_); (case hx => ktr_rel); (case hl => first | decide | omega | (simp only [List.length_append, List.length_cons, List.length_nil, List.length_replicate, List.length_map]; omega)); intro _ _))
local macro_rules | `(tactic| walk_at "subscriptTail") => `(tactic| ((with_reducible show wpAny _ _ (subscriptTail _ _ (Value.str _ _) (Value.int 0 _)) _ _ _); (refine' item0_S ?hx ?hl ?_); (case hx => ktr_rel); (case hl => first | decide | omega | (simp only [List.length_append, List.length_cons, List.length_nil, List.length_replicate, List.length_map]; omega)); intro _ _))
local macro_rules | `(tactic| walk_at "subscriptTail Name Slice str ref") => `(tactic| ((with_reducible show wpAny _ _ (subscriptTail _ (Expr.Slice (some _) none none _) (Value.str _ _) (Value.ref _)) _ _ _); (with_reducible rename Fr _ _ _ _ => F'); (with_reducible rename News _ _ _ _ => N'); (refine' tail_S (s := ⟨_, _, _, _, _⟩) ?hx ?hl F' N' ?_); (case hx => ktr_rel); (case hl => first | decide | omega | (simp only [List.length_append, List.length_cons, List.length_nil, List.length_replicate, List.length_map]; omega)); intro _ _ _ _ _))
local macro_rules | `(tactic| walk_at "subscriptTail") => `(tactic| ((with_reducible show wpAny _ _ (subscriptTail _ (Expr.Slice (some _) none none _) (Value.str _ _) (Value.ref _)) _ _ _); (with_reducible rename Fr _ _ _ _ => F'); (with_reducible rename News _ _ _ _ => N'); (refine' tail_S (s := ⟨_, _, _, _, _⟩) ?hx ?hl F' N' ?_); (case hx => ktr_rel); (case hl => first | decide | omega | (simp only [List.length_append, List.length_cons, List.length_nil, List.length_replicate, List.length_map]; omega)); intro _ _ _ _ _))
local macro_rules | `(tactic| walk_at "call builtin:len cons nil") => `(tactic| ((with_reducible show wpAny _ _ (call (Value.builtin "len") [Value.str _ _]) _ _ _); (refine' len_S ?hx ?hl ?_); (case hx => ktr_rel); (case hl => first | decide | omega | (simp only [List.length_append, List.length_cons, List.length_nil, List.length_replicate, List.length_map]; omega)); intro _ _))
local macro_rules | `(tactic| walk_at "call builtin:len") => `(tactic| ((with_reducible show wpAny _ _ (call (Value.builtin "len") [Value.str _ _]) _ _ _); (refine' len_S ?hx ?hl ?_); (case hx => ktr_rel); (case hl => first | decide | omega | (simp only [List.length_append, List.length_cons, List.length_nil, List.length_replicate, List.length_map]; omega)); intro _ _))
local macro_rules | `(tactic| walk_at "binaryOp Add str str") => `(tactic| ((refine' add_S ?hx ?hy ?hl ?_); (case hx => ktr_rel); (case hy => ktr_rel); (case hl => first | decide | omega | (simp only [List.length_append, List.length_cons, List.length_nil, List.length_replicate, List.length_map]; omega)); intro _ _))
local macro_rules | `(tactic| walk_at "inplaceOp Add str str") => `(tactic| ((refine' iadd_S ?hx ?hy ?hl ?_); (case hx => ktr_rel); (case hy => ktr_rel); (case hl => first | decide | omega | (simp only [List.length_append, List.length_cons, List.length_nil, List.length_replicate, List.length_map]; omega)); intro _ _))
local macro_rules | `(tactic| walk_at "binaryOp Mult str int") => `(tactic| ((refine' mul_S ?hx ?hl ?h0 ?_); (case hx => ktr_rel); (case hl => omega); (case h0 => omega); intro _ _))
local macro_rules | `(tactic| walk_at "compareOp Eq str str") => `(tactic| ((refine' eq_S ?hx ?hy ?_); (case hx => ktr_rel); (case hy => ktr_rel)))
local macro_rules | `(tactic| walk_at "compareOp NotEq str str") => `(tactic| ((refine' ne_S ?hx ?hy ?_); (case hx => ktr_rel); (case hy => ktr_rel)))
local macro_rules | `(tactic| walk_at "compareOp In str str") => `(tactic| ((refine' in_S ?hx ?hy ?_); (case hx => ktr_rel); (case hy => ktr_rel)))
local macro_rules | `(tactic| walk_at "compareOp NotIn str str") => `(tactic| ((refine' notin_S ?hx ?hy ?_); (case hx => ktr_rel); (case hy => ktr_rel)))
local macro_rules | `(tactic| walk_at "truthy str") => `(tactic| ((refine' truthy_S ?hx ?hl ?_); (case hx => ktr_rel); (case hl => first | decide | omega | (simp only [List.length_append, List.length_cons, List.length_nil, List.length_replicate, List.length_map]; omega)); intro _))
local macro_rules | `(tactic| walk_at "call type:int cons nil") => `(tactic| ((with_reducible show wpAny _ _ (call (Value.type "int") [Value.str _ _]) _ _ _); (refine' int_S ?hx ?hc ?_); (case hx => ktr_rel); (case hc => omega); intro _ _))
local macro_rules | `(tactic| walk_at "call type:int") => `(tactic| ((with_reducible show wpAny _ _ (call (Value.type "int") [Value.str _ _]) _ _ _); (refine' int_S ?hx ?hc ?_); (case hx => ktr_rel); (case hc => omega); intro _ _))
local macro_rules | `(tactic| walk_at "compareOp Is bytes ref") => `(tactic| (refine wpAny_is_other (by rfl) (by intro x; cases x) ?_))
local macro_rules | `(tactic| walk_at "truthy str") => `(tactic| first | ((refine truthy_Sn (by with_reducible first | rfl | exact lit_nil) ?_); intro _) | ((refine truthy_Sc (by with_reducible first | rfl | exact lit_star) (by first | decide | omega | (simp only [List.length_append, List.length_cons, List.length_nil, List.length_replicate, List.length_map] at *; omega)) ?_); intro _))

local macro_rules | `(tactic| walk_at "truthy bytes") => `(tactic| (refine truthy_B (by first | omega | (simp only [List.length_append, List.length_cons, List.length_nil, List.length_take, List.length_drop]; omega)) ?_; intro _))
local macro_rules | `(tactic| walk_at "call builtin:len") => `(tactic| ((with_reducible show wpAny _ _ (call (Value.builtin "len") [Value.bytes (List.toArray _) _]) _ _ _); refine len_B (by first | omega | (simp only [List.length_append, List.length_cons, List.length_nil, List.length_take, List.length_drop]; omega)) ?_; intro _ _))
local macro_rules | `(tactic| walk_at "subscriptTail Name str Constant bytes int") => `(tactic| ((with_reducible show wpAny _ _ (subscriptTail _ _ (Value.bytes (List.toArray (_ :: _)) _) (Value.int 0 _)) _ _ _); refine item0_B (by first | omega | (simp only [List.length_append, List.length_cons, List.length_nil] at *; omega)) ?_; intro _ _))
local macro_rules | `(tactic| walk_at "subscriptTail Name Constant bytes int") => `(tactic| ((with_reducible show wpAny _ _ (subscriptTail _ _ (Value.bytes (List.toArray (_ :: _)) _) (Value.int 0 _)) _ _ _); refine item0_B (by first | omega | (simp only [List.length_append, List.length_cons, List.length_nil] at *; omega)) ?_; intro _ _))
local macro_rules | `(tactic| walk_at "subscriptTail") => `(tactic| ((with_reducible show wpAny _ _ (subscriptTail _ _ (Value.bytes (List.toArray (_ :: _)) _) (Value.int 0 _)) _ _ _); refine item0_B (by first | omega | (simp only [List.length_append, List.length_cons, List.length_nil] at *; omega)) ?_; intro _ _))
local macro_rules | `(tactic| walk_at "subscriptTail Name str Slice") => `(tactic| ((with_reducible show wpAny _ _ (subscriptTail _ (Expr.Slice none (some _) none _) (Value.bytes (List.toArray _) _) (Value.ref _)) _ _ _); (with_reducible rename Fr _ _ _ _ => F'); (with_reducible rename News _ _ _ _ => N'); (refine head_B (s := ⟨_, _, _, _, _⟩) F' N' (by first | decide | omega) (by first | omega | (simp only [List.length_append, List.length_cons, List.length_nil, List.length_take, List.length_drop] at *; omega)) ?_); intro _ _ _ _ _))
local macro_rules | `(tactic| walk_at "subscriptTail") => `(tactic| ((with_reducible show wpAny _ _ (subscriptTail _ (Expr.Slice none (some _) none _) (Value.bytes (List.toArray _) _) (Value.ref _)) _ _ _); (with_reducible rename Fr _ _ _ _ => F'); (with_reducible rename News _ _ _ _ => N'); (refine head_B (s := ⟨_, _, _, _, _⟩) F' N' (by first | decide | omega) (by first | omega | (simp only [List.length_append, List.length_cons, List.length_nil, List.length_take, List.length_drop] at *; omega)) ?_); intro _ _ _ _ _))
local macro_rules | `(tactic| walk_at "subscriptTail Name str Slice") => `(tactic| ((with_reducible show wpAny _ _ (subscriptTail _ (Expr.Slice (some _) none none _) (Value.bytes (List.toArray _) _) (Value.ref _)) _ _ _); (with_reducible rename Fr _ _ _ _ => F'); (with_reducible rename News _ _ _ _ => N'); (refine drop_B (s := ⟨_, _, _, _, _⟩) F' N' (by first | decide | omega) (by first | omega | (simp only [List.length_append, List.length_cons, List.length_nil, List.length_take, List.length_drop] at *; omega)) ?_); intro _ _ _ _ _))
local macro_rules | `(tactic| walk_at "subscriptTail") => `(tactic| ((with_reducible show wpAny _ _ (subscriptTail _ (Expr.Slice (some _) none none _) (Value.bytes (List.toArray _) _) (Value.ref _)) _ _ _); (with_reducible rename Fr _ _ _ _ => F'); (with_reducible rename News _ _ _ _ => N'); (refine drop_B (s := ⟨_, _, _, _, _⟩) F' N' (by first | decide | omega) (by first | omega | (simp only [List.length_append, List.length_cons, List.length_nil, List.length_take, List.length_drop] at *; omega)) ?_); intro _ _ _ _ _))
local macro_rules | `(tactic| walk_at "binaryOp Mod str int") => `(tactic| (first | ((with_reducible refine mod_x ?h0 ?h1 ?_); (case h0 => omega); (case h1 => omega); intro _ _) | ((with_reducible refine mod_o ?h0 ?h1 ?_); (case h0 => omega); (case h1 => omega); intro _ _)))
local macro_rules | `(tactic| walk_at "call builtin:bytes.decode") => `(tactic| ((with_reducible refine decode_B ?h0 ?h1 ?_); (case h0 => first | assumption | omega); (case h1 => assumption); intro _ _))
local macro_rules | `(tactic| walk_at "inplaceOp LShift int int") => `(tactic| ((refine shl8 (by omega) ?_); intro _ _))
local macro_rules | `(tactic| walk_at "inplaceOp BitOr int int") => `(tactic| ((refine or8 (by first | assumption | omega) ?_); intro _ _))
local macro_rules | `(tactic| walk_at "truthy bytes") => `(tactic| first | ((with_reducible refine truthy_Bn ?_); intro _) | ((with_reducible refine truthy_Bc ?hl ?_); (case hl => first | decide | omega | (simp only [List.length_append, List.length_cons, List.length_nil, List.length_replicate, List.length_map] at *; omega)); intro _))

local macro_rules | `(tactic| ktr_unf) => `(tactic| repeat' (first | (k_unfold; (try dsimp only)) | (k_end; kc_close) | ((fail_if_success (with_reducible show wpAny _ _ (exec (Stmt.While _ _ _ _) _) _ _ _)); (fail_if_success (with_reducible show wpAny _ _ (exec (Stmt.For _ _ _ _ _) _) _ _ _)); (fail_if_success (with_reducible show wpAny _ _ (eval (Expr.ListComp _ _ _ _) _) _ _ _)); (fail_if_success (with_reducible show wpAny _ _ (exec (Stmt.Assign _ (Expr.ListComp _ _ _ _) _) _) _ _ _)); (fail_if_success (with_reducible show wpAny _ _ (pyIter _) _ _ _)); (fail_if_success (with_reducible show wpAny _ _ (exec (Stmt.If (Expr.Compare _ _ [Expr.Constant (Const.str (Str.ofString "a")) _ _] _) _ _ _) _) _ _ _)); (fail_if_success (with_reducible show LCg.CompSrc _ _ _ _ _ _ _ _ _ _ _ _ _ _)); (first | walk1 | (dsimp only; walk1))) | (leave1; walk_say "STEP leave1"; (try dsimp only)) | fail "no step"))

local macro_rules | `(tactic| k_room) => `(tactic| ktr_room)
local macro_rules | `(tactic| walk_at "loadName") => `(tactic| k_dflt (refine' wpAny_loadName_local ?k ?l (Fr.ns ?F) ?v ?_; (case F => k_asm); (case k => rfl); (case l => rfl); (case v => rfl); k_whole))
local macro_rules | `(tactic| walk_at "call ref") => `(tactic| ((with_reducible show wpAny _ _ (call (Value.ref 402) _) _ _ _); k_dflt (refine' number_spec _ _ _ _ _ _ _ _ _ _ _ _ _ _ _ _ _ _ _ _ _ _ _ ?k1 ?k2 ?k3 ?k4 ?k5 ?kK ?a1 ?a2 ?a3 ?a4 ?a5 ?kd ?ku ?kR; (case k1 => k_asm); (case k2 => k_asm); (case k3 => k_asm); (case k4 => k_asm); (case k5 => k_asm); (case kK => first | exact rfl | assumption); (case a1 => assumption); (case a2 => assumption); (case a3 => assumption); (case a4 => omega); (case a5 => omega); (case kd => ktr_room); (case ku => ktr_units); intro t9 h9 tk9 F9 N9; (try dsimp only); (try k_fold))))
local macro_rules | `(tactic| walk_at "call type:str") => `(tactic| ((with_reducible show wpAny _ _ (call (Value.type "str") [Value.int _ _]) _ _ _); k_dflt (refine' str_I ?h1 ?h2 ?_; (case h1 => omega); (case h2 => omega)); intro _ _))

local macro_rules | `(tactic| walk_at "inplaceOp Add ref ref") => `(tactic| ((with_reducible show wpAny _ _ (inplaceOp Operator.Add (Value.ref _) (Value.ref _)) _ _ _); k_dflt (refine' iadd_list ?F ?N ?b ?ne ?U ?z ?_; (case F => k_asm); (case N => k_asm); (case b => k_mem); (case ne => assumption); (case U => k_upd); (case z => omega)); intro h' F' N'; (try k_sweep)))
local macro_rules | `(tactic| walk_at "inplaceOp Add ref") => `(tactic| ((with_reducible show wpAny _ _ (inplaceOp Operator.Add (Value.ref _) (Value.ref _)) _ _ _); k_dflt (refine' iadd_list ?F ?N ?b ?ne ?U ?z ?_; (case F => k_asm); (case N => k_asm); (case b => k_mem); (case ne => assumption); (case U => k_upd); (case z => omega)); intro h' F' N'; (try k_sweep)))
local macro_rules | `(tactic| walk_at "call ref") => `(tactic| ((with_reducible show wpAny _ _ (call (Value.ref 414) _) _ _ _); k_dflt (refine' item_spec _ _ _ _ _ _ _ _ _ _ _ _ _ _ _ _ _ _ _ _ _ _ _ _ ?k1 ?k2 ?k3 ?k4 ?k5 ?kK ?a1 ?a2 ?a3 ?a4 ?a5 ?a6 ?a7 ?kd ?ku ?kR; (case k1 => k_asm); (case k2 => k_asm); (case k3 => k_asm); (case k4 => k_asm); (case k5 => k_asm); (case kK => first | exact rfl | assumption); (case a1 => k_mem); (case a2 => assumption); (case a3 => assumption); (case a4 => assumption); (case a5 => assumption); (case a6 => omega); (case a7 => omega); (case kd => ktr_room); (case ku => ktr_units); intro t9 h9 tk9 F9 N9; (try dsimp only); (try k_fold))))
local macro_rules | `(tactic| walk_at "ite") => `(tactic| first | (refine ite_neg (by first | omega | (simp only [beq_iff_eq, bne_iff_ne, decide_eq_true_eq, ne_eq]; omega)) ?_) | (refine ite_pos (by first | omega | (simp only [beq_iff_eq, bne_iff_ne, decide_eq_true_eq, ne_eq]; done) | (simp only [beq_iff_eq, bne_iff_ne, decide_eq_true_eq, ne_eq]; omega)) ?_))

local macro_rules | `(tactic| walk_at "subscriptTail") => `(tactic| ((with_reducible show wpAny _ _ (subscriptTail _ _ (Value.ref _) (Value.int _ _)) _ _ _); k_dflt (refine' list_at ?N ?m ?h0 ?h1 ?hx ?_; (case N => k_asm); (case m => k_mem); (case h0 => first | omega | exact fm_lo _ (by omega)); (case h1 => first | omega | (refine Int.lt_trans (fm_hi _ (by omega)) (by omega))); (case hx => assumption))))
local macro_rules | `(tactic| walk_at "subscriptTail Name BinOp ref int") => `(tactic| ((with_reducible show wpAny _ _ (subscriptTail _ _ (Value.ref _) (Value.int _ _)) _ _ _); k_dflt (refine' list_at ?N ?m ?h0 ?h1 ?hx ?_; (case N => k_asm); (case m => k_mem); (case h0 => first | omega | exact fm_lo _ (by omega)); (case h1 => first | omega | (refine Int.lt_trans (fm_hi _ (by omega)) (by omega))); (case hx => assumption))))

def dFor : Stmt := nthS (bodyS lawFor) 9
def dueAt (f : Nat → List Nat × List Nat) (tot g : Nat) : List Nat := (f g).1 ++ (if g + 1 < tot then (f g).2 else [])
theorem dfor_spec : ∀ {w : World} {mean : ExcName → Option Value} {mg mb : Str → Option Value} (dp un : Nat) (gd : Option (List Code)) (a : Addr) (ccd : Value) (outer : List Env) (A₀ : Around) (base h₀ : Heap) (L : Addr) (m : Str → Option Value) (news : List (Addr × Obj)) (s : Shared) (f : Nat → List Nat × List Nat) (tot : Nat) (qa : Addr) (qvs : List Value) (nq : Nat) (t1 t2 : Tok) (Q : Flow → Shared → Prop) (E : Value → Shared → Prop)
    (_ : Below A₀ base outer h₀) (_ : Fr h₀ L s.heap m) (_ : (hd.heap_39 w.params).In h₀) (_ : Top hd.view_39 (looseW hd.view_39 [Str.ofString "noValue", Str.ofString "Value", Str.ofString "Integer32", Str.ofString "OctetString", Str.ofString "SmiError", Str.ofString "TextualConvention", Str.ofString "HintedString", Str.ofString "HintedInteger", Str.ofString "TestAndIncr", Str.ofString "RowStatus"]) mean mg mb h₀) (_ : dp + 20 < recursionLimit) (_ : un + 200 < cLine) (_ : News h₀ L s.heap news) (_ : (qa, listOf qvs.toArray nq) ∈ news) (_ : AllAt IsPiece news qvs ((List.range tot).map f)) (_ : ∀ g, (f g).1.length ≤ 100) (_ : ∀ g, (f g).2.length ≤ 1) (_ : id (tot ≤ 6))
    (_ : Has m [(Str.ofString "total", .int (tot : Int) t1), (Str.ofString "pieces", .ref qa), (Str.ofString "due", .str (S []) t2)])
    (_ : PassesOwn (model Challenge.rw_am6029_01.row.prog w) (ktrTop dp un gd (Str.ofString "law") lScope L a ccd (cellsFrom (L + 1) lScope.names []) outer) (envX (Str.ofString "law") lScope L a ccd (cellsFrom (L + 1) lScope.names [])) E)
    (_ : ∀ (h' : Heap) (tk : Nat) (m' : Str → Option Value) (t : Tok), Fr h₀ L h' m' → News h₀ L h' news → Has m' [(Str.ofString "due", .str (S (((List.range tot).map (dueAt f tot)).flatten)) t)] → (∀ z, z ≠ Str.ofString "g" → z ≠ Str.ofString "due" → m' z = m z) → Q .next { s with heap := h', toks := tk }),
    wpAny (model Challenge.rw_am6029_01.row.prog w) (ktrTop dp un gd (Str.ofString "law") lScope L a ccd (cellsFrom (L + 1) lScope.names []) outer) (exec dFor (envX (Str.ofString "law") lScope L a ccd (cellsFrom (L + 1) lScope.names []))) Q E s := by
  k_fill
  intro w mean mg mb dp un gd a ccd outer A₀ base h₀ L m news s f tot qa qvs nq t1 t2 Q E B F X T0 hd hu N hqm hall hf1 hf2 htot hm hE hret
  conv => arg 3; arg 1; whnf
  have hpe := pin_eq hm
  rw [← hpe] at F
  dsimp only [pin] at F hpe
  refine For_invVF F rfl rfl ?_ (hE := hE)
  ktr_unf
  rename IsRange _ _ _ _ _ _ _ _ => R
  rename Fr _ _ _ _ => F2
  rename News _ _ _ _ => N2
  rw [hpe] at F2
  have htot6 : tot ≤ 6 := htot
  refine for_range (fun i m' nx => nx = news ∧ ∃ (t : Tok), Has m' [(Str.ofString "due", .str (S (((List.range i).map (dueAt f tot)).flatten)) t)] ∧ (∀ z, z ≠ Str.ofString "g" → z ≠ Str.ofString "due" → m' z = m z)) rfl R (by omega) F2 N2 ⟨rfl, t2, ⟨hm.2.2.1, trivial⟩, fun _ _ _ => rfl⟩ ?_ ?_
  · clear F2 N2 R
    rintro i t m₁ nx h tk own hi9 hown ⟨rfl, t9, e1, e2⟩ F1 N1
    have hx : ((List.range tot).map f)[i]? = some (f i) := by rw [List.getElem?_map, List.getElem?_range hi9]; rfl
    obtain ⟨ta, o, hta, htm, u1, u2, rfl⟩ := hall.get i _ hx
    have hfl := flat_len (dueAt f tot) 101 (fun g => by
      unfold dueAt
      rw [List.length_append]
      have h1 := hf1 g
      have h2 := hf2 g
      split
      · omega
      · simp only [List.length_nil]; omega) i
    have hl1 := hf1 i
    have hl2 := hf2 i
    have e3 : Has m₁ [(Str.ofString "due", .str (S (((List.range i).map (dueAt f tot)).flatten)) t9), (Str.ofString "total", .int (tot : Int) t1), (Str.ofString "pieces", .ref qa)] := ⟨e1.1, (e2 (Str.ofString "total") (by decide) (by decide)).trans hm.1, (e2 (Str.ofString "pieces") (by decide) (by decide)).trans hm.2.1, trivial⟩
    have hdue : dueAt f tot i = (f i).1 ++ (if i + 1 < tot then (f i).2 else []) := rfl
    have hsucc : ((List.range (i + 1)).map (dueAt f tot)).flatten = ((List.range i).map (dueAt f tot)).flatten ++ dueAt f tot i := by
      rw [List.range_succ, List.map_append, List.flatten_append]; simp
    rw [hdue] at hsucc
    generalize hDu : ((List.range i).map (dueAt f tot)).flatten = Du at e3 hfl hsucc
    generalize hT : (f i).1 = T at htm hl1 hsucc
    generalize hS : (f i).2 = sp at htm hl2 hsucc
    have hix : qvs[((i : Nat) : Int).toNat]? = some (.ref ta) := by rw [Int.toNat_natCast]; exact hta
    have N2 : News _ _ h ((qa, listOf qvs.toArray nq) :: (ta, pieceO T sp u1 u2) :: (nx ++ own)) := fun p hp => by
      rcases List.mem_cons.mp hp with rfl | hp
      · exact N1 _ (List.mem_append_left _ hqm)
      · rcases List.mem_cons.mp hp with rfl | hp
        · exact N1 _ (List.mem_append_left _ htm)
        · exact N1 _ hp
    clear N1 e1
    unfold pieceO at N2
    rw [← pin_eq e3] at F1
    dsimp only [pin] at F1
    rcases (by omega : i + 1 < tot ∨ ¬ i + 1 < tot) with hlt | hlt
    · rw [if_pos hlt] at hsucc
      have hlt2 : (i : Int) < (tot : Int) - 1 := by omega
      ktr_unf
      rename Fr _ _ _ _ => F3
      rename News _ _ _ _ => N3
      refine ⟨_, _, _, _, nx, rfl, F3, N3, fun p hp => .tail _ (.tail _ (List.mem_append_left _ hp)), fun p hp => .tail _ (.tail _ (List.mem_append_right _ hp)), hown, rfl, _, has_str rfl (by rw [hsucc, List.append_assoc]), ?_⟩
      intro z z1 z2
      have z6 := congrFun (pin_eq e3) z
      simp only [pin] at z6
      simp only [z1, z2, if_false] at z6 ⊢
      exact z6.trans (e2 z z1 z2)
    · rw [if_neg hlt, List.append_nil] at hsucc
      have hlt2 : ¬ (i : Int) < (tot : Int) - 1 := by omega
      ktr_unf
      rename Fr _ _ _ _ => F3
      rename News _ _ _ _ => N3
      refine ⟨_, _, _, _, nx, rfl, F3, N3, fun p hp => .tail _ (.tail _ (List.mem_append_left _ hp)), fun p hp => .tail _ (.tail _ (List.mem_append_right _ hp)), hown, rfl, _, has_str rfl hsucc.symm, ?_⟩
      intro z z1 z2
      have z6 := congrFun (pin_eq e3) z
      simp only [pin] at z6
      simp only [z1, z2, if_false] at z6 ⊢
      exact z6.trans (e2 z z1 z2)
  · clear F2 N2 R
    rintro m₁ nx h tk ⟨rfl, t9, e1, e2⟩ F1 N1
    exact hret _ _ _ _ F1 N1 e1 e2

end
section
theorem freshL15 : True := by w_top off; exact True.intro
def uRow (r : List Nat) : List UInt8 := r.map UInt8.ofNat
theorem uRow_nat {r : List Nat} (h : ∀ x ∈ r, x < 256) : (uRow r).map (·.toNat) = r := by
  unfold uRow
  rw [List.map_map]
  have : ∀ x ∈ r, ((fun x : UInt8 => x.toNat) ∘ UInt8.ofNat) x = id x := fun x hx => UInt8.toNat_ofNat_of_lt' (h x hx)
  rw [List.map_congr_left this, List.map_id]
theorem uRow_nil {r : List Nat} : uRow r = [] ↔ r = [] := by unfold uRow; rw [List.map_eq_nil_iff]
theorem uRow_len {r : List Nat} : (uRow r).length = r.length := by unfold uRow; rw [List.length_map]
theorem tells_u (wy : Nat) (mk : List Nat) : ∀ rows : List (List Nat), (∀ r ∈ rows, ∀ x ∈ r, x < 256) → tells wy mk (rows.map uRow) = tellsN wy mk rows
  | [], _ => rfl
  | r :: rs, h => by
    have h1 := tells_u wy mk rs (fun r hr => h r (.tail _ hr))
    show tellR wy mk (uRow r) ++ tells wy mk (rs.map uRow) = tellN wy mk r ++ tellsN wy mk rs
    rw [h1]
    unfold tellR tellN
    rw [uRow_nat (h r (.head _))]
    simp only [uRow_nil]
theorem flat_u : ∀ rows : List (List Nat), (∀ r ∈ rows, ∀ x ∈ r, x < 256) → ((rows.map uRow).flatten).map (·.toNat) = rows.flatten
  | [], _ => rfl
  | r :: rs, h => by
    rw [List.map_cons, List.flatten_cons, List.map_append, uRow_nat (h r (.head _)), flat_u rs (fun r hr => h r (.tail _ hr)), List.flatten_cons]
def grpAt (ns : List Int) (b : Int) (c tot : Nat) (ps : List Pt) (g : Nat) : Grp := ⟨pAt ps c g, (gRows (pAt ps c g) (numF ns (b + 5 + 2 * (g : Int))) (numF ns (b + 6 + 2 * (g : Int))) (decide ((g : Int) = (tot : Int) - 1))).map uRow⟩
theorem gRows_len (p : Pt) (D M : Int) (last : Bool) : (gRows p D M last).length = itOf p.rep D := by unfold gRows rowsN; rw [List.length_map, List.length_range]
theorem octsG_at (ns : List Int) (b : Int) (c tot : Nat) (ps : List Pt) (g : Nat) (hp : POk (pAt ps c g)) : (octsG (grpAt ns b c tot ps g)).map (·.toNat) = octAt ns b c tot ps g := by
  unfold octsG grpAt octAt gOcts hdrP
  have h := gRows_ok (pAt ps c g) hp (numF ns (b + 5 + 2 * (g : Int))) (numF ns (b + 6 + 2 * (g : Int))) (decide ((g : Int) = (tot : Int) - 1))
  have h2 := gRows_len (pAt ps c g) (numF ns (b + 5 + 2 * (g : Int))) (numF ns (b + 6 + 2 * (g : Int))) (decide ((g : Int) = (tot : Int) - 1))
  generalize gRows (pAt ps c g) (numF ns (b + 5 + 2 * (g : Int))) (numF ns (b + 6 + 2 * (g : Int))) (decide ((g : Int) = (tot : Int) - 1)) = R at h h2
  rw [List.map_append, flat_u R (fun r hr => (h.2 r hr).2), List.length_map, ← h2]
  congr 1
  split
  · show [(UInt8.ofNat R.length).toNat] = [R.length]
    rw [UInt8.toNat_ofNat_of_lt' (by have := h.1; show R.length < 256; omega)]
  · rfl
theorem toldG_at (ns : List Int) (b : Int) (c tot : Nat) (ps : List Pt) (g : Nat) (hp : POk (pAt ps c g)) : toldG (grpAt ns b c tot ps g) = (pieceAt ns b c tot ps g).1 := by
  unfold toldG grpAt pieceAt gTold
  have h := gRows_ok (pAt ps c g) hp (numF ns (b + 5 + 2 * (g : Int))) (numF ns (b + 6 + 2 * (g : Int))) (decide ((g : Int) = (tot : Int) - 1))
  exact tells_u _ _ _ (fun r hr => (h.2 r hr).2)
theorem rows_ok (sh : Bool) (it : Nat) (wy M : Int) (len : Nat) (rest : List UInt8) (hsh : sh = true → rest = []) : ∀ n j, j + n = it → RowsOk len rest (((List.range' j n).map (fun (j : Nat) => rowAt sh (it : Int) wy M (j : Int) len)).map uRow)
  | 0, _, _ => trivial
  | n + 1, j, h => by
    rw [List.range'_succ, List.map_cons, List.map_cons]
    refine ⟨?_, rows_ok sh it wy M len rest hsh n (j + 1) (by omega)⟩
    by_cases hc : sh = true ∧ (j : Int) = (it : Int) - 1
    · right
      have hn : n = 0 := by omega
      refine ⟨?_, ?_, hsh hc.1⟩
      · unfold rowAt; rw [if_pos hc]; rfl
      · rw [hn]; rfl
    · left
      unfold rowAt
      rw [if_neg hc, uRow_len, rowN_len]
theorem asc_ok (sh : Bool) (it : Nat) (wy : Nat) (M : Int) (len : Nat) : Asc wy ((rowsN sh it (wy : Int) M len).map uRow) := by
  intro h3 row hr c hc
  obtain ⟨r, hr2, rfl⟩ := List.mem_map.mp hr
  clear hr
  unfold rowsN at hr2
  obtain ⟨j, _, rfl⟩ := List.mem_map.mp hr2
  have hx : c.toNat ∈ (uRow (rowAt sh (it : Int) (wy : Int) M (j : Int) len)).map (·.toNat) := List.mem_map.mpr ⟨c, hc, rfl⟩
  unfold rowAt at hx
  split at hx
  · cases hx
  · rw [uRow_nat (rowN_hi _ _ _ _)] at hx
    exact rowN_asc _ _ _ _ (by omega) _ hx
theorem gs_ok (ns : List Int) (b : Int) (c tot : Nat) (ps : List Pt) (hps : ∀ p ∈ ps, POk p) (hc : c = ps.length) (h1 : 1 ≤ c) : ∀ n i, i + n = tot → GsOk ps (ps.drop (i % c)) ((List.range' i n).map (grpAt ns b c tot ps))
  | 0, i, _ => by
    show GsOk ps (ps.drop (i % c)) []
    cases ps.drop (i % c) <;> exact trivial
  | n + 1, i, h => by
    have hlt : i % c < ps.length := by rw [← hc]; exact Nat.mod_lt _ h1
    have hA := pAt_ok ps c i hps hc h1
    have e : ps.drop (i % c) = pAt ps c i :: ps.drop (i % c + 1) := by
      rw [List.drop_eq_getElem_cons hlt]
      have := hA.1
      rw [List.getElem?_eq_getElem hlt] at this
      rw [Option.some.inj this]
    rw [e, List.range'_succ, List.map_cons]
    have ih := gs_ok ns b c tot ps hps hc h1 n (i + 1) (by omega)
    have hdm := Nat.div_add_mod i c
    have hnext : (if ps.drop (i % c + 1) = [] then ps else ps.drop (i % c + 1)) = ps.drop ((i + 1) % c) := by
      by_cases hz : i % c + 1 = c
      · have e1 : i + 1 = c * (i / c + 1) := by rw [Nat.mul_add, Nat.mul_one]; omega
        have h2 : (i + 1) % c = 0 := by rw [e1]; exact Nat.mul_mod_right _ _
        rw [h2, List.drop_zero, if_pos (List.drop_eq_nil_of_le (by omega))]
      · have e1 : i + 1 = c * (i / c) + (i % c + 1) := by omega
        have h2 : (i + 1) % c = i % c + 1 := by
          rw [e1, Nat.mul_add_mod, Nat.mod_eq_of_lt (by omega)]
        rw [h2, if_neg]
        intro q
        have := congrArg List.length q
        rw [List.length_drop, List.length_nil] at this
        omega
    refine ⟨rfl, ?_, ?_, ?_, ?_, ?_⟩
    · show ((gRows _ _ _ _).map uRow).length < 256
      rw [List.length_map, gRows_len]
      have := itOf_le (pAt ps c i).rep (numF ns (b + 5 + 2 * (i : Int)))
      omega
    · intro hr
      have hit1 : itOf (pAt ps c i).rep (numF ns (b + 5 + 2 * (i : Int))) = 1 := by unfold itOf; rw [hr]; rfl
      refine ⟨?_, ?_⟩
      · show ((gRows _ _ _ _).map uRow).length = 1
        rw [List.length_map, gRows_len]
        exact hit1
      · show ((gRows _ _ _ _).map uRow).flatten ≠ []
        unfold gRows rowsN
        rw [hit1]
        have hsh : ∀ q, shO (pAt ps c i).rep 1 (numF ns (b + 5 + 2 * (i : Int))) q = false := fun q => by unfold shO; rw [hr]; rfl
        rw [hsh]
        intro q
        have hl : (uRow (rowAt false ((1 : Nat) : Int) ((pAt ps c i).wy : Int) (numF ns (b + 6 + 2 * (i : Int))) ((0 : Nat) : Int) (pAt ps c i).len)).length = 0 := by
          have q2 := congrArg List.length q
          simp only [List.range_succ, List.range_zero, List.nil_append, List.map_cons, List.map_nil, List.flatten_cons, List.flatten_nil, List.append_nil, List.length_nil] at q2
          exact q2
        unfold rowAt at hl
        rw [if_neg (by simp), uRow_len, rowN_len] at hl
        have := hA.2.1
        omega
    · have hrg := rows_ok (shO (pAt ps c i).rep (itOf (pAt ps c i).rep (numF ns (b + 5 + 2 * (i : Int)))) (numF ns (b + 5 + 2 * (i : Int))) (decide ((i : Int) = (tot : Int) - 1))) (itOf (pAt ps c i).rep (numF ns (b + 5 + 2 * (i : Int)))) ((pAt ps c i).wy : Int) (numF ns (b + 6 + 2 * (i : Int))) (pAt ps c i).len (octs ((List.range' (i + 1) n).map (grpAt ns b c tot ps))) (fun q => by
        have q2 : (i : Int) = (tot : Int) - 1 := by
          unfold shO at q
          simp only [Bool.and_eq_true, decide_eq_true_eq] at q
          exact q.1.1.2
        have : n = 0 := by omega
        rw [this]; rfl) (itOf (pAt ps c i).rep (numF ns (b + 5 + 2 * (i : Int)))) 0 (Nat.zero_add _)
      rw [← List.range_eq_range'] at hrg
      exact hrg
    · exact asc_ok _ _ _ _ _
    · rw [hnext]; exact ih
theorem due_ok (ns : List Int) (b : Int) (c tot : Nat) (ps : List Pt) (hps : ∀ p ∈ ps, POk p) (hc : c = ps.length) (h1 : 1 ≤ c) : ∀ n i, i + n = tot → dueL ((List.range' i n).map (grpAt ns b c tot ps)) = ((List.range' i n).map (dueAt (pieceAt ns b c tot ps) tot)).flatten
  | 0, _, _ => rfl
  | n + 1, i, h => by
    rw [List.range'_succ, List.map_cons, List.map_cons, List.flatten_cons, ← due_ok ns b c tot ps hps hc h1 n (i + 1) (by omega)]
    show toldG (grpAt ns b c tot ps i) ++ (if (List.range' (i + 1) n).map (grpAt ns b c tot ps) = [] then [] else sepP (pAt ps c i)) ++ _ = _
    rw [toldG_at ns b c tot ps i (pAt_ok ps c i hps hc h1).2]
    unfold dueAt
    by_cases hn : n = 0
    · rw [if_pos (by rw [hn]; rfl), if_neg (by omega)]
    · rw [if_neg (fun q => hn (by have := congrArg List.length q; rw [List.length_map, List.length_range', List.length_nil] at this; exact this)), if_pos (by omega)]
      rfl
theorem octs_ok (ns : List Int) (b : Int) (c tot : Nat) (ps : List Pt) (hps : ∀ p ∈ ps, POk p) (hc : c = ps.length) (h1 : 1 ≤ c) : ∀ l : List Nat, (octs (l.map (grpAt ns b c tot ps))).map (·.toNat) = (l.map (octAt ns b c tot ps)).flatten
  | [] => rfl
  | g :: l => by
    show (octsG (grpAt ns b c tot ps g) ++ octs (l.map (grpAt ns b c tot ps))).map (·.toNat) = octAt ns b c tot ps g ++ _
    rw [List.map_append, octsG_at ns b c tot ps g (pAt_ok ps c g hps hc h1).2, octs_ok ns b c tot ps hps hc h1 l]
theorem cost_ok (ns : List Int) (b : Int) (c tot : Nat) (ps : List Pt) : ∀ l : List Nat, cost (l.map (grpAt ns b c tot ps)) ≤ 130 * l.length
  | [] => Nat.zero_le _
  | g :: l => by
    have h := cost_ok ns b c tot ps l
    show 30 * ((gRows _ _ _ _).map uRow).length + 40 + cost (l.map (grpAt ns b c tot ps)) ≤ 130 * (l.length + 1)
    rw [List.length_map, gRows_len]
    have := itOf_le (pAt ps c g).rep (numF ns (b + 5 + 2 * (g : Int)))
    omega
theorem kd_le (rep : Bool) (fm : Int) (more : Bool) : kdOf rep fm more ≤ 2 ∧ (kdOf rep fm more = 2 → rep = true) := by
  unfold kdOf
  split
  · rename_i h; exact ⟨by omega, fun _ => h.1⟩
  · split <;> exact ⟨by omega, fun q => by omega⟩
theorem partOf_ok (D : Int) (more : Bool) : POk (partOf D more) := by
  have a1 := fm_lo D (show (0 : Int) < 2 by decide)
  have a2 := fm_hi D (show (0 : Int) < 2 by decide)
  have a3 := fm_lo (D.fdiv 2) (show (0 : Int) < 4 by decide)
  have a4 := fm_hi (D.fdiv 2) (show (0 : Int) < 4 by decide)
  have a5 := fm_lo D (show (0 : Int) < 4 by decide)
  have a6 := fm_hi D (show (0 : Int) < 4 by decide)
  have hk := kd_le ((D.fdiv 8).fmod 2 == 1) ((D.fdiv 16).fmod 3) more
  refine ⟨?_, ?_, ?_, hk.1, hk.2, ?_, ?_⟩
  · show 1 ≤ (1 + D.fmod 2).toNat; omega
  · show (1 + D.fmod 2).toNat ≤ 2; omega
  · show ((D.fdiv 2).fmod 4).toNat < 4; omega
  · show [46, 58, 45, 47].getD (D.fmod 4).toNat 0 ∉ _
    generalize D.fmod 4 = z at a5 a6
    rcases (by omega : z = 0 ∨ z = 1 ∨ z = 2 ∨ z = 3) with rfl | rfl | rfl | rfl <;> decide
  · show [46, 58, 45, 47].getD (D.fmod 4).toNat 0 ≠ 42
    generalize D.fmod 4 = z at a5 a6
    rcases (by omega : z = 0 ∨ z = 1 ∨ z = 2 ∨ z = 3) with rfl | rfl | rfl | rfl <;> decide
theorem partOf_last (D : Int) (h : (partOf D true).rep = true) : (partOf D true).kd ≠ 1 := by
  have a1 := fm_lo (D.fdiv 16) (show (0 : Int) < 3 by decide)
  have a2 := fm_hi (D.fdiv 16) (show (0 : Int) < 3 by decide)
  have h' : ((D.fdiv 8).fmod 2 == 1) = true := h
  show kdOf ((D.fdiv 8).fmod 2 == 1) ((D.fdiv 16).fmod 3) true ≠ 1
  rw [h']
  generalize (D.fdiv 16).fmod 3 = z at a1 a2
  rcases (by omega : z = 0 ∨ z = 1 ∨ z = 2) with rfl | rfl | rfl <;> (unfold kdOf; simp)
theorem parts_psok (ns : List Int) (b : Int) (c : Nat) : ∀ n i, i + n = c → PsOk ((List.range' i n).map fun (k : Nat) => partOf (numF ns (b + 1 + (k : Int))) (decide ((k : Int) < (c : Int) - 1)))
  | 0, _, _ => trivial
  | n + 1, i, h => by
    rw [List.range'_succ, List.map_cons]
    refine ⟨partOf_ok _ _, ?_, parts_psok ns b c n (i + 1) (by omega)⟩
    by_cases hn : n = 0
    · intro _ _; rw [hn]; rfl
    · intro q1 q2
      have : decide ((i : Int) < (c : Int) - 1) = true := by rw [decide_eq_true_eq]; omega
      rw [this] at q1 q2
      exact absurd q2 (partOf_last _ q1)
theorem partsOf_psok (ns : List Int) (b : Int) (c : Nat) : PsOk (partsOf ns b c) := by
  unfold partsOf
  rw [List.range_eq_range']
  exact parts_psok ns b c c 0 (Nat.zero_add _)
theorem partsOf_ok (ns : List Int) (b : Int) (c : Nat) : ∀ p ∈ partsOf ns b c, POk p := by
  intro p hp
  obtain ⟨k, _, rfl⟩ := List.mem_map.mp hp
  exact partOf_ok _ _
theorem partsOf_len (ns : List Int) (b : Int) (c : Nat) : (partsOf ns b c).length = c := by unfold partsOf; rw [List.length_map, List.length_range]

end
section
theorem freshL16 : True := by w_top off; exact True.intro

local macro_rules | `(tactic| ktr_rel) => `(tactic| with_reducible first | rfl | assumption | exact lit_fig | exact lit_zero | exact lit_nil | exact lit_star | exact lit_dots | exact lit_coms | exact lit_xdoa | exact lit_dig | exact lit_a | exact lit_t | exact lit_x | exact lit_d | exact lit_o | exact lit_B | exact lit_integer | exact lit_string | exact lit_ascii | exact lit_ignore | exact lit_f02x | exact lit_f03o | exact lit_fd | exact lit_b | fail "no S")
local macro_rules | `(tactic| ktr_unf) => `(tactic| repeat' (first | (k_unfold; (try dsimp only)) | (k_end; kc_close) | ((fail_if_success (with_reducible show wpAny _ _ (exec (Stmt.While _ _ _ _) _) _ _ _)); (fail_if_success (with_reducible show wpAny _ _ (exec (Stmt.For _ _ _ _ _) _) _ _ _)); (fail_if_success (with_reducible show wpAny _ _ (eval (Expr.ListComp _ _ _ _) _) _ _ _)); (fail_if_success (with_reducible show wpAny _ _ (exec (Stmt.Assign _ (Expr.ListComp _ _ _ _) _) _) _ _ _)); (fail_if_success (with_reducible show wpAny _ _ (pyIter _) _ _ _)); (fail_if_success (with_reducible show LCg.CompSrc _ _ _ _ _ _ _ _ _ _ _ _ _ _)); (first | walk1 | (dsimp only; walk1))) | (leave1; walk_say "STEP leave1"; (try dsimp only)) | fail "no step"))
local macro_rules | `(tactic| walk_at "subscriptTail Constant str BinOp") => `(tactic| ((with_reducible show wpAny _ _ (subscriptTail _ _ (Value.str _ _) (Value.int _ _)) _ _ _); (refine' itemD_S ?hx ?h0 ?h1 ?hl ?_); (case hx => ktr_rel); (case h0 => first | decide | omega | exact fmod_lo _ (by decide)); (case h1 => first | decide | omega | exact fmod_hi _ (by decide)); (case hl => first | decide | omega | (simp only [List.length_append, List.length_cons, List.length_nil, List.length_replicate, List.length_map]; omega)); intro _ _))
local macro_rules | `(tactic| walk_at "subscriptTail") => `(tactic| ((with_reducible show wpAny _ _ (subscriptTail _ _ (Value.str _ _) (Value.int _ _)) _ _ _); (refine' itemD_S ?hx ?h0 ?h1 ?hl ?_); (case hx => ktr_rel); (case h0 => first | decide | omega | exact fmod_lo _ (by decide)); (case h1 => first | decide | omega | exact fmod_hi _ (by decide)); (case hl => first | decide | omega | (simp only [List.length_append, List.length_cons, List.length_nil, List.length_replicate, List.length_map]; omega)); intro _ _))
local macro_rules | `(tactic| walk_at "subscriptTail Name Constant str int") => `(tactic| ((with_reducible show wpAny _ _ (subscriptTail _ _ (Value.str _ _) (Value.int 0 _)) _ _ _); (refine' item0_S ?hx ?hl ?_); (case hx => ktr_rel); (case hl => first | decide | omega | (simp only [List.length_append, List.length_cons, List.length_nil, List.length_replicate, List.length_map]; omega)); intro _ _))
local macro_rules | `(tactic| walk_at "subscriptTail") => `(tactic| ((with_reducible show wpAny _ _ (subscriptTail _ _ (Value.str _ _) (Value.int 0 _)) _ _ _); (refine' item0_S ?hx ?hl ?_); (case hx => ktr_rel); (case hl => first | decide | omega | (simp only [List.length_append, List.length_cons, List.length_nil, List.length_replicate, List.length_map]; omega)); intro _ _))
local macro_rules | `(tactic| walk_at "subscriptTail Name Slice str ref") => `(tactic| ((with_reducible show wpAny _ _ (subscriptTail _ (Expr.Slice (some _) none none _) (Value.str _ _) (Value.ref _)) _ _ _); (with_reducible rename Fr _ _ _ _ => F'); (with_reducible rename News _ _ _ _ => N'); (refine' tail_S (s := ⟨_, _, _, _, _⟩) ?hx ?hl F' N' ?_); (case hx => ktr_rel); (case hl => first | decide | omega | (simp only [List.length_append, List.length_cons, List.length_nil, List.length_replicate, List.length_map]; omega)); intro _ _ _ _ _))
local macro_rules | `(tactic| walk_at "subscriptTail") => `(tactic| ((with_reducible show wpAny _ _ (subscriptTail _ (Expr.Slice (some _) none none _) (Value.str _ _) (Value.ref _)) _ _ _); (with_reducible rename Fr _ _ _ _ => F'); (with_reducible rename News _ _ _ _ => N'); (refine' tail_S (s := ⟨_, _, _, _, _⟩) ?hx ?hl F' N' ?_); (case hx => ktr_rel); (case hl => first | decide | omega | (simp only [List.length_append, List.length_cons, List.length_nil, List.length_replicate, List.length_map]; omega)); intro _ _ _ _ _))
local macro_rules | `(tactic| walk_at "call builtin:len cons nil") => `(tactic| ((with_reducible show wpAny _ _ (call (Value.builtin "len") [Value.str _ _]) _ _ _); (refine' len_S ?hx ?hl ?_); (case hx => ktr_rel); (case hl => first | decide | omega | (simp only [List.length_append, List.length_cons, List.length_nil, List.length_replicate, List.length_map]; omega)); intro _ _))
local macro_rules | `(tactic| walk_at "call builtin:len") => `(tactic| ((with_reducible show wpAny _ _ (call (Value.builtin "len") [Value.str _ _]) _ _ _); (refine' len_S ?hx ?hl ?_); (case hx => ktr_rel); (case hl => first | decide | omega | (simp only [List.length_append, List.length_cons, List.length_nil, List.length_replicate, List.length_map]; omega)); intro _ _))
local macro_rules | `(tactic| walk_at "binaryOp Add str str") => `(tactic| ((refine' add_S ?hx ?hy ?hl ?_); (case hx => ktr_rel); (case hy => ktr_rel); (case hl => first | decide | omega | (simp only [List.length_append, List.length_cons, List.length_nil, List.length_replicate, List.length_map]; omega)); intro _ _))
local macro_rules | `(tactic| walk_at "inplaceOp Add str str") => `(tactic| ((refine' iadd_S ?hx ?hy ?hl ?_); (case hx => ktr_rel); (case hy => ktr_rel); (case hl => first | decide | omega | (simp only [List.length_append, List.length_cons, List.length_nil, List.length_replicate, List.length_map]; omega)); intro _ _))
local macro_rules | `(tactic| walk_at "binaryOp Mult str int") => `(tactic| ((refine' mul_S ?hx ?hl ?h0 ?_); (case hx => ktr_rel); (case hl => omega); (case h0 => omega); intro _ _))
local macro_rules | `(tactic| walk_at "compareOp Eq str str") => `(tactic| ((refine' eq_S ?hx ?hy ?_); (case hx => ktr_rel); (case hy => ktr_rel)))
local macro_rules | `(tactic| walk_at "compareOp NotEq str str") => `(tactic| ((refine' ne_S ?hx ?hy ?_); (case hx => ktr_rel); (case hy => ktr_rel)))
local macro_rules | `(tactic| walk_at "compareOp In str str") => `(tactic| ((refine' in_S ?hx ?hy ?_); (case hx => ktr_rel); (case hy => ktr_rel)))
local macro_rules | `(tactic| walk_at "compareOp NotIn str str") => `(tactic| ((refine' notin_S ?hx ?hy ?_); (case hx => ktr_rel); (case hy => ktr_rel)))
local macro_rules | `(tactic| walk_at "truthy str") => `(tactic| ((refine' truthy_S ?hx ?hl ?_); (case hx => ktr_rel); (case hl => first | decide | omega | (simp only [List.length_append, List.length_cons, List.length_nil, List.length_replicate, List.length_map]; omega)); intro _))
local macro_rules | `(tactic| walk_at "call type:int cons nil") => `(tactic| ((with_reducible show wpAny _ _ (call (Value.type "int") [Value.str _ _]) _ _ _); (refine' int_S ?hx ?hc ?_); (case hx => ktr_rel); (case hc => omega); intro _ _))
local macro_rules | `(tactic| walk_at "call type:int") => `(tactic| ((with_reducible show wpAny _ _ (call (Value.type "int") [Value.str _ _]) _ _ _); (refine' int_S ?hx ?hc ?_); (case hx => ktr_rel); (case hc => omega); intro _ _))
local macro_rules | `(tactic| walk_at "compareOp Is bytes ref") => `(tactic| (refine wpAny_is_other (by rfl) (by intro x; cases x) ?_))
local macro_rules | `(tactic| walk_at "truthy str") => `(tactic| first | ((refine truthy_Sn (by with_reducible first | rfl | exact lit_nil) ?_); intro _) | ((refine truthy_Sc (by with_reducible first | rfl | exact lit_star) (by first | decide | omega | (simp only [List.length_append, List.length_cons, List.length_nil, List.length_replicate, List.length_map] at *; omega)) ?_); intro _))

local macro_rules | `(tactic| walk_at "truthy bytes") => `(tactic| (refine truthy_B (by first | omega | (simp only [List.length_append, List.length_cons, List.length_nil, List.length_take, List.length_drop]; omega)) ?_; intro _))
local macro_rules | `(tactic| walk_at "call builtin:len") => `(tactic| ((with_reducible show wpAny _ _ (call (Value.builtin "len") [Value.bytes (List.toArray _) _]) _ _ _); refine len_B (by first | omega | (simp only [List.length_append, List.length_cons, List.length_nil, List.length_take, List.length_drop]; omega)) ?_; intro _ _))
local macro_rules | `(tactic| walk_at "subscriptTail Name str Constant bytes int") => `(tactic| ((with_reducible show wpAny _ _ (subscriptTail _ _ (Value.bytes (List.toArray (_ :: _)) _) (Value.int 0 _)) _ _ _); refine item0_B (by first | omega | (simp only [List.length_append, List.length_cons, List.length_nil] at *; omega)) ?_; intro _ _))
local macro_rules | `(tactic| walk_at "subscriptTail Name Constant bytes int") => `(tactic| ((with_reducible show wpAny _ _ (subscriptTail _ _ (Value.bytes (List.toArray (_ :: _)) _) (Value.int 0 _)) _ _ _); refine item0_B (by first | omega | (simp only [List.length_append, List.length_cons, List.length_nil] at *; omega)) ?_; intro _ _))
local macro_rules | `(tactic| walk_at "subscriptTail") => `(tactic| ((with_reducible show wpAny _ _ (subscriptTail _ _ (Value.bytes (List.toArray (_ :: _)) _) (Value.int 0 _)) _ _ _); refine item0_B (by first | omega | (simp only [List.length_append, List.length_cons, List.length_nil] at *; omega)) ?_; intro _ _))
local macro_rules | `(tactic| walk_at "subscriptTail Name str Slice") => `(tactic| ((with_reducible show wpAny _ _ (subscriptTail _ (Expr.Slice none (some _) none _) (Value.bytes (List.toArray _) _) (Value.ref _)) _ _ _); (with_reducible rename Fr _ _ _ _ => F'); (with_reducible rename News _ _ _ _ => N'); (refine head_B (s := ⟨_, _, _, _, _⟩) F' N' (by first | decide | omega) (by first | omega | (simp only [List.length_append, List.length_cons, List.length_nil, List.length_take, List.length_drop] at *; omega)) ?_); intro _ _ _ _ _))
local macro_rules | `(tactic| walk_at "subscriptTail") => `(tactic| ((with_reducible show wpAny _ _ (subscriptTail _ (Expr.Slice none (some _) none _) (Value.bytes (List.toArray _) _) (Value.ref _)) _ _ _); (with_reducible rename Fr _ _ _ _ => F'); (with_reducible rename News _ _ _ _ => N'); (refine head_B (s := ⟨_, _, _, _, _⟩) F' N' (by first | decide | omega) (by first | omega | (simp only [List.length_append, List.length_cons, List.length_nil, List.length_take, List.length_drop] at *; omega)) ?_); intro _ _ _ _ _))
local macro_rules | `(tactic| walk_at "subscriptTail Name str Slice") => `(tactic| ((with_reducible show wpAny _ _ (subscriptTail _ (Expr.Slice (some _) none none _) (Value.bytes (List.toArray _) _) (Value.ref _)) _ _ _); (with_reducible rename Fr _ _ _ _ => F'); (with_reducible rename News _ _ _ _ => N'); (refine drop_B (s := ⟨_, _, _, _, _⟩) F' N' (by first | decide | omega) (by first | omega | (simp only [List.length_append, List.length_cons, List.length_nil, List.length_take, List.length_drop] at *; omega)) ?_); intro _ _ _ _ _))
local macro_rules | `(tactic| walk_at "subscriptTail") => `(tactic| ((with_reducible show wpAny _ _ (subscriptTail _ (Expr.Slice (some _) none none _) (Value.bytes (List.toArray _) _) (Value.ref _)) _ _ _); (with_reducible rename Fr _ _ _ _ => F'); (with_reducible rename News _ _ _ _ => N'); (refine drop_B (s := ⟨_, _, _, _, _⟩) F' N' (by first | decide | omega) (by first | omega | (simp only [List.length_append, List.length_cons, List.length_nil, List.length_take, List.length_drop] at *; omega)) ?_); intro _ _ _ _ _))
local macro_rules | `(tactic| walk_at "binaryOp Mod str int") => `(tactic| (first | ((with_reducible refine mod_x ?h0 ?h1 ?_); (case h0 => omega); (case h1 => omega); intro _ _) | ((with_reducible refine mod_o ?h0 ?h1 ?_); (case h0 => omega); (case h1 => omega); intro _ _)))
local macro_rules | `(tactic| walk_at "call builtin:bytes.decode") => `(tactic| ((with_reducible refine decode_B ?h0 ?h1 ?_); (case h0 => first | assumption | omega); (case h1 => assumption); intro _ _))
local macro_rules | `(tactic| walk_at "inplaceOp LShift int int") => `(tactic| ((refine shl8 (by omega) ?_); intro _ _))
local macro_rules | `(tactic| walk_at "inplaceOp BitOr int int") => `(tactic| ((refine or8 (by first | assumption | omega) ?_); intro _ _))
local macro_rules | `(tactic| walk_at "truthy bytes") => `(tactic| first | ((with_reducible refine truthy_Bn ?_); intro _) | ((with_reducible refine truthy_Bc ?hl ?_); (case hl => first | decide | omega | (simp only [List.length_append, List.length_cons, List.length_nil, List.length_replicate, List.length_map] at *; omega)); intro _))

local macro_rules | `(tactic| ktr_unf) => `(tactic| repeat' (first | (k_unfold; (try dsimp only)) | (k_end; kc_close) | ((fail_if_success (with_reducible show wpAny _ _ (exec (Stmt.While _ _ _ _) _) _ _ _)); (fail_if_success (with_reducible show wpAny _ _ (exec (Stmt.For _ _ _ _ _) _) _ _ _)); (fail_if_success (with_reducible show wpAny _ _ (eval (Expr.ListComp _ _ _ _) _) _ _ _)); (fail_if_success (with_reducible show wpAny _ _ (exec (Stmt.Assign _ (Expr.ListComp _ _ _ _) _) _) _ _ _)); (fail_if_success (with_reducible show wpAny _ _ (pyIter _) _ _ _)); (fail_if_success (with_reducible show wpAny _ _ (exec (Stmt.If (Expr.Compare _ _ [Expr.Constant (Const.str (Str.ofString "a")) _ _] _) _ _ _) _) _ _ _)); (fail_if_success (with_reducible show LCg.CompSrc _ _ _ _ _ _ _ _ _ _ _ _ _ _)); (first | walk1 | (dsimp only; walk1))) | (leave1; walk_say "STEP leave1"; (try dsimp only)) | fail "no step"))

local macro_rules | `(tactic| k_room) => `(tactic| ktr_room)
local macro_rules | `(tactic| walk_at "loadName") => `(tactic| k_dflt (refine' wpAny_loadName_local ?k ?l (Fr.ns ?F) ?v ?_; (case F => k_asm); (case k => rfl); (case l => rfl); (case v => rfl); k_whole))
local macro_rules | `(tactic| walk_at "call ref") => `(tactic| ((with_reducible show wpAny _ _ (call (Value.ref 402) _) _ _ _); k_dflt (refine' number_spec _ _ _ _ _ _ _ _ _ _ _ _ _ _ _ _ _ _ _ _ _ _ _ ?k1 ?k2 ?k3 ?k4 ?k5 ?kK ?a1 ?a2 ?a3 ?a4 ?a5 ?kd ?ku ?kR; (case k1 => k_asm); (case k2 => k_asm); (case k3 => k_asm); (case k4 => k_asm); (case k5 => k_asm); (case kK => first | exact rfl | assumption); (case a1 => assumption); (case a2 => assumption); (case a3 => assumption); (case a4 => omega); (case a5 => omega); (case kd => ktr_room); (case ku => ktr_units); intro t9 h9 tk9 F9 N9; (try dsimp only); (try k_fold))))
local macro_rules | `(tactic| walk_at "call type:str") => `(tactic| ((with_reducible show wpAny _ _ (call (Value.type "str") [Value.int _ _]) _ _ _); k_dflt (refine' str_I ?h1 ?h2 ?_; (case h1 => omega); (case h2 => omega)); intro _ _))

local macro_rules | `(tactic| walk_at "inplaceOp Add ref ref") => `(tactic| ((with_reducible show wpAny _ _ (inplaceOp Operator.Add (Value.ref _) (Value.ref _)) _ _ _); k_dflt (refine' iadd_list ?F ?N ?b ?ne ?U ?z ?_; (case F => k_asm); (case N => k_asm); (case b => k_mem); (case ne => assumption); (case U => k_upd); (case z => omega)); intro h' F' N'; (try k_sweep)))
local macro_rules | `(tactic| walk_at "inplaceOp Add ref") => `(tactic| ((with_reducible show wpAny _ _ (inplaceOp Operator.Add (Value.ref _) (Value.ref _)) _ _ _); k_dflt (refine' iadd_list ?F ?N ?b ?ne ?U ?z ?_; (case F => k_asm); (case N => k_asm); (case b => k_mem); (case ne => assumption); (case U => k_upd); (case z => omega)); intro h' F' N'; (try k_sweep)))
local macro_rules | `(tactic| walk_at "call ref") => `(tactic| ((with_reducible show wpAny _ _ (call (Value.ref 414) _) _ _ _); k_dflt (refine' item_spec _ _ _ _ _ _ _ _ _ _ _ _ _ _ _ _ _ _ _ _ _ _ _ _ ?k1 ?k2 ?k3 ?k4 ?k5 ?kK ?a1 ?a2 ?a3 ?a4 ?a5 ?a6 ?a7 ?kd ?ku ?kR; (case k1 => k_asm); (case k2 => k_asm); (case k3 => k_asm); (case k4 => k_asm); (case k5 => k_asm); (case kK => first | exact rfl | assumption); (case a1 => k_mem); (case a2 => assumption); (case a3 => assumption); (case a4 => assumption); (case a5 => assumption); (case a6 => omega); (case a7 => omega); (case kd => ktr_room); (case ku => ktr_units); intro t9 h9 tk9 F9 N9; (try dsimp only); (try k_fold))))
local macro_rules | `(tactic| walk_at "ite") => `(tactic| first | (refine ite_neg (by first | omega | (simp only [beq_iff_eq, bne_iff_ne, decide_eq_true_eq, ne_eq]; omega)) ?_) | (refine ite_pos (by first | omega | (simp only [beq_iff_eq, bne_iff_ne, decide_eq_true_eq, ne_eq]; done) | (simp only [beq_iff_eq, bne_iff_ne, decide_eq_true_eq, ne_eq]; omega)) ?_))

local macro_rules | `(tactic| walk_at "subscriptTail") => `(tactic| ((with_reducible show wpAny _ _ (subscriptTail _ _ (Value.ref _) (Value.int _ _)) _ _ _); k_dflt (refine' list_at ?N ?m ?h0 ?h1 ?hx ?_; (case N => k_asm); (case m => k_mem); (case h0 => first | omega | exact fm_lo _ (by omega)); (case h1 => first | omega | (refine Int.lt_trans (fm_hi _ (by omega)) (by omega))); (case hx => assumption))))
local macro_rules | `(tactic| walk_at "subscriptTail Name BinOp ref int") => `(tactic| ((with_reducible show wpAny _ _ (subscriptTail _ _ (Value.ref _) (Value.int _ _)) _ _ _); k_dflt (refine' list_at ?N ?m ?h0 ?h1 ?hx ?_; (case N => k_asm); (case m => k_mem); (case h0 => first | omega | exact fm_lo _ (by omega)); (case h1 => first | omega | (refine Int.lt_trans (fm_hi _ (by omega)) (by omega))); (case hx => assumption))))

def lS (i : Nat) : Stmt := nthS (bodyS lawFor) i
theorem lhead_spec : ∀ {w : World} {mean : ExcName → Option Value} {mg mb : Str → Option Value} (dp un : Nat) (gd : Option (List Code)) (a : Addr) (ccd : Value) (outer : List Env) (A₀ : Around) (base h₀ : Heap) (L : Addr) (m : Str → Option Value) (news : List (Addr × Obj)) (s : Shared) (l : Addr) (vs : List Value) (ns : List Int) (R : Nat) (t1 : Tok) (Q : Flow → Shared → Prop) (E : Value → Shared → Prop)
    (_ : Below A₀ base outer h₀) (_ : Fr h₀ L s.heap m) (_ : (hd.heap_39 w.params).In h₀) (_ : Top hd.view_39 (looseW hd.view_39 [Str.ofString "noValue", Str.ofString "Value", Str.ofString "Integer32", Str.ofString "OctetString", Str.ofString "SmiError", Str.ofString "TextualConvention", Str.ofString "HintedString", Str.ofString "HintedInteger", Str.ofString "TestAndIncr", Str.ofString "RowStatus"]) mean mg mb h₀) (_ : dp + 20 < recursionLimit) (_ : un + 200 < cLine) (_ : base.IsList l vs.toArray) (_ : IntsAre vs ns) (_ : ns.length < 2 ^ 62) (_ : News h₀ L s.heap news) (_ : R ≤ 2)
    (_ : Has m [(Str.ofString "script", .ref l), (Str.ofString "r", .int (R : Int) t1)])
    (_ : ∀ (h' : Heap) (tk : Nat) (m' : Str → Option Value) (pa : Addr) (w1 w2 w3 : Tok), Fr h₀ L h' m' → News h₀ L h' ((pa, listOf #[] 0) :: news) → AllLt pa news → Has m' [(Str.ofString "script", .ref l), (Str.ofString "base", .int (40 * (R : Int)) w1), (Str.ofString "count", .int (1 + (numF ns (40 * (R : Int))).fmod 3) w2), (Str.ofString "hint", .str (S []) w3), (Str.ofString "parts", .ref pa)] → Q .next { s with heap := h', toks := tk }),
    wpAny (model Challenge.rw_am6029_01.row.prog w) (ktrTop dp un gd (Str.ofString "law") lScope L a ccd (cellsFrom (L + 1) lScope.names []) outer) (execs [lS 0, lS 1, lS 2] (envX (Str.ofString "law") lScope L a ccd (cellsFrom (L + 1) lScope.names []))) Q E s := by
  k_fill
  intro w mean mg mb dp un gd a ccd outer A₀ base h₀ L m news s l vs ns R t1 Q E B F X T0 hd hu hl hi hfit N hR hm hret
  conv => arg 3; arg 1; arg 1; whnf
  conv => arg 3; arg 1; arg 2; arg 1; whnf
  conv => arg 3; arg 1; arg 2; arg 2; arg 1; whnf
  rw [← pin_eq hm] at F
  dsimp only [pin] at F
  ktr_unf
  rename Fr _ _ _ _ => F2
  rename News _ _ _ _ => N2
  exact hret _ _ _ _ _ _ _ F2 (fun p hp => N2 p (.tail _ hp)) (allLt_of (by assumption)) ⟨rfl, rfl, rfl, congrArg (fun x => some (Value.str x _)) lit_nil, rfl, trivial⟩
theorem lmid_spec : ∀ {w : World} {mean : ExcName → Option Value} {mg mb : Str → Option Value} (dp un : Nat) (gd : Option (List Code)) (a : Addr) (ccd : Value) (outer : List Env) (A₀ : Around) (base h₀ : Heap) (L : Addr) (m : Str → Option Value) (news : List (Addr × Obj)) (s : Shared) (l : Addr) (vs : List Value) (ns : List Int) (b : Int) (c : Nat) (t1 t2 : Tok) (Q : Flow → Shared → Prop) (E : Value → Shared → Prop)
    (_ : Below A₀ base outer h₀) (_ : Fr h₀ L s.heap m) (_ : (hd.heap_39 w.params).In h₀) (_ : Top hd.view_39 (looseW hd.view_39 [Str.ofString "noValue", Str.ofString "Value", Str.ofString "Integer32", Str.ofString "OctetString", Str.ofString "SmiError", Str.ofString "TextualConvention", Str.ofString "HintedString", Str.ofString "HintedInteger", Str.ofString "TestAndIncr", Str.ofString "RowStatus"]) mean mg mb h₀) (_ : dp + 20 < recursionLimit) (_ : un + 200 < cLine) (_ : base.IsList l vs.toArray) (_ : IntsAre vs ns) (_ : ns.length < 2 ^ 62) (_ : News h₀ L s.heap news) (_ : 0 ≤ b) (_ : b ≤ 80) (_ : id (c ≤ 3))
    (_ : Has m [(Str.ofString "script", .ref l), (Str.ofString "base", .int b t1), (Str.ofString "count", .int (c : Int) t2)])
    (_ : ∀ (h' : Heap) (tk : Nat) (m' : Str → Option Value) (oa qa : Addr) (w1 w2 : Tok), Fr h₀ L h' m' → News h₀ L h' ((oa, listOf #[] 0) :: (qa, listOf #[] 0) :: news) → @LT.lt Nat _ oa qa → AllLt oa news → Has m' [(Str.ofString "octets", .ref oa), (Str.ofString "pieces", .ref qa), (Str.ofString "total", .int ((c : Int) * (1 + (numF ns (b + 4)).fmod 2)) w2)] → (∀ z, z ≠ Str.ofString "octets" → z ≠ Str.ofString "pieces" → z ≠ Str.ofString "rounds" → z ≠ Str.ofString "total" → m' z = m z) → Q .next { s with heap := h', toks := tk }),
    wpAny (model Challenge.rw_am6029_01.row.prog w) (ktrTop dp un gd (Str.ofString "law") lScope L a ccd (cellsFrom (L + 1) lScope.names []) outer) (execs [lS 4, lS 5, lS 6] (envX (Str.ofString "law") lScope L a ccd (cellsFrom (L + 1) lScope.names []))) Q E s := by
  k_fill
  intro w mean mg mb dp un gd a ccd outer A₀ base h₀ L m news s l vs ns b c t1 t2 Q E B F X T0 hd hu hl hi hfit N hb0 hb1 hc hm hret
  conv => arg 3; arg 1; arg 1; whnf
  conv => arg 3; arg 1; arg 2; arg 1; whnf
  conv => arg 3; arg 1; arg 2; arg 2; arg 1; whnf
  rw [← pin_eq hm] at F
  dsimp only [pin] at F
  ktr_unf
  rename Fr _ _ _ _ => F2
  rename News _ _ _ _ => N2
  rename _ ∧ _ ∧ _ => l3
  obtain ⟨x1, x2, x3⟩ := l3
  rename _ ∧ _ => l2
  obtain ⟨y1, y2⟩ := l2
  refine hret _ _ _ _ _ t1 _ F2 (fun p hp => N2 p ?_) y1 (allLt_of (by assumption)) ⟨rfl, rfl, rfl, trivial⟩ ?_
  · simp only [List.mem_cons] at hp ⊢
    rcases hp with h | h | h
    · exact .inr (.inr (.inl h))
    · exact .inr (.inl h)
    · exact .inr (.inr (.inr h))
  · intro z z1 z2 z3 z4
    have z6 := congrFun (pin_eq hm) z
    simp only [pin] at z6
    simp only [z1, z2, z3, z4, if_false] at z6 ⊢
    exact z6
theorem call_bytes_L {prog : Program} {w : World} {A : Around} {E : Value → Shared → Prop} {s : Shared} {h₀ : Heap} {L D : Addr} {m : Str → Option Value} {news : List (Addr × Obj)} {vs : List Value} {n : Nat} {bs : List UInt8} {Q : Value → Shared → Prop} (F : Fr h₀ L s.heap m) (N : News h₀ L s.heap news) (hm : (D, listOf vs.toArray n) ∈ news) (hh : A.handled = none)
    (hi : IntsAre vs ((bs.map (·.toNat)).map Int.ofNat)) (hz : bs.length ≤ 10000) (h : ∀ t h' k, Fr h₀ L h' m → News h₀ L h' news → Q (.bytes bs.toArray t) { s with heap := h', toks := k }) :
    wpAny (model prog w) A (call (.type "bytes") [.ref D]) Q E s := by
  have e : byteArr ((bs.map (·.toNat)).map Int.ofNat) = bs.toArray := by
    unfold byteArr
    rw [List.map_map, List.map_map]
    congr 1
    have : ∀ x ∈ bs, (((fun n : Int => n.toNat.toUInt8) ∘ Int.ofNat) ∘ fun x : UInt8 => x.toNat) x = id x := fun x _ => UInt8.ofNat_toNat
    rw [List.map_congr_left this, List.map_id]
  refine KBa.make_K F N hh ⟨_, (N _ hm).1, rfl, n, rfl⟩ hi ?_ (by rw [List.length_map, List.length_map]; omega) (fun h' t' k F' N' _ => ?_)
  · intro x hx
    obtain ⟨y, hy, rfl⟩ := List.mem_map.mp hx
    obtain ⟨z, _, rfl⟩ := List.mem_map.mp hy
    have := z.toNat_lt
    exact ⟨Int.natCast_nonneg _, by show ((z.toNat : Nat) : Int) < 256; omega⟩
  · rw [e]; exact h _ _ _ F' N'

end
section
theorem freshL17 : True := by w_top off; exact True.intro
local macro_rules | `(tactic| walk_at "pad of mine") => `(tactic| fail "a pad")


local macro_rules | `(tactic| ktr_rel) => `(tactic| with_reducible first | rfl | assumption | exact lit_fig | exact lit_zero | exact lit_nil | exact lit_star | exact lit_dots | exact lit_coms | exact lit_xdoa | exact lit_dig | exact lit_a | exact lit_t | exact lit_x | exact lit_d | exact lit_o | exact lit_B | exact lit_integer | exact lit_string | exact lit_ascii | exact lit_ignore | exact lit_f02x | exact lit_f03o | exact lit_fd | exact lit_b | fail "no S")
local macro_rules | `(tactic| ktr_unf) => `(tactic| repeat' (first | (k_unfold; (try dsimp only)) | (k_end; kc_close) | ((fail_if_success (with_reducible show wpAny _ _ (exec (Stmt.While _ _ _ _) _) _ _ _)); (fail_if_success (with_reducible show wpAny _ _ (exec (Stmt.For _ _ _ _ _) _) _ _ _)); (fail_if_success (with_reducible show wpAny _ _ (eval (Expr.ListComp _ _ _ _) _) _ _ _)); (fail_if_success (with_reducible show wpAny _ _ (exec (Stmt.Assign _ (Expr.ListComp _ _ _ _) _) _) _ _ _)); (fail_if_success (with_reducible show wpAny _ _ (pyIter _) _ _ _)); (fail_if_success (with_reducible show LCg.CompSrc _ _ _ _ _ _ _ _ _ _ _ _ _ _)); (first | walk1 | (dsimp only; walk1))) | (leave1; walk_say "STEP leave1"; (try dsimp only)) | fail "no step"))
local macro_rules | `(tactic| walk_at "subscriptTail Constant str BinOp") => `(tactic| ((with_reducible show wpAny _ _ (subscriptTail _ _ (Value.str _ _) (Value.int _ _)) _ _ _); (refine' itemD_S ?hx ?h0 ?h1 ?hl ?_); (case hx => ktr_rel); (case h0 => first | decide | omega | exact fmod_lo _ (by decide)); (case h1 => first | decide | omega | exact fmod_hi _ (by decide)); (case hl => first | decide | omega | (simp only [List.length_append, List.length_cons, List.length_nil, List.length_replicate, List.length_map]; omega)); intro _ _))
local macro_rules | `(tactic| walk_at "subscriptTail") => `(tactic| ((with_reducible show wpAny _ _ (subscriptTail _ _ (Value.str _ _) (Value.int _ _)) _ _ _); (refine' itemD_S ?hx ?h0 ?h1 ?hl ?_); (case hx => ktr_rel); (case h0 => first | decide | omega | exact fmod_lo _ (by decide)); (case h1 => first | decide | omega | exact fmod_hi _ (by decide)); (case hl => first | decide | omega | (simp only [List.length_append, List.length_cons, List.length_nil, List.length_replicate, List.length_map]; omega)); intro _ _))
local macro_rules | `(tactic| walk_at "subscriptTail Name Constant str int") => `(tactic| ((with_reducible show wpAny _ _ (subscriptTail _ _ (Value.str _ _) (Value.int 0 _)) _ _ _); (refine' item0_S ?hx ?hl ?_); (case hx => ktr_rel); (case hl => first | decide | omega | (simp only [List.length_append, List.length_cons, List.length_nil, List.length_replicate, List.length_map]; omega)); intro _ _))
local macro_rules | `(tactic| walk_at "subscriptTail") => `(tactic| ((with_reducible show wpAny _ _ (subscriptTail _ _ (Value.str _ _) (Value.int 0 _)) _ _ _); (refine' item0_S ?hx ?hl ?_); (case hx => ktr_rel); (case hl => first | decide | omega | (simp only [List.length_append, List.length_cons, List.length_nil, List.length_replicate, List.length_map]; omega)); intro _ _))
local macro_rules | `(tactic| walk_at "subscriptTail Name Slice str ref") => `(tactic| ((with_reducible show wpAny _ _ (subscriptTail _ (Expr.Slice (some _) none none _) (Value.str _ _) (Value.ref _)) _ _ _); (with_reducible rename Fr _ _ _ _ => F'); (with_reducible rename News _ _ _ _ => N'); (refine' tail_S (s := ⟨_, _, _, _, _⟩) ?hx ?hl F' N' ?_); (case hx => ktr_rel); (case hl => first | decide | omega | (simp only [List.length_append, List.length_cons, List.length_nil, List.length_replicate, List.length_map]; omega)); intro _ _ _ _ _))
local macro_rules | `(tactic| walk_at "subscriptTail") => `(tactic| ((with_reducible show wpAny _ _ (subscriptTail _ (Expr.Slice (some _) none none _) (Value.str _ _) (Value.ref _)) _ _ _); (with_reducible rename Fr _ _ _ _ => F'); (with_reducible rename News _ _ _ _ => N'); (refine' tail_S (s := ⟨_, _, _, _, _⟩) ?hx ?hl F' N' ?_); (case hx => ktr_rel); (case hl => first | decide | omega | (simp only [List.length_append, List.length_cons, List.length_nil, List.length_replicate, List.length_map]; omega)); intro _ _ _ _ _))
local macro_rules | `(tactic| walk_at "call builtin:len cons nil") => `(tactic| ((with_reducible show wpAny _ _ (call (Value.builtin "len") [Value.str _ _]) _ _ _); (refine' len_S ?hx ?hl ?_); (case hx => ktr_rel); (case hl => first | decide | omega | (simp only [List.length_append, List.length_cons, List.length_nil, List.length_replicate, List.length_map]; omega)); intro _ _))
local macro_rules | `(tactic| walk_at "call builtin:len") => `(tactic| ((with_reducible show wpAny _ _ (call (Value.builtin "len") [Value.str _ _]) _ _ _); (refine' len_S ?hx ?hl ?_); (case hx => ktr_rel); (case hl => first | decide | omega | (simp only [List.length_append, List.length_cons, List.length_nil, List.length_replicate, List.length_map]; omega)); intro _ _))
local macro_rules | `(tactic| walk_at "binaryOp Add str str") => `(tactic| ((refine' add_S ?hx ?hy ?hl ?_); (case hx => ktr_rel); (case hy => ktr_rel); (case hl => first | decide | omega | (simp only [List.length_append, List.length_cons, List.length_nil, List.length_replicate, List.length_map]; omega)); intro _ _))
local macro_rules | `(tactic| walk_at "inplaceOp Add str str") => `(tactic| ((refine' iadd_S ?hx ?hy ?hl ?_); (case hx => ktr_rel); (case hy => ktr_rel); (case hl => first | decide | omega | (simp only [List.length_append, List.length_cons, List.length_nil, List.length_replicate, List.length_map]; omega)); intro _ _))
local macro_rules | `(tactic| walk_at "binaryOp Mult str int") => `(tactic| ((refine' mul_S ?hx ?hl ?h0 ?_); (case hx => ktr_rel); (case hl => omega); (case h0 => omega); intro _ _))
local macro_rules | `(tactic| walk_at "compareOp Eq str str") => `(tactic| ((refine' eq_S ?hx ?hy ?_); (case hx => ktr_rel); (case hy => ktr_rel)))
local macro_rules | `(tactic| walk_at "compareOp NotEq str str") => `(tactic| ((refine' ne_S ?hx ?hy ?_); (case hx => ktr_rel); (case hy => ktr_rel)))
local macro_rules | `(tactic| walk_at "compareOp In str str") => `(tactic| ((refine' in_S ?hx ?hy ?_); (case hx => ktr_rel); (case hy => ktr_rel)))
local macro_rules | `(tactic| walk_at "compareOp NotIn str str") => `(tactic| ((refine' notin_S ?hx ?hy ?_); (case hx => ktr_rel); (case hy => ktr_rel)))
local macro_rules | `(tactic| walk_at "truthy str") => `(tactic| ((refine' truthy_S ?hx ?hl ?_); (case hx => ktr_rel); (case hl => first | decide | omega | (simp only [List.length_append, List.length_cons, List.length_nil, List.length_replicate, List.length_map]; omega)); intro _))
local macro_rules | `(tactic| walk_at "call type:int cons nil") => `(tactic| ((with_reducible show wpAny _ _ (call (Value.type "int") [Value.str _ _]) _ _ _); (refine' int_S ?hx ?hc ?_); (case hx => ktr_rel); (case hc => omega); intro _ _))
local macro_rules | `(tactic| walk_at "call type:int") => `(tactic| ((with_reducible show wpAny _ _ (call (Value.type "int") [Value.str _ _]) _ _ _); (refine' int_S ?hx ?hc ?_); (case hx => ktr_rel); (case hc => omega); intro _ _))
local macro_rules | `(tactic| walk_at "compareOp Is bytes ref") => `(tactic| (refine wpAny_is_other (by rfl) (by intro x; cases x) ?_))
local macro_rules | `(tactic| walk_at "truthy str") => `(tactic| first | ((refine truthy_Sn (by with_reducible first | rfl | exact lit_nil) ?_); intro _) | ((refine truthy_Sc (by with_reducible first | rfl | exact lit_star) (by first | decide | omega | (simp only [List.length_append, List.length_cons, List.length_nil, List.length_replicate, List.length_map] at *; omega)) ?_); intro _))

local macro_rules | `(tactic| walk_at "truthy bytes") => `(tactic| (refine truthy_B (by first | omega | (simp only [List.length_append, List.length_cons, List.length_nil, List.length_take, List.length_drop]; omega)) ?_; intro _))
local macro_rules | `(tactic| walk_at "call builtin:len") => `(tactic| ((with_reducible show wpAny _ _ (call (Value.builtin "len") [Value.bytes (List.toArray _) _]) _ _ _); refine len_B (by first | omega | (simp only [List.length_append, List.length_cons, List.length_nil, List.length_take, List.length_drop]; omega)) ?_; intro _ _))
local macro_rules | `(tactic| walk_at "subscriptTail Name str Constant bytes int") => `(tactic| ((with_reducible show wpAny _ _ (subscriptTail _ _ (Value.bytes (List.toArray (_ :: _)) _) (Value.int 0 _)) _ _ _); refine item0_B (by first | omega | (simp only [List.length_append, List.length_cons, List.length_nil] at *; omega)) ?_; intro _ _))
local macro_rules | `(tactic| walk_at "subscriptTail Name Constant bytes int") => `(tactic| ((with_reducible show wpAny _ _ (subscriptTail _ _ (Value.bytes (List.toArray (_ :: _)) _) (Value.int 0 _)) _ _ _); refine item0_B (by first | omega | (simp only [List.length_append, List.length_cons, List.length_nil] at *; omega)) ?_; intro _ _))
local macro_rules | `(tactic| walk_at "subscriptTail") => `(tactic| ((with_reducible show wpAny _ _ (subscriptTail _ _ (Value.bytes (List.toArray (_ :: _)) _) (Value.int 0 _)) _ _ _); refine item0_B (by first | omega | (simp only [List.length_append, List.length_cons, List.length_nil] at *; omega)) ?_; intro _ _))
local macro_rules | `(tactic| walk_at "subscriptTail Name str Slice") => `(tactic| ((with_reducible show wpAny _ _ (subscriptTail _ (Expr.Slice none (some _) none _) (Value.bytes (List.toArray _) _) (Value.ref _)) _ _ _); (with_reducible rename Fr _ _ _ _ => F'); (with_reducible rename News _ _ _ _ => N'); (refine head_B (s := ⟨_, _, _, _, _⟩) F' N' (by first | decide | omega) (by first | omega | (simp only [List.length_append, List.length_cons, List.length_nil, List.length_take, List.length_drop] at *; omega)) ?_); intro _ _ _ _ _))
local macro_rules | `(tactic| walk_at "subscriptTail") => `(tactic| ((with_reducible show wpAny _ _ (subscriptTail _ (Expr.Slice none (some _) none _) (Value.bytes (List.toArray _) _) (Value.ref _)) _ _ _); (with_reducible rename Fr _ _ _ _ => F'); (with_reducible rename News _ _ _ _ => N'); (refine head_B (s := ⟨_, _, _, _, _⟩) F' N' (by first | decide | omega) (by first | omega | (simp only [List.length_append, List.length_cons, List.length_nil, List.length_take, List.length_drop] at *; omega)) ?_); intro _ _ _ _ _))
local macro_rules | `(tactic| walk_at "subscriptTail Name str Slice") => `(tactic| ((with_reducible show wpAny _ _ (subscriptTail _ (Expr.Slice (some _) none none _) (Value.bytes (List.toArray _) _) (Value.ref _)) _ _ _); (with_reducible rename Fr _ _ _ _ => F'); (with_reducible rename News _ _ _ _ => N'); (refine drop_B (s := ⟨_, _, _, _, _⟩) F' N' (by first | decide | omega) (by first | omega | (simp only [List.length_append, List.length_cons, List.length_nil, List.length_take, List.length_drop] at *; omega)) ?_); intro _ _ _ _ _))
local macro_rules | `(tactic| walk_at "subscriptTail") => `(tactic| ((with_reducible show wpAny _ _ (subscriptTail _ (Expr.Slice (some _) none none _) (Value.bytes (List.toArray _) _) (Value.ref _)) _ _ _); (with_reducible rename Fr _ _ _ _ => F'); (with_reducible rename News _ _ _ _ => N'); (refine drop_B (s := ⟨_, _, _, _, _⟩) F' N' (by first | decide | omega) (by first | omega | (simp only [List.length_append, List.length_cons, List.length_nil, List.length_take, List.length_drop] at *; omega)) ?_); intro _ _ _ _ _))
local macro_rules | `(tactic| walk_at "binaryOp Mod str int") => `(tactic| (first | ((with_reducible refine mod_x ?h0 ?h1 ?_); (case h0 => omega); (case h1 => omega); intro _ _) | ((with_reducible refine mod_o ?h0 ?h1 ?_); (case h0 => omega); (case h1 => omega); intro _ _)))
local macro_rules | `(tactic| walk_at "call builtin:bytes.decode") => `(tactic| ((with_reducible refine decode_B ?h0 ?h1 ?_); (case h0 => first | assumption | omega); (case h1 => assumption); intro _ _))
local macro_rules | `(tactic| walk_at "inplaceOp LShift int int") => `(tactic| ((refine shl8 (by omega) ?_); intro _ _))
local macro_rules | `(tactic| walk_at "inplaceOp BitOr int int") => `(tactic| ((refine or8 (by first | assumption | omega) ?_); intro _ _))
local macro_rules | `(tactic| walk_at "truthy bytes") => `(tactic| first | ((with_reducible refine truthy_Bn ?_); intro _) | ((with_reducible refine truthy_Bc ?hl ?_); (case hl => first | decide | omega | (simp only [List.length_append, List.length_cons, List.length_nil, List.length_replicate, List.length_map] at *; omega)); intro _))

local macro_rules | `(tactic| ktr_unf) => `(tactic| repeat' (first | (k_unfold; (try dsimp only)) | (k_end; kc_close) | ((fail_if_success (with_reducible show wpAny _ _ (call (Value.ref 276) _) _ _ _)); (fail_if_success (with_reducible show wpAny _ _ (exec (Stmt.For _ _ _ _ _) _) _ _ _)); (fail_if_success (with_reducible show wpAny _ _ (eval (Expr.ListComp _ _ _ _) _) _ _ _)); (fail_if_success (with_reducible show wpAny _ _ (exec (Stmt.Assign _ (Expr.ListComp _ _ _ _) _) _) _ _ _)); (fail_if_success (with_reducible show wpAny _ _ (pyIter _) _ _ _)); (fail_if_success (with_reducible show wpAny _ _ (exec (Stmt.If (Expr.Compare _ _ [Expr.Constant (Const.str (Str.ofString "a")) _ _] _) _ _ _) _) _ _ _)); (fail_if_success (with_reducible show LCg.CompSrc _ _ _ _ _ _ _ _ _ _ _ _ _ _)); (first | walk1 | (dsimp only; walk1))) | (leave1; walk_say "STEP leave1"; (try dsimp only)) | fail "no step"))

local macro_rules | `(tactic| k_room) => `(tactic| ktr_room)
local macro_rules | `(tactic| walk_at "loadName") => `(tactic| k_dflt (refine' wpAny_loadName_local ?k ?l (Fr.ns ?F) ?v ?_; (case F => k_asm); (case k => rfl); (case l => rfl); (case v => rfl); k_whole))
local macro_rules | `(tactic| walk_at "call ref") => `(tactic| ((with_reducible show wpAny _ _ (call (Value.ref 402) _) _ _ _); k_dflt (refine' number_spec _ _ _ _ _ _ _ _ _ _ _ _ _ _ _ _ _ _ _ _ _ _ _ ?k1 ?k2 ?k3 ?k4 ?k5 ?kK ?a1 ?a2 ?a3 ?a4 ?a5 ?kd ?ku ?kR; (case k1 => k_asm); (case k2 => k_asm); (case k3 => k_asm); (case k4 => k_asm); (case k5 => k_asm); (case kK => first | exact rfl | assumption); (case a1 => assumption); (case a2 => assumption); (case a3 => assumption); (case a4 => omega); (case a5 => omega); (case kd => ktr_room); (case ku => ktr_units); intro t9 h9 tk9 F9 N9; (try dsimp only); (try k_fold))))
local macro_rules | `(tactic| walk_at "call type:str") => `(tactic| ((with_reducible show wpAny _ _ (call (Value.type "str") [Value.int _ _]) _ _ _); k_dflt (refine' str_I ?h1 ?h2 ?_; (case h1 => omega); (case h2 => omega)); intro _ _))

local macro_rules | `(tactic| walk_at "inplaceOp Add ref ref") => `(tactic| ((with_reducible show wpAny _ _ (inplaceOp Operator.Add (Value.ref _) (Value.ref _)) _ _ _); k_dflt (refine' iadd_list ?F ?N ?b ?ne ?U ?z ?_; (case F => k_asm); (case N => k_asm); (case b => k_mem); (case ne => assumption); (case U => k_upd); (case z => omega)); intro h' F' N'; (try k_sweep)))
local macro_rules | `(tactic| walk_at "inplaceOp Add ref") => `(tactic| ((with_reducible show wpAny _ _ (inplaceOp Operator.Add (Value.ref _) (Value.ref _)) _ _ _); k_dflt (refine' iadd_list ?F ?N ?b ?ne ?U ?z ?_; (case F => k_asm); (case N => k_asm); (case b => k_mem); (case ne => assumption); (case U => k_upd); (case z => omega)); intro h' F' N'; (try k_sweep)))
local macro_rules | `(tactic| walk_at "call ref") => `(tactic| ((with_reducible show wpAny _ _ (call (Value.ref 414) _) _ _ _); k_dflt (refine' item_spec _ _ _ _ _ _ _ _ _ _ _ _ _ _ _ _ _ _ _ _ _ _ _ _ ?k1 ?k2 ?k3 ?k4 ?k5 ?kK ?a1 ?a2 ?a3 ?a4 ?a5 ?a6 ?a7 ?kd ?ku ?kR; (case k1 => k_asm); (case k2 => k_asm); (case k3 => k_asm); (case k4 => k_asm); (case k5 => k_asm); (case kK => first | exact rfl | assumption); (case a1 => k_mem); (case a2 => assumption); (case a3 => assumption); (case a4 => assumption); (case a5 => assumption); (case a6 => omega); (case a7 => omega); (case kd => ktr_room); (case ku => ktr_units); intro t9 h9 tk9 F9 N9; (try dsimp only); (try k_fold))))
local macro_rules | `(tactic| walk_at "ite") => `(tactic| first | (refine ite_neg (by first | omega | (simp only [beq_iff_eq, bne_iff_ne, decide_eq_true_eq, ne_eq]; omega)) ?_) | (refine ite_pos (by first | omega | (simp only [beq_iff_eq, bne_iff_ne, decide_eq_true_eq, ne_eq]; done) | (simp only [beq_iff_eq, bne_iff_ne, decide_eq_true_eq, ne_eq]; omega)) ?_))

local macro_rules | `(tactic| walk_at "call ref") => `(tactic| ((with_reducible show wpAny _ _ (call (Value.ref 313) _) _ _ _); k_dflt (refine' init_spec _ _ _ _ _ _ _ _ _ _ _ _ _ _ _ _ _ _ _ _ _ _ _ ?k1 ?k2 ?k3 ?k4 ?k5 ?kd ?ku ?kR; (case k1 => k_asm); (case k2 => k_asm); (case k3 => k_asm); (case k4 => k_asm); (case k5 => k_asm); (case kd => ktr_room); (case ku => ktr_units); intro x9 d9 k8 k9 h9 tk9 l9 l8 F9 N9; (try dsimp only); (try k_fold))))
local macro_rules | `(tactic| walk_at "call type:bytes") => `(tactic| ((with_reducible show wpAny _ _ (call (Value.type "bytes") [Value.ref _]) _ _ _); k_dflt (refine' call_bytes_L ?F ?N ?m ?hh ?hi ?hz ?_; (case F => k_asm); (case N => k_asm); (case m => k_mem); (case hh => rfl); (case hi => assumption); (case hz => omega)); intro t9 h9 tk9 F9 N9))
theorem lend_spec : ∀ {w : World} {mean : ExcName → Option Value} {mg mb : Str → Option Value} (dp un : Nat) (gd : Option (List Code)) (a : Addr) (ccd : Value) (outer : List Env) (A₀ : Around) (base h₀ : Heap) (L : Addr) (m : Str → Option Value) (news : List (Addr × Obj)) (s : Shared) (ps : List Pt) (gs : List Grp) (oa : Addr) (ys : List Value) (no : Nat) (t1 t2 : Tok) (Q : Flow → Shared → Prop) (E : Value → Shared → Prop)
    (_ : Below A₀ base outer h₀) (_ : Fr h₀ L s.heap m) (_ : (hd.heap_39 w.params).In h₀) (_ : Top hd.view_39 (looseW hd.view_39 [Str.ofString "noValue", Str.ofString "Value", Str.ofString "Integer32", Str.ofString "OctetString", Str.ofString "SmiError", Str.ofString "TextualConvention", Str.ofString "HintedString", Str.ofString "HintedInteger", Str.ofString "TestAndIncr", Str.ofString "RowStatus"]) mean mg mb h₀) (_ : dp + 20 < recursionLimit) (_ : un + 200 < cLine) (_ : News h₀ L s.heap ((oa, listOf ys.toArray no) :: news))
    (_ : ps ≠ []) (_ : PsOk ps) (_ : GsOk ps ps gs) (_ : (codesL ps).length ≤ 100) (_ : cost gs ≤ 39000) (_ : (octs gs).length ≤ 9000)
    (_ : IntsAre ys (((octs gs).map (·.toNat)).map Int.ofNat))
    (_ : Has m [(Str.ofString "hint", .str (S (codesL ps)) t1), (Str.ofString "octets", .ref oa), (Str.ofString "due", .str (S (dueL gs)) t2)])
    (_ : ∀ (h' : Heap) (tk : Nat), Fr h₀ L h' m → News h₀ L h' news → Q .next { s with heap := h', toks := tk }),
    wpAny (model Challenge.rw_am6029_01.row.prog w) (ktrTop dp un gd (Str.ofString "law") lScope L a ccd (cellsFrom (L + 1) lScope.names []) outer) (execs [lS 10] (envX (Str.ofString "law") lScope L a ccd (cellsFrom (L + 1) lScope.names []))) Q E s := by
  k_fill
  intro w mean mg mb dp un gd a ccd outer A₀ base h₀ L m news s ps gs oa ys no t1 t2 Q E B F X T0 hd hu N hpe hps hgs hcl hcost hol hys hm hret
  conv => arg 3; arg 1; arg 1; whnf
  have hpe9 := pin_eq hm
  rw [← hpe9] at F
  dsimp only [pin] at F hpe9
  ktr_unf
  k_dflt (refine' pretty_spec _ _ _ _ _ _ _ _ _ _ _ _ _ _ _ _ ps gs (codesL ps) _ _ _ _ _ _ _ _ ?k1 ?k2 ?k3 ?k4 ?k5 ?kK ?kd ?ku hpe hps hgs rfl hcl hcost hol ?_)
  case k1 => k_asm
  case k2 => k_asm
  case k3 => k_asm
  case k4 => k_asm
  case k5 => k_asm
  case kK => first | exact rfl | assumption
  case kd => ktr_room
  case ku => ktr_units
  intro t9 h9 tk9 F9 N9
  (try dsimp only)
  (try k_fold)
  ktr_unf
  · exfalso
    first
      | (exact absurd rfl (by assumption))
      | (rename_i q; simp at q)
      | simp_all
  · rename Fr _ _ _ _ => F2
    rename News _ _ _ _ => N2
    rw [hpe9] at F2
    exact hret _ _ F2 (fun p hp => N2 p (.tail _ (.tail _ (.tail _ hp))))

end
section
theorem freshL18 : True := by w_top off; exact True.intro

local macro_rules | `(tactic| ktr_rel) => `(tactic| with_reducible first | rfl | assumption | exact lit_fig | exact lit_zero | exact lit_nil | exact lit_star | exact lit_dots | exact lit_coms | exact lit_xdoa | exact lit_dig | exact lit_a | exact lit_t | exact lit_x | exact lit_d | exact lit_o | exact lit_B | exact lit_integer | exact lit_string | exact lit_ascii | exact lit_ignore | exact lit_f02x | exact lit_f03o | exact lit_fd | exact lit_b | fail "no S")
local macro_rules | `(tactic| ktr_unf) => `(tactic| repeat' (first | (k_unfold; (try dsimp only)) | (k_end; kc_close) | ((fail_if_success (with_reducible show wpAny _ _ (exec (Stmt.While _ _ _ _) _) _ _ _)); (fail_if_success (with_reducible show wpAny _ _ (exec (Stmt.For _ _ _ _ _) _) _ _ _)); (fail_if_success (with_reducible show wpAny _ _ (eval (Expr.ListComp _ _ _ _) _) _ _ _)); (fail_if_success (with_reducible show wpAny _ _ (exec (Stmt.Assign _ (Expr.ListComp _ _ _ _) _) _) _ _ _)); (fail_if_success (with_reducible show wpAny _ _ (pyIter _) _ _ _)); (fail_if_success (with_reducible show LCg.CompSrc _ _ _ _ _ _ _ _ _ _ _ _ _ _)); (first | walk1 | (dsimp only; walk1))) | (leave1; walk_say "STEP leave1"; (try dsimp only)) | fail "no step"))
local macro_rules | `(tactic| walk_at "subscriptTail Constant str BinOp") => `(tactic| ((with_reducible show wpAny _ _ (subscriptTail _ _ (Value.str _ _) (Value.int _ _)) _ _ _); (refine' itemD_S ?hx ?h0 ?h1 ?hl ?_); (case hx => ktr_rel); (case h0 => first | decide | omega | exact fmod_lo _ (by decide)); (case h1 => first | decide | omega | exact fmod_hi _ (by decide)); (case hl => first | decide | omega | (simp only [List.length_append, List.length_cons, List.length_nil, List.length_replicate, List.length_map]; omega)); intro _ _))
local macro_rules | `(tactic| walk_at "subscriptTail") => `(tactic| ((with_reducible show wpAny _ _ (subscriptTail _ _ (Value.str _ _) (Value.int _ _)) _ _ _); (refine' itemD_S ?hx ?h0 ?h1 ?hl ?_); (case hx => ktr_rel); (case h0 => first | decide | omega | exact fmod_lo _ (by decide)); (case h1 => first | decide | omega | exact fmod_hi _ (by decide)); (case hl => first | decide | omega | (simp only [List.length_append, List.length_cons, List.length_nil, List.length_replicate, List.length_map]; omega)); intro _ _))
local macro_rules | `(tactic| walk_at "subscriptTail Name Constant str int") => `(tactic| ((with_reducible show wpAny _ _ (subscriptTail _ _ (Value.str _ _) (Value.int 0 _)) _ _ _); (refine' item0_S ?hx ?hl ?_); (case hx => ktr_rel); (case hl => first | decide | omega | (simp only [List.length_append, List.length_cons, List.length_nil, List.length_replicate, List.length_map]; omega)); intro _ _))
local macro_rules | `(tactic| walk_at "subscriptTail") => `(tactic| ((with_reducible show wpAny _ _ (subscriptTail _ _ (Value.str _ _) (Value.int 0 _)) _ _ _); (refine' item0_S ?hx ?hl ?_); (case hx => ktr_rel); (case hl => first | decide | omega | (simp only [List.length_append, List.length_cons, List.length_nil, List.length_replicate, List.length_map]; omega)); intro _ _))
local macro_rules | `(tactic| walk_at "subscriptTail Name Slice str ref") => `(tactic| ((with_reducible show wpAny _ _ (subscriptTail _ (Expr.Slice (some _) none none _) (Value.str _ _) (Value.ref _)) _ _ _); (with_reducible rename Fr _ _ _ _ => F'); (with_reducible rename News _ _ _ _ => N'); (refine' tail_S (s := ⟨_, _, _, _, _⟩) ?hx ?hl F' N' ?_); (case hx => ktr_rel); (case hl => first | decide | omega | (simp only [List.length_append, List.length_cons, List.length_nil, List.length_replicate, List.length_map]; omega)); intro _ _ _ _ _))
local macro_rules | `(tactic| walk_at "subscriptTail") => `(tactic| ((with_reducible show wpAny _ _ (subscriptTail _ (Expr.Slice (some _) none none _) (Value.str _ _) (Value.ref _)) _ _ _); (with_reducible rename Fr _ _ _ _ => F'); (with_reducible rename News _ _ _ _ => N'); (refine' tail_S (s := ⟨_, _, _, _, _⟩) ?hx ?hl F' N' ?_); (case hx => ktr_rel); (case hl => first | decide | omega | (simp only [List.length_append, List.length_cons, List.length_nil, List.length_replicate, List.length_map]; omega)); intro _ _ _ _ _))
local macro_rules | `(tactic| walk_at "call builtin:len cons nil") => `(tactic| ((with_reducible show wpAny _ _ (call (Value.builtin "len") [Value.str _ _]) _ _ _); (refine' len_S ?hx ?hl ?_); (case hx => ktr_rel); (case hl => first | decide | omega | (simp only [List.length_append, List.length_cons, List.length_nil, List.length_replicate, List.length_map]; omega)); intro _ _))
local macro_rules | `(tactic| walk_at "call builtin:len") => `(tactic| ((with_reducible show wpAny _ _ (call (Value.builtin "len") [Value.str _ _]) _ _ _); (refine' len_S ?hx ?hl ?_); (case hx => ktr_rel); (case hl => first | decide | omega | (simp only [List.length_append, List.length_cons, List.length_nil, List.length_replicate, List.length_map]; omega)); intro _ _))
local macro_rules | `(tactic| walk_at "binaryOp Add str str") => `(tactic| ((refine' add_S ?hx ?hy ?hl ?_); (case hx => ktr_rel); (case hy => ktr_rel); (case hl => first | decide | omega | (simp only [List.length_append, List.length_cons, List.length_nil, List.length_replicate, List.length_map]; omega)); intro _ _))
local macro_rules | `(tactic| walk_at "inplaceOp Add str str") => `(tactic| ((refine' iadd_S ?hx ?hy ?hl ?_); (case hx => ktr_rel); (case hy => ktr_rel); (case hl => first | decide | omega | (simp only [List.length_append, List.length_cons, List.length_nil, List.length_replicate, List.length_map]; omega)); intro _ _))
local macro_rules | `(tactic| walk_at "binaryOp Mult str int") => `(tactic| ((refine' mul_S ?hx ?hl ?h0 ?_); (case hx => ktr_rel); (case hl => omega); (case h0 => omega); intro _ _))
local macro_rules | `(tactic| walk_at "compareOp Eq str str") => `(tactic| ((refine' eq_S ?hx ?hy ?_); (case hx => ktr_rel); (case hy => ktr_rel)))
local macro_rules | `(tactic| walk_at "compareOp NotEq str str") => `(tactic| ((refine' ne_S ?hx ?hy ?_); (case hx => ktr_rel); (case hy => ktr_rel)))
local macro_rules | `(tactic| walk_at "compareOp In str str") => `(tactic| ((refine' in_S ?hx ?hy ?_); (case hx => ktr_rel); (case hy => ktr_rel)))
local macro_rules | `(tactic| walk_at "compareOp NotIn str str") => `(tactic| ((refine' notin_S ?hx ?hy ?_); (case hx => ktr_rel); (case hy => ktr_rel)))
local macro_rules | `(tactic| walk_at "truthy str") => `(tactic| ((refine' truthy_S ?hx ?hl ?_); (case hx => ktr_rel); (case hl => first | decide | omega | (simp only [List.length_append, List.length_cons, List.length_nil, List.length_replicate, List.length_map]; omega)); intro _))
local macro_rules | `(tactic| walk_at "call type:int cons nil") => `(tactic| ((with_reducible show wpAny _ _ (call (Value.type "int") [Value.str _ _]) _ _ _); (refine' int_S ?hx ?hc ?_); (case hx => ktr_rel); (case hc => omega); intro _ _))
local macro_rules | `(tactic| walk_at "call type:int") => `(tactic| ((with_reducible show wpAny _ _ (call (Value.type "int") [Value.str _ _]) _ _ _); (refine' int_S ?hx ?hc ?_); (case hx => ktr_rel); (case hc => omega); intro _ _))
local macro_rules | `(tactic| walk_at "compareOp Is bytes ref") => `(tactic| (refine wpAny_is_other (by rfl) (by intro x; cases x) ?_))
local macro_rules | `(tactic| walk_at "truthy str") => `(tactic| first | ((refine truthy_Sn (by with_reducible first | rfl | exact lit_nil) ?_); intro _) | ((refine truthy_Sc (by with_reducible first | rfl | exact lit_star) (by first | decide | omega | (simp only [List.length_append, List.length_cons, List.length_nil, List.length_replicate, List.length_map] at *; omega)) ?_); intro _))

local macro_rules | `(tactic| walk_at "truthy bytes") => `(tactic| (refine truthy_B (by first | omega | (simp only [List.length_append, List.length_cons, List.length_nil, List.length_take, List.length_drop]; omega)) ?_; intro _))
local macro_rules | `(tactic| walk_at "call builtin:len") => `(tactic| ((with_reducible show wpAny _ _ (call (Value.builtin "len") [Value.bytes (List.toArray _) _]) _ _ _); refine len_B (by first | omega | (simp only [List.length_append, List.length_cons, List.length_nil, List.length_take, List.length_drop]; omega)) ?_; intro _ _))
local macro_rules | `(tactic| walk_at "subscriptTail Name str Constant bytes int") => `(tactic| ((with_reducible show wpAny _ _ (subscriptTail _ _ (Value.bytes (List.toArray (_ :: _)) _) (Value.int 0 _)) _ _ _); refine item0_B (by first | omega | (simp only [List.length_append, List.length_cons, List.length_nil] at *; omega)) ?_; intro _ _))
local macro_rules | `(tactic| walk_at "subscriptTail Name Constant bytes int") => `(tactic| ((with_reducible show wpAny _ _ (subscriptTail _ _ (Value.bytes (List.toArray (_ :: _)) _) (Value.int 0 _)) _ _ _); refine item0_B (by first | omega | (simp only [List.length_append, List.length_cons, List.length_nil] at *; omega)) ?_; intro _ _))
local macro_rules | `(tactic| walk_at "subscriptTail") => `(tactic| ((with_reducible show wpAny _ _ (subscriptTail _ _ (Value.bytes (List.toArray (_ :: _)) _) (Value.int 0 _)) _ _ _); refine item0_B (by first | omega | (simp only [List.length_append, List.length_cons, List.length_nil] at *; omega)) ?_; intro _ _))
local macro_rules | `(tactic| walk_at "subscriptTail Name str Slice") => `(tactic| ((with_reducible show wpAny _ _ (subscriptTail _ (Expr.Slice none (some _) none _) (Value.bytes (List.toArray _) _) (Value.ref _)) _ _ _); (with_reducible rename Fr _ _ _ _ => F'); (with_reducible rename News _ _ _ _ => N'); (refine head_B (s := ⟨_, _, _, _, _⟩) F' N' (by first | decide | omega) (by first | omega | (simp only [List.length_append, List.length_cons, List.length_nil, List.length_take, List.length_drop] at *; omega)) ?_); intro _ _ _ _ _))
local macro_rules | `(tactic| walk_at "subscriptTail") => `(tactic| ((with_reducible show wpAny _ _ (subscriptTail _ (Expr.Slice none (some _) none _) (Value.bytes (List.toArray _) _) (Value.ref _)) _ _ _); (with_reducible rename Fr _ _ _ _ => F'); (with_reducible rename News _ _ _ _ => N'); (refine head_B (s := ⟨_, _, _, _, _⟩) F' N' (by first | decide | omega) (by first | omega | (simp only [List.length_append, List.length_cons, List.length_nil, List.length_take, List.length_drop] at *; omega)) ?_); intro _ _ _ _ _))
local macro_rules | `(tactic| walk_at "subscriptTail Name str Slice") => `(tactic| ((with_reducible show wpAny _ _ (subscriptTail _ (Expr.Slice (some _) none none _) (Value.bytes (List.toArray _) _) (Value.ref _)) _ _ _); (with_reducible rename Fr _ _ _ _ => F'); (with_reducible rename News _ _ _ _ => N'); (refine drop_B (s := ⟨_, _, _, _, _⟩) F' N' (by first | decide | omega) (by first | omega | (simp only [List.length_append, List.length_cons, List.length_nil, List.length_take, List.length_drop] at *; omega)) ?_); intro _ _ _ _ _))
local macro_rules | `(tactic| walk_at "subscriptTail") => `(tactic| ((with_reducible show wpAny _ _ (subscriptTail _ (Expr.Slice (some _) none none _) (Value.bytes (List.toArray _) _) (Value.ref _)) _ _ _); (with_reducible rename Fr _ _ _ _ => F'); (with_reducible rename News _ _ _ _ => N'); (refine drop_B (s := ⟨_, _, _, _, _⟩) F' N' (by first | decide | omega) (by first | omega | (simp only [List.length_append, List.length_cons, List.length_nil, List.length_take, List.length_drop] at *; omega)) ?_); intro _ _ _ _ _))
local macro_rules | `(tactic| walk_at "binaryOp Mod str int") => `(tactic| (first | ((with_reducible refine mod_x ?h0 ?h1 ?_); (case h0 => omega); (case h1 => omega); intro _ _) | ((with_reducible refine mod_o ?h0 ?h1 ?_); (case h0 => omega); (case h1 => omega); intro _ _)))
local macro_rules | `(tactic| walk_at "call builtin:bytes.decode") => `(tactic| ((with_reducible refine decode_B ?h0 ?h1 ?_); (case h0 => first | assumption | omega); (case h1 => assumption); intro _ _))
local macro_rules | `(tactic| walk_at "inplaceOp LShift int int") => `(tactic| ((refine shl8 (by omega) ?_); intro _ _))
local macro_rules | `(tactic| walk_at "inplaceOp BitOr int int") => `(tactic| ((refine or8 (by first | assumption | omega) ?_); intro _ _))
local macro_rules | `(tactic| walk_at "truthy bytes") => `(tactic| first | ((with_reducible refine truthy_Bn ?_); intro _) | ((with_reducible refine truthy_Bc ?hl ?_); (case hl => first | decide | omega | (simp only [List.length_append, List.length_cons, List.length_nil, List.length_replicate, List.length_map] at *; omega)); intro _))

local macro_rules | `(tactic| ktr_unf) => `(tactic| repeat' (first | (k_unfold; (try dsimp only)) | (k_end; kc_close) | ((fail_if_success (with_reducible show wpAny _ _ (exec (Stmt.While _ _ _ _) _) _ _ _)); (fail_if_success (with_reducible show wpAny _ _ (exec (Stmt.For _ _ _ _ _) _) _ _ _)); (fail_if_success (with_reducible show wpAny _ _ (eval (Expr.ListComp _ _ _ _) _) _ _ _)); (fail_if_success (with_reducible show wpAny _ _ (exec (Stmt.Assign _ (Expr.ListComp _ _ _ _) _) _) _ _ _)); (fail_if_success (with_reducible show wpAny _ _ (pyIter _) _ _ _)); (fail_if_success (with_reducible show wpAny _ _ (exec (Stmt.If (Expr.Compare _ _ [Expr.Constant (Const.str (Str.ofString "a")) _ _] _) _ _ _) _) _ _ _)); (fail_if_success (with_reducible show LCg.CompSrc _ _ _ _ _ _ _ _ _ _ _ _ _ _)); (first | walk1 | (dsimp only; walk1))) | (leave1; walk_say "STEP leave1"; (try dsimp only)) | fail "no step"))

local macro_rules | `(tactic| k_room) => `(tactic| ktr_room)
local macro_rules | `(tactic| walk_at "loadName") => `(tactic| k_dflt (refine' wpAny_loadName_local ?k ?l (Fr.ns ?F) ?v ?_; (case F => k_asm); (case k => rfl); (case l => rfl); (case v => rfl); k_whole))
local macro_rules | `(tactic| walk_at "call ref") => `(tactic| ((with_reducible show wpAny _ _ (call (Value.ref 402) _) _ _ _); k_dflt (refine' number_spec _ _ _ _ _ _ _ _ _ _ _ _ _ _ _ _ _ _ _ _ _ _ _ ?k1 ?k2 ?k3 ?k4 ?k5 ?kK ?a1 ?a2 ?a3 ?a4 ?a5 ?kd ?ku ?kR; (case k1 => k_asm); (case k2 => k_asm); (case k3 => k_asm); (case k4 => k_asm); (case k5 => k_asm); (case kK => first | exact rfl | assumption); (case a1 => assumption); (case a2 => assumption); (case a3 => assumption); (case a4 => omega); (case a5 => omega); (case kd => ktr_room); (case ku => ktr_units); intro t9 h9 tk9 F9 N9; (try dsimp only); (try k_fold))))
local macro_rules | `(tactic| walk_at "call type:str") => `(tactic| ((with_reducible show wpAny _ _ (call (Value.type "str") [Value.int _ _]) _ _ _); k_dflt (refine' str_I ?h1 ?h2 ?_; (case h1 => omega); (case h2 => omega)); intro _ _))

theorem ldue_spec : ∀ {w : World} {mean : ExcName → Option Value} {mg mb : Str → Option Value} (dp un : Nat) (gd : Option (List Code)) (a : Addr) (ccd : Value) (outer : List Env) (A₀ : Around) (base h₀ : Heap) (L : Addr) (m : Str → Option Value) (news : List (Addr × Obj)) (s : Shared) (Q : Flow → Shared → Prop) (E : Value → Shared → Prop)
    (_ : Below A₀ base outer h₀) (_ : Fr h₀ L s.heap m) (_ : (hd.heap_39 w.params).In h₀) (_ : Top hd.view_39 (looseW hd.view_39 [Str.ofString "noValue", Str.ofString "Value", Str.ofString "Integer32", Str.ofString "OctetString", Str.ofString "SmiError", Str.ofString "TextualConvention", Str.ofString "HintedString", Str.ofString "HintedInteger", Str.ofString "TestAndIncr", Str.ofString "RowStatus"]) mean mg mb h₀) (_ : dp + 20 < recursionLimit) (_ : un + 200 < cLine) (_ : News h₀ L s.heap news)
    (_ : ∀ (h' : Heap) (tk : Nat) (m' : Str → Option Value) (t : Tok), Fr h₀ L h' m' → News h₀ L h' news → Has m' [(Str.ofString "due", .str (S []) t)] → (∀ z, z ≠ Str.ofString "due" → m' z = m z) → Q .next { s with heap := h', toks := tk }),
    wpAny (model Challenge.rw_am6029_01.row.prog w) (ktrTop dp un gd (Str.ofString "law") lScope L a ccd (cellsFrom (L + 1) lScope.names []) outer) (execs [lS 8] (envX (Str.ofString "law") lScope L a ccd (cellsFrom (L + 1) lScope.names []))) Q E s := by
  k_fill
  intro w mean mg mb dp un gd a ccd outer A₀ base h₀ L m news s Q E B F X T0 hd hu N hret
  conv => arg 3; arg 1; arg 1; whnf
  ktr_unf
  rename Fr _ _ _ _ => F2
  rename News _ _ _ _ => N2
  exact hret _ _ _ _ F2 N2 ⟨congrArg (fun x => some (Value.str x _)) lit_nil, trivial⟩ (fun z z1 => if_neg z1)
theorem piece_len (ns : List Int) (b : Int) (c tot : Nat) (ps : List Pt) (hps : ∀ p ∈ ps, POk p) (hc : c = ps.length) (h1 : 1 ≤ c) (g : Nat) : (pieceAt ns b c tot ps g).1.length ≤ 100 ∧ (pieceAt ns b c tot ps g).2.length ≤ 1 := by
  have hp := (pAt_ok ps c g hps hc h1).2
  have h := gRows_ok (pAt ps c g) hp (numF ns (b + 5 + 2 * (g : Int))) (numF ns (b + 6 + 2 * (g : Int))) (decide ((g : Int) = (tot : Int) - 1))
  have h2 := (rows_len (pAt ps c g).wy hp.2.2.1 (mkP (pAt ps c g)).toList (by cases mkP (pAt ps c g) <;> simp [Option.toList]) _ h.2).1
  refine ⟨?_, ?_⟩
  · show (tellsN _ _ (gRows _ _ _ _)).length ≤ 100
    have := h.1
    omega
  · show (sepP _).length ≤ 1
    unfold sepP; split <;> simp
theorem rbody_spec : ∀ {w : World} {mean : ExcName → Option Value} {mg mb : Str → Option Value} (dp un : Nat) (gd : Option (List Code)) (a : Addr) (ccd : Value) (outer : List Env) (A₀ : Around) (base h₀ : Heap) (L : Addr) (m : Str → Option Value) (news : List (Addr × Obj)) (s : Shared) (l : Addr) (vs : List Value) (ns : List Int) (R : Nat) (oj om ow : Obj) (vj vm vw : Option Value) (t1 : Tok) (Q : Flow → Shared → Prop) (E : Value → Shared → Prop)
    (_ : Below A₀ base outer h₀) (_ : Fr h₀ L s.heap m) (_ : (hd.heap_39 w.params).In h₀) (_ : Top hd.view_39 (looseW hd.view_39 [Str.ofString "noValue", Str.ofString "Value", Str.ofString "Integer32", Str.ofString "OctetString", Str.ofString "SmiError", Str.ofString "TextualConvention", Str.ofString "HintedString", Str.ofString "HintedInteger", Str.ofString "TestAndIncr", Str.ofString "RowStatus"]) mean mg mb h₀) (_ : dp + 20 < recursionLimit) (_ : un + 200 < cLine) (_ : base.IsList l vs.toArray) (_ : IntsAre vs ns) (_ : ns.length < 2 ^ 62) (_ : News h₀ L s.heap ((L + 1 + 1 + 1, oj) :: (L + 1 + 1, om) :: (L + 1, ow) :: news)) (_ : OwnOff news [L + 1 + 1 + 1, L + 1 + 1, L + 1]) (_ : R ≤ 2)
    (_ : oj.data = .cell vj) (_ : om.data = .cell vm) (_ : ow.data = .cell vw)
    (_ : Has m [(Str.ofString "script", .ref l), (Str.ofString "r", .int (R : Int) t1)])
    (_ : PassesOwn (model Challenge.rw_am6029_01.row.prog w) (ktrTop dp un gd (Str.ofString "law") lScope L a ccd (cellsFrom (L + 1) lScope.names []) outer) (envX (Str.ofString "law") lScope L a ccd (cellsFrom (L + 1) lScope.names [])) E)
    (_ : ∀ (h' : Heap) (tk : Nat) (m' : Str → Option Value) (oj' om' ow' : Obj) (vj' vm' vw' : Option Value), Fr h₀ L h' m' → oj'.data = .cell vj' → om'.data = .cell vm' → ow'.data = .cell vw' → News h₀ L h' ((L + 1 + 1 + 1, oj') :: (L + 1 + 1, om') :: (L + 1, ow') :: news) → m' (Str.ofString "script") = some (.ref l) → Q .next { s with heap := h', toks := tk }),
    wpAny (model Challenge.rw_am6029_01.row.prog w) (ktrTop dp un gd (Str.ofString "law") lScope L a ccd (cellsFrom (L + 1) lScope.names []) outer) (execs (bodyS lawFor) (envX (Str.ofString "law") lScope L a ccd (cellsFrom (L + 1) lScope.names []))) Q E s := by
  k_fill
  intro w mean mg mb dp un gd a ccd outer A₀ base h₀ L m news s l vs ns R oj om ow vj vm vw t1 Q E B F X T0 hd hu hl hi hfit N hoff hR hj hm' hw hm hE hret
  show wpAny _ _ (execs ([lS 0, lS 1, lS 2] ++ ([kFor] ++ ([lS 4, lS 5, lS 6] ++ ([gFor] ++ ([lS 8] ++ ([dFor] ++ [lS 10])))))) _) _ _ _
  refine execs_app ?_
  refine lhead_spec _ _ _ _ _ _ _ _ _ _ _ _ _ l vs ns R _ _ _ B F X T0 hd hu hl hi hfit N hR ⟨hm.1, hm.2.1, trivial⟩ ?_
  intro h1 tk1 m1 pa w1 w2 w3 F1 N1 hpa1 a1
  obtain ⟨p1, p2, p3, p4⟩ := hpa1
  generalize hb : 40 * (R : Int) = b at a1
  have hb0 : 0 ≤ b := by omega
  have hb1 : b ≤ 80 := by omega
  have q1 := fm_lo (numF ns b) (show (0 : Int) < 3 by decide)
  have q2 := fm_hi (numF ns b) (show (0 : Int) < 3 by decide)
  obtain ⟨c, hc⟩ : ∃ c : Nat, 1 + (numF ns b).fmod 3 = (c : Int) := ⟨(1 + (numF ns b).fmod 3).toNat, (Int.toNat_of_nonneg (by omega)).symm⟩
  rw [hc] at a1
  have hc1 : 1 ≤ c := by omega
  have hc3 : c ≤ 3 := by omega
  have hall4 := allLt_use p4
  have hoff4 : OwnOff news [L + 1 + 1 + 1, L + 1 + 1, L + 1, pa] := fun p hp b' hb' => by
    simp only [List.mem_cons, List.not_mem_nil, or_false] at hb'
    rcases hb' with h | h | h | h
    · exact hoff p hp b' (by simp [h])
    · exact hoff p hp b' (by simp [h])
    · exact hoff p hp b' (by simp [h])
    · rw [h]; exact Nat.ne_of_lt (hall4 p hp)
  refine execs_app ?_
  refine wpAny_execs_cons ?_
  refine kfor_spec _ _ _ _ _ _ _ _ _ _ _ news _ l vs ns b c pa oj om ow vj vm vw _ _ _ _ _ B F1 X T0 hd hu hl hi hfit (fun p hp => N1 p ?_) p1 hoff4 hb0 hb1 hc3 hj hm' hw ⟨a1.1, a1.2.1, a1.2.2.1, a1.2.2.2.1, a1.2.2.2.2.1, trivial⟩ hE ?_
  · simp only [List.mem_cons] at hp ⊢
    rcases hp with h | h | h | h | h <;> simp [h]
  intro h2 tk2 m2 ow2 v2 pvs np tl w4 F2 d2 N2 hofft hsub2 hall a2
  refine wpAny_execs_nil ?_
  show wpAny _ _ (execs ([lS 4, lS 5, lS 6] ++ ([gFor] ++ ([lS 8] ++ ([dFor] ++ [lS 10])))) _) _ _ _
  refine execs_app ?_
  refine lmid_spec _ _ _ _ _ _ _ _ _ _ _ _ _ l vs ns b c _ _ _ _ B F2 X T0 hd hu hl hi hfit N2 hb0 hb1 hc3 ⟨a2.1, a2.2.1, a2.2.2.1, trivial⟩ ?_
  intro h3 tk3 m3 oa qa w5 w6 F3 N3 hoq hoall a3 a4
  have r1 := fm_lo (numF ns (b + 4)) (show (0 : Int) < 2 by decide)
  have r2 := fm_hi (numF ns (b + 4)) (show (0 : Int) < 2 by decide)
  obtain ⟨rd, hrd⟩ : ∃ rd : Nat, 1 + (numF ns (b + 4)).fmod 2 = (rd : Int) := ⟨(1 + (numF ns (b + 4)).fmod 2).toNat, (Int.toNat_of_nonneg (by omega)).symm⟩
  have htc : (c : Int) * (1 + (numF ns (b + 4)).fmod 2) = ((c * rd : Nat) : Int) := by rw [hrd]; exact (Int.natCast_mul c rd).symm
  rw [htc] at a3
  have hrd1 : 1 ≤ rd := by omega
  have hrd2 : rd ≤ 2 := by omega
  have htot : c * rd ≤ 6 := Nat.le_trans (Nat.mul_le_mul hc3 hrd2) (by decide)
  generalize c * rd = tot at a3 htot
  generalize hps : partsOf ns b c = ps at hall a2
  have hpo : ∀ p ∈ ps, POk p := hps ▸ partsOf_ok ns b c
  have hpl : c = ps.length := (hps ▸ partsOf_len ns b c).symm
  have hpk : PsOk ps := hps ▸ partsOf_psok ns b c
  obtain ⟨o1, o2, o3, o4, o5⟩ := hoall
  have htl := allLt_use o5
  have hoffg : OwnOff ((pa, listOf pvs.toArray np) :: tl) [L + 1 + 1 + 1, L + 1 + 1, L + 1, oa, qa] := fun p hp b' hb' => by
    simp only [List.mem_cons, List.not_mem_nil, or_false] at hb'
    rcases List.mem_cons.mp hp with rfl | hp
    · rcases hb' with h | h | h | h | h <;> (rw [h]; exact neN (by dsimp only; omega))
    · have := htl p hp
      rcases hb' with h | h | h | h | h
      · exact hofft p hp b' (by simp [h])
      · exact hofft p hp b' (by simp [h])
      · exact hofft p hp b' (by simp [h])
      · rw [h]; exact Nat.ne_of_lt this
      · rw [h]; exact Nat.ne_of_lt (Nat.lt_trans this hoq)
  refine execs_app ?_
  refine wpAny_execs_cons ?_
  refine gfor_spec _ _ _ _ _ _ _ _ _ _ _ ((pa, listOf pvs.toArray np) :: tl) _ l vs ns b c tot ps pa oa qa pvs np oj om ow2 vj vm v2 _ _ _ _ _ B F3 X T0 hd hu hl hi hfit (fun p hp => N3 p ?_) o1 hoq p1 hoffg (.head _) (hall.mono (fun p hp => .tail _ hp)) hpo hpl hb0 hb1 htot hc1 hc3 hj hm' d2 ⟨(a4 (Str.ofString "script") (by decide) (by decide) (by decide) (by decide)).trans a2.1, (a4 (Str.ofString "base") (by decide) (by decide) (by decide) (by decide)).trans a2.2.1, (a4 (Str.ofString "count") (by decide) (by decide) (by decide) (by decide)).trans a2.2.2.1, a3.2.2.1, (a4 (Str.ofString "parts") (by decide) (by decide) (by decide) (by decide)).trans a2.2.2.2.2.1, a3.1, a3.2.1, trivial⟩ hE ?_
  · simp only [List.mem_cons] at hp ⊢
    rcases hp with h | h | h | h | h | h | h <;> simp [h]
  intro h4 tk4 m4 oj4 om4 ow4 vj4 vm4 vw4 ys qvs no nq tl4 F4 e1 e2 e3 N4 hsub4 hpc hys a5
  refine wpAny_execs_nil ?_
  show wpAny _ _ (execs ([lS 8] ++ ([dFor] ++ [lS 10])) _) _ _ _
  refine execs_app ?_
  refine ldue_spec _ _ _ _ _ _ _ _ _ _ _ _ _ _ _ B F4 X T0 hd hu N4 ?_
  intro h5 tk5 m5 w7 F5 N5 a6 a7
  refine execs_app ?_
  refine wpAny_execs_cons ?_
  have d10 : ∀ z, z ≠ Str.ofString "g" → z ≠ Str.ofString "length" → z ≠ Str.ofString "repeated" → z ≠ Str.ofString "sep" → z ≠ Str.ofString "mark" → z ≠ Str.ofString "drawn" → z ≠ Str.ofString "told" → z ≠ Str.ofString "items" → z ≠ Str.ofString "short" → z ≠ Str.ofString "row" → z ≠ Str.ofString "due" → m5 z = m3 z := fun z z1 z2 z3 z4 z5 z6 z7 z8 z9 z10 z11 => (a7 z z11).trans (a5 z z1 z2 z3 z4 z5 z6 z7 z8 z9 z10)
  refine dfor_spec _ _ _ _ _ _ _ _ _ _ _ _ _ (pieceAt ns b c tot ps) tot qa qvs nq _ _ _ _ B F5 X T0 hd hu N5 (.tail _ (.tail _ (.tail _ (.tail _ (.head _))))) (hpc.mono (fun p hp => .tail _ (.tail _ (.tail _ (.tail _ (.tail _ hp)))))) (fun g => (piece_len ns b c tot ps hpo hpl hc1 g).1) (fun g => (piece_len ns b c tot ps hpo hpl hc1 g).2) htot ⟨(d10 (Str.ofString "total") (by decide) (by decide) (by decide) (by decide) (by decide) (by decide) (by decide) (by decide) (by decide) (by decide) (by decide)).trans a3.2.2.1, (d10 (Str.ofString "pieces") (by decide) (by decide) (by decide) (by decide) (by decide) (by decide) (by decide) (by decide) (by decide) (by decide) (by decide)).trans a3.2.1, a6.1, trivial⟩ hE ?_
  intro h6 tk6 m6 w8 F6 N6 a8 a9
  refine wpAny_execs_nil ?_
  show wpAny _ _ (execs [lS 10] _) _ _ _
  have hgs : GsOk ps ps ((List.range tot).map (grpAt ns b c tot ps)) := by
    have := gs_ok ns b c tot ps hpo hpl hc1 tot 0 (Nat.zero_add _)
    rw [Nat.zero_mod, List.drop_zero, ← List.range_eq_range'] at this
    exact this
  have hdue := due_ok ns b c tot ps hpo hpl hc1 tot 0 (Nat.zero_add _)
  rw [← List.range_eq_range'] at hdue
  have hoct := octs_ok ns b c tot ps hpo hpl hc1 (List.range tot)
  have hcost := cost_ok ns b c tot ps (List.range tot)
  rw [List.length_range] at hcost
  have hfl := flat_len (octAt ns b c tot ps) 7 (fun g => gOcts_len _ (pAt_ok ps c g hpo hpl hc1).2 _ _ _) tot
  have hol : (octs ((List.range tot).map (grpAt ns b c tot ps))).length ≤ 9000 := by
    have := congrArg List.length hoct
    rw [List.length_map] at this
    omega
  have hcl := codesL_len ps
  rw [← hoct] at hys
  rw [← hdue] at a8
  generalize (List.range tot).map (grpAt ns b c tot ps) = gs at hgs hcost hol hys a8
  refine lend_spec _ _ _ _ _ _ _ _ _ _ _ ((L + 1 + 1 + 1, oj4) :: (L + 1 + 1, om4) :: (L + 1, ow4) :: tl4) _ ps gs oa ys no _ _ _ _ B F6 X T0 hd hu (fun p hp => N6 p ?_) (fun q => by rw [q] at hpl; simp only [List.length_nil] at hpl; omega) hpk hgs (by omega) (by omega) hol hys ⟨(a9 (Str.ofString "hint") (by decide) (by decide)).trans ((d10 (Str.ofString "hint") (by decide) (by decide) (by decide) (by decide) (by decide) (by decide) (by decide) (by decide) (by decide) (by decide) (by decide)).trans ((a4 (Str.ofString "hint") (by decide) (by decide) (by decide) (by decide)).trans a2.2.2.2.1)), (a9 (Str.ofString "octets") (by decide) (by decide)).trans ((d10 (Str.ofString "octets") (by decide) (by decide) (by decide) (by decide) (by decide) (by decide) (by decide) (by decide) (by decide) (by decide) (by decide)).trans a3.1), a8.1, trivial⟩ ?_
  · simp only [List.mem_cons] at hp ⊢
    rcases hp with h | h | h | h | h <;> simp [h]
  intro h7 tk7 F7 N7
  refine hret _ _ _ oj4 om4 ow4 vj4 vm4 vw4 F7 e1 e2 e3 (fun p hp => N7 p ?_) ?_
  · simp only [List.mem_cons] at hp ⊢
    rcases hp with h | h | h | h
    · simp [h]
    · simp [h]
    · simp [h]
    · exact .inr (.inr (.inr (hsub4 p (.tail _ (hsub2 p h)))))
  · exact (a9 (Str.ofString "script") (by decide) (by decide)).trans ((d10 (Str.ofString "script") (by decide) (by decide) (by decide) (by decide) (by decide) (by decide) (by decide) (by decide) (by decide) (by decide) (by decide)).trans ((a4 (Str.ofString "script") (by decide) (by decide) (by decide) (by decide)).trans a2.1))

end
section
theorem freshL19 : True := by w_top off; exact True.intro
local macro_rules | `(tactic| walk_at "pad of mine") => `(tactic| fail "a pad")

local macro_rules | `(tactic| ktr_rel) => `(tactic| with_reducible first | rfl | assumption | exact lit_fig | exact lit_zero | exact lit_nil | exact lit_star | exact lit_dots | exact lit_coms | exact lit_xdoa | exact lit_dig | exact lit_a | exact lit_t | exact lit_x | exact lit_d | exact lit_o | exact lit_B | exact lit_integer | exact lit_string | exact lit_ascii | exact lit_ignore | exact lit_f02x | exact lit_f03o | exact lit_fd | exact lit_b | fail "no S")
local macro_rules | `(tactic| ktr_unf) => `(tactic| repeat' (first | (k_unfold; (try dsimp only)) | (k_end; kc_close) | ((fail_if_success (with_reducible show wpAny _ _ (exec (Stmt.While _ _ _ _) _) _ _ _)); (fail_if_success (with_reducible show wpAny _ _ (exec (Stmt.For _ _ _ _ _) _) _ _ _)); (fail_if_success (with_reducible show wpAny _ _ (eval (Expr.ListComp _ _ _ _) _) _ _ _)); (fail_if_success (with_reducible show wpAny _ _ (exec (Stmt.Assign _ (Expr.ListComp _ _ _ _) _) _) _ _ _)); (fail_if_success (with_reducible show wpAny _ _ (pyIter _) _ _ _)); (fail_if_success (with_reducible show LCg.CompSrc _ _ _ _ _ _ _ _ _ _ _ _ _ _)); (first | walk1 | (dsimp only; walk1))) | (leave1; walk_say "STEP leave1"; (try dsimp only)) | fail "no step"))
local macro_rules | `(tactic| walk_at "subscriptTail Constant str BinOp") => `(tactic| ((with_reducible show wpAny _ _ (subscriptTail _ _ (Value.str _ _) (Value.int _ _)) _ _ _); (refine' itemD_S ?hx ?h0 ?h1 ?hl ?_); (case hx => ktr_rel); (case h0 => first | decide | omega | exact fmod_lo _ (by decide)); (case h1 => first | decide | omega | exact fmod_hi _ (by decide)); (case hl => first | decide | omega | (simp only [List.length_append, List.length_cons, List.length_nil, List.length_replicate, List.length_map]; omega)); intro _ _))
local macro_rules | `(tactic| walk_at "subscriptTail") => `(tactic| ((with_reducible show wpAny _ _ (subscriptTail _ _ (Value.str _ _) (Value.int _ _)) _ _ _); (refine' itemD_S ?hx ?h0 ?h1 ?hl ?_); (case hx => ktr_rel); (case h0 => first | decide | omega | exact fmod_lo _ (by decide)); (case h1 => first | decide | omega | exact fmod_hi _ (by decide)); (case hl => first | decide | omega | (simp only [List.length_append, List.length_cons, List.length_nil, List.length_replicate, List.length_map]; omega)); intro _ _))
local macro_rules | `(tactic| walk_at "subscriptTail Name Constant str int") => `(tactic| ((with_reducible show wpAny _ _ (subscriptTail _ _ (Value.str _ _) (Value.int 0 _)) _ _ _); (refine' item0_S ?hx ?hl ?_); (case hx => ktr_rel); (case hl => first | decide | omega | (simp only [List.length_append, List.length_cons, List.length_nil, List.length_replicate, List.length_map]; omega)); intro _ _))
local macro_rules | `(tactic| walk_at "subscriptTail") => `(tactic| ((with_reducible show wpAny _ _ (subscriptTail _ _ (Value.str _ _) (Value.int 0 _)) _ _ _); (refine' item0_S ?hx ?hl ?_); (case hx => ktr_rel); (case hl => first | decide | omega | (simp only [List.length_append, List.length_cons, List.length_nil, List.length_replicate, List.length_map]; omega)); intro _ _))
local macro_rules | `(tactic| walk_at "subscriptTail Name Slice str ref") => `(tactic| ((with_reducible show wpAny _ _ (subscriptTail _ (Expr.Slice (some _) none none _) (Value.str _ _) (Value.ref _)) _ _ _); (with_reducible rename Fr _ _ _ _ => F'); (with_reducible rename News _ _ _ _ => N'); (refine' tail_S (s := ⟨_, _, _, _, _⟩) ?hx ?hl F' N' ?_); (case hx => ktr_rel); (case hl => first | decide | omega | (simp only [List.length_append, List.length_cons, List.length_nil, List.length_replicate, List.length_map]; omega)); intro _ _ _ _ _))
local macro_rules | `(tactic| walk_at "subscriptTail") => `(tactic| ((with_reducible show wpAny _ _ (subscriptTail _ (Expr.Slice (some _) none none _) (Value.str _ _) (Value.ref _)) _ _ _); (with_reducible rename Fr _ _ _ _ => F'); (with_reducible rename News _ _ _ _ => N'); (refine' tail_S (s := ⟨_, _, _, _, _⟩) ?hx ?hl F' N' ?_); (case hx => ktr_rel); (case hl => first | decide | omega | (simp only [List.length_append, List.length_cons, List.length_nil, List.length_replicate, List.length_map]; omega)); intro _ _ _ _ _))
local macro_rules | `(tactic| walk_at "call builtin:len cons nil") => `(tactic| ((with_reducible show wpAny _ _ (call (Value.builtin "len") [Value.str _ _]) _ _ _); (refine' len_S ?hx ?hl ?_); (case hx => ktr_rel); (case hl => first | decide | omega | (simp only [List.length_append, List.length_cons, List.length_nil, List.length_replicate, List.length_map]; omega)); intro _ _))
local macro_rules | `(tactic| walk_at "call builtin:len") => `(tactic| ((with_reducible show wpAny _ _ (call (Value.builtin "len") [Value.str _ _]) _ _ _); (refine' len_S ?hx ?hl ?_); (case hx => ktr_rel); (case hl => first | decide | omega | (simp only [List.length_append, List.length_cons, List.length_nil, List.length_replicate, List.length_map]; omega)); intro _ _))
local macro_rules | `(tactic| walk_at "binaryOp Add str str") => `(tactic| ((refine' add_S ?hx ?hy ?hl ?_); (case hx => ktr_rel); (case hy => ktr_rel); (case hl => first | decide | omega | (simp only [List.length_append, List.length_cons, List.length_nil, List.length_replicate, List.length_map]; omega)); intro _ _))
local macro_rules | `(tactic| walk_at "inplaceOp Add str str") => `(tactic| ((refine' iadd_S ?hx ?hy ?hl ?_); (case hx => ktr_rel); (case hy => ktr_rel); (case hl => first | decide | omega | (simp only [List.length_append, List.length_cons, List.length_nil, List.length_replicate, List.length_map]; omega)); intro _ _))
local macro_rules | `(tactic| walk_at "binaryOp Mult str int") => `(tactic| ((refine' mul_S ?hx ?hl ?h0 ?_); (case hx => ktr_rel); (case hl => omega); (case h0 => omega); intro _ _))
local macro_rules | `(tactic| walk_at "compareOp Eq str str") => `(tactic| ((refine' eq_S ?hx ?hy ?_); (case hx => ktr_rel); (case hy => ktr_rel)))
local macro_rules | `(tactic| walk_at "compareOp NotEq str str") => `(tactic| ((refine' ne_S ?hx ?hy ?_); (case hx => ktr_rel); (case hy => ktr_rel)))
local macro_rules | `(tactic| walk_at "compareOp In str str") => `(tactic| ((refine' in_S ?hx ?hy ?_); (case hx => ktr_rel); (case hy => ktr_rel)))
local macro_rules | `(tactic| walk_at "compareOp NotIn str str") => `(tactic| ((refine' notin_S ?hx ?hy ?_); (case hx => ktr_rel); (case hy => ktr_rel)))
local macro_rules | `(tactic| walk_at "truthy str") => `(tactic| ((refine' truthy_S ?hx ?hl ?_); (case hx => ktr_rel); (case hl => first | decide | omega | (simp only [List.length_append, List.length_cons, List.length_nil, List.length_replicate, List.length_map]; omega)); intro _))
local macro_rules | `(tactic| walk_at "call type:int cons nil") => `(tactic| ((with_reducible show wpAny _ _ (call (Value.type "int") [Value.str _ _]) _ _ _); (refine' int_S ?hx ?hc ?_); (case hx => ktr_rel); (case hc => omega); intro _ _))
local macro_rules | `(tactic| walk_at "call type:int") => `(tactic| ((with_reducible show wpAny _ _ (call (Value.type "int") [Value.str _ _]) _ _ _); (refine' int_S ?hx ?hc ?_); (case hx => ktr_rel); (case hc => omega); intro _ _))
local macro_rules | `(tactic| walk_at "compareOp Is bytes ref") => `(tactic| (refine wpAny_is_other (by rfl) (by intro x; cases x) ?_))
local macro_rules | `(tactic| walk_at "truthy str") => `(tactic| first | ((refine truthy_Sn (by with_reducible first | rfl | exact lit_nil) ?_); intro _) | ((refine truthy_Sc (by with_reducible first | rfl | exact lit_star) (by first | decide | omega | (simp only [List.length_append, List.length_cons, List.length_nil, List.length_replicate, List.length_map] at *; omega)) ?_); intro _))

local macro_rules | `(tactic| walk_at "truthy bytes") => `(tactic| (refine truthy_B (by first | omega | (simp only [List.length_append, List.length_cons, List.length_nil, List.length_take, List.length_drop]; omega)) ?_; intro _))
local macro_rules | `(tactic| walk_at "call builtin:len") => `(tactic| ((with_reducible show wpAny _ _ (call (Value.builtin "len") [Value.bytes (List.toArray _) _]) _ _ _); refine len_B (by first | omega | (simp only [List.length_append, List.length_cons, List.length_nil, List.length_take, List.length_drop]; omega)) ?_; intro _ _))
local macro_rules | `(tactic| walk_at "subscriptTail Name str Constant bytes int") => `(tactic| ((with_reducible show wpAny _ _ (subscriptTail _ _ (Value.bytes (List.toArray (_ :: _)) _) (Value.int 0 _)) _ _ _); refine item0_B (by first | omega | (simp only [List.length_append, List.length_cons, List.length_nil] at *; omega)) ?_; intro _ _))
local macro_rules | `(tactic| walk_at "subscriptTail Name Constant bytes int") => `(tactic| ((with_reducible show wpAny _ _ (subscriptTail _ _ (Value.bytes (List.toArray (_ :: _)) _) (Value.int 0 _)) _ _ _); refine item0_B (by first | omega | (simp only [List.length_append, List.length_cons, List.length_nil] at *; omega)) ?_; intro _ _))
local macro_rules | `(tactic| walk_at "subscriptTail") => `(tactic| ((with_reducible show wpAny _ _ (subscriptTail _ _ (Value.bytes (List.toArray (_ :: _)) _) (Value.int 0 _)) _ _ _); refine item0_B (by first | omega | (simp only [List.length_append, List.length_cons, List.length_nil] at *; omega)) ?_; intro _ _))
local macro_rules | `(tactic| walk_at "subscriptTail Name str Slice") => `(tactic| ((with_reducible show wpAny _ _ (subscriptTail _ (Expr.Slice none (some _) none _) (Value.bytes (List.toArray _) _) (Value.ref _)) _ _ _); (with_reducible rename Fr _ _ _ _ => F'); (with_reducible rename News _ _ _ _ => N'); (refine head_B (s := ⟨_, _, _, _, _⟩) F' N' (by first | decide | omega) (by first | omega | (simp only [List.length_append, List.length_cons, List.length_nil, List.length_take, List.length_drop] at *; omega)) ?_); intro _ _ _ _ _))
local macro_rules | `(tactic| walk_at "subscriptTail") => `(tactic| ((with_reducible show wpAny _ _ (subscriptTail _ (Expr.Slice none (some _) none _) (Value.bytes (List.toArray _) _) (Value.ref _)) _ _ _); (with_reducible rename Fr _ _ _ _ => F'); (with_reducible rename News _ _ _ _ => N'); (refine head_B (s := ⟨_, _, _, _, _⟩) F' N' (by first | decide | omega) (by first | omega | (simp only [List.length_append, List.length_cons, List.length_nil, List.length_take, List.length_drop] at *; omega)) ?_); intro _ _ _ _ _))
local macro_rules | `(tactic| walk_at "subscriptTail Name str Slice") => `(tactic| ((with_reducible show wpAny _ _ (subscriptTail _ (Expr.Slice (some _) none none _) (Value.bytes (List.toArray _) _) (Value.ref _)) _ _ _); (with_reducible rename Fr _ _ _ _ => F'); (with_reducible rename News _ _ _ _ => N'); (refine drop_B (s := ⟨_, _, _, _, _⟩) F' N' (by first | decide | omega) (by first | omega | (simp only [List.length_append, List.length_cons, List.length_nil, List.length_take, List.length_drop] at *; omega)) ?_); intro _ _ _ _ _))
local macro_rules | `(tactic| walk_at "subscriptTail") => `(tactic| ((with_reducible show wpAny _ _ (subscriptTail _ (Expr.Slice (some _) none none _) (Value.bytes (List.toArray _) _) (Value.ref _)) _ _ _); (with_reducible rename Fr _ _ _ _ => F'); (with_reducible rename News _ _ _ _ => N'); (refine drop_B (s := ⟨_, _, _, _, _⟩) F' N' (by first | decide | omega) (by first | omega | (simp only [List.length_append, List.length_cons, List.length_nil, List.length_take, List.length_drop] at *; omega)) ?_); intro _ _ _ _ _))
local macro_rules | `(tactic| walk_at "binaryOp Mod str int") => `(tactic| (first | ((with_reducible refine mod_x ?h0 ?h1 ?_); (case h0 => omega); (case h1 => omega); intro _ _) | ((with_reducible refine mod_o ?h0 ?h1 ?_); (case h0 => omega); (case h1 => omega); intro _ _)))
local macro_rules | `(tactic| walk_at "call builtin:bytes.decode") => `(tactic| ((with_reducible refine decode_B ?h0 ?h1 ?_); (case h0 => first | assumption | omega); (case h1 => assumption); intro _ _))
local macro_rules | `(tactic| walk_at "inplaceOp LShift int int") => `(tactic| ((refine shl8 (by omega) ?_); intro _ _))
local macro_rules | `(tactic| walk_at "inplaceOp BitOr int int") => `(tactic| ((refine or8 (by first | assumption | omega) ?_); intro _ _))
local macro_rules | `(tactic| walk_at "truthy bytes") => `(tactic| first | ((with_reducible refine truthy_Bn ?_); intro _) | ((with_reducible refine truthy_Bc ?hl ?_); (case hl => first | decide | omega | (simp only [List.length_append, List.length_cons, List.length_nil, List.length_replicate, List.length_map] at *; omega)); intro _))

local macro_rules | `(tactic| ktr_unf) => `(tactic| repeat' (first | (k_unfold; (try dsimp only)) | (k_end; kc_close) | ((fail_if_success (with_reducible show wpAny _ _ (exec (Stmt.While _ _ _ _) _) _ _ _)); (fail_if_success (with_reducible show wpAny _ _ (execs (Stmt.If _ _ _ _ :: _) _) _ _ _)); (fail_if_success (with_reducible show wpAny _ _ (exec (Stmt.For _ _ _ _ _) _) _ _ _)); (fail_if_success (with_reducible show wpAny _ _ (eval (Expr.ListComp _ _ _ _) _) _ _ _)); (fail_if_success (with_reducible show wpAny _ _ (exec (Stmt.Assign _ (Expr.ListComp _ _ _ _) _) _) _ _ _)); (fail_if_success (with_reducible show wpAny _ _ (pyIter _) _ _ _)); (fail_if_success (with_reducible show wpAny _ _ (exec (Stmt.If (Expr.Compare _ _ [Expr.Constant (Const.str (Str.ofString "a")) _ _] _) _ _ _) _) _ _ _)); (fail_if_success (with_reducible show LCg.CompSrc _ _ _ _ _ _ _ _ _ _ _ _ _ _)); (first | walk1 | (dsimp only; walk1))) | (leave1; walk_say "STEP leave1"; (try dsimp only)) | fail "no step"))

local macro_rules | `(tactic| k_room) => `(tactic| ktr_room)
local macro_rules | `(tactic| walk_at "loadName") => `(tactic| k_dflt (refine' wpAny_loadName_local ?k ?l (Fr.ns ?F) ?v ?_; (case F => k_asm); (case k => rfl); (case l => rfl); (case v => rfl); k_whole))
local macro_rules | `(tactic| walk_at "call ref") => `(tactic| ((with_reducible show wpAny _ _ (call (Value.ref 402) _) _ _ _); k_dflt (refine' number_spec _ _ _ _ _ _ _ _ _ _ _ _ _ _ _ _ _ _ _ _ _ _ _ ?k1 ?k2 ?k3 ?k4 ?k5 ?kK ?a1 ?a2 ?a3 ?a4 ?a5 ?kd ?ku ?kR; (case k1 => k_asm); (case k2 => k_asm); (case k3 => k_asm); (case k4 => k_asm); (case k5 => k_asm); (case kK => first | exact rfl | assumption); (case a1 => assumption); (case a2 => assumption); (case a3 => assumption); (case a4 => omega); (case a5 => omega); (case kd => ktr_room); (case ku => ktr_units); intro t9 h9 tk9 F9 N9; (try dsimp only); (try k_fold))))
local macro_rules | `(tactic| walk_at "call type:str") => `(tactic| ((with_reducible show wpAny _ _ (call (Value.type "str") [Value.int _ _]) _ _ _); k_dflt (refine' str_I ?h1 ?h2 ?_; (case h1 => omega); (case h2 => omega)); intro _ _))

theorem lfor_spec : ∀ {w : World} {mean : ExcName → Option Value} {mg mb : Str → Option Value} (dp un : Nat) (gd : Option (List Code)) (a : Addr) (ccd : Value) (outer : List Env) (A₀ : Around) (base h₀ : Heap) (L : Addr) (m : Str → Option Value) (news : List (Addr × Obj)) (s : Shared) (l : Addr) (vs : List Value) (ns : List Int) (oj om ow : Obj) (vj vm vw : Option Value) (Q : Flow → Shared → Prop) (E : Value → Shared → Prop)
    (_ : Below A₀ base outer h₀) (_ : Fr h₀ L s.heap m) (_ : (hd.heap_39 w.params).In h₀) (_ : Top hd.view_39 (looseW hd.view_39 [Str.ofString "noValue", Str.ofString "Value", Str.ofString "Integer32", Str.ofString "OctetString", Str.ofString "SmiError", Str.ofString "TextualConvention", Str.ofString "HintedString", Str.ofString "HintedInteger", Str.ofString "TestAndIncr", Str.ofString "RowStatus"]) mean mg mb h₀) (_ : dp + 20 < recursionLimit) (_ : un + 200 < cLine) (_ : base.IsList l vs.toArray) (_ : IntsAre vs ns) (_ : ns.length < 2 ^ 62) (_ : News h₀ L s.heap ((L + 1 + 1 + 1, oj) :: (L + 1 + 1, om) :: (L + 1, ow) :: []))
    (_ : oj.data = .cell vj) (_ : om.data = .cell vm) (_ : ow.data = .cell vw)
    (_ : m (Str.ofString "script") = some (.ref l))
    (_ : PassesOwn (model Challenge.rw_am6029_01.row.prog w) (ktrTop dp un gd (Str.ofString "law") lScope L a ccd (cellsFrom (L + 1) lScope.names []) outer) (envX (Str.ofString "law") lScope L a ccd (cellsFrom (L + 1) lScope.names [])) E)
    (_ : ∀ (h' : Heap) (tk : Nat) (m' : Str → Option Value), Fr h₀ L h' m' → Q .next { s with heap := h', toks := tk }),
    wpAny (model Challenge.rw_am6029_01.row.prog w) (ktrTop dp un gd (Str.ofString "law") lScope L a ccd (cellsFrom (L + 1) lScope.names []) outer) (exec lawFor (envX (Str.ofString "law") lScope L a ccd (cellsFrom (L + 1) lScope.names []))) Q E s := by
  k_fill
  intro w mean mg mb dp un gd a ccd outer A₀ base h₀ L m news s l vs ns oj om ow vj vm vw Q E B F X T0 hd hu hl hi hfit N hj hm' hw hm hE hret
  conv => arg 3; arg 1; whnf
  refine For_invVF F rfl rfl ?_ (hE := hE)
  ktr_unf
  rename IsRange _ _ _ _ _ _ _ _ => R
  rename Fr _ _ _ _ => F2
  rename News _ _ _ _ => N2
  refine for_range (n := 3) (fun i m' nx => ∃ (oj' om' ow' : Obj) (vj' vm' vw' : Option Value), nx = (L + 1 + 1 + 1, oj') :: (L + 1 + 1, om') :: (L + 1, ow') :: [] ∧ oj'.data = .cell vj' ∧ om'.data = .cell vm' ∧ ow'.data = .cell vw' ∧ m' (Str.ofString "script") = some (.ref l)) rfl R (by decide) F2 N2 ⟨oj, om, ow, vj, vm, vw, rfl, hj, hm', hw, hm⟩ ?_ ?_
  · clear F2 N2 R
    rintro i t m₁ nx h tk own hi9 hown ⟨oj1, om1, ow1, vj1, vm1, vw1, rfl, d1, d2, d3, e1⟩ F1 N1
    have hoff : OwnOff own [L + 1 + 1 + 1, L + 1 + 1, L + 1] := hown
    refine rbody_spec _ _ _ _ _ _ _ _ _ _ _ own _ l vs ns i oj1 om1 ow1 vj1 vm1 vw1 t _ _ B F1 X T0 hd hu hl hi hfit N1 hoff (by omega) d1 d2 d3 ⟨(if_neg (show ¬ Str.ofString "script" = Str.ofString "r" by decide)).trans e1, if_pos rfl, trivial⟩ hE ?_
    intro h9 tk9 m9 oj2 om2 ow2 vj2 vm2 vw2 F9 f1 f2 f3 N9 e2
    exact ⟨h9, tk9, m9, _, (L + 1 + 1 + 1, oj2) :: (L + 1 + 1, om2) :: (L + 1, ow2) :: [], rfl, F9, N9, fun p hp => by
      simp only [List.mem_cons, List.not_mem_nil, or_false] at hp ⊢
      rcases hp with h | h | h <;> simp [h], fun p hp => .tail _ (.tail _ (.tail _ hp)), hown, oj2, om2, ow2, vj2, vm2, vw2, rfl, f1, f2, f3, e2⟩
  · rintro m₁ nx h tk _ F1 N1
    exact hret _ _ _ F1

end
section
theorem freshL20 : True := by w_top off; exact True.intro

local macro_rules | `(tactic| ktr_rel) => `(tactic| with_reducible first | rfl | assumption | exact lit_fig | exact lit_zero | exact lit_nil | exact lit_star | exact lit_dots | exact lit_coms | exact lit_xdoa | exact lit_dig | exact lit_a | exact lit_t | exact lit_x | exact lit_d | exact lit_o | exact lit_B | exact lit_integer | exact lit_string | exact lit_ascii | exact lit_ignore | exact lit_f02x | exact lit_f03o | exact lit_fd | exact lit_b | fail "no S")
local macro_rules | `(tactic| ktr_unf) => `(tactic| repeat' (first | (k_unfold; (try dsimp only)) | (k_end; kc_close) | ((fail_if_success (with_reducible show wpAny _ _ (exec (Stmt.While _ _ _ _) _) _ _ _)); (fail_if_success (with_reducible show wpAny _ _ (exec (Stmt.For _ _ _ _ _) _) _ _ _)); (fail_if_success (with_reducible show wpAny _ _ (eval (Expr.ListComp _ _ _ _) _) _ _ _)); (fail_if_success (with_reducible show wpAny _ _ (exec (Stmt.Assign _ (Expr.ListComp _ _ _ _) _) _) _ _ _)); (fail_if_success (with_reducible show wpAny _ _ (pyIter _) _ _ _)); (fail_if_success (with_reducible show LCg.CompSrc _ _ _ _ _ _ _ _ _ _ _ _ _ _)); (first | walk1 | (dsimp only; walk1))) | (leave1; walk_say "STEP leave1"; (try dsimp only)) | fail "no step"))
local macro_rules | `(tactic| walk_at "subscriptTail Constant str BinOp") => `(tactic| ((with_reducible show wpAny _ _ (subscriptTail _ _ (Value.str _ _) (Value.int _ _)) _ _ _); (refine' itemD_S ?hx ?h0 ?h1 ?hl ?_); (case hx => ktr_rel); (case h0 => first | decide | omega | exact fmod_lo _ (by decide)); (case h1 => first | decide | omega | exact fmod_hi _ (by decide)); (case hl => first | decide | omega | (simp only [List.length_append, List.length_cons, List.length_nil, List.length_replicate, List.length_map]; omega)); intro _ _))
local macro_rules | `(tactic| walk_at "subscriptTail") => `(tactic| ((with_reducible show wpAny _ _ (subscriptTail _ _ (Value.str _ _) (Value.int _ _)) _ _ _); (refine' itemD_S ?hx ?h0 ?h1 ?hl ?_); (case hx => ktr_rel); (case h0 => first | decide | omega | exact fmod_lo _ (by decide)); (case h1 => first | decide | omega | exact fmod_hi _ (by decide)); (case hl => first | decide | omega | (simp only [List.length_append, List.length_cons, List.length_nil, List.length_replicate, List.length_map]; omega)); intro _ _))
local macro_rules | `(tactic| walk_at "subscriptTail Name Constant str int") => `(tactic| ((with_reducible show wpAny _ _ (subscriptTail _ _ (Value.str _ _) (Value.int 0 _)) _ _ _); (refine' item0_S ?hx ?hl ?_); (case hx => ktr_rel); (case hl => first | decide | omega | (simp only [List.length_append, List.length_cons, List.length_nil, List.length_replicate, List.length_map]; omega)); intro _ _))
local macro_rules | `(tactic| walk_at "subscriptTail") => `(tactic| ((with_reducible show wpAny _ _ (subscriptTail _ _ (Value.str _ _) (Value.int 0 _)) _ _ _); (refine' item0_S ?hx ?hl ?_); (case hx => ktr_rel); (case hl => first | decide | omega | (simp only [List.length_append, List.length_cons, List.length_nil, List.length_replicate, List.length_map]; omega)); intro _ _))
local macro_rules | `(tactic| walk_at "subscriptTail Name Slice str ref") => `(tactic| ((with_reducible show wpAny _ _ (subscriptTail _ (Expr.Slice (some _) none none _) (Value.str _ _) (Value.ref _)) _ _ _); (with_reducible rename Fr _ _ _ _ => F'); (with_reducible rename News _ _ _ _ => N'); (refine' tail_S (s := ⟨_, _, _, _, _⟩) ?hx ?hl F' N' ?_); (case hx => ktr_rel); (case hl => first | decide | omega | (simp only [List.length_append, List.length_cons, List.length_nil, List.length_replicate, List.length_map]; omega)); intro _ _ _ _ _))
local macro_rules | `(tactic| walk_at "subscriptTail") => `(tactic| ((with_reducible show wpAny _ _ (subscriptTail _ (Expr.Slice (some _) none none _) (Value.str _ _) (Value.ref _)) _ _ _); (with_reducible rename Fr _ _ _ _ => F'); (with_reducible rename News _ _ _ _ => N'); (refine' tail_S (s := ⟨_, _, _, _, _⟩) ?hx ?hl F' N' ?_); (case hx => ktr_rel); (case hl => first | decide | omega | (simp only [List.length_append, List.length_cons, List.length_nil, List.length_replicate, List.length_map]; omega)); intro _ _ _ _ _))
local macro_rules | `(tactic| walk_at "call builtin:len cons nil") => `(tactic| ((with_reducible show wpAny _ _ (call (Value.builtin "len") [Value.str _ _]) _ _ _); (refine' len_S ?hx ?hl ?_); (case hx => ktr_rel); (case hl => first | decide | omega | (simp only [List.length_append, List.length_cons, List.length_nil, List.length_replicate, List.length_map]; omega)); intro _ _))
local macro_rules | `(tactic| walk_at "call builtin:len") => `(tactic| ((with_reducible show wpAny _ _ (call (Value.builtin "len") [Value.str _ _]) _ _ _); (refine' len_S ?hx ?hl ?_); (case hx => ktr_rel); (case hl => first | decide | omega | (simp only [List.length_append, List.length_cons, List.length_nil, List.length_replicate, List.length_map]; omega)); intro _ _))
local macro_rules | `(tactic| walk_at "binaryOp Add str str") => `(tactic| ((refine' add_S ?hx ?hy ?hl ?_); (case hx => ktr_rel); (case hy => ktr_rel); (case hl => first | decide | omega | (simp only [List.length_append, List.length_cons, List.length_nil, List.length_replicate, List.length_map]; omega)); intro _ _))
local macro_rules | `(tactic| walk_at "inplaceOp Add str str") => `(tactic| ((refine' iadd_S ?hx ?hy ?hl ?_); (case hx => ktr_rel); (case hy => ktr_rel); (case hl => first | decide | omega | (simp only [List.length_append, List.length_cons, List.length_nil, List.length_replicate, List.length_map]; omega)); intro _ _))
local macro_rules | `(tactic| walk_at "binaryOp Mult str int") => `(tactic| ((refine' mul_S ?hx ?hl ?h0 ?_); (case hx => ktr_rel); (case hl => omega); (case h0 => omega); intro _ _))
local macro_rules | `(tactic| walk_at "compareOp Eq str str") => `(tactic| ((refine' eq_S ?hx ?hy ?_); (case hx => ktr_rel); (case hy => ktr_rel)))
local macro_rules | `(tactic| walk_at "compareOp NotEq str str") => `(tactic| ((refine' ne_S ?hx ?hy ?_); (case hx => ktr_rel); (case hy => ktr_rel)))
local macro_rules | `(tactic| walk_at "compareOp In str str") => `(tactic| ((refine' in_S ?hx ?hy ?_); (case hx => ktr_rel); (case hy => ktr_rel)))
local macro_rules | `(tactic| walk_at "compareOp NotIn str str") => `(tactic| ((refine' notin_S ?hx ?hy ?_); (case hx => ktr_rel); (case hy => ktr_rel)))
local macro_rules | `(tactic| walk_at "truthy str") => `(tactic| ((refine' truthy_S ?hx ?hl ?_); (case hx => ktr_rel); (case hl => first | decide | omega | (simp only [List.length_append, List.length_cons, List.length_nil, List.length_replicate, List.length_map]; omega)); intro _))
local macro_rules | `(tactic| walk_at "call type:int cons nil") => `(tactic| ((with_reducible show wpAny _ _ (call (Value.type "int") [Value.str _ _]) _ _ _); (refine' int_S ?hx ?hc ?_); (case hx => ktr_rel); (case hc => omega); intro _ _))
local macro_rules | `(tactic| walk_at "call type:int") => `(tactic| ((with_reducible show wpAny _ _ (call (Value.type "int") [Value.str _ _]) _ _ _); (refine' int_S ?hx ?hc ?_); (case hx => ktr_rel); (case hc => omega); intro _ _))
local macro_rules | `(tactic| walk_at "compareOp Is bytes ref") => `(tactic| (refine wpAny_is_other (by rfl) (by intro x; cases x) ?_))
local macro_rules | `(tactic| walk_at "truthy str") => `(tactic| first | ((refine truthy_Sn (by with_reducible first | rfl | exact lit_nil) ?_); intro _) | ((refine truthy_Sc (by with_reducible first | rfl | exact lit_star) (by first | decide | omega | (simp only [List.length_append, List.length_cons, List.length_nil, List.length_replicate, List.length_map] at *; omega)) ?_); intro _))

local macro_rules | `(tactic| walk_at "truthy bytes") => `(tactic| (refine truthy_B (by first | omega | (simp only [List.length_append, List.length_cons, List.length_nil, List.length_take, List.length_drop]; omega)) ?_; intro _))
local macro_rules | `(tactic| walk_at "call builtin:len") => `(tactic| ((with_reducible show wpAny _ _ (call (Value.builtin "len") [Value.bytes (List.toArray _) _]) _ _ _); refine len_B (by first | omega | (simp only [List.length_append, List.length_cons, List.length_nil, List.length_take, List.length_drop]; omega)) ?_; intro _ _))
local macro_rules | `(tactic| walk_at "subscriptTail Name str Constant bytes int") => `(tactic| ((with_reducible show wpAny _ _ (subscriptTail _ _ (Value.bytes (List.toArray (_ :: _)) _) (Value.int 0 _)) _ _ _); refine item0_B (by first | omega | (simp only [List.length_append, List.length_cons, List.length_nil] at *; omega)) ?_; intro _ _))
local macro_rules | `(tactic| walk_at "subscriptTail Name Constant bytes int") => `(tactic| ((with_reducible show wpAny _ _ (subscriptTail _ _ (Value.bytes (List.toArray (_ :: _)) _) (Value.int 0 _)) _ _ _); refine item0_B (by first | omega | (simp only [List.length_append, List.length_cons, List.length_nil] at *; omega)) ?_; intro _ _))
local macro_rules | `(tactic| walk_at "subscriptTail") => `(tactic| ((with_reducible show wpAny _ _ (subscriptTail _ _ (Value.bytes (List.toArray (_ :: _)) _) (Value.int 0 _)) _ _ _); refine item0_B (by first | omega | (simp only [List.length_append, List.length_cons, List.length_nil] at *; omega)) ?_; intro _ _))
local macro_rules | `(tactic| walk_at "subscriptTail Name str Slice") => `(tactic| ((with_reducible show wpAny _ _ (subscriptTail _ (Expr.Slice none (some _) none _) (Value.bytes (List.toArray _) _) (Value.ref _)) _ _ _); (with_reducible rename Fr _ _ _ _ => F'); (with_reducible rename News _ _ _ _ => N'); (refine head_B (s := ⟨_, _, _, _, _⟩) F' N' (by first | decide | omega) (by first | omega | (simp only [List.length_append, List.length_cons, List.length_nil, List.length_take, List.length_drop] at *; omega)) ?_); intro _ _ _ _ _))
local macro_rules | `(tactic| walk_at "subscriptTail") => `(tactic| ((with_reducible show wpAny _ _ (subscriptTail _ (Expr.Slice none (some _) none _) (Value.bytes (List.toArray _) _) (Value.ref _)) _ _ _); (with_reducible rename Fr _ _ _ _ => F'); (with_reducible rename News _ _ _ _ => N'); (refine head_B (s := ⟨_, _, _, _, _⟩) F' N' (by first | decide | omega) (by first | omega | (simp only [List.length_append, List.length_cons, List.length_nil, List.length_take, List.length_drop] at *; omega)) ?_); intro _ _ _ _ _))
local macro_rules | `(tactic| walk_at "subscriptTail Name str Slice") => `(tactic| ((with_reducible show wpAny _ _ (subscriptTail _ (Expr.Slice (some _) none none _) (Value.bytes (List.toArray _) _) (Value.ref _)) _ _ _); (with_reducible rename Fr _ _ _ _ => F'); (with_reducible rename News _ _ _ _ => N'); (refine drop_B (s := ⟨_, _, _, _, _⟩) F' N' (by first | decide | omega) (by first | omega | (simp only [List.length_append, List.length_cons, List.length_nil, List.length_take, List.length_drop] at *; omega)) ?_); intro _ _ _ _ _))
local macro_rules | `(tactic| walk_at "subscriptTail") => `(tactic| ((with_reducible show wpAny _ _ (subscriptTail _ (Expr.Slice (some _) none none _) (Value.bytes (List.toArray _) _) (Value.ref _)) _ _ _); (with_reducible rename Fr _ _ _ _ => F'); (with_reducible rename News _ _ _ _ => N'); (refine drop_B (s := ⟨_, _, _, _, _⟩) F' N' (by first | decide | omega) (by first | omega | (simp only [List.length_append, List.length_cons, List.length_nil, List.length_take, List.length_drop] at *; omega)) ?_); intro _ _ _ _ _))
local macro_rules | `(tactic| walk_at "binaryOp Mod str int") => `(tactic| (first | ((with_reducible refine mod_x ?h0 ?h1 ?_); (case h0 => omega); (case h1 => omega); intro _ _) | ((with_reducible refine mod_o ?h0 ?h1 ?_); (case h0 => omega); (case h1 => omega); intro _ _)))
local macro_rules | `(tactic| walk_at "call builtin:bytes.decode") => `(tactic| ((with_reducible refine decode_B ?h0 ?h1 ?_); (case h0 => first | assumption | omega); (case h1 => assumption); intro _ _))
local macro_rules | `(tactic| walk_at "inplaceOp LShift int int") => `(tactic| ((refine shl8 (by omega) ?_); intro _ _))
local macro_rules | `(tactic| walk_at "inplaceOp BitOr int int") => `(tactic| ((refine or8 (by first | assumption | omega) ?_); intro _ _))
local macro_rules | `(tactic| walk_at "truthy bytes") => `(tactic| first | ((with_reducible refine truthy_Bn ?_); intro _) | ((with_reducible refine truthy_Bc ?hl ?_); (case hl => first | decide | omega | (simp only [List.length_append, List.length_cons, List.length_nil, List.length_replicate, List.length_map] at *; omega)); intro _))

local macro_rules | `(tactic| ktr_unf) => `(tactic| repeat' (first | (k_unfold; (try dsimp only)) | (k_end; kc_close) | ((fail_if_success (with_reducible show wpAny _ _ (exec (Stmt.While _ _ _ _) _) _ _ _)); (fail_if_success (with_reducible show wpAny _ _ (execs (Stmt.If _ _ _ _ :: _) _) _ _ _)); (fail_if_success (with_reducible show wpAny _ _ (exec (Stmt.For _ _ _ _ _) _) _ _ _)); (fail_if_success (with_reducible show wpAny _ _ (eval (Expr.ListComp _ _ _ _) _) _ _ _)); (fail_if_success (with_reducible show wpAny _ _ (exec (Stmt.Assign _ (Expr.ListComp _ _ _ _) _) _) _ _ _)); (fail_if_success (with_reducible show wpAny _ _ (pyIter _) _ _ _)); (fail_if_success (with_reducible show wpAny _ _ (exec (Stmt.If (Expr.Compare _ _ [Expr.Constant (Const.str (Str.ofString "a")) _ _] _) _ _ _) _) _ _ _)); (fail_if_success (with_reducible show LCg.CompSrc _ _ _ _ _ _ _ _ _ _ _ _ _ _)); (first | walk1 | (dsimp only; walk1))) | (leave1; walk_say "STEP leave1"; (try dsimp only)) | fail "no step"))

local macro_rules | `(tactic| k_room) => `(tactic| ktr_room)
local macro_rules | `(tactic| walk_at "loadName") => `(tactic| k_dflt (refine' wpAny_loadName_local ?k ?l (Fr.ns ?F) ?v ?_; (case F => k_asm); (case k => rfl); (case l => rfl); (case v => rfl); k_whole))
local macro_rules | `(tactic| walk_at "call ref") => `(tactic| ((with_reducible show wpAny _ _ (call (Value.ref 402) _) _ _ _); k_dflt (refine' number_spec _ _ _ _ _ _ _ _ _ _ _ _ _ _ _ _ _ _ _ _ _ _ _ ?k1 ?k2 ?k3 ?k4 ?k5 ?kK ?a1 ?a2 ?a3 ?a4 ?a5 ?kd ?ku ?kR; (case k1 => k_asm); (case k2 => k_asm); (case k3 => k_asm); (case k4 => k_asm); (case k5 => k_asm); (case kK => first | exact rfl | assumption); (case a1 => assumption); (case a2 => assumption); (case a3 => assumption); (case a4 => omega); (case a5 => omega); (case kd => ktr_room); (case ku => ktr_units); intro t9 h9 tk9 F9 N9; (try dsimp only); (try k_fold))))
local macro_rules | `(tactic| walk_at "call type:str") => `(tactic| ((with_reducible show wpAny _ _ (call (Value.type "str") [Value.int _ _]) _ _ _); k_dflt (refine' str_I ?h1 ?h2 ?_; (case h1 => omega); (case h2 => omega)); intro _ _))

theorem top_law : PySem.Challenge.rw_am6029_01.Holds := hd (by
  k_go0
  (all_goals try k_fold)
  rename CellsAre _ _ _ => CA
  cases CA with
  | cons d1 CA =>
    cases CA with
    | cons d2 CA =>
      cases CA with
      | cons d3 CA =>
        cases CA
        refine wpAny_execs_cons ?_
        k_dflt (refine' lfor_spec _ _ _ _ _ _ _ _ _ _ _ [] _ _ _ _ _ _ _ _ _ _ _ _ ?k1 ?k2 ?k3 ?k4 ?kd ?ku ?a1 ?a2 ?a3 ?k5 d1 d2 d3 ?a4 ?kE ?kR)
        case k1 => k_asm
        case k2 => k_asm
        case k3 => k_asm
        case k4 => k_asm
        case kd => first | decide | ktr_room
        case ku => first | decide | ktr_units
        case k5 => assumption
        case a1 => assumption
        case a2 => assumption
        case a3 => omega
        case a4 => rfl
        case kE => passes_own
        intro h9 tk9 m9 F9
        k_steps)

end
end Mine
theorem PySem.Challenge.cw_am6029_01_holds : PySem.Challenge.rw_am6029_01.Holds :=
  Mine.top_law
