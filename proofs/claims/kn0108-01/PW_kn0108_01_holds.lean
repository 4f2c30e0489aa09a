import PyProof.Rows.All
import Wide.All
import OpenK.AllK
import Wide.FinOn
import PyProof.NeKinds
import PyProof.Rows.ListMulArg
import PyProof.Rows.SeqMore
import PySem.Challenge.RW_kn0108_01
open PySem PySem.W PyProof.Rows
set_option Elab.async false
set_option maxRecDepth 100000
namespace Mine
set_option maxHeartbeats 8000000 in
open_top hd for PySem.Challenge.rw_kn0108_01
end Mine

-- part 1
section
open PySem PySem.W PySem.Calls PyProof.Rows PyProof.V PySem.Spec
set_option Elab.async false
set_option maxRecDepth 100000
namespace Mine
/-- one source: its five things, and the tokens of its five keys -/
structure Src where
  sys : Value
  pub : Value
  enc : Value
  byt : Value
  chr : Value
  t1 : Tok
  t2 : Tok
  t3 : Tok
  t4 : Tok
  t5 : Tok
abbrev ents (w : World) (c : Src) : List DictEntry :=
  [{ hash := PyData.keyHash w.params (Str.ofString "_InputSource__system_id"), key := .str (Str.ofString "_InputSource__system_id") c.t1, val := c.sys },
   { hash := PyData.keyHash w.params (Str.ofString "_InputSource__public_id"), key := .str (Str.ofString "_InputSource__public_id") c.t2, val := c.pub },
   { hash := PyData.keyHash w.params (Str.ofString "_InputSource__encoding"), key := .str (Str.ofString "_InputSource__encoding") c.t3, val := c.enc },
   { hash := PyData.keyHash w.params (Str.ofString "_InputSource__bytefile"), key := .str (Str.ofString "_InputSource__bytefile") c.t4, val := c.byt },
   { hash := PyData.keyHash w.params (Str.ofString "_InputSource__charfile"), key := .str (Str.ofString "_InputSource__charfile") c.t5, val := c.chr }]
abbrev dic (w : World) (c : Src) : Obj := dictOf (ents w c) 5

section
local macro_rules | `(tactic| k_handed) => `(tactic| assumption)
local macro_rules | `(tactic| k_upd) => `(tactic| assumption)
set_option maxHeartbeats 4000000
variable {w : World} {dp un : Nat} {gd : Option (List Code)} {cn : Str} {cs : Scope} {a : Addr} {ccd : Value} {cl : List (Str × Addr)} {outer : List Env} {A₀ : Around} {base h₀ : Heap} {L : Addr} {m : Str → Option Value} {news news' : List (Addr × Obj)} {s : Shared} {mean : ExcName → Option Value} {mg mb : Str → Option Value} {Q E : Value → Shared → Prop} {x dx : Addr} {c : Src} {v : Value}

theorem getSys (B : Below A₀ base outer h₀) (F : Fr h₀ L s.heap m) (X : (hd.heap_39 w.params).In h₀) (N : News h₀ L s.heap news) (T : Top hd.view_39 (looseW hd.view_39 []) mean mg mb h₀) (hk : cs.kind = .function)
    (hr : dp + 3 < recursionLimit) (h1 : (x, instObj 102 dx) ∈ news) (h2 : (dx, dic w c) ∈ news) (hh : handedIn c.sys = true)
    (ret : ∀ h' tk', Fr h₀ L h' m → News h₀ L h' news → Q c.sys { s with heap := h', toks := tk' }) :
    wpAny (model PySem.Challenge.rw_kn0108_01.row.prog w) (ktrTop dp un gd cn cs L a ccd cl outer) (call (.ref 57) [.ref x]) Q E s := by
  revert X; k_fill; intro X
  w_on
  refine wpAny_call ?_
  k_dflt ktr_enter
  k_steps
  all_goals exact ret _ _ (by assumption) (by assumption)

theorem getPub (B : Below A₀ base outer h₀) (F : Fr h₀ L s.heap m) (X : (hd.heap_39 w.params).In h₀) (N : News h₀ L s.heap news) (T : Top hd.view_39 (looseW hd.view_39 []) mean mg mb h₀) (hk : cs.kind = .function)
    (hr : dp + 3 < recursionLimit) (h1 : (x, instObj 102 dx) ∈ news) (h2 : (dx, dic w c) ∈ news) (hh : handedIn c.pub = true)
    (ret : ∀ h' tk', Fr h₀ L h' m → News h₀ L h' news → Q c.pub { s with heap := h', toks := tk' }) :
    wpAny (model PySem.Challenge.rw_kn0108_01.row.prog w) (ktrTop dp un gd cn cs L a ccd cl outer) (call (.ref 43) [.ref x]) Q E s := by
  revert X; k_fill; intro X
  w_on
  refine wpAny_call ?_
  k_dflt ktr_enter
  k_steps
  all_goals exact ret _ _ (by assumption) (by assumption)

theorem getEnc (B : Below A₀ base outer h₀) (F : Fr h₀ L s.heap m) (X : (hd.heap_39 w.params).In h₀) (N : News h₀ L s.heap news) (T : Top hd.view_39 (looseW hd.view_39 []) mean mg mb h₀) (hk : cs.kind = .function)
    (hr : dp + 3 < recursionLimit) (h1 : (x, instObj 102 dx) ∈ news) (h2 : (dx, dic w c) ∈ news) (hh : handedIn c.enc = true)
    (ret : ∀ h' tk', Fr h₀ L h' m → News h₀ L h' news → Q c.enc { s with heap := h', toks := tk' }) :
    wpAny (model PySem.Challenge.rw_kn0108_01.row.prog w) (ktrTop dp un gd cn cs L a ccd cl outer) (call (.ref 71) [.ref x]) Q E s := by
  revert X; k_fill; intro X
  w_on
  refine wpAny_call ?_
  k_dflt ktr_enter
  k_steps
  all_goals exact ret _ _ (by assumption) (by assumption)

theorem getByt (B : Below A₀ base outer h₀) (F : Fr h₀ L s.heap m) (X : (hd.heap_39 w.params).In h₀) (N : News h₀ L s.heap news) (T : Top hd.view_39 (looseW hd.view_39 []) mean mg mb h₀) (hk : cs.kind = .function)
    (hr : dp + 3 < recursionLimit) (h1 : (x, instObj 102 dx) ∈ news) (h2 : (dx, dic w c) ∈ news) (hh : handedIn c.byt = true)
    (ret : ∀ h' tk', Fr h₀ L h' m → News h₀ L h' news → Q c.byt { s with heap := h', toks := tk' }) :
    wpAny (model PySem.Challenge.rw_kn0108_01.row.prog w) (ktrTop dp un gd cn cs L a ccd cl outer) (call (.ref 85) [.ref x]) Q E s := by
  revert X; k_fill; intro X
  w_on
  refine wpAny_call ?_
  k_dflt ktr_enter
  k_steps
  all_goals exact ret _ _ (by assumption) (by assumption)

theorem getChr (B : Below A₀ base outer h₀) (F : Fr h₀ L s.heap m) (X : (hd.heap_39 w.params).In h₀) (N : News h₀ L s.heap news) (T : Top hd.view_39 (looseW hd.view_39 []) mean mg mb h₀) (hk : cs.kind = .function)
    (hr : dp + 3 < recursionLimit) (h1 : (x, instObj 102 dx) ∈ news) (h2 : (dx, dic w c) ∈ news) (hh : handedIn c.chr = true)
    (ret : ∀ h' tk', Fr h₀ L h' m → News h₀ L h' news → Q c.chr { s with heap := h', toks := tk' }) :
    wpAny (model PySem.Challenge.rw_kn0108_01.row.prog w) (ktrTop dp un gd cn cs L a ccd cl outer) (call (.ref 99) [.ref x]) Q E s := by
  revert X; k_fill; intro X
  w_on
  refine wpAny_call ?_
  k_dflt ktr_enter
  k_steps
  all_goals exact ret _ _ (by assumption) (by assumption)

theorem setSys (B : Below A₀ base outer h₀) (F : Fr h₀ L s.heap m) (X : (hd.heap_39 w.params).In h₀) (N : News h₀ L s.heap news) (T : Top hd.view_39 (looseW hd.view_39 []) mean mg mb h₀) (hk : cs.kind = .function)
    (hr : dp + 3 < recursionLimit) (h1 : (x, instObj 102 dx) ∈ news) (h2 : (dx, dic w c) ∈ news) (U : Upd dx (dic w c) (dic w { c with sys := v }) news news')
    (ret : ∀ h' tk', Fr h₀ L h' m → News h₀ L h' news' → Q .none { s with heap := h', toks := tk' }) :
    wpAny (model PySem.Challenge.rw_kn0108_01.row.prog w) (ktrTop dp un gd cn cs L a ccd cl outer) (call (.ref 50) [.ref x, v]) Q E s := by
  revert X; k_fill; intro X
  w_on
  refine wpAny_call ?_
  k_dflt ktr_enter
  k_steps
  all_goals exact ret _ _ (by assumption) (by assumption)

theorem setPub (B : Below A₀ base outer h₀) (F : Fr h₀ L s.heap m) (X : (hd.heap_39 w.params).In h₀) (N : News h₀ L s.heap news) (T : Top hd.view_39 (looseW hd.view_39 []) mean mg mb h₀) (hk : cs.kind = .function)
    (hr : dp + 3 < recursionLimit) (h1 : (x, instObj 102 dx) ∈ news) (h2 : (dx, dic w c) ∈ news) (U : Upd dx (dic w c) (dic w { c with pub := v }) news news')
    (ret : ∀ h' tk', Fr h₀ L h' m → News h₀ L h' news' → Q .none { s with heap := h', toks := tk' }) :
    wpAny (model PySem.Challenge.rw_kn0108_01.row.prog w) (ktrTop dp un gd cn cs L a ccd cl outer) (call (.ref 36) [.ref x, v]) Q E s := by
  revert X; k_fill; intro X
  w_on
  refine wpAny_call ?_
  k_dflt ktr_enter
  k_steps
  all_goals exact ret _ _ (by assumption) (by assumption)

theorem setEnc (B : Below A₀ base outer h₀) (F : Fr h₀ L s.heap m) (X : (hd.heap_39 w.params).In h₀) (N : News h₀ L s.heap news) (T : Top hd.view_39 (looseW hd.view_39 []) mean mg mb h₀) (hk : cs.kind = .function)
    (hr : dp + 3 < recursionLimit) (h1 : (x, instObj 102 dx) ∈ news) (h2 : (dx, dic w c) ∈ news) (U : Upd dx (dic w c) (dic w { c with enc := v }) news news')
    (ret : ∀ h' tk', Fr h₀ L h' m → News h₀ L h' news' → Q .none { s with heap := h', toks := tk' }) :
    wpAny (model PySem.Challenge.rw_kn0108_01.row.prog w) (ktrTop dp un gd cn cs L a ccd cl outer) (call (.ref 64) [.ref x, v]) Q E s := by
  revert X; k_fill; intro X
  w_on
  refine wpAny_call ?_
  k_dflt ktr_enter
  k_steps
  all_goals exact ret _ _ (by assumption) (by assumption)

theorem setByt (B : Below A₀ base outer h₀) (F : Fr h₀ L s.heap m) (X : (hd.heap_39 w.params).In h₀) (N : News h₀ L s.heap news) (T : Top hd.view_39 (looseW hd.view_39 []) mean mg mb h₀) (hk : cs.kind = .function)
    (hr : dp + 3 < recursionLimit) (h1 : (x, instObj 102 dx) ∈ news) (h2 : (dx, dic w c) ∈ news) (U : Upd dx (dic w c) (dic w { c with byt := v }) news news')
    (ret : ∀ h' tk', Fr h₀ L h' m → News h₀ L h' news' → Q .none { s with heap := h', toks := tk' }) :
    wpAny (model PySem.Challenge.rw_kn0108_01.row.prog w) (ktrTop dp un gd cn cs L a ccd cl outer) (call (.ref 78) [.ref x, v]) Q E s := by
  revert X; k_fill; intro X
  w_on
  refine wpAny_call ?_
  k_dflt ktr_enter
  k_steps
  all_goals exact ret _ _ (by assumption) (by assumption)

theorem setChr (B : Below A₀ base outer h₀) (F : Fr h₀ L s.heap m) (X : (hd.heap_39 w.params).In h₀) (N : News h₀ L s.heap news) (T : Top hd.view_39 (looseW hd.view_39 []) mean mg mb h₀) (hk : cs.kind = .function)
    (hr : dp + 3 < recursionLimit) (h1 : (x, instObj 102 dx) ∈ news) (h2 : (dx, dic w c) ∈ news) (U : Upd dx (dic w c) (dic w { c with chr := v }) news news')
    (ret : ∀ h' tk', Fr h₀ L h' m → News h₀ L h' news' → Q .none { s with heap := h', toks := tk' }) :
    wpAny (model PySem.Challenge.rw_kn0108_01.row.prog w) (ktrTop dp un gd cn cs L a ccd cl outer) (call (.ref 92) [.ref x, v]) Q E s := by
  revert X; k_fill; intro X
  w_on
  refine wpAny_call ?_
  k_dflt ktr_enter
  k_steps
  all_goals exact ret _ _ (by assumption) (by assumption)
end
end Mine
end

-- part 2
section
open PySem PySem.W PySem.Calls PyProof.Rows PyProof.V PySem.Spec
set_option Elab.async false
set_option maxRecDepth 100000
namespace Mine
/-! the ledger: bring some entries to the front, keep the rest -/
def restOf (foc news : List (Addr × Obj)) : List (Addr × Obj) := news.filter fun p => !(foc.map (·.1)).contains p.1
theorem focus {h₀ h : Heap} {L : Addr} {news : List (Addr × Obj)} (foc : List (Addr × Obj)) (N : News h₀ L h news) (hf : ∀ p ∈ foc, p ∈ news) :
    News h₀ L h (foc ++ restOf foc news) ∧ OwnOff (restOf foc news) (foc.map (·.1)) := by
  refine ⟨fun p hp => ?_, fun p hp b hb e => ?_⟩
  · rcases List.mem_append.mp hp with hp | hp
    · exact N p (hf p hp)
    · exact N p (List.mem_filter.mp hp).1
  · have := (List.mem_filter.mp hp).2
    subst e
    simp only [Bool.not_eq_true', List.contains_eq_mem, decide_eq_false_iff_not] at this
    exact this hb
theorem mem_rest {foc news : List (Addr × Obj)} {p : Addr × Obj} (hp : p ∈ news) (h : p.1 ∉ foc.map (·.1)) : p ∈ restOf foc news :=
  List.mem_filter.mpr ⟨hp, by simpa using h⟩
theorem news_fun {h₀ h : Heap} {L a : Addr} {o o' : Obj} {news : List (Addr × Obj)} (N : News h₀ L h news) (h1 : (a, o) ∈ news) (h2 : (a, o') ∈ news) : o = o' := by
  have e1 := (N _ h1).1
  have e2 := (N _ h2).1
  exact Option.some.inj (e1.symm.trans e2)
theorem addr_ne {h₀ h : Heap} {L a b : Addr} {o o' : Obj} {news : List (Addr × Obj)} (N : News h₀ L h news) (h1 : (a, o) ∈ news) (h2 : (b, o') ∈ news) (hne : o ≠ o') : a ≠ b :=
  fun e => hne (news_fun N h1 (e ▸ h2))

theorem sub_focus {h₀ h : Heap} {L : Addr} {foc news : List (Addr × Obj)} (N : News h₀ L h news) (hf : ∀ p ∈ foc, p ∈ news) : ∀ p ∈ news, p ∈ foc ++ restOf foc news := by
  intro p hp
  by_cases h : p.1 ∈ foc.map (·.1)
  · obtain ⟨e, he, hq⟩ := List.mem_map.mp h
    have := news_fun N (a := p.1) (o := p.2) (o' := e.2) hp (by rw [← hq]; exact hf e he)
    have : e = p := Prod.ext hq this.symm
    exact List.mem_append_left _ (this ▸ he)
  · exact List.mem_append_right _ (mem_rest hp h)

theorem swap25 {p e1 e2 e3 e4 e5 e2' e5' : Addr × Obj} {rest : List (Addr × Obj)} (h : p ∈ e1 :: e2 :: e3 :: e4 :: e5 :: rest) (h2 : p.1 ≠ e2.1) (h5 : p.1 ≠ e5.1) : p ∈ e1 :: e2' :: e3 :: e4 :: e5' :: rest := by
  simp only [List.mem_cons] at h ⊢
  rcases h with rfl | rfl | rfl | rfl | rfl | h
  · exact .inl rfl
  · exact absurd rfl h2
  · exact .inr (.inr (.inl rfl))
  · exact .inr (.inr (.inr (.inl rfl)))
  · exact absurd rfl h5
  · exact .inr (.inr (.inr (.inr (.inr h))))

theorem of_allLt {d : Addr} : ∀ {l : List (Addr × Obj)}, AllLt d l → ∀ p ∈ l, p.1 < d
  | [], _, _, h => nomatch h
  | _ :: _, h, p, hp => by
    rcases List.mem_cons.mp hp with rfl | hp
    · exact h.1
    · exact of_allLt h.2 p hp

/-! the eight sources -/
abbrev srcAt (σ : Nat → Addr) (D : Nat → Src) (par : Nat → Nat) (i : Nat) : Src := { D i with sys := .ref (σ (par i)) }
def Has (w : World) (σ δ : Nat → Addr) (D : Nat → Src) (par : Nat → Nat) (news : List (Addr × Obj)) : Prop :=
  ∀ i, i < 8 → (σ i, instObj 102 (δ i)) ∈ news ∧ (δ i, dic w (srcAt σ D par i)) ∈ news
structure Sep (σ δ : Nat → Addr) : Prop where
  s : ∀ i j, i < 8 → j < 8 → σ i = σ j → i = j
  d : ∀ i j, i < 8 → j < 8 → δ i = δ j → i = j
/-- the forest: each way leads down in rank to the head of the group -/
structure FI (par hd rank : Nat → Nat) : Prop where
  par_lt : ∀ k, k < 8 → par k < 8
  hd_lt : ∀ k, k < 8 → hd k < 8
  hd_par : ∀ k, k < 8 → hd (par k) = hd k
  hd_hd : ∀ k, k < 8 → hd (hd k) = hd k
  top : ∀ k, k < 8 → (par k = k ↔ k = hd k)
  down : ∀ k, k < 8 → par k ≠ k → rank (par k) < rank k
  le : ∀ k, k < 8 → rank k ≤ 7
theorem FI.halve {par hd rank : Nat → Nat} (I : FI par hd rank) {i : Nat} (hi : i < 8) (h : par i ≠ i) :
    FI (fun k => if k = i then par (par i) else par k) hd rank ∧ rank (par (par i)) < rank i ∧ hd (par (par i)) = hd i := by
  have hp := I.par_lt i hi
  have hg := I.par_lt _ hp
  have d1 := I.down i hi h
  have d2 : rank (par (par i)) < rank i := by
    by_cases e : par (par i) = par i
    · rw [e]; exact d1
    · exact Nat.lt_trans (I.down _ hp e) d1
  have hh : hd (par (par i)) = hd i := (I.hd_par _ hp).trans (I.hd_par i hi)
  refine ⟨⟨fun k hk => ?_, I.hd_lt, fun k hk => ?_, I.hd_hd, fun k hk => ?_, fun k hk => ?_, I.le⟩, d2, hh⟩
  · split
    · exact hg
    · exact I.par_lt k hk
  · split
    · rename_i e; rw [e]; exact hh
    · exact I.hd_par k hk
  · split
    · rename_i e; subst e
      constructor
      · intro e; exact absurd (e ▸ d2) (Nat.lt_irrefl _)
      · intro e; exact absurd ((I.top k hi).mpr e) h
    · exact I.top k hk
  · split
    · rename_i e; subst e; intro _; exact d2
    · exact I.down k hk
def nones (q : Nat) : Array Value := (List.replicate q Value.none).toArray
theorem nones_push (q : Nat) : (nones q).push .none = nones (q + 1) := by
  simp [nones, List.replicate_succ', -List.toArray_replicate]
theorem append_none {prog : Program} {w : World} {A : Around} {E : Value → Shared → Prop} {s : Shared} {h₀ : Heap} {L an : Addr} {m : Str → Option Value} {news news' : List (Addr × Obj)} {q r : Nat} {Q : Value → Shared → Prop} (F : Fr h₀ L s.heap m) (N : News h₀ L s.heap news)
    (U : Upd an (W.listOf (nones q) r) (W.listOf (nones (q + 1)) (r + 1)) news news') (hq : q ≤ 200000) (h : ∀ h', Fr h₀ L h' m → News h₀ L h' news' → Q .none { s with heap := h' }) :
    wpAny (model prog w) A (call (.builtin "list.append") [.ref an, .none]) Q E s :=
  append_K F N (by rw [nones_push]; exact U) h (by simp only [nones, List.size_toArray, List.length_replicate]; rw [sizeLine_eq]; omega)
theorem nones_size (q : Nat) : (nones q).size = q := by simp [nones]

section
set_option maxHeartbeats 4000000
variable {w : World} {dp un : Nat} {gd : Option (List Code)} {cn : Str} {cs : Scope} {a : Addr} {ccd : Value} {cl : List (Str × Addr)} {outer : List Env} {A₀ : Around} {base h₀ : Heap} {L : Addr} {m : Str → Option Value} {news news' : List (Addr × Obj)} {s : Shared} {mean : ExcName → Option Value} {mg mb : Str → Option Value} {Q E : Value → Shared → Prop} {x dx : Addr} {c : Src} {v : Value}
local macro_rules | `(tactic| walk_at "call ref") => `(tactic| (k_here; (with_reducible show wpAny _ _ (call (Value.ref 57) _ _) _ _ _); k_dflt (refine' getSys ?k1 ?k2 ?k3 ?k4 ?k5 ?k6 ?k7 ?k8 ?k9 ?k10 ?_; (case k1 => k_asm); (case k2 => k_asm); (case k3 => k_asm); (case k4 => k_asm); (case k5 => k_asm); (case k6 => first | exact rfl | assumption); (case k7 => ktr_room); (case k8 => k_mem); (case k9 => k_mem); (case k10 => first | k_handed | assumption); k_whole); intro h' tk' F' N'; (try dsimp only); (try k_sweep); walk_say "CONTRACT getSys"))
local macro_rules | `(tactic| walk_at "call ref") => `(tactic| (k_here; (with_reducible show wpAny _ _ (call (Value.ref 43) _ _) _ _ _); k_dflt (refine' getPub ?k1 ?k2 ?k3 ?k4 ?k5 ?k6 ?k7 ?k8 ?k9 ?k10 ?_; (case k1 => k_asm); (case k2 => k_asm); (case k3 => k_asm); (case k4 => k_asm); (case k5 => k_asm); (case k6 => first | exact rfl | assumption); (case k7 => ktr_room); (case k8 => k_mem); (case k9 => k_mem); (case k10 => first | k_handed | assumption); k_whole); intro h' tk' F' N'; (try dsimp only); (try k_sweep); walk_say "CONTRACT getPub"))
local macro_rules | `(tactic| walk_at "call ref") => `(tactic| (k_here; (with_reducible show wpAny _ _ (call (Value.ref 71) _ _) _ _ _); k_dflt (refine' getEnc ?k1 ?k2 ?k3 ?k4 ?k5 ?k6 ?k7 ?k8 ?k9 ?k10 ?_; (case k1 => k_asm); (case k2 => k_asm); (case k3 => k_asm); (case k4 => k_asm); (case k5 => k_asm); (case k6 => first | exact rfl | assumption); (case k7 => ktr_room); (case k8 => k_mem); (case k9 => k_mem); (case k10 => first | k_handed | assumption); k_whole); intro h' tk' F' N'; (try dsimp only); (try k_sweep); walk_say "CONTRACT getEnc"))
local macro_rules | `(tactic| walk_at "call ref") => `(tactic| (k_here; (with_reducible show wpAny _ _ (call (Value.ref 85) _ _) _ _ _); k_dflt (refine' getByt ?k1 ?k2 ?k3 ?k4 ?k5 ?k6 ?k7 ?k8 ?k9 ?k10 ?_; (case k1 => k_asm); (case k2 => k_asm); (case k3 => k_asm); (case k4 => k_asm); (case k5 => k_asm); (case k6 => first | exact rfl | assumption); (case k7 => ktr_room); (case k8 => k_mem); (case k9 => k_mem); (case k10 => first | k_handed | assumption); k_whole); intro h' tk' F' N'; (try dsimp only); (try k_sweep); walk_say "CONTRACT getByt"))
local macro_rules | `(tactic| walk_at "call ref") => `(tactic| (k_here; (with_reducible show wpAny _ _ (call (Value.ref 99) _ _) _ _ _); k_dflt (refine' getChr ?k1 ?k2 ?k3 ?k4 ?k5 ?k6 ?k7 ?k8 ?k9 ?k10 ?_; (case k1 => k_asm); (case k2 => k_asm); (case k3 => k_asm); (case k4 => k_asm); (case k5 => k_asm); (case k6 => first | exact rfl | assumption); (case k7 => ktr_room); (case k8 => k_mem); (case k9 => k_mem); (case k10 => first | k_handed | assumption); k_whole); intro h' tk' F' N'; (try dsimp only); (try k_sweep); walk_say "CONTRACT getChr"))
local macro_rules | `(tactic| walk_at "call ref") => `(tactic| (k_here; (with_reducible show wpAny _ _ (call (Value.ref 50) _ _) _ _ _); k_dflt (refine' setSys ?k1 ?k2 ?k3 ?k4 ?k5 ?k6 ?k7 ?k8 ?k9 ?k10 ?_; (case k1 => k_asm); (case k2 => k_asm); (case k3 => k_asm); (case k4 => k_asm); (case k5 => k_asm); (case k6 => first | exact rfl | assumption); (case k7 => ktr_room); (case k8 => k_mem); (case k9 => k_mem); (case k10 => k_upd); k_whole); intro h' tk' F' N'; (try dsimp only); (try k_sweep); walk_say "CONTRACT setSys"))
local macro_rules | `(tactic| walk_at "call ref") => `(tactic| (k_here; (with_reducible show wpAny _ _ (call (Value.ref 36) _ _) _ _ _); k_dflt (refine' setPub ?k1 ?k2 ?k3 ?k4 ?k5 ?k6 ?k7 ?k8 ?k9 ?k10 ?_; (case k1 => k_asm); (case k2 => k_asm); (case k3 => k_asm); (case k4 => k_asm); (case k5 => k_asm); (case k6 => first | exact rfl | assumption); (case k7 => ktr_room); (case k8 => k_mem); (case k9 => k_mem); (case k10 => k_upd); k_whole); intro h' tk' F' N'; (try dsimp only); (try k_sweep); walk_say "CONTRACT setPub"))
local macro_rules | `(tactic| walk_at "call ref") => `(tactic| (k_here; (with_reducible show wpAny _ _ (call (Value.ref 64) _ _) _ _ _); k_dflt (refine' setEnc ?k1 ?k2 ?k3 ?k4 ?k5 ?k6 ?k7 ?k8 ?k9 ?k10 ?_; (case k1 => k_asm); (case k2 => k_asm); (case k3 => k_asm); (case k4 => k_asm); (case k5 => k_asm); (case k6 => first | exact rfl | assumption); (case k7 => ktr_room); (case k8 => k_mem); (case k9 => k_mem); (case k10 => k_upd); k_whole); intro h' tk' F' N'; (try dsimp only); (try k_sweep); walk_say "CONTRACT setEnc"))
local macro_rules | `(tactic| walk_at "call ref") => `(tactic| (k_here; (with_reducible show wpAny _ _ (call (Value.ref 78) _ _) _ _ _); k_dflt (refine' setByt ?k1 ?k2 ?k3 ?k4 ?k5 ?k6 ?k7 ?k8 ?k9 ?k10 ?_; (case k1 => k_asm); (case k2 => k_asm); (case k3 => k_asm); (case k4 => k_asm); (case k5 => k_asm); (case k6 => first | exact rfl | assumption); (case k7 => ktr_room); (case k8 => k_mem); (case k9 => k_mem); (case k10 => k_upd); k_whole); intro h' tk' F' N'; (try dsimp only); (try k_sweep); walk_say "CONTRACT setByt"))
local macro_rules | `(tactic| walk_at "call ref") => `(tactic| (k_here; (with_reducible show wpAny _ _ (call (Value.ref 92) _ _) _ _ _); k_dflt (refine' setChr ?k1 ?k2 ?k3 ?k4 ?k5 ?k6 ?k7 ?k8 ?k9 ?k10 ?_; (case k1 => k_asm); (case k2 => k_asm); (case k3 => k_asm); (case k4 => k_asm); (case k5 => k_asm); (case k6 => first | exact rfl | assumption); (case k7 => ktr_room); (case k8 => k_mem); (case k9 => k_mem); (case k10 => k_upd); k_whole); intro h' tk' F' N'; (try dsimp only); (try k_sweep); walk_say "CONTRACT setChr"))

theorem told (B : Below A₀ base outer h₀) (F : Fr h₀ L s.heap m) (X : (hd.heap_39 w.params).In h₀) (N : News h₀ L s.heap news) (T : Top hd.view_39 (looseW hd.view_39 []) mean mg mb h₀) (hk : cs.kind = .function)
    (hr : dp + 8 < recursionLimit) (h1 : (x, instObj 102 dx) ∈ news) (h2 : (dx, dic w c) ∈ news) (e1 : handedIn c.sys = true) (e2 : handedIn c.pub = true) (e3 : handedIn c.enc = true) (e4 : handedIn c.byt = true) (e5 : handedIn c.chr = true)
    (ret : ∀ l h' tk', Fr h₀ L h' m → News h₀ L h' ((l, W.listOf #[c.sys, c.pub, c.enc, c.byt, c.chr] 0) :: news) → (∀ p ∈ news, p.1 < l) → Q (.ref l) { s with heap := h', toks := tk' }) :
    wpAny (model PySem.Challenge.rw_kn0108_01.row.prog w) (ktrTop dp un gd cn cs L a ccd cl outer) (call (.ref 127) [.ref x]) Q E s := by
  revert X; k_fill; intro X
  w_on
  refine wpAny_call ?_
  k_dflt ktr_enter
  k_steps
  all_goals exact ret _ _ _ (by assumption) (by assumption) (by assumption)
end
end Mine
end

-- part 3
section
open PySem PySem.W PySem.Calls PyProof.Rows PyProof.V PySem.Spec
set_option Elab.async false
set_option maxRecDepth 100000
namespace Mine
/-- a place where the walk is to stand still -/
def Halt (p : Prop) : Prop := p
theorem Halt.mk {p : Prop} (h : Halt p) : p := h

structure HeadJ (w : World) (σ δ : Nat → Addr) (D : Nat → Src) (hf rank : Nat → Nat) (an : Addr) (i₀ q₀ : Nat) (news₀ : List (Addr × Obj)) (m₀ : Str → Option Value) (n : Nat) (m : Str → Option Value) (news : List (Addr × Obj)) (i : Nat) (par : Nat → Nat) (q r : Nat) : Prop where
  lt : i < 8
  top : hf i = hf i₀
  hn : n = rank i
  hq : q + rank i ≤ q₀ + rank i₀
  fi : FI par hf rank
  hm : m = fun y => if y = Str.ofString "source" then some (.ref (σ i)) else m₀ y
  has : Has w σ δ D par news
  ha : (an, W.listOf (nones q) r) ∈ news
  keep : ∀ p ∈ news₀, p.1 ≠ an → (∀ j, j < 8 → p.1 ≠ δ j) → p ∈ news

section
set_option maxHeartbeats 4000000
variable {w : World} {dp un : Nat} {gd : Option (List Code)} {cn : Str} {cs : Scope} {a : Addr} {ccd : Value} {cl : List (Str × Addr)} {outer : List Env} {A₀ : Around} {base h₀ : Heap} {L : Addr} {m : Str → Option Value} {news news' : List (Addr × Obj)} {s : Shared} {mean : ExcName → Option Value} {mg mb : Str → Option Value} {x dx : Addr} {c : Src} {v : Value}

theorem head_loop {prog : Program} {A : Around} {Q : Flow → Shared → Prop} {E : Value → Shared → Prop} {test : Expr} {body : List Stmt} {pos : Pos} {env : Env} {σ δ : Nat → Addr} {D : Nat → Src} {par hf rank : Nat → Nat} {an : Addr} {i q r : Nat} (F : Fr h₀ L s.heap m) (N : News h₀ L s.heap news) (hs : m (Str.ofString "source") = some (.ref (σ i)))
    (hi : i < 8) (I : FI par hf rank) (H : Has w σ δ D par news) (hA : (an, W.listOf (nones q) r) ∈ news)
    (turn : ∀ n m₁ news₁ h tk i' par' q' r', HeadJ w σ δ D hf rank an i q news m n m₁ news₁ i' par' q' r' → Fr h₀ L h (fun y => if y = Str.ofString "source" then some (.ref (σ i')) else m y) → News h₀ L h news₁ →
      wpAny (model prog w) A (isTrue test env (eval test env)) (fun b s₂ =>
        if b = true then wpAny (model prog w) A (execs body env) (WhileStep2 h₀ L s (fun n m₁ news₁ => ∃ i' par' q' r', HeadJ w σ δ D hf rank an i q news m n m₁ news₁ i' par' q' r') Q n) E s₂ else Q .next s₂) E { s with heap := h, toks := tk })
    (hE : PassesOwn (model prog w) A env E := by passes_own) :
    wpAny (model prog w) A (exec (.While test body [] pos) env) Q E s := by
  refine While_inv2 (fun n m₁ news₁ => ∃ i' par' q' r', HeadJ w σ δ D hf rank an i q news m n m₁ news₁ i' par' q' r') (n₀ := rank i) F N ⟨i, par, q, r, hi, rfl, rfl, Nat.le_refl _, I, ?_, H, hA, fun p hp _ _ => hp⟩ ?_ hE
  · funext y
    by_cases e : y = Str.ofString "source"
    · simp only [e, if_true]; exact hs
    · simp only [e, if_false]
  · rintro n m₁ news₁ h tk F₁ N₁ ⟨i', par', q', r', J⟩
    exact turn n m₁ news₁ h tk i' par' q' r' J (J.hm ▸ F₁) N₁
local macro_rules | `(tactic| walk_at "call ref") => `(tactic| (k_here; (with_reducible show wpAny _ _ (call (Value.ref 57) _ _) _ _ _); k_dflt (refine' getSys ?k1 ?k2 ?k3 ?k4 ?k5 ?k6 ?k7 ?k8 ?k9 ?k10 ?_; (case k1 => k_asm); (case k2 => k_asm); (case k3 => k_asm); (case k4 => k_asm); (case k5 => k_asm); (case k6 => first | exact rfl | assumption); (case k7 => ktr_room); (case k8 => k_mem); (case k9 => k_mem); (case k10 => first | k_handed | assumption); k_whole); intro h' tk' F' N'; (try dsimp only); (try k_sweep); walk_say "CONTRACT getSys"))
local macro_rules | `(tactic| walk_at "call ref") => `(tactic| (k_here; (with_reducible show wpAny _ _ (call (Value.ref 43) _ _) _ _ _); k_dflt (refine' getPub ?k1 ?k2 ?k3 ?k4 ?k5 ?k6 ?k7 ?k8 ?k9 ?k10 ?_; (case k1 => k_asm); (case k2 => k_asm); (case k3 => k_asm); (case k4 => k_asm); (case k5 => k_asm); (case k6 => first | exact rfl | assumption); (case k7 => ktr_room); (case k8 => k_mem); (case k9 => k_mem); (case k10 => first | k_handed | assumption); k_whole); intro h' tk' F' N'; (try dsimp only); (try k_sweep); walk_say "CONTRACT getPub"))
local macro_rules | `(tactic| walk_at "call ref") => `(tactic| (k_here; (with_reducible show wpAny _ _ (call (Value.ref 71) _ _) _ _ _); k_dflt (refine' getEnc ?k1 ?k2 ?k3 ?k4 ?k5 ?k6 ?k7 ?k8 ?k9 ?k10 ?_; (case k1 => k_asm); (case k2 => k_asm); (case k3 => k_asm); (case k4 => k_asm); (case k5 => k_asm); (case k6 => first | exact rfl | assumption); (case k7 => ktr_room); (case k8 => k_mem); (case k9 => k_mem); (case k10 => first | k_handed | assumption); k_whole); intro h' tk' F' N'; (try dsimp only); (try k_sweep); walk_say "CONTRACT getEnc"))
local macro_rules | `(tactic| walk_at "call ref") => `(tactic| (k_here; (with_reducible show wpAny _ _ (call (Value.ref 85) _ _) _ _ _); k_dflt (refine' getByt ?k1 ?k2 ?k3 ?k4 ?k5 ?k6 ?k7 ?k8 ?k9 ?k10 ?_; (case k1 => k_asm); (case k2 => k_asm); (case k3 => k_asm); (case k4 => k_asm); (case k5 => k_asm); (case k6 => first | exact rfl | assumption); (case k7 => ktr_room); (case k8 => k_mem); (case k9 => k_mem); (case k10 => first | k_handed | assumption); k_whole); intro h' tk' F' N'; (try dsimp only); (try k_sweep); walk_say "CONTRACT getByt"))
local macro_rules | `(tactic| walk_at "call ref") => `(tactic| (k_here; (with_reducible show wpAny _ _ (call (Value.ref 99) _ _) _ _ _); k_dflt (refine' getChr ?k1 ?k2 ?k3 ?k4 ?k5 ?k6 ?k7 ?k8 ?k9 ?k10 ?_; (case k1 => k_asm); (case k2 => k_asm); (case k3 => k_asm); (case k4 => k_asm); (case k5 => k_asm); (case k6 => first | exact rfl | assumption); (case k7 => ktr_room); (case k8 => k_mem); (case k9 => k_mem); (case k10 => first | k_handed | assumption); k_whole); intro h' tk' F' N'; (try dsimp only); (try k_sweep); walk_say "CONTRACT getChr"))
local macro_rules | `(tactic| walk_at "call ref") => `(tactic| (k_here; (with_reducible show wpAny _ _ (call (Value.ref 50) _ _) _ _ _); k_dflt (refine' setSys ?k1 ?k2 ?k3 ?k4 ?k5 ?k6 ?k7 ?k8 ?k9 ?k10 ?_; (case k1 => k_asm); (case k2 => k_asm); (case k3 => k_asm); (case k4 => k_asm); (case k5 => k_asm); (case k6 => first | exact rfl | assumption); (case k7 => ktr_room); (case k8 => k_mem); (case k9 => k_mem); (case k10 => k_upd); k_whole); intro h' tk' F' N'; (try dsimp only); (try k_sweep); walk_say "CONTRACT setSys"))
local macro_rules | `(tactic| walk_at "call ref") => `(tactic| (k_here; (with_reducible show wpAny _ _ (call (Value.ref 36) _ _) _ _ _); k_dflt (refine' setPub ?k1 ?k2 ?k3 ?k4 ?k5 ?k6 ?k7 ?k8 ?k9 ?k10 ?_; (case k1 => k_asm); (case k2 => k_asm); (case k3 => k_asm); (case k4 => k_asm); (case k5 => k_asm); (case k6 => first | exact rfl | assumption); (case k7 => ktr_room); (case k8 => k_mem); (case k9 => k_mem); (case k10 => k_upd); k_whole); intro h' tk' F' N'; (try dsimp only); (try k_sweep); walk_say "CONTRACT setPub"))
local macro_rules | `(tactic| walk_at "call ref") => `(tactic| (k_here; (with_reducible show wpAny _ _ (call (Value.ref 64) _ _) _ _ _); k_dflt (refine' setEnc ?k1 ?k2 ?k3 ?k4 ?k5 ?k6 ?k7 ?k8 ?k9 ?k10 ?_; (case k1 => k_asm); (case k2 => k_asm); (case k3 => k_asm); (case k4 => k_asm); (case k5 => k_asm); (case k6 => first | exact rfl | assumption); (case k7 => ktr_room); (case k8 => k_mem); (case k9 => k_mem); (case k10 => k_upd); k_whole); intro h' tk' F' N'; (try dsimp only); (try k_sweep); walk_say "CONTRACT setEnc"))
local macro_rules | `(tactic| walk_at "call ref") => `(tactic| (k_here; (with_reducible show wpAny _ _ (call (Value.ref 78) _ _) _ _ _); k_dflt (refine' setByt ?k1 ?k2 ?k3 ?k4 ?k5 ?k6 ?k7 ?k8 ?k9 ?k10 ?_; (case k1 => k_asm); (case k2 => k_asm); (case k3 => k_asm); (case k4 => k_asm); (case k5 => k_asm); (case k6 => first | exact rfl | assumption); (case k7 => ktr_room); (case k8 => k_mem); (case k9 => k_mem); (case k10 => k_upd); k_whole); intro h' tk' F' N'; (try dsimp only); (try k_sweep); walk_say "CONTRACT setByt"))
local macro_rules | `(tactic| walk_at "call ref") => `(tactic| (k_here; (with_reducible show wpAny _ _ (call (Value.ref 92) _ _) _ _ _); k_dflt (refine' setChr ?k1 ?k2 ?k3 ?k4 ?k5 ?k6 ?k7 ?k8 ?k9 ?k10 ?_; (case k1 => k_asm); (case k2 => k_asm); (case k3 => k_asm); (case k4 => k_asm); (case k5 => k_asm); (case k6 => first | exact rfl | assumption); (case k7 => ktr_room); (case k8 => k_mem); (case k9 => k_mem); (case k10 => k_upd); k_whole); intro h' tk' F' N'; (try dsimp only); (try k_sweep); walk_say "CONTRACT setChr"))
local macro_rules | `(tactic| walk_at "call builtin:list.append") => `(tactic| (k_here; (with_reducible show wpAny _ _ (call (Value.builtin _) [Value.ref _, Value.none]) _ _ _); k_dflt (refine' append_none ?k1 ?k2 ?k3 ?k4 ?_; (case k1 => k_asm); (case k2 => k_asm); (case k3 => k_upd); (case k4 => first | assumption | omega); k_whole); intro h' F' N'; (try dsimp only); (try k_sweep); walk_say "APPEND none"))

local macro_rules | `(tactic| walk_at "exec While") => `(tactic| (refine Halt.mk ?_))

theorem head {Q E : Value → Shared → Prop} {σ δ : Nat → Addr} {D : Nat → Src} {par hf rank : Nat → Nat} {an : Addr} {i q r : Nat} (B : Below A₀ base outer h₀) (F : Fr h₀ L s.heap m) (X : (hd.heap_39 w.params).In h₀) (N : News h₀ L s.heap news) (T : Top hd.view_39 (looseW hd.view_39 []) mean mg mb h₀) (hk : cs.kind = .function)
    (hr : dp + 8 < recursionLimit) (S : Sep σ δ) (H : Has w σ δ D par news) (I : FI par hf rank) (hi : i < 8) (hA : (an, W.listOf (nones q) r) ∈ news) (hq : q ≤ 100000)
    (ret : ∀ h' tk' news' par' q' r', Fr h₀ L h' m → News h₀ L h' news' → Has w σ δ D par' news' → FI par' hf rank → (an, W.listOf (nones q') r') ∈ news' → q' ≤ q + 7 → (∀ p ∈ news, p.1 ≠ an → (∀ j, j < 8 → p.1 ≠ δ j) → p ∈ news') →
      Q (.ref (σ (hf i))) { s with heap := h', toks := tk' }) :
    wpAny (model PySem.Challenge.rw_kn0108_01.row.prog w) (ktrTop dp un gd cn cs L a ccd cl outer) (call (.ref 113) [.ref (σ i), .ref an]) Q E s := by
  revert X; k_fill; intro X
  w_on
  refine wpAny_call ?_
  k_dflt ktr_enter
  k_steps
  rename Fr _ _ _ _ => F1
  rename News _ _ _ _ => N1
  refine head_loop F1 N1 rfl hi I H hA ?_
  intro n m₁ news₁ h tk i' par' q' r' J F2 N2
  have hp' := J.fi.par_lt i' J.lt
  by_cases e : par' i' = i'
  · have z := J.has i' J.lt
    unfold srcAt at z
    rw [e] at z
    have hf1 : ∀ p ∈ [(σ i', instObj 102 (δ i')), (δ i', dic w { D i' with sys := .ref (σ i') })], p ∈ news₁ := by
      intro p hp; simp only [List.mem_cons, List.not_mem_nil, or_false] at hp; rcases hp with rfl | rfl
      · exact z.1
      · exact z.2
    obtain ⟨N3, off⟩ := focus _ N2 hf1
    have sub := sub_focus N2 hf1
    simp only [List.cons_append, List.nil_append, List.map_cons, List.map_nil] at N3 off sub
    clear N2
    k_steps
    rename News _ _ _ _ => N5
    rename Fr _ _ _ _ => F5
    have he : i' = hf i := by rw [← J.top]; exact (J.fi.top i' J.lt).mp e
    have := J.hq
    have := J.fi.le i hi
    rw [he]
    exact ret _ _ news₁ par' q' r' F5 (fun p hp => N5 p (sub p hp)) J.has J.fi J.ha (by omega) J.keep
  · have z := J.has i' J.lt
    have z2 := J.has _ hp'
    unfold srcAt at z z2
    have hf1 : ∀ p ∈ [(σ i', instObj 102 (δ i')), (δ i', dic w { D i' with sys := .ref (σ (par' i')) }), (σ (par' i'), instObj 102 (δ (par' i'))), (δ (par' i'), dic w { D (par' i') with sys := .ref (σ (par' (par' i'))) }), (an, W.listOf (nones q') r')], p ∈ news₁ := by
      intro p hp; simp only [List.mem_cons, List.not_mem_nil, or_false] at hp; rcases hp with rfl | rfl | rfl | rfl | rfl
      · exact z.1
      · exact z.2
      · exact z2.1
      · exact z2.2
      · exact J.ha
    obtain ⟨N3, off⟩ := focus _ N2 hf1
    have sub := sub_focus N2 hf1
    simp only [List.cons_append, List.nil_append, List.map_cons, List.map_nil] at N3 off sub
    have n1 : @Ne Nat (σ (par' i')) (σ i') := fun q => e (S.s _ _ hp' J.lt q)
    have n2 : @Ne Nat (δ (par' i')) (δ i') := fun q => e (S.d _ _ hp' J.lt q)
    have n3 : @Ne Nat (σ i') (δ i') := addr_ne N2 z.1 z.2 (by simp)
    have n4 : @Ne Nat (σ (par' i')) (δ i') := addr_ne N2 z2.1 z.2 (by simp)
    have n5 : @Ne Nat (σ i') an := addr_ne N2 z.1 J.ha (by simp)
    have n6 : @Ne Nat (δ i') an := addr_ne N2 z.2 J.ha (by simp)
    have n7 : @Ne Nat (σ (par' i')) an := addr_ne N2 z2.1 J.ha (by simp)
    have n8 : @Ne Nat (δ (par' i')) an := addr_ne N2 z2.2 J.ha (by simp)
    have hqq : q' ≤ 100007 := by have := J.hq; have := J.fi.le i hi; omega
    have ks : ∀ j, j < 8 → @Ne Nat (σ j) (δ i') ∧ @Ne Nat (σ j) an ∧ @Ne Nat (δ j) an := fun j hj =>
      ⟨addr_ne N2 (J.has j hj).1 z.2 (by simp), addr_ne N2 (J.has j hj).1 J.ha (by simp), addr_ne N2 (J.has j hj).2 J.ha (by simp)⟩
    clear N2
    k_steps
    rename News _ _ _ _ => N5
    rename Fr _ _ _ _ => F5
    obtain ⟨I2, d2, t2⟩ := J.fi.halve J.lt e
    have e1 := J.hq
    have e2 := J.hn
    refine ⟨_, _, _, _, rank (par' (par' i')), rfl, F5, N5, by omega, par' (par' i'), _, q' + 1, r' + 1, J.fi.par_lt _ hp', t2.trans J.top, rfl, by omega, I2, ?_, ?_, ?_, ?_⟩
    · funext y
      by_cases hy : y = Str.ofString "source"
      · simp only [hy, if_true]
      · simp only [hy, if_false]
    · intro j hj
      by_cases hji : j = i'
      · rw [hji]
        refine ⟨List.Mem.head _, ?_⟩
        simp only [srcAt, if_true]
        exact List.Mem.tail _ (List.Mem.head _)
      · have h1 := J.has j hj
        refine ⟨swap25 (sub _ h1.1) (ks j hj).1 (ks j hj).2.1, ?_⟩
        simp only [srcAt, if_neg hji]
        exact swap25 (sub _ h1.2) (fun q => hji (S.d _ _ hj J.lt q)) (ks j hj).2.2
    · exact List.Mem.tail _ (List.Mem.tail _ (List.Mem.tail _ (List.Mem.tail _ (List.Mem.head _))))
    · intro p hp h1 h2
      exact swap25 (sub _ (J.keep p hp h1 h2)) (h2 i' J.lt) h1
end
end Mine
end

-- part 4
section
open PySem PySem.W PySem.Calls PyProof.Rows PyProof.V PySem.Spec
set_option Elab.async false
set_option maxRecDepth 100000
namespace Mine
section
variable {prog : Program} {w : World} {A : Around} {E : Value → Shared → Prop} {s : Shared} {env : Env} {h₀ : Heap} {x : Str} {body : List Stmt} {Q : Flow → Shared → Prop}
def TurnEnd (h₀ : Heap) (L : Addr) (s₁ : Shared) (x : Str) (m₀ : Str → Option Value) (I : Addr) (oI : Obj) (J : List (Addr × Obj) → Prop) (s₂ : Shared) : Prop :=
  ∃ h' tk' u news', s₂ = { s₁ with heap := h', toks := tk' } ∧ Fr h₀ L h' (fun y => if y = x then u else m₀ y) ∧ News h₀ L h' ((I, oI) :: news') ∧ (∀ p ∈ news', p.1 ≠ I) ∧ J news'
def TurnPost (h₀ : Heap) (L : Addr) (s₁ : Shared) (x : Str) (m₀ : Str → Option Value) (I : Addr) (oI : Obj) (J : List (Addr × Obj) → Prop) (Q : Flow → Shared → Prop) (f : Flow) (s₂ : Shared) : Prop :=
  match f with
  | .ret v => Q (.ret v) s₂
  | .brk => Q .next s₂
  | _ => TurnEnd h₀ L s₁ x m₀ I oI J s₂
theorem rest_of {m₀ : Str → Option Value} {I : Addr} {n : Nat} {a₀ : Int} (J : Nat → List (Addr × Obj) → Prop)
    (turn : ∀ i news₁ oI t h tk, i < n → J i news₁ → (∀ p ∈ news₁, p.1 ≠ I) → Fr h₀ env.locals h (fun y => if y = x then some (.int (a₀ + (i : Int)) t) else m₀ y) → News h₀ env.locals h ((I, oI) :: news₁) →
      wpAny (model prog w) A (execs body env) (TurnPost h₀ env.locals { s with heap := h, toks := tk } x m₀ I oI (J (i + 1)) Q) E { s with heap := h, toks := tk })
    (done : ∀ u h tk news₁, J n news₁ → Fr h₀ env.locals h (fun y => if y = x then u else m₀ y) → News h₀ env.locals h news₁ → Q .next { s with heap := h, toks := tk }) :
    ∀ k i (u : Option Value) news, i + k = n → J i news → (∀ p ∈ news, p.1 ≠ I) → RangeRest prog w A E h₀ env x body Q s I a₀ n k i (fun y => if y = x then u else m₀ y) news := by
  have fold : ∀ (u : Option Value) (v : Option Value), (fun y => if y = x then v else (fun y => if y = x then u else m₀ y) y) = fun y => if y = x then v else m₀ y := by
    intro u v; funext y
    by_cases e : y = x
    · simp only [e, if_true]
    · simp only [e, if_false]
  intro k
  induction k with
  | zero =>
    intro i u news hi hJ _ h tk F N
    have : i = n := by omega
    subst this
    exact done u h tk news hJ F N
  | succ k ih =>
    intro i u news hi hJ hoff t h tk F N
    rw [fold] at F
    refine wpAny_mono (turn i news _ t h tk (by omega) hJ hoff F N) (fun f s₂ p => ?_) fun _ _ e => e
    have fin : TurnEnd h₀ env.locals { s with heap := h, toks := tk } x m₀ I (itR (a₀ + ((i + 1 : Nat) : Int)) ((n : Int) - ((i + 1 : Nat) : Int))) (J (i + 1)) s₂ → UnrEnd h₀ env.locals { s with heap := h, toks := tk } I (itR (a₀ + ((i + 1 : Nat) : Int)) ((n : Int) - ((i + 1 : Nat) : Int))) (RangeRest prog w A E h₀ env x body Q s I a₀ n k (i + 1)) s₂ := by
      rintro ⟨h', tk', u', news', e, F', N', o', J'⟩
      exact ⟨h', tk', _, news', e, F', N', o', ih (i + 1) u' news' (by omega) J' o'⟩
    cases f with
    | ret v => exact p
    | brk => exact p
    | next => exact fin p
    | cont => exact fin p

theorem iter_rangeJ {r : Addr} {a₀ b₀ : Int} {t₀ u₀ v₀ : Tok} {n : Nat} {m₀ : Str → Option Value} {news : List (Addr × Obj)} (J : Nat → List (Addr × Obj) → Prop)
    (hh : A.handled = none) (hr : IsRange s.heap r a₀ b₀ 1 t₀ u₀ v₀) (hsmall : Builtin.Range.small a₀ b₀ 1 = true) (hn : Builtin.Range.rangeSize a₀ b₀ 1 = (n : Int)) (F : Fr h₀ env.locals s.heap m₀) (N : News h₀ env.locals s.heap news) (h0 : J 0 news)
    (turn : ∀ i news₁ I oI t h tk, i < n → J i news₁ → (∀ p ∈ news₁, p.1 ≠ I) → Fr h₀ env.locals h (fun y => if y = x then some (.int (a₀ + (i : Int)) t) else m₀ y) → News h₀ env.locals h ((I, oI) :: news₁) →
      wpAny (model prog w) A (execs body env) (TurnPost h₀ env.locals { s with heap := h, toks := tk } x m₀ I oI (J (i + 1)) Q) E { s with heap := h, toks := tk })
    (done : ∀ u h tk news₁, J n news₁ → Fr h₀ env.locals h (fun y => if y = x then u else m₀ y) → News h₀ env.locals h news₁ → Q .next { s with heap := h, toks := tk }) :
    wpAny (model prog w) A (pyIter (.ref r)) (fun it s₂ => LoopAtV prog w A h₀ env x body Q E it s₂) E s := by
  refine iter_rangeUnr (news := news) (m₀ := m₀) hh hr hsmall hn F N fun I hI => ?_
  have em : m₀ = fun y => if y = x then m₀ x else m₀ y := by
    funext y
    by_cases e : y = x
    · simp only [e, if_true]
    · simp only [e, if_false]
  rw [em]
  refine rest_of J ?_ ?_ n 0 (m₀ x) news (Nat.zero_add n) h0 fun p hp => Nat.ne_of_lt (hI p hp)
  · intro i news₁ oI t h tk a b c F₁ N₁
    exact turn i news₁ I oI t h tk a b c F₁ N₁
  · intro u h tk news₁ a F₁ N₁
    exact done u h tk news₁ a F₁ N₁
end

/-- what i turns of _law_begin have set -/
structure BegSt (x : Addr) (k i : Nat) (c : Src) : Prop where
  sys : (10 - k) % 5 < i → c.sys = .ref x
  pub : (11 - k) % 5 < i → ∃ t, c.pub = .int 1 t
  enc : (12 - k) % 5 < i → ∃ t, c.enc = .int k t
  byt : (13 - k) % 5 < i → ∃ t, c.byt = .bytes #[((k : Int).toNat).toUInt8] t
  chr : (14 - k) % 5 < i → ∃ t, c.chr = .str { cps := #[(97 + (k : Int)).toNat] } t

theorem off4 {rest : List (Addr × Obj)} {x dx l I : Addr} (h : OwnOff rest [x, dx]) (h1 : ∀ p ∈ rest, p.1 < l) (h2 : ∀ p ∈ rest, p.1 ≠ I) : OwnOff rest [x, dx, l, I] := by
  intro p hp b hb
  simp only [List.mem_cons, List.not_mem_nil, or_false] at hb
  rcases hb with rfl | rfl | rfl | rfl
  · exact h p hp _ (.head _)
  · exact h p hp _ (.tail _ (.head _))
  · exact Nat.ne_of_lt (h1 p hp)
  · exact h2 p hp

theorem beg_loop {prog : Program} {w : World} {A : Around} {E : Value → Shared → Prop} {s : Shared} {env : Env} {h₀ : Heap} {y : Str} {body : List Stmt} {Q : Flow → Shared → Prop} {r l x dx : Addr} {k : Nat} {c : Src} {b₀ : Int} {t₀ u₀ v₀ : Tok} {m₀ : Str → Option Value} {rest : List (Addr × Obj)}
    (hh : A.handled = none) (hr : IsRange s.heap r 0 b₀ 1 t₀ u₀ v₀) (hsmall : Builtin.Range.small 0 b₀ 1 = true) (hn : Builtin.Range.rangeSize 0 b₀ 1 = ((5 : Nat) : Int)) (F : Fr h₀ env.locals s.heap m₀) (N : News h₀ env.locals s.heap ((l, W.listOf (nones 0) 0) :: (x, instObj 102 dx) :: (dx, dic w c) :: rest))
    (turn : ∀ i c' r' I oI t h tk, i < 5 → BegSt x k i c' → (@Ne Nat l I ∧ @Ne Nat x I ∧ @Ne Nat dx I ∧ ∀ p ∈ rest, p.1 ≠ I) → Fr h₀ env.locals h (fun z => if z = y then some (.int (0 + (i : Int)) t) else m₀ z) → News h₀ env.locals h ((I, oI) :: (l, W.listOf (nones i) r') :: (x, instObj 102 dx) :: (dx, dic w c') :: rest) →
      wpAny (model prog w) A (execs body env) (TurnPost h₀ env.locals { s with heap := h, toks := tk } y m₀ I oI (fun news => ∃ c' r', news = (l, W.listOf (nones (i + 1)) r') :: (x, instObj 102 dx) :: (dx, dic w c') :: rest ∧ BegSt x k (i + 1) c') Q) E { s with heap := h, toks := tk })
    (done : ∀ u h tk c' r', BegSt x k 5 c' → Fr h₀ env.locals h (fun z => if z = y then u else m₀ z) → News h₀ env.locals h ((l, W.listOf (nones 5) r') :: (x, instObj 102 dx) :: (dx, dic w c') :: rest) → Q .next { s with heap := h, toks := tk }) :
    wpAny (model prog w) A (pyIter (.ref r)) (fun it s₂ => LoopAtV prog w A h₀ env y body Q E it s₂) E s := by
  refine iter_rangeJ (fun i news => ∃ c' r', news = (l, W.listOf (nones i) r') :: (x, instObj 102 dx) :: (dx, dic w c') :: rest ∧ BegSt x k i c') hh hr hsmall hn F N ⟨c, 0, rfl, ⟨fun h => absurd h (Nat.not_lt_zero _), fun h => absurd h (Nat.not_lt_zero _), fun h => absurd h (Nat.not_lt_zero _), fun h => absurd h (Nat.not_lt_zero _), fun h => absurd h (Nat.not_lt_zero _)⟩⟩ ?_ ?_
  · rintro i _ I oI t h tk hi ⟨c', r', rfl, hB⟩ hoff F₁ N₁
    exact turn i c' r' I oI t h tk hi hB ⟨hoff _ (.head _), hoff _ (.tail _ (.head _)), hoff _ (.tail _ (.tail _ (.head _))), fun p hp => hoff p (.tail _ (.tail _ (.tail _ hp)))⟩ F₁ N₁
  · rintro u h tk _ ⟨c', r', rfl, hB⟩ F₁ N₁
    exact done u h tk c' r' hB F₁ N₁

theorem beg_end {h₀ h h' : Heap} {L I l x dx : Addr} {s : Shared} {y : Str} {m₀ : Str → Option Value} {oI : Obj} {w : World} {k i tk tk' r' : Nat} {c' : Src} {rest : List (Addr × Obj)} {u : Option Value} (F : Fr h₀ L h' (fun z => if z = y then u else m₀ z))
    (N : News h₀ L h' ((I, oI) :: (l, W.listOf (nones (i + 1)) r') :: (x, instObj 102 dx) :: (dx, dic w c') :: rest)) (i1 : @Ne Nat l I) (i2 : @Ne Nat x I) (i3 : @Ne Nat dx I) (i4 : ∀ p ∈ rest, p.1 ≠ I) (hB : BegSt x k (i + 1) c') :
    TurnEnd h₀ L { s with heap := h, toks := tk } y m₀ I oI (fun news => ∃ c' r', news = (l, W.listOf (nones (i + 1)) r') :: (x, instObj 102 dx) :: (dx, dic w c') :: rest ∧ BegSt x k (i + 1) c') { s with heap := h', toks := tk' } := by
  refine ⟨h', tk', u, _, rfl, F, N, ?_, c', r', rfl, hB⟩
  intro p hp
  simp only [List.mem_cons] at hp
  rcases hp with rfl | rfl | rfl | hp
  · exact i1
  · exact i2
  · exact i3
  · exact i4 p hp
section
set_option maxHeartbeats 4000000
variable {w : World} {dp un : Nat} {gd : Option (List Code)} {cn : Str} {cs : Scope} {a : Addr} {ccd : Value} {cl : List (Str × Addr)} {outer : List Env} {A₀ : Around} {base h₀ : Heap} {L : Addr} {m : Str → Option Value} {rest : List (Addr × Obj)} {s : Shared} {mean : ExcName → Option Value} {mg mb : Str → Option Value} {x dx : Addr} {c : Src} {v : Value}
local macro_rules | `(tactic| walk_at "call ref") => `(tactic| (k_here; (with_reducible show wpAny _ _ (call (Value.ref 57) _ _) _ _ _); k_dflt (refine' getSys ?k1 ?k2 ?k3 ?k4 ?k5 ?k6 ?k7 ?k8 ?k9 ?k10 ?_; (case k1 => k_asm); (case k2 => k_asm); (case k3 => k_asm); (case k4 => k_asm); (case k5 => k_asm); (case k6 => first | exact rfl | assumption); (case k7 => ktr_room); (case k8 => k_mem); (case k9 => k_mem); (case k10 => first | k_handed | assumption); k_whole); intro h' tk' F' N'; (try dsimp only); (try k_sweep); walk_say "CONTRACT getSys"))
local macro_rules | `(tactic| walk_at "call ref") => `(tactic| (k_here; (with_reducible show wpAny _ _ (call (Value.ref 43) _ _) _ _ _); k_dflt (refine' getPub ?k1 ?k2 ?k3 ?k4 ?k5 ?k6 ?k7 ?k8 ?k9 ?k10 ?_; (case k1 => k_asm); (case k2 => k_asm); (case k3 => k_asm); (case k4 => k_asm); (case k5 => k_asm); (case k6 => first | exact rfl | assumption); (case k7 => ktr_room); (case k8 => k_mem); (case k9 => k_mem); (case k10 => first | k_handed | assumption); k_whole); intro h' tk' F' N'; (try dsimp only); (try k_sweep); walk_say "CONTRACT getPub"))
local macro_rules | `(tactic| walk_at "call ref") => `(tactic| (k_here; (with_reducible show wpAny _ _ (call (Value.ref 71) _ _) _ _ _); k_dflt (refine' getEnc ?k1 ?k2 ?k3 ?k4 ?k5 ?k6 ?k7 ?k8 ?k9 ?k10 ?_; (case k1 => k_asm); (case k2 => k_asm); (case k3 => k_asm); (case k4 => k_asm); (case k5 => k_asm); (case k6 => first | exact rfl | assumption); (case k7 => ktr_room); (case k8 => k_mem); (case k9 => k_mem); (case k10 => first | k_handed | assumption); k_whole); intro h' tk' F' N'; (try dsimp only); (try k_sweep); walk_say "CONTRACT getEnc"))
local macro_rules | `(tactic| walk_at "call ref") => `(tactic| (k_here; (with_reducible show wpAny _ _ (call (Value.ref 85) _ _) _ _ _); k_dflt (refine' getByt ?k1 ?k2 ?k3 ?k4 ?k5 ?k6 ?k7 ?k8 ?k9 ?k10 ?_; (case k1 => k_asm); (case k2 => k_asm); (case k3 => k_asm); (case k4 => k_asm); (case k5 => k_asm); (case k6 => first | exact rfl | assumption); (case k7 => ktr_room); (case k8 => k_mem); (case k9 => k_mem); (case k10 => first | k_handed | assumption); k_whole); intro h' tk' F' N'; (try dsimp only); (try k_sweep); walk_say "CONTRACT getByt"))
local macro_rules | `(tactic| walk_at "call ref") => `(tactic| (k_here; (with_reducible show wpAny _ _ (call (Value.ref 99) _ _) _ _ _); k_dflt (refine' getChr ?k1 ?k2 ?k3 ?k4 ?k5 ?k6 ?k7 ?k8 ?k9 ?k10 ?_; (case k1 => k_asm); (case k2 => k_asm); (case k3 => k_asm); (case k4 => k_asm); (case k5 => k_asm); (case k6 => first | exact rfl | assumption); (case k7 => ktr_room); (case k8 => k_mem); (case k9 => k_mem); (case k10 => first | k_handed | assumption); k_whole); intro h' tk' F' N'; (try dsimp only); (try k_sweep); walk_say "CONTRACT getChr"))
local macro_rules | `(tactic| walk_at "call ref") => `(tactic| (k_here; (with_reducible show wpAny _ _ (call (Value.ref 50) _ _) _ _ _); k_dflt (refine' setSys ?k1 ?k2 ?k3 ?k4 ?k5 ?k6 ?k7 ?k8 ?k9 ?k10 ?_; (case k1 => k_asm); (case k2 => k_asm); (case k3 => k_asm); (case k4 => k_asm); (case k5 => k_asm); (case k6 => first | exact rfl | assumption); (case k7 => ktr_room); (case k8 => k_mem); (case k9 => k_mem); (case k10 => k_upd); k_whole); intro h' tk' F' N'; (try dsimp only); (try k_sweep); walk_say "CONTRACT setSys"))
local macro_rules | `(tactic| walk_at "call ref") => `(tactic| (k_here; (with_reducible show wpAny _ _ (call (Value.ref 36) _ _) _ _ _); k_dflt (refine' setPub ?k1 ?k2 ?k3 ?k4 ?k5 ?k6 ?k7 ?k8 ?k9 ?k10 ?_; (case k1 => k_asm); (case k2 => k_asm); (case k3 => k_asm); (case k4 => k_asm); (case k5 => k_asm); (case k6 => first | exact rfl | assumption); (case k7 => ktr_room); (case k8 => k_mem); (case k9 => k_mem); (case k10 => k_upd); k_whole); intro h' tk' F' N'; (try dsimp only); (try k_sweep); walk_say "CONTRACT setPub"))
local macro_rules | `(tactic| walk_at "call ref") => `(tactic| (k_here; (with_reducible show wpAny _ _ (call (Value.ref 64) _ _) _ _ _); k_dflt (refine' setEnc ?k1 ?k2 ?k3 ?k4 ?k5 ?k6 ?k7 ?k8 ?k9 ?k10 ?_; (case k1 => k_asm); (case k2 => k_asm); (case k3 => k_asm); (case k4 => k_asm); (case k5 => k_asm); (case k6 => first | exact rfl | assumption); (case k7 => ktr_room); (case k8 => k_mem); (case k9 => k_mem); (case k10 => k_upd); k_whole); intro h' tk' F' N'; (try dsimp only); (try k_sweep); walk_say "CONTRACT setEnc"))
local macro_rules | `(tactic| walk_at "call ref") => `(tactic| (k_here; (with_reducible show wpAny _ _ (call (Value.ref 78) _ _) _ _ _); k_dflt (refine' setByt ?k1 ?k2 ?k3 ?k4 ?k5 ?k6 ?k7 ?k8 ?k9 ?k10 ?_; (case k1 => k_asm); (case k2 => k_asm); (case k3 => k_asm); (case k4 => k_asm); (case k5 => k_asm); (case k6 => first | exact rfl | assumption); (case k7 => ktr_room); (case k8 => k_mem); (case k9 => k_mem); (case k10 => k_upd); k_whole); intro h' tk' F' N'; (try dsimp only); (try k_sweep); walk_say "CONTRACT setByt"))
local macro_rules | `(tactic| walk_at "call ref") => `(tactic| (k_here; (with_reducible show wpAny _ _ (call (Value.ref 92) _ _) _ _ _); k_dflt (refine' setChr ?k1 ?k2 ?k3 ?k4 ?k5 ?k6 ?k7 ?k8 ?k9 ?k10 ?_; (case k1 => k_asm); (case k2 => k_asm); (case k3 => k_asm); (case k4 => k_asm); (case k5 => k_asm); (case k6 => first | exact rfl | assumption); (case k7 => ktr_room); (case k8 => k_mem); (case k9 => k_mem); (case k10 => k_upd); k_whole); intro h' tk' F' N'; (try dsimp only); (try k_sweep); walk_say "CONTRACT setChr"))
local macro_rules | `(tactic| walk_at "call builtin:list.append") => `(tactic| (k_here; (with_reducible show wpAny _ _ (call (Value.builtin _) [Value.ref _, Value.none]) _ _ _); k_dflt (refine' append_none ?k1 ?k2 ?k3 ?k4 ?_; (case k1 => k_asm); (case k2 => k_asm); (case k3 => k_upd); (case k4 => first | assumption | omega); k_whole); intro h' F' N'; (try dsimp only); (try k_sweep); walk_say "APPEND none"))

local macro_rules | `(tactic| walk_at "pyIter ref") => `(tactic| (refine Halt.mk ?_))

theorem begin1 {Q E : Value → Shared → Prop} {k : Nat} {kv : Int} {kt : Tok} (B : Below A₀ base outer h₀) (F : Fr h₀ L s.heap m) (X : (hd.heap_39 w.params).In h₀) (N : News h₀ L s.heap ((x, instObj 102 dx) :: (dx, dic w c) :: rest)) (T : Top hd.view_39 (looseW hd.view_39 []) mean mg mb h₀) (hk : cs.kind = .function)
    (hr : dp + 8 < recursionLimit) (off : OwnOff rest [x, dx]) (ne : @Ne Nat x dx) (hkv : kv = (k : Int)) (k8 : k < 8)
    (ret : ∀ l h' tk' c' r, Fr h₀ L h' m → News h₀ L h' ((l, W.listOf (nones 5) r) :: (x, instObj 102 dx) :: (dx, dic w c') :: rest) → (∀ p ∈ (x, instObj 102 dx) :: (dx, dic w c) :: rest, p.1 ≠ l) → BegSt x k 5 c' →
      Q (.ref l) { s with heap := h', toks := tk' }) :
    wpAny (model PySem.Challenge.rw_kn0108_01.row.prog w) (ktrTop dp un gd cn cs L a ccd cl outer) (call (.ref 120) [.ref x, .int kv kt]) Q E s := by
  revert X; k_fill; intro X
  w_on
  refine wpAny_call ?_
  k_dflt ktr_enter
  k_steps
  rename IsRange _ _ _ _ _ _ _ _ => R1
  rename Fr _ _ _ _ => F1
  rename News _ _ _ _ => N1
  rename _ ∧ _ ∧ AllLt _ _ => l1
  obtain ⟨q1, q2, q3⟩ := l1
  have q4 := of_allLt q3
  refine beg_loop (k := k) (by rfl) R1 (by decide) (by decide) F1 N1 ?_ ?_
  · intro i c' r' I oI t h tk hi hB hI F2 N2
    obtain ⟨i1, i2, i3, i4⟩ := hI
    have off2 : OwnOff rest [x, dx, _, I] := off4 off q4 i4
    clear F1 N1 R1 off
    subst hkv
    k_steps
    all_goals (
      (rename News _ _ _ _ => N5)
      (rename Fr _ _ _ _ => F5)
      (simp only [Int.fmod_eq_emod_of_nonneg _ (show (0 : Int) ≤ 5 by decide)] at *)
      (show TurnEnd _ _ _ _ _ _ _ _ _)
      (first | refine beg_end F5 N5 i1 i2 i3 i4 ?_ | refine beg_end F5 (fun p hp => N5 p (List.mem_cons_of_mem _ hp)) i1 i2 i3 i4 ?_)
      (refine ⟨fun h9 => ?_, fun h9 => ?_, fun h9 => ?_, fun h9 => ?_, fun h9 => ?_⟩))
    all_goals (first | exact rfl | exact ⟨_, rfl⟩ | exact hB.sys (by omega) | exact hB.pub (by omega) | exact hB.enc (by omega) | exact hB.byt (by omega) | exact hB.chr (by omega))
  · intro u h tk c' r' hB F2 N2
    clear F1 N1 R1
    k_steps
    rename News _ _ _ _ => N5
    rename Fr _ _ _ _ => F5
    refine ret _ _ _ c' r' F5 N5 ?_ hB
    intro p hp
    simp only [List.mem_cons] at hp
    rcases hp with rfl | rfl | hp
    · exact Nat.ne_of_lt q1
    · exact Nat.ne_of_lt q2
    · exact Nat.ne_of_lt (q4 p hp)
end
end Mine
end

-- part 5
section
open PySem PySem.W PySem.Calls PyProof.Rows PyProof.V PySem.Spec
set_option Elab.async false
set_option maxRecDepth 100000
namespace Mine
/-! the law's own text, taken out of the given program by place -/
def lawOf (p : Program) : Option (List Stmt × Scope) :=
  match p.main.body with
  | [_, _, _, _, _, _, _, .FunctionDef _ _ body _ _ _ scope _ _ _] => some (body, scope)
  | _ => none
abbrev lawBS : { x : List Stmt × Scope // lawOf PySem.Challenge.pw_kn0108_01 = some x } := ⟨_, rfl⟩
abbrev lawScope : Scope := lawBS.1.2
def forBody : Stmt → Option (List Stmt)
  | .For _ _ body _ _ => some body
  | _ => none
def ifBody : Stmt → Option (List Stmt)
  | .If _ body _ _ => some body
  | _ => none
/-- the main loop's body -/
abbrev mainB : { b : List Stmt // (lawBS.1.1[5]?).bind forBody = some b } := ⟨_, rfl⟩
abbrev endB : { b : List Stmt // (lawBS.1.1[6]?).bind forBody = some b } := ⟨_, rfl⟩
abbrev lawEnv (L fa : Addr) (cd : Value) : Env := envOfC (Str.ofString "law") lawBS.1.2 L fa cd
abbrev lawA (L fa : Addr) (cd : Value) : Around := callerA.deeper (lawEnv L fa cd)

/-! the law's state between two turns -/
def srcs (σ : Nat → Addr) : Array Value := #[.ref (σ 0), .ref (σ 1), .ref (σ 2), .ref (σ 3), .ref (σ 4), .ref (σ 5), .ref (σ 6), .ref (σ 7)]
def IntList (news : List (Addr × Obj)) (a : Addr) (ns : List Nat) : Prop := ∃ vs c, (a, W.listOf vs.toArray c) ∈ news ∧ IntsAre vs (ns.map fun (k : Nat) => (k : Int))
theorem dict_data {prog : Program} {w : World} {fo : Obj} {kvs : List (Int × Value)} (h : fo.IsDictOf (PySem.intKind prog w) kvs) : True ∧ ∃ es ep, fo.data = .dict es ep := by
  obtain ⟨es, ep, _, h, _⟩ := h
  exact ⟨trivial, es, ep, h⟩
/-- off the answers and off the eight dicts -/
def Ap (an : Addr) (δ : Nat → Addr) (a : Addr) : Prop := @Ne Nat a an ∧ ∀ j, j < 8 → @Ne Nat a (δ j)
/-- what else is to stay: neither a cell nor a dict, off the answers -/
def Ext (an : Addr) (δ : Nat → Addr) (Xs news : List (Addr × Obj)) : Prop := ∀ p ∈ Xs, p ∈ news ∧ Ap an δ p.1 ∧ (∀ v, p.2.data ≠ .cell v) ∧ ∀ es ep, p.2.data ≠ .dict es ep
structure LSt (w : World) (σ δ : Nat → Addr) (sl an L : Addr) (Xs : List (Addr × Obj)) (D : Nat → Src) (par : Nat → Nat) (q : Nat) (gl fd : Addr) (hs : List Nat) (ha : Nat → Addr) (had : Nat → List Nat) (kvs : List (Int × Value)) (news : List (Addr × Obj)) : Prop where
  has : Has w σ δ D par news
  src : ∃ c, (sl, W.listOf (srcs σ) c) ∈ news
  ans : ∃ r, (an, W.listOf (nones q) r) ∈ news
  grp : ∃ c, (gl, W.listOf (hs.map fun h => Value.ref (ha h)).toArray c) ∈ news
  hads : ∀ k, k < 8 → IntList news (ha k) (had k)
  frm : ∃ fo, (fd, fo) ∈ news ∧ fo.IsDictOf (PySem.intKind PySem.Challenge.rw_kn0108_01.row.prog w) kvs
  cx : ∃ o v, (L + 1, o) ∈ news ∧ o.data = .cell v
  cf : ∃ o v, (L + 1 + 1, o) ∈ news ∧ o.data = .cell v
  cs : ∃ o v, (L + 1 + 1 + 1, o) ∈ news ∧ o.data = .cell v
  a_sl : Ap an δ sl
  a_gl : Ap an δ gl
  a_ha : ∀ k, k < 8 → Ap an δ (ha k)
  a_fd : Ap an δ fd
  ext : Ext an δ Xs news
/-- one address bears one thing -/
def Dis (news : List (Addr × Obj)) : Prop := ∀ a b o o', (a, o) ∈ news → (b, o') ∈ news → o ≠ o' → a ≠ b
theorem dis_of {h₀ h : Heap} {L : Addr} {news : List (Addr × Obj)} (N : News h₀ L h news) : Dis news := fun _ _ _ _ h1 h2 hne => addr_ne N h1 h2 hne
theorem ap_cell {w : World} {a an : Addr} {o : Obj} {v : Option Value} {σ δ : Nat → Addr} {D : Nat → Src} {par : Nat → Nat} {q r : Nat} {news : List (Addr × Obj)} (N : Dis news) (H : Has w σ δ D par news) (hA : (an, W.listOf (nones q) r) ∈ news) (hm : (a, o) ∈ news) (hd : o.data = .cell v) : Ap an δ a :=
  ⟨N _ _ _ _ hm hA (fun e => by rw [e] at hd; cases hd), fun j hj => N _ _ _ _ hm (H j hj).2 (fun e => by rw [e] at hd; cases hd)⟩
/-- the state when the answers and the eight dicts have turned, and nothing else -/
theorem LSt.after {w : World} {σ δ : Nat → Addr} {sl an L gl fd : Addr} {Xs : List (Addr × Obj)} {D D' : Nat → Src} {par par' : Nat → Nat} {q q' r' : Nat} {hs : List Nat} {ha : Nat → Addr} {had : Nat → List Nat} {kvs : List (Int × Value)} {news news' : List (Addr × Obj)}
    (N : Dis news) (M : LSt w σ δ sl an L Xs D par q gl fd hs ha had kvs news) (H : Has w σ δ D' par' news') (hA : (an, W.listOf (nones q') r') ∈ news') (keep : ∀ p ∈ news, p.1 ≠ an → (∀ j, j < 8 → p.1 ≠ δ j) → p ∈ news') :
    LSt w σ δ sl an L Xs D' par' q' gl fd hs ha had kvs news' := by
  have kp : ∀ {a o}, (a, o) ∈ news → Ap an δ a → (a, o) ∈ news' := fun hm hp => keep _ hm hp.1 hp.2
  obtain ⟨r0, hA0⟩ := M.ans
  refine ⟨H, ?_, ⟨r', hA⟩, ?_, ?_, ?_, ?_, ?_, ?_, M.a_sl, M.a_gl, M.a_ha, M.a_fd, fun p hp => ⟨keep p (M.ext p hp).1 (M.ext p hp).2.1.1 (M.ext p hp).2.1.2, (M.ext p hp).2⟩⟩
  · obtain ⟨c, hm⟩ := M.src; exact ⟨c, kp hm M.a_sl⟩
  · obtain ⟨c, hm⟩ := M.grp; exact ⟨c, kp hm M.a_gl⟩
  · intro k hk
    obtain ⟨vs, c, hm, hi⟩ := M.hads k hk
    exact ⟨vs, c, kp hm (M.a_ha k hk), hi⟩
  · obtain ⟨fo, hm, hd⟩ := M.frm; exact ⟨fo, kp hm M.a_fd, hd⟩
  · obtain ⟨o, v, hm, hd⟩ := M.cx; exact ⟨o, v, kp hm (ap_cell N M.has hA0 hm hd), hd⟩
  · obtain ⟨o, v, hm, hd⟩ := M.cf; exact ⟨o, v, kp hm (ap_cell N M.has hA0 hm hd), hd⟩
  · obtain ⟨o, v, hm, hd⟩ := M.cs; exact ⟨o, v, kp hm (ap_cell N M.has hA0 hm hd), hd⟩
/-- the state when one cell has turned, and nothing else -/
theorem LSt.cell {w : World} {σ δ : Nat → Addr} {sl an L gl fd d : Addr} {Xs : List (Addr × Obj)} {D : Nat → Src} {par : Nat → Nat} {q : Nat} {hs : List Nat} {ha : Nat → Addr} {had : Nat → List Nat} {kvs : List (Int × Value)} {news news' : List (Addr × Obj)} {od : Obj} {vd : Option Value}
    (N : Dis news) (M : LSt w σ δ sl an L Xs D par q gl fd hs ha had kvs news) (hd : (d, od) ∈ news) (hv : od.data = .cell vd) (keep : ∀ p ∈ news, p.1 ≠ d → p ∈ news')
    (cx : ∃ o v, (L + 1, o) ∈ news' ∧ o.data = .cell v) (cf : ∃ o v, (L + 1 + 1, o) ∈ news' ∧ o.data = .cell v) (cs : ∃ o v, (L + 1 + 1 + 1, o) ∈ news' ∧ o.data = .cell v) :
    LSt w σ δ sl an L Xs D par q gl fd hs ha had kvs news' := by
  have kp : ∀ {a o}, (a, o) ∈ news → (∀ v, o.data ≠ .cell v) → (a, o) ∈ news' := fun hm hne => keep _ hm (N _ _ _ _ hm hd (fun e => by rw [e] at hne; exact hne _ hv))
  have kl : ∀ {a : Addr} {its : Array Value} {c : Nat}, (a, W.listOf its c) ∈ news → (a, W.listOf its c) ∈ news' := fun hm => kp hm (fun v e => by cases e)
  refine ⟨fun i hi => ⟨kp (M.has i hi).1 (fun v e => by cases e), kp (M.has i hi).2 (fun v e => by cases e)⟩, ?_, ?_, ?_, ?_, ?_, cx, cf, cs, M.a_sl, M.a_gl, M.a_ha, M.a_fd, fun p hp => ⟨kp (M.ext p hp).1 (M.ext p hp).2.2.1, (M.ext p hp).2⟩⟩
  · obtain ⟨c, hm⟩ := M.src; exact ⟨c, kl hm⟩
  · obtain ⟨c, hm⟩ := M.ans; exact ⟨c, kl hm⟩
  · obtain ⟨c, hm⟩ := M.grp; exact ⟨c, kl hm⟩
  · intro k hk
    obtain ⟨vs, c, hm, hi⟩ := M.hads k hk
    exact ⟨vs, c, kl hm, hi⟩
  · obtain ⟨fo, hm, hd'⟩ := M.frm
    refine ⟨fo, kp hm (fun v e => ?_), hd'⟩
    obtain ⟨_, ⟨es, ep, h1⟩⟩ := dict_data hd'
    rw [h1] at e; cases e
/-- the state when two cells have turned, and nothing else -/
theorem LSt.cell2 {w : World} {σ δ : Nat → Addr} {sl an L gl fd d e : Addr} {Xs : List (Addr × Obj)} {D : Nat → Src} {par : Nat → Nat} {q : Nat} {hs : List Nat} {ha : Nat → Addr} {had : Nat → List Nat} {kvs : List (Int × Value)} {news news' : List (Addr × Obj)} {od oe : Obj} {vd ve : Option Value}
    (N : Dis news) (M : LSt w σ δ sl an L Xs D par q gl fd hs ha had kvs news) (hd : (d, od) ∈ news) (hv : od.data = .cell vd) (he : (e, oe) ∈ news) (hve : oe.data = .cell ve) (keep : ∀ p ∈ news, p.1 ≠ d → p.1 ≠ e → p ∈ news')
    (cx : ∃ o v, (L + 1, o) ∈ news' ∧ o.data = .cell v) (cf : ∃ o v, (L + 1 + 1, o) ∈ news' ∧ o.data = .cell v) (cs : ∃ o v, (L + 1 + 1 + 1, o) ∈ news' ∧ o.data = .cell v) :
    LSt w σ δ sl an L Xs D par q gl fd hs ha had kvs news' := by
  have kp : ∀ {a o}, (a, o) ∈ news → (∀ v, o.data ≠ .cell v) → (a, o) ∈ news' := fun hm hne => keep _ hm (N _ _ _ _ hm hd (fun q => by rw [q] at hne; exact hne _ hv)) (N _ _ _ _ hm he (fun q => by rw [q] at hne; exact hne _ hve))
  have kl : ∀ {a : Addr} {its : Array Value} {c : Nat}, (a, W.listOf its c) ∈ news → (a, W.listOf its c) ∈ news' := fun hm => kp hm (fun v e => by cases e)
  refine ⟨fun i hi => ⟨kp (M.has i hi).1 (fun v e => by cases e), kp (M.has i hi).2 (fun v e => by cases e)⟩, ?_, ?_, ?_, ?_, ?_, cx, cf, cs, M.a_sl, M.a_gl, M.a_ha, M.a_fd, fun p hp => ⟨kp (M.ext p hp).1 (M.ext p hp).2.2.1, (M.ext p hp).2⟩⟩
  · obtain ⟨c, hm⟩ := M.src; exact ⟨c, kl hm⟩
  · obtain ⟨c, hm⟩ := M.ans; exact ⟨c, kl hm⟩
  · obtain ⟨c, hm⟩ := M.grp; exact ⟨c, kl hm⟩
  · intro k hk
    obtain ⟨vs, c, hm, hi⟩ := M.hads k hk
    exact ⟨vs, c, kl hm, hi⟩
  · obtain ⟨fo, hm, hd'⟩ := M.frm
    refine ⟨fo, kp hm (fun v e => ?_), hd'⟩
    obtain ⟨_, ⟨es, ep, h1⟩⟩ := dict_data hd'
    rw [h1] at e; cases e
/-- the state when the dict of the former groups has turned, and nothing else -/
theorem LSt.former {w : World} {σ δ : Nat → Addr} {sl an L gl fd : Addr} {Xs : List (Addr × Obj)} {D : Nat → Src} {par : Nat → Nat} {q : Nat} {hs : List Nat} {ha : Nat → Addr} {had : Nat → List Nat} {kvs kvs' : List (Int × Value)} {news news' : List (Addr × Obj)} {fo' : Obj}
    (N : Dis news) (M : LSt w σ δ sl an L Xs D par q gl fd hs ha had kvs news) (keep : ∀ p ∈ news, p.1 ≠ fd → p ∈ news') (hf' : (fd, fo') ∈ news') (hd' : fo'.IsDictOf (PySem.intKind PySem.Challenge.rw_kn0108_01.row.prog w) kvs') :
    LSt w σ δ sl an L Xs D par q gl fd hs ha had kvs' news' := by
  obtain ⟨fo, hfo, hfd⟩ := M.frm
  obtain ⟨-, es, ep, hfdat⟩ := dict_data hfd
  have kp : ∀ {a o}, (a, o) ∈ news → (∀ es ep, o.data ≠ .dict es ep) → (a, o) ∈ news' := fun hm hne => keep _ hm (N _ _ _ _ hm hfo (fun e => by rw [e] at hne; exact hne _ _ hfdat))
  have kl : ∀ {a : Addr} {its : Array Value} {c : Nat}, (a, W.listOf its c) ∈ news → (a, W.listOf its c) ∈ news' := fun hm => kp hm (fun _ _ e => by cases e)
  have kc : ∀ {a : Addr}, (∃ o v, (a, o) ∈ news ∧ o.data = .cell v) → (∃ o v, (a, o) ∈ news' ∧ o.data = .cell v) := fun ⟨o, v, hm, hd⟩ => ⟨o, v, kp hm (fun _ _ e => by rw [hd] at e; cases e), hd⟩
  refine ⟨fun i hi => ⟨kp (M.has i hi).1 (fun _ _ e => by cases e), keep _ (M.has i hi).2 (fun e => M.a_fd.2 i hi e.symm)⟩, ?_, ?_, ?_, ?_, ⟨fo', hf', hd'⟩, kc M.cx, kc M.cf, kc M.cs, M.a_sl, M.a_gl, M.a_ha, M.a_fd, fun p hp => ⟨kp (M.ext p hp).1 (M.ext p hp).2.2.2, (M.ext p hp).2⟩⟩
  · obtain ⟨c, hm⟩ := M.src; exact ⟨c, kl hm⟩
  · obtain ⟨c, hm⟩ := M.ans; exact ⟨c, kl hm⟩
  · obtain ⟨c, hm⟩ := M.grp; exact ⟨c, kl hm⟩
  · intro k hk
    obtain ⟨vs, c, hm, hi⟩ := M.hads k hk
    exact ⟨vs, c, kl hm, hi⟩
/-- the state when the list of groups has been made anew, two of them joined -/
theorem LSt.joined {w : World} {σ δ : Nat → Addr} {sl an L gl gl' fd na : Addr} {Xs : List (Addr × Obj)} {D : Nat → Src} {par : Nat → Nat} {q c c' : Nat} {hs : List Nat} {ha : Nat → Addr} {had : Nat → List Nat} {kvs : List (Int × Value)} {news news' : List (Addr × Obj)} {a b : Nat} {vs : List Value}
    (M : LSt w σ δ sl an L Xs D par q gl fd hs ha had kvs news) (sub : ∀ p ∈ news, p ∈ news')
    (hg : (gl', W.listOf ((hs.filter (fun h => !(h == a || h == b))).map (fun h => Value.ref (ha h)) ++ [Value.ref na]).toArray c) ∈ news') (hn : (na, W.listOf vs.toArray c') ∈ news') (hi : IntsAre vs ((had a ++ had b).map fun (k : Nat) => (k : Int)))
    (ag : Ap an δ gl') (ana : Ap an δ na) :
    LSt w σ δ sl an L Xs D par q gl' fd (hs.filter (fun h => !(h == a || h == b)) ++ [a]) (fun k => if k = a then na else ha k) (fun k => if k = a then had a ++ had b else had k) kvs news' := by
  have kc : ∀ {x : Addr}, (∃ o v, (x, o) ∈ news ∧ o.data = .cell v) → (∃ o v, (x, o) ∈ news' ∧ o.data = .cell v) := fun ⟨o, v, hm, hd⟩ => ⟨o, v, sub _ hm, hd⟩
  refine ⟨fun i hi => ⟨sub _ (M.has i hi).1, sub _ (M.has i hi).2⟩, ?_, ?_, ⟨c, ?_⟩, ?_, ?_, kc M.cx, kc M.cf, kc M.cs, M.a_sl, ag, ?_, M.a_fd, fun p hp => ⟨sub _ (M.ext p hp).1, (M.ext p hp).2⟩⟩
  · obtain ⟨c, hm⟩ := M.src; exact ⟨c, sub _ hm⟩
  · obtain ⟨c, hm⟩ := M.ans; exact ⟨c, sub _ hm⟩
  · have e : (hs.filter (fun h => !(h == a || h == b)) ++ [a]).map (fun h => Value.ref (if h = a then na else ha h)) = (hs.filter (fun h => !(h == a || h == b))).map (fun h => Value.ref (ha h)) ++ [Value.ref na] := by
      rw [List.map_append]
      congr 1
      · refine List.map_congr_left fun h hh => ?_
        have := (List.mem_filter.mp hh).2
        have hne : h ≠ a := by intro e; subst e; simp at this
        rw [if_neg hne]
      · simp
    rw [e]; exact hg
  · intro k hk
    by_cases e : k = a
    · simp only [if_pos e]; exact ⟨vs, c', hn, hi⟩
    · simp only [if_neg e]
      obtain ⟨vs, c, hm, hi⟩ := M.hads k hk
      exact ⟨vs, c, sub _ hm, hi⟩
  · obtain ⟨fo, hm, hd⟩ := M.frm; exact ⟨fo, sub _ hm, hd⟩
  · intro k hk
    by_cases e : k = a
    · simp only [if_pos e]; exact ana
    · simp only [if_neg e]; exact M.a_ha k hk
theorem ap_fresh {w : World} {σ δ : Nat → Addr} {D : Nat → Src} {par : Nat → Nat} {an x : Addr} {q r : Nat} {news : List (Addr × Obj)} (H : Has w σ δ D par news) (hA : (an, W.listOf (nones q) r) ∈ news) (h : ∀ p ∈ news, p.1 < x) : Ap an δ x :=
  ⟨Nat.ne_of_gt (h _ hA), fun j hj => Nat.ne_of_gt (h _ (H j hj).2)⟩
abbrev frm (sl an gl fd : Addr) (u : Str → Option Value) : Str → Option Value := fun y =>
  if y = Str.ofString "sources" then some (.ref sl) else if y = Str.ofString "answers" then some (.ref an) else if y = Str.ofString "groups" then some (.ref gl) else if y = Str.ofString "former" then some (.ref fd) else u y

abbrev frm2 (sl an gl fd : Addr) (one two : Value) (u : Str → Option Value) : Str → Option Value := fun y =>
  if y = Str.ofString "one" then some one else if y = Str.ofString "two" then some two else frm sl an gl fd u y
theorem to_frm {h₀ h : Heap} {L sl an gl fd : Addr} {m : Str → Option Value} (F : Fr h₀ L h m) (h1 : m (Str.ofString "sources") = some (.ref sl)) (h2 : m (Str.ofString "answers") = some (.ref an)) (h3 : m (Str.ofString "groups") = some (.ref gl)) (h4 : m (Str.ofString "former") = some (.ref fd)) :
    Fr h₀ L h (frm sl an gl fd m) := by
  have e : m = frm sl an gl fd m := by
    funext y
    unfold frm
    split
    · rename_i e; rw [e]; exact h1
    · split
      · rename_i e; rw [e]; exact h2
      · split
        · rename_i e; rw [e]; exact h3
        · split
          · rename_i e; rw [e]; exact h4
          · rfl
  rw [← e]; exact F
theorem to_frm2 {h₀ h : Heap} {L sl an gl fd : Addr} {one two : Value} {m : Str → Option Value} (F : Fr h₀ L h m) (h1 : m (Str.ofString "sources") = some (.ref sl)) (h2 : m (Str.ofString "answers") = some (.ref an)) (h3 : m (Str.ofString "groups") = some (.ref gl)) (h4 : m (Str.ofString "former") = some (.ref fd))
    (h5 : m (Str.ofString "one") = some one) (h6 : m (Str.ofString "two") = some two) : Fr h₀ L h (frm2 sl an gl fd one two m) := by
  have F' := to_frm F h1 h2 h3 h4
  have e : frm sl an gl fd m = frm2 sl an gl fd one two m := by
    funext y
    unfold frm2
    split
    · rename_i e; rw [e]; show m _ = _; exact h5
    · split
      · rename_i e; rw [e]; show m _ = _; exact h6
      · rfl
  rw [← e]; exact F'
theorem srcs_at (σ : Nat → Addr) : ∀ i, i < 8 → (srcs σ)[i]? = some (.ref (σ i)) := by
  intro i hi
  match i, hi with
  | 0, _ => rfl
  | 1, _ => rfl
  | 2, _ => rfl
  | 3, _ => rfl
  | 4, _ => rfl
  | 5, _ => rfl
  | 6, _ => rfl
  | 7, _ => rfl
theorem item_src {prog : Program} {w : World} {A : Around} {E : Value → Shared → Prop} {s : Shared} {h₀ : Heap} {L sl : Addr} {c : Nat} {σ : Nat → Addr} {news : List (Addr × Obj)} {value slice : PySem.Expr} {k : Int} {u : Tok} {Q : Value → Shared → Prop} (N : News h₀ L s.heap news) (hm : (sl, W.listOf (srcs σ) c) ∈ news)
    (h0 : 0 ≤ k) (h8 : k < 8) (h : Q (.ref (σ k.toNat)) s)
    (hs : subscripted slice false (.ref sl) (.int k u) = operate [.ref sl, .int k u] (getItem (.ref sl) (.int k u)) := by with_unfolding_all rfl) :
    wpAny (model prog w) A (subscriptTail value slice (.ref sl) (.int k u)) Q E s :=
  have hl : s.heap.IsList sl (srcs σ) := ⟨_, N.get hm, rfl, c, rfl⟩
  tail_any hl.typeIs slot_list_getitem.lookup (wpAny_getItem_list hl h0 (by omega) (srcs_at σ _ (by omega)) h) hs
theorem in_ints {prog : Program} {w : World} {A : Around} {E : Value → Shared → Prop} {s : Shared} {h₀ : Heap} {L l : Addr} {c : Nat} {vs : List Value} {ns : List Int} {k : Int} {t : Tok} {news : List (Addr × Obj)} {Q : Value → Shared → Prop} (N : News h₀ L s.heap news) (hm : (l, W.listOf vs.toArray c) ∈ news) (hi : IntsAre vs ns)
    (h : Q (.bool (ns.any (· == k))) s) : wpAny (model prog w) A (compareOp .In (.int k t) (.ref l)) Q E s := in_list_ints ⟨_, N.get hm, rfl, c, rfl⟩ hi h
theorem notin_ints {prog : Program} {w : World} {A : Around} {E : Value → Shared → Prop} {s : Shared} {h₀ : Heap} {L l : Addr} {c : Nat} {vs : List Value} {ns : List Int} {k : Int} {t : Tok} {news : List (Addr × Obj)} {Q : Value → Shared → Prop} (N : News h₀ L s.heap news) (hm : (l, W.listOf vs.toArray c) ∈ news) (hi : IntsAre vs ns)
    (h : Q (.bool (!(ns.any (· == k)))) s) : wpAny (model prog w) A (compareOp .NotIn (.int k t) (.ref l)) Q E s := notin_list_ints ⟨_, N.get hm, rfl, c, rfl⟩ hi h
theorem item0 {prog : Program} {w : World} {A : Around} {E : Value → Shared → Prop} {s : Shared} {h₀ : Heap} {L l : Addr} {c : Nat} {its : Array Value} {v : Value} {news : List (Addr × Obj)} {value slice : PySem.Expr} {u : Tok} {Q : Value → Shared → Prop} (N : News h₀ L s.heap news) (hm : (l, W.listOf its c) ∈ news)
    (hv : its[0]? = some v) (h : Q v s)
    (hs : subscripted slice false (.ref l) (.int 0 u) = operate [.ref l, .int 0 u] (getItem (.ref l) (.int 0 u)) := by with_unfolding_all rfl) :
    wpAny (model prog w) A (subscriptTail value slice (.ref l) (.int 0 u)) Q E s :=
  have hl : s.heap.IsList l its := ⟨_, N.get hm, rfl, c, rfl⟩
  tail_any hl.typeIs slot_list_getitem.lookup (wpAny_getItem_list hl (by decide) (by decide) hv h) hs
theorem any_nat (g : List Nat) (k : Nat) : ((g.map fun (j : Nat) => (j : Int)).any (· == (k : Int))) = g.contains k := by
  induction g with
  | nil => rfl
  | cons a r ih =>
    have e : ((a : Int) == (k : Int)) = (k == a) := by
      rw [Bool.eq_iff_iff]
      simp only [beq_iff_eq]
      omega
    simp only [List.map_cons, List.any_cons, List.contains_cons, ih, e]
theorem swap1 {p e e' : Addr × Obj} {rest : List (Addr × Obj)} (h : p ∈ e :: rest) (hne : p.1 ≠ e.1) : p ∈ e' :: rest := by
  rcases List.mem_cons.mp h with rfl | h
  · exact absurd rfl hne
  · exact .tail _ h
theorem kp_of {h₀ h : Heap} {L : Addr} {news all rest : List (Addr × Obj)} {e e' : Addr × Obj} (sub : ∀ p ∈ all, p ∈ e :: rest) (hs : ∀ p ∈ news, p ∈ all) (_N : News h₀ L h (e' :: rest)) : ∀ p ∈ news, p.1 ≠ e.1 → p ∈ e' :: rest :=
  fun p hp hne => swap1 (sub p (hs p hp)) hne
theorem extend_none {prog : Program} {w : World} {A : Around} {E : Value → Shared → Prop} {s : Shared} {h₀ : Heap} {L an b : Addr} {m : Str → Option Value} {news : List (Addr × Obj)} {g : Obj → List (Addr × Obj)} {its2 : Array Value} {q r r2 : Nat} {Q : Value → Shared → Prop} (F : Fr h₀ L s.heap m) (N : News h₀ L s.heap news)
    (U : UpdF an (W.listOf (nones q) r) news g) (hb : (b, W.listOf its2 r2) ∈ news) (e2 : its2 = nones its2.size) (hq : q + its2.size ≤ 200000) (h : ∀ h' n', Fr h₀ L h' m → News h₀ L h' (g (W.listOf (nones (q + its2.size)) n')) → Q .none { s with heap := h' }) :
    wpAny (model prog w) A (call (.builtin "list.extend") [.ref an, .ref b]) Q E s := by
  have hbb := N.get hb
  obtain ⟨pre, post, rfl, hg, h1, h2⟩ := U.split
  refine extend_in F N h1 h2 hbb (fun h' n' F' N' => h h' n' F' ?_) ?_
  · rw [hg]
    have e : (nones (q + its2.size)) = (List.replicate q Value.none ++ its2.toList).toArray := by
      have : its2.toList = List.replicate its2.size Value.none := by
        conv => lhs; rw [e2]
        simp [nones]
      rw [this]
      simp only [nones, List.replicate_append_replicate]
    rw [e]; exact N'
  · rw [List.length_replicate, sizeLine_eq]; omega
def bys (g : List Nat) : Array UInt8 := (g.map fun j => j.toUInt8).toArray
def chs (g : List Nat) : Str := ⟨(g.map fun j => 97 + j).toArray⟩
def lmin : List Nat → Nat
  | [] => 0
  | a :: r => r.foldl min a
structure Flds (c : Src) (g : List Nat) : Prop where
  pub : ∃ t, c.pub = .int (g.length : Int) t
  enc : ∃ t, c.enc = .int (lmin g : Int) t
  byt : ∃ t, c.byt = .bytes (bys g) t
  chr : ∃ t, c.chr = .str (chs g) t
theorem swap245 {p e1 e2 e3 e4 e5 e2' e4' e5' : Addr × Obj} {rest : List (Addr × Obj)} (h : p ∈ e1 :: e2 :: e3 :: e4 :: e5 :: rest) (h2 : p.1 ≠ e2.1) (h4 : p.1 ≠ e4.1) (h5 : p.1 ≠ e5.1) : p ∈ e1 :: e2' :: e3 :: e4' :: e5' :: rest := by
  simp only [List.mem_cons] at h ⊢
  rcases h with rfl | rfl | rfl | rfl | rfl | h
  · exact .inl rfl
  · exact absurd rfl h2
  · exact .inr (.inr (.inl rfl))
  · exact absurd rfl h4
  · exact absurd rfl h5
  · exact .inr (.inr (.inr (.inr (.inr h))))
/-- two sources have turned, and the answers -/
theorem has_two {w : World} {σ δ : Nat → Addr} {D D' : Nat → Src} {par par' : Nat → Nat} {an : Addr} {q r : Nat} {news news' : List (Addr × Obj)} {a b : Nat} (S : Sep σ δ) (H : Has w σ δ D par news) (dN : Dis news) (hA : (an, W.listOf (nones q) r) ∈ news) (ha : a < 8) (hb : b < 8)
    (keep : ∀ p ∈ news, p.1 ≠ δ a → p.1 ≠ δ b → p.1 ≠ an → p ∈ news') (h1 : (δ a, dic w (srcAt σ D' par' a)) ∈ news') (h2 : (δ b, dic w (srcAt σ D' par' b)) ∈ news') (oth : ∀ k, k < 8 → k ≠ a → k ≠ b → srcAt σ D' par' k = srcAt σ D par k) :
    Has w σ δ D' par' news' := by
  intro k hk
  have hh := H k hk
  refine ⟨keep _ hh.1 (dN _ _ _ _ hh.1 (H a ha).2 (by simp)) (dN _ _ _ _ hh.1 (H b hb).2 (by simp)) (dN _ _ _ _ hh.1 hA (by simp)), ?_⟩
  by_cases ea : k = a
  · rw [ea]; exact h1
  · by_cases eb : k = b
    · rw [eb]; exact h2
    · rw [oth k hk ea eb]
      exact keep _ hh.2 (fun e => ea (S.d _ _ hk ha e)) (fun e => eb (S.d _ _ hk hb e)) (dN _ _ _ _ hh.2 hA (by simp))
theorem foc5 {e1 e2 e3 e4 e5 : Addr × Obj} {news : List (Addr × Obj)} (h1 : e1 ∈ news) (h2 : e2 ∈ news) (h3 : e3 ∈ news) (h4 : e4 ∈ news) (h5 : e5 ∈ news) : ∀ p ∈ [e1, e2, e3, e4, e5], p ∈ news := by
  intro p hp; simp only [List.mem_cons, List.not_mem_nil, or_false] at hp
  rcases hp with rfl | rfl | rfl | rfl | rfl <;> assumption
theorem foc3 {e1 e2 e3 : Addr × Obj} {news : List (Addr × Obj)} (h1 : e1 ∈ news) (h2 : e2 ∈ news) (h3 : e3 ∈ news) : ∀ p ∈ [e1, e2, e3], p ∈ news := by
  intro p hp; simp only [List.mem_cons, List.not_mem_nil, or_false] at hp
  rcases hp with rfl | rfl | rfl <;> assumption
theorem keep245 {h₀ h : Heap} {L : Addr} {news rest : List (Addr × Obj)} {g e1 e2 e3 e4 e5 e2' e4' e5' : Addr × Obj} (sub : ∀ p ∈ news, p ∈ e1 :: e2 :: e3 :: e4 :: e5 :: rest) (_N : News h₀ L h (g :: e1 :: e2' :: e3 :: e4' :: e5' :: rest)) :
    ∀ p ∈ news, p.1 ≠ e2.1 → p.1 ≠ e4.1 → p.1 ≠ e5.1 → p ∈ g :: e1 :: e2' :: e3 :: e4' :: e5' :: rest := fun p hp h2 h4 h5 => .tail _ (swap245 (sub p hp) h2 h4 h5)
theorem news_third {h₀ h : Heap} {L : Addr} {g e1 e2 : Addr × Obj} {rest : List (Addr × Obj)} (_N : News h₀ L h (g :: e1 :: e2 :: rest)) : e2 ∈ g :: e1 :: e2 :: rest := .tail _ (.tail _ (.head _))
theorem news_second {h₀ h : Heap} {L : Addr} {g e1 : Addr × Obj} {rest : List (Addr × Obj)} (_N : News h₀ L h (g :: e1 :: rest)) : e1 ∈ g :: e1 :: rest := .tail _ (.head _)
theorem keep25 {h₀ h : Heap} {L : Addr} {news rest : List (Addr × Obj)} {e1 e2 e3 e4 e5 e2' e5' : Addr × Obj} (sub : ∀ p ∈ news, p ∈ e1 :: e2 :: e3 :: e4 :: e5 :: rest) (_N : News h₀ L h (e1 :: e2' :: e3 :: e4 :: e5' :: rest)) :
    ∀ p ∈ news, p.1 ≠ e2.1 → p.1 ≠ e5.1 → p ∈ e1 :: e2' :: e3 :: e4 :: e5' :: rest := fun p hp h2 h5 => swap25 (sub p hp) h2 h5
theorem len_made {prog : Program} {w : World} {A : Around} {E : Value → Shared → Prop} {s : Shared} {h₀ : Heap} {L l : Addr} {news : List (Addr × Obj)} {vs : List Value} {c : Nat} {Q : Value → Shared → Prop} (N : News h₀ L s.heap news) (h1 : (l, W.listOf vs.toArray c) ∈ news) (hz : vs.length ≤ sizeLine)
    (h : ∀ t k, Q (.int (vs.length : Int) t) { s with toks := k }) : wpAny (model prog w) A (call (.builtin "len") [.ref l]) Q E s :=
  len_list ⟨_, N.get h1, rfl, c, rfl⟩ (by rw [sizeLine_eq] at hz; simp only [List.size_toArray]; omega) (by simpa using h _ _)
theorem swap12 {p e1 e2 e1' e2' : Addr × Obj} {rest : List (Addr × Obj)} (h : p ∈ e1 :: e2 :: rest) (h1 : p.1 ≠ e1.1) (h2 : p.1 ≠ e2.1) : p ∈ e1' :: e2' :: rest := by
  rcases List.mem_cons.mp h with rfl | h
  · exact absurd rfl h1
  · rcases List.mem_cons.mp h with rfl | h
    · exact absurd rfl h2
    · exact .tail _ (.tail _ h)
theorem keep12 {h₀ h : Heap} {L : Addr} {news rest : List (Addr × Obj)} {e1 e2 e1' e2' : Addr × Obj} (sub : ∀ p ∈ news, p ∈ e1 :: e2 :: rest) (_N : News h₀ L h (e1' :: e2' :: rest)) :
    ∀ p ∈ news, p.1 ≠ e1.1 → p.1 ≠ e2.1 → p ∈ e1' :: e2' :: rest := fun p hp h1 h2 => swap12 (sub p hp) h1 h2
theorem news_drop2 {h₀ h : Heap} {L : Addr} {g1 g2 : Addr × Obj} {r : List (Addr × Obj)} (N : News h₀ L h (g1 :: g2 :: r)) : News h₀ L h r := fun p hp => N p (.tail _ (.tail _ hp))
theorem news_drop1 {h₀ h : Heap} {L : Addr} {g1 : Addr × Obj} {r : List (Addr × Obj)} (N : News h₀ L h (g1 :: r)) : News h₀ L h r := fun p hp => N p (.tail _ hp)
/-- a turn's ledger without its walker -/
def offI (I : Addr) (led : List (Addr × Obj)) : List (Addr × Obj) := led.filter fun p => !(p.1 == I)
theorem mem_offI {I : Addr} {led : List (Addr × Obj)} {p : Addr × Obj} (h : p ∈ led) (hne : p.1 ≠ I) : p ∈ offI I led := List.mem_filter.mpr ⟨h, by simpa using hne⟩
theorem offI_ne {I : Addr} {led : List (Addr × Obj)} : ∀ p ∈ offI I led, p.1 ≠ I := fun p hp => by simpa using (List.mem_filter.mp hp).2
theorem news_offI {h₀ h : Heap} {L I : Addr} {oI : Obj} {led : List (Addr × Obj)} (N : News h₀ L h led) (hI : (I, oI) ∈ led) : News h₀ L h ((I, oI) :: offI I led) := fun p hp => by
  rcases List.mem_cons.mp hp with rfl | hp
  · exact N _ hI
  · exact N p (List.mem_filter.mp hp).1
theorem swap23 {p g e1 e2 e3 e2' e3' : Addr × Obj} {rest : List (Addr × Obj)} (h : p ∈ e1 :: e2 :: e3 :: rest) (h2 : p.1 ≠ e2.1) (h3 : p.1 ≠ e3.1) : p ∈ g :: e1 :: e2' :: e3' :: rest := by
  simp only [List.mem_cons] at h ⊢
  rcases h with rfl | rfl | rfl | h
  · exact .inr (.inl rfl)
  · exact absurd rfl h2
  · exact absurd rfl h3
  · exact .inr (.inr (.inr (.inr h)))
theorem keep23 {h₀ h : Heap} {L : Addr} {news rest : List (Addr × Obj)} {g e1 e2 e3 e2' e3' : Addr × Obj} (sub : ∀ p ∈ news, p ∈ e1 :: e2 :: e3 :: rest) (_N : News h₀ L h (g :: e1 :: e2' :: e3' :: rest)) :
    ∀ p ∈ news, p.1 ≠ e2.1 → p.1 ≠ e3.1 → p ∈ g :: e1 :: e2' :: e3' :: rest := fun p hp h2 h3 => swap23 (sub p hp) h2 h3
theorem src_self {c : Src} {v : Value} (h : c.sys = v) : { c with sys := v } = c := by cases c; simp only at h; subst h; rfl
theorem ap_cellW {w : World} {a an : Addr} {o : Obj} {v : Option Value} {δ : Nat → Addr} {C : Nat → Src} {q r : Nat} {news : List (Addr × Obj)} (N : Dis news) (H : ∀ j, j < 8 → (δ j, dic w (C j)) ∈ news) (hA : (an, W.listOf (nones q) r) ∈ news) (hm : (a, o) ∈ news) (hd : o.data = .cell v) : Ap an δ a :=
  ⟨N _ _ _ _ hm hA (fun e => by rw [e] at hd; cases hd), fun j hj => N _ _ _ _ hm (H j hj) (fun e => by rw [e] at hd; cases hd)⟩
theorem off1_mem {D : Addr} : ∀ {l : List (Addr × Obj)}, LCg.Off1 D l → ∀ p ∈ l, @Ne Nat p.1 D
  | [], _, _, h => nomatch h
  | _ :: _, h, p, hp => by
    rcases List.mem_cons.mp hp with rfl | hp
    · exact h.1
    · exact off1_mem h.2 p hp
theorem sub_tail2 {h₀ h : Heap} {L : Addr} {g1 g2 : Addr × Obj} {r : List (Addr × Obj)} (_N : News h₀ L h (g1 :: g2 :: r)) : ∀ p ∈ r, p ∈ g1 :: g2 :: r := fun _ hp => .tail _ (.tail _ hp)
theorem Has.mono {w : World} {σ δ : Nat → Addr} {D : Nat → Src} {par : Nat → Nat} {news news' : List (Addr × Obj)} (H : Has w σ δ D par news) (h : ∀ p ∈ news, p ∈ news') : Has w σ δ D par news' := fun i hi => ⟨h _ (H i hi).1, h _ (H i hi).2⟩
end Mine
end

-- part 6
section
open PySem PySem.W PySem.Calls PyProof.Rows PyProof.V PySem.Spec
set_option Elab.async false
set_option maxRecDepth 100000
namespace Mine
section
set_option maxHeartbeats 4000000
local macro_rules | `(tactic| k_mem) => `(tactic| ((show Membership.mem (γ := List (Addr × Obj)) _ _); with_reducible assumption))
local macro_rules | `(tactic| walk_at "call ref") => `(tactic| (k_here; (with_reducible show wpAny _ _ (call (Value.ref 57) _ _) _ _ _); k_dflt (refine' getSys ?k1 ?k2 ?k3 ?k4 ?k5 ?k6 ?k7 ?k8 ?k9 ?k10 ?_; (case k1 => k_asm); (case k2 => k_asm); (case k3 => k_asm); (case k4 => k_asm); (case k5 => k_asm); (case k6 => first | exact rfl | assumption); (case k7 => ktr_room); (case k8 => k_mem); (case k9 => k_mem); (case k10 => first | k_handed | assumption); k_whole); intro h' tk' F' N'; (try dsimp only); (try k_sweep); walk_say "CONTRACT getSys"))
local macro_rules | `(tactic| walk_at "call ref") => `(tactic| (k_here; (with_reducible show wpAny _ _ (call (Value.ref 43) _ _) _ _ _); k_dflt (refine' getPub ?k1 ?k2 ?k3 ?k4 ?k5 ?k6 ?k7 ?k8 ?k9 ?k10 ?_; (case k1 => k_asm); (case k2 => k_asm); (case k3 => k_asm); (case k4 => k_asm); (case k5 => k_asm); (case k6 => first | exact rfl | assumption); (case k7 => ktr_room); (case k8 => k_mem); (case k9 => k_mem); (case k10 => first | k_handed | assumption); k_whole); intro h' tk' F' N'; (try dsimp only); (try k_sweep); walk_say "CONTRACT getPub"))
local macro_rules | `(tactic| walk_at "call ref") => `(tactic| (k_here; (with_reducible show wpAny _ _ (call (Value.ref 71) _ _) _ _ _); k_dflt (refine' getEnc ?k1 ?k2 ?k3 ?k4 ?k5 ?k6 ?k7 ?k8 ?k9 ?k10 ?_; (case k1 => k_asm); (case k2 => k_asm); (case k3 => k_asm); (case k4 => k_asm); (case k5 => k_asm); (case k6 => first | exact rfl | assumption); (case k7 => ktr_room); (case k8 => k_mem); (case k9 => k_mem); (case k10 => first | k_handed | assumption); k_whole); intro h' tk' F' N'; (try dsimp only); (try k_sweep); walk_say "CONTRACT getEnc"))
local macro_rules | `(tactic| walk_at "call ref") => `(tactic| (k_here; (with_reducible show wpAny _ _ (call (Value.ref 85) _ _) _ _ _); k_dflt (refine' getByt ?k1 ?k2 ?k3 ?k4 ?k5 ?k6 ?k7 ?k8 ?k9 ?k10 ?_; (case k1 => k_asm); (case k2 => k_asm); (case k3 => k_asm); (case k4 => k_asm); (case k5 => k_asm); (case k6 => first | exact rfl | assumption); (case k7 => ktr_room); (case k8 => k_mem); (case k9 => k_mem); (case k10 => first | k_handed | assumption); k_whole); intro h' tk' F' N'; (try dsimp only); (try k_sweep); walk_say "CONTRACT getByt"))
local macro_rules | `(tactic| walk_at "call ref") => `(tactic| (k_here; (with_reducible show wpAny _ _ (call (Value.ref 99) _ _) _ _ _); k_dflt (refine' getChr ?k1 ?k2 ?k3 ?k4 ?k5 ?k6 ?k7 ?k8 ?k9 ?k10 ?_; (case k1 => k_asm); (case k2 => k_asm); (case k3 => k_asm); (case k4 => k_asm); (case k5 => k_asm); (case k6 => first | exact rfl | assumption); (case k7 => ktr_room); (case k8 => k_mem); (case k9 => k_mem); (case k10 => first | k_handed | assumption); k_whole); intro h' tk' F' N'; (try dsimp only); (try k_sweep); walk_say "CONTRACT getChr"))
local macro_rules | `(tactic| walk_at "call ref") => `(tactic| (k_here; (with_reducible show wpAny _ _ (call (Value.ref 50) _ _) _ _ _); k_dflt (refine' setSys ?k1 ?k2 ?k3 ?k4 ?k5 ?k6 ?k7 ?k8 ?k9 ?k10 ?_; (case k1 => k_asm); (case k2 => k_asm); (case k3 => k_asm); (case k4 => k_asm); (case k5 => k_asm); (case k6 => first | exact rfl | assumption); (case k7 => ktr_room); (case k8 => k_mem); (case k9 => k_mem); (case k10 => k_upd); k_whole); intro h' tk' F' N'; (try dsimp only); (try k_sweep); walk_say "CONTRACT setSys"))
local macro_rules | `(tactic| walk_at "call ref") => `(tactic| (k_here; (with_reducible show wpAny _ _ (call (Value.ref 36) _ _) _ _ _); k_dflt (refine' setPub ?k1 ?k2 ?k3 ?k4 ?k5 ?k6 ?k7 ?k8 ?k9 ?k10 ?_; (case k1 => k_asm); (case k2 => k_asm); (case k3 => k_asm); (case k4 => k_asm); (case k5 => k_asm); (case k6 => first | exact rfl | assumption); (case k7 => ktr_room); (case k8 => k_mem); (case k9 => k_mem); (case k10 => k_upd); k_whole); intro h' tk' F' N'; (try dsimp only); (try k_sweep); walk_say "CONTRACT setPub"))
local macro_rules | `(tactic| walk_at "call ref") => `(tactic| (k_here; (with_reducible show wpAny _ _ (call (Value.ref 64) _ _) _ _ _); k_dflt (refine' setEnc ?k1 ?k2 ?k3 ?k4 ?k5 ?k6 ?k7 ?k8 ?k9 ?k10 ?_; (case k1 => k_asm); (case k2 => k_asm); (case k3 => k_asm); (case k4 => k_asm); (case k5 => k_asm); (case k6 => first | exact rfl | assumption); (case k7 => ktr_room); (case k8 => k_mem); (case k9 => k_mem); (case k10 => k_upd); k_whole); intro h' tk' F' N'; (try dsimp only); (try k_sweep); walk_say "CONTRACT setEnc"))
local macro_rules | `(tactic| walk_at "call ref") => `(tactic| (k_here; (with_reducible show wpAny _ _ (call (Value.ref 78) _ _) _ _ _); k_dflt (refine' setByt ?k1 ?k2 ?k3 ?k4 ?k5 ?k6 ?k7 ?k8 ?k9 ?k10 ?_; (case k1 => k_asm); (case k2 => k_asm); (case k3 => k_asm); (case k4 => k_asm); (case k5 => k_asm); (case k6 => first | exact rfl | assumption); (case k7 => ktr_room); (case k8 => k_mem); (case k9 => k_mem); (case k10 => k_upd); k_whole); intro h' tk' F' N'; (try dsimp only); (try k_sweep); walk_say "CONTRACT setByt"))
local macro_rules | `(tactic| walk_at "call ref") => `(tactic| (k_here; (with_reducible show wpAny _ _ (call (Value.ref 92) _ _) _ _ _); k_dflt (refine' setChr ?k1 ?k2 ?k3 ?k4 ?k5 ?k6 ?k7 ?k8 ?k9 ?k10 ?_; (case k1 => k_asm); (case k2 => k_asm); (case k3 => k_asm); (case k4 => k_asm); (case k5 => k_asm); (case k6 => first | exact rfl | assumption); (case k7 => ktr_room); (case k8 => k_mem); (case k9 => k_mem); (case k10 => k_upd); k_whole); intro h' tk' F' N'; (try dsimp only); (try k_sweep); walk_say "CONTRACT setChr"))
local macro_rules | `(tactic| walk_at "call builtin:list.append") => `(tactic| (k_here; (with_reducible show wpAny _ _ (call (Value.builtin _) [Value.ref _, Value.none]) _ _ _); k_dflt (refine' append_none ?k1 ?k2 ?k3 ?k4 ?_; (case k1 => k_asm); (case k2 => k_asm); (case k3 => k_upd); (case k4 => first | assumption | omega); k_whole); intro h' F' N'; (try dsimp only); (try k_sweep); walk_say "APPEND none"))

local macro_rules | `(tactic| walk_at "subscriptTail") => `(tactic| (k_here; (with_reducible show wpAny _ _ (subscriptTail _ _ (Value.ref _) (Value.int _ _)) _ _ _); (with_unfolding_all refine' item_src ?k1 ?k2 ?k3 ?k4 ?_ ?k6; (case k1 => k_asm); (case k2 => k_mem); (case k3 => first | assumption | omega); (case k4 => first | assumption | omega); (case k6 => with_unfolding_all rfl); k_whole); walk_say "ITEM src"))
local macro_rules | `(tactic| walk_at "eval ListComp") => `(tactic| (refine Halt.mk ?_))
local macro_rules | `(tactic| walk_at "call ref") => `(tactic| ((with_reducible show wpAny _ _ (call (Value.ref 113) _ _) _ _ _); refine Halt.mk ?_))
variable {w : World} {h₀ : Heap} {L fa : Addr} {cd : Value} {m : Str → Option Value} {news : List (Addr × Obj)} {s : Shared} {mean : ExcName → Option Value} {mg mb : Str → Option Value}
  {σ δ : Nat → Addr} {sl an gl fd : Addr} {Xs : List (Addr × Obj)} {D : Nat → Src} {par : Nat → Nat} {q : Nat} {hs : List Nat} {ha : Nat → Addr} {had : Nat → List Nat} {kvs : List (Int × Value)} {hf rank : Nat → Nat}

abbrev st1 : { x : Stmt // mainB.1[1]? = some x } := ⟨_, rfl⟩
theorem turn1 {Q : Flow → Shared → Prop} {E : Value → Shared → Prop} {u : Str → Option Value} {ox : Obj} {xv : Int} {xt : Tok} (B : Below callerA h₀ [] h₀) (F : Fr h₀ L s.heap (frm sl an gl fd u)) (X : (hd.heap_39 w.params).In h₀) (N : News h₀ L s.heap news) (T : Top hd.view_39 (looseW hd.view_39 []) mean mg mb h₀)
    (S : Sep σ δ) (I : FI par hf rank) (hq : q ≤ 90000) (M : LSt w σ δ sl an L Xs D par q gl fd hs ha had kvs news) (hx : (L + 1, ox) ∈ news) (hxv : ox.data = .cell (some (.int xv xt)))
    (ret : ∀ h' tk' u' news' par' q', Fr h₀ L h' (frm2 sl an gl fd (.ref (σ (hf (xv.fmod 8).toNat))) (.ref (σ (hf ((xv.fdiv 8).fmod 8).toNat))) u') → News h₀ L h' news' → FI par' hf rank → q' ≤ q + 14 →
      LSt w σ δ sl an L Xs D par' q' gl fd hs ha had kvs news' → (L + 1, ox) ∈ news' → Q .next { s with heap := h', toks := tk' }) :
    wpAny (model PySem.Challenge.rw_kn0108_01.row.prog w) (lawA L fa cd) (exec st1.1 (lawEnv L fa cd)) Q E s := by
  revert X; k_fill; intro X
  w_on
  dsimp only [st1, mainB, lawA, lawEnv, lawBS]
  have hx0 := fmod_lo xv (n := 8) (by decide)
  have hx8 := fmod_hi xv (n := 8) (by decide)
  have hy0 := fmod_lo (xv.fdiv 8) (n := 8) (by decide)
  have hy8 := fmod_hi (xv.fdiv 8) (n := 8) (by decide)
  obtain ⟨c1, hsl⟩ := M.src
  obtain ⟨r1, han⟩ := M.ans
  k_steps
  rename News _ _ _ _ => N1
  rename Fr _ _ _ _ => F1
  refine head B F1 X N1 T rfl (by decide) S M.has I (i := (xv.fmod 8).toNat) (by omega) han (by omega) ?_
  intro h2 tk2 news2 par2 q2 r2 F2 N2 H2 I2 han2 hq2 keep2
  have M2 := M.after (dis_of N1) H2 han2 keep2
  have apx := ap_cell (dis_of N1) M.has han hx hxv
  have hx2 := keep2 _ hx apx.1 apx.2
  obtain ⟨c2, hsl2⟩ := M2.src
  clear F1 N1 han hsl keep2 M hx
  k_steps
  rename News _ _ _ _ => N3
  rename Fr _ _ _ _ => F3
  refine head B F3 X N3 T rfl (by decide) S H2 I2 (i := ((xv.fdiv 8).fmod 8).toNat) (by omega) han2 (by omega) ?_
  intro h4 tk4 news4 par4 q4 r4 F4 N4 H4 I4 han4 hq4 keep4
  have M4 := M2.after (dis_of N3) H4 han4 keep4
  have apx2 := ap_cell (dis_of N3) H2 han2 hx2 hxv
  have hx4 := keep4 _ hx2 apx2.1 apx2.2
  clear F3 N3 han2 hsl2 keep4 M2 hx2
  k_steps
  rename News _ _ _ _ => N5
  rename Fr _ _ _ _ => F5
  exact ret _ _ u news4 par4 q4 F5 (fun p hp => N5 p (List.mem_cons_of_mem _ hp)) I4 (by omega) M4 hx4
end
end Mine
end

-- part 7
section
open PySem PySem.W PySem.Calls PyProof.Rows PyProof.V PySem.Spec
set_option Elab.async false
set_option maxRecDepth 100000
namespace Mine
section
open LCg LCt
variable {prog : Program} {w : World} {A : Around} {s : Shared} {h₀ : Heap} {L : Addr} {m : Str → Option Value} {env : Env} {news : List (Addr × Obj)}
theorem rest_filter {ct elt : Expr} {x : Str} {scope : Scope} {cl : List (Str × Addr)} {S : List (Addr × Obj) → Prop} {Fin : List Value → List (Addr × Obj) → Prop} {hs : List Nat} {ha : Nat → Addr} (p : Nat → Bool)
    (elem : ∀ h ∈ hs, ∀ (Kt Kf : Value → List (Addr × Obj) → Prop) (ys : List Value) (I : Addr) (oI : Obj) (C : Addr) (oC : Obj) (D : Addr) (m₂ : Str → Option Value) (g : Heap) (tk : Nat) (E' : Value → Shared → Prop), NsObj oC m₂ → m₂ x = some (.ref (ha h)) → Fr h₀ L g m → News h₀ L g ((I, oI) :: (C, oC) :: (D, lst ys) :: news) → Off3 I C D news → ((@Ne Nat I C) ∧ (@Ne Nat I D) ∧ (@Ne Nat C D)) →
      (p h = true → Kt (.ref (ha h)) news) → (p h = false → Kf .none news) →
      wpAny (model prog w) A (isTrue ct (compEnvC scope cl C env) (eval ct (compEnvC scope cl C env))) (fun ok s' => if ok = true then
        wpAny (model prog w) A (eval elt (compEnvC scope cl C env)) (CompEnd h₀ L m { s with heap := g, toks := tk } I oI C oC D (lst ys) S Kt) E' s'
        else CompEnd h₀ L m { s with heap := g, toks := tk } I oI C oC D (lst ys) S Kf Value.none s') E' { s with heap := g, toks := tk })
    (fin : Fin ((hs.filter p).map fun h => .ref (ha h)) news) :
    CompRestT prog w A h₀ L m env ct elt x scope cl s S (fun i v => (hs.map fun h => Value.ref (ha h)).toArray[i]? = some v) Fin hs.length 0 [] news := by
  have all : ∀ k i ys, i + k = hs.length → ys = ((hs.take i).filter p).map (fun h => Value.ref (ha h)) →
      CompRestT prog w A h₀ L m env ct elt x scope cl s S (fun i v => (hs.map fun h => Value.ref (ha h)).toArray[i]? = some v) Fin k i ys news := by
    intro k
    induction k with
    | zero =>
      intro i ys hi hy
      have : i = hs.length := by omega
      subst this
      rw [List.take_length] at hy
      subst hy
      exact .zero fin
    | succ k ih =>
      intro i ys hi hy
      refine .succ ?_
      intro v I oI C oC D m₂ g tk E' hv hC hm F N off ne
      have hlt : i < hs.length := by omega
      have hv' : v = .ref (ha hs[i]) := by
        simp only [List.getElem?_toArray, List.getElem?_map, List.getElem?_eq_getElem hlt, Option.map_some, Option.some.injEq] at hv
        exact hv.symm
      subst hv'
      have ht : hs.take (i + 1) = hs.take i ++ [hs[i]] := by rw [List.take_add_one, List.getElem?_eq_getElem hlt]; rfl
      refine elem hs[i] (List.getElem_mem hlt) _ _ ys I oI C oC D m₂ g tk E' hC hm F N off ne (fun e => ?_) (fun e => ?_)
      · refine ih (i + 1) _ (by omega) ?_
        rw [ht, List.filter_append, List.map_append, ← hy]
        simp [e]
      · refine ih (i + 1) _ (by omega) ?_
        rw [ht, List.filter_append, List.map_append, ← hy]
        simp [e]
  exact all hs.length 0 [] (Nat.zero_add _) (by simp)
end
section
set_option maxHeartbeats 4000000
local macro_rules | `(tactic| k_mem) => `(tactic| ((show Membership.mem (γ := List (Addr × Obj)) _ _); with_reducible assumption))
local macro_rules | `(tactic| walk_at "call ref") => `(tactic| (k_here; (with_reducible show wpAny _ _ (call (Value.ref 57) _ _) _ _ _); k_dflt (refine' getSys ?k1 ?k2 ?k3 ?k4 ?k5 ?k6 ?k7 ?k8 ?k9 ?k10 ?_; (case k1 => k_asm); (case k2 => k_asm); (case k3 => k_asm); (case k4 => k_asm); (case k5 => k_asm); (case k6 => first | exact rfl | assumption); (case k7 => ktr_room); (case k8 => k_mem); (case k9 => k_mem); (case k10 => first | k_handed | assumption); k_whole); intro h' tk' F' N'; (try dsimp only); (try k_sweep); walk_say "CONTRACT getSys"))
local macro_rules | `(tactic| walk_at "call ref") => `(tactic| (k_here; (with_reducible show wpAny _ _ (call (Value.ref 43) _ _) _ _ _); k_dflt (refine' getPub ?k1 ?k2 ?k3 ?k4 ?k5 ?k6 ?k7 ?k8 ?k9 ?k10 ?_; (case k1 => k_asm); (case k2 => k_asm); (case k3 => k_asm); (case k4 => k_asm); (case k5 => k_asm); (case k6 => first | exact rfl | assumption); (case k7 => ktr_room); (case k8 => k_mem); (case k9 => k_mem); (case k10 => first | k_handed | assumption); k_whole); intro h' tk' F' N'; (try dsimp only); (try k_sweep); walk_say "CONTRACT getPub"))
local macro_rules | `(tactic| walk_at "call ref") => `(tactic| (k_here; (with_reducible show wpAny _ _ (call (Value.ref 71) _ _) _ _ _); k_dflt (refine' getEnc ?k1 ?k2 ?k3 ?k4 ?k5 ?k6 ?k7 ?k8 ?k9 ?k10 ?_; (case k1 => k_asm); (case k2 => k_asm); (case k3 => k_asm); (case k4 => k_asm); (case k5 => k_asm); (case k6 => first | exact rfl | assumption); (case k7 => ktr_room); (case k8 => k_mem); (case k9 => k_mem); (case k10 => first | k_handed | assumption); k_whole); intro h' tk' F' N'; (try dsimp only); (try k_sweep); walk_say "CONTRACT getEnc"))
local macro_rules | `(tactic| walk_at "call ref") => `(tactic| (k_here; (with_reducible show wpAny _ _ (call (Value.ref 85) _ _) _ _ _); k_dflt (refine' getByt ?k1 ?k2 ?k3 ?k4 ?k5 ?k6 ?k7 ?k8 ?k9 ?k10 ?_; (case k1 => k_asm); (case k2 => k_asm); (case k3 => k_asm); (case k4 => k_asm); (case k5 => k_asm); (case k6 => first | exact rfl | assumption); (case k7 => ktr_room); (case k8 => k_mem); (case k9 => k_mem); (case k10 => first | k_handed | assumption); k_whole); intro h' tk' F' N'; (try dsimp only); (try k_sweep); walk_say "CONTRACT getByt"))
local macro_rules | `(tactic| walk_at "call ref") => `(tactic| (k_here; (with_reducible show wpAny _ _ (call (Value.ref 99) _ _) _ _ _); k_dflt (refine' getChr ?k1 ?k2 ?k3 ?k4 ?k5 ?k6 ?k7 ?k8 ?k9 ?k10 ?_; (case k1 => k_asm); (case k2 => k_asm); (case k3 => k_asm); (case k4 => k_asm); (case k5 => k_asm); (case k6 => first | exact rfl | assumption); (case k7 => ktr_room); (case k8 => k_mem); (case k9 => k_mem); (case k10 => first | k_handed | assumption); k_whole); intro h' tk' F' N'; (try dsimp only); (try k_sweep); walk_say "CONTRACT getChr"))
local macro_rules | `(tactic| walk_at "call ref") => `(tactic| (k_here; (with_reducible show wpAny _ _ (call (Value.ref 50) _ _) _ _ _); k_dflt (refine' setSys ?k1 ?k2 ?k3 ?k4 ?k5 ?k6 ?k7 ?k8 ?k9 ?k10 ?_; (case k1 => k_asm); (case k2 => k_asm); (case k3 => k_asm); (case k4 => k_asm); (case k5 => k_asm); (case k6 => first | exact rfl | assumption); (case k7 => ktr_room); (case k8 => k_mem); (case k9 => k_mem); (case k10 => k_upd); k_whole); intro h' tk' F' N'; (try dsimp only); (try k_sweep); walk_say "CONTRACT setSys"))
local macro_rules | `(tactic| walk_at "call ref") => `(tactic| (k_here; (with_reducible show wpAny _ _ (call (Value.ref 36) _ _) _ _ _); k_dflt (refine' setPub ?k1 ?k2 ?k3 ?k4 ?k5 ?k6 ?k7 ?k8 ?k9 ?k10 ?_; (case k1 => k_asm); (case k2 => k_asm); (case k3 => k_asm); (case k4 => k_asm); (case k5 => k_asm); (case k6 => first | exact rfl | assumption); (case k7 => ktr_room); (case k8 => k_mem); (case k9 => k_mem); (case k10 => k_upd); k_whole); intro h' tk' F' N'; (try dsimp only); (try k_sweep); walk_say "CONTRACT setPub"))
local macro_rules | `(tactic| walk_at "call ref") => `(tactic| (k_here; (with_reducible show wpAny _ _ (call (Value.ref 64) _ _) _ _ _); k_dflt (refine' setEnc ?k1 ?k2 ?k3 ?k4 ?k5 ?k6 ?k7 ?k8 ?k9 ?k10 ?_; (case k1 => k_asm); (case k2 => k_asm); (case k3 => k_asm); (case k4 => k_asm); (case k5 => k_asm); (case k6 => first | exact rfl | assumption); (case k7 => ktr_room); (case k8 => k_mem); (case k9 => k_mem); (case k10 => k_upd); k_whole); intro h' tk' F' N'; (try dsimp only); (try k_sweep); walk_say "CONTRACT setEnc"))
local macro_rules | `(tactic| walk_at "call ref") => `(tactic| (k_here; (with_reducible show wpAny _ _ (call (Value.ref 78) _ _) _ _ _); k_dflt (refine' setByt ?k1 ?k2 ?k3 ?k4 ?k5 ?k6 ?k7 ?k8 ?k9 ?k10 ?_; (case k1 => k_asm); (case k2 => k_asm); (case k3 => k_asm); (case k4 => k_asm); (case k5 => k_asm); (case k6 => first | exact rfl | assumption); (case k7 => ktr_room); (case k8 => k_mem); (case k9 => k_mem); (case k10 => k_upd); k_whole); intro h' tk' F' N'; (try dsimp only); (try k_sweep); walk_say "CONTRACT setByt"))
local macro_rules | `(tactic| walk_at "call ref") => `(tactic| (k_here; (with_reducible show wpAny _ _ (call (Value.ref 92) _ _) _ _ _); k_dflt (refine' setChr ?k1 ?k2 ?k3 ?k4 ?k5 ?k6 ?k7 ?k8 ?k9 ?k10 ?_; (case k1 => k_asm); (case k2 => k_asm); (case k3 => k_asm); (case k4 => k_asm); (case k5 => k_asm); (case k6 => first | exact rfl | assumption); (case k7 => ktr_room); (case k8 => k_mem); (case k9 => k_mem); (case k10 => k_upd); k_whole); intro h' tk' F' N'; (try dsimp only); (try k_sweep); walk_say "CONTRACT setChr"))
local macro_rules | `(tactic| walk_at "call builtin:list.append") => `(tactic| (k_here; (with_reducible show wpAny _ _ (call (Value.builtin _) [Value.ref _, Value.none]) _ _ _); k_dflt (refine' append_none ?k1 ?k2 ?k3 ?k4 ?_; (case k1 => k_asm); (case k2 => k_asm); (case k3 => k_upd); (case k4 => first | assumption | omega); k_whole); intro h' F' N'; (try dsimp only); (try k_sweep); walk_say "APPEND none"))

local macro_rules | `(tactic| walk_at "compareOp In int ref") => `(tactic| (k_here; k_dflt (refine' in_ints ?k1 ?k2 ?k3 ?_; (case k1 => k_asm); (case k2 => k_mem); (case k3 => k_asm); k_whole); walk_say "IN ints"))
local macro_rules | `(tactic| walk_at "subscriptTail Name Constant ref int") => `(tactic| (k_here; (with_unfolding_all refine' item0 ?k1 ?k2 ?k3 ?_ ?k6; (case k1 => k_asm); (case k2 => k_mem); (case k3 => assumption); (case k6 => with_unfolding_all rfl); k_whole); walk_say "ITEM 0"))
local macro_rules | `(tactic| walk_at "eval ListComp") => `(tactic| (refine Halt.mk ?_))
local macro_rules | `(tactic| walk_at "CompSrcT") => `(tactic| (refine Halt.mk ?_))
variable {w : World} {h₀ : Heap} {L fa : Addr} {cd : Value} {m : Str → Option Value} {news : List (Addr × Obj)} {s : Shared} {mean : ExcName → Option Value} {mg mb : Str → Option Value}
  {σ δ : Nat → Addr} {sl an gl fd : Addr} {Xs : List (Addr × Obj)} {D : Nat → Src} {par : Nat → Nat} {q : Nat} {hs : List Nat} {ha : Nat → Addr} {had : Nat → List Nat} {kvs : List (Int × Value)} {hf rank : Nat → Nat} {v : Value}
abbrev st2 : { x : Stmt // mainB.1[2]? = some x } := ⟨_, rfl⟩
theorem turn2 {Q : Flow → Shared → Prop} {E : Value → Shared → Prop} {u : Str → Option Value} {ox : Obj} {xv : Int} {xt : Tok} {one two : Value} (B : Below callerA h₀ [] h₀) (F : Fr h₀ L s.heap (frm2 sl an gl fd one two u)) (X : (hd.heap_39 w.params).In h₀) (N : News h₀ L s.heap news) (T : Top hd.view_39 (looseW hd.view_39 []) mean mg mb h₀)
    (M : LSt w σ δ sl an L Xs D par q gl fd hs ha had kvs news) (hx : (L + 1, ox) ∈ news) (hxv : ox.data = .cell (some (.int xv xt)))
    (h8 : ∀ h ∈ hs, h < 8) (hl8 : hs.length ≤ 8) (hfl : ((hs.filter fun h => (had h).contains (xv.fmod 8).toNat).map fun h => Value.ref (ha h))[0]? = some v)
    (ret : ∀ h' tk' news' of', Fr h₀ L h' (frm2 sl an gl fd one two u) → News h₀ L h' news' → LSt w σ δ sl an L Xs D par q gl fd hs ha had kvs news' → (∀ p ∈ news, p.1 ≠ L + 1 + 1 → p ∈ news') → (L + 1 + 1, of') ∈ news' → of'.data = .cell (some v) → Q .next { s with heap := h', toks := tk' }) :
    wpAny (model PySem.Challenge.rw_kn0108_01.row.prog w) (lawA L fa cd) (exec st2.1 (lawEnv L fa cd)) Q E s := by
  revert X; k_fill; intro X
  w_on
  dsimp only [st2, mainB, lawA, lawEnv, lawBS]
  have hx0 := fmod_lo xv (n := 8) (by decide)
  have hx8 := fmod_hi xv (n := 8) (by decide)
  obtain ⟨c1, hgl⟩ := M.grp
  have dN := dis_of N
  k_steps
  refine LCt.ListComp_T (F₀ := F) (by with_unfolding_all rfl) (by decide) (by rfl) (by decide) (by rfl) ?_
  k_steps
  refine LCt.CompSrcT.ledger (by rfl) F N hgl (by rw [sizeLine_eq]; simp; omega) ?_
  intro g
  rw [show (hs.map fun h => Value.ref (ha h)).toArray.size = hs.length by simp]
  refine rest_filter (fun h => (had h).contains (xv.fmod 8).toNat) ?_ ?_
  · intro h hh Kt Kf ys I oI C oC D' m₂ g' tk' E' hC hm F2 N2 off ne ht hf'
    obtain ⟨vs, c2, hvs, hi⟩ := M.hads h (h8 h hh)
    have e := any_nat (had h) (xv.fmod 8).toNat
    rw [show (((xv.fmod 8).toNat : Nat) : Int) = xv.fmod 8 by omega] at e
    rw [← e] at ht hf'
    k_steps
    · exact ⟨_, _, news, rfl, F2, N2, off, .inr ⟨_, hgl, rfl, _, rfl⟩, ht (by assumption)⟩
    · exact ⟨_, _, news, rfl, F2, N2, off, .inr ⟨_, hgl, rfl, _, rfl⟩, hf' (by first | assumption | (simpa using (by assumption)))⟩
  · intro D2 g2 tk2 F2 N2 off2
    obtain ⟨of, vf, hcf, hdf⟩ := M.cf
    have hfl2 : (((hs.filter fun h => (had h).contains (xv.fmod 8).toNat).map fun h => Value.ref (ha h)).toArray)[0]? = some v := by rw [List.getElem?_toArray]; exact hfl
    have hf1 : ∀ p ∈ [(L + 1 + 1, of), (D2, LCg.lst ((hs.filter fun h => (had h).contains (xv.fmod 8).toNat).map fun h => Value.ref (ha h)))], p ∈ (D2, LCg.lst ((hs.filter fun h => (had h).contains (xv.fmod 8).toNat).map fun h => Value.ref (ha h))) :: news := by
      intro p hp; simp only [List.mem_cons, List.not_mem_nil, or_false] at hp; rcases hp with rfl | rfl
      · exact .tail _ hcf
      · exact .head _
    obtain ⟨N3, off3⟩ := focus _ N2 hf1
    have sub := sub_focus N2 hf1
    have nD : @Ne Nat D2 (L + 1 + 1) := addr_ne N2 (.head _) (.tail _ hcf) (fun e => by rw [← e] at hdf; cases hdf)
    simp only [List.cons_append, List.nil_append, List.map_cons, List.map_nil] at N3 off3 sub
    clear N2
    k_steps
    rename News _ _ _ _ => N5
    rename Fr _ _ _ _ => F5
    rename Obj.data _ = _ => d5
    have kp := kp_of sub (fun p hp => List.Mem.tail _ hp) N5
    obtain ⟨os, vs, hcs, hds⟩ := M.cs
    exact ret _ _ _ _ F5 N5 (M.cell dN hcf hdf kp ⟨ox, _, kp _ hx (show @Ne Nat (L + 1) (L + 1 + 1) by omega), hxv⟩ ⟨_, _, .head _, d5⟩ ⟨os, _, kp _ hcs (show @Ne Nat (L + 1 + 1 + 1) (L + 1 + 1) by omega), hds⟩)
      kp (.head _) d5
abbrev st3 : { x : Stmt // mainB.1[3]? = some x } := ⟨_, rfl⟩
theorem turn3 {Q : Flow → Shared → Prop} {E : Value → Shared → Prop} {u : Str → Option Value} {ox : Obj} {xv : Int} {xt : Tok} {one two : Value} (B : Below callerA h₀ [] h₀) (F : Fr h₀ L s.heap (frm2 sl an gl fd one two u)) (X : (hd.heap_39 w.params).In h₀) (N : News h₀ L s.heap news) (T : Top hd.view_39 (looseW hd.view_39 []) mean mg mb h₀)
    (M : LSt w σ δ sl an L Xs D par q gl fd hs ha had kvs news) (hx : (L + 1, ox) ∈ news) (hxv : ox.data = .cell (some (.int xv xt)))
    (h8 : ∀ h ∈ hs, h < 8) (hl8 : hs.length ≤ 8) (hfl : ((hs.filter fun h => (had h).contains ((xv.fdiv 8).fmod 8).toNat).map fun h => Value.ref (ha h))[0]? = some v)
    (ret : ∀ h' tk' news' of', Fr h₀ L h' (frm2 sl an gl fd one two u) → News h₀ L h' news' → LSt w σ δ sl an L Xs D par q gl fd hs ha had kvs news' → (∀ p ∈ news, p.1 ≠ L + 1 + 1 + 1 → p ∈ news') → (L + 1 + 1 + 1, of') ∈ news' → of'.data = .cell (some v) → Q .next { s with heap := h', toks := tk' }) :
    wpAny (model PySem.Challenge.rw_kn0108_01.row.prog w) (lawA L fa cd) (exec st3.1 (lawEnv L fa cd)) Q E s := by
  revert X; k_fill; intro X
  w_on
  dsimp only [st3, mainB, lawA, lawEnv, lawBS]
  have hx0 := fmod_lo (xv.fdiv 8) (n := 8) (by decide)
  have hx8 := fmod_hi (xv.fdiv 8) (n := 8) (by decide)
  obtain ⟨c1, hgl⟩ := M.grp
  have dN := dis_of N
  k_steps
  refine LCt.ListComp_T (F₀ := F) (by with_unfolding_all rfl) (by decide) (by rfl) (by decide) (by rfl) ?_
  k_steps
  refine LCt.CompSrcT.ledger (by rfl) F N hgl (by rw [sizeLine_eq]; simp; omega) ?_
  intro g
  rw [show (hs.map fun h => Value.ref (ha h)).toArray.size = hs.length by simp]
  refine rest_filter (fun h => (had h).contains ((xv.fdiv 8).fmod 8).toNat) ?_ ?_
  · intro h hh Kt Kf ys I oI C oC D' m₂ g' tk' E' hC hm F2 N2 off ne ht hf'
    obtain ⟨vs, c2, hvs, hi⟩ := M.hads h (h8 h hh)
    have e := any_nat (had h) ((xv.fdiv 8).fmod 8).toNat
    rw [show ((((xv.fdiv 8).fmod 8).toNat : Nat) : Int) = (xv.fdiv 8).fmod 8 by omega] at e
    rw [← e] at ht hf'
    k_steps
    · exact ⟨_, _, news, rfl, F2, N2, off, .inr ⟨_, hgl, rfl, _, rfl⟩, ht (by assumption)⟩
    · exact ⟨_, _, news, rfl, F2, N2, off, .inr ⟨_, hgl, rfl, _, rfl⟩, hf' (by first | assumption | (simpa using (by assumption)))⟩
  · intro D2 g2 tk2 F2 N2 off2
    obtain ⟨of, vf, hcf, hdf⟩ := M.cs
    have hfl2 : (((hs.filter fun h => (had h).contains ((xv.fdiv 8).fmod 8).toNat).map fun h => Value.ref (ha h)).toArray)[0]? = some v := by rw [List.getElem?_toArray]; exact hfl
    have hf1 : ∀ p ∈ [(L + 1 + 1 + 1, of), (D2, LCg.lst ((hs.filter fun h => (had h).contains ((xv.fdiv 8).fmod 8).toNat).map fun h => Value.ref (ha h)))], p ∈ (D2, LCg.lst ((hs.filter fun h => (had h).contains ((xv.fdiv 8).fmod 8).toNat).map fun h => Value.ref (ha h))) :: news := by
      intro p hp; simp only [List.mem_cons, List.not_mem_nil, or_false] at hp; rcases hp with rfl | rfl
      · exact .tail _ hcf
      · exact .head _
    obtain ⟨N3, off3⟩ := focus _ N2 hf1
    have sub := sub_focus N2 hf1
    have nD : @Ne Nat D2 (L + 1 + 1 + 1) := addr_ne N2 (.head _) (.tail _ hcf) (fun e => by rw [← e] at hdf; cases hdf)
    simp only [List.cons_append, List.nil_append, List.map_cons, List.map_nil] at N3 off3 sub
    clear N2
    k_steps
    rename News _ _ _ _ => N5
    rename Fr _ _ _ _ => F5
    rename Obj.data _ = _ => d5
    have kp := kp_of sub (fun p hp => List.Mem.tail _ hp) N5
    obtain ⟨os, vs, hcs, hds⟩ := M.cf
    exact ret _ _ _ _ F5 N5 (M.cell dN hcf hdf kp ⟨ox, _, kp _ hx (show @Ne Nat (L + 1) (L + 1 + 1 + 1) by omega), hxv⟩ ⟨os, _, kp _ hcs (show @Ne Nat (L + 1 + 1) (L + 1 + 1 + 1) by omega), hds⟩ ⟨_, _, .head _, d5⟩)
      kp (.head _) d5
end
end Mine
end

-- part 8
section
open PySem PySem.W PySem.Calls PyProof.Rows PyProof.V PySem.Spec
set_option Elab.async false
set_option maxRecDepth 100000
namespace Mine
section
set_option maxHeartbeats 4000000
local macro_rules | `(tactic| k_mem) => `(tactic| ((show Membership.mem (γ := List (Addr × Obj)) _ _); with_reducible assumption))
local macro_rules | `(tactic| walk_at "call ref") => `(tactic| (k_here; (with_reducible show wpAny _ _ (call (Value.ref 57) _ _) _ _ _); k_dflt (refine' getSys ?k1 ?k2 ?k3 ?k4 ?k5 ?k6 ?k7 ?k8 ?k9 ?k10 ?_; (case k1 => k_asm); (case k2 => k_asm); (case k3 => k_asm); (case k4 => k_asm); (case k5 => k_asm); (case k6 => first | exact rfl | assumption); (case k7 => ktr_room); (case k8 => k_mem); (case k9 => k_mem); (case k10 => first | k_handed | assumption); k_whole); intro h' tk' F' N'; (try dsimp only); (try k_sweep); walk_say "CONTRACT getSys"))
local macro_rules | `(tactic| walk_at "call ref") => `(tactic| (k_here; (with_reducible show wpAny _ _ (call (Value.ref 43) _ _) _ _ _); k_dflt (refine' getPub ?k1 ?k2 ?k3 ?k4 ?k5 ?k6 ?k7 ?k8 ?k9 ?k10 ?_; (case k1 => k_asm); (case k2 => k_asm); (case k3 => k_asm); (case k4 => k_asm); (case k5 => k_asm); (case k6 => first | exact rfl | assumption); (case k7 => ktr_room); (case k8 => k_mem); (case k9 => k_mem); (case k10 => first | k_handed | assumption); k_whole); intro h' tk' F' N'; (try dsimp only); (try k_sweep); walk_say "CONTRACT getPub"))
local macro_rules | `(tactic| walk_at "call ref") => `(tactic| (k_here; (with_reducible show wpAny _ _ (call (Value.ref 71) _ _) _ _ _); k_dflt (refine' getEnc ?k1 ?k2 ?k3 ?k4 ?k5 ?k6 ?k7 ?k8 ?k9 ?k10 ?_; (case k1 => k_asm); (case k2 => k_asm); (case k3 => k_asm); (case k4 => k_asm); (case k5 => k_asm); (case k6 => first | exact rfl | assumption); (case k7 => ktr_room); (case k8 => k_mem); (case k9 => k_mem); (case k10 => first | k_handed | assumption); k_whole); intro h' tk' F' N'; (try dsimp only); (try k_sweep); walk_say "CONTRACT getEnc"))
local macro_rules | `(tactic| walk_at "call ref") => `(tactic| (k_here; (with_reducible show wpAny _ _ (call (Value.ref 85) _ _) _ _ _); k_dflt (refine' getByt ?k1 ?k2 ?k3 ?k4 ?k5 ?k6 ?k7 ?k8 ?k9 ?k10 ?_; (case k1 => k_asm); (case k2 => k_asm); (case k3 => k_asm); (case k4 => k_asm); (case k5 => k_asm); (case k6 => first | exact rfl | assumption); (case k7 => ktr_room); (case k8 => k_mem); (case k9 => k_mem); (case k10 => first | k_handed | assumption); k_whole); intro h' tk' F' N'; (try dsimp only); (try k_sweep); walk_say "CONTRACT getByt"))
local macro_rules | `(tactic| walk_at "call ref") => `(tactic| (k_here; (with_reducible show wpAny _ _ (call (Value.ref 99) _ _) _ _ _); k_dflt (refine' getChr ?k1 ?k2 ?k3 ?k4 ?k5 ?k6 ?k7 ?k8 ?k9 ?k10 ?_; (case k1 => k_asm); (case k2 => k_asm); (case k3 => k_asm); (case k4 => k_asm); (case k5 => k_asm); (case k6 => first | exact rfl | assumption); (case k7 => ktr_room); (case k8 => k_mem); (case k9 => k_mem); (case k10 => first | k_handed | assumption); k_whole); intro h' tk' F' N'; (try dsimp only); (try k_sweep); walk_say "CONTRACT getChr"))
local macro_rules | `(tactic| walk_at "call ref") => `(tactic| (k_here; (with_reducible show wpAny _ _ (call (Value.ref 50) _ _) _ _ _); k_dflt (refine' setSys ?k1 ?k2 ?k3 ?k4 ?k5 ?k6 ?k7 ?k8 ?k9 ?k10 ?_; (case k1 => k_asm); (case k2 => k_asm); (case k3 => k_asm); (case k4 => k_asm); (case k5 => k_asm); (case k6 => first | exact rfl | assumption); (case k7 => ktr_room); (case k8 => k_mem); (case k9 => k_mem); (case k10 => k_upd); k_whole); intro h' tk' F' N'; (try dsimp only); (try k_sweep); walk_say "CONTRACT setSys"))
local macro_rules | `(tactic| walk_at "call ref") => `(tactic| (k_here; (with_reducible show wpAny _ _ (call (Value.ref 36) _ _) _ _ _); k_dflt (refine' setPub ?k1 ?k2 ?k3 ?k4 ?k5 ?k6 ?k7 ?k8 ?k9 ?k10 ?_; (case k1 => k_asm); (case k2 => k_asm); (case k3 => k_asm); (case k4 => k_asm); (case k5 => k_asm); (case k6 => first | exact rfl | assumption); (case k7 => ktr_room); (case k8 => k_mem); (case k9 => k_mem); (case k10 => k_upd); k_whole); intro h' tk' F' N'; (try dsimp only); (try k_sweep); walk_say "CONTRACT setPub"))
local macro_rules | `(tactic| walk_at "call ref") => `(tactic| (k_here; (with_reducible show wpAny _ _ (call (Value.ref 64) _ _) _ _ _); k_dflt (refine' setEnc ?k1 ?k2 ?k3 ?k4 ?k5 ?k6 ?k7 ?k8 ?k9 ?k10 ?_; (case k1 => k_asm); (case k2 => k_asm); (case k3 => k_asm); (case k4 => k_asm); (case k5 => k_asm); (case k6 => first | exact rfl | assumption); (case k7 => ktr_room); (case k8 => k_mem); (case k9 => k_mem); (case k10 => k_upd); k_whole); intro h' tk' F' N'; (try dsimp only); (try k_sweep); walk_say "CONTRACT setEnc"))
local macro_rules | `(tactic| walk_at "call ref") => `(tactic| (k_here; (with_reducible show wpAny _ _ (call (Value.ref 78) _ _) _ _ _); k_dflt (refine' setByt ?k1 ?k2 ?k3 ?k4 ?k5 ?k6 ?k7 ?k8 ?k9 ?k10 ?_; (case k1 => k_asm); (case k2 => k_asm); (case k3 => k_asm); (case k4 => k_asm); (case k5 => k_asm); (case k6 => first | exact rfl | assumption); (case k7 => ktr_room); (case k8 => k_mem); (case k9 => k_mem); (case k10 => k_upd); k_whole); intro h' tk' F' N'; (try dsimp only); (try k_sweep); walk_say "CONTRACT setByt"))
local macro_rules | `(tactic| walk_at "call ref") => `(tactic| (k_here; (with_reducible show wpAny _ _ (call (Value.ref 92) _ _) _ _ _); k_dflt (refine' setChr ?k1 ?k2 ?k3 ?k4 ?k5 ?k6 ?k7 ?k8 ?k9 ?k10 ?_; (case k1 => k_asm); (case k2 => k_asm); (case k3 => k_asm); (case k4 => k_asm); (case k5 => k_asm); (case k6 => first | exact rfl | assumption); (case k7 => ktr_room); (case k8 => k_mem); (case k9 => k_mem); (case k10 => k_upd); k_whole); intro h' tk' F' N'; (try dsimp only); (try k_sweep); walk_say "CONTRACT setChr"))
local macro_rules | `(tactic| walk_at "call builtin:list.append") => `(tactic| (k_here; (with_reducible show wpAny _ _ (call (Value.builtin _) [Value.ref _, Value.none]) _ _ _); k_dflt (refine' append_none ?k1 ?k2 ?k3 ?k4 ?_; (case k1 => k_asm); (case k2 => k_asm); (case k3 => k_upd); (case k4 => first | assumption | omega); k_whole); intro h' F' N'; (try dsimp only); (try k_sweep); walk_say "APPEND none"))
local macro_rules | `(tactic| walk_at "call builtin:list.extend") => `(tactic| (k_here; (with_reducible show wpAny _ _ (call (Value.builtin _) [Value.ref _, Value.ref _]) _ _ _); k_dflt (refine' extend_none ?k1 ?k2 ?k3 ?k4 ?k5 ?k6 ?_; (case k1 => k_asm); (case k2 => k_asm); (case k3 => k_updF); (case k4 => k_mem); (case k5 => rfl); (case k6 => first | assumption | omega | (show _ + 2 ≤ _; omega) | (show _ + 5 ≤ _; omega)); k_whole); intro h' n' F' N'; (try dsimp only at N'); (try k_sweep); walk_say "EXTEND none"))
local macro_rules | `(tactic| walk_at "compareOp In int ref") => `(tactic| (k_here; k_dflt (refine' in_ints ?k1 ?k2 ?k3 ?_; (case k1 => k_asm); (case k2 => k_mem); (case k3 => k_asm); k_whole); walk_say "IN ints"))
local macro_rules | `(tactic| walk_at "compareOp NotIn int ref") => `(tactic| (k_here; k_dflt (refine' notin_ints ?k1 ?k2 ?k3 ?_; (case k1 => k_asm); (case k2 => k_mem); (case k3 => k_asm); k_whole); walk_say "NOTIN ints"))
local macro_rules | `(tactic| walk_at "subscriptTail") => `(tactic| (k_here; (with_reducible show wpAny _ _ (subscriptTail _ _ (Value.ref _) (Value.int _ _)) _ _ _); (with_unfolding_all refine' item_src ?k1 ?k2 ?k3 ?k4 ?_ ?k6; (case k1 => k_asm); (case k2 => k_mem); (case k3 => first | assumption | omega); (case k4 => first | assumption | omega); (case k6 => with_unfolding_all rfl); k_whole); walk_say "ITEM src"))
local macro_rules | `(tactic| walk_at "subscriptTail Name Constant ref int") => `(tactic| (k_here; (with_unfolding_all refine' item0 ?k1 ?k2 ?k3 ?_ ?k6; (case k1 => k_asm); (case k2 => k_mem); (case k3 => assumption); (case k6 => with_unfolding_all rfl); k_whole); walk_say "ITEM 0"))

variable {w : World} {h₀ : Heap} {L fa : Addr} {cd : Value} {m : Str → Option Value} {news : List (Addr × Obj)} {s : Shared} {mean : ExcName → Option Value} {mg mb : Str → Option Value}
  {σ δ : Nat → Addr} {sl an gl fd : Addr} {Xs : List (Addr × Obj)} {D : Nat → Src} {par : Nat → Nat} {q : Nat} {hs : List Nat} {ha : Nat → Addr} {had : Nat → List Nat} {kvs : List (Int × Value)} {hf rank : Nat → Nat} {v : Value}
abbrev st4 : { x : Stmt // mainB.1[4]? = some x } := ⟨_, rfl⟩
theorem first_int {vs : List Value} {a : Nat} {ra : List Nat} (h : IntsAre vs ((a :: ra).map fun (k : Nat) => (k : Int))) : ∃ t, (vs.toArray)[0]? = some (.int (a : Int) t) := by
  obtain ⟨t, vs', e, _⟩ := IntsAre.cons_inv h
  exact ⟨t, by rw [e]; rfl⟩
theorem turn4 {Q : Flow → Shared → Prop} {E : Value → Shared → Prop} {u : Str → Option Value} {of os : Obj} {a b : Nat} {ra rb : List Nat} (B : Below callerA h₀ [] h₀) (F : Fr h₀ L s.heap (frm2 sl an gl fd (.ref (σ a)) (.ref (σ b)) u)) (X : (hd.heap_39 w.params).In h₀) (N : News h₀ L s.heap news) (T : Top hd.view_39 (looseW hd.view_39 []) mean mg mb h₀)
    (M : LSt w σ δ sl an L Xs D par q gl fd hs ha had kvs news) (hcf : (L + 1 + 1, of) ∈ news) (hdf : of.data = .cell (some (.ref (ha a)))) (hcs : (L + 1 + 1 + 1, os) ∈ news) (hds : os.data = .cell (some (.ref (ha b)))) (ha8 : a < 8) (hb8 : b < 8) (ea : had a = a :: ra) (eb : had b = b :: rb)
    (ret : ∀ h' tk', Fr h₀ L h' (frm2 sl an gl fd (.ref (σ a)) (.ref (σ b)) u) → News h₀ L h' news → Q .next { s with heap := h', toks := tk' }) :
    wpAny (model PySem.Challenge.rw_kn0108_01.row.prog w) (lawA L fa cd) (exec st4.1 (lawEnv L fa cd)) Q E s := by
  revert X; k_fill; intro X
  w_on
  dsimp only [st4, mainB, lawA, lawEnv, lawBS]
  obtain ⟨vsa, ca, hma, hia⟩ := M.hads a ha8
  obtain ⟨vsb, cb, hmb, hib⟩ := M.hads b hb8
  rw [ea] at hia
  rw [eb] at hib
  obtain ⟨ta, hta⟩ := first_int hia
  obtain ⟨tb, htb⟩ := first_int hib
  obtain ⟨c1, hsl⟩ := M.src
  k_steps
  exact ret _ _ F N
end
end Mine
end

-- part 9
section
open PySem PySem.W PySem.Calls PyProof.Rows PyProof.V PySem.Spec
set_option Elab.async false
set_option maxRecDepth 100000
namespace Mine
section
set_option maxHeartbeats 4000000
local macro_rules | `(tactic| k_mem) => `(tactic| ((show Membership.mem (γ := List (Addr × Obj)) _ _); with_reducible assumption))
local macro_rules | `(tactic| walk_at "call ref") => `(tactic| (k_here; (with_reducible show wpAny _ _ (call (Value.ref 57) _ _) _ _ _); k_dflt (refine' getSys ?k1 ?k2 ?k3 ?k4 ?k5 ?k6 ?k7 ?k8 ?k9 ?k10 ?_; (case k1 => k_asm); (case k2 => k_asm); (case k3 => k_asm); (case k4 => k_asm); (case k5 => k_asm); (case k6 => first | exact rfl | assumption); (case k7 => ktr_room); (case k8 => k_mem); (case k9 => k_mem); (case k10 => first | k_handed | assumption); k_whole); intro h' tk' F' N'; (try dsimp only); (try k_sweep); walk_say "CONTRACT getSys"))
local macro_rules | `(tactic| walk_at "call ref") => `(tactic| (k_here; (with_reducible show wpAny _ _ (call (Value.ref 43) _ _) _ _ _); k_dflt (refine' getPub ?k1 ?k2 ?k3 ?k4 ?k5 ?k6 ?k7 ?k8 ?k9 ?k10 ?_; (case k1 => k_asm); (case k2 => k_asm); (case k3 => k_asm); (case k4 => k_asm); (case k5 => k_asm); (case k6 => first | exact rfl | assumption); (case k7 => ktr_room); (case k8 => k_mem); (case k9 => k_mem); (case k10 => first | k_handed | assumption); k_whole); intro h' tk' F' N'; (try dsimp only); (try k_sweep); walk_say "CONTRACT getPub"))
local macro_rules | `(tactic| walk_at "call ref") => `(tactic| (k_here; (with_reducible show wpAny _ _ (call (Value.ref 71) _ _) _ _ _); k_dflt (refine' getEnc ?k1 ?k2 ?k3 ?k4 ?k5 ?k6 ?k7 ?k8 ?k9 ?k10 ?_; (case k1 => k_asm); (case k2 => k_asm); (case k3 => k_asm); (case k4 => k_asm); (case k5 => k_asm); (case k6 => first | exact rfl | assumption); (case k7 => ktr_room); (case k8 => k_mem); (case k9 => k_mem); (case k10 => first | k_handed | assumption); k_whole); intro h' tk' F' N'; (try dsimp only); (try k_sweep); walk_say "CONTRACT getEnc"))
local macro_rules | `(tactic| walk_at "call ref") => `(tactic| (k_here; (with_reducible show wpAny _ _ (call (Value.ref 85) _ _) _ _ _); k_dflt (refine' getByt ?k1 ?k2 ?k3 ?k4 ?k5 ?k6 ?k7 ?k8 ?k9 ?k10 ?_; (case k1 => k_asm); (case k2 => k_asm); (case k3 => k_asm); (case k4 => k_asm); (case k5 => k_asm); (case k6 => first | exact rfl | assumption); (case k7 => ktr_room); (case k8 => k_mem); (case k9 => k_mem); (case k10 => first | k_handed | assumption); k_whole); intro h' tk' F' N'; (try dsimp only); (try k_sweep); walk_say "CONTRACT getByt"))
local macro_rules | `(tactic| walk_at "call ref") => `(tactic| (k_here; (with_reducible show wpAny _ _ (call (Value.ref 99) _ _) _ _ _); k_dflt (refine' getChr ?k1 ?k2 ?k3 ?k4 ?k5 ?k6 ?k7 ?k8 ?k9 ?k10 ?_; (case k1 => k_asm); (case k2 => k_asm); (case k3 => k_asm); (case k4 => k_asm); (case k5 => k_asm); (case k6 => first | exact rfl | assumption); (case k7 => ktr_room); (case k8 => k_mem); (case k9 => k_mem); (case k10 => first | k_handed | assumption); k_whole); intro h' tk' F' N'; (try dsimp only); (try k_sweep); walk_say "CONTRACT getChr"))
local macro_rules | `(tactic| walk_at "call ref") => `(tactic| (k_here; (with_reducible show wpAny _ _ (call (Value.ref 50) _ _) _ _ _); k_dflt (refine' setSys ?k1 ?k2 ?k3 ?k4 ?k5 ?k6 ?k7 ?k8 ?k9 ?k10 ?_; (case k1 => k_asm); (case k2 => k_asm); (case k3 => k_asm); (case k4 => k_asm); (case k5 => k_asm); (case k6 => first | exact rfl | assumption); (case k7 => ktr_room); (case k8 => k_mem); (case k9 => k_mem); (case k10 => k_upd); k_whole); intro h' tk' F' N'; (try dsimp only); (try k_sweep); walk_say "CONTRACT setSys"))
local macro_rules | `(tactic| walk_at "call ref") => `(tactic| (k_here; (with_reducible show wpAny _ _ (call (Value.ref 36) _ _) _ _ _); k_dflt (refine' setPub ?k1 ?k2 ?k3 ?k4 ?k5 ?k6 ?k7 ?k8 ?k9 ?k10 ?_; (case k1 => k_asm); (case k2 => k_asm); (case k3 => k_asm); (case k4 => k_asm); (case k5 => k_asm); (case k6 => first | exact rfl | assumption); (case k7 => ktr_room); (case k8 => k_mem); (case k9 => k_mem); (case k10 => k_upd); k_whole); intro h' tk' F' N'; (try dsimp only); (try k_sweep); walk_say "CONTRACT setPub"))
local macro_rules | `(tactic| walk_at "call ref") => `(tactic| (k_here; (with_reducible show wpAny _ _ (call (Value.ref 64) _ _) _ _ _); k_dflt (refine' setEnc ?k1 ?k2 ?k3 ?k4 ?k5 ?k6 ?k7 ?k8 ?k9 ?k10 ?_; (case k1 => k_asm); (case k2 => k_asm); (case k3 => k_asm); (case k4 => k_asm); (case k5 => k_asm); (case k6 => first | exact rfl | assumption); (case k7 => ktr_room); (case k8 => k_mem); (case k9 => k_mem); (case k10 => k_upd); k_whole); intro h' tk' F' N'; (try dsimp only); (try k_sweep); walk_say "CONTRACT setEnc"))
local macro_rules | `(tactic| walk_at "call ref") => `(tactic| (k_here; (with_reducible show wpAny _ _ (call (Value.ref 78) _ _) _ _ _); k_dflt (refine' setByt ?k1 ?k2 ?k3 ?k4 ?k5 ?k6 ?k7 ?k8 ?k9 ?k10 ?_; (case k1 => k_asm); (case k2 => k_asm); (case k3 => k_asm); (case k4 => k_asm); (case k5 => k_asm); (case k6 => first | exact rfl | assumption); (case k7 => ktr_room); (case k8 => k_mem); (case k9 => k_mem); (case k10 => k_upd); k_whole); intro h' tk' F' N'; (try dsimp only); (try k_sweep); walk_say "CONTRACT setByt"))
local macro_rules | `(tactic| walk_at "call ref") => `(tactic| (k_here; (with_reducible show wpAny _ _ (call (Value.ref 92) _ _) _ _ _); k_dflt (refine' setChr ?k1 ?k2 ?k3 ?k4 ?k5 ?k6 ?k7 ?k8 ?k9 ?k10 ?_; (case k1 => k_asm); (case k2 => k_asm); (case k3 => k_asm); (case k4 => k_asm); (case k5 => k_asm); (case k6 => first | exact rfl | assumption); (case k7 => ktr_room); (case k8 => k_mem); (case k9 => k_mem); (case k10 => k_upd); k_whole); intro h' tk' F' N'; (try dsimp only); (try k_sweep); walk_say "CONTRACT setChr"))
local macro_rules | `(tactic| walk_at "call builtin:list.append") => `(tactic| (k_here; (with_reducible show wpAny _ _ (call (Value.builtin _) [Value.ref _, Value.none]) _ _ _); k_dflt (refine' append_none ?k1 ?k2 ?k3 ?k4 ?_; (case k1 => k_asm); (case k2 => k_asm); (case k3 => k_upd); (case k4 => first | assumption | omega); k_whole); intro h' F' N'; (try dsimp only); (try k_sweep); walk_say "APPEND none"))
local macro_rules | `(tactic| walk_at "call builtin:list.extend") => `(tactic| (k_here; (with_reducible show wpAny _ _ (call (Value.builtin _) [Value.ref _, Value.ref _]) _ _ _); k_dflt (refine' extend_none ?k1 ?k2 ?k3 ?k4 ?k5 ?k6 ?_; (case k1 => k_asm); (case k2 => k_asm); (case k3 => k_updF); (case k4 => k_mem); (case k5 => rfl); (case k6 => first | assumption | omega | (show _ + 2 ≤ _; omega) | (show _ + 5 ≤ _; omega)); k_whole); intro h' n' F' N'; (try dsimp only at N'); (try k_sweep); walk_say "EXTEND none"))
local macro_rules | `(tactic| walk_at "compareOp In int ref") => `(tactic| (k_here; k_dflt (refine' in_ints ?k1 ?k2 ?k3 ?_; (case k1 => k_asm); (case k2 => k_mem); (case k3 => k_asm); k_whole); walk_say "IN ints"))
local macro_rules | `(tactic| walk_at "compareOp NotIn int ref") => `(tactic| (k_here; k_dflt (refine' notin_ints ?k1 ?k2 ?k3 ?_; (case k1 => k_asm); (case k2 => k_mem); (case k3 => k_asm); k_whole); walk_say "NOTIN ints"))
local macro_rules | `(tactic| walk_at "subscriptTail") => `(tactic| (k_here; (with_reducible show wpAny _ _ (subscriptTail _ _ (Value.ref _) (Value.int _ _)) _ _ _); (with_unfolding_all refine' item_src ?k1 ?k2 ?k3 ?k4 ?_ ?k6; (case k1 => k_asm); (case k2 => k_mem); (case k3 => first | assumption | omega); (case k4 => first | assumption | omega); (case k6 => with_unfolding_all rfl); k_whole); walk_say "ITEM src"))
local macro_rules | `(tactic| walk_at "subscriptTail Name Constant ref int") => `(tactic| (k_here; (with_unfolding_all refine' item0 ?k1 ?k2 ?k3 ?_ ?k6; (case k1 => k_asm); (case k2 => k_mem); (case k3 => assumption); (case k6 => with_unfolding_all rfl); k_whole); walk_say "ITEM 0"))

variable {w : World} {h₀ : Heap} {L fa : Addr} {cd : Value} {m : Str → Option Value} {news : List (Addr × Obj)} {s : Shared} {mean : ExcName → Option Value} {mg mb : Str → Option Value}
  {σ δ : Nat → Addr} {sl an gl fd : Addr} {Xs : List (Addr × Obj)} {D : Nat → Src} {par : Nat → Nat} {q : Nat} {hs : List Nat} {ha : Nat → Addr} {had : Nat → List Nat} {kvs : List (Int × Value)} {hf rank : Nat → Nat} {v : Value}
abbrev uB : { b : List Stmt // (mainB.1[5]?).bind ifBody = some b } := ⟨_, rfl⟩
abbrev u1 : { x : Stmt // uB.1[2]? = some x } := ⟨_, rfl⟩
theorem turnU1 {Q : Flow → Shared → Prop} {E : Value → Shared → Prop} {u : Str → Option Value} {a b : Nat} {la lb : Int} {ta tb : Tok} (B : Below callerA h₀ [] h₀) (F : Fr h₀ L s.heap (frm2 sl an gl fd (.ref (σ a)) (.ref (σ b)) u)) (X : (hd.heap_39 w.params).In h₀) (N : News h₀ L s.heap news) (T : Top hd.view_39 (looseW hd.view_39 []) mean mg mb h₀)
    (S : Sep σ δ) (M : LSt w σ δ sl an L Xs D par q gl fd hs ha had kvs news) (hq : q ≤ 150000) (ha8 : a < 8) (hb8 : b < 8) (hab : a ≠ b) (hpa : (D a).pub = .int la ta) (hpb : (D b).pub = .int lb tb)
    (ret : ∀ h' tk' news' t', Fr h₀ L h' (frm2 sl an gl fd (.ref (σ a)) (.ref (σ b)) u) → News h₀ L h' news' → (∀ p ∈ news, p.1 ≠ an → (∀ j, j < 8 → p.1 ≠ δ j) → p ∈ news') →
      LSt w σ δ sl an L Xs (fun k => if k = a then { D a with pub := .int (la + lb) t' } else D k) (fun k => if k = b then a else par k) (q + 2) gl fd hs ha had kvs news' → Q .next { s with heap := h', toks := tk' }) :
    wpAny (model PySem.Challenge.rw_kn0108_01.row.prog w) (lawA L fa cd) (exec u1.1 (lawEnv L fa cd)) Q E s := by
  revert X; k_fill; intro X
  w_on
  dsimp only [u1, uB, mainB, lawA, lawEnv, lawBS]
  have dN := dis_of N
  obtain ⟨r1, han⟩ := M.ans
  have za := M.has a ha8
  have zb := M.has b hb8
  rw [show srcAt σ D par a = { sys := .ref (σ (par a)), pub := .int la ta, enc := (D a).enc, byt := (D a).byt, chr := (D a).chr, t1 := (D a).t1, t2 := (D a).t2, t3 := (D a).t3, t4 := (D a).t4, t5 := (D a).t5 } by simp only [srcAt, hpa]] at za
  rw [show srcAt σ D par b = { sys := .ref (σ (par b)), pub := .int lb tb, enc := (D b).enc, byt := (D b).byt, chr := (D b).chr, t1 := (D b).t1, t2 := (D b).t2, t3 := (D b).t3, t4 := (D b).t4, t5 := (D b).t5 } by simp only [srcAt, hpb]] at zb
  have hf1 : ∀ p ∈ [_, _, _, _, _], p ∈ news := foc5 za.1 za.2 zb.1 zb.2 han
  obtain ⟨N3, off⟩ := focus _ N hf1
  have sub := sub_focus N hf1
  simp only [List.cons_append, List.nil_append, List.map_cons, List.map_nil] at N3 off sub
  have n1 : @Ne Nat (σ a) (δ a) := addr_ne N za.1 za.2 (by simp)
  have n2 : @Ne Nat (σ a) (δ b) := addr_ne N za.1 zb.2 (by simp)
  have n3 : @Ne Nat (σ a) an := addr_ne N za.1 han (by simp)
  have n4 : @Ne Nat (σ b) (δ b) := addr_ne N zb.1 zb.2 (by simp)
  have n5 : @Ne Nat (σ b) (δ a) := addr_ne N zb.1 za.2 (by simp)
  have n6 : @Ne Nat (σ b) an := addr_ne N zb.1 han (by simp)
  have n7 : @Ne Nat (δ a) an := addr_ne N za.2 han (by simp)
  have n8 : @Ne Nat (δ b) an := addr_ne N zb.2 han (by simp)
  have n9 : @Ne Nat (δ a) (δ b) := fun e => hab (S.d _ _ ha8 hb8 e)
  clear N
  k_steps
  rename News _ _ _ _ => N5
  rename Fr _ _ _ _ => F5
  have kp := keep245 sub N5
  have hba : b ≠ a := fun e => hab e.symm
  obtain ⟨t', m3⟩ : ∃ t', (δ a, dic w { sys := .ref (σ (par a)), pub := .int (la + lb) t', enc := (D a).enc, byt := (D a).byt, chr := (D a).chr, t1 := (D a).t1, t2 := (D a).t2, t3 := (D a).t3, t4 := (D a).t4, t5 := (D a).t5 }) ∈ _ := ⟨_, news_third N5⟩
  refine ret _ _ _ t' F5 N5 (fun p hp h1 h2 => kp p hp (h2 a ha8) (h2 b hb8) h1) (M.after dN (has_two S M.has dN han ha8 hb8 kp ?_ ?_ ?_) (.tail _ (.tail _ (.tail _ (.tail _ (.tail _ (.head _)))))) (fun p hp h1 h2 => kp p hp (h2 a ha8) (h2 b hb8) h1))
  · simp only [srcAt, if_true, if_neg hab]
    exact m3
  · simp only [srcAt, if_neg hba, if_true, hpb]
    exact List.Mem.tail _ (List.Mem.tail _ (List.Mem.tail _ (List.Mem.tail _ (List.Mem.head _))))
  · intro k hk h1 h2
    simp only [srcAt, if_neg h1, if_neg h2]
end
end Mine
end

-- part 10
section
open PySem PySem.W PySem.Calls PyProof.Rows PyProof.V PySem.Spec
set_option Elab.async false
set_option maxRecDepth 100000
namespace Mine
section
set_option maxHeartbeats 4000000
local macro_rules | `(tactic| k_mem) => `(tactic| ((show Membership.mem (γ := List (Addr × Obj)) _ _); with_reducible assumption))
local macro_rules | `(tactic| walk_at "call ref") => `(tactic| (k_here; (with_reducible show wpAny _ _ (call (Value.ref 57) _ _) _ _ _); k_dflt (refine' getSys ?k1 ?k2 ?k3 ?k4 ?k5 ?k6 ?k7 ?k8 ?k9 ?k10 ?_; (case k1 => k_asm); (case k2 => k_asm); (case k3 => k_asm); (case k4 => k_asm); (case k5 => k_asm); (case k6 => first | exact rfl | assumption); (case k7 => ktr_room); (case k8 => k_mem); (case k9 => k_mem); (case k10 => first | k_handed | assumption); k_whole); intro h' tk' F' N'; (try dsimp only); (try k_sweep); walk_say "CONTRACT getSys"))
local macro_rules | `(tactic| walk_at "call ref") => `(tactic| (k_here; (with_reducible show wpAny _ _ (call (Value.ref 43) _ _) _ _ _); k_dflt (refine' getPub ?k1 ?k2 ?k3 ?k4 ?k5 ?k6 ?k7 ?k8 ?k9 ?k10 ?_; (case k1 => k_asm); (case k2 => k_asm); (case k3 => k_asm); (case k4 => k_asm); (case k5 => k_asm); (case k6 => first | exact rfl | assumption); (case k7 => ktr_room); (case k8 => k_mem); (case k9 => k_mem); (case k10 => first | k_handed | assumption); k_whole); intro h' tk' F' N'; (try dsimp only); (try k_sweep); walk_say "CONTRACT getPub"))
local macro_rules | `(tactic| walk_at "call ref") => `(tactic| (k_here; (with_reducible show wpAny _ _ (call (Value.ref 71) _ _) _ _ _); k_dflt (refine' getEnc ?k1 ?k2 ?k3 ?k4 ?k5 ?k6 ?k7 ?k8 ?k9 ?k10 ?_; (case k1 => k_asm); (case k2 => k_asm); (case k3 => k_asm); (case k4 => k_asm); (case k5 => k_asm); (case k6 => first | exact rfl | assumption); (case k7 => ktr_room); (case k8 => k_mem); (case k9 => k_mem); (case k10 => first | k_handed | assumption); k_whole); intro h' tk' F' N'; (try dsimp only); (try k_sweep); walk_say "CONTRACT getEnc"))
local macro_rules | `(tactic| walk_at "call ref") => `(tactic| (k_here; (with_reducible show wpAny _ _ (call (Value.ref 85) _ _) _ _ _); k_dflt (refine' getByt ?k1 ?k2 ?k3 ?k4 ?k5 ?k6 ?k7 ?k8 ?k9 ?k10 ?_; (case k1 => k_asm); (case k2 => k_asm); (case k3 => k_asm); (case k4 => k_asm); (case k5 => k_asm); (case k6 => first | exact rfl | assumption); (case k7 => ktr_room); (case k8 => k_mem); (case k9 => k_mem); (case k10 => first | k_handed | assumption); k_whole); intro h' tk' F' N'; (try dsimp only); (try k_sweep); walk_say "CONTRACT getByt"))
local macro_rules | `(tactic| walk_at "call ref") => `(tactic| (k_here; (with_reducible show wpAny _ _ (call (Value.ref 99) _ _) _ _ _); k_dflt (refine' getChr ?k1 ?k2 ?k3 ?k4 ?k5 ?k6 ?k7 ?k8 ?k9 ?k10 ?_; (case k1 => k_asm); (case k2 => k_asm); (case k3 => k_asm); (case k4 => k_asm); (case k5 => k_asm); (case k6 => first | exact rfl | assumption); (case k7 => ktr_room); (case k8 => k_mem); (case k9 => k_mem); (case k10 => first | k_handed | assumption); k_whole); intro h' tk' F' N'; (try dsimp only); (try k_sweep); walk_say "CONTRACT getChr"))
local macro_rules | `(tactic| walk_at "call ref") => `(tactic| (k_here; (with_reducible show wpAny _ _ (call (Value.ref 50) _ _) _ _ _); k_dflt (refine' setSys ?k1 ?k2 ?k3 ?k4 ?k5 ?k6 ?k7 ?k8 ?k9 ?k10 ?_; (case k1 => k_asm); (case k2 => k_asm); (case k3 => k_asm); (case k4 => k_asm); (case k5 => k_asm); (case k6 => first | exact rfl | assumption); (case k7 => ktr_room); (case k8 => k_mem); (case k9 => k_mem); (case k10 => k_upd); k_whole); intro h' tk' F' N'; (try dsimp only); (try k_sweep); walk_say "CONTRACT setSys"))
local macro_rules | `(tactic| walk_at "call ref") => `(tactic| (k_here; (with_reducible show wpAny _ _ (call (Value.ref 36) _ _) _ _ _); k_dflt (refine' setPub ?k1 ?k2 ?k3 ?k4 ?k5 ?k6 ?k7 ?k8 ?k9 ?k10 ?_; (case k1 => k_asm); (case k2 => k_asm); (case k3 => k_asm); (case k4 => k_asm); (case k5 => k_asm); (case k6 => first | exact rfl | assumption); (case k7 => ktr_room); (case k8 => k_mem); (case k9 => k_mem); (case k10 => k_upd); k_whole); intro h' tk' F' N'; (try dsimp only); (try k_sweep); walk_say "CONTRACT setPub"))
local macro_rules | `(tactic| walk_at "call ref") => `(tactic| (k_here; (with_reducible show wpAny _ _ (call (Value.ref 64) _ _) _ _ _); k_dflt (refine' setEnc ?k1 ?k2 ?k3 ?k4 ?k5 ?k6 ?k7 ?k8 ?k9 ?k10 ?_; (case k1 => k_asm); (case k2 => k_asm); (case k3 => k_asm); (case k4 => k_asm); (case k5 => k_asm); (case k6 => first | exact rfl | assumption); (case k7 => ktr_room); (case k8 => k_mem); (case k9 => k_mem); (case k10 => k_upd); k_whole); intro h' tk' F' N'; (try dsimp only); (try k_sweep); walk_say "CONTRACT setEnc"))
local macro_rules | `(tactic| walk_at "call ref") => `(tactic| (k_here; (with_reducible show wpAny _ _ (call (Value.ref 78) _ _) _ _ _); k_dflt (refine' setByt ?k1 ?k2 ?k3 ?k4 ?k5 ?k6 ?k7 ?k8 ?k9 ?k10 ?_; (case k1 => k_asm); (case k2 => k_asm); (case k3 => k_asm); (case k4 => k_asm); (case k5 => k_asm); (case k6 => first | exact rfl | assumption); (case k7 => ktr_room); (case k8 => k_mem); (case k9 => k_mem); (case k10 => k_upd); k_whole); intro h' tk' F' N'; (try dsimp only); (try k_sweep); walk_say "CONTRACT setByt"))
local macro_rules | `(tactic| walk_at "call ref") => `(tactic| (k_here; (with_reducible show wpAny _ _ (call (Value.ref 92) _ _) _ _ _); k_dflt (refine' setChr ?k1 ?k2 ?k3 ?k4 ?k5 ?k6 ?k7 ?k8 ?k9 ?k10 ?_; (case k1 => k_asm); (case k2 => k_asm); (case k3 => k_asm); (case k4 => k_asm); (case k5 => k_asm); (case k6 => first | exact rfl | assumption); (case k7 => ktr_room); (case k8 => k_mem); (case k9 => k_mem); (case k10 => k_upd); k_whole); intro h' tk' F' N'; (try dsimp only); (try k_sweep); walk_say "CONTRACT setChr"))
local macro_rules | `(tactic| walk_at "call builtin:list.append") => `(tactic| (k_here; (with_reducible show wpAny _ _ (call (Value.builtin _) [Value.ref _, Value.none]) _ _ _); k_dflt (refine' append_none ?k1 ?k2 ?k3 ?k4 ?_; (case k1 => k_asm); (case k2 => k_asm); (case k3 => k_upd); (case k4 => first | assumption | omega); k_whole); intro h' F' N'; (try dsimp only); (try k_sweep); walk_say "APPEND none"))
local macro_rules | `(tactic| walk_at "call builtin:list.extend") => `(tactic| (k_here; (with_reducible show wpAny _ _ (call (Value.builtin _) [Value.ref _, Value.ref _]) _ _ _); k_dflt (refine' extend_none ?k1 ?k2 ?k3 ?k4 ?k5 ?k6 ?_; (case k1 => k_asm); (case k2 => k_asm); (case k3 => k_updF); (case k4 => k_mem); (case k5 => rfl); (case k6 => first | assumption | omega | (show _ + 2 ≤ _; omega) | (show _ + 5 ≤ _; omega)); k_whole); intro h' n' F' N'; (try dsimp only at N'); (try k_sweep); walk_say "EXTEND none"))
local macro_rules | `(tactic| walk_at "compareOp In int ref") => `(tactic| (k_here; k_dflt (refine' in_ints ?k1 ?k2 ?k3 ?_; (case k1 => k_asm); (case k2 => k_mem); (case k3 => k_asm); k_whole); walk_say "IN ints"))
local macro_rules | `(tactic| walk_at "compareOp NotIn int ref") => `(tactic| (k_here; k_dflt (refine' notin_ints ?k1 ?k2 ?k3 ?_; (case k1 => k_asm); (case k2 => k_mem); (case k3 => k_asm); k_whole); walk_say "NOTIN ints"))
local macro_rules | `(tactic| walk_at "subscriptTail") => `(tactic| (k_here; (with_reducible show wpAny _ _ (subscriptTail _ _ (Value.ref _) (Value.int _ _)) _ _ _); (with_unfolding_all refine' item_src ?k1 ?k2 ?k3 ?k4 ?_ ?k6; (case k1 => k_asm); (case k2 => k_mem); (case k3 => first | assumption | omega); (case k4 => first | assumption | omega); (case k6 => with_unfolding_all rfl); k_whole); walk_say "ITEM src"))
local macro_rules | `(tactic| walk_at "subscriptTail Name Constant ref int") => `(tactic| (k_here; (with_unfolding_all refine' item0 ?k1 ?k2 ?k3 ?_ ?k6; (case k1 => k_asm); (case k2 => k_mem); (case k3 => assumption); (case k6 => with_unfolding_all rfl); k_whole); walk_say "ITEM 0"))

variable {w : World} {h₀ : Heap} {L fa : Addr} {cd : Value} {m : Str → Option Value} {news : List (Addr × Obj)} {s : Shared} {mean : ExcName → Option Value} {mg mb : Str → Option Value}
  {σ δ : Nat → Addr} {sl an gl fd : Addr} {Xs : List (Addr × Obj)} {D : Nat → Src} {par : Nat → Nat} {q : Nat} {hs : List Nat} {ha : Nat → Addr} {had : Nat → List Nat} {kvs : List (Int × Value)} {hf rank : Nat → Nat} {v : Value}
local macro_rules | `(tactic| walk_at "binaryOp Add bytes bytes") => `(tactic| (k_here; (with_reducible show wpAny _ _ (binaryOp Operator.Add (Value.bytes _ _) (Value.bytes _ _)) _ _ _); (refine KBy.add_bytes (by omega) ?_); intro _ _; walk_say "ADD bytes"))
abbrev u2 : { x : Stmt // uB.1[3]? = some x } := ⟨_, rfl⟩
theorem turnU2 {Q : Flow → Shared → Prop} {E : Value → Shared → Prop} {u : Str → Option Value} {a b : Nat} {fa' fb' : Int} {ta tb : Tok} (B : Below callerA h₀ [] h₀) (F : Fr h₀ L s.heap (frm2 sl an gl fd (.ref (σ a)) (.ref (σ b)) u)) (X : (hd.heap_39 w.params).In h₀) (N : News h₀ L s.heap news) (T : Top hd.view_39 (looseW hd.view_39 []) mean mg mb h₀)
    (S : Sep σ δ) (M : LSt w σ δ sl an L Xs D par q gl fd hs ha had kvs news) (hq : q ≤ 150000) (ha8 : a < 8) (hb8 : b < 8) (hab : a ≠ b) (hpa : (D a).enc = .int fa' ta) (hpb : (D b).enc = .int fb' tb) 
    (ret : ∀ h' tk' news' t', Fr h₀ L h' (frm2 sl an gl fd (.ref (σ a)) (.ref (σ b)) u) → News h₀ L h' news' → (∀ p ∈ news, p.1 ≠ an → (∀ j, j < 8 → p.1 ≠ δ j) → p ∈ news') →
      LSt w σ δ sl an L Xs (fun k => if k = a then { D a with enc := .int (if fb' < fa' then fb' else fa') t' } else D k) par (q + 1) gl fd hs ha had kvs news' → Q .next { s with heap := h', toks := tk' }) :
    wpAny (model PySem.Challenge.rw_kn0108_01.row.prog w) (lawA L fa cd) (exec u2.1 (lawEnv L fa cd)) Q E s := by
  revert X; k_fill; intro X
  w_on
  dsimp only [u2, uB, mainB, lawA, lawEnv, lawBS]
  have dN := dis_of N
  obtain ⟨r1, han⟩ := M.ans
  have za := M.has a ha8
  have zb := M.has b hb8
  rw [show srcAt σ D par a = { sys := .ref (σ (par a)), pub := (D a).pub, enc := .int fa' ta, byt := (D a).byt, chr := (D a).chr, t1 := (D a).t1, t2 := (D a).t2, t3 := (D a).t3, t4 := (D a).t4, t5 := (D a).t5 } by simp only [srcAt, hpa]] at za
  rw [show srcAt σ D par b = { sys := .ref (σ (par b)), pub := (D b).pub, enc := .int fb' tb, byt := (D b).byt, chr := (D b).chr, t1 := (D b).t1, t2 := (D b).t2, t3 := (D b).t3, t4 := (D b).t4, t5 := (D b).t5 } by simp only [srcAt, hpb]] at zb
  have hf1 : ∀ p ∈ [_, _, _, _, _], p ∈ news := foc5 za.1 za.2 zb.1 zb.2 han
  obtain ⟨N3, off⟩ := focus _ N hf1
  have sub := sub_focus N hf1
  simp only [List.cons_append, List.nil_append, List.map_cons, List.map_nil] at N3 off sub
  have n1 : @Ne Nat (σ a) (δ a) := addr_ne N za.1 za.2 (by simp)
  have n2 : @Ne Nat (σ a) (δ b) := addr_ne N za.1 zb.2 (by simp)
  have n3 : @Ne Nat (σ a) an := addr_ne N za.1 han (by simp)
  have n4 : @Ne Nat (σ b) (δ b) := addr_ne N zb.1 zb.2 (by simp)
  have n5 : @Ne Nat (σ b) (δ a) := addr_ne N zb.1 za.2 (by simp)
  have n6 : @Ne Nat (σ b) an := addr_ne N zb.1 han (by simp)
  have n7 : @Ne Nat (δ a) an := addr_ne N za.2 han (by simp)
  have n8 : @Ne Nat (δ b) an := addr_ne N zb.2 han (by simp)
  have n9 : @Ne Nat (δ a) (δ b) := fun e => hab (S.d _ _ ha8 hb8 e)
  clear N
  k_steps
  all_goals (
    (rename News _ _ _ _ => N5)
    (rename Fr _ _ _ _ => F5)
    (have kp := keep25 sub N5)
    (have hba : b ≠ a := fun e => hab e.symm)
    (obtain ⟨t', m3⟩ : ∃ t', (δ a, dic w { sys := .ref (σ (par a)), pub := (D a).pub, enc := .int (if fb' < fa' then fb' else fa') t', byt := (D a).byt, chr := (D a).chr, t1 := (D a).t1, t2 := (D a).t2, t3 := (D a).t3, t4 := (D a).t4, t5 := (D a).t5 }) ∈ _ := ⟨_, news_second N5⟩)
    (refine ret _ _ _ t' F5 N5 (fun p hp h1 h2 => kp p hp (h2 a ha8) h1) (M.after dN (has_two S M.has dN han ha8 hb8 (fun p hp h1 _ h3 => kp p hp h1 h3) ?_ ?_ ?_) (.tail _ (.tail _ (.tail _ (.tail _ (.head _))))) (fun p hp h1 h2 => kp p hp (h2 a ha8) h1))))
  all_goals (try (simp only [srcAt, if_true, hpa]; exact m3))
  all_goals (try (simp only [srcAt, if_neg (fun e => hab (Eq.symm e)), hpb]; exact List.Mem.tail _ (List.Mem.tail _ (List.Mem.tail _ (List.Mem.head _)))))
  all_goals (intro k hk h1 h2; simp only [srcAt, if_neg h1])
abbrev u3 : { x : Stmt // uB.1[4]? = some x } := ⟨_, rfl⟩
theorem turnU3 {Q : Flow → Shared → Prop} {E : Value → Shared → Prop} {u : Str → Option Value} {a b : Nat} {fa' fb' : Array UInt8} {ta tb : Tok} (B : Below callerA h₀ [] h₀) (F : Fr h₀ L s.heap (frm2 sl an gl fd (.ref (σ a)) (.ref (σ b)) u)) (X : (hd.heap_39 w.params).In h₀) (N : News h₀ L s.heap news) (T : Top hd.view_39 (looseW hd.view_39 []) mean mg mb h₀)
    (S : Sep σ δ) (M : LSt w σ δ sl an L Xs D par q gl fd hs ha had kvs news) (hq : q ≤ 150000) (ha8 : a < 8) (hb8 : b < 8) (hab : a ≠ b) (hpa : (D a).byt = .bytes fa' ta) (hpb : (D b).byt = .bytes fb' tb) (hza : fa'.size ≤ 1000) (hzb : fb'.size ≤ 1000)
    (ret : ∀ h' tk' news' t', Fr h₀ L h' (frm2 sl an gl fd (.ref (σ a)) (.ref (σ b)) u) → News h₀ L h' news' → (∀ p ∈ news, p.1 ≠ an → (∀ j, j < 8 → p.1 ≠ δ j) → p ∈ news') →
      LSt w σ δ sl an L Xs (fun k => if k = a then { D a with byt := .bytes (fa' ++ fb') t' } else D k) par (q + 1) gl fd hs ha had kvs news' → Q .next { s with heap := h', toks := tk' }) :
    wpAny (model PySem.Challenge.rw_kn0108_01.row.prog w) (lawA L fa cd) (exec u3.1 (lawEnv L fa cd)) Q E s := by
  revert X; k_fill; intro X
  w_on
  dsimp only [u3, uB, mainB, lawA, lawEnv, lawBS]
  have dN := dis_of N
  obtain ⟨r1, han⟩ := M.ans
  have za := M.has a ha8
  have zb := M.has b hb8
  rw [show srcAt σ D par a = { sys := .ref (σ (par a)), pub := (D a).pub, enc := (D a).enc, byt := .bytes fa' ta, chr := (D a).chr, t1 := (D a).t1, t2 := (D a).t2, t3 := (D a).t3, t4 := (D a).t4, t5 := (D a).t5 } by simp only [srcAt, hpa]] at za
  rw [show srcAt σ D par b = { sys := .ref (σ (par b)), pub := (D b).pub, enc := (D b).enc, byt := .bytes fb' tb, chr := (D b).chr, t1 := (D b).t1, t2 := (D b).t2, t3 := (D b).t3, t4 := (D b).t4, t5 := (D b).t5 } by simp only [srcAt, hpb]] at zb
  have hf1 : ∀ p ∈ [_, _, _, _, _], p ∈ news := foc5 za.1 za.2 zb.1 zb.2 han
  obtain ⟨N3, off⟩ := focus _ N hf1
  have sub := sub_focus N hf1
  simp only [List.cons_append, List.nil_append, List.map_cons, List.map_nil] at N3 off sub
  have n1 : @Ne Nat (σ a) (δ a) := addr_ne N za.1 za.2 (by simp)
  have n2 : @Ne Nat (σ a) (δ b) := addr_ne N za.1 zb.2 (by simp)
  have n3 : @Ne Nat (σ a) an := addr_ne N za.1 han (by simp)
  have n4 : @Ne Nat (σ b) (δ b) := addr_ne N zb.1 zb.2 (by simp)
  have n5 : @Ne Nat (σ b) (δ a) := addr_ne N zb.1 za.2 (by simp)
  have n6 : @Ne Nat (σ b) an := addr_ne N zb.1 han (by simp)
  have n7 : @Ne Nat (δ a) an := addr_ne N za.2 han (by simp)
  have n8 : @Ne Nat (δ b) an := addr_ne N zb.2 han (by simp)
  have n9 : @Ne Nat (δ a) (δ b) := fun e => hab (S.d _ _ ha8 hb8 e)
  clear N
  k_steps
  all_goals (
    (rename News _ _ _ _ => N5)
    (rename Fr _ _ _ _ => F5)
    (have kp := keep25 sub N5)
    (have hba : b ≠ a := fun e => hab e.symm)
    (obtain ⟨t', m3⟩ : ∃ t', (δ a, dic w { sys := .ref (σ (par a)), pub := (D a).pub, enc := (D a).enc, byt := .bytes (fa' ++ fb') t', chr := (D a).chr, t1 := (D a).t1, t2 := (D a).t2, t3 := (D a).t3, t4 := (D a).t4, t5 := (D a).t5 }) ∈ _ := ⟨_, news_second N5⟩)
    (refine ret _ _ _ t' F5 N5 (fun p hp h1 h2 => kp p hp (h2 a ha8) h1) (M.after dN (has_two S M.has dN han ha8 hb8 (fun p hp h1 _ h3 => kp p hp h1 h3) ?_ ?_ ?_) (.tail _ (.tail _ (.tail _ (.tail _ (.head _))))) (fun p hp h1 h2 => kp p hp (h2 a ha8) h1))))
  all_goals (try (simp only [srcAt, if_true, hpa]; exact m3))
  all_goals (try (simp only [srcAt, if_neg (fun e => hab (Eq.symm e)), hpb]; exact List.Mem.tail _ (List.Mem.tail _ (List.Mem.tail _ (List.Mem.head _)))))
  all_goals (intro k hk h1 h2; simp only [srcAt, if_neg h1])
abbrev u4 : { x : Stmt // uB.1[5]? = some x } := ⟨_, rfl⟩
theorem turnU4 {Q : Flow → Shared → Prop} {E : Value → Shared → Prop} {u : Str → Option Value} {a b : Nat} {fa' fb' : Str} {ta tb : Tok} (B : Below callerA h₀ [] h₀) (F : Fr h₀ L s.heap (frm2 sl an gl fd (.ref (σ a)) (.ref (σ b)) u)) (X : (hd.heap_39 w.params).In h₀) (N : News h₀ L s.heap news) (T : Top hd.view_39 (looseW hd.view_39 []) mean mg mb h₀)
    (S : Sep σ δ) (M : LSt w σ δ sl an L Xs D par q gl fd hs ha had kvs news) (hq : q ≤ 150000) (ha8 : a < 8) (hb8 : b < 8) (hab : a ≠ b) (hpa : (D a).chr = .str fa' ta) (hpb : (D b).chr = .str fb' tb) (hza : fa'.length ≤ 1000) (hzb : fb'.length ≤ 1000)
    (ret : ∀ h' tk' news' t', Fr h₀ L h' (frm2 sl an gl fd (.ref (σ a)) (.ref (σ b)) u) → News h₀ L h' news' → (∀ p ∈ news, p.1 ≠ an → (∀ j, j < 8 → p.1 ≠ δ j) → p ∈ news') →
      LSt w σ δ sl an L Xs (fun k => if k = a then { D a with chr := .str (fa' ++ fb') t' } else D k) par (q + 1) gl fd hs ha had kvs news' → Q .next { s with heap := h', toks := tk' }) :
    wpAny (model PySem.Challenge.rw_kn0108_01.row.prog w) (lawA L fa cd) (exec u4.1 (lawEnv L fa cd)) Q E s := by
  revert X; k_fill; intro X
  w_on
  dsimp only [u4, uB, mainB, lawA, lawEnv, lawBS]
  have dN := dis_of N
  obtain ⟨r1, han⟩ := M.ans
  have za := M.has a ha8
  have zb := M.has b hb8
  rw [show srcAt σ D par a = { sys := .ref (σ (par a)), pub := (D a).pub, enc := (D a).enc, byt := (D a).byt, chr := .str fa' ta, t1 := (D a).t1, t2 := (D a).t2, t3 := (D a).t3, t4 := (D a).t4, t5 := (D a).t5 } by simp only [srcAt, hpa]] at za
  rw [show srcAt σ D par b = { sys := .ref (σ (par b)), pub := (D b).pub, enc := (D b).enc, byt := (D b).byt, chr := .str fb' tb, t1 := (D b).t1, t2 := (D b).t2, t3 := (D b).t3, t4 := (D b).t4, t5 := (D b).t5 } by simp only [srcAt, hpb]] at zb
  have hf1 : ∀ p ∈ [_, _, _, _, _], p ∈ news := foc5 za.1 za.2 zb.1 zb.2 han
  obtain ⟨N3, off⟩ := focus _ N hf1
  have sub := sub_focus N hf1
  simp only [List.cons_append, List.nil_append, List.map_cons, List.map_nil] at N3 off sub
  have n1 : @Ne Nat (σ a) (δ a) := addr_ne N za.1 za.2 (by simp)
  have n2 : @Ne Nat (σ a) (δ b) := addr_ne N za.1 zb.2 (by simp)
  have n3 : @Ne Nat (σ a) an := addr_ne N za.1 han (by simp)
  have n4 : @Ne Nat (σ b) (δ b) := addr_ne N zb.1 zb.2 (by simp)
  have n5 : @Ne Nat (σ b) (δ a) := addr_ne N zb.1 za.2 (by simp)
  have n6 : @Ne Nat (σ b) an := addr_ne N zb.1 han (by simp)
  have n7 : @Ne Nat (δ a) an := addr_ne N za.2 han (by simp)
  have n8 : @Ne Nat (δ b) an := addr_ne N zb.2 han (by simp)
  have n9 : @Ne Nat (δ a) (δ b) := fun e => hab (S.d _ _ ha8 hb8 e)
  clear N
  k_steps
  all_goals (
    (rename News _ _ _ _ => N5)
    (rename Fr _ _ _ _ => F5)
    (have kp := keep25 sub N5)
    (have hba : b ≠ a := fun e => hab e.symm)
    (obtain ⟨t', m3⟩ : ∃ t', (δ a, dic w { sys := .ref (σ (par a)), pub := (D a).pub, enc := (D a).enc, byt := (D a).byt, chr := .str (fa' ++ fb') t', t1 := (D a).t1, t2 := (D a).t2, t3 := (D a).t3, t4 := (D a).t4, t5 := (D a).t5 }) ∈ _ := ⟨_, news_second N5⟩)
    (refine ret _ _ _ t' F5 N5 (fun p hp h1 h2 => kp p hp (h2 a ha8) h1) (M.after dN (has_two S M.has dN han ha8 hb8 (fun p hp h1 _ h3 => kp p hp h1 h3) ?_ ?_ ?_) (.tail _ (.tail _ (.tail _ (.tail _ (.head _))))) (fun p hp h1 h2 => kp p hp (h2 a ha8) h1))))
  all_goals (try (simp only [srcAt, if_true, hpa]; exact m3))
  all_goals (try (simp only [srcAt, if_neg (fun e => hab (Eq.symm e)), hpb]; exact List.Mem.tail _ (List.Mem.tail _ (List.Mem.tail _ (List.Mem.head _)))))
  all_goals (intro k hk h1 h2; simp only [srcAt, if_neg h1])
end
end Mine
end

-- part 11
section
open PySem PySem.W PySem.Calls PyProof.Rows PyProof.V PySem.Spec
set_option Elab.async false
set_option maxRecDepth 100000
namespace Mine
section
set_option maxHeartbeats 4000000
local macro_rules | `(tactic| k_mem) => `(tactic| ((show Membership.mem (γ := List (Addr × Obj)) _ _); with_reducible assumption))
local macro_rules | `(tactic| walk_at "call ref") => `(tactic| (k_here; (with_reducible show wpAny _ _ (call (Value.ref 57) _ _) _ _ _); k_dflt (refine' getSys ?k1 ?k2 ?k3 ?k4 ?k5 ?k6 ?k7 ?k8 ?k9 ?k10 ?_; (case k1 => k_asm); (case k2 => k_asm); (case k3 => k_asm); (case k4 => k_asm); (case k5 => k_asm); (case k6 => first | exact rfl | assumption); (case k7 => ktr_room); (case k8 => k_mem); (case k9 => k_mem); (case k10 => first | k_handed | assumption); k_whole); intro h' tk' F' N'; (try dsimp only); (try k_sweep); walk_say "CONTRACT getSys"))
local macro_rules | `(tactic| walk_at "call ref") => `(tactic| (k_here; (with_reducible show wpAny _ _ (call (Value.ref 43) _ _) _ _ _); k_dflt (refine' getPub ?k1 ?k2 ?k3 ?k4 ?k5 ?k6 ?k7 ?k8 ?k9 ?k10 ?_; (case k1 => k_asm); (case k2 => k_asm); (case k3 => k_asm); (case k4 => k_asm); (case k5 => k_asm); (case k6 => first | exact rfl | assumption); (case k7 => ktr_room); (case k8 => k_mem); (case k9 => k_mem); (case k10 => first | k_handed | assumption); k_whole); intro h' tk' F' N'; (try dsimp only); (try k_sweep); walk_say "CONTRACT getPub"))
local macro_rules | `(tactic| walk_at "call ref") => `(tactic| (k_here; (with_reducible show wpAny _ _ (call (Value.ref 71) _ _) _ _ _); k_dflt (refine' getEnc ?k1 ?k2 ?k3 ?k4 ?k5 ?k6 ?k7 ?k8 ?k9 ?k10 ?_; (case k1 => k_asm); (case k2 => k_asm); (case k3 => k_asm); (case k4 => k_asm); (case k5 => k_asm); (case k6 => first | exact rfl | assumption); (case k7 => ktr_room); (case k8 => k_mem); (case k9 => k_mem); (case k10 => first | k_handed | assumption); k_whole); intro h' tk' F' N'; (try dsimp only); (try k_sweep); walk_say "CONTRACT getEnc"))
local macro_rules | `(tactic| walk_at "call ref") => `(tactic| (k_here; (with_reducible show wpAny _ _ (call (Value.ref 85) _ _) _ _ _); k_dflt (refine' getByt ?k1 ?k2 ?k3 ?k4 ?k5 ?k6 ?k7 ?k8 ?k9 ?k10 ?_; (case k1 => k_asm); (case k2 => k_asm); (case k3 => k_asm); (case k4 => k_asm); (case k5 => k_asm); (case k6 => first | exact rfl | assumption); (case k7 => ktr_room); (case k8 => k_mem); (case k9 => k_mem); (case k10 => first | k_handed | assumption); k_whole); intro h' tk' F' N'; (try dsimp only); (try k_sweep); walk_say "CONTRACT getByt"))
local macro_rules | `(tactic| walk_at "call ref") => `(tactic| (k_here; (with_reducible show wpAny _ _ (call (Value.ref 99) _ _) _ _ _); k_dflt (refine' getChr ?k1 ?k2 ?k3 ?k4 ?k5 ?k6 ?k7 ?k8 ?k9 ?k10 ?_; (case k1 => k_asm); (case k2 => k_asm); (case k3 => k_asm); (case k4 => k_asm); (case k5 => k_asm); (case k6 => first | exact rfl | assumption); (case k7 => ktr_room); (case k8 => k_mem); (case k9 => k_mem); (case k10 => first | k_handed | assumption); k_whole); intro h' tk' F' N'; (try dsimp only); (try k_sweep); walk_say "CONTRACT getChr"))
local macro_rules | `(tactic| walk_at "call ref") => `(tactic| (k_here; (with_reducible show wpAny _ _ (call (Value.ref 50) _ _) _ _ _); k_dflt (refine' setSys ?k1 ?k2 ?k3 ?k4 ?k5 ?k6 ?k7 ?k8 ?k9 ?k10 ?_; (case k1 => k_asm); (case k2 => k_asm); (case k3 => k_asm); (case k4 => k_asm); (case k5 => k_asm); (case k6 => first | exact rfl | assumption); (case k7 => ktr_room); (case k8 => k_mem); (case k9 => k_mem); (case k10 => k_upd); k_whole); intro h' tk' F' N'; (try dsimp only); (try k_sweep); walk_say "CONTRACT setSys"))
local macro_rules | `(tactic| walk_at "call ref") => `(tactic| (k_here; (with_reducible show wpAny _ _ (call (Value.ref 36) _ _) _ _ _); k_dflt (refine' setPub ?k1 ?k2 ?k3 ?k4 ?k5 ?k6 ?k7 ?k8 ?k9 ?k10 ?_; (case k1 => k_asm); (case k2 => k_asm); (case k3 => k_asm); (case k4 => k_asm); (case k5 => k_asm); (case k6 => first | exact rfl | assumption); (case k7 => ktr_room); (case k8 => k_mem); (case k9 => k_mem); (case k10 => k_upd); k_whole); intro h' tk' F' N'; (try dsimp only); (try k_sweep); walk_say "CONTRACT setPub"))
local macro_rules | `(tactic| walk_at "call ref") => `(tactic| (k_here; (with_reducible show wpAny _ _ (call (Value.ref 64) _ _) _ _ _); k_dflt (refine' setEnc ?k1 ?k2 ?k3 ?k4 ?k5 ?k6 ?k7 ?k8 ?k9 ?k10 ?_; (case k1 => k_asm); (case k2 => k_asm); (case k3 => k_asm); (case k4 => k_asm); (case k5 => k_asm); (case k6 => first | exact rfl | assumption); (case k7 => ktr_room); (case k8 => k_mem); (case k9 => k_mem); (case k10 => k_upd); k_whole); intro h' tk' F' N'; (try dsimp only); (try k_sweep); walk_say "CONTRACT setEnc"))
local macro_rules | `(tactic| walk_at "call ref") => `(tactic| (k_here; (with_reducible show wpAny _ _ (call (Value.ref 78) _ _) _ _ _); k_dflt (refine' setByt ?k1 ?k2 ?k3 ?k4 ?k5 ?k6 ?k7 ?k8 ?k9 ?k10 ?_; (case k1 => k_asm); (case k2 => k_asm); (case k3 => k_asm); (case k4 => k_asm); (case k5 => k_asm); (case k6 => first | exact rfl | assumption); (case k7 => ktr_room); (case k8 => k_mem); (case k9 => k_mem); (case k10 => k_upd); k_whole); intro h' tk' F' N'; (try dsimp only); (try k_sweep); walk_say "CONTRACT setByt"))
local macro_rules | `(tactic| walk_at "call ref") => `(tactic| (k_here; (with_reducible show wpAny _ _ (call (Value.ref 92) _ _) _ _ _); k_dflt (refine' setChr ?k1 ?k2 ?k3 ?k4 ?k5 ?k6 ?k7 ?k8 ?k9 ?k10 ?_; (case k1 => k_asm); (case k2 => k_asm); (case k3 => k_asm); (case k4 => k_asm); (case k5 => k_asm); (case k6 => first | exact rfl | assumption); (case k7 => ktr_room); (case k8 => k_mem); (case k9 => k_mem); (case k10 => k_upd); k_whole); intro h' tk' F' N'; (try dsimp only); (try k_sweep); walk_say "CONTRACT setChr"))
local macro_rules | `(tactic| walk_at "call builtin:list.append") => `(tactic| (k_here; (with_reducible show wpAny _ _ (call (Value.builtin _) [Value.ref _, Value.none]) _ _ _); k_dflt (refine' append_none ?k1 ?k2 ?k3 ?k4 ?_; (case k1 => k_asm); (case k2 => k_asm); (case k3 => k_upd); (case k4 => first | assumption | omega); k_whole); intro h' F' N'; (try dsimp only); (try k_sweep); walk_say "APPEND none"))
local macro_rules | `(tactic| walk_at "call builtin:list.extend") => `(tactic| (k_here; (with_reducible show wpAny _ _ (call (Value.builtin _) [Value.ref _, Value.ref _]) _ _ _); k_dflt (refine' extend_none ?k1 ?k2 ?k3 ?k4 ?k5 ?k6 ?_; (case k1 => k_asm); (case k2 => k_asm); (case k3 => k_updF); (case k4 => k_mem); (case k5 => rfl); (case k6 => first | assumption | omega | (show _ + 2 ≤ _; omega) | (show _ + 5 ≤ _; omega)); k_whole); intro h' n' F' N'; (try dsimp only at N'); (try k_sweep); walk_say "EXTEND none"))
local macro_rules | `(tactic| walk_at "compareOp In int ref") => `(tactic| (k_here; k_dflt (refine' in_ints ?k1 ?k2 ?k3 ?_; (case k1 => k_asm); (case k2 => k_mem); (case k3 => k_asm); k_whole); walk_say "IN ints"))
local macro_rules | `(tactic| walk_at "compareOp NotIn int ref") => `(tactic| (k_here; k_dflt (refine' notin_ints ?k1 ?k2 ?k3 ?_; (case k1 => k_asm); (case k2 => k_mem); (case k3 => k_asm); k_whole); walk_say "NOTIN ints"))
local macro_rules | `(tactic| walk_at "subscriptTail") => `(tactic| (k_here; (with_reducible show wpAny _ _ (subscriptTail _ _ (Value.ref _) (Value.int _ _)) _ _ _); (with_unfolding_all refine' item_src ?k1 ?k2 ?k3 ?k4 ?_ ?k6; (case k1 => k_asm); (case k2 => k_mem); (case k3 => first | assumption | omega); (case k4 => first | assumption | omega); (case k6 => with_unfolding_all rfl); k_whole); walk_say "ITEM src"))
local macro_rules | `(tactic| walk_at "subscriptTail Name Constant ref int") => `(tactic| (k_here; (with_unfolding_all refine' item0 ?k1 ?k2 ?k3 ?_ ?k6; (case k1 => k_asm); (case k2 => k_mem); (case k3 => assumption); (case k6 => with_unfolding_all rfl); k_whole); walk_say "ITEM 0"))

variable {w : World} {h₀ : Heap} {L fa : Addr} {cd : Value} {m : Str → Option Value} {news : List (Addr × Obj)} {s : Shared} {mean : ExcName → Option Value} {mg mb : Str → Option Value}
  {σ δ : Nat → Addr} {sl an gl fd : Addr} {Xs : List (Addr × Obj)} {D : Nat → Src} {par : Nat → Nat} {q : Nat} {hs : List Nat} {ha : Nat → Addr} {had : Nat → List Nat} {kvs : List (Int × Value)} {hf rank : Nat → Nat} {v : Value}
local macro_rules | `(tactic| walk_at "setItem ref int") => `(tactic| (k_here; (with_reducible show wpAny _ _ (setItem (Value.ref _) (Value.int _ _) (Value.ref _)) _ _ _); k_dflt (refine' kda_set (knd := PySem.intKind _ _) ?F ?N ?U ?d (intKind_is _ _ _ _) ?z ?_; (case F => k_asm); (case N => k_asm); (case U => k_updF); (case d => k_asm); (case z => assumption)); intro h' o' F' N' hd'; (try dsimp only at N'); walk_say "SET former"))
abbrev u5 : { x : Stmt // uB.1[6]? = some x } := ⟨_, rfl⟩
theorem turnU5 {Q : Flow → Shared → Prop} {E : Value → Shared → Prop} {u : Str → Option Value} {one two : Value} {os : Obj} {b : Nat} {rb : List Nat} (B : Below callerA h₀ [] h₀) (F : Fr h₀ L s.heap (frm2 sl an gl fd one two u)) (X : (hd.heap_39 w.params).In h₀) (N : News h₀ L s.heap news) (T : Top hd.view_39 (looseW hd.view_39 []) mean mg mb h₀)
    (M : LSt w σ δ sl an L Xs D par q gl fd hs ha had kvs news) (hcs : (L + 1 + 1 + 1, os) ∈ news) (hds : os.data = .cell (some (.ref (ha b)))) (hb8 : b < 8) (eb : had b = b :: rb) (hk8 : kvs.length ≤ 8)
    (ret : ∀ h' tk' news', Fr h₀ L h' (frm2 sl an gl fd one two u) → News h₀ L h' news' → (∀ p ∈ news, p.1 ≠ fd → p ∈ news') →
      LSt w σ δ sl an L Xs D par q gl fd hs ha had (stored kvs (b : Int) (.ref (ha b))) news' → Q .next { s with heap := h', toks := tk' }) :
    wpAny (model PySem.Challenge.rw_kn0108_01.row.prog w) (lawA L fa cd) (exec u5.1 (lawEnv L fa cd)) Q E s := by
  revert X; k_fill; intro X
  w_on
  dsimp only [u5, uB, mainB, lawA, lawEnv, lawBS]
  have dN := dis_of N
  obtain ⟨vsb, cb, hmb, hib⟩ := M.hads b hb8
  rw [eb] at hib
  obtain ⟨tb, htb⟩ := first_int hib
  obtain ⟨fo, hfo, hfd⟩ := M.frm
  obtain ⟨-, es, ep, hfdat⟩ := dict_data hfd
  have hz : kvs.length ≤ sizeLine := by rw [sizeLine_eq]; omega
  have hf1 : ∀ p ∈ [(fd, fo)], p ∈ news := by intro p hp; rw [List.mem_singleton.mp hp]; exact hfo
  obtain ⟨N3, off⟩ := focus _ N hf1
  have sub := sub_focus N hf1
  have m1 : (L + 1 + 1 + 1, os) ∈ restOf [(fd, fo)] news := mem_rest hcs (by simp only [List.map_cons, List.map_nil, List.mem_singleton]; exact addr_ne N hcs hfo (fun e => by rw [e, hfdat] at hds; cases hds))
  have m2 : (ha b, W.listOf vsb.toArray cb) ∈ restOf [(fd, fo)] news := mem_rest hmb (by simp only [List.map_cons, List.map_nil, List.mem_singleton]; exact addr_ne N hmb hfo (fun e => by rw [← e] at hfdat; cases hfdat))
  simp only [List.cons_append, List.nil_append, List.map_cons, List.map_nil] at N3 off sub
  clear N
  k_steps
  rename News _ _ _ _ => N5
  rename Fr _ _ _ _ => F5
  have kp := kp_of sub (fun p hp => hp) N5
  exact ret _ _ _ F5 N5 kp (M.former dN kp (.head _) (by assumption))
end
end Mine
end

-- part 12
section
open PySem PySem.W PySem.Calls PyProof.Rows PyProof.V PySem.Spec
set_option Elab.async false
set_option maxRecDepth 100000
namespace Mine
section
set_option maxHeartbeats 4000000
local macro_rules | `(tactic| k_mem) => `(tactic| ((show Membership.mem (γ := List (Addr × Obj)) _ _); with_reducible assumption))
local macro_rules | `(tactic| walk_at "call ref") => `(tactic| (k_here; (with_reducible show wpAny _ _ (call (Value.ref 57) _ _) _ _ _); k_dflt (refine' getSys ?k1 ?k2 ?k3 ?k4 ?k5 ?k6 ?k7 ?k8 ?k9 ?k10 ?_; (case k1 => k_asm); (case k2 => k_asm); (case k3 => k_asm); (case k4 => k_asm); (case k5 => k_asm); (case k6 => first | exact rfl | assumption); (case k7 => ktr_room); (case k8 => k_mem); (case k9 => k_mem); (case k10 => first | k_handed | assumption); k_whole); intro h' tk' F' N'; (try dsimp only); (try k_sweep); walk_say "CONTRACT getSys"))
local macro_rules | `(tactic| walk_at "call ref") => `(tactic| (k_here; (with_reducible show wpAny _ _ (call (Value.ref 43) _ _) _ _ _); k_dflt (refine' getPub ?k1 ?k2 ?k3 ?k4 ?k5 ?k6 ?k7 ?k8 ?k9 ?k10 ?_; (case k1 => k_asm); (case k2 => k_asm); (case k3 => k_asm); (case k4 => k_asm); (case k5 => k_asm); (case k6 => first | exact rfl | assumption); (case k7 => ktr_room); (case k8 => k_mem); (case k9 => k_mem); (case k10 => first | k_handed | assumption); k_whole); intro h' tk' F' N'; (try dsimp only); (try k_sweep); walk_say "CONTRACT getPub"))
local macro_rules | `(tactic| walk_at "call ref") => `(tactic| (k_here; (with_reducible show wpAny _ _ (call (Value.ref 71) _ _) _ _ _); k_dflt (refine' getEnc ?k1 ?k2 ?k3 ?k4 ?k5 ?k6 ?k7 ?k8 ?k9 ?k10 ?_; (case k1 => k_asm); (case k2 => k_asm); (case k3 => k_asm); (case k4 => k_asm); (case k5 => k_asm); (case k6 => first | exact rfl | assumption); (case k7 => ktr_room); (case k8 => k_mem); (case k9 => k_mem); (case k10 => first | k_handed | assumption); k_whole); intro h' tk' F' N'; (try dsimp only); (try k_sweep); walk_say "CONTRACT getEnc"))
local macro_rules | `(tactic| walk_at "call ref") => `(tactic| (k_here; (with_reducible show wpAny _ _ (call (Value.ref 85) _ _) _ _ _); k_dflt (refine' getByt ?k1 ?k2 ?k3 ?k4 ?k5 ?k6 ?k7 ?k8 ?k9 ?k10 ?_; (case k1 => k_asm); (case k2 => k_asm); (case k3 => k_asm); (case k4 => k_asm); (case k5 => k_asm); (case k6 => first | exact rfl | assumption); (case k7 => ktr_room); (case k8 => k_mem); (case k9 => k_mem); (case k10 => first | k_handed | assumption); k_whole); intro h' tk' F' N'; (try dsimp only); (try k_sweep); walk_say "CONTRACT getByt"))
local macro_rules | `(tactic| walk_at "call ref") => `(tactic| (k_here; (with_reducible show wpAny _ _ (call (Value.ref 99) _ _) _ _ _); k_dflt (refine' getChr ?k1 ?k2 ?k3 ?k4 ?k5 ?k6 ?k7 ?k8 ?k9 ?k10 ?_; (case k1 => k_asm); (case k2 => k_asm); (case k3 => k_asm); (case k4 => k_asm); (case k5 => k_asm); (case k6 => first | exact rfl | assumption); (case k7 => ktr_room); (case k8 => k_mem); (case k9 => k_mem); (case k10 => first | k_handed | assumption); k_whole); intro h' tk' F' N'; (try dsimp only); (try k_sweep); walk_say "CONTRACT getChr"))
local macro_rules | `(tactic| walk_at "call ref") => `(tactic| (k_here; (with_reducible show wpAny _ _ (call (Value.ref 50) _ _) _ _ _); k_dflt (refine' setSys ?k1 ?k2 ?k3 ?k4 ?k5 ?k6 ?k7 ?k8 ?k9 ?k10 ?_; (case k1 => k_asm); (case k2 => k_asm); (case k3 => k_asm); (case k4 => k_asm); (case k5 => k_asm); (case k6 => first | exact rfl | assumption); (case k7 => ktr_room); (case k8 => k_mem); (case k9 => k_mem); (case k10 => k_upd); k_whole); intro h' tk' F' N'; (try dsimp only); (try k_sweep); walk_say "CONTRACT setSys"))
local macro_rules | `(tactic| walk_at "call ref") => `(tactic| (k_here; (with_reducible show wpAny _ _ (call (Value.ref 36) _ _) _ _ _); k_dflt (refine' setPub ?k1 ?k2 ?k3 ?k4 ?k5 ?k6 ?k7 ?k8 ?k9 ?k10 ?_; (case k1 => k_asm); (case k2 => k_asm); (case k3 => k_asm); (case k4 => k_asm); (case k5 => k_asm); (case k6 => first | exact rfl | assumption); (case k7 => ktr_room); (case k8 => k_mem); (case k9 => k_mem); (case k10 => k_upd); k_whole); intro h' tk' F' N'; (try dsimp only); (try k_sweep); walk_say "CONTRACT setPub"))
local macro_rules | `(tactic| walk_at "call ref") => `(tactic| (k_here; (with_reducible show wpAny _ _ (call (Value.ref 64) _ _) _ _ _); k_dflt (refine' setEnc ?k1 ?k2 ?k3 ?k4 ?k5 ?k6 ?k7 ?k8 ?k9 ?k10 ?_; (case k1 => k_asm); (case k2 => k_asm); (case k3 => k_asm); (case k4 => k_asm); (case k5 => k_asm); (case k6 => first | exact rfl | assumption); (case k7 => ktr_room); (case k8 => k_mem); (case k9 => k_mem); (case k10 => k_upd); k_whole); intro h' tk' F' N'; (try dsimp only); (try k_sweep); walk_say "CONTRACT setEnc"))
local macro_rules | `(tactic| walk_at "call ref") => `(tactic| (k_here; (with_reducible show wpAny _ _ (call (Value.ref 78) _ _) _ _ _); k_dflt (refine' setByt ?k1 ?k2 ?k3 ?k4 ?k5 ?k6 ?k7 ?k8 ?k9 ?k10 ?_; (case k1 => k_asm); (case k2 => k_asm); (case k3 => k_asm); (case k4 => k_asm); (case k5 => k_asm); (case k6 => first | exact rfl | assumption); (case k7 => ktr_room); (case k8 => k_mem); (case k9 => k_mem); (case k10 => k_upd); k_whole); intro h' tk' F' N'; (try dsimp only); (try k_sweep); walk_say "CONTRACT setByt"))
local macro_rules | `(tactic| walk_at "call ref") => `(tactic| (k_here; (with_reducible show wpAny _ _ (call (Value.ref 92) _ _) _ _ _); k_dflt (refine' setChr ?k1 ?k2 ?k3 ?k4 ?k5 ?k6 ?k7 ?k8 ?k9 ?k10 ?_; (case k1 => k_asm); (case k2 => k_asm); (case k3 => k_asm); (case k4 => k_asm); (case k5 => k_asm); (case k6 => first | exact rfl | assumption); (case k7 => ktr_room); (case k8 => k_mem); (case k9 => k_mem); (case k10 => k_upd); k_whole); intro h' tk' F' N'; (try dsimp only); (try k_sweep); walk_say "CONTRACT setChr"))
local macro_rules | `(tactic| walk_at "call builtin:list.append") => `(tactic| (k_here; (with_reducible show wpAny _ _ (call (Value.builtin _) [Value.ref _, Value.none]) _ _ _); k_dflt (refine' append_none ?k1 ?k2 ?k3 ?k4 ?_; (case k1 => k_asm); (case k2 => k_asm); (case k3 => k_upd); (case k4 => first | assumption | omega); k_whole); intro h' F' N'; (try dsimp only); (try k_sweep); walk_say "APPEND none"))
local macro_rules | `(tactic| walk_at "call builtin:list.extend") => `(tactic| (k_here; (with_reducible show wpAny _ _ (call (Value.builtin _) [Value.ref _, Value.ref _]) _ _ _); k_dflt (refine' extend_none ?k1 ?k2 ?k3 ?k4 ?k5 ?k6 ?_; (case k1 => k_asm); (case k2 => k_asm); (case k3 => k_updF); (case k4 => k_mem); (case k5 => rfl); (case k6 => first | assumption | omega | (show _ + 2 ≤ _; omega) | (show _ + 5 ≤ _; omega)); k_whole); intro h' n' F' N'; (try dsimp only at N'); (try k_sweep); walk_say "EXTEND none"))
local macro_rules | `(tactic| walk_at "compareOp In int ref") => `(tactic| (k_here; k_dflt (refine' in_ints ?k1 ?k2 ?k3 ?_; (case k1 => k_asm); (case k2 => k_mem); (case k3 => k_asm); k_whole); walk_say "IN ints"))
local macro_rules | `(tactic| walk_at "compareOp NotIn int ref") => `(tactic| (k_here; k_dflt (refine' notin_ints ?k1 ?k2 ?k3 ?_; (case k1 => k_asm); (case k2 => k_mem); (case k3 => k_asm); k_whole); walk_say "NOTIN ints"))
local macro_rules | `(tactic| walk_at "subscriptTail") => `(tactic| (k_here; (with_reducible show wpAny _ _ (subscriptTail _ _ (Value.ref _) (Value.int _ _)) _ _ _); (with_unfolding_all refine' item_src ?k1 ?k2 ?k3 ?k4 ?_ ?k6; (case k1 => k_asm); (case k2 => k_mem); (case k3 => first | assumption | omega); (case k4 => first | assumption | omega); (case k6 => with_unfolding_all rfl); k_whole); walk_say "ITEM src"))
local macro_rules | `(tactic| walk_at "subscriptTail Name Constant ref int") => `(tactic| (k_here; (with_unfolding_all refine' item0 ?k1 ?k2 ?k3 ?_ ?k6; (case k1 => k_asm); (case k2 => k_mem); (case k3 => assumption); (case k6 => with_unfolding_all rfl); k_whole); walk_say "ITEM 0"))

variable {w : World} {h₀ : Heap} {L fa : Addr} {cd : Value} {m : Str → Option Value} {news : List (Addr × Obj)} {s : Shared} {mean : ExcName → Option Value} {mg mb : Str → Option Value}
  {σ δ : Nat → Addr} {sl an gl fd : Addr} {Xs : List (Addr × Obj)} {D : Nat → Src} {par : Nat → Nat} {q : Nat} {hs : List Nat} {ha : Nat → Addr} {had : Nat → List Nat} {kvs : List (Int × Value)} {hf rank : Nat → Nat} {v : Value}
local macro_rules | `(tactic| walk_at "eval ListComp") => `(tactic| (refine Halt.mk ?_))
local macro_rules | `(tactic| walk_at "CompSrcT") => `(tactic| (refine Halt.mk ?_))
local macro_rules | `(tactic| walk_at "binaryOp Add ref ref") => `(tactic| (refine Halt.mk ?_))
abbrev u6 : { x : Stmt // uB.1[7]? = some x } := ⟨_, rfl⟩
theorem add_two {prog : Program} {w : World} {A : Around} {E : Value → Shared → Prop} {s : Shared} {h₀ : Heap} {L l b : Addr} {m : Str → Option Value} {news : List (Addr × Obj)} {vs ws : List Value} {c c2 : Nat} {Q : Value → Shared → Prop} (F : Fr h₀ L s.heap m) (N : News h₀ L s.heap news) (h1 : (l, W.listOf vs.toArray c) ∈ news) (h2 : (b, W.listOf ws.toArray c2) ∈ news) (hz : vs.length + ws.length ≤ sizeLine)
    (h : ∀ D h', Fr h₀ L h' m → News h₀ L h' ((D, W.listOf (vs ++ ws).toArray 0) :: news) → (∀ p ∈ news, p.1 < D) → Q (.ref D) { s with heap := h' }) : wpAny (model prog w) A (binaryOp .Add (.ref l) (.ref b)) Q E s :=
  add_lists (hsz := hz) F N ⟨_, N.get h1, rfl, c, rfl⟩ ⟨_, N.get h2, rfl, c2, rfl⟩ (fun h' F' N' => h _ h' F' N' fun p hp => Heap.lt_size (N p hp).1)
theorem turnU6 {Q : Flow → Shared → Prop} {E : Value → Shared → Prop} {u : Str → Option Value} {one two : Value} {of os : Obj} {a b : Nat} (B : Below callerA h₀ [] h₀) (F : Fr h₀ L s.heap (frm2 sl an gl fd one two u)) (X : (hd.heap_39 w.params).In h₀) (N : News h₀ L s.heap news) (T : Top hd.view_39 (looseW hd.view_39 []) mean mg mb h₀)
    (M : LSt w σ δ sl an L Xs D par q gl fd hs ha had kvs news) (hcf : (L + 1 + 1, of) ∈ news) (hdf : of.data = .cell (some (.ref (ha a)))) (hcs : (L + 1 + 1 + 1, os) ∈ news) (hds : os.data = .cell (some (.ref (ha b)))) (ha8 : a < 8) (hb8 : b < 8)
    (h8 : ∀ h ∈ hs, h < 8) (hl8 : hs.length ≤ 8) (hh0 : ∀ h, h < 8 → ∃ r, had h = h :: r) (hlen : ∀ h, h < 8 → (had h).length ≤ 8)
    (ret : ∀ h' tk' news' gl' na u', Fr h₀ L h' (frm2 sl an gl' fd one two u') → News h₀ L h' news' → (∀ p ∈ news, p ∈ news') →
      LSt w σ δ sl an L Xs D par q gl' fd (hs.filter (fun h => !(h == a || h == b)) ++ [a]) (fun k => if k = a then na else ha k) (fun k => if k = a then had a ++ had b else had k) kvs news' → Q .next { s with heap := h', toks := tk' }) :
    wpAny (model PySem.Challenge.rw_kn0108_01.row.prog w) (lawA L fa cd) (exec u6.1 (lawEnv L fa cd)) Q E s := by
  revert X; k_fill; intro X
  w_on
  dsimp only [u6, uB, mainB, lawA, lawEnv, lawBS]
  have dN := dis_of N
  obtain ⟨vsa, ca, hma, hia⟩ := M.hads a ha8
  obtain ⟨vsb, cb, hmb, hib⟩ := M.hads b hb8
  obtain ⟨ra, ea⟩ := hh0 a ha8
  obtain ⟨rb, eb⟩ := hh0 b hb8
  obtain ⟨ta, hta⟩ := first_int (ea ▸ hia)
  obtain ⟨tb, htb⟩ := first_int (eb ▸ hib)
  obtain ⟨c1, hgl⟩ := M.grp
  have hI2 : IntsAre [.int (a : Int) ta, .int (b : Int) tb] [(a : Int), (b : Int)] := .cons _ _ (.cons _ _ .nil)
  k_steps
  refine LCt.ListComp_T (F₀ := F) (by with_unfolding_all rfl) (by decide) (by rfl) (by decide) (by rfl) ?_
  k_steps
  refine LCt.CompSrcT.ledger (by rfl) F N hgl (by rw [sizeLine_eq]; simp; omega) ?_
  intro g
  rw [show (hs.map fun h => Value.ref (ha h)).toArray.size = hs.length by simp]
  refine rest_filter (fun h => !(h == a || h == b)) ?_ ?_
  · intro h hh Kt Kf ys I oI C oC D' m₂ g' tk' E' hC hm F2 N2 off ne ht hf'
    obtain ⟨vs, c2, hvs, hi⟩ := M.hads h (h8 h hh)
    obtain ⟨rh, eh⟩ := hh0 h (h8 h hh)
    obtain ⟨th, hth⟩ := first_int (eh ▸ hi)
    have e : (!([(a : Int), (b : Int)].any (· == (h : Int)))) = !(h == a || h == b) := by
      congr 1
      rw [Bool.eq_iff_iff]
      simp only [List.any_cons, List.any_nil, Bool.or_false, Bool.or_eq_true, beq_iff_eq]
      omega
    rw [← e] at ht hf'
    k_steps
    all_goals (
      (rename News _ _ _ _ => N5)
      (rename Fr _ _ _ _ => F5)
      (first
        | exact ⟨_, _, news, rfl, F5, fun p hp => N5 p (.tail _ hp), off, .inr ⟨_, hgl, rfl, _, rfl⟩, ht (by (rename List.any _ _ = _ => hc); rw [hc]; rfl)⟩
        | exact ⟨_, _, news, rfl, F5, fun p hp => N5 p (.tail _ hp), off, .inr ⟨_, hgl, rfl, _, rfl⟩, hf' (by (rename List.any _ _ = _ => hc); rw [hc]; rfl)⟩))
  · intro D2 g2 tk2 F2 N2 off2
    obtain ⟨r1, han⟩ := M.ans
    have la := hia.length
    have lb := hib.length
    have hla := hlen a ha8
    have hlb := hlen b hb8
    simp only [List.length_map] at la lb
    k_steps
    refine add_two F2 N2 (.tail _ hma) (.tail _ hmb) (by rw [sizeLine_eq]; omega) ?_
    intro na g3 F3 N3 l3
    k_steps
    rename News _ _ _ _ => N4
    rename Fr _ _ _ _ => F4
    refine add_two F4 N4 (.tail _ (.tail _ (.head _))) (.head _) ?_ ?_
    · rw [sizeLine_eq]
      have := List.length_filter_le (fun h => !(h == a || h == b)) hs
      simp only [List.length_map, List.length_cons, List.length_nil]
      omega
    intro gl2 g5 F5 N5 l5
    k_steps
    rename News _ _ _ _ => N6
    rename Fr _ _ _ _ => F6
    refine ret _ _ _ gl2 na _ (to_frm2 F6 rfl rfl rfl rfl rfl rfl) N6 (fun p hp => .tail _ (.tail _ (.tail _ (.tail _ hp)))) (M.joined (fun p hp => .tail _ (.tail _ (.tail _ (.tail _ hp)))) (.head _) (.tail _ (.tail _ (.head _))) (by rw [List.map_append]; exact hia.append hib) ?_ ?_)
    · exact ap_fresh M.has han fun p hp => l5 p (.tail _ (.tail _ (.tail _ hp)))
    · exact ap_fresh M.has han fun p hp => l3 p (.tail _ hp)
end
end Mine
end

-- part 13
section
open PySem PySem.W PySem.Calls PyProof.Rows PyProof.V PySem.Spec
set_option Elab.async false
namespace Mine
/-! the plain law: what a join makes of the groups -/
theorem valueAt_self (kvs : List (Int × Value)) (k : Int) (v : Value) : valueAt (stored kvs k v) k = some v := by
  unfold stored
  split
  · rename_i h
    unfold valueAt
    induction kvs with
    | nil => cases h
    | cons e r ih =>
      rw [List.map_cons, List.find?_cons]
      by_cases he : e.1 = k
      · simp [he]
      · have h2 : (r.any fun kv => kv.1 = k) = true := by simpa [List.any_cons, he] using h
        simp only [if_neg he]
        have := ih h2
        simpa [he] using this
  · rename_i h
    unfold valueAt
    rw [List.find?_append]
    have : List.find? (fun kv => decide (kv.1 = k)) kvs = none := by
      rw [List.find?_eq_none]
      intro x hx hxk
      exact h (List.any_eq_true.mpr ⟨x, hx, hxk⟩)
    rw [this]; simp
theorem find_ne (k j : Int) (v : Value) (hne : j ≠ k) : ∀ kvs : List (Int × Value), ((kvs.map fun kv => if kv.1 = k then (kv.1, v) else kv).find? fun kv => decide (kv.1 = j)) = kvs.find? fun kv => decide (kv.1 = j)
  | [] => rfl
  | e :: r => by
    have ih := find_ne k j v hne r
    rw [List.map_cons, List.find?_cons, List.find?_cons, ih]
    by_cases he : e.1 = k
    · have h1 : ¬ e.1 = j := fun q => hne (q ▸ he)
      simp only [if_pos he, decide_eq_false h1]
    · simp only [if_neg he]
theorem valueAt_ne (kvs : List (Int × Value)) (k j : Int) (v : Value) (hne : j ≠ k) : valueAt (stored kvs k v) j = valueAt kvs j := by
  unfold stored
  split
  · unfold valueAt
    rw [find_ne k j v hne]
  · unfold valueAt
    rw [List.find?_append]
    cases List.find? (fun kv => decide (kv.1 = j)) kvs with
    | some x => rfl
    | none => simp [Ne.symm hne]
theorem one_out {p : Nat → Bool} {c : Nat} (pc : p c = false) : ∀ {r : List Nat}, c ∈ r → (r.filter p).length + 1 ≤ r.length
  | [], hc => nomatch hc
  | y :: s, hc => by
    have le2 := List.length_filter_le p s
    rw [List.filter_cons]
    by_cases hy : p y = true
    · rw [if_pos hy, List.length_cons, List.length_cons]
      have : c ∈ s := by
        rcases List.mem_cons.mp hc with rfl | h
        · rw [pc] at hy; cases hy
        · exact h
      have := one_out pc this
      omega
    · rw [if_neg hy, List.length_cons]; omega
theorem nodup_len : ∀ (n : Nat) (l : List Nat), l.Nodup → (∀ j ∈ l, j < n) → l.length ≤ n := by
  intro n
  induction n with
  | zero =>
    intro l _ h
    cases l with
    | nil => exact Nat.le_refl _
    | cons a r => exact absurd (h a (.head _)) (Nat.not_lt_zero _)
  | succ n ih =>
    intro l hn h
    have h1 := ih (l.filter (· != n)) (hn.filter _) (fun j hj => by
      obtain ⟨h1, h2⟩ := List.mem_filter.mp hj
      have := h j h1
      have h2 : j ≠ n := by simpa using h2
      omega)
    have h2 : l.length ≤ (l.filter (· != n)).length + 1 := by
      clear ih h h1
      induction l with
      | nil => exact Nat.zero_le _
      | cons a r ih =>
        have hr := ih (List.nodup_cons.mp hn).2
        by_cases e : a = n
        · subst e
          have : r.filter (· != a) = r := List.filter_eq_self.mpr fun x hx => by
            have : x ≠ a := fun q => (List.nodup_cons.mp hn).1 (q ▸ hx)
            simpa using this
          simp [this]
        · have : (a != n) = true := by simpa using e
          rw [List.filter_cons, if_pos this, List.length_cons, List.length_cons]
          omega
    omega
theorem two_out {l : List Nat} {p : Nat → Bool} {a b : Nat} (ha : a ∈ l) (hb : b ∈ l) (hab : a ≠ b) (pa : p a = false) (pb : p b = false) : (l.filter p).length + 2 ≤ l.length := by
  induction l with
  | nil => cases ha
  | cons x r ih =>
    have le1 := List.length_filter_le p r
    rw [List.filter_cons]
    by_cases hx : p x = true
    · rw [if_pos hx, List.length_cons, List.length_cons]
      have ha' : a ∈ r := by
        rcases List.mem_cons.mp ha with rfl | h
        · rw [pa] at hx; cases hx
        · exact h
      have hb' : b ∈ r := by
        rcases List.mem_cons.mp hb with rfl | h
        · rw [pb] at hx; cases hx
        · exact h
      have := ih ha' hb'
      omega
    · rw [if_neg hx, List.length_cons]
      have one : ∀ c, c ∈ r → p c = false → (r.filter p).length + 1 ≤ r.length := fun c hc pc => one_out pc hc
      by_cases hxa : x = a
      · have hb' : b ∈ r := by
          rcases List.mem_cons.mp hb with rfl | h
          · exact absurd hxa.symm hab
          · exact h
        have := one b hb' pb
        omega
      · have ha' : a ∈ r := by
          rcases List.mem_cons.mp ha with rfl | h
          · exact absurd rfl hxa
          · exact h
        have := one a ha' pa
        omega

theorem foldl_min (x : Nat) : ∀ (l : List Nat) (y : Nat), l.foldl min (min x y) = min x (l.foldl min y)
  | [], _ => rfl
  | a :: r, y => by rw [List.foldl_cons, List.foldl_cons, Nat.min_assoc, foldl_min x r]
theorem lmin_app (a b : Nat) (ra rb : List Nat) : lmin ((a :: ra) ++ (b :: rb)) = min (lmin (a :: ra)) (lmin (b :: rb)) := by
  show (ra ++ b :: rb).foldl min a = min (ra.foldl min a) (rb.foldl min b)
  rw [List.foldl_append, List.foldl_cons, foldl_min]
theorem lmin_if {g g' : List Nat} (h : ∃ a r, g = a :: r) (h' : ∃ a r, g' = a :: r) : (if (lmin g' : Int) < (lmin g : Int) then (lmin g' : Int) else (lmin g : Int)) = (lmin (g ++ g') : Int) := by
  obtain ⟨a, r, rfl⟩ := h
  obtain ⟨b, r', rfl⟩ := h'
  rw [lmin_app]
  split <;> omega
theorem bys_app (g g' : List Nat) : bys g ++ bys g' = bys (g ++ g') := by simp [bys]
theorem chs_app (g g' : List Nat) : chs g ++ chs g' = chs (g ++ g') := by
  apply Str.ext'
  rw [Str.cps_append]
  simp [chs]

structure PInv (D : Nat → Src) (par hf rank : Nat → Nat) (hs : List Nat) (ha : Nat → Addr) (had : Nat → List Nat) (kvs : List (Int × Value)) : Prop where
  fi : FI par hf rank
  h8 : ∀ h, h ∈ hs → h < 8 ∧ hf h = h
  all : ∀ k, k < 8 → hf k ∈ hs
  len : kvs.length + hs.length ≤ 8
  mem : ∀ h, h ∈ hs → ∀ k, k < 8 → (k ∈ had h ↔ hf k = h)
  hd0 : ∀ k, k < 8 → ∃ r, had k = k :: r
  lt8 : ∀ k, k < 8 → ∀ j, j ∈ had k → j < 8
  nd : ∀ k, k < 8 → (had k).Nodup
  rk : ∀ k, k < 8 → rank k < (had (hf k)).length
  fld : ∀ k, k < 8 → Flds (D k) (had k)
  frm : ∀ k, k < 8 → hf k ≠ k → valueAt kvs (k : Int) = some (.ref (ha k))
section
variable {D D' : Nat → Src} {par hf rank : Nat → Nat} {hs : List Nat} {ha : Nat → Addr} {had : Nat → List Nat} {kvs : List (Int × Value)}
theorem PInv.par_fi {par' : Nat → Nat} (P : PInv D par hf rank hs ha had kvs) (I : FI par' hf rank) : PInv D par' hf rank hs ha had kvs :=
  ⟨I, P.h8, P.all, P.len, P.mem, P.hd0, P.lt8, P.nd, P.rk, P.fld, P.frm⟩
theorem PInv.len8 (P : PInv D par hf rank hs ha had kvs) {k : Nat} (hk : k < 8) : (had k).length ≤ 8 := nodup_len 8 _ (P.nd k hk) (P.lt8 k hk)
theorem PInv.first (P : PInv D par hf rank hs ha had kvs) {i : Nat} (hi : i < 8) : ((hs.filter fun h => (had h).contains i).map fun h => Value.ref (ha h))[0]? = some (.ref (ha (hf i))) := by
  have h1 : hf i ∈ hs.filter fun h => (had h).contains i := List.mem_filter.mpr ⟨P.all i hi, by rw [List.contains_iff_mem]; exact (P.mem _ (P.all i hi) i hi).mpr rfl⟩
  have h2 : ∀ h ∈ hs.filter (fun h => (had h).contains i), h = hf i := fun h hh => by
    obtain ⟨a, b⟩ := List.mem_filter.mp hh
    rw [List.contains_iff_mem] at b
    exact ((P.mem h a i hi).mp b).symm
  cases e : hs.filter (fun h => (had h).contains i) with
  | nil => rw [e] at h1; cases h1
  | cons x r =>
    have := h2 x (by rw [e]; exact .head _)
    rw [this]; rfl
theorem PInv.join (P : PInv D par hf rank hs ha had kvs) {a b : Nat} {na : Addr} (ha8 : a < 8) (hb8 : b < 8) (hab : a ≠ b) (haa : hf a = a) (hbb : hf b = b)
    (hD : ∀ k, k ≠ a → D' k = D k) (hDa : Flds (D' a) (had a ++ had b)) :
    PInv D' (fun k => if k = b then a else par k) (fun k => if hf k = b then a else hf k) (fun k => if hf k = b then rank k + (had a).length else rank k) (hs.filter (fun h => !(h == a || h == b)) ++ [a])
      (fun k => if k = a then na else ha k) (fun k => if k = a then had a ++ had b else had k) (stored kvs (b : Int) (.ref (ha b))) := by
  have hba : b ≠ a := fun e => hab e.symm
  have ina : a ∈ hs := haa ▸ P.all a ha8
  have inb : b ∈ hs := hbb ▸ P.all b hb8
  have filt : ∀ h, h ∈ hs.filter (fun h => !(h == a || h == b)) ↔ h ∈ hs ∧ h ≠ a ∧ h ≠ b := by
    intro h
    rw [List.mem_filter]
    simp
  have lt8 : ∀ k, k < 8 → ∀ j, j ∈ (if k = a then had a ++ had b else had k) → j < 8 := by
    intro k hk j hj
    split at hj
    · rcases List.mem_append.mp hj with h | h
      · exact P.lt8 a ha8 j h
      · exact P.lt8 b hb8 j h
    · exact P.lt8 k hk j hj
  have nd : ∀ k, k < 8 → (if k = a then had a ++ had b else had k).Nodup := by
    intro k hk
    split
    · refine List.nodup_append.mpr ⟨P.nd a ha8, P.nd b hb8, ?_⟩
      intro x hx y hy e
      subst e
      have x8 := P.lt8 a ha8 x hx
      have h1 := (P.mem a ina x x8).mp hx
      have h2 := (P.mem b inb x x8).mp hy
      exact hab (h1.symm.trans h2)
    · exact P.nd k hk
  have rk : ∀ k, k < 8 → (if hf k = b then rank k + (had a).length else rank k) < (if (if hf k = b then a else hf k) = a then had a ++ had b else had (if hf k = b then a else hf k)).length := by
    intro k hk
    have := P.rk k hk
    by_cases e : hf k = b
    · rw [if_pos e, if_pos e, if_pos rfl, List.length_append]
      rw [e] at this
      omega
    · rw [if_neg e, if_neg e]
      by_cases e2 : hf k = a
      · rw [if_pos e2, List.length_append]
        rw [e2] at this
        omega
      · rw [if_neg e2]; exact this
  have hdl : ∀ k, k < 8 → (if hf k = b then a else hf k) < 8 := fun k hk => by
    split
    · exact ha8
    · exact P.fi.hd_lt k hk
  refine ⟨⟨fun k hk => ?_, hdl, fun k hk => ?_, fun k hk => ?_, fun k hk => ?_, fun k hk => ?_, fun k hk => ?_⟩, fun h hh => ?_, fun k hk => ?_, ?_, fun h hh k hk => ?_, fun k hk => ?_, lt8, nd, rk, fun k hk => ?_, fun k hk hne => ?_⟩
  · split
    · exact ha8
    · exact P.fi.par_lt k hk
  · by_cases e : k = b
    · subst e
      rw [if_pos rfl, haa, if_neg hab, hbb, if_pos rfl]
    · rw [if_neg e, P.fi.hd_par k hk]
  · by_cases e : hf k = b
    · rw [if_pos e, haa, if_neg hab]
    · rw [if_neg e, P.fi.hd_hd k hk, if_neg e]
  · by_cases e : k = b
    · subst e
      rw [if_pos rfl, hbb, if_pos rfl]
      exact ⟨fun q => absurd q hab, fun q => absurd q.symm hab⟩
    · rw [if_neg e, P.fi.top k hk]
      by_cases e2 : hf k = b
      · rw [if_pos e2, e2]
        constructor
        · intro q; exact absurd q e
        · intro q
          rw [q, haa] at e2
          exact absurd e2 hab
      · rw [if_neg e2]
  · by_cases e : k = b
    · subst e
      rw [if_pos rfl, haa, if_neg hab, hbb, if_pos rfl]
      intro _
      have := P.rk a ha8
      rw [haa] at this
      omega
    · rw [if_neg e, P.fi.hd_par k hk]
      intro hp
      have := P.fi.down k hk hp
      split <;> omega
  · have h1 := rk k hk
    have h2 := nodup_len 8 _ (nd _ (hdl k hk)) (lt8 _ (hdl k hk))
    omega
  · rcases List.mem_append.mp hh with hh | hh
    · obtain ⟨h1, h2, h3⟩ := (filt h).mp hh
      obtain ⟨h4, h5⟩ := P.h8 h h1
      rw [h5, if_neg h3]
      exact ⟨h4, rfl⟩
    · rw [List.mem_singleton.mp hh]
      rw [haa, if_neg hab]
      exact ⟨ha8, rfl⟩
  · by_cases e : hf k = b
    · rw [if_pos e]; exact List.mem_append_right _ (.head _)
    · rw [if_neg e]
      by_cases e2 : hf k = a
      · rw [e2]; exact List.mem_append_right _ (.head _)
      · exact List.mem_append_left _ ((filt _).mpr ⟨P.all k hk, e2, e⟩)
  · have h1 := stored_length_le kvs (b : Int) (.ref (ha b))
    have h2 := two_out (p := fun h => !(h == a || h == b)) ina inb hab (by simp) (by simp)
    have := P.len
    rw [List.length_append, List.length_singleton]
    omega
  · rcases List.mem_append.mp hh with hh | hh
    · obtain ⟨h1, h2, h3⟩ := (filt h).mp hh
      rw [if_neg h2, P.mem h h1 k hk]
      by_cases e : hf k = b
      · rw [if_pos e, e]
        exact ⟨fun q => absurd q.symm h3, fun q => absurd q.symm h2⟩
      · rw [if_neg e]
    · rw [List.mem_singleton.mp hh]
      rw [if_pos rfl, List.mem_append, P.mem a ina k hk, P.mem b inb k hk]
      by_cases e : hf k = b
      · rw [if_pos e]; exact ⟨fun _ => rfl, fun _ => .inr e⟩
      · rw [if_neg e]
        exact ⟨fun q => q.resolve_right e, .inl⟩
  · by_cases e : k = a
    · subst e
      obtain ⟨r, h⟩ := P.hd0 k hk
      exact ⟨r ++ had b, by rw [if_pos rfl, h]; rfl⟩
    · rw [if_neg e]; exact P.hd0 k hk
  · by_cases e : k = a
    · subst e; rw [if_pos rfl]; exact hDa
    · rw [if_neg e, hD k e]; exact P.fld k hk
  · by_cases e : k = b
    · subst e
      rw [if_neg hba]
      exact valueAt_self _ _ _
    · rw [valueAt_ne _ _ _ _ (fun q => e (by omega))]
      by_cases e2 : k = a
      · subst e2
        rw [haa, if_neg hab] at hne
        exact absurd rfl hne
      · rw [if_neg e2]
        refine P.frm k hk fun q => ?_
        rw [q, if_neg e] at hne
        exact hne rfl
end
end Mine
end

-- part 14
section
open PySem PySem.W PySem.Calls PyProof.Rows PyProof.V PySem.Spec
set_option Elab.async false
set_option maxRecDepth 100000
namespace Mine
section
set_option maxHeartbeats 4000000
local macro_rules | `(tactic| k_mem) => `(tactic| ((show Membership.mem (γ := List (Addr × Obj)) _ _); with_reducible assumption))
local macro_rules | `(tactic| walk_at "call ref") => `(tactic| (k_here; (with_reducible show wpAny _ _ (call (Value.ref 57) _ _) _ _ _); k_dflt (refine' getSys ?k1 ?k2 ?k3 ?k4 ?k5 ?k6 ?k7 ?k8 ?k9 ?k10 ?_; (case k1 => k_asm); (case k2 => k_asm); (case k3 => k_asm); (case k4 => k_asm); (case k5 => k_asm); (case k6 => first | exact rfl | assumption); (case k7 => ktr_room); (case k8 => k_mem); (case k9 => k_mem); (case k10 => first | k_handed | assumption); k_whole); intro h' tk' F' N'; (try dsimp only); (try k_sweep); walk_say "CONTRACT getSys"))
local macro_rules | `(tactic| walk_at "call ref") => `(tactic| (k_here; (with_reducible show wpAny _ _ (call (Value.ref 43) _ _) _ _ _); k_dflt (refine' getPub ?k1 ?k2 ?k3 ?k4 ?k5 ?k6 ?k7 ?k8 ?k9 ?k10 ?_; (case k1 => k_asm); (case k2 => k_asm); (case k3 => k_asm); (case k4 => k_asm); (case k5 => k_asm); (case k6 => first | exact rfl | assumption); (case k7 => ktr_room); (case k8 => k_mem); (case k9 => k_mem); (case k10 => first | k_handed | assumption); k_whole); intro h' tk' F' N'; (try dsimp only); (try k_sweep); walk_say "CONTRACT getPub"))
local macro_rules | `(tactic| walk_at "call ref") => `(tactic| (k_here; (with_reducible show wpAny _ _ (call (Value.ref 71) _ _) _ _ _); k_dflt (refine' getEnc ?k1 ?k2 ?k3 ?k4 ?k5 ?k6 ?k7 ?k8 ?k9 ?k10 ?_; (case k1 => k_asm); (case k2 => k_asm); (case k3 => k_asm); (case k4 => k_asm); (case k5 => k_asm); (case k6 => first | exact rfl | assumption); (case k7 => ktr_room); (case k8 => k_mem); (case k9 => k_mem); (case k10 => first | k_handed | assumption); k_whole); intro h' tk' F' N'; (try dsimp only); (try k_sweep); walk_say "CONTRACT getEnc"))
local macro_rules | `(tactic| walk_at "call ref") => `(tactic| (k_here; (with_reducible show wpAny _ _ (call (Value.ref 85) _ _) _ _ _); k_dflt (refine' getByt ?k1 ?k2 ?k3 ?k4 ?k5 ?k6 ?k7 ?k8 ?k9 ?k10 ?_; (case k1 => k_asm); (case k2 => k_asm); (case k3 => k_asm); (case k4 => k_asm); (case k5 => k_asm); (case k6 => first | exact rfl | assumption); (case k7 => ktr_room); (case k8 => k_mem); (case k9 => k_mem); (case k10 => first | k_handed | assumption); k_whole); intro h' tk' F' N'; (try dsimp only); (try k_sweep); walk_say "CONTRACT getByt"))
local macro_rules | `(tactic| walk_at "call ref") => `(tactic| (k_here; (with_reducible show wpAny _ _ (call (Value.ref 99) _ _) _ _ _); k_dflt (refine' getChr ?k1 ?k2 ?k3 ?k4 ?k5 ?k6 ?k7 ?k8 ?k9 ?k10 ?_; (case k1 => k_asm); (case k2 => k_asm); (case k3 => k_asm); (case k4 => k_asm); (case k5 => k_asm); (case k6 => first | exact rfl | assumption); (case k7 => ktr_room); (case k8 => k_mem); (case k9 => k_mem); (case k10 => first | k_handed | assumption); k_whole); intro h' tk' F' N'; (try dsimp only); (try k_sweep); walk_say "CONTRACT getChr"))
local macro_rules | `(tactic| walk_at "call ref") => `(tactic| (k_here; (with_reducible show wpAny _ _ (call (Value.ref 50) _ _) _ _ _); k_dflt (refine' setSys ?k1 ?k2 ?k3 ?k4 ?k5 ?k6 ?k7 ?k8 ?k9 ?k10 ?_; (case k1 => k_asm); (case k2 => k_asm); (case k3 => k_asm); (case k4 => k_asm); (case k5 => k_asm); (case k6 => first | exact rfl | assumption); (case k7 => ktr_room); (case k8 => k_mem); (case k9 => k_mem); (case k10 => k_upd); k_whole); intro h' tk' F' N'; (try dsimp only); (try k_sweep); walk_say "CONTRACT setSys"))
local macro_rules | `(tactic| walk_at "call ref") => `(tactic| (k_here; (with_reducible show wpAny _ _ (call (Value.ref 36) _ _) _ _ _); k_dflt (refine' setPub ?k1 ?k2 ?k3 ?k4 ?k5 ?k6 ?k7 ?k8 ?k9 ?k10 ?_; (case k1 => k_asm); (case k2 => k_asm); (case k3 => k_asm); (case k4 => k_asm); (case k5 => k_asm); (case k6 => first | exact rfl | assumption); (case k7 => ktr_room); (case k8 => k_mem); (case k9 => k_mem); (case k10 => k_upd); k_whole); intro h' tk' F' N'; (try dsimp only); (try k_sweep); walk_say "CONTRACT setPub"))
local macro_rules | `(tactic| walk_at "call ref") => `(tactic| (k_here; (with_reducible show wpAny _ _ (call (Value.ref 64) _ _) _ _ _); k_dflt (refine' setEnc ?k1 ?k2 ?k3 ?k4 ?k5 ?k6 ?k7 ?k8 ?k9 ?k10 ?_; (case k1 => k_asm); (case k2 => k_asm); (case k3 => k_asm); (case k4 => k_asm); (case k5 => k_asm); (case k6 => first | exact rfl | assumption); (case k7 => ktr_room); (case k8 => k_mem); (case k9 => k_mem); (case k10 => k_upd); k_whole); intro h' tk' F' N'; (try dsimp only); (try k_sweep); walk_say "CONTRACT setEnc"))
local macro_rules | `(tactic| walk_at "call ref") => `(tactic| (k_here; (with_reducible show wpAny _ _ (call (Value.ref 78) _ _) _ _ _); k_dflt (refine' setByt ?k1 ?k2 ?k3 ?k4 ?k5 ?k6 ?k7 ?k8 ?k9 ?k10 ?_; (case k1 => k_asm); (case k2 => k_asm); (case k3 => k_asm); (case k4 => k_asm); (case k5 => k_asm); (case k6 => first | exact rfl | assumption); (case k7 => ktr_room); (case k8 => k_mem); (case k9 => k_mem); (case k10 => k_upd); k_whole); intro h' tk' F' N'; (try dsimp only); (try k_sweep); walk_say "CONTRACT setByt"))
local macro_rules | `(tactic| walk_at "call ref") => `(tactic| (k_here; (with_reducible show wpAny _ _ (call (Value.ref 92) _ _) _ _ _); k_dflt (refine' setChr ?k1 ?k2 ?k3 ?k4 ?k5 ?k6 ?k7 ?k8 ?k9 ?k10 ?_; (case k1 => k_asm); (case k2 => k_asm); (case k3 => k_asm); (case k4 => k_asm); (case k5 => k_asm); (case k6 => first | exact rfl | assumption); (case k7 => ktr_room); (case k8 => k_mem); (case k9 => k_mem); (case k10 => k_upd); k_whole); intro h' tk' F' N'; (try dsimp only); (try k_sweep); walk_say "CONTRACT setChr"))
local macro_rules | `(tactic| walk_at "call builtin:list.append") => `(tactic| (k_here; (with_reducible show wpAny _ _ (call (Value.builtin _) [Value.ref _, Value.none]) _ _ _); k_dflt (refine' append_none ?k1 ?k2 ?k3 ?k4 ?_; (case k1 => k_asm); (case k2 => k_asm); (case k3 => k_upd); (case k4 => first | assumption | omega); k_whole); intro h' F' N'; (try dsimp only); (try k_sweep); walk_say "APPEND none"))
local macro_rules | `(tactic| walk_at "call builtin:list.extend") => `(tactic| (k_here; (with_reducible show wpAny _ _ (call (Value.builtin _) [Value.ref _, Value.ref _]) _ _ _); k_dflt (refine' extend_none ?k1 ?k2 ?k3 ?k4 ?k5 ?k6 ?_; (case k1 => k_asm); (case k2 => k_asm); (case k3 => k_updF); (case k4 => k_mem); (case k5 => rfl); (case k6 => first | assumption | omega | (show _ + 2 ≤ _; omega) | (show _ + 5 ≤ _; omega)); k_whole); intro h' n' F' N'; (try dsimp only at N'); (try k_sweep); walk_say "EXTEND none"))
local macro_rules | `(tactic| walk_at "compareOp In int ref") => `(tactic| (k_here; k_dflt (refine' in_ints ?k1 ?k2 ?k3 ?_; (case k1 => k_asm); (case k2 => k_mem); (case k3 => k_asm); k_whole); walk_say "IN ints"))
local macro_rules | `(tactic| walk_at "compareOp NotIn int ref") => `(tactic| (k_here; k_dflt (refine' notin_ints ?k1 ?k2 ?k3 ?_; (case k1 => k_asm); (case k2 => k_mem); (case k3 => k_asm); k_whole); walk_say "NOTIN ints"))
local macro_rules | `(tactic| walk_at "subscriptTail") => `(tactic| (k_here; (with_reducible show wpAny _ _ (subscriptTail _ _ (Value.ref _) (Value.int _ _)) _ _ _); (with_unfolding_all refine' item_src ?k1 ?k2 ?k3 ?k4 ?_ ?k6; (case k1 => k_asm); (case k2 => k_mem); (case k3 => first | assumption | omega); (case k4 => first | assumption | omega); (case k6 => with_unfolding_all rfl); k_whole); walk_say "ITEM src"))
local macro_rules | `(tactic| walk_at "subscriptTail Name Constant ref int") => `(tactic| (k_here; (with_unfolding_all refine' item0 ?k1 ?k2 ?k3 ?_ ?k6; (case k1 => k_asm); (case k2 => k_mem); (case k3 => assumption); (case k6 => with_unfolding_all rfl); k_whole); walk_say "ITEM 0"))

variable {w : World} {h₀ : Heap} {L fa : Addr} {cd : Value} {m : Str → Option Value} {news : List (Addr × Obj)} {s : Shared} {mean : ExcName → Option Value} {mg mb : Str → Option Value}
  {σ δ : Nat → Addr} {sl an gl fd : Addr} {Xs : List (Addr × Obj)} {D : Nat → Src} {par : Nat → Nat} {q : Nat} {hs : List Nat} {ha : Nat → Addr} {had : Nat → List Nat} {kvs : List (Int × Value)} {hf rank : Nat → Nat} {v : Value}

theorem turnU {Q : Flow → Shared → Prop} {E : Value → Shared → Prop} {u : Str → Option Value} {of os : Obj} {a b : Nat} (B : Below callerA h₀ [] h₀) (F : Fr h₀ L s.heap (frm2 sl an gl fd (.ref (σ a)) (.ref (σ b)) u)) (X : (hd.heap_39 w.params).In h₀) (N : News h₀ L s.heap news) (T : Top hd.view_39 (looseW hd.view_39 []) mean mg mb h₀)
    (S : Sep σ δ) (M : LSt w σ δ sl an L Xs D par q gl fd hs ha had kvs news) (P : PInv D par hf rank hs ha had kvs) (hq : q ≤ 100000) (hcf : (L + 1 + 1, of) ∈ news) (hdf : of.data = .cell (some (.ref (ha a)))) (hcs : (L + 1 + 1 + 1, os) ∈ news) (hds : os.data = .cell (some (.ref (ha b))))
    (ha8 : a < 8) (hb8 : b < 8) (hab : a ≠ b) (haa : hf a = a) (hbb : hf b = b)
    (ret : ∀ h' tk' news' gl' D' par' hf' rank' hs' ha' had' kvs' q' u', Fr h₀ L h' (frm2 sl an gl' fd (.ref (σ a)) (.ref (σ b)) u') → News h₀ L h' news' → LSt w σ δ sl an L Xs D' par' q' gl' fd hs' ha' had' kvs' news' → PInv D' par' hf' rank' hs' ha' had' kvs' → q' ≤ q + 5 → Q .next { s with heap := h', toks := tk' }) :
    wpAny (model PySem.Challenge.rw_kn0108_01.row.prog w) (lawA L fa cd) (execs [u1.1, u2.1, u3.1, u4.1, u5.1, u6.1] (lawEnv L fa cd)) Q E s := by
  obtain ⟨ta, hpa⟩ := (P.fld a ha8).pub
  obtain ⟨tb, hpb⟩ := (P.fld b hb8).pub
  obtain ⟨tae, hea⟩ := (P.fld a ha8).enc
  obtain ⟨tbe, heb⟩ := (P.fld b hb8).enc
  obtain ⟨tay, hya⟩ := (P.fld a ha8).byt
  obtain ⟨tby, hyb⟩ := (P.fld b hb8).byt
  obtain ⟨tac, hca⟩ := (P.fld a ha8).chr
  obtain ⟨tbc, hcb⟩ := (P.fld b hb8).chr
  have hba : b ≠ a := fun e => hab e.symm
  have la := P.len8 ha8
  have lb := P.len8 hb8
  -- a cell stays where the answers and the dicts turn
  have cell : ∀ {news news' : List (Addr × Obj)} {D par q} {x o v}, Dis news → LSt w σ δ sl an L Xs D par q gl fd hs ha had kvs news → (∀ p ∈ news, p.1 ≠ an → (∀ j, j < 8 → p.1 ≠ δ j) → p ∈ news') → (x, o) ∈ news → o.data = .cell v → (x, o) ∈ news' := by
    intro news news' D par q x o v dN M kp hm hd
    obtain ⟨r, han⟩ := M.ans
    have := ap_cell dN M.has han hm hd
    exact kp _ hm this.1 this.2
  refine wpAny_execs_cons (turnU1 B F X N T S M (by omega) ha8 hb8 hab hpa hpb ?_)
  intro h1 k1 news1 t1 F1 N1 kp1 M1
  have hcf1 := cell (dis_of N) M kp1 hcf hdf
  have hcs1 := cell (dis_of N) M kp1 hcs hds
  refine wpAny_execs_cons (turnU2 B F1 X N1 T S M1 (by omega) ha8 hb8 hab (by simp only [if_true]; exact hea) (by simp only [if_neg hba]; exact heb) ?_)
  intro h2 k2 news2 t2 F2 N2 kp2 M2
  have hcf2 := cell (dis_of N1) M1 kp2 hcf1 hdf
  have hcs2 := cell (dis_of N1) M1 kp2 hcs1 hds
  refine wpAny_execs_cons (turnU3 B F2 X N2 T S M2 (by omega) ha8 hb8 hab (by simp only [if_true]; exact hya) (by simp only [if_neg hba]; exact hyb) (by simp [bys]; omega) (by simp [bys]; omega) ?_)
  intro h3 k3 news3 t3 F3 N3 kp3 M3
  have hcf3 := cell (dis_of N2) M2 kp3 hcf2 hdf
  have hcs3 := cell (dis_of N2) M2 kp3 hcs2 hds
  refine wpAny_execs_cons (turnU4 B F3 X N3 T S M3 (by omega) ha8 hb8 hab (by simp only [if_true]; exact hca) (by simp only [if_neg hba]; exact hcb) (by simp [chs, Str.length]; omega) (by simp [chs, Str.length]; omega) ?_)
  intro h4 k4 news4 t4 F4 N4 kp4 M4
  have hcf4 := cell (dis_of N3) M3 kp4 hcf3 hdf
  have hcs4 := cell (dis_of N3) M3 kp4 hcs3 hds
  obtain ⟨rb, eb⟩ := P.hd0 b hb8
  refine wpAny_execs_cons (turnU5 B F4 X N4 T M4 hcs4 hds hb8 eb (by have := P.len; omega) ?_)
  intro h5 k5 news5 F5 N5 kp5 M5
  have hcf5 : (L + 1 + 1, of) ∈ news5 := kp5 _ hcf4 (by
    obtain ⟨fo, hfo, hfd⟩ := M4.frm
    obtain ⟨-, es, ep, hfdat⟩ := dict_data hfd
    exact dis_of N4 _ _ _ _ hcf4 hfo (fun e => by rw [e, hfdat] at hdf; cases hdf))
  have hcs5 : (L + 1 + 1 + 1, os) ∈ news5 := kp5 _ hcs4 (by
    obtain ⟨fo, hfo, hfd⟩ := M4.frm
    obtain ⟨-, es, ep, hfdat⟩ := dict_data hfd
    exact dis_of N4 _ _ _ _ hcs4 hfo (fun e => by rw [e, hfdat] at hds; cases hds))
  refine wpAny_execs_cons (turnU6 B F5 X N5 T M5 hcf5 hdf hcs5 hds ha8 hb8 (fun h hh => (P.h8 h hh).1) (by have := P.len; omega) (fun h hh => P.hd0 h hh) (fun h hh => P.len8 hh) ?_)
  intro h6 k6 news6 gl6 na u6 F6 N6 sub6 M6
  refine wpAny_execs_nil (ret _ _ _ _ _ _ _ _ _ _ _ _ _ _ F6 N6 M6 (P.join ha8 hb8 hab haa hbb ?_ ?_) (by omega))
  · intro k hk
    simp only [if_neg hk]
  · simp only [if_true]
    obtain ⟨ra, ea⟩ := P.hd0 a ha8
    refine ⟨⟨t1, ?_⟩, ⟨t2, ?_⟩, ⟨t3, ?_⟩, ⟨t4, ?_⟩⟩
    · rw [List.length_append, Int.natCast_add]
    · rw [lmin_if ⟨_, _, ea⟩ ⟨_, _, eb⟩]
    · rw [bys_app]
    · rw [chs_app]
end
end Mine
end

-- part 15
section
open PySem PySem.W PySem.Calls PyProof.Rows PyProof.V PySem.Spec
set_option Elab.async false
set_option maxRecDepth 100000
namespace Mine
section
set_option maxHeartbeats 4000000
local macro_rules | `(tactic| k_mem) => `(tactic| ((show Membership.mem (γ := List (Addr × Obj)) _ _); with_reducible assumption))
local macro_rules | `(tactic| walk_at "call ref") => `(tactic| (k_here; (with_reducible show wpAny _ _ (call (Value.ref 57) _ _) _ _ _); k_dflt (refine' getSys ?k1 ?k2 ?k3 ?k4 ?k5 ?k6 ?k7 ?k8 ?k9 ?k10 ?_; (case k1 => k_asm); (case k2 => k_asm); (case k3 => k_asm); (case k4 => k_asm); (case k5 => k_asm); (case k6 => first | exact rfl | assumption); (case k7 => ktr_room); (case k8 => k_mem); (case k9 => k_mem); (case k10 => first | k_handed | assumption); k_whole); intro h' tk' F' N'; (try dsimp only); (try k_sweep); walk_say "CONTRACT getSys"))
local macro_rules | `(tactic| walk_at "call ref") => `(tactic| (k_here; (with_reducible show wpAny _ _ (call (Value.ref 43) _ _) _ _ _); k_dflt (refine' getPub ?k1 ?k2 ?k3 ?k4 ?k5 ?k6 ?k7 ?k8 ?k9 ?k10 ?_; (case k1 => k_asm); (case k2 => k_asm); (case k3 => k_asm); (case k4 => k_asm); (case k5 => k_asm); (case k6 => first | exact rfl | assumption); (case k7 => ktr_room); (case k8 => k_mem); (case k9 => k_mem); (case k10 => first | k_handed | assumption); k_whole); intro h' tk' F' N'; (try dsimp only); (try k_sweep); walk_say "CONTRACT getPub"))
local macro_rules | `(tactic| walk_at "call ref") => `(tactic| (k_here; (with_reducible show wpAny _ _ (call (Value.ref 71) _ _) _ _ _); k_dflt (refine' getEnc ?k1 ?k2 ?k3 ?k4 ?k5 ?k6 ?k7 ?k8 ?k9 ?k10 ?_; (case k1 => k_asm); (case k2 => k_asm); (case k3 => k_asm); (case k4 => k_asm); (case k5 => k_asm); (case k6 => first | exact rfl | assumption); (case k7 => ktr_room); (case k8 => k_mem); (case k9 => k_mem); (case k10 => first | k_handed | assumption); k_whole); intro h' tk' F' N'; (try dsimp only); (try k_sweep); walk_say "CONTRACT getEnc"))
local macro_rules | `(tactic| walk_at "call ref") => `(tactic| (k_here; (with_reducible show wpAny _ _ (call (Value.ref 85) _ _) _ _ _); k_dflt (refine' getByt ?k1 ?k2 ?k3 ?k4 ?k5 ?k6 ?k7 ?k8 ?k9 ?k10 ?_; (case k1 => k_asm); (case k2 => k_asm); (case k3 => k_asm); (case k4 => k_asm); (case k5 => k_asm); (case k6 => first | exact rfl | assumption); (case k7 => ktr_room); (case k8 => k_mem); (case k9 => k_mem); (case k10 => first | k_handed | assumption); k_whole); intro h' tk' F' N'; (try dsimp only); (try k_sweep); walk_say "CONTRACT getByt"))
local macro_rules | `(tactic| walk_at "call ref") => `(tactic| (k_here; (with_reducible show wpAny _ _ (call (Value.ref 99) _ _) _ _ _); k_dflt (refine' getChr ?k1 ?k2 ?k3 ?k4 ?k5 ?k6 ?k7 ?k8 ?k9 ?k10 ?_; (case k1 => k_asm); (case k2 => k_asm); (case k3 => k_asm); (case k4 => k_asm); (case k5 => k_asm); (case k6 => first | exact rfl | assumption); (case k7 => ktr_room); (case k8 => k_mem); (case k9 => k_mem); (case k10 => first | k_handed | assumption); k_whole); intro h' tk' F' N'; (try dsimp only); (try k_sweep); walk_say "CONTRACT getChr"))
local macro_rules | `(tactic| walk_at "call ref") => `(tactic| (k_here; (with_reducible show wpAny _ _ (call (Value.ref 50) _ _) _ _ _); k_dflt (refine' setSys ?k1 ?k2 ?k3 ?k4 ?k5 ?k6 ?k7 ?k8 ?k9 ?k10 ?_; (case k1 => k_asm); (case k2 => k_asm); (case k3 => k_asm); (case k4 => k_asm); (case k5 => k_asm); (case k6 => first | exact rfl | assumption); (case k7 => ktr_room); (case k8 => k_mem); (case k9 => k_mem); (case k10 => k_upd); k_whole); intro h' tk' F' N'; (try dsimp only); (try k_sweep); walk_say "CONTRACT setSys"))
local macro_rules | `(tactic| walk_at "call ref") => `(tactic| (k_here; (with_reducible show wpAny _ _ (call (Value.ref 36) _ _) _ _ _); k_dflt (refine' setPub ?k1 ?k2 ?k3 ?k4 ?k5 ?k6 ?k7 ?k8 ?k9 ?k10 ?_; (case k1 => k_asm); (case k2 => k_asm); (case k3 => k_asm); (case k4 => k_asm); (case k5 => k_asm); (case k6 => first | exact rfl | assumption); (case k7 => ktr_room); (case k8 => k_mem); (case k9 => k_mem); (case k10 => k_upd); k_whole); intro h' tk' F' N'; (try dsimp only); (try k_sweep); walk_say "CONTRACT setPub"))
local macro_rules | `(tactic| walk_at "call ref") => `(tactic| (k_here; (with_reducible show wpAny _ _ (call (Value.ref 64) _ _) _ _ _); k_dflt (refine' setEnc ?k1 ?k2 ?k3 ?k4 ?k5 ?k6 ?k7 ?k8 ?k9 ?k10 ?_; (case k1 => k_asm); (case k2 => k_asm); (case k3 => k_asm); (case k4 => k_asm); (case k5 => k_asm); (case k6 => first | exact rfl | assumption); (case k7 => ktr_room); (case k8 => k_mem); (case k9 => k_mem); (case k10 => k_upd); k_whole); intro h' tk' F' N'; (try dsimp only); (try k_sweep); walk_say "CONTRACT setEnc"))
local macro_rules | `(tactic| walk_at "call ref") => `(tactic| (k_here; (with_reducible show wpAny _ _ (call (Value.ref 78) _ _) _ _ _); k_dflt (refine' setByt ?k1 ?k2 ?k3 ?k4 ?k5 ?k6 ?k7 ?k8 ?k9 ?k10 ?_; (case k1 => k_asm); (case k2 => k_asm); (case k3 => k_asm); (case k4 => k_asm); (case k5 => k_asm); (case k6 => first | exact rfl | assumption); (case k7 => ktr_room); (case k8 => k_mem); (case k9 => k_mem); (case k10 => k_upd); k_whole); intro h' tk' F' N'; (try dsimp only); (try k_sweep); walk_say "CONTRACT setByt"))
local macro_rules | `(tactic| walk_at "call ref") => `(tactic| (k_here; (with_reducible show wpAny _ _ (call (Value.ref 92) _ _) _ _ _); k_dflt (refine' setChr ?k1 ?k2 ?k3 ?k4 ?k5 ?k6 ?k7 ?k8 ?k9 ?k10 ?_; (case k1 => k_asm); (case k2 => k_asm); (case k3 => k_asm); (case k4 => k_asm); (case k5 => k_asm); (case k6 => first | exact rfl | assumption); (case k7 => ktr_room); (case k8 => k_mem); (case k9 => k_mem); (case k10 => k_upd); k_whole); intro h' tk' F' N'; (try dsimp only); (try k_sweep); walk_say "CONTRACT setChr"))
local macro_rules | `(tactic| walk_at "call builtin:list.append") => `(tactic| (k_here; (with_reducible show wpAny _ _ (call (Value.builtin _) [Value.ref _, Value.none]) _ _ _); k_dflt (refine' append_none ?k1 ?k2 ?k3 ?k4 ?_; (case k1 => k_asm); (case k2 => k_asm); (case k3 => k_upd); (case k4 => first | assumption | omega); k_whole); intro h' F' N'; (try dsimp only); (try k_sweep); walk_say "APPEND none"))
local macro_rules | `(tactic| walk_at "call builtin:list.extend") => `(tactic| (k_here; (with_reducible show wpAny _ _ (call (Value.builtin _) [Value.ref _, Value.ref _]) _ _ _); k_dflt (refine' extend_none ?k1 ?k2 ?k3 ?k4 ?k5 ?k6 ?_; (case k1 => k_asm); (case k2 => k_asm); (case k3 => k_updF); (case k4 => k_mem); (case k5 => rfl); (case k6 => first | assumption | omega | (show _ + 2 ≤ _; omega) | (show _ + 5 ≤ _; omega)); k_whole); intro h' n' F' N'; (try dsimp only at N'); (try k_sweep); walk_say "EXTEND none"))
local macro_rules | `(tactic| walk_at "compareOp In int ref") => `(tactic| (k_here; k_dflt (refine' in_ints ?k1 ?k2 ?k3 ?_; (case k1 => k_asm); (case k2 => k_mem); (case k3 => k_asm); k_whole); walk_say "IN ints"))
local macro_rules | `(tactic| walk_at "compareOp NotIn int ref") => `(tactic| (k_here; k_dflt (refine' notin_ints ?k1 ?k2 ?k3 ?_; (case k1 => k_asm); (case k2 => k_mem); (case k3 => k_asm); k_whole); walk_say "NOTIN ints"))
local macro_rules | `(tactic| walk_at "subscriptTail") => `(tactic| (k_here; (with_reducible show wpAny _ _ (subscriptTail _ _ (Value.ref _) (Value.int _ _)) _ _ _); (with_unfolding_all refine' item_src ?k1 ?k2 ?k3 ?k4 ?_ ?k6; (case k1 => k_asm); (case k2 => k_mem); (case k3 => first | assumption | omega); (case k4 => first | assumption | omega); (case k6 => with_unfolding_all rfl); k_whole); walk_say "ITEM src"))
local macro_rules | `(tactic| walk_at "subscriptTail Name Constant ref int") => `(tactic| (k_here; (with_unfolding_all refine' item0 ?k1 ?k2 ?k3 ?_ ?k6; (case k1 => k_asm); (case k2 => k_mem); (case k3 => assumption); (case k6 => with_unfolding_all rfl); k_whole); walk_say "ITEM 0"))

variable {w : World} {h₀ : Heap} {L fa : Addr} {cd : Value} {m : Str → Option Value} {news : List (Addr × Obj)} {s : Shared} {mean : ExcName → Option Value} {mg mb : Str → Option Value}
  {σ δ : Nat → Addr} {sl an gl fd : Addr} {Xs : List (Addr × Obj)} {D : Nat → Src} {par : Nat → Nat} {q : Nat} {hs : List Nat} {ha : Nat → Addr} {had : Nat → List Nat} {kvs : List (Int × Value)} {hf rank : Nat → Nat} {v : Value}
local macro_rules | `(tactic| walk_at "execs cons Expr") => `(tactic| (refine Halt.mk ?_))
local macro_rules | `(tactic| walk_at "call builtin:len") => `(tactic| (k_here; (with_reducible show wpAny _ _ (call (Value.builtin "len") [Value.ref _]) _ _ _); k_dflt (refine' len_made ?k1 ?k2 ?k3 ?_; (case k1 => k_asm); (case k2 => k_mem); (case k3 => assumption); k_whole); intro t' k'; (try dsimp only); walk_say "LEN made"))

abbrev st5 : { x : Stmt // mainB.1[5]? = some x } := ⟨_, rfl⟩
theorem turn5 {Q : Flow → Shared → Prop} {E : Value → Shared → Prop} {u : Str → Option Value} {of os : Obj} {a b : Nat} (B : Below callerA h₀ [] h₀) (F : Fr h₀ L s.heap (frm2 sl an gl fd (.ref (σ a)) (.ref (σ b)) u)) (X : (hd.heap_39 w.params).In h₀) (N : News h₀ L s.heap news) (T : Top hd.view_39 (looseW hd.view_39 []) mean mg mb h₀)
    (S : Sep σ δ) (M : LSt w σ δ sl an L Xs D par q gl fd hs ha had kvs news) (P : PInv D par hf rank hs ha had kvs) (hq : q ≤ 100000) (hcf : (L + 1 + 1, of) ∈ news) (hdf : of.data = .cell (some (.ref (ha a)))) (hcs : (L + 1 + 1 + 1, os) ∈ news) (hds : os.data = .cell (some (.ref (ha b))))
    (ha8 : a < 8) (hb8 : b < 8) (haa : hf a = a) (hbb : hf b = b)
    (ret : ∀ h' tk' news' gl' D' par' hf' rank' hs' ha' had' kvs' q' u', Fr h₀ L h' (frm sl an gl' fd u') → News h₀ L h' news' → LSt w σ δ sl an L Xs D' par' q' gl' fd hs' ha' had' kvs' news' → PInv D' par' hf' rank' hs' ha' had' kvs' → q' ≤ q + 5 → Q .next { s with heap := h', toks := tk' }) :
    wpAny (model PySem.Challenge.rw_kn0108_01.row.prog w) (lawA L fa cd) (exec st5.1 (lawEnv L fa cd)) Q E s := by
  have X0 := X
  revert X; k_fill; intro X
  w_on
  dsimp only [st5, mainB, lawA, lawEnv, lawBS]
  by_cases hab : a = b
  · subst hab
    k_steps
    exact ret _ _ _ _ _ _ _ _ _ _ _ _ _ _ (to_frm F rfl rfl rfl rfl) N M P (by omega)
  · obtain ⟨ta, hpa⟩ := (P.fld a ha8).pub
    obtain ⟨tb, hpb⟩ := (P.fld b hb8).pub
    have za := M.has a ha8
    have zb := M.has b hb8
    rw [show srcAt σ D par a = { sys := .ref (σ (par a)), pub := .int ((had a).length : Int) ta, enc := (D a).enc, byt := (D a).byt, chr := (D a).chr, t1 := (D a).t1, t2 := (D a).t2, t3 := (D a).t3, t4 := (D a).t4, t5 := (D a).t5 } by simp only [srcAt, hpa]] at za
    rw [show srcAt σ D par b = { sys := .ref (σ (par b)), pub := .int ((had b).length : Int) tb, enc := (D b).enc, byt := (D b).byt, chr := (D b).chr, t1 := (D b).t1, t2 := (D b).t2, t3 := (D b).t3, t4 := (D b).t4, t5 := (D b).t5 } by simp only [srcAt, hpb]] at zb
    obtain ⟨za1, za2⟩ := za
    obtain ⟨zb1, zb2⟩ := zb
    obtain ⟨vsa, ca, hma, hia⟩ := M.hads a ha8
    obtain ⟨vsb, cb, hmb, hib⟩ := M.hads b hb8
    have la := hia.length
    have lb := hib.length
    have la8 := P.len8 ha8
    have lb8 := P.len8 hb8
    simp only [List.length_map] at la lb
    have sa : vsa.length ≤ sizeLine := by rw [sizeLine_eq]; omega
    have sb : vsb.length ≤ sizeLine := by rw [sizeLine_eq]; omega
    have nab : @Ne Nat (σ a) (σ b) := fun e => hab (S.s _ _ ha8 hb8 e)
    by_cases hl : (had a).length < (had b).length
    · have hl1 : ((had a).length : Int) < ((had b).length : Int) := by omega
      have hl2 : (vsa.length : Int) < (vsb.length : Int) := by omega
      have dN := dis_of N
      have hf1 : ∀ p ∈ [(L + 1 + 1, of), (L + 1 + 1 + 1, os)], p ∈ news := by
        intro p hp; simp only [List.mem_cons, List.not_mem_nil, or_false] at hp
        rcases hp with rfl | rfl <;> assumption
      obtain ⟨N3, off⟩ := focus _ N hf1
      have sub := sub_focus N hf1
      have rst : ∀ {x o}, (x, o) ∈ news → (∀ v, o.data ≠ .cell v) → (x, o) ∈ restOf [(L + 1 + 1, of), (L + 1 + 1 + 1, os)] news := by
        intro x o hm hne
        refine mem_rest hm ?_
        simp only [List.map_cons, List.map_nil, List.mem_cons, List.not_mem_nil, or_false, not_or]
        exact ⟨dN _ _ _ _ hm hcf (fun q => by rw [q] at hne; exact hne _ hdf), dN _ _ _ _ hm hcs (fun q => by rw [q] at hne; exact hne _ hds)⟩
      have y1 := rst za1 (fun v e => by cases e)
      have y2 := rst za2 (fun v e => by cases e)
      have y3 := rst zb1 (fun v e => by cases e)
      have y4 := rst zb2 (fun v e => by cases e)
      have y5 := rst hma (fun v e => by cases e)
      have y6 := rst hmb (fun v e => by cases e)
      obtain ⟨ox, vx, hcx, hdx⟩ := M.cx
      have kx : @Ne Nat (L + 1) (L + 1 + 1) ∧ @Ne Nat (L + 1) (L + 1 + 1 + 1) := ⟨by omega, by omega⟩
      simp only [List.cons_append, List.nil_append, List.map_cons, List.map_nil] at N3 off sub
      clear N
      k_steps
      rename News _ _ _ _ => N5
      rename Fr _ _ _ _ => F5
      rename Obj.data _ = Data.cell (some (Value.ref (ha b))) => db
      rename Obj.data _ = Data.cell (some (Value.ref (ha a))) => da
      have N6 := news_drop2 N5
      have kp := keep12 sub N6
      have hx6 := kp _ hcx kx.1 kx.2
      exact turnU B (to_frm2 F5 rfl rfl rfl rfl rfl rfl) X N6 T S (M.cell2 dN hcf hdf hcs hds kp ⟨ox, vx, hx6, hdx⟩ ⟨_, _, .head _, db⟩ ⟨_, _, .tail _ (.head _), da⟩) P hq (.head _) db (.tail _ (.head _)) da hb8 ha8 (fun e => hab e.symm) hbb haa
        fun _ _ _ _ _ _ _ _ _ _ _ _ _ _ F6 N6 M6 P6 h6 => ret _ _ _ _ _ _ _ _ _ _ _ _ _ _ (to_frm F6 rfl rfl rfl rfl) N6 M6 P6 h6
    · have hl1 : ¬ ((had a).length : Int) < ((had b).length : Int) := by omega
      have hl2 : ¬ (vsa.length : Int) < (vsb.length : Int) := by omega
      k_steps
      rename News _ _ _ _ => N5
      rename Fr _ _ _ _ => F5
      exact turnU B F5 X N5 T S M P hq hcf hdf hcs hds ha8 hb8 hab haa hbb fun _ _ _ _ _ _ _ _ _ _ _ _ _ _ F6 N6 M6 P6 h6 => ret _ _ _ _ _ _ _ _ _ _ _ _ _ _ (to_frm F6 rfl rfl rfl rfl) N6 M6 P6 h6
end
end Mine
end

-- part 16
section
open PySem PySem.W PySem.Calls PyProof.Rows PyProof.V PySem.Spec
set_option Elab.async false
set_option maxRecDepth 100000
namespace Mine
section
set_option maxHeartbeats 4000000
local macro_rules | `(tactic| k_mem) => `(tactic| ((show Membership.mem (γ := List (Addr × Obj)) _ _); with_reducible assumption))
local macro_rules | `(tactic| walk_at "call ref") => `(tactic| (k_here; (with_reducible show wpAny _ _ (call (Value.ref 57) _ _) _ _ _); k_dflt (refine' getSys ?k1 ?k2 ?k3 ?k4 ?k5 ?k6 ?k7 ?k8 ?k9 ?k10 ?_; (case k1 => k_asm); (case k2 => k_asm); (case k3 => k_asm); (case k4 => k_asm); (case k5 => k_asm); (case k6 => first | exact rfl | assumption); (case k7 => ktr_room); (case k8 => k_mem); (case k9 => k_mem); (case k10 => first | k_handed | assumption); k_whole); intro h' tk' F' N'; (try dsimp only); (try k_sweep); walk_say "CONTRACT getSys"))
local macro_rules | `(tactic| walk_at "call ref") => `(tactic| (k_here; (with_reducible show wpAny _ _ (call (Value.ref 43) _ _) _ _ _); k_dflt (refine' getPub ?k1 ?k2 ?k3 ?k4 ?k5 ?k6 ?k7 ?k8 ?k9 ?k10 ?_; (case k1 => k_asm); (case k2 => k_asm); (case k3 => k_asm); (case k4 => k_asm); (case k5 => k_asm); (case k6 => first | exact rfl | assumption); (case k7 => ktr_room); (case k8 => k_mem); (case k9 => k_mem); (case k10 => first | k_handed | assumption); k_whole); intro h' tk' F' N'; (try dsimp only); (try k_sweep); walk_say "CONTRACT getPub"))
local macro_rules | `(tactic| walk_at "call ref") => `(tactic| (k_here; (with_reducible show wpAny _ _ (call (Value.ref 71) _ _) _ _ _); k_dflt (refine' getEnc ?k1 ?k2 ?k3 ?k4 ?k5 ?k6 ?k7 ?k8 ?k9 ?k10 ?_; (case k1 => k_asm); (case k2 => k_asm); (case k3 => k_asm); (case k4 => k_asm); (case k5 => k_asm); (case k6 => first | exact rfl | assumption); (case k7 => ktr_room); (case k8 => k_mem); (case k9 => k_mem); (case k10 => first | k_handed | assumption); k_whole); intro h' tk' F' N'; (try dsimp only); (try k_sweep); walk_say "CONTRACT getEnc"))
local macro_rules | `(tactic| walk_at "call ref") => `(tactic| (k_here; (with_reducible show wpAny _ _ (call (Value.ref 85) _ _) _ _ _); k_dflt (refine' getByt ?k1 ?k2 ?k3 ?k4 ?k5 ?k6 ?k7 ?k8 ?k9 ?k10 ?_; (case k1 => k_asm); (case k2 => k_asm); (case k3 => k_asm); (case k4 => k_asm); (case k5 => k_asm); (case k6 => first | exact rfl | assumption); (case k7 => ktr_room); (case k8 => k_mem); (case k9 => k_mem); (case k10 => first | k_handed | assumption); k_whole); intro h' tk' F' N'; (try dsimp only); (try k_sweep); walk_say "CONTRACT getByt"))
local macro_rules | `(tactic| walk_at "call ref") => `(tactic| (k_here; (with_reducible show wpAny _ _ (call (Value.ref 99) _ _) _ _ _); k_dflt (refine' getChr ?k1 ?k2 ?k3 ?k4 ?k5 ?k6 ?k7 ?k8 ?k9 ?k10 ?_; (case k1 => k_asm); (case k2 => k_asm); (case k3 => k_asm); (case k4 => k_asm); (case k5 => k_asm); (case k6 => first | exact rfl | assumption); (case k7 => ktr_room); (case k8 => k_mem); (case k9 => k_mem); (case k10 => first | k_handed | assumption); k_whole); intro h' tk' F' N'; (try dsimp only); (try k_sweep); walk_say "CONTRACT getChr"))
local macro_rules | `(tactic| walk_at "call ref") => `(tactic| (k_here; (with_reducible show wpAny _ _ (call (Value.ref 50) _ _) _ _ _); k_dflt (refine' setSys ?k1 ?k2 ?k3 ?k4 ?k5 ?k6 ?k7 ?k8 ?k9 ?k10 ?_; (case k1 => k_asm); (case k2 => k_asm); (case k3 => k_asm); (case k4 => k_asm); (case k5 => k_asm); (case k6 => first | exact rfl | assumption); (case k7 => ktr_room); (case k8 => k_mem); (case k9 => k_mem); (case k10 => k_upd); k_whole); intro h' tk' F' N'; (try dsimp only); (try k_sweep); walk_say "CONTRACT setSys"))
local macro_rules | `(tactic| walk_at "call ref") => `(tactic| (k_here; (with_reducible show wpAny _ _ (call (Value.ref 36) _ _) _ _ _); k_dflt (refine' setPub ?k1 ?k2 ?k3 ?k4 ?k5 ?k6 ?k7 ?k8 ?k9 ?k10 ?_; (case k1 => k_asm); (case k2 => k_asm); (case k3 => k_asm); (case k4 => k_asm); (case k5 => k_asm); (case k6 => first | exact rfl | assumption); (case k7 => ktr_room); (case k8 => k_mem); (case k9 => k_mem); (case k10 => k_upd); k_whole); intro h' tk' F' N'; (try dsimp only); (try k_sweep); walk_say "CONTRACT setPub"))
local macro_rules | `(tactic| walk_at "call ref") => `(tactic| (k_here; (with_reducible show wpAny _ _ (call (Value.ref 64) _ _) _ _ _); k_dflt (refine' setEnc ?k1 ?k2 ?k3 ?k4 ?k5 ?k6 ?k7 ?k8 ?k9 ?k10 ?_; (case k1 => k_asm); (case k2 => k_asm); (case k3 => k_asm); (case k4 => k_asm); (case k5 => k_asm); (case k6 => first | exact rfl | assumption); (case k7 => ktr_room); (case k8 => k_mem); (case k9 => k_mem); (case k10 => k_upd); k_whole); intro h' tk' F' N'; (try dsimp only); (try k_sweep); walk_say "CONTRACT setEnc"))
local macro_rules | `(tactic| walk_at "call ref") => `(tactic| (k_here; (with_reducible show wpAny _ _ (call (Value.ref 78) _ _) _ _ _); k_dflt (refine' setByt ?k1 ?k2 ?k3 ?k4 ?k5 ?k6 ?k7 ?k8 ?k9 ?k10 ?_; (case k1 => k_asm); (case k2 => k_asm); (case k3 => k_asm); (case k4 => k_asm); (case k5 => k_asm); (case k6 => first | exact rfl | assumption); (case k7 => ktr_room); (case k8 => k_mem); (case k9 => k_mem); (case k10 => k_upd); k_whole); intro h' tk' F' N'; (try dsimp only); (try k_sweep); walk_say "CONTRACT setByt"))
local macro_rules | `(tactic| walk_at "call ref") => `(tactic| (k_here; (with_reducible show wpAny _ _ (call (Value.ref 92) _ _) _ _ _); k_dflt (refine' setChr ?k1 ?k2 ?k3 ?k4 ?k5 ?k6 ?k7 ?k8 ?k9 ?k10 ?_; (case k1 => k_asm); (case k2 => k_asm); (case k3 => k_asm); (case k4 => k_asm); (case k5 => k_asm); (case k6 => first | exact rfl | assumption); (case k7 => ktr_room); (case k8 => k_mem); (case k9 => k_mem); (case k10 => k_upd); k_whole); intro h' tk' F' N'; (try dsimp only); (try k_sweep); walk_say "CONTRACT setChr"))
local macro_rules | `(tactic| walk_at "call builtin:list.append") => `(tactic| (k_here; (with_reducible show wpAny _ _ (call (Value.builtin _) [Value.ref _, Value.none]) _ _ _); k_dflt (refine' append_none ?k1 ?k2 ?k3 ?k4 ?_; (case k1 => k_asm); (case k2 => k_asm); (case k3 => k_upd); (case k4 => first | assumption | omega); k_whole); intro h' F' N'; (try dsimp only); (try k_sweep); walk_say "APPEND none"))
local macro_rules | `(tactic| walk_at "call builtin:list.extend") => `(tactic| (k_here; (with_reducible show wpAny _ _ (call (Value.builtin _) [Value.ref _, Value.ref _]) _ _ _); k_dflt (refine' extend_none ?k1 ?k2 ?k3 ?k4 ?k5 ?k6 ?_; (case k1 => k_asm); (case k2 => k_asm); (case k3 => k_updF); (case k4 => k_mem); (case k5 => rfl); (case k6 => first | assumption | omega | (show _ + 2 ≤ _; omega) | (show _ + 5 ≤ _; omega)); k_whole); intro h' n' F' N'; (try dsimp only at N'); (try k_sweep); walk_say "EXTEND none"))
local macro_rules | `(tactic| walk_at "compareOp In int ref") => `(tactic| (k_here; k_dflt (refine' in_ints ?k1 ?k2 ?k3 ?_; (case k1 => k_asm); (case k2 => k_mem); (case k3 => k_asm); k_whole); walk_say "IN ints"))
local macro_rules | `(tactic| walk_at "compareOp NotIn int ref") => `(tactic| (k_here; k_dflt (refine' notin_ints ?k1 ?k2 ?k3 ?_; (case k1 => k_asm); (case k2 => k_mem); (case k3 => k_asm); k_whole); walk_say "NOTIN ints"))
local macro_rules | `(tactic| walk_at "subscriptTail") => `(tactic| (k_here; (with_reducible show wpAny _ _ (subscriptTail _ _ (Value.ref _) (Value.int _ _)) _ _ _); (with_unfolding_all refine' item_src ?k1 ?k2 ?k3 ?k4 ?_ ?k6; (case k1 => k_asm); (case k2 => k_mem); (case k3 => first | assumption | omega); (case k4 => first | assumption | omega); (case k6 => with_unfolding_all rfl); k_whole); walk_say "ITEM src"))
local macro_rules | `(tactic| walk_at "subscriptTail Name Constant ref int") => `(tactic| (k_here; (with_unfolding_all refine' item0 ?k1 ?k2 ?k3 ?_ ?k6; (case k1 => k_asm); (case k2 => k_mem); (case k3 => assumption); (case k6 => with_unfolding_all rfl); k_whole); walk_say "ITEM 0"))

variable {w : World} {h₀ : Heap} {L fa : Addr} {cd : Value} {m : Str → Option Value} {news : List (Addr × Obj)} {s : Shared} {mean : ExcName → Option Value} {mg mb : Str → Option Value}
  {σ δ : Nat → Addr} {sl an gl fd : Addr} {Xs : List (Addr × Obj)} {D : Nat → Src} {par : Nat → Nat} {q : Nat} {hs : List Nat} {ha : Nat → Addr} {had : Nat → List Nat} {kvs : List (Int × Value)} {hf rank : Nat → Nat} {v : Value}
local macro_rules | `(tactic| walk_at "eval ListComp") => `(tactic| (refine Halt.mk ?_))
local macro_rules | `(tactic| walk_at "CompSrc") => `(tactic| (refine Halt.mk ?_))
local macro_rules | `(tactic| walk_at "pyIter ref") => `(tactic| (refine Halt.mk ?_))
local macro_rules | `(tactic| walk_at "call ref") => `(tactic| ((with_reducible show wpAny _ _ (call (Value.ref 120) _ _) _ _ _); refine Halt.mk ?_))
local macro_rules | `(tactic| walk_at "call builtin:len") => `(tactic| (k_here; (with_reducible show wpAny _ _ (call (Value.builtin "len") [Value.ref _]) _ _ _); k_dflt (refine' len_made ?k1 ?k2 ?k3 ?_; (case k1 => k_asm); (case k2 => k_mem); (case k3 => assumption); k_whole); intro t' k'; (try dsimp only); walk_say "LEN made"))

section
open LCg
variable {prog : Program} {w : World} {A : Around} {s : Shared} {h₀ : Heap} {L : Addr} {m : Str → Option Value} {env : Env} {news : List (Addr × Obj)}
theorem rest_grow {elt : Expr} {x : Str} {scope : Scope} {cl : List (Str × Addr)} {S : List (Addr × Obj) → Prop} {P : Nat → Value → Prop} {Fin : List Value → List (Addr × Obj) → Prop} {n : Nat} (K : Nat → List Value → List (Addr × Obj) → Prop) (h0 : K 0 [] news)
    (elem : ∀ i ys news₁, i < n → K i ys news₁ → ∀ v (I : Addr) (oI : Obj) (C : Addr) (oC : Obj) (D : Addr) (m₂ : Str → Option Value) (g : Heap) (tk : Nat) (E' : Value → Shared → Prop), P i v → NsObj oC m₂ → m₂ x = some v → Fr h₀ L g m → News h₀ L g ((I, oI) :: (C, oC) :: (D, lst ys) :: news₁) → Off3 I C D news₁ → ((@Ne Nat I C) ∧ (@Ne Nat I D) ∧ (@Ne Nat C D)) →
      wpAny (model prog w) A (eval elt (compEnvC scope cl C env)) (CompEnd h₀ L m { s with heap := g, toks := tk } I oI C oC D (lst ys) S (fun y news' => K (i + 1) (ys ++ [y]) news')) E' { s with heap := g, toks := tk })
    (fin : ∀ ys news', K n ys news' → Fin ys news') : CompRest prog w A h₀ L m env elt x scope cl s S P Fin n 0 [] news := by
  have all : ∀ k i ys news₁, i + k = n → K i ys news₁ → CompRest prog w A h₀ L m env elt x scope cl s S P Fin k i ys news₁ := by
    intro k
    induction k with
    | zero =>
      intro i ys news₁ hi hK
      have : i = n := by omega
      subst this
      exact fin ys news₁ hK
    | succ k ih =>
      intro i ys news₁ hi hK v I oI C oC D m₂ g tk E' hv hC hm F N off ne
      refine wpAny_mono (elem i ys news₁ (by omega) hK v I oI C oC D m₂ g tk E' hv hC hm F N off ne) (fun y s' hE => ?_) fun _ _ e => e
      obtain ⟨h', tk', news', e, F', N', o', hS, hK'⟩ := hE
      exact ⟨h', tk', news', e, F', N', o', hS, ih (i + 1) _ _ (by omega) hK'⟩
  exact all n 0 [] news (Nat.zero_add _) h0
end
structure FreshK (δ : Nat → Addr) (an : Addr) (news₀ : List (Addr × Obj)) (i : Nat) (ys : List Value) (news : List (Addr × Obj)) (ad : Nat → Addr) : Prop where
  ys : ys = (List.range i).map fun j => Value.ref (ad j)
  mem : ∀ j, j < i → ∃ t, (ad j, W.listOf [Value.int (j : Int) t].toArray 0) ∈ news
  sub : ∀ p ∈ news₀, p ∈ news
  ap : ∀ j, j < i → Ap an δ (ad j)
theorem fresh_end {h₀ h' : Heap} {L I C D l an : Addr} {m : Str → Option Value} {s₁ : Shared} {oI oC oA : Obj} {δ : Nat → Addr} {news₁ news₂ : List (Addr × Obj)} {i tk' : Nat} {t : Tok} {ys : List Value} {ad : Nat → Addr} (F5 : Fr h₀ L h' m)
    (N5 : News h₀ L h' ((l, W.listOf [Value.int ((0 : Int) + (i : Int)) t].toArray 0) :: (I, oI) :: (C, oC) :: (D, LCg.lst ys) :: news₂)) (l1 : @LT.lt Nat _ I l ∧ @LT.lt Nat _ C l ∧ @LT.lt Nat _ D l ∧ AllLt l news₂) (off : LCg.Off3 I C D news₂) (K : FreshK δ an news₁ i ys news₂ ad)
    (hA : (an, oA) ∈ news₁) (hδ : ∀ j, j < 8 → ∃ o, (δ j, o) ∈ news₁) :
    LCg.CompEnd h₀ L m s₁ I oI C oC D (LCg.lst ys) (fun _ => True) (fun y news' => ∃ ad, FreshK δ an news₁ (i + 1) (ys ++ [y]) news' ad) (.ref l) { s₁ with heap := h', toks := tk' } := by
  obtain ⟨a1, a2, a3, a4⟩ := l1
  have a5 := of_allLt a4
  rw [Int.zero_add] at N5
  refine ⟨h', tk', (l, W.listOf [Value.int (i : Int) t].toArray 0) :: news₂, rfl, F5, fun p hp => N5 p ?_, ⟨⟨Nat.ne_of_gt a1, Nat.ne_of_gt a2, Nat.ne_of_gt a3⟩, off⟩, trivial, fun j => if j = i then l else ad j, ?_, fun j hj => ?_, fun p hp => .tail _ (K.sub p hp), fun j hj => ?_⟩
  · simp only [List.mem_cons] at hp ⊢
    rcases hp with rfl | rfl | rfl | rfl | hp
    · exact .inr (.inl rfl)
    · exact .inr (.inr (.inl rfl))
    · exact .inr (.inr (.inr (.inl rfl)))
    · exact .inl rfl
    · exact .inr (.inr (.inr (.inr hp)))
  · rw [List.range_succ, List.map_append, K.ys]
    congr 1
    · refine List.map_congr_left fun j hj => ?_
      rw [if_neg (Nat.ne_of_lt (List.mem_range.mp hj))]
    · simp
  · by_cases e : j = i
    · subst e; simp only [if_true]; exact ⟨t, .head _⟩
    · simp only [if_neg e]
      obtain ⟨t', h⟩ := K.mem j (by omega)
      exact ⟨t', .tail _ h⟩
  · by_cases e : j = i
    · subst e; simp only [if_true]
      refine ⟨Nat.ne_of_gt (a5 _ (K.sub _ hA)), fun k hk => ?_⟩
      obtain ⟨o, ho⟩ := hδ k hk
      exact Nat.ne_of_gt (a5 _ (K.sub _ ho))
    · simp only [if_neg e]; exact K.ap j (by omega)
theorem flds_one {k : Nat} (hk : k < 8) {x : Addr} {c : Src} (h : BegSt x k 5 c) : Flds c [k] := by
  refine ⟨?_, ?_, ?_, ?_⟩
  · obtain ⟨t, e⟩ := h.pub (by omega); exact ⟨t, e⟩
  · obtain ⟨t, e⟩ := h.enc (by omega); exact ⟨t, e⟩
  · obtain ⟨t, e⟩ := h.byt (by omega)
    exact ⟨t, by rw [e]; simp [bys]⟩
  · obtain ⟨t, e⟩ := h.chr (by omega)
    refine ⟨t, ?_⟩
    rw [e, show (97 + (k : Int)).toNat = 97 + k by omega]
    rfl
theorem pinv_start {D : Nat → Src} {ha : Nat → Addr} (h : ∀ k, k < 8 → Flds (D k) [k]) : PInv D (fun k => k) (fun k => k) (fun _ => 0) (List.range 8) ha (fun k => [k]) [] := by
  refine ⟨⟨fun k hk => hk, fun k hk => hk, fun k hk => rfl, fun k hk => rfl, fun k hk => ⟨fun _ => rfl, fun _ => rfl⟩, fun k hk e => absurd rfl e, fun k hk => by omega⟩, fun h hh => ⟨List.mem_range.mp hh, rfl⟩, fun k hk => List.mem_range.mpr hk, by simp, fun h hh k hk => by simp, fun k hk => ⟨[], rfl⟩, fun k hk j hj => by simp at hj; omega, fun k hk => by simp, fun k hk => by simp, h, fun k hk e => absurd rfl e⟩
abbrev st0 : { x : Stmt // mainB.1[0]? = some x } := ⟨_, rfl⟩
structure WSt (w : World) (σ δ : Nat → Addr) (sl an L : Addr) (Xs : List (Addr × Obj)) (C : Nat → Src) (q : Nat) (gl : Addr) (gvs : List Value) (news : List (Addr × Obj)) : Prop where
  has : ∀ j, j < 8 → (σ j, instObj 102 (δ j)) ∈ news ∧ (δ j, dic w (C j)) ∈ news
  src : ∃ c, (sl, W.listOf (srcs σ) c) ∈ news
  ans : ∃ r, (an, W.listOf (nones q) r) ∈ news
  grp : ∃ c, (gl, W.listOf gvs.toArray c) ∈ news
  cx : ∃ o v, (L + 1, o) ∈ news ∧ o.data = .cell v
  cf : ∃ o v, (L + 1 + 1, o) ∈ news ∧ o.data = .cell v
  cs : ∃ o v, (L + 1 + 1 + 1, o) ∈ news ∧ o.data = .cell v
  a_sl : Ap an δ sl
  ext : Ext an δ Xs news
structure BegJ (w : World) (σ δ : Nat → Addr) (an : Addr) (q₀ : Nat) (news₀ : List (Addr × Obj)) (i : Nat) (news : List (Addr × Obj)) (C : Nat → Src) (q r : Nat) : Prop where
  has : ∀ j, j < 8 → (σ j, instObj 102 (δ j)) ∈ news ∧ (δ j, dic w (C j)) ∈ news
  beg : ∀ j, j < i → BegSt (σ j) j 5 (C j)
  han : (an, W.listOf (nones q) r) ∈ news
  hq : q = q₀ + 5 * i
  keep : ∀ p ∈ news₀, p.1 ≠ an → (∀ j, j < 8 → p.1 ≠ δ j) → p ∈ news

theorem turn0 {Q : Flow → Shared → Prop} {u : Str → Option Value} {C : Nat → Src} {gvs : List Value} (B : Below callerA h₀ [] h₀) (F : Fr h₀ L s.heap (frm sl an gl fd u)) (X : (hd.heap_39 w.params).In h₀) (N : News h₀ L s.heap news) (T : Top hd.view_39 (looseW hd.view_39 []) mean mg mb h₀)
    (S : Sep σ δ) (M : WSt w σ δ sl an L Xs C q gl gvs news) (hq : q ≤ 90000) (hlt : gvs.length < 2)
    (ret : ∀ h' tk' news' gl' fd' u' D ha q', Fr h₀ L h' (frm sl an gl' fd' u') → News h₀ L h' news' → LSt w σ δ sl an L Xs D (fun k => k) q' gl' fd' (List.range 8) ha (fun k => [k]) [] news' → PInv D (fun k => k) (fun k => k) (fun _ => 0) (List.range 8) ha (fun k => [k]) [] → q' ≤ q + 40 →
      (∀ p ∈ news, p.1 ≠ an → (∀ j, j < 8 → p.1 ≠ δ j) → p ∈ news') → Q .next { s with heap := h', toks := tk' }) :
    wpAny (model PySem.Challenge.rw_kn0108_01.row.prog w) (lawA L fa cd) (exec st0.1 (lawEnv L fa cd)) Q (fun _ _ => False) s := by
  revert X; k_fill; intro X
  w_on
  dsimp only [st0, mainB, lawA, lawEnv, lawBS]
  have dN := dis_of N
  obtain ⟨cg, hgl⟩ := M.grp
  obtain ⟨r0, han⟩ := M.ans
  have hz : gvs.length ≤ sizeLine := by rw [sizeLine_eq]; omega
  have hlt2 : (gvs.length : Int) < 2 := by omega
  k_steps
  rename IsRange _ _ _ _ _ _ _ _ => R1
  rename News _ _ _ _ => N1
  rename Fr _ _ _ _ => F1
  refine iter_rangeJ (n := 8) (fun i news' => ∃ C q' r, BegJ w σ δ an q news i news' C q' r) (by rfl) R1 (by decide) (by decide) F1 N1 ⟨C, q, r0, M.has, fun j hj => absurd hj (Nat.not_lt_zero _), han, by omega, fun p hp _ _ => hp⟩ ?_ ?_
  · rintro i news₁ I oI t h tk hi ⟨C', q', r', J⟩ hoff F2 N2
    clear F1 N1 R1
    obtain ⟨zi1, zi2⟩ := J.has i hi
    obtain ⟨cs, hsl⟩ := M.src
    have hsl1 := J.keep _ hsl M.a_sl.1 M.a_sl.2
    have dN1 : Dis news₁ := fun a b o o' h1 h2 hne => addr_ne N2 (.tail _ h1) (.tail _ h2) hne
    have hf1 := foc3 (news := (I, oI) :: news₁) (.tail _ zi1) (.tail _ zi2) (.tail _ J.han)
    obtain ⟨N3, off⟩ := focus _ N2 hf1
    have sub := sub_focus N2 hf1
    have n1 : @Ne Nat (σ i) (δ i) := dN1 _ _ _ _ zi1 zi2 (by simp)
    have n2 : @Ne Nat (σ i) an := dN1 _ _ _ _ zi1 J.han (by simp)
    have n3 : @Ne Nat (δ i) an := dN1 _ _ _ _ zi2 J.han (by simp)
    have n4 : @Ne Nat sl (σ i) := dN1 _ _ _ _ hsl1 zi1 (by simp)
    have n5 : @Ne Nat sl (δ i) := M.a_sl.2 i hi
    have n6 : @Ne Nat sl an := M.a_sl.1
    have hsl3 : (sl, W.listOf (srcs σ) cs) ∈ restOf [(σ i, instObj 102 (δ i)), (δ i, dic w (C' i)), (an, W.listOf (nones q') r')] ((I, oI) :: news₁) := mem_rest (.tail _ hsl1) (by simp only [List.map_cons, List.map_nil, List.mem_cons, List.not_mem_nil, or_false, not_or]; exact ⟨n4, n5, n6⟩)
    simp only [List.cons_append, List.nil_append, List.map_cons, List.map_nil] at N3 off sub
    have i8 : (0 : Int) + (i : Int) < 8 := by omega
    have i0 : 0 ≤ (0 : Int) + (i : Int) := by omega
    have it : ((0 : Int) + (i : Int)).toNat = i := by omega
    clear N2
    k_steps
    rw [it]
    rename News _ _ _ _ => N4
    rename Fr _ _ _ _ => F4
    have off2 : OwnOff ((an, W.listOf (nones q') r') :: restOf [(σ i, instObj 102 (δ i)), (δ i, dic w (C' i)), (an, W.listOf (nones q') r')] ((I, oI) :: news₁)) [σ i, δ i] := by
      intro p hp b hb
      rcases List.mem_cons.mp hp with rfl | hp
      · simp only [List.mem_cons, List.not_mem_nil, or_false] at hb
        rcases hb with rfl | rfl
        · exact fun e => n2 e.symm
        · exact fun e => n3 e.symm
      · exact off p hp b (by simp only [List.mem_cons, List.not_mem_nil, or_false] at hb ⊢; rcases hb with rfl | rfl <;> simp)
    refine begin1 (k := i) B F4 X N4 T rfl (by decide) off2 n1 (by omega) hi ?_
    intro l h2 tk2 c' r2 F6 N6 hl hB
    have l1 : @Ne Nat (σ i) l := hl _ (.head _)
    have l2 : @Ne Nat (δ i) l := hl _ (.tail _ (.head _))
    have l3 : @Ne Nat an l := hl _ (.tail _ (.tail _ (.head _)))
    have hqq : q' ≤ 90040 := by have := J.hq; omega
    k_steps
    rename News _ _ _ _ => N5
    rename Fr _ _ _ _ => F5
    rw [nones_size] at N5
    have kp := keep23 (fun p hp => sub p (.tail _ hp)) N5
    have hII : (I, oI) ∈ restOf [(σ i, instObj 102 (δ i)), (δ i, dic w (C' i)), (an, W.listOf (nones q') r')] ((I, oI) :: news₁) := mem_rest (.head _) (by
      simp only [List.map_cons, List.map_nil, List.mem_cons, List.not_mem_nil, or_false, not_or]
      exact ⟨fun e => hoff _ zi1 e.symm, fun e => hoff _ zi2 e.symm, fun e => hoff _ J.han e.symm⟩)
    show TurnEnd _ _ _ _ _ _ _ _ _
    refine ⟨_, _, _, _, rfl, F5, news_offI N5 (.tail _ (.tail _ (.tail _ (.tail _ hII)))), offI_ne, fun j => if j = i then c' else C' j, q' + 5, _, fun j hj => ⟨?_, ?_⟩, fun j hj => ?_, mem_offI (.tail _ (.tail _ (.tail _ (.head _)))) (show @Ne Nat an I from hoff _ J.han), by have := J.hq; omega, fun p hp h1 h2 => ?_⟩
    · have hj1 := (J.has j hj).1
      exact mem_offI (kp _ hj1 (dN1 _ _ _ _ hj1 zi2 (by simp)) (dN1 _ _ _ _ hj1 J.han (by simp))) (hoff _ hj1)
    · have hj2 := (J.has j hj).2
      by_cases e : j = i
      · subst e
        simp only [if_true]
        exact mem_offI (.tail _ (.tail _ (.head _))) (show @Ne Nat (δ j) I from hoff _ hj2)
      · simp only [if_neg e]
        exact mem_offI (kp _ hj2 (fun q => e (S.d _ _ hj hi q)) (dN1 _ _ _ _ hj2 J.han (by simp))) (hoff _ hj2)
    · by_cases e : j = i
      · subst e; simp only [if_true]; exact hB
      · simp only [if_neg e]; exact J.beg j (by omega)
    · have hp1 := J.keep p hp h1 h2
      exact mem_offI (kp p hp1 (h2 i hi) h1) (hoff p hp1)
  · rintro u h tk news₁ ⟨C', q', r', J⟩ F2 N2
    clear F1 N1 R1
    have dN1 := dis_of N2
    k_steps
    refine LCg.ListComp_U (F₀ := F2) (by with_unfolding_all rfl) (by decide) (by rfl) (by decide) (by rfl) ?_
    k_steps
    rename IsRange _ _ _ _ _ _ _ _ => R2
    rename News _ _ _ _ => N3
    rename Fr _ _ _ _ => F3
    refine LCg.CompSrc.range (n := 8) (by rfl) F3 N3 R2 (by decide) (by decide) (by rw [sizeLine_eq]; omega) ?_
    intro g
    refine rest_grow (fun i ys news' => ∃ ad, FreshK δ an news₁ i ys news' ad) ⟨fun _ => 0, rfl, fun j hj => absurd hj (Nat.not_lt_zero _), fun p hp => hp, fun j hj => absurd hj (Nat.not_lt_zero _)⟩ ?_ ?_
    · rintro i ys news₂ hi ⟨ad, K⟩ v I oI Cc oC D' m₂ g' tk' E' ⟨t, rfl⟩ hC hm F4 N4 off ne
      k_steps
      rename News _ _ _ _ => N5
      rename Fr _ _ _ _ => F5
      rename _ ∧ _ ∧ _ ∧ AllLt _ _ => l1
      exact fresh_end F5 N5 l1 off K J.han fun j hj => ⟨_, (J.has j hj).2⟩
    · rintro ys news₂ ⟨ad, K⟩ D2 g2 tk2 F4 N4 off2
      k_steps
      rename News _ _ _ _ => N5
      rename Fr _ _ _ _ => F5
      rename Obj.IsDictOf (PySem.intKind _ _) _ _ => hdi
      rename _ ∧ AllLt _ news₂ => l1
      obtain ⟨l1a, l1b⟩ := l1
      have l1c := of_allLt l1b
      have off4 := fun p hp => (show ∀ p ∈ news₂, @Ne Nat p.1 D2 from fun p hp => off1_mem off2 p hp) p hp
      have cell : ∀ {x o v}, (x, o) ∈ news → o.data = .cell v → (x, o) ∈ news₁ := fun hm hd =>
        have ap := ap_cellW dN (fun j hj => (M.has j hj).2) han hm hd
        J.keep _ hm ap.1 ap.2
      have kc : ∀ {x : Addr}, (∃ o v, (x, o) ∈ news ∧ o.data = .cell v) → (∃ o v, (x, o) ∈ news₂ ∧ o.data = .cell v) := fun ⟨o, v, hm, hd⟩ => ⟨o, v, K.sub _ (cell hm hd), hd⟩
      have kt : ∀ {x : Addr} {all : List (Addr × Obj)}, (∀ p ∈ news₂, p ∈ all) → (∃ o v, (x, o) ∈ news₂ ∧ o.data = .cell v) → (∃ o v, (x, o) ∈ all ∧ o.data = .cell v) := fun hs ⟨o, v, hm, hd⟩ => ⟨o, v, hs _ hm, hd⟩
      have sub2 := sub_tail2 (news_drop1 N5)
      obtain ⟨cs, hsl⟩ := M.src
      refine ret _ _ _ D2 _ _ C' ad q' (to_frm F5 rfl rfl rfl rfl) (news_drop1 N5) ⟨fun j hj => ⟨sub2 _ (K.sub _ (J.has j hj).1), ?_⟩, ⟨cs, sub2 _ (K.sub _ (J.keep _ hsl M.a_sl.1 M.a_sl.2))⟩, ⟨r', sub2 _ (K.sub _ J.han)⟩, ⟨ys.length, ?_⟩, fun k hk => ?_, ⟨_, .head _, hdi⟩, kt sub2 (kc M.cx), kt sub2 (kc M.cf), kt sub2 (kc M.cs), M.a_sl, ?_, fun k hk => K.ap k hk, ?_, fun p hp => ⟨sub2 _ (K.sub _ (J.keep _ (M.ext p hp).1 (M.ext p hp).2.1.1 (M.ext p hp).2.1.2)), (M.ext p hp).2⟩⟩
        (pinv_start fun k hk => flds_one hk (J.beg k hk)) (by have := J.hq; omega) (fun p hp h1 h2 => sub2 _ (K.sub _ (J.keep p hp h1 h2)))
      · rw [show srcAt σ C' (fun k => k) j = C' j from src_self ((J.beg j hj).sys (by omega))]
        exact sub2 _ (K.sub _ (J.has j hj).2)
      · rw [← K.ys]; exact .tail _ (.head _)
      · obtain ⟨t, ht⟩ := K.mem k hk
        exact ⟨_, _, sub2 _ ht, .cons _ _ .nil⟩
      · exact ⟨fun e => off4 _ (K.sub _ J.han) e.symm, fun j hj e => off4 _ (K.sub _ (J.has j hj).2) e.symm⟩
      · exact ⟨Nat.ne_of_gt (l1c _ (K.sub _ J.han)), fun j hj => Nat.ne_of_gt (l1c _ (K.sub _ (J.has j hj).2))⟩
end
end Mine
end

-- part 17
section
open PySem PySem.W PySem.Calls PyProof.Rows PyProof.V PySem.Spec
set_option Elab.async false
set_option maxRecDepth 100000
namespace Mine
section
set_option maxHeartbeats 4000000
local macro_rules | `(tactic| k_mem) => `(tactic| ((show Membership.mem (γ := List (Addr × Obj)) _ _); with_reducible assumption))
local macro_rules | `(tactic| walk_at "call ref") => `(tactic| (k_here; (with_reducible show wpAny _ _ (call (Value.ref 57) _ _) _ _ _); k_dflt (refine' getSys ?k1 ?k2 ?k3 ?k4 ?k5 ?k6 ?k7 ?k8 ?k9 ?k10 ?_; (case k1 => k_asm); (case k2 => k_asm); (case k3 => k_asm); (case k4 => k_asm); (case k5 => k_asm); (case k6 => first | exact rfl | assumption); (case k7 => ktr_room); (case k8 => k_mem); (case k9 => k_mem); (case k10 => first | k_handed | assumption); k_whole); intro h' tk' F' N'; (try dsimp only); (try k_sweep); walk_say "CONTRACT getSys"))
local macro_rules | `(tactic| walk_at "call ref") => `(tactic| (k_here; (with_reducible show wpAny _ _ (call (Value.ref 43) _ _) _ _ _); k_dflt (refine' getPub ?k1 ?k2 ?k3 ?k4 ?k5 ?k6 ?k7 ?k8 ?k9 ?k10 ?_; (case k1 => k_asm); (case k2 => k_asm); (case k3 => k_asm); (case k4 => k_asm); (case k5 => k_asm); (case k6 => first | exact rfl | assumption); (case k7 => ktr_room); (case k8 => k_mem); (case k9 => k_mem); (case k10 => first | k_handed | assumption); k_whole); intro h' tk' F' N'; (try dsimp only); (try k_sweep); walk_say "CONTRACT getPub"))
local macro_rules | `(tactic| walk_at "call ref") => `(tactic| (k_here; (with_reducible show wpAny _ _ (call (Value.ref 71) _ _) _ _ _); k_dflt (refine' getEnc ?k1 ?k2 ?k3 ?k4 ?k5 ?k6 ?k7 ?k8 ?k9 ?k10 ?_; (case k1 => k_asm); (case k2 => k_asm); (case k3 => k_asm); (case k4 => k_asm); (case k5 => k_asm); (case k6 => first | exact rfl | assumption); (case k7 => ktr_room); (case k8 => k_mem); (case k9 => k_mem); (case k10 => first | k_handed | assumption); k_whole); intro h' tk' F' N'; (try dsimp only); (try k_sweep); walk_say "CONTRACT getEnc"))
local macro_rules | `(tactic| walk_at "call ref") => `(tactic| (k_here; (with_reducible show wpAny _ _ (call (Value.ref 85) _ _) _ _ _); k_dflt (refine' getByt ?k1 ?k2 ?k3 ?k4 ?k5 ?k6 ?k7 ?k8 ?k9 ?k10 ?_; (case k1 => k_asm); (case k2 => k_asm); (case k3 => k_asm); (case k4 => k_asm); (case k5 => k_asm); (case k6 => first | exact rfl | assumption); (case k7 => ktr_room); (case k8 => k_mem); (case k9 => k_mem); (case k10 => first | k_handed | assumption); k_whole); intro h' tk' F' N'; (try dsimp only); (try k_sweep); walk_say "CONTRACT getByt"))
local macro_rules | `(tactic| walk_at "call ref") => `(tactic| (k_here; (with_reducible show wpAny _ _ (call (Value.ref 99) _ _) _ _ _); k_dflt (refine' getChr ?k1 ?k2 ?k3 ?k4 ?k5 ?k6 ?k7 ?k8 ?k9 ?k10 ?_; (case k1 => k_asm); (case k2 => k_asm); (case k3 => k_asm); (case k4 => k_asm); (case k5 => k_asm); (case k6 => first | exact rfl | assumption); (case k7 => ktr_room); (case k8 => k_mem); (case k9 => k_mem); (case k10 => first | k_handed | assumption); k_whole); intro h' tk' F' N'; (try dsimp only); (try k_sweep); walk_say "CONTRACT getChr"))
local macro_rules | `(tactic| walk_at "call ref") => `(tactic| (k_here; (with_reducible show wpAny _ _ (call (Value.ref 50) _ _) _ _ _); k_dflt (refine' setSys ?k1 ?k2 ?k3 ?k4 ?k5 ?k6 ?k7 ?k8 ?k9 ?k10 ?_; (case k1 => k_asm); (case k2 => k_asm); (case k3 => k_asm); (case k4 => k_asm); (case k5 => k_asm); (case k6 => first | exact rfl | assumption); (case k7 => ktr_room); (case k8 => k_mem); (case k9 => k_mem); (case k10 => k_upd); k_whole); intro h' tk' F' N'; (try dsimp only); (try k_sweep); walk_say "CONTRACT setSys"))
local macro_rules | `(tactic| walk_at "call ref") => `(tactic| (k_here; (with_reducible show wpAny _ _ (call (Value.ref 36) _ _) _ _ _); k_dflt (refine' setPub ?k1 ?k2 ?k3 ?k4 ?k5 ?k6 ?k7 ?k8 ?k9 ?k10 ?_; (case k1 => k_asm); (case k2 => k_asm); (case k3 => k_asm); (case k4 => k_asm); (case k5 => k_asm); (case k6 => first | exact rfl | assumption); (case k7 => ktr_room); (case k8 => k_mem); (case k9 => k_mem); (case k10 => k_upd); k_whole); intro h' tk' F' N'; (try dsimp only); (try k_sweep); walk_say "CONTRACT setPub"))
local macro_rules | `(tactic| walk_at "call ref") => `(tactic| (k_here; (with_reducible show wpAny _ _ (call (Value.ref 64) _ _) _ _ _); k_dflt (refine' setEnc ?k1 ?k2 ?k3 ?k4 ?k5 ?k6 ?k7 ?k8 ?k9 ?k10 ?_; (case k1 => k_asm); (case k2 => k_asm); (case k3 => k_asm); (case k4 => k_asm); (case k5 => k_asm); (case k6 => first | exact rfl | assumption); (case k7 => ktr_room); (case k8 => k_mem); (case k9 => k_mem); (case k10 => k_upd); k_whole); intro h' tk' F' N'; (try dsimp only); (try k_sweep); walk_say "CONTRACT setEnc"))
local macro_rules | `(tactic| walk_at "call ref") => `(tactic| (k_here; (with_reducible show wpAny _ _ (call (Value.ref 78) _ _) _ _ _); k_dflt (refine' setByt ?k1 ?k2 ?k3 ?k4 ?k5 ?k6 ?k7 ?k8 ?k9 ?k10 ?_; (case k1 => k_asm); (case k2 => k_asm); (case k3 => k_asm); (case k4 => k_asm); (case k5 => k_asm); (case k6 => first | exact rfl | assumption); (case k7 => ktr_room); (case k8 => k_mem); (case k9 => k_mem); (case k10 => k_upd); k_whole); intro h' tk' F' N'; (try dsimp only); (try k_sweep); walk_say "CONTRACT setByt"))
local macro_rules | `(tactic| walk_at "call ref") => `(tactic| (k_here; (with_reducible show wpAny _ _ (call (Value.ref 92) _ _) _ _ _); k_dflt (refine' setChr ?k1 ?k2 ?k3 ?k4 ?k5 ?k6 ?k7 ?k8 ?k9 ?k10 ?_; (case k1 => k_asm); (case k2 => k_asm); (case k3 => k_asm); (case k4 => k_asm); (case k5 => k_asm); (case k6 => first | exact rfl | assumption); (case k7 => ktr_room); (case k8 => k_mem); (case k9 => k_mem); (case k10 => k_upd); k_whole); intro h' tk' F' N'; (try dsimp only); (try k_sweep); walk_say "CONTRACT setChr"))
local macro_rules | `(tactic| walk_at "call builtin:list.append") => `(tactic| (k_here; (with_reducible show wpAny _ _ (call (Value.builtin _) [Value.ref _, Value.none]) _ _ _); k_dflt (refine' append_none ?k1 ?k2 ?k3 ?k4 ?_; (case k1 => k_asm); (case k2 => k_asm); (case k3 => k_upd); (case k4 => first | assumption | omega); k_whole); intro h' F' N'; (try dsimp only); (try k_sweep); walk_say "APPEND none"))
local macro_rules | `(tactic| walk_at "call builtin:list.extend") => `(tactic| (k_here; (with_reducible show wpAny _ _ (call (Value.builtin _) [Value.ref _, Value.ref _]) _ _ _); k_dflt (refine' extend_none ?k1 ?k2 ?k3 ?k4 ?k5 ?k6 ?_; (case k1 => k_asm); (case k2 => k_asm); (case k3 => k_updF); (case k4 => k_mem); (case k5 => rfl); (case k6 => first | assumption | omega | (show _ + 2 ≤ _; omega) | (show _ + 5 ≤ _; omega)); k_whole); intro h' n' F' N'; (try dsimp only at N'); (try k_sweep); walk_say "EXTEND none"))
local macro_rules | `(tactic| walk_at "compareOp In int ref") => `(tactic| (k_here; k_dflt (refine' in_ints ?k1 ?k2 ?k3 ?_; (case k1 => k_asm); (case k2 => k_mem); (case k3 => k_asm); k_whole); walk_say "IN ints"))
local macro_rules | `(tactic| walk_at "compareOp NotIn int ref") => `(tactic| (k_here; k_dflt (refine' notin_ints ?k1 ?k2 ?k3 ?_; (case k1 => k_asm); (case k2 => k_mem); (case k3 => k_asm); k_whole); walk_say "NOTIN ints"))
local macro_rules | `(tactic| walk_at "subscriptTail") => `(tactic| (k_here; (with_reducible show wpAny _ _ (subscriptTail _ _ (Value.ref _) (Value.int _ _)) _ _ _); (with_unfolding_all refine' item_src ?k1 ?k2 ?k3 ?k4 ?_ ?k6; (case k1 => k_asm); (case k2 => k_mem); (case k3 => first | assumption | omega); (case k4 => first | assumption | omega); (case k6 => with_unfolding_all rfl); k_whole); walk_say "ITEM src"))
local macro_rules | `(tactic| walk_at "subscriptTail Name Constant ref int") => `(tactic| (k_here; (with_unfolding_all refine' item0 ?k1 ?k2 ?k3 ?_ ?k6; (case k1 => k_asm); (case k2 => k_mem); (case k3 => assumption); (case k6 => with_unfolding_all rfl); k_whole); walk_say "ITEM 0"))

variable {w : World} {h₀ : Heap} {L fa : Addr} {cd : Value} {m : Str → Option Value} {news : List (Addr × Obj)} {s : Shared} {mean : ExcName → Option Value} {mg mb : Str → Option Value}
  {σ δ : Nat → Addr} {sl an gl fd : Addr} {Xs : List (Addr × Obj)} {D : Nat → Src} {par : Nat → Nat} {q : Nat} {hs : List Nat} {ha : Nat → Addr} {had : Nat → List Nat} {kvs : List (Int × Value)} {hf rank : Nat → Nat} {v : Value}
local macro_rules | `(tactic| walk_at "call builtin:len") => `(tactic| (k_here; (with_reducible show wpAny _ _ (call (Value.builtin "len") [Value.ref _]) _ _ _); k_dflt (refine' len_made ?k1 ?k2 ?k3 ?_; (case k1 => k_asm); (case k2 => k_mem); (case k3 => assumption); k_whole); intro t' k'; (try dsimp only); walk_say "LEN made"))

theorem turn0s {Q : Flow → Shared → Prop} {E : Value → Shared → Prop} {u : Str → Option Value} (B : Below callerA h₀ [] h₀) (F : Fr h₀ L s.heap (frm sl an gl fd u)) (X : (hd.heap_39 w.params).In h₀) (N : News h₀ L s.heap news) (T : Top hd.view_39 (looseW hd.view_39 []) mean mg mb h₀)
    (M : LSt w σ δ sl an L Xs D par q gl fd hs ha had kvs news) (hge : 2 ≤ hs.length) (hl8 : hs.length ≤ 8)
    (ret : ∀ h' tk', Fr h₀ L h' (frm sl an gl fd u) → News h₀ L h' news → Q .next { s with heap := h', toks := tk' }) :
    wpAny (model PySem.Challenge.rw_kn0108_01.row.prog w) (lawA L fa cd) (exec st0.1 (lawEnv L fa cd)) Q E s := by
  revert X; k_fill; intro X
  w_on
  dsimp only [st0, mainB, lawA, lawEnv, lawBS]
  obtain ⟨cg, hgl⟩ := M.grp
  have hz : (hs.map fun h => Value.ref (ha h)).length ≤ sizeLine := by rw [sizeLine_eq, List.length_map]; omega
  have hlt2 : ¬ ((hs.map fun h => Value.ref (ha h)).length : Int) < 2 := by rw [List.length_map]; omega
  k_steps
  exact ret _ _ F N
theorem turnRest {Q : Flow → Shared → Prop} {E : Value → Shared → Prop} {u : Str → Option Value} {ox : Obj} {xv : Int} {xt : Tok} (B : Below callerA h₀ [] h₀) (F : Fr h₀ L s.heap (frm sl an gl fd u)) (X : (hd.heap_39 w.params).In h₀) (N : News h₀ L s.heap news) (T : Top hd.view_39 (looseW hd.view_39 []) mean mg mb h₀)
    (S : Sep σ δ) (M : LSt w σ δ sl an L Xs D par q gl fd hs ha had kvs news) (P : PInv D par hf rank hs ha had kvs) (hq : q ≤ 80000) (hx : (L + 1, ox) ∈ news) (hxv : ox.data = .cell (some (.int xv xt)))
    (ret : ∀ h' tk' news' gl' D' par' hf' rank' hs' ha' had' kvs' q' u', Fr h₀ L h' (frm sl an gl' fd u') → News h₀ L h' news' → LSt w σ δ sl an L Xs D' par' q' gl' fd hs' ha' had' kvs' news' → PInv D' par' hf' rank' hs' ha' had' kvs' → q' ≤ q + 19 → Q .next { s with heap := h', toks := tk' }) :
    wpAny (model PySem.Challenge.rw_kn0108_01.row.prog w) (lawA L fa cd) (execs [st1.1, st2.1, st3.1, st4.1, st5.1] (lawEnv L fa cd)) Q E s := by
  have hx0 := fmod_lo xv (n := 8) (by decide)
  have hx8 := fmod_hi xv (n := 8) (by decide)
  have hy0 := fmod_lo (xv.fdiv 8) (n := 8) (by decide)
  have hy8 := fmod_hi (xv.fdiv 8) (n := 8) (by decide)
  have i8 : (xv.fmod 8).toNat < 8 := by omega
  have j8 : ((xv.fdiv 8).fmod 8).toNat < 8 := by omega
  have hl8 : hs.length ≤ 8 := by have := P.len; omega
  refine wpAny_execs_cons (turn1 B F X N T S P.fi (by omega) M hx hxv ?_)
  intro h1 k1 u1 news1 par1 q1 F1 N1 I1 hq1 M1 hx1
  refine wpAny_execs_cons (turn2 B F1 X N1 T M1 hx1 hxv (fun h hh => (P.h8 h hh).1) hl8 (P.first i8) ?_)
  intro h2 k2 news2 of F2 N2 M2 kp2 hcf hdf
  have hx2 := kp2 _ hx1 (show @Ne Nat (L + 1) (L + 1 + 1) by omega)
  refine wpAny_execs_cons (turn3 B F2 X N2 T M2 hx2 hxv (fun h hh => (P.h8 h hh).1) hl8 (P.first j8) ?_)
  intro h3 k3 news3 os F3 N3 M3 kp3 hcs hds
  have hcf3 := kp3 _ hcf (show @Ne Nat (L + 1 + 1) (L + 1 + 1 + 1) by omega)
  have P1 := P.par_fi I1
  have a8 := P.fi.hd_lt _ i8
  have b8 := P.fi.hd_lt _ j8
  obtain ⟨ra, ea⟩ := P.hd0 _ a8
  obtain ⟨rb, eb⟩ := P.hd0 _ b8
  refine wpAny_execs_cons (turn4 B F3 X N3 T M3 hcf3 hdf hcs hds a8 b8 ea eb ?_)
  intro h4 k4 F4 N4
  refine wpAny_execs_cons (turn5 B F4 X N4 T S M3 P1 (by omega) hcf3 hdf hcs hds a8 b8 (P.fi.hd_hd _ i8) (P.fi.hd_hd _ j8) ?_)
  intro h5 k5 news5 gl5 D5 par5 hf5 rank5 hs5 ha5 had5 kvs5 q5 u5 F5 N5 M5 P5 hq5
  exact wpAny_execs_nil (ret _ _ _ _ _ _ _ _ _ _ _ _ _ _ F5 N5 M5 P5 (by omega))
/-- what holds between two turns -/
def LoopS (w : World) (σ δ : Nat → Addr) (sl an L : Addr) (Xs : List (Addr × Obj)) (i : Nat) (gl fd : Addr) (q : Nat) (news : List (Addr × Obj)) : Prop :=
  (i = 0 ∧ ∃ C, WSt w σ δ sl an L Xs C q gl [] news) ∨ (∃ D par hf rank hs ha had kvs, LSt w σ δ sl an L Xs D par q gl fd hs ha had kvs news ∧ PInv D par hf rank hs ha had kvs)
theorem turnAll {Q : Flow → Shared → Prop} {u : Str → Option Value} {ox : Obj} {xv : Int} {xt : Tok} {i : Nat} (B : Below callerA h₀ [] h₀) (F : Fr h₀ L s.heap (frm sl an gl fd u)) (X : (hd.heap_39 w.params).In h₀) (N : News h₀ L s.heap news) (T : Top hd.view_39 (looseW hd.view_39 []) mean mg mb h₀)
    (S : Sep σ δ) (M : LoopS w σ δ sl an L Xs i gl fd q news) (hq : q ≤ 60 * i) (hi : i ≤ 1000) (hx : (L + 1, ox) ∈ news) (hxv : ox.data = .cell (some (.int xv xt)))
    (ret : ∀ h' tk' news' gl' fd' q' u', Fr h₀ L h' (frm sl an gl' fd' u') → News h₀ L h' news' → LoopS w σ δ sl an L Xs (i + 1) gl' fd' q' news' → q' ≤ 60 * (i + 1) → Q .next { s with heap := h', toks := tk' }) :
    wpAny (model PySem.Challenge.rw_kn0108_01.row.prog w) (lawA L fa cd) (execs mainB.1 (lawEnv L fa cd)) Q (fun _ _ => False) s := by
  show wpAny _ _ (execs [st0.1, st1.1, st2.1, st3.1, st4.1, st5.1] _) _ _ _
  have fresh : ∀ {C gvs}, WSt w σ δ sl an L Xs C q gl gvs news → gvs.length < 2 → wpAny (model PySem.Challenge.rw_kn0108_01.row.prog w) (lawA L fa cd) (execs [st0.1, st1.1, st2.1, st3.1, st4.1, st5.1] (lawEnv L fa cd)) Q (fun _ _ => False) s := by
    intro C gvs W hlt
    obtain ⟨r, han⟩ := W.ans
    have ap := ap_cellW (dis_of N) (fun j hj => (W.has j hj).2) han hx hxv
    refine wpAny_execs_cons (turn0 B F X N T S W (by omega) hlt ?_)
    intro h1 k1 news1 gl1 fd1 u1 D1 ha1 q1 F1 N1 M1 P1 hq1 kp1
    refine turnRest B F1 X N1 T S M1 P1 (by omega) (kp1 _ hx ap.1 ap.2) hxv ?_
    intro h2 k2 news2 gl2 D2 par2 hf2 rank2 hs2 ha2 had2 kvs2 q2 u2 F2 N2 M2 P2 hq2
    exact ret _ _ _ _ _ _ _ F2 N2 (.inr ⟨_, _, _, _, _, _, _, _, M2, P2⟩) (by omega)
  rcases M with ⟨_, C, W⟩ | ⟨D, par, hf, rank, hs, ha, had, kvs, M, P⟩
  · exact fresh W (by decide)
  · by_cases hlt : hs.length < 2
    · refine fresh (C := srcAt σ D par) (gvs := hs.map fun h => Value.ref (ha h)) ⟨M.has, M.src, M.ans, M.grp, M.cx, M.cf, M.cs, M.a_sl, M.ext⟩ (by rw [List.length_map]; exact hlt)
    · refine wpAny_execs_cons (turn0s B F X N T M (by omega) (by have := P.len; omega) ?_)
      intro h1 k1 F1 N1
      refine turnRest B F1 X N1 T S M P (by omega) hx hxv ?_
      intro h2 k2 news2 gl2 D2 par2 hf2 rank2 hs2 ha2 had2 kvs2 q2 u2 F2 N2 M2 P2 hq2
      exact ret _ _ _ _ _ _ _ F2 N2 (.inr ⟨_, _, _, _, _, _, _, _, M2, P2⟩) (by omega)
end
end Mine
end

-- part 18
section
open PySem PySem.W PySem.Calls PyProof.Rows PyProof.V PySem.Spec
set_option Elab.async false
set_option maxRecDepth 100000
namespace Mine
/-! a loop over a list of the ledger, whatever its target and its ledger's turns -/
section
variable {prog : Program} {w : World} {A : Around} {E : Value → Shared → Prop} {s : Shared} {env : Env} {h₀ : Heap} {target : Expr} {body : List Stmt} {Q : Flow → Shared → Prop}
def AnyEnd (h₀ : Heap) (L : Addr) (s : Shared) (I : Addr) (oI : Obj) (l : Addr) (ol : Obj) (J : (Str → Option Value) → List (Addr × Obj) → Prop) (s₂ : Shared) : Prop :=
  ∃ h' tk' m' news', s₂ = { s with heap := h', toks := tk' } ∧ Fr h₀ L h' m' ∧ News h₀ L h' ((I, oI) :: (l, ol) :: news') ∧ (∀ p ∈ news', p.1 ≠ I) ∧ J m' news'
def AnyPost (h₀ : Heap) (L : Addr) (s : Shared) (I : Addr) (oI : Obj) (l : Addr) (ol : Obj) (J : (Str → Option Value) → List (Addr × Obj) → Prop) (Q : Flow → Shared → Prop) (f : Flow) (s₂ : Shared) : Prop :=
  match f with
  | .ret v => Q (.ret v) s₂
  | .brk => Q .next s₂
  | _ => AnyEnd h₀ L s I oI l ol J s₂
theorem iter_any {l : Addr} {vs : List Value} {c : Nat} {m₀ : Str → Option Value} {news : List (Addr × Obj)} (J : Nat → (Str → Option Value) → List (Addr × Obj) → Prop)
    (hh : A.handled = none) (hl : (l, W.listOf vs.toArray c) ∈ news) (F : Fr h₀ env.locals s.heap m₀) (N : News h₀ env.locals s.heap news) (hj : J 0 m₀ news) (hgo : ∀ it v, letOwnedTupleGo target it v = pure ())
    (turn : ∀ i v m₁ news₁ h tk I oI ol, vs[i]? = some v → J i m₁ news₁ → (∀ p ∈ news₁, p.1 ≠ I) → (∃ fs, oI.data = .fields fs) → (∃ n, ol.data = .seq vs.toArray n) → Fr h₀ env.locals h m₁ → News h₀ env.locals h ((I, oI) :: (l, ol) :: news₁) →
      wpAny (model prog w) A (assign target env v) (fun _ s₃ => wpAny (model prog w) A (execs body env) (AnyPost h₀ env.locals { s with heap := h, toks := tk } I oI l ol (J (i + 1)) Q) E s₃) E { s with heap := h, toks := tk })
    (done : ∀ m₁ news₁ h tk, J vs.length m₁ news₁ → Fr h₀ env.locals h m₁ → News h₀ env.locals h news₁ → Q .next { s with heap := h, toks := tk }) :
    wpAny (model prog w) A (pyIter (.ref l)) (fun it s₂ => TurnsAt prog w A h₀ env target body Q E it s₂) E s := by
  have hol : s.heap.get? l = some (W.listOf vs.toArray c) := (N _ hl).1
  have hls : s.heap.IsList l vs.toArray := ⟨_, hol, rfl, c, rfl⟩
  have hne : l ≠ s.heap.objs.size := Nat.ne_of_lt (Heap.lt_size hol)
  refine wpAny_pyIter_list hls ?_
  have W := Walks.list (prog := prog) (w := w) hh s.heap.objs.size l hne vs.toArray
  have hlen : vs.toArray.size = vs.length := by simp
  rw [hlen] at W
  have hnew := next_is_new F
  refine ⟨_, _, _, vs.length, _, _, _, m₀, news, J, rfl, KTurns.ofWalks W (fun i v s' Q' E' _ hq => wpAny_of_eq (hgo _ v) hq), ?_, ?_, ?_, ⟨⟨_, Heap.get?_push_size _ rfl, rfl, rfl⟩, hls.at fun o e => Heap.get?_push_of_some _ e⟩, F.push _, (fun p hp => ⟨Heap.get?_push_of_some _ (N p hp).1, (N p hp).2⟩), hj, ?_, ?_⟩
  · intro hm
    rcases List.mem_cons.mp hm with e | hm
    · exact absurd F.ns.lt (e ▸ Nat.lt_irrefl _)
    · exact (N _ hl).2.1 ((List.mem_singleton.mp hm).symm)
  · intro b hb
    rw [List.mem_singleton.mp hb]
    exact hnew
  · intro p hp hI
    exact absurd (Heap.lt_size (N p hp).1) ((List.mem_singleton.mp hI) ▸ Nat.lt_irrefl _)
  · rintro i v m₁ news₁ h₁ tk₁ own hi hP hJ hoff hown hget hall hst F₁ N₁
    obtain ⟨⟨oI, heI, hcI, hdI⟩, ol, hel, hcl, nl, hdl⟩ := hst
    have hl0 : h₀.get? l = none := (N _ hl).2.2
    have mI : (s.heap.objs.size, oI) ∈ own := hall _ (.head _) hnew _ heI
    have ml : (l, ol) ∈ own := hall _ (.tail _ (.head _)) hl0 _ hel
    have onl : ∀ p ∈ own, p = (s.heap.objs.size, oI) ∨ p = (l, ol) := by
      intro p hp
      have h1 := hget p hp
      rcases List.mem_cons.mp (hown p hp) with e | e
      · rw [e, heI] at h1; exact .inl (Prod.ext e (Option.some.inj h1).symm)
      · have e := List.mem_singleton.mp e
        rw [e, hel] at h1; exact .inr (Prod.ext e (Option.some.inj h1).symm)
    have N₂ : News h₀ env.locals h₁ ((s.heap.objs.size, oI) :: (l, ol) :: news₁) := fun p hp => by
      rcases List.mem_cons.mp hp with rfl | hp
      · exact N₁ _ (List.mem_append_left _ mI)
      · rcases List.mem_cons.mp hp with rfl | hp
        · exact N₁ _ (List.mem_append_left _ ml)
        · exact N₁ _ (List.mem_append_right _ hp)
    have hoff' : ∀ p ∈ news₁, p.1 ≠ s.heap.objs.size := fun p hp e => hoff p hp (List.mem_singleton.mpr e)
    refine wpAny_mono (turn i v m₁ news₁ h₁ tk₁ s.heap.objs.size oI ol (by simpa using hP) hJ hoff' ⟨_, hdI⟩ ⟨nl, hdl⟩ F₁ N₂) (fun _ s₃ h₃ => wpAny_mono h₃ (fun f s₄ p => ?_) fun _ _ e => e) fun _ _ e => e
    have fin : AnyEnd h₀ env.locals { s with heap := h₁, toks := tk₁ } s.heap.objs.size oI l ol (J (i + 1)) s₄ → LoopStepU h₀ env.locals [s.heap.objs.size] own (J (i + 1)) { s with heap := h₁, toks := tk₁ } .next s₄ := by
      rintro ⟨h', tk', m', news', e, F', N', o', J'⟩
      refine ⟨rfl, h', tk', m', news', e, F', fun p hp => ?_, fun p hp hI => o' p hp (List.mem_singleton.mp hI), J'⟩
      rcases List.mem_append.mp hp with hp | hp
      · rcases onl p hp with rfl | rfl
        · exact N' _ (.head _)
        · exact N' _ (.tail _ (.head _))
      · exact N' p (.tail _ (.tail _ hp))
    cases f with
    | ret v => exact .ret p
    | brk => exact .brk p
    | next => exact .next (fin p)
    | cont => exact .cont (fin p)
  · intro h' tk m' news' F' N' _ hJ
    exact done m' news' h' tk hJ F' N'
end
section
variable {w : World} {h₀ : Heap} {L fa : Addr} {cd : Value} {m : Str → Option Value} {news news' : List (Addr × Obj)} {s : Shared} {mean : ExcName → Option Value} {mg mb : Str → Option Value}
  {σ δ : Nat → Addr} {sl an gl fd : Addr} {Xs Ys : List (Addr × Obj)} {D : Nat → Src} {par : Nat → Nat} {q : Nat} {hs : List Nat} {ha : Nat → Addr} {had : Nat → List Nat} {kvs : List (Int × Value)} {hf rank : Nat → Nat} {v : Value}
theorem LSt.mono (M : LSt w σ δ sl an L Xs D par q gl fd hs ha had kvs news) (sub : ∀ p ∈ news, p ∈ news') (E : Ext an δ Ys news') : LSt w σ δ sl an L Ys D par q gl fd hs ha had kvs news' := by
  have kc : ∀ {x : Addr}, (∃ o v, (x, o) ∈ news ∧ o.data = .cell v) → (∃ o v, (x, o) ∈ news' ∧ o.data = .cell v) := fun ⟨o, v, hm, hd⟩ => ⟨o, v, sub _ hm, hd⟩
  have ke : ∀ {x : Addr} {f : Nat → Obj}, (∃ c, (x, f c) ∈ news) → ∃ c, (x, f c) ∈ news' := fun ⟨c, h⟩ => ⟨c, sub _ h⟩
  refine ⟨M.has.mono sub, ke M.src, ke M.ans, ke M.grp, fun k hk => ?_, ?_, kc M.cx, kc M.cf, kc M.cs, M.a_sl, M.a_gl, M.a_ha, M.a_fd, E⟩
  · obtain ⟨vs, c, hm, hi⟩ := M.hads k hk; exact ⟨vs, c, sub _ hm, hi⟩
  · obtain ⟨fo, hm, hd⟩ := M.frm; exact ⟨fo, sub _ hm, hd⟩
theorem WSt.mono {C : Nat → Src} {gvs : List Value} (M : WSt w σ δ sl an L Xs C q gl gvs news) (sub : ∀ p ∈ news, p ∈ news') (E : Ext an δ Ys news') : WSt w σ δ sl an L Ys C q gl gvs news' := by
  have kc : ∀ {x : Addr}, (∃ o v, (x, o) ∈ news ∧ o.data = .cell v) → (∃ o v, (x, o) ∈ news' ∧ o.data = .cell v) := fun ⟨o, v, hm, hd⟩ => ⟨o, v, sub _ hm, hd⟩
  have ke : ∀ {x : Addr} {f : Nat → Obj}, (∃ c, (x, f c) ∈ news) → ∃ c, (x, f c) ∈ news' := fun ⟨c, h⟩ => ⟨c, sub _ h⟩
  exact ⟨fun j hj => ⟨sub _ (M.has j hj).1, sub _ (M.has j hj).2⟩, ke M.src, ke M.ans, ke M.grp, kc M.cx, kc M.cf, kc M.cs, M.a_sl, E⟩
theorem WSt.cell {C : Nat → Src} {gvs : List Value} {d : Addr} {od : Obj} {vd : Option Value} (N : Dis news) (M : WSt w σ δ sl an L Xs C q gl gvs news) (hd : (d, od) ∈ news) (hv : od.data = .cell vd) (keep : ∀ p ∈ news, p.1 ≠ d → p ∈ news')
    (cx : ∃ o v, (L + 1, o) ∈ news' ∧ o.data = .cell v) (cf : ∃ o v, (L + 1 + 1, o) ∈ news' ∧ o.data = .cell v) (cs : ∃ o v, (L + 1 + 1 + 1, o) ∈ news' ∧ o.data = .cell v) : WSt w σ δ sl an L Xs C q gl gvs news' := by
  have kp : ∀ {a o}, (a, o) ∈ news → (∀ v, o.data ≠ .cell v) → (a, o) ∈ news' := fun hm hne => keep _ hm (N _ _ _ _ hm hd (fun e => by rw [e] at hne; exact hne _ hv))
  have kl : ∀ {a : Addr} {its : Array Value} {c : Nat}, (a, W.listOf its c) ∈ news → (a, W.listOf its c) ∈ news' := fun hm => kp hm (fun v e => by cases e)
  have ke : ∀ {x : Addr} {f : Array Value}, (∃ c, (x, W.listOf f c) ∈ news) → ∃ c, (x, W.listOf f c) ∈ news' := fun ⟨c, h⟩ => ⟨c, kl h⟩
  exact ⟨fun i hi => ⟨kp (M.has i hi).1 (fun v e => by cases e), kp (M.has i hi).2 (fun v e => by cases e)⟩, ke M.src, ke M.ans, ke M.grp, cx, cf, cs, M.a_sl, fun p hp => ⟨kp (M.ext p hp).1 (M.ext p hp).2.2.1, (M.ext p hp).2⟩⟩
theorem LSt.noI {I : Addr} {oI : Obj} {fs : Array Value} (N : Dis news) (M : LSt w σ δ sl an L Xs D par q gl fd hs ha had kvs news) (hI : (I, oI) ∈ news) (hd : oI.data = .fields fs) : LSt w σ δ sl an L [] D par q gl fd hs ha had kvs (offI I news) := by
  have kp : ∀ {a o}, (a, o) ∈ news → (∀ fs, o.data ≠ .fields fs) → (a, o) ∈ offI I news := fun hm hne => mem_offI hm (N _ _ _ _ hm hI (fun e => by rw [e] at hne; exact hne _ hd))
  have kl : ∀ {a : Addr} {its : Array Value} {c : Nat}, (a, W.listOf its c) ∈ news → (a, W.listOf its c) ∈ offI I news := fun hm => kp hm (fun v e => by cases e)
  have ke : ∀ {x : Addr} {f : Array Value}, (∃ c, (x, W.listOf f c) ∈ news) → ∃ c, (x, W.listOf f c) ∈ offI I news := fun ⟨c, h⟩ => ⟨c, kl h⟩
  have kc : ∀ {x : Addr}, (∃ o v, (x, o) ∈ news ∧ o.data = .cell v) → (∃ o v, (x, o) ∈ offI I news ∧ o.data = .cell v) := fun ⟨o, v, hm, hd⟩ => ⟨o, v, kp hm (fun fs e => by rw [hd] at e; cases e), hd⟩
  refine ⟨fun i hi => ⟨kp (M.has i hi).1 (fun v e => by cases e), kp (M.has i hi).2 (fun v e => by cases e)⟩, ke M.src, ke M.ans, ke M.grp, fun k hk => ?_, ?_, kc M.cx, kc M.cf, kc M.cs, M.a_sl, M.a_gl, M.a_ha, M.a_fd, fun p hp => (nomatch hp)⟩
  · obtain ⟨vs, c, hm, hi⟩ := M.hads k hk; exact ⟨vs, c, kl hm, hi⟩
  · obtain ⟨fo, hm, hd'⟩ := M.frm
    obtain ⟨-, es, ep, h1⟩ := dict_data hd'
    exact ⟨fo, kp hm (fun fs e => by rw [h1] at e; cases e), hd'⟩
def LoopJ (w : World) (σ δ : Nat → Addr) (sl an L : Addr) (i : Nat) (m : Str → Option Value) (news : List (Addr × Obj)) : Prop :=
  ∃ gl fd q u, m = frm sl an gl fd u ∧ LoopS w σ δ sl an L [] i gl fd q news ∧ q ≤ 60 * i
theorem mainIter {Q : Flow → Shared → Prop} {l : Addr} {vs : List Value} {ns : List Int} {c : Nat} {px : Pos} {u : Str → Option Value} (B : Below callerA h₀ [] h₀) (F : Fr h₀ L s.heap (frm sl an gl fd u)) (X : (hd.heap_39 w.params).In h₀) (N : News h₀ L s.heap news) (T : Top hd.view_39 (looseW hd.view_39 []) mean mg mb h₀)
    (S : Sep σ δ) (M : LoopS w σ δ sl an L [] 0 gl fd 0 news) (hl : (l, W.listOf vs.toArray c) ∈ news) (hi : IntsAre vs ns) (hn : ns.length ≤ 500) (al : Ap an δ l)
    (done : ∀ h' tk' news' gl' fd' q' u', Fr h₀ L h' (frm sl an gl' fd' u') → News h₀ L h' news' → LoopS w σ δ sl an L [] ns.length gl' fd' q' news' → q' ≤ 60 * ns.length → Q .next { s with heap := h', toks := tk' }) :
    wpAny (model PySem.Challenge.rw_kn0108_01.row.prog w) (lawA L fa cd) (pyIter (.ref l)) (fun it s₂ => TurnsAt PySem.Challenge.rw_kn0108_01.row.prog w (lawA L fa cd) h₀ (lawEnv L fa cd) (.Name (Str.ofString "x") px) mainB.1 Q (fun _ _ => False) it s₂) (fun _ _ => False) s := by
  have hlen := hi.length
  refine iter_any (LoopJ w σ δ sl an L) rfl hl F N ⟨gl, fd, 0, u, rfl, M, Nat.zero_le _⟩ (fun _ _ => rfl) ?_ ?_
  · rintro i v m₁ news₁ h tk I oI ol hv ⟨gl1, fd1, q1, u1, rfl, M1, hq1⟩ hoff ⟨fs, hfs⟩ ⟨nl, hnl⟩ F1 N1
    have hilt : i < vs.length := by
      rcases Nat.lt_or_ge i vs.length with h | h
      · exact h
      · rw [List.getElem?_eq_none h] at hv; cases hv
    obtain ⟨xv, xt, rfl, _⟩ := IntsAre.at hi i v hv
    have dN := dis_of N1
    -- the answers and the dicts are there, whatever the case
    obtain ⟨⟨r0, han⟩, hdl, ox, vx, hcx, hdx⟩ : (∃ r, (an, W.listOf (nones q1) r) ∈ news₁) ∧ (∀ j, j < 8 → ∃ c, (δ j, dic w c) ∈ news₁) ∧ ∃ o v, (L + 1, o) ∈ news₁ ∧ o.data = .cell v := by
      rcases M1 with ⟨_, C, W⟩ | ⟨D, par, hf, rank, hs, ha, had, kvs, W, P⟩
      · exact ⟨W.ans, fun j hj => ⟨_, (W.has j hj).2⟩, W.cx⟩
      · exact ⟨W.ans, fun j hj => ⟨_, (W.has j hj).2⟩, W.cx⟩
    have ext : Ext an δ [(I, oI), (l, ol)] ((I, oI) :: (l, ol) :: news₁) := by
      intro p hp
      simp only [List.mem_cons, List.not_mem_nil, or_false] at hp
      rcases hp with rfl | rfl
      · refine ⟨.head _, ⟨fun e => hoff _ han e.symm, fun j hj e => ?_⟩, (fun v e => by rw [hfs] at e; cases e), (fun es ep e => by rw [hfs] at e; cases e)⟩
        obtain ⟨c, hc⟩ := hdl j hj
        exact hoff _ hc e.symm
      · exact ⟨.tail _ (.head _), al, (fun v e => by rw [hnl] at e; cases e), (fun es ep e => by rw [hnl] at e; cases e)⟩
    have hf1 : ∀ p ∈ [(L + 1, ox)], p ∈ (I, oI) :: (l, ol) :: news₁ := by intro p hp; rw [List.mem_singleton.mp hp]; exact .tail _ (.tail _ hcx)
    obtain ⟨N3, off⟩ := focus _ N1 hf1
    have sub := sub_focus N1 hf1
    refine wpAny_assign_Name (storeX_C F1 N3 (c := L + 1) (by rfl) (UpdF.head (fun p hp => off p hp _ (.head _))) hdx (fun h' o' F' N' hd' => ?_))
    have kp := kp_of sub (fun p hp => hp) N'
    have kc : ∀ {x : Addr}, @Ne Nat x (L + 1) → (∃ o v, (x, o) ∈ news₁ ∧ o.data = .cell v) → (∃ o v, (x, o) ∈ (L + 1, o') :: restOf [(L + 1, ox)] ((I, oI) :: (l, ol) :: news₁) ∧ o.data = .cell v) := fun hne ⟨o, v, hm, hd⟩ => ⟨o, v, kp _ (.tail _ (.tail _ hm)) hne, hd⟩
    have M2 : LoopS w σ δ sl an L [(I, oI), (l, ol)] i gl1 fd1 q1 ((L + 1, o') :: restOf [(L + 1, ox)] ((I, oI) :: (l, ol) :: news₁)) := by
      rcases M1 with ⟨e0, C, W⟩ | ⟨D, par, hf, rank, hs, ha, had, kvs, W, P⟩
      · exact .inl ⟨e0, C, (W.mono (fun p hp => .tail _ (.tail _ hp)) ext).cell dN (.tail _ (.tail _ hcx)) hdx kp ⟨o', _, .head _, hd'⟩ (kc (by omega) W.cf) (kc (by omega) W.cs)⟩
      · exact .inr ⟨D, par, hf, rank, hs, ha, had, kvs, (W.mono (fun p hp => .tail _ (.tail _ hp)) ext).cell dN (.tail _ (.tail _ hcx)) hdx kp ⟨o', _, .head _, hd'⟩ (kc (by omega) W.cf) (kc (by omega) W.cs), P⟩
    refine turnAll B F' X N' T S M2 hq1 (by omega) (.head _) hd' ?_
    intro h2 k2 news2 gl2 fd2 q2 u2 F2 N2 M3 hq2
    show AnyEnd _ _ _ _ _ _ _ _ _
    rcases M3 with ⟨e0, _⟩ | ⟨D, par, hf, rank, hs, ha, had, kvs, W, P⟩
    · exact absurd e0 (Nat.succ_ne_zero i)
    · have mI := (W.ext _ (.head _)).1
      have ml := (W.ext _ (.tail _ (.head _))).1
      refine ⟨_, _, _, offI I news2, rfl, F2, fun p hp => ?_, offI_ne, gl2, fd2, q2, u2, rfl, .inr ⟨D, par, hf, rank, hs, ha, had, kvs, W.noI (dis_of N2) mI hfs, P⟩, hq2⟩
      rcases List.mem_cons.mp hp with rfl | hp
      · exact N2 _ mI
      · rcases List.mem_cons.mp hp with rfl | hp
        · exact N2 _ ml
        · exact N2 p (List.mem_filter.mp hp).1
  · rintro m₁ news₁ h tk ⟨gl1, fd1, q1, u1, rfl, M1, hq1⟩ F1 N1
    rw [hlen] at M1 hq1
    exact done _ _ _ _ _ _ _ F1 N1 M1 hq1
end
end Mine
end

-- part 19
section
open PySem PySem.W PySem.Calls PyProof.Rows PyProof.V PySem.Spec
set_option Elab.async false
set_option maxRecDepth 100000
namespace Mine
section
set_option maxHeartbeats 4000000
local macro_rules | `(tactic| k_mem) => `(tactic| ((show Membership.mem (γ := List (Addr × Obj)) _ _); with_reducible assumption))
local macro_rules | `(tactic| walk_at "call ref") => `(tactic| (k_here; (with_reducible show wpAny _ _ (call (Value.ref 57) _ _) _ _ _); k_dflt (refine' getSys ?k1 ?k2 ?k3 ?k4 ?k5 ?k6 ?k7 ?k8 ?k9 ?k10 ?_; (case k1 => k_asm); (case k2 => k_asm); (case k3 => k_asm); (case k4 => k_asm); (case k5 => k_asm); (case k6 => first | exact rfl | assumption); (case k7 => ktr_room); (case k8 => k_mem); (case k9 => k_mem); (case k10 => first | k_handed | assumption); k_whole); intro h' tk' F' N'; (try dsimp only); (try k_sweep); walk_say "CONTRACT getSys"))
local macro_rules | `(tactic| walk_at "call ref") => `(tactic| (k_here; (with_reducible show wpAny _ _ (call (Value.ref 43) _ _) _ _ _); k_dflt (refine' getPub ?k1 ?k2 ?k3 ?k4 ?k5 ?k6 ?k7 ?k8 ?k9 ?k10 ?_; (case k1 => k_asm); (case k2 => k_asm); (case k3 => k_asm); (case k4 => k_asm); (case k5 => k_asm); (case k6 => first | exact rfl | assumption); (case k7 => ktr_room); (case k8 => k_mem); (case k9 => k_mem); (case k10 => first | k_handed | assumption); k_whole); intro h' tk' F' N'; (try dsimp only); (try k_sweep); walk_say "CONTRACT getPub"))
local macro_rules | `(tactic| walk_at "call ref") => `(tactic| (k_here; (with_reducible show wpAny _ _ (call (Value.ref 71) _ _) _ _ _); k_dflt (refine' getEnc ?k1 ?k2 ?k3 ?k4 ?k5 ?k6 ?k7 ?k8 ?k9 ?k10 ?_; (case k1 => k_asm); (case k2 => k_asm); (case k3 => k_asm); (case k4 => k_asm); (case k5 => k_asm); (case k6 => first | exact rfl | assumption); (case k7 => ktr_room); (case k8 => k_mem); (case k9 => k_mem); (case k10 => first | k_handed | assumption); k_whole); intro h' tk' F' N'; (try dsimp only); (try k_sweep); walk_say "CONTRACT getEnc"))
local macro_rules | `(tactic| walk_at "call ref") => `(tactic| (k_here; (with_reducible show wpAny _ _ (call (Value.ref 85) _ _) _ _ _); k_dflt (refine' getByt ?k1 ?k2 ?k3 ?k4 ?k5 ?k6 ?k7 ?k8 ?k9 ?k10 ?_; (case k1 => k_asm); (case k2 => k_asm); (case k3 => k_asm); (case k4 => k_asm); (case k5 => k_asm); (case k6 => first | exact rfl | assumption); (case k7 => ktr_room); (case k8 => k_mem); (case k9 => k_mem); (case k10 => first | k_handed | assumption); k_whole); intro h' tk' F' N'; (try dsimp only); (try k_sweep); walk_say "CONTRACT getByt"))
local macro_rules | `(tactic| walk_at "call ref") => `(tactic| (k_here; (with_reducible show wpAny _ _ (call (Value.ref 99) _ _) _ _ _); k_dflt (refine' getChr ?k1 ?k2 ?k3 ?k4 ?k5 ?k6 ?k7 ?k8 ?k9 ?k10 ?_; (case k1 => k_asm); (case k2 => k_asm); (case k3 => k_asm); (case k4 => k_asm); (case k5 => k_asm); (case k6 => first | exact rfl | assumption); (case k7 => ktr_room); (case k8 => k_mem); (case k9 => k_mem); (case k10 => first | k_handed | assumption); k_whole); intro h' tk' F' N'; (try dsimp only); (try k_sweep); walk_say "CONTRACT getChr"))
local macro_rules | `(tactic| walk_at "call ref") => `(tactic| (k_here; (with_reducible show wpAny _ _ (call (Value.ref 50) _ _) _ _ _); k_dflt (refine' setSys ?k1 ?k2 ?k3 ?k4 ?k5 ?k6 ?k7 ?k8 ?k9 ?k10 ?_; (case k1 => k_asm); (case k2 => k_asm); (case k3 => k_asm); (case k4 => k_asm); (case k5 => k_asm); (case k6 => first | exact rfl | assumption); (case k7 => ktr_room); (case k8 => k_mem); (case k9 => k_mem); (case k10 => k_upd); k_whole); intro h' tk' F' N'; (try dsimp only); (try k_sweep); walk_say "CONTRACT setSys"))
local macro_rules | `(tactic| walk_at "call ref") => `(tactic| (k_here; (with_reducible show wpAny _ _ (call (Value.ref 36) _ _) _ _ _); k_dflt (refine' setPub ?k1 ?k2 ?k3 ?k4 ?k5 ?k6 ?k7 ?k8 ?k9 ?k10 ?_; (case k1 => k_asm); (case k2 => k_asm); (case k3 => k_asm); (case k4 => k_asm); (case k5 => k_asm); (case k6 => first | exact rfl | assumption); (case k7 => ktr_room); (case k8 => k_mem); (case k9 => k_mem); (case k10 => k_upd); k_whole); intro h' tk' F' N'; (try dsimp only); (try k_sweep); walk_say "CONTRACT setPub"))
local macro_rules | `(tactic| walk_at "call ref") => `(tactic| (k_here; (with_reducible show wpAny _ _ (call (Value.ref 64) _ _) _ _ _); k_dflt (refine' setEnc ?k1 ?k2 ?k3 ?k4 ?k5 ?k6 ?k7 ?k8 ?k9 ?k10 ?_; (case k1 => k_asm); (case k2 => k_asm); (case k3 => k_asm); (case k4 => k_asm); (case k5 => k_asm); (case k6 => first | exact rfl | assumption); (case k7 => ktr_room); (case k8 => k_mem); (case k9 => k_mem); (case k10 => k_upd); k_whole); intro h' tk' F' N'; (try dsimp only); (try k_sweep); walk_say "CONTRACT setEnc"))
local macro_rules | `(tactic| walk_at "call ref") => `(tactic| (k_here; (with_reducible show wpAny _ _ (call (Value.ref 78) _ _) _ _ _); k_dflt (refine' setByt ?k1 ?k2 ?k3 ?k4 ?k5 ?k6 ?k7 ?k8 ?k9 ?k10 ?_; (case k1 => k_asm); (case k2 => k_asm); (case k3 => k_asm); (case k4 => k_asm); (case k5 => k_asm); (case k6 => first | exact rfl | assumption); (case k7 => ktr_room); (case k8 => k_mem); (case k9 => k_mem); (case k10 => k_upd); k_whole); intro h' tk' F' N'; (try dsimp only); (try k_sweep); walk_say "CONTRACT setByt"))
local macro_rules | `(tactic| walk_at "call ref") => `(tactic| (k_here; (with_reducible show wpAny _ _ (call (Value.ref 92) _ _) _ _ _); k_dflt (refine' setChr ?k1 ?k2 ?k3 ?k4 ?k5 ?k6 ?k7 ?k8 ?k9 ?k10 ?_; (case k1 => k_asm); (case k2 => k_asm); (case k3 => k_asm); (case k4 => k_asm); (case k5 => k_asm); (case k6 => first | exact rfl | assumption); (case k7 => ktr_room); (case k8 => k_mem); (case k9 => k_mem); (case k10 => k_upd); k_whole); intro h' tk' F' N'; (try dsimp only); (try k_sweep); walk_say "CONTRACT setChr"))
local macro_rules | `(tactic| walk_at "call builtin:list.append") => `(tactic| (k_here; (with_reducible show wpAny _ _ (call (Value.builtin _) [Value.ref _, Value.none]) _ _ _); k_dflt (refine' append_none ?k1 ?k2 ?k3 ?k4 ?_; (case k1 => k_asm); (case k2 => k_asm); (case k3 => k_upd); (case k4 => first | assumption | omega); k_whole); intro h' F' N'; (try dsimp only); (try k_sweep); walk_say "APPEND none"))
local macro_rules | `(tactic| walk_at "call builtin:list.extend") => `(tactic| (k_here; (with_reducible show wpAny _ _ (call (Value.builtin _) [Value.ref _, Value.ref _]) _ _ _); k_dflt (refine' extend_none ?k1 ?k2 ?k3 ?k4 ?k5 ?k6 ?_; (case k1 => k_asm); (case k2 => k_asm); (case k3 => k_updF); (case k4 => k_mem); (case k5 => rfl); (case k6 => first | assumption | omega | (show _ + 2 ≤ _; omega) | (show _ + 5 ≤ _; omega)); k_whole); intro h' n' F' N'; (try dsimp only at N'); (try k_sweep); walk_say "EXTEND none"))
local macro_rules | `(tactic| walk_at "compareOp In int ref") => `(tactic| (k_here; k_dflt (refine' in_ints ?k1 ?k2 ?k3 ?_; (case k1 => k_asm); (case k2 => k_mem); (case k3 => k_asm); k_whole); walk_say "IN ints"))
local macro_rules | `(tactic| walk_at "compareOp NotIn int ref") => `(tactic| (k_here; k_dflt (refine' notin_ints ?k1 ?k2 ?k3 ?_; (case k1 => k_asm); (case k2 => k_mem); (case k3 => k_asm); k_whole); walk_say "NOTIN ints"))
local macro_rules | `(tactic| walk_at "subscriptTail") => `(tactic| (k_here; (with_reducible show wpAny _ _ (subscriptTail _ _ (Value.ref _) (Value.int _ _)) _ _ _); (with_unfolding_all refine' item_src ?k1 ?k2 ?k3 ?k4 ?_ ?k6; (case k1 => k_asm); (case k2 => k_mem); (case k3 => first | assumption | omega); (case k4 => first | assumption | omega); (case k6 => with_unfolding_all rfl); k_whole); walk_say "ITEM src"))
local macro_rules | `(tactic| walk_at "subscriptTail Name Constant ref int") => `(tactic| (k_here; (with_unfolding_all refine' item0 ?k1 ?k2 ?k3 ?_ ?k6; (case k1 => k_asm); (case k2 => k_mem); (case k3 => assumption); (case k6 => with_unfolding_all rfl); k_whole); walk_say "ITEM 0"))

variable {w : World} {h₀ : Heap} {L fa : Addr} {cd : Value} {m : Str → Option Value} {news : List (Addr × Obj)} {s : Shared} {mean : ExcName → Option Value} {mg mb : Str → Option Value}
  {σ δ : Nat → Addr} {sl an gl fd : Addr} {Xs : List (Addr × Obj)} {D : Nat → Src} {par : Nat → Nat} {q : Nat} {hs : List Nat} {ha : Nat → Addr} {had : Nat → List Nat} {kvs : List (Int × Value)} {hf rank : Nat → Nat} {v : Value}
local macro_rules | `(tactic| walk_at "call ref") => `(tactic| ((with_reducible show wpAny _ _ (call (Value.ref 113) _ _) _ _ _); refine Halt.mk ?_))
local macro_rules | `(tactic| walk_at "call builtin:min") => `(tactic| (refine Halt.mk ?_))
local macro_rules | `(tactic| walk_at "call type:bytes") => `(tactic| (refine Halt.mk ?_))
local macro_rules | `(tactic| walk_at "call builtin:str.join") => `(tactic| (refine Halt.mk ?_))
local macro_rules | `(tactic| walk_at "eval ListComp") => `(tactic| (refine Halt.mk ?_))
local macro_rules | `(tactic| walk_at "CompSrc") => `(tactic| (refine Halt.mk ?_))
local macro_rules | `(tactic| walk_at "call builtin:len") => `(tactic| (k_here; (with_reducible show wpAny _ _ (call (Value.builtin "len") [Value.ref _]) _ _ _); k_dflt (refine' len_made ?k1 ?k2 ?k3 ?_; (case k1 => k_asm); (case k2 => k_mem); (case k3 => assumption); k_whole); intro t' k'; (try dsimp only); walk_say "LEN made"))

abbrev eB : { b : List Stmt // (endB.1[0]?).bind forBody = some b } := ⟨_, rfl⟩
abbrev e1 : { x : Stmt // eB.1[0]? = some x } := ⟨_, rfl⟩
abbrev e2 : { x : Stmt // eB.1[1]? = some x } := ⟨_, rfl⟩
abbrev e3 : { x : Stmt // eB.1[2]? = some x } := ⟨_, rfl⟩
abbrev e4 : { x : Stmt // eB.1[3]? = some x } := ⟨_, rfl⟩
abbrev frmG (sl an gl fd g : Addr) (kv : Value) (u : Str → Option Value) : Str → Option Value := fun y =>
  if y = Str.ofString "k" then some kv else if y = Str.ofString "group" then some (.ref g) else frm sl an gl fd u y
theorem endE1 {Q : Flow → Shared → Prop} {E : Value → Shared → Prop} {u : Str → Option Value} {h k : Nat} {kt : Tok} (B : Below callerA h₀ [] h₀) (F : Fr h₀ L s.heap (frmG sl an gl fd (ha h) (.int (k : Int) kt) u)) (X : (hd.heap_39 w.params).In h₀) (N : News h₀ L s.heap news) (T : Top hd.view_39 (looseW hd.view_39 []) mean mg mb h₀)
    (S : Sep σ δ) (M : LSt w σ δ sl an L Xs D par q gl fd hs ha had kvs news) (P : PInv D par hf rank hs ha had kvs) (hq : q ≤ 90000) (h8 : h < 8) (k8 : k < 8) (hk : hf k = h)
    (ret : ∀ h' tk' news' par' q', Fr h₀ L h' (frmG sl an gl fd (ha h) (.int (k : Int) kt) u) → News h₀ L h' news' → LSt w σ δ sl an L Xs D par' q' gl fd hs ha had kvs news' → PInv D par' hf rank hs ha had kvs → q' ≤ q + 7 → Q .next { s with heap := h', toks := tk' }) :
    wpAny (model PySem.Challenge.rw_kn0108_01.row.prog w) (lawA L fa cd) (exec e1.1 (lawEnv L fa cd)) Q E s := by
  revert X; k_fill; intro X
  w_on
  dsimp only [e1, eB, endB, lawA, lawEnv, lawBS]
  have dN := dis_of N
  obtain ⟨c1, hsl⟩ := M.src
  obtain ⟨r1, han⟩ := M.ans
  have k0' : 0 ≤ (k : Int) := by omega
  have k8' : (k : Int) < 8 := by omega
  k_steps
  rename News _ _ _ _ => N1
  rename Fr _ _ _ _ => F1
  refine head B F1 X N1 T rfl (by decide) S M.has P.fi (i := k) k8 han (by omega) ?_
  intro h2 tk2 news2 par2 q2 r2 F2 N2 H2 I2 han2 hq2 keep2
  rw [hk]
  have M2 := M.after dN H2 han2 keep2
  obtain ⟨c2, hsl2⟩ := M2.src
  obtain ⟨vs, c3, hm, hi⟩ := M2.hads h h8
  obtain ⟨rh, eh⟩ := P.hd0 h h8
  obtain ⟨th, hth⟩ := first_int (eh ▸ hi)
  have h0' : 0 ≤ (h : Int) := by omega
  have h8' : (h : Int) < 8 := by omega
  clear F1 N1
  k_steps
  exact ret _ _ _ _ _ F2 N2 M2 (P.par_fi I2) hq2
theorem endE2 {Q : Flow → Shared → Prop} {E : Value → Shared → Prop} {u : Str → Option Value} {h k : Nat} {kt : Tok} (B : Below callerA h₀ [] h₀) (F : Fr h₀ L s.heap (frmG sl an gl fd (ha h) (.int (k : Int) kt) u)) (X : (hd.heap_39 w.params).In h₀) (N : News h₀ L s.heap news) (T : Top hd.view_39 (looseW hd.view_39 []) mean mg mb h₀)
    (M : LSt w σ δ sl an L Xs D par q gl fd hs ha had kvs news) (P : PInv D par hf rank hs ha had kvs) (h8 : h < 8) (k8 : k < 8) (hk : hf k = h)
    (ret : ∀ h' tk', Fr h₀ L h' (fun y => if y = Str.ofString "had" then some (.ref (ha k)) else frmG sl an gl fd (ha h) (.int (k : Int) kt) u y) → News h₀ L h' news → Q .next { s with heap := h', toks := tk' }) :
    wpAny (model PySem.Challenge.rw_kn0108_01.row.prog w) (lawA L fa cd) (exec e2.1 (lawEnv L fa cd)) Q E s := by
  revert X; k_fill; intro X
  w_on
  dsimp only [e2, eB, endB, lawA, lawEnv, lawBS]
  obtain ⟨vs, c3, hm, hi⟩ := M.hads h h8
  obtain ⟨rh, eh⟩ := P.hd0 h h8
  obtain ⟨th, hth⟩ := first_int (eh ▸ hi)
  obtain ⟨fo, hfo, hfd⟩ := M.frm
  have hv := fun e => P.frm k k8 (show hf k ≠ k by rw [hk]; exact e)
  k_steps
  · rename News _ _ _ _ => N5
    rename Fr _ _ _ _ => F5
    have e : h = k := by omega
    subst e
    exact ret _ _ F5 N5
  · have e : h ≠ k := by omega
    refine kda_item (knd := PySem.intKind _ _) N hfo hfd (intKind_is _ _ _ _) (hv e) ?_
    k_steps
    rename News _ _ _ _ => N5
    rename Fr _ _ _ _ => F5
    exact ret _ _ F5 N5
theorem foldl_min_le : ∀ (l : List Nat) (x : Nat), l.foldl min x ≤ x ∧ (∀ a ∈ l, l.foldl min x ≤ a) ∧ (l.foldl min x = x ∨ l.foldl min x ∈ l)
  | [], x => ⟨Nat.le_refl _, (fun _ h => (nomatch h)), .inl rfl⟩
  | b :: r, x => by
    obtain ⟨h1, h2, h3⟩ := foldl_min_le r (min x b)
    rw [List.foldl_cons]
    refine ⟨by omega, fun a ha => ?_, ?_⟩
    · rcases List.mem_cons.mp ha with rfl | ha
      · omega
      · exact h2 a ha
    · rcases h3 with h | h
      · rw [h]
        by_cases e : x ≤ b
        · exact .inl (Nat.min_eq_left e)
        · exact .inr (by rw [Nat.min_eq_right (by omega)]; exact .head _)
      · exact .inr (.tail _ h)
theorem lmin_is {g : List Nat} {M : Int} (hne : ∃ a r, g = a :: r) (hM : M ∈ g.map fun (k : Nat) => (k : Int)) (hmin : ∀ a, a ∈ g.map (fun (k : Nat) => (k : Int)) → M ≤ a) : M = (lmin g : Int) := by
  obtain ⟨a, r, rfl⟩ := hne
  obtain ⟨h1, h2, h3⟩ := foldl_min_le r a
  obtain ⟨j, hj, rfl⟩ := List.mem_map.mp hM
  have m1 : lmin (a :: r) ∈ a :: r := by
    show r.foldl min a ∈ a :: r
    rcases h3 with h | h
    · rw [h]; exact .head _
    · exact .tail _ h
  have m2 := hmin _ (List.mem_map.mpr ⟨_, m1, rfl⟩)
  have m3 : lmin (a :: r) ≤ j := by
    show r.foldl min a ≤ j
    rcases List.mem_cons.mp hj with rfl | hj
    · exact h1
    · exact h2 j hj
  omega
def strsOf (g : List Nat) : List Str := g.map fun j => { cps := #[97 + j] }
theorem join_chs (g : List Nat) : Txt.join (Str.ofString "") (strsOf g) = chs g := by
  rw [show Str.ofString "" = (⟨#[]⟩ : Str) from rfl]
  show Builtin.Str.glued _ _ = _
  rw [StrLaws.glued_eq_join]
  induction g with
  | nil => rfl
  | cons a r ih =>
    show Str.join ⟨#[]⟩ (({ cps := #[97 + a] } : Str) :: strsOf r) = _
    rw [join_nil_cons, ih]
    apply Str.ext'
    rw [Str.cps_append]
    simp [chs]
theorem strs_size (g : List Nat) (y : Str) (h : g.length ≤ 8) (hy : y.length = 0) : ((strsOf g).map (·.length)).sum + (strsOf g).length * y.length ≤ 16777216 := by
  have e : ((strsOf g).map (·.length)).sum = g.length := by
    clear h
    induction g with
    | nil => rfl
    | cons a r ih =>
      show (1 : Nat) + ((strsOf r).map (·.length)).sum = r.length + 1
      rw [ih]; omega
  rw [e, hy]; omega
theorem strs_next {ys : List Value} {g : List Nat} {i j : Nat} {t : Tok} (hys : StrsAre ys (strsOf (g.take i))) (hj : g[i]? = some j) : StrsAre (ys ++ [.str { cps := #[(97 + (j : Int)).toNat] } t]) (strsOf (g.take (i + 1))) := by
  have e : strsOf (g.take (i + 1)) = strsOf (g.take i) ++ [{ cps := #[(97 + (j : Int)).toNat] }] := by
    rw [List.take_add_one, hj]
    show (g.take i ++ [j]).map _ = _
    rw [List.map_append]
    have e2 : (97 + (j : Int)).toNat = 97 + j := by omega
    rw [e2]; rfl
  rw [e]
  exact StrsAre.append' hys (.cons _ _ .nil)
theorem bytes_bys (g : List Nat) : ((g.map fun (k : Nat) => (k : Int)).map fun n => n.toNat.toUInt8).toArray = bys g := by
  simp [bys]
theorem endE3 {Q : Flow → Shared → Prop} {E : Value → Shared → Prop} {u : Str → Option Value} {h k : Nat} {kt : Tok} (B : Below callerA h₀ [] h₀) (F : Fr h₀ L s.heap (fun y => if y = Str.ofString "had" then some (.ref (ha k)) else frmG sl an gl fd (ha h) (.int (k : Int) kt) u y)) (X : (hd.heap_39 w.params).In h₀) (N : News h₀ L s.heap news) (T : Top hd.view_39 (looseW hd.view_39 []) mean mg mb h₀)
    (M : LSt w σ δ sl an L Xs D par q gl fd hs ha had kvs news) (P : PInv D par hf rank hs ha had kvs) (h8 : h < 8) (k8 : k < 8)
    (ret : ∀ h' tk' news' dl t1 t2 t3 t4, Fr h₀ L h' (fun y => if y = Str.ofString "due" then some (.ref dl) else if y = Str.ofString "had" then some (.ref (ha k)) else frmG sl an gl fd (ha h) (.int (k : Int) kt) u y) → News h₀ L h' news' → (∀ p ∈ news, p ∈ news') →
      (dl, W.listOf #[.int ((had k).length : Int) t1, .int (lmin (had k) : Int) t2, .bytes (bys (had k)) t3, .str (chs (had k)) t4] 0) ∈ news' → Q .next { s with heap := h', toks := tk' }) :
    wpAny (model PySem.Challenge.rw_kn0108_01.row.prog w) (lawA L fa cd) (exec e3.1 (lawEnv L fa cd)) Q E s := by
  revert X; k_fill; intro X
  w_on
  dsimp only [e3, eB, endB, lawA, lawEnv, lawBS]
  obtain ⟨vs, c3, hm, hi⟩ := M.hads k k8
  obtain ⟨rk, ek⟩ := P.hd0 k k8
  have lk := P.len8 k8
  have lv := hi.length
  simp only [List.length_map] at lv
  have hz : vs.length ≤ sizeLine := by rw [sizeLine_eq]; omega
  k_steps
  rename News _ _ _ _ => N1
  rename Fr _ _ _ _ => F1
  refine kso_min F1 N1 ⟨_, N1.get hm, rfl, c3, rfl⟩ hi (by rw [List.length_map, ek]; exact Nat.succ_pos _) rfl ?_
  intro h2 M2 t2 k2 F2 N2 hM hmin
  have eM := lmin_is ⟨_, _, ek⟩ hM hmin
  subst eM
  clear F1 N1
  k_steps
  refine bytes_K F2 N2 ⟨_, N2.get hm, rfl, c3, rfl⟩ hi (fun n hn => ?_) hz rfl ?_
  · obtain ⟨j, hj, rfl⟩ := List.mem_map.mp hn
    have := P.lt8 k k8 j hj
    exact ⟨by omega, by omega⟩
  intro h3 t3 k3 F3 N3 _
  rw [bytes_bys]
  clear F2 N2
  k_steps
  refine LCg.ListComp_U (F₀ := F3) (by with_unfolding_all rfl) (by decide) (by rfl) (by decide) (by rfl) ?_
  k_steps
  refine LCg.CompSrc.ledger (by rfl) F3 N3 hm (by simpa using hz) ?_
  intro g
  refine rest_grow (fun i ys news' => news' = news ∧ StrsAre ys (strsOf ((had k).take i))) ⟨rfl, .nil⟩ ?_ ?_
  · rintro i ys news₁ hi2 ⟨e₁, hys⟩ v I oI Cc oC D' m₂ g' tk' E' hv hC hmx F4 N4 off ne
    subst e₁
    obtain ⟨j, jt, rfl, hj⟩ := IntsAre.at hi i v (by simpa using hv)
    simp only [List.getElem?_map, Option.map_eq_some_iff] at hj
    obtain ⟨j', hj', rfl⟩ := hj
    have j8 := P.lt8 k k8 j' (List.mem_of_getElem? hj')
    have j0 : 0 ≤ (j' : Int) := by omega
    have j9 : (j' : Int) < 8 := by omega
    k_steps
    exact ⟨_, _, _, rfl, F4, N4, off, .inr ⟨_, hm, rfl, _, rfl⟩, rfl, strs_next hys hj'⟩
  · rintro ys news₁ ⟨e₁, hys⟩ D2 g2 tk2 F4 N4 off2
    subst e₁
    have et : (had k).take vs.toArray.size = had k := List.take_of_length_le (by simp; omega)
    rw [et] at hys
    k_steps
    refine join_list ⟨_, N4.get (.head _), rfl, _, rfl⟩ hys (strs_size _ _ lk rfl) ?_
    intro t4 k4
    rw [join_chs]
    k_steps
    rename News _ _ _ _ => N5
    rename Fr _ _ _ _ => F5
    rw [lv] at N5
    exact ret _ _ _ _ _ _ _ _ F5 N5 (fun p hp => .tail _ (.tail _ hp)) (.head _)
end
end Mine
end

-- part 20
section
open PySem PySem.W PySem.Calls PyProof.Rows PyProof.V PySem.Spec
set_option Elab.async false
set_option maxRecDepth 100000
namespace Mine
section
set_option maxHeartbeats 4000000
local macro_rules | `(tactic| k_mem) => `(tactic| ((show Membership.mem (γ := List (Addr × Obj)) _ _); with_reducible assumption))
local macro_rules | `(tactic| walk_at "call ref") => `(tactic| (k_here; (with_reducible show wpAny _ _ (call (Value.ref 57) _ _) _ _ _); k_dflt (refine' getSys ?k1 ?k2 ?k3 ?k4 ?k5 ?k6 ?k7 ?k8 ?k9 ?k10 ?_; (case k1 => k_asm); (case k2 => k_asm); (case k3 => k_asm); (case k4 => k_asm); (case k5 => k_asm); (case k6 => first | exact rfl | assumption); (case k7 => ktr_room); (case k8 => k_mem); (case k9 => k_mem); (case k10 => first | k_handed | assumption); k_whole); intro h' tk' F' N'; (try dsimp only); (try k_sweep); walk_say "CONTRACT getSys"))
local macro_rules | `(tactic| walk_at "call ref") => `(tactic| (k_here; (with_reducible show wpAny _ _ (call (Value.ref 43) _ _) _ _ _); k_dflt (refine' getPub ?k1 ?k2 ?k3 ?k4 ?k5 ?k6 ?k7 ?k8 ?k9 ?k10 ?_; (case k1 => k_asm); (case k2 => k_asm); (case k3 => k_asm); (case k4 => k_asm); (case k5 => k_asm); (case k6 => first | exact rfl | assumption); (case k7 => ktr_room); (case k8 => k_mem); (case k9 => k_mem); (case k10 => first | k_handed | assumption); k_whole); intro h' tk' F' N'; (try dsimp only); (try k_sweep); walk_say "CONTRACT getPub"))
local macro_rules | `(tactic| walk_at "call ref") => `(tactic| (k_here; (with_reducible show wpAny _ _ (call (Value.ref 71) _ _) _ _ _); k_dflt (refine' getEnc ?k1 ?k2 ?k3 ?k4 ?k5 ?k6 ?k7 ?k8 ?k9 ?k10 ?_; (case k1 => k_asm); (case k2 => k_asm); (case k3 => k_asm); (case k4 => k_asm); (case k5 => k_asm); (case k6 => first | exact rfl | assumption); (case k7 => ktr_room); (case k8 => k_mem); (case k9 => k_mem); (case k10 => first | k_handed | assumption); k_whole); intro h' tk' F' N'; (try dsimp only); (try k_sweep); walk_say "CONTRACT getEnc"))
local macro_rules | `(tactic| walk_at "call ref") => `(tactic| (k_here; (with_reducible show wpAny _ _ (call (Value.ref 85) _ _) _ _ _); k_dflt (refine' getByt ?k1 ?k2 ?k3 ?k4 ?k5 ?k6 ?k7 ?k8 ?k9 ?k10 ?_; (case k1 => k_asm); (case k2 => k_asm); (case k3 => k_asm); (case k4 => k_asm); (case k5 => k_asm); (case k6 => first | exact rfl | assumption); (case k7 => ktr_room); (case k8 => k_mem); (case k9 => k_mem); (case k10 => first | k_handed | assumption); k_whole); intro h' tk' F' N'; (try dsimp only); (try k_sweep); walk_say "CONTRACT getByt"))
local macro_rules | `(tactic| walk_at "call ref") => `(tactic| (k_here; (with_reducible show wpAny _ _ (call (Value.ref 99) _ _) _ _ _); k_dflt (refine' getChr ?k1 ?k2 ?k3 ?k4 ?k5 ?k6 ?k7 ?k8 ?k9 ?k10 ?_; (case k1 => k_asm); (case k2 => k_asm); (case k3 => k_asm); (case k4 => k_asm); (case k5 => k_asm); (case k6 => first | exact rfl | assumption); (case k7 => ktr_room); (case k8 => k_mem); (case k9 => k_mem); (case k10 => first | k_handed | assumption); k_whole); intro h' tk' F' N'; (try dsimp only); (try k_sweep); walk_say "CONTRACT getChr"))
local macro_rules | `(tactic| walk_at "call ref") => `(tactic| (k_here; (with_reducible show wpAny _ _ (call (Value.ref 50) _ _) _ _ _); k_dflt (refine' setSys ?k1 ?k2 ?k3 ?k4 ?k5 ?k6 ?k7 ?k8 ?k9 ?k10 ?_; (case k1 => k_asm); (case k2 => k_asm); (case k3 => k_asm); (case k4 => k_asm); (case k5 => k_asm); (case k6 => first | exact rfl | assumption); (case k7 => ktr_room); (case k8 => k_mem); (case k9 => k_mem); (case k10 => k_upd); k_whole); intro h' tk' F' N'; (try dsimp only); (try k_sweep); walk_say "CONTRACT setSys"))
local macro_rules | `(tactic| walk_at "call ref") => `(tactic| (k_here; (with_reducible show wpAny _ _ (call (Value.ref 36) _ _) _ _ _); k_dflt (refine' setPub ?k1 ?k2 ?k3 ?k4 ?k5 ?k6 ?k7 ?k8 ?k9 ?k10 ?_; (case k1 => k_asm); (case k2 => k_asm); (case k3 => k_asm); (case k4 => k_asm); (case k5 => k_asm); (case k6 => first | exact rfl | assumption); (case k7 => ktr_room); (case k8 => k_mem); (case k9 => k_mem); (case k10 => k_upd); k_whole); intro h' tk' F' N'; (try dsimp only); (try k_sweep); walk_say "CONTRACT setPub"))
local macro_rules | `(tactic| walk_at "call ref") => `(tactic| (k_here; (with_reducible show wpAny _ _ (call (Value.ref 64) _ _) _ _ _); k_dflt (refine' setEnc ?k1 ?k2 ?k3 ?k4 ?k5 ?k6 ?k7 ?k8 ?k9 ?k10 ?_; (case k1 => k_asm); (case k2 => k_asm); (case k3 => k_asm); (case k4 => k_asm); (case k5 => k_asm); (case k6 => first | exact rfl | assumption); (case k7 => ktr_room); (case k8 => k_mem); (case k9 => k_mem); (case k10 => k_upd); k_whole); intro h' tk' F' N'; (try dsimp only); (try k_sweep); walk_say "CONTRACT setEnc"))
local macro_rules | `(tactic| walk_at "call ref") => `(tactic| (k_here; (with_reducible show wpAny _ _ (call (Value.ref 78) _ _) _ _ _); k_dflt (refine' setByt ?k1 ?k2 ?k3 ?k4 ?k5 ?k6 ?k7 ?k8 ?k9 ?k10 ?_; (case k1 => k_asm); (case k2 => k_asm); (case k3 => k_asm); (case k4 => k_asm); (case k5 => k_asm); (case k6 => first | exact rfl | assumption); (case k7 => ktr_room); (case k8 => k_mem); (case k9 => k_mem); (case k10 => k_upd); k_whole); intro h' tk' F' N'; (try dsimp only); (try k_sweep); walk_say "CONTRACT setByt"))
local macro_rules | `(tactic| walk_at "call ref") => `(tactic| (k_here; (with_reducible show wpAny _ _ (call (Value.ref 92) _ _) _ _ _); k_dflt (refine' setChr ?k1 ?k2 ?k3 ?k4 ?k5 ?k6 ?k7 ?k8 ?k9 ?k10 ?_; (case k1 => k_asm); (case k2 => k_asm); (case k3 => k_asm); (case k4 => k_asm); (case k5 => k_asm); (case k6 => first | exact rfl | assumption); (case k7 => ktr_room); (case k8 => k_mem); (case k9 => k_mem); (case k10 => k_upd); k_whole); intro h' tk' F' N'; (try dsimp only); (try k_sweep); walk_say "CONTRACT setChr"))
local macro_rules | `(tactic| walk_at "call builtin:list.append") => `(tactic| (k_here; (with_reducible show wpAny _ _ (call (Value.builtin _) [Value.ref _, Value.none]) _ _ _); k_dflt (refine' append_none ?k1 ?k2 ?k3 ?k4 ?_; (case k1 => k_asm); (case k2 => k_asm); (case k3 => k_upd); (case k4 => first | assumption | omega); k_whole); intro h' F' N'; (try dsimp only); (try k_sweep); walk_say "APPEND none"))
local macro_rules | `(tactic| walk_at "call builtin:list.extend") => `(tactic| (k_here; (with_reducible show wpAny _ _ (call (Value.builtin _) [Value.ref _, Value.ref _]) _ _ _); k_dflt (refine' extend_none ?k1 ?k2 ?k3 ?k4 ?k5 ?k6 ?_; (case k1 => k_asm); (case k2 => k_asm); (case k3 => k_updF); (case k4 => k_mem); (case k5 => rfl); (case k6 => first | assumption | omega | (show _ + 2 ≤ _; omega) | (show _ + 5 ≤ _; omega)); k_whole); intro h' n' F' N'; (try dsimp only at N'); (try k_sweep); walk_say "EXTEND none"))
local macro_rules | `(tactic| walk_at "compareOp In int ref") => `(tactic| (k_here; k_dflt (refine' in_ints ?k1 ?k2 ?k3 ?_; (case k1 => k_asm); (case k2 => k_mem); (case k3 => k_asm); k_whole); walk_say "IN ints"))
local macro_rules | `(tactic| walk_at "compareOp NotIn int ref") => `(tactic| (k_here; k_dflt (refine' notin_ints ?k1 ?k2 ?k3 ?_; (case k1 => k_asm); (case k2 => k_mem); (case k3 => k_asm); k_whole); walk_say "NOTIN ints"))
local macro_rules | `(tactic| walk_at "subscriptTail") => `(tactic| (k_here; (with_reducible show wpAny _ _ (subscriptTail _ _ (Value.ref _) (Value.int _ _)) _ _ _); (with_unfolding_all refine' item_src ?k1 ?k2 ?k3 ?k4 ?_ ?k6; (case k1 => k_asm); (case k2 => k_mem); (case k3 => first | assumption | omega); (case k4 => first | assumption | omega); (case k6 => with_unfolding_all rfl); k_whole); walk_say "ITEM src"))
local macro_rules | `(tactic| walk_at "subscriptTail Name Constant ref int") => `(tactic| (k_here; (with_unfolding_all refine' item0 ?k1 ?k2 ?k3 ?_ ?k6; (case k1 => k_asm); (case k2 => k_mem); (case k3 => assumption); (case k6 => with_unfolding_all rfl); k_whole); walk_say "ITEM 0"))

variable {w : World} {h₀ : Heap} {L fa : Addr} {cd : Value} {m : Str → Option Value} {news : List (Addr × Obj)} {s : Shared} {mean : ExcName → Option Value} {mg mb : Str → Option Value}
  {σ δ : Nat → Addr} {sl an gl fd : Addr} {Xs : List (Addr × Obj)} {D : Nat → Src} {par : Nat → Nat} {q : Nat} {hs : List Nat} {ha : Nat → Addr} {had : Nat → List Nat} {kvs : List (Int × Value)} {hf rank : Nat → Nat} {v : Value}
local macro_rules | `(tactic| walk_at "call ref") => `(tactic| ((with_reducible show wpAny _ _ (call (Value.ref 127) _ _) _ _ _); refine Halt.mk ?_))
local macro_rules | `(tactic| walk_at "compareOp NotEq ref ref") => `(tactic| (refine Halt.mk ?_))

theorem eqat_bytes {A : Around} {s : Shared} (b : Array UInt8) (t u : Tok) : SeqAt.EqAt A s (.bytes b t) (.bytes b u) true := fun prog w E Q hq => eqBool_bytes (by simpa using hq)
theorem eqat_int {A : Around} {s : Shared} (n : Int) (t u : Tok) : SeqAt.EqAt A s (.int n t) (.int n u) true := by
  have := SeqAt.EqAt.int_int (A := A) (s := s) n t n u
  simpa using this
theorem eqat_str {A : Around} {s : Shared} (x : Str) (t u : Tok) : SeqAt.EqAt A s (.str x t) (.str x u) true := by
  have := SeqAt.EqAt.str_str (A := A) (s := s) x t x u
  simpa using this
theorem eqat_four {A : Around} {s : Shared} {a b : Addr} {n m : Int} {y : Array UInt8} {x : Str} {t1 t2 t3 t4 u1 u2 u3 u4 : Tok} (ha : s.heap.IsList a #[.int n t1, .int m t2, .bytes y t3, .str x t4]) (hb : s.heap.IsList b #[.int n u1, .int m u2, .bytes y u3, .str x u4]) (hne : a ≠ b) (hu : A.units < cLine) : SeqAt.EqAt A s (.ref a) (.ref b) true := by
  refine SeqAt.EqAt.of_refs hne ?_
  have := SeqAt.RcAt.lists (e := fun _ => true) ha hb rfl hu (fun j h1 h2 => ?_)
  · exact this
  · match j, h1 with
    | 0, _ => exact eqat_int _ _ _
    | 1, _ => exact eqat_int _ _ _
    | 2, _ => exact eqat_bytes _ _ _
    | 3, _ => exact eqat_str _ _ _
    | j + 4, h => exact absurd h (by show ¬ j + 4 < 4; omega)
theorem ne_twice {prog : Program} {w : World} {A : Around} {E : Value → Shared → Prop} {s : Shared} {Q : Value → Shared → Prop} {p q a b d : Addr} {n m : Int} {y : Array UInt8} {x : Str} {t1 t2 t3 t4 u1 u2 u3 u4 v1 v2 v3 v4 : Tok}
    (hp : s.heap.IsList p #[.ref a, .ref b]) (hq : s.heap.IsList q #[.ref d, .ref d]) (ha : s.heap.IsList a #[.int n t1, .int m t2, .bytes y t3, .str x t4]) (hb : s.heap.IsList b #[.int n v1, .int m v2, .bytes y v3, .str x v4]) (hd : s.heap.IsList d #[.int n u1, .int m u2, .bytes y u3, .str x u4])
    (had : a ≠ d) (hbd : b ≠ d) (hu : A.units + 64 < cLine) (h : Q (.bool false) s) : wpAny (model prog w) A (compareOp .NotEq (.ref p) (.ref q)) Q E s := by
  have hu1 : A.units < cLine := by omega
  have hu2 : A.in1.units < cLine := by show A.units + 1 < cLine; omega
  have := SeqAt.RcNeAt.lists (e := fun _ => true) hp hq rfl hu1 (fun j h1 h2 => ?_)
  · exact this prog w E Q h
  · match j, h1 with
    | 0, _ => exact eqat_four ha hd had hu2
    | 1, _ => exact eqat_four hb hd hbd hu2
    | j + 2, h => exact absurd h (by show ¬ j + 2 < 2; omega)
theorem endE4 {Q : Flow → Shared → Prop} {E : Value → Shared → Prop} {u : Str → Option Value} {h k : Nat} {kt : Tok} {dl : Addr} {t1 t2 t3 t4 : Tok} (B : Below callerA h₀ [] h₀) (F : Fr h₀ L s.heap (fun y => if y = Str.ofString "due" then some (.ref dl) else if y = Str.ofString "had" then some (.ref (ha k)) else frmG sl an gl fd (ha h) (.int (k : Int) kt) u y)) (X : (hd.heap_39 w.params).In h₀) (N : News h₀ L s.heap news) (T : Top hd.view_39 (looseW hd.view_39 []) mean mg mb h₀)
    (M : LSt w σ δ sl an L Xs D par q gl fd hs ha had kvs news) (P : PInv D par hf rank hs ha had kvs) (h8 : h < 8) (k8 : k < 8)
    (hdl : (dl, W.listOf #[.int ((had k).length : Int) t1, .int (lmin (had k) : Int) t2, .bytes (bys (had k)) t3, .str (chs (had k)) t4] 0) ∈ news)
    (ret : ∀ h' tk' news', Fr h₀ L h' (fun y => if y = Str.ofString "due" then some (.ref dl) else if y = Str.ofString "had" then some (.ref (ha k)) else frmG sl an gl fd (ha h) (.int (k : Int) kt) u y) → News h₀ L h' news' → (∀ p ∈ news, p ∈ news') → Q .next { s with heap := h', toks := tk' }) :
    wpAny (model PySem.Challenge.rw_kn0108_01.row.prog w) (lawA L fa cd) (exec e4.1 (lawEnv L fa cd)) Q E s := by
  revert X; k_fill; intro X
  w_on
  dsimp only [e4, eB, endB, lawA, lawEnv, lawBS]
  have dN := dis_of N
  obtain ⟨c1, hsl⟩ := M.src
  obtain ⟨m1, m2⟩ := M.has k k8
  obtain ⟨fp, fe, fb, fc⟩ := P.fld k k8
  have k0' : 0 ≤ (k : Int) := by omega
  have k8' : (k : Int) < 8 := by omega
  obtain ⟨p1, ep⟩ := fp
  obtain ⟨p2, ee⟩ := fe
  obtain ⟨p3, eb⟩ := fb
  obtain ⟨p4, ec⟩ := fc
  have g1 : handedIn (srcAt σ D par k).sys = true := rfl
  have g2 : handedIn (srcAt σ D par k).pub = true := by show handedIn (D k).pub = true; rw [ep]; rfl
  have g3 : handedIn (srcAt σ D par k).enc = true := by show handedIn (D k).enc = true; rw [ee]; rfl
  have g4 : handedIn (srcAt σ D par k).byt = true := by show handedIn (D k).byt = true; rw [eb]; rfl
  have g5 : handedIn (srcAt σ D par k).chr = true := by show handedIn (D k).chr = true; rw [ec]; rfl
  k_steps
  rename Fr _ _ _ _ => F1
  rename News _ _ _ _ => N1
  refine told B F1 X N1 T rfl (by decide) m1 m2 g1 g2 g3 g4 g5 ?_
  intro l1 h1 tk1 F2 N2 lt1
  simp only [ep, ee, eb, ec] at N2
  clear F1 N1
  k_steps
  rename _ ∧ AllLt _ _ => q1
  rename Fr _ _ _ _ => F3
  rename News _ _ _ _ => N3
  refine told B F3 X N3 T rfl (by decide) (.tail _ (.tail _ m1)) (.tail _ (.tail _ m2)) g1 g2 g3 g4 g5 ?_
  intro l2 h2 tk2 F4 N4 lt2
  simp only [ep, ee, eb, ec] at N4
  clear F3 N3
  k_steps
  rename Fr _ _ _ _ => F5
  rename News _ _ _ _ => N5
  rename _ ∧ _ ∧ _ ∧ AllLt _ _ => q2
  have z1 := Nat.ne_of_gt (of_allLt q1.2 _ hdl)
  have z2 := Nat.ne_of_gt (of_allLt q2.2.2.2 _ hdl)
  refine ne_twice ⟨_, N5.get (.tail _ (.head _)), rfl, _, rfl⟩ ⟨_, N5.get (.head _), rfl, _, rfl⟩ ⟨_, N5.get (.tail _ (.tail _ (.tail _ (.tail _ (.head _))))), rfl, _, rfl⟩ ⟨_, N5.get (.tail _ (.tail _ (.head _))), rfl, _, rfl⟩ ⟨_, N5.get (.tail _ (.tail _ (.tail _ (.tail _ (.tail _ (.tail _ hdl)))))), rfl, _, rfl⟩ z1 z2 (by ke_room) ?_
  k_steps
  exact ret _ _ _ F5 N5 (fun p hp => .tail _ (.tail _ (.tail _ (.tail _ (.tail _ (.tail _ hp))))))
end
end Mine
end

-- part 21
section
open PySem PySem.W PySem.Calls PyProof.Rows PyProof.V PySem.Spec
set_option Elab.async false
set_option maxRecDepth 100000
namespace Mine
section
set_option maxHeartbeats 4000000
local macro_rules | `(tactic| k_mem) => `(tactic| ((show Membership.mem (γ := List (Addr × Obj)) _ _); with_reducible assumption))
local macro_rules | `(tactic| walk_at "call ref") => `(tactic| (k_here; (with_reducible show wpAny _ _ (call (Value.ref 57) _ _) _ _ _); k_dflt (refine' getSys ?k1 ?k2 ?k3 ?k4 ?k5 ?k6 ?k7 ?k8 ?k9 ?k10 ?_; (case k1 => k_asm); (case k2 => k_asm); (case k3 => k_asm); (case k4 => k_asm); (case k5 => k_asm); (case k6 => first | exact rfl | assumption); (case k7 => ktr_room); (case k8 => k_mem); (case k9 => k_mem); (case k10 => first | k_handed | assumption); k_whole); intro h' tk' F' N'; (try dsimp only); (try k_sweep); walk_say "CONTRACT getSys"))
local macro_rules | `(tactic| walk_at "call ref") => `(tactic| (k_here; (with_reducible show wpAny _ _ (call (Value.ref 43) _ _) _ _ _); k_dflt (refine' getPub ?k1 ?k2 ?k3 ?k4 ?k5 ?k6 ?k7 ?k8 ?k9 ?k10 ?_; (case k1 => k_asm); (case k2 => k_asm); (case k3 => k_asm); (case k4 => k_asm); (case k5 => k_asm); (case k6 => first | exact rfl | assumption); (case k7 => ktr_room); (case k8 => k_mem); (case k9 => k_mem); (case k10 => first | k_handed | assumption); k_whole); intro h' tk' F' N'; (try dsimp only); (try k_sweep); walk_say "CONTRACT getPub"))
local macro_rules | `(tactic| walk_at "call ref") => `(tactic| (k_here; (with_reducible show wpAny _ _ (call (Value.ref 71) _ _) _ _ _); k_dflt (refine' getEnc ?k1 ?k2 ?k3 ?k4 ?k5 ?k6 ?k7 ?k8 ?k9 ?k10 ?_; (case k1 => k_asm); (case k2 => k_asm); (case k3 => k_asm); (case k4 => k_asm); (case k5 => k_asm); (case k6 => first | exact rfl | assumption); (case k7 => ktr_room); (case k8 => k_mem); (case k9 => k_mem); (case k10 => first | k_handed | assumption); k_whole); intro h' tk' F' N'; (try dsimp only); (try k_sweep); walk_say "CONTRACT getEnc"))
local macro_rules | `(tactic| walk_at "call ref") => `(tactic| (k_here; (with_reducible show wpAny _ _ (call (Value.ref 85) _ _) _ _ _); k_dflt (refine' getByt ?k1 ?k2 ?k3 ?k4 ?k5 ?k6 ?k7 ?k8 ?k9 ?k10 ?_; (case k1 => k_asm); (case k2 => k_asm); (case k3 => k_asm); (case k4 => k_asm); (case k5 => k_asm); (case k6 => first | exact rfl | assumption); (case k7 => ktr_room); (case k8 => k_mem); (case k9 => k_mem); (case k10 => first | k_handed | assumption); k_whole); intro h' tk' F' N'; (try dsimp only); (try k_sweep); walk_say "CONTRACT getByt"))
local macro_rules | `(tactic| walk_at "call ref") => `(tactic| (k_here; (with_reducible show wpAny _ _ (call (Value.ref 99) _ _) _ _ _); k_dflt (refine' getChr ?k1 ?k2 ?k3 ?k4 ?k5 ?k6 ?k7 ?k8 ?k9 ?k10 ?_; (case k1 => k_asm); (case k2 => k_asm); (case k3 => k_asm); (case k4 => k_asm); (case k5 => k_asm); (case k6 => first | exact rfl | assumption); (case k7 => ktr_room); (case k8 => k_mem); (case k9 => k_mem); (case k10 => first | k_handed | assumption); k_whole); intro h' tk' F' N'; (try dsimp only); (try k_sweep); walk_say "CONTRACT getChr"))
local macro_rules | `(tactic| walk_at "call ref") => `(tactic| (k_here; (with_reducible show wpAny _ _ (call (Value.ref 50) _ _) _ _ _); k_dflt (refine' setSys ?k1 ?k2 ?k3 ?k4 ?k5 ?k6 ?k7 ?k8 ?k9 ?k10 ?_; (case k1 => k_asm); (case k2 => k_asm); (case k3 => k_asm); (case k4 => k_asm); (case k5 => k_asm); (case k6 => first | exact rfl | assumption); (case k7 => ktr_room); (case k8 => k_mem); (case k9 => k_mem); (case k10 => k_upd); k_whole); intro h' tk' F' N'; (try dsimp only); (try k_sweep); walk_say "CONTRACT setSys"))
local macro_rules | `(tactic| walk_at "call ref") => `(tactic| (k_here; (with_reducible show wpAny _ _ (call (Value.ref 36) _ _) _ _ _); k_dflt (refine' setPub ?k1 ?k2 ?k3 ?k4 ?k5 ?k6 ?k7 ?k8 ?k9 ?k10 ?_; (case k1 => k_asm); (case k2 => k_asm); (case k3 => k_asm); (case k4 => k_asm); (case k5 => k_asm); (case k6 => first | exact rfl | assumption); (case k7 => ktr_room); (case k8 => k_mem); (case k9 => k_mem); (case k10 => k_upd); k_whole); intro h' tk' F' N'; (try dsimp only); (try k_sweep); walk_say "CONTRACT setPub"))
local macro_rules | `(tactic| walk_at "call ref") => `(tactic| (k_here; (with_reducible show wpAny _ _ (call (Value.ref 64) _ _) _ _ _); k_dflt (refine' setEnc ?k1 ?k2 ?k3 ?k4 ?k5 ?k6 ?k7 ?k8 ?k9 ?k10 ?_; (case k1 => k_asm); (case k2 => k_asm); (case k3 => k_asm); (case k4 => k_asm); (case k5 => k_asm); (case k6 => first | exact rfl | assumption); (case k7 => ktr_room); (case k8 => k_mem); (case k9 => k_mem); (case k10 => k_upd); k_whole); intro h' tk' F' N'; (try dsimp only); (try k_sweep); walk_say "CONTRACT setEnc"))
local macro_rules | `(tactic| walk_at "call ref") => `(tactic| (k_here; (with_reducible show wpAny _ _ (call (Value.ref 78) _ _) _ _ _); k_dflt (refine' setByt ?k1 ?k2 ?k3 ?k4 ?k5 ?k6 ?k7 ?k8 ?k9 ?k10 ?_; (case k1 => k_asm); (case k2 => k_asm); (case k3 => k_asm); (case k4 => k_asm); (case k5 => k_asm); (case k6 => first | exact rfl | assumption); (case k7 => ktr_room); (case k8 => k_mem); (case k9 => k_mem); (case k10 => k_upd); k_whole); intro h' tk' F' N'; (try dsimp only); (try k_sweep); walk_say "CONTRACT setByt"))
local macro_rules | `(tactic| walk_at "call ref") => `(tactic| (k_here; (with_reducible show wpAny _ _ (call (Value.ref 92) _ _) _ _ _); k_dflt (refine' setChr ?k1 ?k2 ?k3 ?k4 ?k5 ?k6 ?k7 ?k8 ?k9 ?k10 ?_; (case k1 => k_asm); (case k2 => k_asm); (case k3 => k_asm); (case k4 => k_asm); (case k5 => k_asm); (case k6 => first | exact rfl | assumption); (case k7 => ktr_room); (case k8 => k_mem); (case k9 => k_mem); (case k10 => k_upd); k_whole); intro h' tk' F' N'; (try dsimp only); (try k_sweep); walk_say "CONTRACT setChr"))
local macro_rules | `(tactic| walk_at "call builtin:list.append") => `(tactic| (k_here; (with_reducible show wpAny _ _ (call (Value.builtin _) [Value.ref _, Value.none]) _ _ _); k_dflt (refine' append_none ?k1 ?k2 ?k3 ?k4 ?_; (case k1 => k_asm); (case k2 => k_asm); (case k3 => k_upd); (case k4 => first | assumption | omega); k_whole); intro h' F' N'; (try dsimp only); (try k_sweep); walk_say "APPEND none"))
local macro_rules | `(tactic| walk_at "call builtin:list.extend") => `(tactic| (k_here; (with_reducible show wpAny _ _ (call (Value.builtin _) [Value.ref _, Value.ref _]) _ _ _); k_dflt (refine' extend_none ?k1 ?k2 ?k3 ?k4 ?k5 ?k6 ?_; (case k1 => k_asm); (case k2 => k_asm); (case k3 => k_updF); (case k4 => k_mem); (case k5 => rfl); (case k6 => first | assumption | omega | (show _ + 2 ≤ _; omega) | (show _ + 5 ≤ _; omega)); k_whole); intro h' n' F' N'; (try dsimp only at N'); (try k_sweep); walk_say "EXTEND none"))
local macro_rules | `(tactic| walk_at "compareOp In int ref") => `(tactic| (k_here; k_dflt (refine' in_ints ?k1 ?k2 ?k3 ?_; (case k1 => k_asm); (case k2 => k_mem); (case k3 => k_asm); k_whole); walk_say "IN ints"))
local macro_rules | `(tactic| walk_at "compareOp NotIn int ref") => `(tactic| (k_here; k_dflt (refine' notin_ints ?k1 ?k2 ?k3 ?_; (case k1 => k_asm); (case k2 => k_mem); (case k3 => k_asm); k_whole); walk_say "NOTIN ints"))
local macro_rules | `(tactic| walk_at "subscriptTail") => `(tactic| (k_here; (with_reducible show wpAny _ _ (subscriptTail _ _ (Value.ref _) (Value.int _ _)) _ _ _); (with_unfolding_all refine' item_src ?k1 ?k2 ?k3 ?k4 ?_ ?k6; (case k1 => k_asm); (case k2 => k_mem); (case k3 => first | assumption | omega); (case k4 => first | assumption | omega); (case k6 => with_unfolding_all rfl); k_whole); walk_say "ITEM src"))
local macro_rules | `(tactic| walk_at "subscriptTail Name Constant ref int") => `(tactic| (k_here; (with_unfolding_all refine' item0 ?k1 ?k2 ?k3 ?_ ?k6; (case k1 => k_asm); (case k2 => k_mem); (case k3 => assumption); (case k6 => with_unfolding_all rfl); k_whole); walk_say "ITEM 0"))

variable {w : World} {h₀ : Heap} {L fa : Addr} {cd : Value} {m : Str → Option Value} {news : List (Addr × Obj)} {s : Shared} {mean : ExcName → Option Value} {mg mb : Str → Option Value}
  {σ δ : Nat → Addr} {sl an gl fd : Addr} {Xs : List (Addr × Obj)} {D : Nat → Src} {par : Nat → Nat} {q : Nat} {hs : List Nat} {ha : Nat → Addr} {had : Nat → List Nat} {kvs : List (Int × Value)} {hf rank : Nat → Nat} {v : Value}
local macro_rules | `(tactic| walk_at "exec For Name Name cons nil") => `(tactic| (refine Halt.mk ?_))
local macro_rules | `(tactic| walk_at "exec For") => `(tactic| (refine Halt.mk ?_))
local macro_rules | `(tactic| walk_at "pyIter ref") => `(tactic| (refine Halt.mk ?_))

abbrev frmH (sl an gl fd g : Addr) (u : Str → Option Value) : Str → Option Value := fun y =>
  if y = Str.ofString "group" then some (.ref g) else frm sl an gl fd u y
theorem to_frmH {h : Heap} {g : Addr} {m : Str → Option Value} (F : Fr h₀ L h m) (h1 : m (Str.ofString "sources") = some (.ref sl)) (h2 : m (Str.ofString "answers") = some (.ref an)) (h3 : m (Str.ofString "groups") = some (.ref gl)) (h4 : m (Str.ofString "former") = some (.ref fd))
    (h5 : m (Str.ofString "group") = some (.ref g)) : Fr h₀ L h (frmH sl an gl fd g m) := by
  have F' := to_frm F h1 h2 h3 h4
  have e : frm sl an gl fd m = frmH sl an gl fd g m := by
    funext y
    unfold frmH
    split
    · rename_i e; rw [e]; show m _ = _; exact h5
    · rfl
  rw [← e]; exact F'
theorem to_frmG {h : Heap} {g : Addr} {kv : Value} {m : Str → Option Value} (F : Fr h₀ L h m) (h1 : m (Str.ofString "sources") = some (.ref sl)) (h2 : m (Str.ofString "answers") = some (.ref an)) (h3 : m (Str.ofString "groups") = some (.ref gl)) (h4 : m (Str.ofString "former") = some (.ref fd))
    (h5 : m (Str.ofString "group") = some (.ref g)) (h6 : m (Str.ofString "k") = some kv) : Fr h₀ L h (frmG sl an gl fd g kv m) := by
  have F' := to_frmH F h1 h2 h3 h4 h5
  have e : frmH sl an gl fd g m = frmG sl an gl fd g kv m := by
    funext y
    unfold frmG
    split
    · rename_i e; rw [e]; show m _ = _; exact h6
    · rfl
  rw [← e]; exact F'
theorem LSt.noIX {I : Addr} {oI : Obj} {fs : Array Value} {Ys : List (Addr × Obj)} (N : Dis news) (M : LSt w σ δ sl an L Xs D par q gl fd hs ha had kvs news) (hI : (I, oI) ∈ news) (hd : oI.data = .fields fs) (sub : ∀ p ∈ Ys, p ∈ Xs) (off : ∀ p ∈ Ys, p.1 ≠ I) : LSt w σ δ sl an L Ys D par q gl fd hs ha had kvs (offI I news) :=
  (M.noI N hI hd).mono (fun _ hp => hp) fun p hp => ⟨mem_offI (M.ext p (sub p hp)).1 (off p hp), (M.ext p (sub p hp)).2⟩
theorem endTurn {Q : Flow → Shared → Prop} {E : Value → Shared → Prop} {u : Str → Option Value} {h k : Nat} {kt : Tok} (B : Below callerA h₀ [] h₀) (F : Fr h₀ L s.heap (frmG sl an gl fd (ha h) (.int (k : Int) kt) u)) (X : (hd.heap_39 w.params).In h₀) (N : News h₀ L s.heap news) (T : Top hd.view_39 (looseW hd.view_39 []) mean mg mb h₀)
    (S : Sep σ δ) (M : LSt w σ δ sl an L Xs D par q gl fd hs ha had kvs news) (P : PInv D par hf rank hs ha had kvs) (hq : q ≤ 90000) (h8 : h < 8) (k8 : k < 8) (hk : hf k = h)
    (ret : ∀ h' tk' news' par' q' u', Fr h₀ L h' (frmH sl an gl fd (ha h) u') → News h₀ L h' news' → LSt w σ δ sl an L Xs D par' q' gl fd hs ha had kvs news' → PInv D par' hf rank hs ha had kvs → q' ≤ q + 7 → Q .next { s with heap := h', toks := tk' }) :
    wpAny (model PySem.Challenge.rw_kn0108_01.row.prog w) (lawA L fa cd) (execs eB.1 (lawEnv L fa cd)) Q E s := by
  show wpAny _ _ (execs [e1.1, e2.1, e3.1, e4.1] _) _ _ _
  refine wpAny_execs_cons (endE1 B F X N T S M P hq h8 k8 hk ?_)
  intro h1 k1 news1 par1 q1 F1 N1 M1 P1 hq1
  refine wpAny_execs_cons (endE2 B F1 X N1 T M1 P1 h8 k8 hk ?_)
  intro h2 k2 F2 N2
  refine wpAny_execs_cons (endE3 B F2 X N2 T M1 P1 h8 k8 ?_)
  intro h3 k3 news3 dl t1 t2 t3 t4 F3 N3 sub3 m3
  have M3 := M1.mono sub3 fun p hp => ⟨sub3 _ (M1.ext p hp).1, (M1.ext p hp).2⟩
  refine wpAny_execs_cons (endE4 B F3 X N3 T M3 P1 h8 k8 m3 ?_)
  intro h4 k4 news4 F4 N4 sub4
  have M4 := M3.mono sub4 fun p hp => ⟨sub4 _ (M3.ext p hp).1, (M3.ext p hp).2⟩
  exact wpAny_execs_nil (ret _ _ _ _ _ _ (to_frmH F4 rfl rfl rfl rfl rfl) N4 M4 P1 hq1)
theorem ext_two {I l : Addr} {oI ol : Obj} {fs vs : Array Value} {nl : Nat} {news₁ : List (Addr × Obj)} {M₀ : Prop} (M : LSt w σ δ sl an L Xs D par q gl fd hs ha had kvs news₁) (hoff : ∀ p ∈ news₁, p.1 ≠ I) (hfs : oI.data = .fields fs) (hnl : ol.data = .seq vs nl) (al : Ap an δ l) : Ext an δ ((I, oI) :: (l, ol) :: Xs) ((I, oI) :: (l, ol) :: news₁) := by
  intro p hp
  rcases List.mem_cons.mp hp with rfl | hp
  · refine ⟨.head _, ⟨fun e => ?_, fun j hj e => ?_⟩, (fun v e => by rw [hfs] at e; cases e), (fun es ep e => by rw [hfs] at e; cases e)⟩
    · obtain ⟨r, han⟩ := M.ans
      exact hoff _ han e.symm
    · exact hoff _ (M.has j hj).2 e.symm
  · rcases List.mem_cons.mp hp with rfl | hp
    · exact ⟨.tail _ (.head _), al, (fun v e => by rw [hnl] at e; cases e), (fun es ep e => by rw [hnl] at e; cases e)⟩
    · exact ⟨.tail _ (.tail _ (M.ext p hp).1), (M.ext p hp).2⟩
theorem endIter {Q : Flow → Shared → Prop} {u : Str → Option Value} {h : Nat} {px : Pos} (B : Below callerA h₀ [] h₀) (F : Fr h₀ L s.heap (frmH sl an gl fd (ha h) u)) (X : (hd.heap_39 w.params).In h₀) (N : News h₀ L s.heap news) (T : Top hd.view_39 (looseW hd.view_39 []) mean mg mb h₀)
    (S : Sep σ δ) (M : LSt w σ δ sl an L Xs D par q gl fd hs ha had kvs news) (P : PInv D par hf rank hs ha had kvs) (hq : q ≤ 80000) (hh : h ∈ hs)
    (done : ∀ h' tk' news' par' q' u', Fr h₀ L h' (frmH sl an gl fd (ha h) u') → News h₀ L h' news' → LSt w σ δ sl an L Xs D par' q' gl fd hs ha had kvs news' → PInv D par' hf rank hs ha had kvs → q' ≤ q + 56 → Q .next { s with heap := h', toks := tk' }) :
    wpAny (model PySem.Challenge.rw_kn0108_01.row.prog w) (lawA L fa cd) (pyIter (.ref (ha h))) (fun it s₂ => TurnsAt PySem.Challenge.rw_kn0108_01.row.prog w (lawA L fa cd) h₀ (lawEnv L fa cd) (.Name (Str.ofString "k") px) eB.1 Q (fun _ _ => False) it s₂) (fun _ _ => False) s := by
  obtain ⟨h8, hfh⟩ := P.h8 h hh
  obtain ⟨vs, c, hl, hi⟩ := M.hads h h8
  have hlen := hi.length
  have l8 := P.len8 h8
  rw [List.length_map] at hlen
  refine iter_any (fun i m news' => ∃ par' q' u', m = frmH sl an gl fd (ha h) u' ∧ LSt w σ δ sl an L Xs D par' q' gl fd hs ha had kvs news' ∧ PInv D par' hf rank hs ha had kvs ∧ q' ≤ q + 7 * i) rfl hl F N ⟨par, q, u, rfl, M, P, Nat.le_add_right _ _⟩ (fun _ _ => rfl) ?_ ?_
  · rintro i v m₁ news₁ h1 tk I oI ol hv ⟨par1, q1, u1, rfl, M1, P1, hq1⟩ hoff ⟨fs, hfs⟩ ⟨nl, hnl⟩ F1 N1
    have hilt : i < vs.length := by
      rcases Nat.lt_or_ge i vs.length with h | h
      · exact h
      · rw [List.getElem?_eq_none h] at hv; cases hv
    obtain ⟨_, xt, rfl, hj⟩ := IntsAre.at hi i v hv
    simp only [List.getElem?_map, Option.map_eq_some_iff] at hj
    obtain ⟨j, hj, rfl⟩ := hj
    have hjm := List.mem_of_getElem? hj
    have j8 := P.lt8 h h8 j hjm
    have hfj := (P.mem h hh j j8).mp hjm
    refine wpAny_assign_Name (storeX_L F1 N1 (fun h' F' N' => ?_))
    have F2 := to_frmG (kv := .int (j : Int) xt) F' rfl rfl rfl rfl rfl rfl
    have M2 := M1.mono (news' := (I, oI) :: (ha h, ol) :: news₁) (fun p hp => .tail _ (.tail _ hp)) (ext_two (M₀ := True) M1 hoff hfs hnl (M1.a_ha h h8))
    refine endTurn B F2 X N' T S M2 P1 (by omega) h8 j8 hfj ?_
    intro h3 k3 news3 par3 q3 u3 F3 N3 M3 P3 hq3
    show AnyEnd _ _ _ _ _ _ _ _ _
    have mI := (M3.ext _ (.head _)).1
    have ml := (M3.ext _ (.tail _ (.head _))).1
    refine ⟨_, _, _, offI I news3, rfl, F3, fun p hp => ?_, offI_ne, par3, q3, u3, rfl, M3.noIX (dis_of N3) mI hfs (fun p hp => .tail _ (.tail _ hp)) (fun p hp => hoff p (M1.ext p hp).1), P3, by omega⟩
    rcases List.mem_cons.mp hp with rfl | hp
    · exact N3 _ mI
    · rcases List.mem_cons.mp hp with rfl | hp
      · exact N3 _ ml
      · exact N3 p (List.mem_filter.mp hp).1
  · rintro m₁ news₁ h1 tk ⟨par1, q1, u1, rfl, M1, P1, hq1⟩ F1 N1
    exact done _ _ _ _ _ _ F1 N1 M1 P1 (by omega)
theorem endGroup {Q : Flow → Shared → Prop} {u : Str → Option Value} {h : Nat} (B : Below callerA h₀ [] h₀) (F : Fr h₀ L s.heap (frmH sl an gl fd (ha h) u)) (X : (hd.heap_39 w.params).In h₀) (N : News h₀ L s.heap news) (T : Top hd.view_39 (looseW hd.view_39 []) mean mg mb h₀)
    (S : Sep σ δ) (M : LSt w σ δ sl an L Xs D par q gl fd hs ha had kvs news) (P : PInv D par hf rank hs ha had kvs) (hq : q ≤ 80000) (hh : h ∈ hs)
    (done : ∀ h' tk' news' par' q' u', Fr h₀ L h' (frmH sl an gl fd (ha h) u') → News h₀ L h' news' → LSt w σ δ sl an L Xs D par' q' gl fd hs ha had kvs news' → PInv D par' hf rank hs ha had kvs → q' ≤ q + 56 → Q .next { s with heap := h', toks := tk' }) :
    wpAny (model PySem.Challenge.rw_kn0108_01.row.prog w) (lawA L fa cd) (execs endB.1 (lawEnv L fa cd)) Q (fun _ _ => False) s := by
  revert X; k_fill; intro X
  w_on
  dsimp only [endB, lawA, lawEnv, lawBS]
  k_steps
  refine For_turns F ?_
  k_steps
  refine endIter B F X N T S M P hq hh ?_
  intro h1 k1 news1 par1 q1 u1 F1 N1 M1 P1 hq1
  exact wpAny_execs_nil (done _ _ _ _ _ _ F1 N1 M1 P1 hq1)
theorem endOutIter {Q : Flow → Shared → Prop} {u : Str → Option Value} {px : Pos} (B : Below callerA h₀ [] h₀) (F : Fr h₀ L s.heap (frm sl an gl fd u)) (X : (hd.heap_39 w.params).In h₀) (N : News h₀ L s.heap news) (T : Top hd.view_39 (looseW hd.view_39 []) mean mg mb h₀)
    (S : Sep σ δ) (M : LSt w σ δ sl an L [] D par q gl fd hs ha had kvs news) (P : PInv D par hf rank hs ha had kvs) (hq : q ≤ 70000)
    (done : ∀ h' tk' news' par' q' u', Fr h₀ L h' (frm sl an gl fd u') → News h₀ L h' news' → LSt w σ δ sl an L [] D par' q' gl fd hs ha had kvs news' → q' ≤ q + 500 → Q .next { s with heap := h', toks := tk' }) :
    wpAny (model PySem.Challenge.rw_kn0108_01.row.prog w) (lawA L fa cd) (pyIter (.ref gl)) (fun it s₂ => TurnsAt PySem.Challenge.rw_kn0108_01.row.prog w (lawA L fa cd) h₀ (lawEnv L fa cd) (.Name (Str.ofString "group") px) endB.1 Q (fun _ _ => False) it s₂) (fun _ _ => False) s := by
  obtain ⟨c, hl⟩ := M.grp
  have l8 : hs.length ≤ 8 := by have := P.len; omega
  have lv : (hs.map fun h => Value.ref (ha h)).length = hs.length := List.length_map _
  refine iter_any (vs := hs.map fun h => Value.ref (ha h)) (fun i m news' => ∃ par' q' u', m = frm sl an gl fd u' ∧ LSt w σ δ sl an L [] D par' q' gl fd hs ha had kvs news' ∧ PInv D par' hf rank hs ha had kvs ∧ q' ≤ q + 56 * i) rfl hl F N ⟨par, q, u, rfl, M, P, Nat.le_add_right _ _⟩ (fun _ _ => rfl) ?_ ?_
  · rintro i v m₁ news₁ h1 tk I oI ol hv ⟨par1, q1, u1, rfl, M1, P1, hq1⟩ hoff ⟨fs, hfs⟩ ⟨nl, hnl⟩ F1 N1
    have hilt : i < (hs.map fun h => Value.ref (ha h)).length := by
      rcases Nat.lt_or_ge i (hs.map fun h => Value.ref (ha h)).length with h | h
      · exact h
      · rw [List.getElem?_eq_none h] at hv; cases hv
    simp only [List.getElem?_map, Option.map_eq_some_iff] at hv
    obtain ⟨h, hj, rfl⟩ := hv
    have hh := List.mem_of_getElem? hj
    refine wpAny_assign_Name (storeX_L F1 N1 (fun h' F' N' => ?_))
    have F2 := to_frmH (g := ha h) F' rfl rfl rfl rfl rfl
    have M2 := M1.mono (news' := (I, oI) :: (gl, ol) :: news₁) (fun p hp => .tail _ (.tail _ hp)) (ext_two (M₀ := True) M1 hoff hfs hnl M1.a_gl)
    refine endGroup B F2 X N' T S M2 P1 (by omega) hh ?_
    intro h3 k3 news3 par3 q3 u3 F3 N3 M3 P3 hq3
    show AnyEnd _ _ _ _ _ _ _ _ _
    have mI := (M3.ext _ (.head _)).1
    have ml := (M3.ext _ (.tail _ (.head _))).1
    refine ⟨_, _, _, offI I news3, rfl, to_frm F3 rfl rfl rfl rfl, fun p hp => ?_, offI_ne, par3, q3, _, rfl, M3.noI (dis_of N3) mI hfs, P3, by omega⟩
    rcases List.mem_cons.mp hp with rfl | hp
    · exact N3 _ mI
    · rcases List.mem_cons.mp hp with rfl | hp
      · exact N3 _ ml
      · exact N3 p (List.mem_filter.mp hp).1
  · rintro m₁ news₁ h1 tk ⟨par1, q1, u1, rfl, M1, P1, hq1⟩ F1 N1
    exact done _ _ _ _ _ _ F1 N1 M1 (by omega)
end
end Mine
end

-- part 22
section
open PySem PySem.W PySem.Calls PyProof.Rows PyProof.V PySem.Spec
set_option Elab.async false
set_option maxRecDepth 100000
namespace Mine
section
set_option maxHeartbeats 4000000
local macro_rules | `(tactic| k_mem) => `(tactic| ((show Membership.mem (γ := List (Addr × Obj)) _ _); with_reducible assumption))
local macro_rules | `(tactic| walk_at "call ref") => `(tactic| (k_here; (with_reducible show wpAny _ _ (call (Value.ref 57) _ _) _ _ _); k_dflt (refine' getSys ?k1 ?k2 ?k3 ?k4 ?k5 ?k6 ?k7 ?k8 ?k9 ?k10 ?_; (case k1 => k_asm); (case k2 => k_asm); (case k3 => k_asm); (case k4 => k_asm); (case k5 => k_asm); (case k6 => first | exact rfl | assumption); (case k7 => ktr_room); (case k8 => k_mem); (case k9 => k_mem); (case k10 => first | k_handed | assumption); k_whole); intro h' tk' F' N'; (try dsimp only); (try k_sweep); walk_say "CONTRACT getSys"))
local macro_rules | `(tactic| walk_at "call ref") => `(tactic| (k_here; (with_reducible show wpAny _ _ (call (Value.ref 43) _ _) _ _ _); k_dflt (refine' getPub ?k1 ?k2 ?k3 ?k4 ?k5 ?k6 ?k7 ?k8 ?k9 ?k10 ?_; (case k1 => k_asm); (case k2 => k_asm); (case k3 => k_asm); (case k4 => k_asm); (case k5 => k_asm); (case k6 => first | exact rfl | assumption); (case k7 => ktr_room); (case k8 => k_mem); (case k9 => k_mem); (case k10 => first | k_handed | assumption); k_whole); intro h' tk' F' N'; (try dsimp only); (try k_sweep); walk_say "CONTRACT getPub"))
local macro_rules | `(tactic| walk_at "call ref") => `(tactic| (k_here; (with_reducible show wpAny _ _ (call (Value.ref 71) _ _) _ _ _); k_dflt (refine' getEnc ?k1 ?k2 ?k3 ?k4 ?k5 ?k6 ?k7 ?k8 ?k9 ?k10 ?_; (case k1 => k_asm); (case k2 => k_asm); (case k3 => k_asm); (case k4 => k_asm); (case k5 => k_asm); (case k6 => first | exact rfl | assumption); (case k7 => ktr_room); (case k8 => k_mem); (case k9 => k_mem); (case k10 => first | k_handed | assumption); k_whole); intro h' tk' F' N'; (try dsimp only); (try k_sweep); walk_say "CONTRACT getEnc"))
local macro_rules | `(tactic| walk_at "call ref") => `(tactic| (k_here; (with_reducible show wpAny _ _ (call (Value.ref 85) _ _) _ _ _); k_dflt (refine' getByt ?k1 ?k2 ?k3 ?k4 ?k5 ?k6 ?k7 ?k8 ?k9 ?k10 ?_; (case k1 => k_asm); (case k2 => k_asm); (case k3 => k_asm); (case k4 => k_asm); (case k5 => k_asm); (case k6 => first | exact rfl | assumption); (case k7 => ktr_room); (case k8 => k_mem); (case k9 => k_mem); (case k10 => first | k_handed | assumption); k_whole); intro h' tk' F' N'; (try dsimp only); (try k_sweep); walk_say "CONTRACT getByt"))
local macro_rules | `(tactic| walk_at "call ref") => `(tactic| (k_here; (with_reducible show wpAny _ _ (call (Value.ref 99) _ _) _ _ _); k_dflt (refine' getChr ?k1 ?k2 ?k3 ?k4 ?k5 ?k6 ?k7 ?k8 ?k9 ?k10 ?_; (case k1 => k_asm); (case k2 => k_asm); (case k3 => k_asm); (case k4 => k_asm); (case k5 => k_asm); (case k6 => first | exact rfl | assumption); (case k7 => ktr_room); (case k8 => k_mem); (case k9 => k_mem); (case k10 => first | k_handed | assumption); k_whole); intro h' tk' F' N'; (try dsimp only); (try k_sweep); walk_say "CONTRACT getChr"))
local macro_rules | `(tactic| walk_at "call ref") => `(tactic| (k_here; (with_reducible show wpAny _ _ (call (Value.ref 50) _ _) _ _ _); k_dflt (refine' setSys ?k1 ?k2 ?k3 ?k4 ?k5 ?k6 ?k7 ?k8 ?k9 ?k10 ?_; (case k1 => k_asm); (case k2 => k_asm); (case k3 => k_asm); (case k4 => k_asm); (case k5 => k_asm); (case k6 => first | exact rfl | assumption); (case k7 => ktr_room); (case k8 => k_mem); (case k9 => k_mem); (case k10 => k_upd); k_whole); intro h' tk' F' N'; (try dsimp only); (try k_sweep); walk_say "CONTRACT setSys"))
local macro_rules | `(tactic| walk_at "call ref") => `(tactic| (k_here; (with_reducible show wpAny _ _ (call (Value.ref 36) _ _) _ _ _); k_dflt (refine' setPub ?k1 ?k2 ?k3 ?k4 ?k5 ?k6 ?k7 ?k8 ?k9 ?k10 ?_; (case k1 => k_asm); (case k2 => k_asm); (case k3 => k_asm); (case k4 => k_asm); (case k5 => k_asm); (case k6 => first | exact rfl | assumption); (case k7 => ktr_room); (case k8 => k_mem); (case k9 => k_mem); (case k10 => k_upd); k_whole); intro h' tk' F' N'; (try dsimp only); (try k_sweep); walk_say "CONTRACT setPub"))
local macro_rules | `(tactic| walk_at "call ref") => `(tactic| (k_here; (with_reducible show wpAny _ _ (call (Value.ref 64) _ _) _ _ _); k_dflt (refine' setEnc ?k1 ?k2 ?k3 ?k4 ?k5 ?k6 ?k7 ?k8 ?k9 ?k10 ?_; (case k1 => k_asm); (case k2 => k_asm); (case k3 => k_asm); (case k4 => k_asm); (case k5 => k_asm); (case k6 => first | exact rfl | assumption); (case k7 => ktr_room); (case k8 => k_mem); (case k9 => k_mem); (case k10 => k_upd); k_whole); intro h' tk' F' N'; (try dsimp only); (try k_sweep); walk_say "CONTRACT setEnc"))
local macro_rules | `(tactic| walk_at "call ref") => `(tactic| (k_here; (with_reducible show wpAny _ _ (call (Value.ref 78) _ _) _ _ _); k_dflt (refine' setByt ?k1 ?k2 ?k3 ?k4 ?k5 ?k6 ?k7 ?k8 ?k9 ?k10 ?_; (case k1 => k_asm); (case k2 => k_asm); (case k3 => k_asm); (case k4 => k_asm); (case k5 => k_asm); (case k6 => first | exact rfl | assumption); (case k7 => ktr_room); (case k8 => k_mem); (case k9 => k_mem); (case k10 => k_upd); k_whole); intro h' tk' F' N'; (try dsimp only); (try k_sweep); walk_say "CONTRACT setByt"))
local macro_rules | `(tactic| walk_at "call ref") => `(tactic| (k_here; (with_reducible show wpAny _ _ (call (Value.ref 92) _ _) _ _ _); k_dflt (refine' setChr ?k1 ?k2 ?k3 ?k4 ?k5 ?k6 ?k7 ?k8 ?k9 ?k10 ?_; (case k1 => k_asm); (case k2 => k_asm); (case k3 => k_asm); (case k4 => k_asm); (case k5 => k_asm); (case k6 => first | exact rfl | assumption); (case k7 => ktr_room); (case k8 => k_mem); (case k9 => k_mem); (case k10 => k_upd); k_whole); intro h' tk' F' N'; (try dsimp only); (try k_sweep); walk_say "CONTRACT setChr"))
local macro_rules | `(tactic| walk_at "call builtin:list.append") => `(tactic| (k_here; (with_reducible show wpAny _ _ (call (Value.builtin _) [Value.ref _, Value.none]) _ _ _); k_dflt (refine' append_none ?k1 ?k2 ?k3 ?k4 ?_; (case k1 => k_asm); (case k2 => k_asm); (case k3 => k_upd); (case k4 => first | assumption | omega); k_whole); intro h' F' N'; (try dsimp only); (try k_sweep); walk_say "APPEND none"))
local macro_rules | `(tactic| walk_at "call builtin:list.extend") => `(tactic| (k_here; (with_reducible show wpAny _ _ (call (Value.builtin _) [Value.ref _, Value.ref _]) _ _ _); k_dflt (refine' extend_none ?k1 ?k2 ?k3 ?k4 ?k5 ?k6 ?_; (case k1 => k_asm); (case k2 => k_asm); (case k3 => k_updF); (case k4 => k_mem); (case k5 => rfl); (case k6 => first | assumption | omega | (show _ + 2 ≤ _; omega) | (show _ + 5 ≤ _; omega)); k_whole); intro h' n' F' N'; (try dsimp only at N'); (try k_sweep); walk_say "EXTEND none"))
local macro_rules | `(tactic| walk_at "compareOp In int ref") => `(tactic| (k_here; k_dflt (refine' in_ints ?k1 ?k2 ?k3 ?_; (case k1 => k_asm); (case k2 => k_mem); (case k3 => k_asm); k_whole); walk_say "IN ints"))
local macro_rules | `(tactic| walk_at "compareOp NotIn int ref") => `(tactic| (k_here; k_dflt (refine' notin_ints ?k1 ?k2 ?k3 ?_; (case k1 => k_asm); (case k2 => k_mem); (case k3 => k_asm); k_whole); walk_say "NOTIN ints"))
local macro_rules | `(tactic| walk_at "subscriptTail") => `(tactic| (k_here; (with_reducible show wpAny _ _ (subscriptTail _ _ (Value.ref _) (Value.int _ _)) _ _ _); (with_unfolding_all refine' item_src ?k1 ?k2 ?k3 ?k4 ?_ ?k6; (case k1 => k_asm); (case k2 => k_mem); (case k3 => first | assumption | omega); (case k4 => first | assumption | omega); (case k6 => with_unfolding_all rfl); k_whole); walk_say "ITEM src"))
local macro_rules | `(tactic| walk_at "subscriptTail Name Constant ref int") => `(tactic| (k_here; (with_unfolding_all refine' item0 ?k1 ?k2 ?k3 ?_ ?k6; (case k1 => k_asm); (case k2 => k_mem); (case k3 => assumption); (case k6 => with_unfolding_all rfl); k_whole); walk_say "ITEM 0"))

variable {w : World} {h₀ : Heap} {L fa : Addr} {cd : Value} {m : Str → Option Value} {news : List (Addr × Obj)} {s : Shared} {mean : ExcName → Option Value} {mg mb : Str → Option Value}
  {σ δ : Nat → Addr} {sl an gl fd : Addr} {Xs : List (Addr × Obj)} {D : Nat → Src} {par : Nat → Nat} {q : Nat} {hs : List Nat} {ha : Nat → Addr} {had : Nat → List Nat} {kvs : List (Int × Value)} {hf rank : Nat → Nat} {v : Value}
local macro_rules | `(tactic| walk_at "exec For") => `(tactic| (refine Halt.mk ?_))
local macro_rules | `(tactic| walk_at "pyIter ref") => `(tactic| (refine Halt.mk ?_))
local macro_rules | `(tactic| walk_at "call builtin:len") => `(tactic| (k_here; (with_reducible show wpAny _ _ (call (Value.builtin "len") [Value.ref _]) _ _ _); k_dflt (refine' len_made ?k1 ?k2 ?k3 ?_; (case k1 => k_asm); (case k2 => k_mem); (case k3 => assumption); k_whole); intro t' k'; (try dsimp only); walk_say "LEN made"))
local macro_rules | `(tactic| walk_at "compareOp Eq ref ref") => `(tactic| (refine Halt.mk ?_))
local macro_rules | `(tactic| walk_at "binaryOp Mult") => `(tactic| (refine Halt.mk ?_))

abbrev s6 : { x : Stmt // lawBS.1.1[6]? = some x } := ⟨_, rfl⟩
abbrev s7 : { x : Stmt // lawBS.1.1[7]? = some x } := ⟨_, rfl⟩
theorem law6 {Q : Flow → Shared → Prop} {u : Str → Option Value} (B : Below callerA h₀ [] h₀) (F : Fr h₀ L s.heap (frm sl an gl fd u)) (X : (hd.heap_39 w.params).In h₀) (N : News h₀ L s.heap news) (T : Top hd.view_39 (looseW hd.view_39 []) mean mg mb h₀)
    (S : Sep σ δ) (M : LSt w σ δ sl an L [] D par q gl fd hs ha had kvs news) (P : PInv D par hf rank hs ha had kvs) (hq : q ≤ 70000)
    (done : ∀ h' tk' news' par' q' u', Fr h₀ L h' (frm sl an gl fd u') → News h₀ L h' news' → LSt w σ δ sl an L [] D par' q' gl fd hs ha had kvs news' → q' ≤ q + 500 → Q .next { s with heap := h', toks := tk' }) :
    wpAny (model PySem.Challenge.rw_kn0108_01.row.prog w) (lawA L fa cd) (exec s6.1 (lawEnv L fa cd)) Q (fun _ _ => False) s := by
  revert X; k_fill; intro X
  w_on
  dsimp only [s6, lawA, lawEnv, lawBS]
  k_steps
  refine For_turns F ?_
  k_steps
  exact endOutIter B F X N T S M P hq done
theorem eq_nones {prog : Program} {w : World} {A : Around} {E : Value → Shared → Prop} {s : Shared} {Q : Value → Shared → Prop} {a b : Addr} {q n : Nat} (ha : s.heap.IsList a (nones q)) (hb : s.heap.IsList b (List.replicate n [Value.none]).flatten.toArray) (hn : n = q) (hu : A.units < cLine) (h : Q (.bool true) s) :
    wpAny (model prog w) A (compareOp .Eq (.ref a) (.ref b)) Q E s := by
  subst hn
  rw [lm_rep_flat_one] at hb
  refine SeqAt.eq_listAt (e := fun _ => true) ha hb (by simp [nones]) hu (fun j h1 h2 => ?_) ?_
  · have e1 : (nones n)[j] = Value.none := by simp [nones]
    have e2 : (List.replicate n Value.none).toArray[j] = Value.none := by simp
    have g1 : ∀ x y, x = Value.none → y = Value.none → SeqAt.EqAt A.in1 s x y true := by rintro _ _ rfl rfl; exact SeqAt.EqAt.same _
    exact g1 _ _ e1 e2
  · have e : ((List.range (nones n).size).all fun _ => true) = true := List.all_eq_true.mpr fun _ _ => rfl
    rw [e]; exact h
theorem law7 {Q : Flow → Shared → Prop} {E : Value → Shared → Prop} {u : Str → Option Value} (B : Below callerA h₀ [] h₀) (F : Fr h₀ L s.heap (frm sl an gl fd u)) (X : (hd.heap_39 w.params).In h₀) (N : News h₀ L s.heap news) (T : Top hd.view_39 (looseW hd.view_39 []) mean mg mb h₀)
    (M : LSt w σ δ sl an L [] D par q gl fd hs ha had kvs news) (hq : q ≤ 80000)
    (ret : ∀ h' tk' news' m', Fr h₀ L h' m' → News h₀ L h' news' → Q (.ret (.bool true)) { s with heap := h', toks := tk' }) :
    wpAny (model PySem.Challenge.rw_kn0108_01.row.prog w) (lawA L fa cd) (exec s7.1 (lawEnv L fa cd)) Q E s := by
  revert X; k_fill; intro X
  w_on
  dsimp only [s7, lawA, lawEnv, lawBS]
  obtain ⟨r, han⟩ := M.ans
  have hz : (nones q).size ≤ sizeLine := by rw [nones_size, sizeLine_eq]; omega
  k_steps
  rename News _ _ _ _ => N1
  rename Fr _ _ _ _ => F1
  have en : (nones q).toList.length = q := by simp [nones]
  refine mul_list_is (vs := [.none]) F1 N1 ⟨_, N1.get (.head _), rfl, _, rfl⟩ (.cons .none .nil) (by omega) (by omega) (by rw [en]; show 1 * ((q : Int)).toNat ≤ 2 ^ 24; omega) ?_
  intro h2 F2 N2 _ hl2 _
  refine eq_nones ⟨_, N2.get (.tail _ han), rfl, _, rfl⟩ hl2 (by rw [en]; omega) (by ke_room) ?_
  exact ret _ _ _ _ F2 N2
end
end Mine
end

-- part 23
section
open PySem PySem.W PySem.Calls PyProof.Rows PyProof.V PySem.Spec
set_option Elab.async false
set_option maxRecDepth 100000
namespace Mine
section
set_option maxHeartbeats 4000000
local macro_rules | `(tactic| k_mem) => `(tactic| ((show Membership.mem (γ := List (Addr × Obj)) _ _); with_reducible assumption))
local macro_rules | `(tactic| walk_at "call ref") => `(tactic| (k_here; (with_reducible show wpAny _ _ (call (Value.ref 57) _ _) _ _ _); k_dflt (refine' getSys ?k1 ?k2 ?k3 ?k4 ?k5 ?k6 ?k7 ?k8 ?k9 ?k10 ?_; (case k1 => k_asm); (case k2 => k_asm); (case k3 => k_asm); (case k4 => k_asm); (case k5 => k_asm); (case k6 => first | exact rfl | assumption); (case k7 => ktr_room); (case k8 => k_mem); (case k9 => k_mem); (case k10 => first | k_handed | assumption); k_whole); intro h' tk' F' N'; (try dsimp only); (try k_sweep); walk_say "CONTRACT getSys"))
local macro_rules | `(tactic| walk_at "call ref") => `(tactic| (k_here; (with_reducible show wpAny _ _ (call (Value.ref 43) _ _) _ _ _); k_dflt (refine' getPub ?k1 ?k2 ?k3 ?k4 ?k5 ?k6 ?k7 ?k8 ?k9 ?k10 ?_; (case k1 => k_asm); (case k2 => k_asm); (case k3 => k_asm); (case k4 => k_asm); (case k5 => k_asm); (case k6 => first | exact rfl | assumption); (case k7 => ktr_room); (case k8 => k_mem); (case k9 => k_mem); (case k10 => first | k_handed | assumption); k_whole); intro h' tk' F' N'; (try dsimp only); (try k_sweep); walk_say "CONTRACT getPub"))
local macro_rules | `(tactic| walk_at "call ref") => `(tactic| (k_here; (with_reducible show wpAny _ _ (call (Value.ref 71) _ _) _ _ _); k_dflt (refine' getEnc ?k1 ?k2 ?k3 ?k4 ?k5 ?k6 ?k7 ?k8 ?k9 ?k10 ?_; (case k1 => k_asm); (case k2 => k_asm); (case k3 => k_asm); (case k4 => k_asm); (case k5 => k_asm); (case k6 => first | exact rfl | assumption); (case k7 => ktr_room); (case k8 => k_mem); (case k9 => k_mem); (case k10 => first | k_handed | assumption); k_whole); intro h' tk' F' N'; (try dsimp only); (try k_sweep); walk_say "CONTRACT getEnc"))
local macro_rules | `(tactic| walk_at "call ref") => `(tactic| (k_here; (with_reducible show wpAny _ _ (call (Value.ref 85) _ _) _ _ _); k_dflt (refine' getByt ?k1 ?k2 ?k3 ?k4 ?k5 ?k6 ?k7 ?k8 ?k9 ?k10 ?_; (case k1 => k_asm); (case k2 => k_asm); (case k3 => k_asm); (case k4 => k_asm); (case k5 => k_asm); (case k6 => first | exact rfl | assumption); (case k7 => ktr_room); (case k8 => k_mem); (case k9 => k_mem); (case k10 => first | k_handed | assumption); k_whole); intro h' tk' F' N'; (try dsimp only); (try k_sweep); walk_say "CONTRACT getByt"))
local macro_rules | `(tactic| walk_at "call ref") => `(tactic| (k_here; (with_reducible show wpAny _ _ (call (Value.ref 99) _ _) _ _ _); k_dflt (refine' getChr ?k1 ?k2 ?k3 ?k4 ?k5 ?k6 ?k7 ?k8 ?k9 ?k10 ?_; (case k1 => k_asm); (case k2 => k_asm); (case k3 => k_asm); (case k4 => k_asm); (case k5 => k_asm); (case k6 => first | exact rfl | assumption); (case k7 => ktr_room); (case k8 => k_mem); (case k9 => k_mem); (case k10 => first | k_handed | assumption); k_whole); intro h' tk' F' N'; (try dsimp only); (try k_sweep); walk_say "CONTRACT getChr"))
local macro_rules | `(tactic| walk_at "call ref") => `(tactic| (k_here; (with_reducible show wpAny _ _ (call (Value.ref 50) _ _) _ _ _); k_dflt (refine' setSys ?k1 ?k2 ?k3 ?k4 ?k5 ?k6 ?k7 ?k8 ?k9 ?k10 ?_; (case k1 => k_asm); (case k2 => k_asm); (case k3 => k_asm); (case k4 => k_asm); (case k5 => k_asm); (case k6 => first | exact rfl | assumption); (case k7 => ktr_room); (case k8 => k_mem); (case k9 => k_mem); (case k10 => k_upd); k_whole); intro h' tk' F' N'; (try dsimp only); (try k_sweep); walk_say "CONTRACT setSys"))
local macro_rules | `(tactic| walk_at "call ref") => `(tactic| (k_here; (with_reducible show wpAny _ _ (call (Value.ref 36) _ _) _ _ _); k_dflt (refine' setPub ?k1 ?k2 ?k3 ?k4 ?k5 ?k6 ?k7 ?k8 ?k9 ?k10 ?_; (case k1 => k_asm); (case k2 => k_asm); (case k3 => k_asm); (case k4 => k_asm); (case k5 => k_asm); (case k6 => first | exact rfl | assumption); (case k7 => ktr_room); (case k8 => k_mem); (case k9 => k_mem); (case k10 => k_upd); k_whole); intro h' tk' F' N'; (try dsimp only); (try k_sweep); walk_say "CONTRACT setPub"))
local macro_rules | `(tactic| walk_at "call ref") => `(tactic| (k_here; (with_reducible show wpAny _ _ (call (Value.ref 64) _ _) _ _ _); k_dflt (refine' setEnc ?k1 ?k2 ?k3 ?k4 ?k5 ?k6 ?k7 ?k8 ?k9 ?k10 ?_; (case k1 => k_asm); (case k2 => k_asm); (case k3 => k_asm); (case k4 => k_asm); (case k5 => k_asm); (case k6 => first | exact rfl | assumption); (case k7 => ktr_room); (case k8 => k_mem); (case k9 => k_mem); (case k10 => k_upd); k_whole); intro h' tk' F' N'; (try dsimp only); (try k_sweep); walk_say "CONTRACT setEnc"))
local macro_rules | `(tactic| walk_at "call ref") => `(tactic| (k_here; (with_reducible show wpAny _ _ (call (Value.ref 78) _ _) _ _ _); k_dflt (refine' setByt ?k1 ?k2 ?k3 ?k4 ?k5 ?k6 ?k7 ?k8 ?k9 ?k10 ?_; (case k1 => k_asm); (case k2 => k_asm); (case k3 => k_asm); (case k4 => k_asm); (case k5 => k_asm); (case k6 => first | exact rfl | assumption); (case k7 => ktr_room); (case k8 => k_mem); (case k9 => k_mem); (case k10 => k_upd); k_whole); intro h' tk' F' N'; (try dsimp only); (try k_sweep); walk_say "CONTRACT setByt"))
local macro_rules | `(tactic| walk_at "call ref") => `(tactic| (k_here; (with_reducible show wpAny _ _ (call (Value.ref 92) _ _) _ _ _); k_dflt (refine' setChr ?k1 ?k2 ?k3 ?k4 ?k5 ?k6 ?k7 ?k8 ?k9 ?k10 ?_; (case k1 => k_asm); (case k2 => k_asm); (case k3 => k_asm); (case k4 => k_asm); (case k5 => k_asm); (case k6 => first | exact rfl | assumption); (case k7 => ktr_room); (case k8 => k_mem); (case k9 => k_mem); (case k10 => k_upd); k_whole); intro h' tk' F' N'; (try dsimp only); (try k_sweep); walk_say "CONTRACT setChr"))
local macro_rules | `(tactic| walk_at "call builtin:list.append") => `(tactic| (k_here; (with_reducible show wpAny _ _ (call (Value.builtin _) [Value.ref _, Value.none]) _ _ _); k_dflt (refine' append_none ?k1 ?k2 ?k3 ?k4 ?_; (case k1 => k_asm); (case k2 => k_asm); (case k3 => k_upd); (case k4 => first | assumption | omega); k_whole); intro h' F' N'; (try dsimp only); (try k_sweep); walk_say "APPEND none"))
local macro_rules | `(tactic| walk_at "call builtin:list.extend") => `(tactic| (k_here; (with_reducible show wpAny _ _ (call (Value.builtin _) [Value.ref _, Value.ref _]) _ _ _); k_dflt (refine' extend_none ?k1 ?k2 ?k3 ?k4 ?k5 ?k6 ?_; (case k1 => k_asm); (case k2 => k_asm); (case k3 => k_updF); (case k4 => k_mem); (case k5 => rfl); (case k6 => first | assumption | omega | (show _ + 2 ≤ _; omega) | (show _ + 5 ≤ _; omega)); k_whole); intro h' n' F' N'; (try dsimp only at N'); (try k_sweep); walk_say "EXTEND none"))
local macro_rules | `(tactic| walk_at "compareOp In int ref") => `(tactic| (k_here; k_dflt (refine' in_ints ?k1 ?k2 ?k3 ?_; (case k1 => k_asm); (case k2 => k_mem); (case k3 => k_asm); k_whole); walk_say "IN ints"))
local macro_rules | `(tactic| walk_at "compareOp NotIn int ref") => `(tactic| (k_here; k_dflt (refine' notin_ints ?k1 ?k2 ?k3 ?_; (case k1 => k_asm); (case k2 => k_mem); (case k3 => k_asm); k_whole); walk_say "NOTIN ints"))
local macro_rules | `(tactic| walk_at "subscriptTail") => `(tactic| (k_here; (with_reducible show wpAny _ _ (subscriptTail _ _ (Value.ref _) (Value.int _ _)) _ _ _); (with_unfolding_all refine' item_src ?k1 ?k2 ?k3 ?k4 ?_ ?k6; (case k1 => k_asm); (case k2 => k_mem); (case k3 => first | assumption | omega); (case k4 => first | assumption | omega); (case k6 => with_unfolding_all rfl); k_whole); walk_say "ITEM src"))
local macro_rules | `(tactic| walk_at "subscriptTail Name Constant ref int") => `(tactic| (k_here; (with_unfolding_all refine' item0 ?k1 ?k2 ?k3 ?_ ?k6; (case k1 => k_asm); (case k2 => k_mem); (case k3 => assumption); (case k6 => with_unfolding_all rfl); k_whole); walk_say "ITEM 0"))

variable {w : World} {h₀ : Heap} {L fa : Addr} {cd : Value} {m : Str → Option Value} {news : List (Addr × Obj)} {s : Shared} {mean : ExcName → Option Value} {mg mb : Str → Option Value}
  {σ δ : Nat → Addr} {sl an gl fd : Addr} {Xs : List (Addr × Obj)} {D : Nat → Src} {par : Nat → Nat} {q : Nat} {hs : List Nat} {ha : Nat → Addr} {had : Nat → List Nat} {kvs : List (Int × Value)} {hf rank : Nat → Nat} {v : Value}

local macro_rules | `(tactic| k_handed) => `(tactic| assumption)

theorem mkSrc {Q : Value → Shared → Prop} {E : Value → Shared → Prop} {m : Str → Option Value} {v : Value} (B : Below callerA h₀ [] h₀) (F : Fr h₀ L s.heap m) (X : (hd.heap_39 w.params).In h₀) (N : News h₀ L s.heap news) (T : Top hd.view_39 (looseW hd.view_39 []) mean mg mb h₀)
    (ret : ∀ x d t1 t2 t3 t4 t5 h' tk', Fr h₀ L h' m → News h₀ L h' ((x, instObj 102 d) :: (d, dic w ⟨v, .none, .none, .none, .none, t1, t2, t3, t4, t5⟩) :: news) → (∀ p ∈ news, p.1 < d) → d < x → Q (.ref x) { s with heap := h', toks := tk' }) :
    wpAny (model PySem.Challenge.rw_kn0108_01.row.prog w) (lawA L fa cd) (call (.ref 102) [v]) Q E s := by
  revert X; k_fill; intro X
  w_on
  dsimp only [lawA, lawEnv, lawBS]
  k_steps
  exact ret _ _ _ _ _ _ _ _ _ (by assumption) (by assumption) (by assumption) (by assumption)
theorem mkSrc0 {Q : Value → Shared → Prop} {E : Value → Shared → Prop} {m : Str → Option Value} (B : Below callerA h₀ [] h₀) (F : Fr h₀ L s.heap m) (X : (hd.heap_39 w.params).In h₀) (N : News h₀ L s.heap news) (T : Top hd.view_39 (looseW hd.view_39 []) mean mg mb h₀)
    (ret : ∀ x d t1 t2 t3 t4 t5 h' tk', Fr h₀ L h' m → News h₀ L h' ((x, instObj 102 d) :: (d, dic w ⟨.none, .none, .none, .none, .none, t1, t2, t3, t4, t5⟩) :: news) → (∀ p ∈ news, p.1 < d) → d < x → Q (.ref x) { s with heap := h', toks := tk' }) :
    wpAny (model PySem.Challenge.rw_kn0108_01.row.prog w) (lawA L fa cd) (call (.ref 102) []) Q E s := by
  revert X; k_fill; intro X
  w_on
  dsimp only [lawA, lawEnv, lawBS]
  k_steps
  exact ret _ _ _ _ _ _ _ _ _ (by assumption) (by assumption) (by assumption) (by assumption)
end
end Mine
end

-- part 24
section
open PySem PySem.W PySem.Calls PyProof.Rows PyProof.V PySem.Spec
set_option Elab.async false
set_option maxRecDepth 100000
namespace Mine
section
set_option maxHeartbeats 4000000
local macro_rules | `(tactic| k_mem) => `(tactic| ((show Membership.mem (γ := List (Addr × Obj)) _ _); with_reducible assumption))
local macro_rules | `(tactic| walk_at "call ref") => `(tactic| (k_here; (with_reducible show wpAny _ _ (call (Value.ref 57) _ _) _ _ _); k_dflt (refine' getSys ?k1 ?k2 ?k3 ?k4 ?k5 ?k6 ?k7 ?k8 ?k9 ?k10 ?_; (case k1 => k_asm); (case k2 => k_asm); (case k3 => k_asm); (case k4 => k_asm); (case k5 => k_asm); (case k6 => first | exact rfl | assumption); (case k7 => ktr_room); (case k8 => k_mem); (case k9 => k_mem); (case k10 => first | k_handed | assumption); k_whole); intro h' tk' F' N'; (try dsimp only); (try k_sweep); walk_say "CONTRACT getSys"))
local macro_rules | `(tactic| walk_at "call ref") => `(tactic| (k_here; (with_reducible show wpAny _ _ (call (Value.ref 43) _ _) _ _ _); k_dflt (refine' getPub ?k1 ?k2 ?k3 ?k4 ?k5 ?k6 ?k7 ?k8 ?k9 ?k10 ?_; (case k1 => k_asm); (case k2 => k_asm); (case k3 => k_asm); (case k4 => k_asm); (case k5 => k_asm); (case k6 => first | exact rfl | assumption); (case k7 => ktr_room); (case k8 => k_mem); (case k9 => k_mem); (case k10 => first | k_handed | assumption); k_whole); intro h' tk' F' N'; (try dsimp only); (try k_sweep); walk_say "CONTRACT getPub"))
local macro_rules | `(tactic| walk_at "call ref") => `(tactic| (k_here; (with_reducible show wpAny _ _ (call (Value.ref 71) _ _) _ _ _); k_dflt (refine' getEnc ?k1 ?k2 ?k3 ?k4 ?k5 ?k6 ?k7 ?k8 ?k9 ?k10 ?_; (case k1 => k_asm); (case k2 => k_asm); (case k3 => k_asm); (case k4 => k_asm); (case k5 => k_asm); (case k6 => first | exact rfl | assumption); (case k7 => ktr_room); (case k8 => k_mem); (case k9 => k_mem); (case k10 => first | k_handed | assumption); k_whole); intro h' tk' F' N'; (try dsimp only); (try k_sweep); walk_say "CONTRACT getEnc"))
local macro_rules | `(tactic| walk_at "call ref") => `(tactic| (k_here; (with_reducible show wpAny _ _ (call (Value.ref 85) _ _) _ _ _); k_dflt (refine' getByt ?k1 ?k2 ?k3 ?k4 ?k5 ?k6 ?k7 ?k8 ?k9 ?k10 ?_; (case k1 => k_asm); (case k2 => k_asm); (case k3 => k_asm); (case k4 => k_asm); (case k5 => k_asm); (case k6 => first | exact rfl | assumption); (case k7 => ktr_room); (case k8 => k_mem); (case k9 => k_mem); (case k10 => first | k_handed | assumption); k_whole); intro h' tk' F' N'; (try dsimp only); (try k_sweep); walk_say "CONTRACT getByt"))
local macro_rules | `(tactic| walk_at "call ref") => `(tactic| (k_here; (with_reducible show wpAny _ _ (call (Value.ref 99) _ _) _ _ _); k_dflt (refine' getChr ?k1 ?k2 ?k3 ?k4 ?k5 ?k6 ?k7 ?k8 ?k9 ?k10 ?_; (case k1 => k_asm); (case k2 => k_asm); (case k3 => k_asm); (case k4 => k_asm); (case k5 => k_asm); (case k6 => first | exact rfl | assumption); (case k7 => ktr_room); (case k8 => k_mem); (case k9 => k_mem); (case k10 => first | k_handed | assumption); k_whole); intro h' tk' F' N'; (try dsimp only); (try k_sweep); walk_say "CONTRACT getChr"))
local macro_rules | `(tactic| walk_at "call ref") => `(tactic| (k_here; (with_reducible show wpAny _ _ (call (Value.ref 50) _ _) _ _ _); k_dflt (refine' setSys ?k1 ?k2 ?k3 ?k4 ?k5 ?k6 ?k7 ?k8 ?k9 ?k10 ?_; (case k1 => k_asm); (case k2 => k_asm); (case k3 => k_asm); (case k4 => k_asm); (case k5 => k_asm); (case k6 => first | exact rfl | assumption); (case k7 => ktr_room); (case k8 => k_mem); (case k9 => k_mem); (case k10 => k_upd); k_whole); intro h' tk' F' N'; (try dsimp only); (try k_sweep); walk_say "CONTRACT setSys"))
local macro_rules | `(tactic| walk_at "call ref") => `(tactic| (k_here; (with_reducible show wpAny _ _ (call (Value.ref 36) _ _) _ _ _); k_dflt (refine' setPub ?k1 ?k2 ?k3 ?k4 ?k5 ?k6 ?k7 ?k8 ?k9 ?k10 ?_; (case k1 => k_asm); (case k2 => k_asm); (case k3 => k_asm); (case k4 => k_asm); (case k5 => k_asm); (case k6 => first | exact rfl | assumption); (case k7 => ktr_room); (case k8 => k_mem); (case k9 => k_mem); (case k10 => k_upd); k_whole); intro h' tk' F' N'; (try dsimp only); (try k_sweep); walk_say "CONTRACT setPub"))
local macro_rules | `(tactic| walk_at "call ref") => `(tactic| (k_here; (with_reducible show wpAny _ _ (call (Value.ref 64) _ _) _ _ _); k_dflt (refine' setEnc ?k1 ?k2 ?k3 ?k4 ?k5 ?k6 ?k7 ?k8 ?k9 ?k10 ?_; (case k1 => k_asm); (case k2 => k_asm); (case k3 => k_asm); (case k4 => k_asm); (case k5 => k_asm); (case k6 => first | exact rfl | assumption); (case k7 => ktr_room); (case k8 => k_mem); (case k9 => k_mem); (case k10 => k_upd); k_whole); intro h' tk' F' N'; (try dsimp only); (try k_sweep); walk_say "CONTRACT setEnc"))
local macro_rules | `(tactic| walk_at "call ref") => `(tactic| (k_here; (with_reducible show wpAny _ _ (call (Value.ref 78) _ _) _ _ _); k_dflt (refine' setByt ?k1 ?k2 ?k3 ?k4 ?k5 ?k6 ?k7 ?k8 ?k9 ?k10 ?_; (case k1 => k_asm); (case k2 => k_asm); (case k3 => k_asm); (case k4 => k_asm); (case k5 => k_asm); (case k6 => first | exact rfl | assumption); (case k7 => ktr_room); (case k8 => k_mem); (case k9 => k_mem); (case k10 => k_upd); k_whole); intro h' tk' F' N'; (try dsimp only); (try k_sweep); walk_say "CONTRACT setByt"))
local macro_rules | `(tactic| walk_at "call ref") => `(tactic| (k_here; (with_reducible show wpAny _ _ (call (Value.ref 92) _ _) _ _ _); k_dflt (refine' setChr ?k1 ?k2 ?k3 ?k4 ?k5 ?k6 ?k7 ?k8 ?k9 ?k10 ?_; (case k1 => k_asm); (case k2 => k_asm); (case k3 => k_asm); (case k4 => k_asm); (case k5 => k_asm); (case k6 => first | exact rfl | assumption); (case k7 => ktr_room); (case k8 => k_mem); (case k9 => k_mem); (case k10 => k_upd); k_whole); intro h' tk' F' N'; (try dsimp only); (try k_sweep); walk_say "CONTRACT setChr"))
local macro_rules | `(tactic| walk_at "call builtin:list.append") => `(tactic| (k_here; (with_reducible show wpAny _ _ (call (Value.builtin _) [Value.ref _, Value.none]) _ _ _); k_dflt (refine' append_none ?k1 ?k2 ?k3 ?k4 ?_; (case k1 => k_asm); (case k2 => k_asm); (case k3 => k_upd); (case k4 => first | assumption | omega); k_whole); intro h' F' N'; (try dsimp only); (try k_sweep); walk_say "APPEND none"))
local macro_rules | `(tactic| walk_at "call builtin:list.extend") => `(tactic| (k_here; (with_reducible show wpAny _ _ (call (Value.builtin _) [Value.ref _, Value.ref _]) _ _ _); k_dflt (refine' extend_none ?k1 ?k2 ?k3 ?k4 ?k5 ?k6 ?_; (case k1 => k_asm); (case k2 => k_asm); (case k3 => k_updF); (case k4 => k_mem); (case k5 => rfl); (case k6 => first | assumption | omega | (show _ + 2 ≤ _; omega) | (show _ + 5 ≤ _; omega)); k_whole); intro h' n' F' N'; (try dsimp only at N'); (try k_sweep); walk_say "EXTEND none"))
local macro_rules | `(tactic| walk_at "compareOp In int ref") => `(tactic| (k_here; k_dflt (refine' in_ints ?k1 ?k2 ?k3 ?_; (case k1 => k_asm); (case k2 => k_mem); (case k3 => k_asm); k_whole); walk_say "IN ints"))
local macro_rules | `(tactic| walk_at "compareOp NotIn int ref") => `(tactic| (k_here; k_dflt (refine' notin_ints ?k1 ?k2 ?k3 ?_; (case k1 => k_asm); (case k2 => k_mem); (case k3 => k_asm); k_whole); walk_say "NOTIN ints"))
local macro_rules | `(tactic| walk_at "subscriptTail") => `(tactic| (k_here; (with_reducible show wpAny _ _ (subscriptTail _ _ (Value.ref _) (Value.int _ _)) _ _ _); (with_unfolding_all refine' item_src ?k1 ?k2 ?k3 ?k4 ?_ ?k6; (case k1 => k_asm); (case k2 => k_mem); (case k3 => first | assumption | omega); (case k4 => first | assumption | omega); (case k6 => with_unfolding_all rfl); k_whole); walk_say "ITEM src"))
local macro_rules | `(tactic| walk_at "subscriptTail Name Constant ref int") => `(tactic| (k_here; (with_unfolding_all refine' item0 ?k1 ?k2 ?k3 ?_ ?k6; (case k1 => k_asm); (case k2 => k_mem); (case k3 => assumption); (case k6 => with_unfolding_all rfl); k_whole); walk_say "ITEM 0"))

variable {w : World} {h₀ : Heap} {L fa : Addr} {cd : Value} {m : Str → Option Value} {news : List (Addr × Obj)} {s : Shared} {mean : ExcName → Option Value} {mg mb : Str → Option Value}
  {σ δ : Nat → Addr} {sl an gl fd : Addr} {Xs : List (Addr × Obj)} {D : Nat → Src} {par : Nat → Nat} {q : Nat} {hs : List Nat} {ha : Nat → Addr} {had : Nat → List Nat} {kvs : List (Int × Value)} {hf rank : Nat → Nat} {v : Value}
local macro_rules | `(tactic| walk_at "call ref") => `(tactic| (k_here; (with_reducible show wpAny _ _ (call (Value.ref 127) _ _) _ _ _); k_dflt (refine' told ?k1 ?k2 ?k3 ?k4 ?k5 ?k6 ?k7 ?k8 ?k9 ?k10 ?k11 ?k12 ?k13 ?k14 ?_; (case k1 => k_asm); (case k2 => k_asm); (case k3 => k_asm); (case k4 => k_asm); (case k5 => k_asm); (case k6 => first | exact rfl | assumption); (case k7 => ktr_room); (case k8 => k_mem); (case k9 => k_mem); (case k10 => exact rfl); (case k11 => exact rfl); (case k12 => exact rfl); (case k13 => exact rfl); (case k14 => exact rfl); k_whole); intro l' h' tk' F' N' l1; (try dsimp only); (try dsimp only at N'); (try k_lt l1); (try k_sweep); walk_say "CONTRACT told"))
local macro_rules | `(tactic| walk_at "binaryOp Mult ref int") => `(tactic| (k_here; (with_reducible show wpAny _ _ (binaryOp Operator.Mult (Value.ref _) (Value.int _ _)) _ _ _); k_dflt (refine' KMa.mul (vs := [_]) (ws := [_, _, _, _, _]) ?F ?N ?l ?lo ?hi ?z ?e ?_; (case F => k_asm); (case N => k_asm); (case l => is_list); (case lo => decide); (case hi => decide); (case z => exact (show (1 : Nat) * 5 ≤ 256 by decide)); (case e => exact rfl); k_whole); intro D' h' F' N' l1; (try k_lt l1); (try k_sweep)))

theorem washed {Q E : Value → Shared → Prop} {m : Str → Option Value} {x dx : Addr} {c : Src} {rest : List (Addr × Obj)} (B : Below callerA h₀ [] h₀) (F : Fr h₀ L s.heap m) (X : (hd.heap_39 w.params).In h₀) (N : News h₀ L s.heap ((x, instObj 102 dx) :: (dx, dic w c) :: rest)) (T : Top hd.view_39 (looseW hd.view_39 []) mean mg mb h₀)
    (off : OwnOff rest [x, dx]) (ne : @Ne Nat x dx)
    (ret : ∀ h' tk' c', Fr h₀ L h' m → News h₀ L h' ((x, instObj 102 dx) :: (dx, dic w c') :: rest) →
      Q (.bool true) { s with heap := h', toks := tk' }) :
    wpAny (model PySem.Challenge.rw_kn0108_01.row.prog w) (lawA L fa cd) (call (.ref 134) [.ref x]) Q E s := by
  revert X; k_fill; intro X
  w_on
  dsimp only [lawA, lawEnv, lawBS]
  k_steps
  rename Fr _ _ _ _ => F1
  rename News _ _ _ _ => N1
  rename _ ∧ _ ∧ AllLt _ _ => l1
  obtain ⟨q1, q2, q3⟩ := l1
  have q4 := of_allLt q3
  refine iter_listUnr (vs := [_, _, _]) (by rfl) F1 N1 (.head _) rfl rfl ?_
  intro I hI
  have i1 : @Ne Nat _ I := Nat.ne_of_lt (hI _ (.head _))
  have i2 : @Ne Nat x I := Nat.ne_of_lt (hI _ (.tail _ (.head _)))
  have i3 : @Ne Nat dx I := Nat.ne_of_lt (hI _ (.tail _ (.tail _ (.head _))))
  have off2 : OwnOff rest [x, dx, _, I] := off4 off q4 (fun p hp => Nat.ne_of_lt (hI p (.tail _ (.tail _ (.tail _ hp)))))
  have q5 : @Ne Nat x _ := Nat.ne_of_lt q1
  have q6 : @Ne Nat dx _ := Nat.ne_of_lt q2
  clear hI off q3 q4
  k_steps
  rename Fr _ _ _ _ => F5
  rename News _ _ _ _ => N5
  refine ⟨_, _, _, (_, W.listOf #[_, _, _] 0) :: (x, instObj 102 dx) :: (dx, dic w _) :: rest, rfl, F5, (fun p hp => N5 p (.tail _ (.tail _ (.tail _ (.tail _ (.tail _ (.tail _ hp))))))), ?_, .head _, ?_⟩
  · intro p hp
    simp only [List.mem_cons] at hp
    rcases hp with rfl | rfl | rfl | hp
    · exact i1
    · exact i2
    · exact i3
    · exact off2 p hp I (.tail _ (.tail _ (.tail _ (.head _))))
  refine ListRest.succ ?_
  intro it2 h2 tk2 hc2 F2 N2
  clear F5 N5
  k_steps
  rename Fr _ _ _ _ => F5
  rename News _ _ _ _ => N5
  refine ⟨_, _, _, (_, W.listOf #[_, _, _] 0) :: (x, instObj 102 dx) :: (dx, dic w _) :: rest, rfl, F5, (fun p hp => N5 p (.tail _ (.tail _ (.tail _ (.tail _ (.tail _ (.tail _ hp))))))), ?_, .head _, ?_⟩
  · intro p hp
    simp only [List.mem_cons] at hp
    rcases hp with rfl | rfl | rfl | hp
    · exact i1
    · exact i2
    · exact i3
    · exact off2 p hp I (.tail _ (.tail _ (.tail _ (.head _))))
  refine ListRest.succ ?_
  intro it2 h2 tk2 hc2 F2 N2
  clear F5 N5
  k_steps
  rename Fr _ _ _ _ => F5
  rename News _ _ _ _ => N5
  refine ⟨_, _, _, (_, W.listOf #[_, _, _] 0) :: (x, instObj 102 dx) :: (dx, dic w _) :: rest, rfl, F5, (fun p hp => N5 p (.tail _ (.tail _ (.tail _ (.tail _ (.tail _ (.tail _ hp))))))), ?_, .head _, ?_⟩
  · intro p hp
    simp only [List.mem_cons] at hp
    rcases hp with rfl | rfl | rfl | hp
    · exact i1
    · exact i2
    · exact i3
    · exact off2 p hp I (.tail _ (.tail _ (.tail _ (.head _))))
  refine ListRest.zero ?_
  intro h2 tk2 F2 N2
  clear F5 N5
  k_steps
  rename Fr h₀ _ _ _ => F9
  rename News h₀ _ _ _ => N9
  exact ret _ _ _ F9 (fun p hp => N9 p (.tail _ hp))
end
end Mine
end

-- part 25
section
open PySem PySem.W PySem.Calls PyProof.Rows PyProof.V PySem.Spec
set_option Elab.async false
set_option maxRecDepth 100000
namespace Mine
section
set_option maxHeartbeats 4000000
local macro_rules | `(tactic| k_mem) => `(tactic| ((show Membership.mem (γ := List (Addr × Obj)) _ _); with_reducible assumption))
local macro_rules | `(tactic| walk_at "call ref") => `(tactic| (k_here; (with_reducible show wpAny _ _ (call (Value.ref 57) _ _) _ _ _); k_dflt (refine' getSys ?k1 ?k2 ?k3 ?k4 ?k5 ?k6 ?k7 ?k8 ?k9 ?k10 ?_; (case k1 => k_asm); (case k2 => k_asm); (case k3 => k_asm); (case k4 => k_asm); (case k5 => k_asm); (case k6 => first | exact rfl | assumption); (case k7 => ktr_room); (case k8 => k_mem); (case k9 => k_mem); (case k10 => first | k_handed | assumption); k_whole); intro h' tk' F' N'; (try dsimp only); (try k_sweep); walk_say "CONTRACT getSys"))
local macro_rules | `(tactic| walk_at "call ref") => `(tactic| (k_here; (with_reducible show wpAny _ _ (call (Value.ref 43) _ _) _ _ _); k_dflt (refine' getPub ?k1 ?k2 ?k3 ?k4 ?k5 ?k6 ?k7 ?k8 ?k9 ?k10 ?_; (case k1 => k_asm); (case k2 => k_asm); (case k3 => k_asm); (case k4 => k_asm); (case k5 => k_asm); (case k6 => first | exact rfl | assumption); (case k7 => ktr_room); (case k8 => k_mem); (case k9 => k_mem); (case k10 => first | k_handed | assumption); k_whole); intro h' tk' F' N'; (try dsimp only); (try k_sweep); walk_say "CONTRACT getPub"))
local macro_rules | `(tactic| walk_at "call ref") => `(tactic| (k_here; (with_reducible show wpAny _ _ (call (Value.ref 71) _ _) _ _ _); k_dflt (refine' getEnc ?k1 ?k2 ?k3 ?k4 ?k5 ?k6 ?k7 ?k8 ?k9 ?k10 ?_; (case k1 => k_asm); (case k2 => k_asm); (case k3 => k_asm); (case k4 => k_asm); (case k5 => k_asm); (case k6 => first | exact rfl | assumption); (case k7 => ktr_room); (case k8 => k_mem); (case k9 => k_mem); (case k10 => first | k_handed | assumption); k_whole); intro h' tk' F' N'; (try dsimp only); (try k_sweep); walk_say "CONTRACT getEnc"))
local macro_rules | `(tactic| walk_at "call ref") => `(tactic| (k_here; (with_reducible show wpAny _ _ (call (Value.ref 85) _ _) _ _ _); k_dflt (refine' getByt ?k1 ?k2 ?k3 ?k4 ?k5 ?k6 ?k7 ?k8 ?k9 ?k10 ?_; (case k1 => k_asm); (case k2 => k_asm); (case k3 => k_asm); (case k4 => k_asm); (case k5 => k_asm); (case k6 => first | exact rfl | assumption); (case k7 => ktr_room); (case k8 => k_mem); (case k9 => k_mem); (case k10 => first | k_handed | assumption); k_whole); intro h' tk' F' N'; (try dsimp only); (try k_sweep); walk_say "CONTRACT getByt"))
local macro_rules | `(tactic| walk_at "call ref") => `(tactic| (k_here; (with_reducible show wpAny _ _ (call (Value.ref 99) _ _) _ _ _); k_dflt (refine' getChr ?k1 ?k2 ?k3 ?k4 ?k5 ?k6 ?k7 ?k8 ?k9 ?k10 ?_; (case k1 => k_asm); (case k2 => k_asm); (case k3 => k_asm); (case k4 => k_asm); (case k5 => k_asm); (case k6 => first | exact rfl | assumption); (case k7 => ktr_room); (case k8 => k_mem); (case k9 => k_mem); (case k10 => first | k_handed | assumption); k_whole); intro h' tk' F' N'; (try dsimp only); (try k_sweep); walk_say "CONTRACT getChr"))
local macro_rules | `(tactic| walk_at "call ref") => `(tactic| (k_here; (with_reducible show wpAny _ _ (call (Value.ref 50) _ _) _ _ _); k_dflt (refine' setSys ?k1 ?k2 ?k3 ?k4 ?k5 ?k6 ?k7 ?k8 ?k9 ?k10 ?_; (case k1 => k_asm); (case k2 => k_asm); (case k3 => k_asm); (case k4 => k_asm); (case k5 => k_asm); (case k6 => first | exact rfl | assumption); (case k7 => ktr_room); (case k8 => k_mem); (case k9 => k_mem); (case k10 => k_upd); k_whole); intro h' tk' F' N'; (try dsimp only); (try k_sweep); walk_say "CONTRACT setSys"))
local macro_rules | `(tactic| walk_at "call ref") => `(tactic| (k_here; (with_reducible show wpAny _ _ (call (Value.ref 36) _ _) _ _ _); k_dflt (refine' setPub ?k1 ?k2 ?k3 ?k4 ?k5 ?k6 ?k7 ?k8 ?k9 ?k10 ?_; (case k1 => k_asm); (case k2 => k_asm); (case k3 => k_asm); (case k4 => k_asm); (case k5 => k_asm); (case k6 => first | exact rfl | assumption); (case k7 => ktr_room); (case k8 => k_mem); (case k9 => k_mem); (case k10 => k_upd); k_whole); intro h' tk' F' N'; (try dsimp only); (try k_sweep); walk_say "CONTRACT setPub"))
local macro_rules | `(tactic| walk_at "call ref") => `(tactic| (k_here; (with_reducible show wpAny _ _ (call (Value.ref 64) _ _) _ _ _); k_dflt (refine' setEnc ?k1 ?k2 ?k3 ?k4 ?k5 ?k6 ?k7 ?k8 ?k9 ?k10 ?_; (case k1 => k_asm); (case k2 => k_asm); (case k3 => k_asm); (case k4 => k_asm); (case k5 => k_asm); (case k6 => first | exact rfl | assumption); (case k7 => ktr_room); (case k8 => k_mem); (case k9 => k_mem); (case k10 => k_upd); k_whole); intro h' tk' F' N'; (try dsimp only); (try k_sweep); walk_say "CONTRACT setEnc"))
local macro_rules | `(tactic| walk_at "call ref") => `(tactic| (k_here; (with_reducible show wpAny _ _ (call (Value.ref 78) _ _) _ _ _); k_dflt (refine' setByt ?k1 ?k2 ?k3 ?k4 ?k5 ?k6 ?k7 ?k8 ?k9 ?k10 ?_; (case k1 => k_asm); (case k2 => k_asm); (case k3 => k_asm); (case k4 => k_asm); (case k5 => k_asm); (case k6 => first | exact rfl | assumption); (case k7 => ktr_room); (case k8 => k_mem); (case k9 => k_mem); (case k10 => k_upd); k_whole); intro h' tk' F' N'; (try dsimp only); (try k_sweep); walk_say "CONTRACT setByt"))
local macro_rules | `(tactic| walk_at "call ref") => `(tactic| (k_here; (with_reducible show wpAny _ _ (call (Value.ref 92) _ _) _ _ _); k_dflt (refine' setChr ?k1 ?k2 ?k3 ?k4 ?k5 ?k6 ?k7 ?k8 ?k9 ?k10 ?_; (case k1 => k_asm); (case k2 => k_asm); (case k3 => k_asm); (case k4 => k_asm); (case k5 => k_asm); (case k6 => first | exact rfl | assumption); (case k7 => ktr_room); (case k8 => k_mem); (case k9 => k_mem); (case k10 => k_upd); k_whole); intro h' tk' F' N'; (try dsimp only); (try k_sweep); walk_say "CONTRACT setChr"))
local macro_rules | `(tactic| walk_at "call builtin:list.append") => `(tactic| (k_here; (with_reducible show wpAny _ _ (call (Value.builtin _) [Value.ref _, Value.none]) _ _ _); k_dflt (refine' append_none ?k1 ?k2 ?k3 ?k4 ?_; (case k1 => k_asm); (case k2 => k_asm); (case k3 => k_upd); (case k4 => first | assumption | omega); k_whole); intro h' F' N'; (try dsimp only); (try k_sweep); walk_say "APPEND none"))
local macro_rules | `(tactic| walk_at "call builtin:list.extend") => `(tactic| (k_here; (with_reducible show wpAny _ _ (call (Value.builtin _) [Value.ref _, Value.ref _]) _ _ _); k_dflt (refine' extend_none ?k1 ?k2 ?k3 ?k4 ?k5 ?k6 ?_; (case k1 => k_asm); (case k2 => k_asm); (case k3 => k_updF); (case k4 => k_mem); (case k5 => rfl); (case k6 => first | assumption | omega | (show _ + 2 ≤ _; omega) | (show _ + 5 ≤ _; omega)); k_whole); intro h' n' F' N'; (try dsimp only at N'); (try k_sweep); walk_say "EXTEND none"))
local macro_rules | `(tactic| walk_at "compareOp In int ref") => `(tactic| (k_here; k_dflt (refine' in_ints ?k1 ?k2 ?k3 ?_; (case k1 => k_asm); (case k2 => k_mem); (case k3 => k_asm); k_whole); walk_say "IN ints"))
local macro_rules | `(tactic| walk_at "compareOp NotIn int ref") => `(tactic| (k_here; k_dflt (refine' notin_ints ?k1 ?k2 ?k3 ?_; (case k1 => k_asm); (case k2 => k_mem); (case k3 => k_asm); k_whole); walk_say "NOTIN ints"))
local macro_rules | `(tactic| walk_at "subscriptTail") => `(tactic| (k_here; (with_reducible show wpAny _ _ (subscriptTail _ _ (Value.ref _) (Value.int _ _)) _ _ _); (with_unfolding_all refine' item_src ?k1 ?k2 ?k3 ?k4 ?_ ?k6; (case k1 => k_asm); (case k2 => k_mem); (case k3 => first | assumption | omega); (case k4 => first | assumption | omega); (case k6 => with_unfolding_all rfl); k_whole); walk_say "ITEM src"))
local macro_rules | `(tactic| walk_at "subscriptTail Name Constant ref int") => `(tactic| (k_here; (with_unfolding_all refine' item0 ?k1 ?k2 ?k3 ?_ ?k6; (case k1 => k_asm); (case k2 => k_mem); (case k3 => assumption); (case k6 => with_unfolding_all rfl); k_whole); walk_say "ITEM 0"))

variable {w : World} {h₀ : Heap} {L fa : Addr} {cd : Value} {m : Str → Option Value} {news : List (Addr × Obj)} {s : Shared} {mean : ExcName → Option Value} {mg mb : Str → Option Value}
  {σ δ : Nat → Addr} {sl an gl fd : Addr} {Xs : List (Addr × Obj)} {D : Nat → Src} {par : Nat → Nat} {q : Nat} {hs : List Nat} {ha : Nat → Addr} {had : Nat → List Nat} {kvs : List (Int × Value)} {hf rank : Nat → Nat} {v : Value}
local macro_rules | `(tactic| walk_at "pyIter ref") => `(tactic| (refine Halt.mk ?_))
local macro_rules | `(tactic| walk_at "subscriptTail") => `(tactic| (refine Halt.mk ?_))
local macro_rules | `(tactic| walk_at "call ref") => `(tactic| ((with_reducible show wpAny _ _ (call (Value.ref 102) _ _) _ _ _); refine Halt.mk ?_))
local macro_rules | `(tactic| walk_at "call builtin:list.append") => `(tactic| (refine Halt.mk ?_))

abbrev s0 : { x : Stmt // lawBS.1.1[0]? = some x } := ⟨_, rfl⟩
abbrev s1 : { x : Stmt // lawBS.1.1[1]? = some x } := ⟨_, rfl⟩
abbrev frmA (sl an sc : Addr) (u : Str → Option Value) : Str → Option Value := fun y =>
  if y = Str.ofString "sources" then some (.ref sl) else if y = Str.ofString "answers" then some (.ref an) else if y = Str.ofString "script" then some (.ref sc) else u y
theorem to_frmA {h : Heap} {sc : Addr} {m : Str → Option Value} (F : Fr h₀ L h m) (h1 : m (Str.ofString "sources") = some (.ref sl)) (h2 : m (Str.ofString "answers") = some (.ref an)) (h3 : m (Str.ofString "script") = some (.ref sc)) : Fr h₀ L h (frmA sl an sc m) := by
  have e : m = frmA sl an sc m := by
    funext y
    unfold frmA
    split
    · rename_i e; rw [e]; exact h1
    · split
      · rename_i e; rw [e]; exact h2
      · split
        · rename_i e; rw [e]; exact h3
        · rfl
  rw [← e]; exact F
def srcsN (σ : Nat → Addr) (n : Nat) : Array Value := ((List.range n).map fun j => Value.ref (σ j)).toArray
theorem srcsN_at (σ : Nat → Addr) {n i : Nat} (h : i < n) : (srcsN σ n)[i]? = some (.ref (σ i)) := by simp [srcsN, h]
theorem srcsN_size (σ : Nat → Addr) (n : Nat) : (srcsN σ n).size = n := by simp [srcsN]
theorem srcsN_push (σ : Nat → Addr) (x : Addr) (n : Nat) : (srcsN σ n).push (.ref x) = srcsN (fun j => if j = n then x else σ j) (n + 1) := by
  have e : ((List.range n).map fun j => Value.ref (σ j)) = (List.range n).map fun j => Value.ref (if j = n then x else σ j) := by
    refine List.map_congr_left fun j hj => ?_
    rw [if_neg (by have := List.mem_range.mp hj; omega)]
  unfold srcsN
  rw [List.range_succ, List.map_append, ← e]
  simp
theorem item_n {prog : Program} {w : World} {A : Around} {E : Value → Shared → Prop} {s : Shared} {h₀ : Heap} {L sl : Addr} {c : Nat} {its : Array Value} {v : Value} {news : List (Addr × Obj)} {value slice : PySem.Expr} {k : Int} {u : Tok} {Q : Value → Shared → Prop} (N : News h₀ L s.heap news) (hm : (sl, W.listOf its c) ∈ news)
    (h0 : 0 ≤ k) (h8 : k < 8) (hv : its[k.toNat]? = some v) (h : Q v s)
    (hs : subscripted slice false (.ref sl) (.int k u) = operate [.ref sl, .int k u] (getItem (.ref sl) (.int k u)) := by with_unfolding_all rfl) :
    wpAny (model prog w) A (subscriptTail value slice (.ref sl) (.int k u)) Q E s :=
  have hl : s.heap.IsList sl its := ⟨_, N.get hm, rfl, c, rfl⟩
  tail_any hl.typeIs slot_list_getitem.lookup (wpAny_getItem_list hl h0 (by omega) hv h) hs
structure Plain (σ : Nat → Addr) (C : Nat → Src) (j : Nat) : Prop where
  sys : (C j).sys = if j = 0 then .none else .ref (σ (j - 1))
  pub : (C j).pub = .none
  enc : (C j).enc = .none
  byt : (C j).byt = .none
  chr : (C j).chr = .none
structure MkJ (w : World) (sl : Addr) (news₀ : List (Addr × Obj)) (i : Nat) (news : List (Addr × Obj)) (σ δ : Nat → Addr) (C : Nat → Src) (r : Nat) : Prop where
  src : (sl, W.listOf (srcsN σ (i + 1)) r) ∈ news
  has : ∀ j, j ≤ i → (σ j, instObj 102 (δ j)) ∈ news ∧ (δ j, dic w (C j)) ∈ news
  val : ∀ j, j ≤ i → Plain σ C j
  s : ∀ j k, j ≤ i → k ≤ i → σ j = σ k → j = k
  d : ∀ j k, j ≤ i → k ≤ i → δ j = δ k → j = k
  keep : ∀ p ∈ news₀, p.1 ≠ sl → p ∈ news
theorem law1 {Q : Flow → Shared → Prop} {u : Str → Option Value} {sc x d : Addr} {r : Nat} {t1 t2 t3 t4 t5 : Tok} (B : Below callerA h₀ [] h₀) (F : Fr h₀ L s.heap (frmA sl an sc u)) (X : (hd.heap_39 w.params).In h₀) (N : News h₀ L s.heap news) (T : Top hd.view_39 (looseW hd.view_39 []) mean mg mb h₀)
    (h1 : (sl, W.listOf #[.ref x] r) ∈ news) (h2 : (x, instObj 102 d) ∈ news) (h3 : (d, dic w ⟨.none, .none, .none, .none, .none, t1, t2, t3, t4, t5⟩) ∈ news)
    (ret : ∀ h' tk' news' σ δ C r u', Fr h₀ L h' (frmA sl an sc u') → News h₀ L h' news' → MkJ w sl news 7 news' σ δ C r → Q .next { s with heap := h', toks := tk' }) :
    wpAny (model PySem.Challenge.rw_kn0108_01.row.prog w) (lawA L fa cd) (exec s1.1 (lawEnv L fa cd)) Q (fun _ _ => False) s := by
  revert X; k_fill; intro X
  w_on
  dsimp only [s1, lawA, lawEnv, lawBS]
  k_steps
  rename IsRange _ _ _ _ _ _ _ _ => R1
  rename News _ _ _ _ => N1
  rename Fr _ _ _ _ => F1
  refine iter_rangeJ (n := 7) (fun i news' => ∃ σ δ C r, MkJ w sl news i news' σ δ C r) (by rfl) R1 (by decide) (by decide) F1 N1 ⟨fun _ => x, fun _ => d, fun _ => ⟨.none, .none, .none, .none, .none, t1, t2, t3, t4, t5⟩, r, h1, fun j hj => ⟨h2, h3⟩, fun j hj => ?_, fun j k hj hk _ => by omega, fun j k hj hk _ => by omega, fun p hp _ => hp⟩ ?_ ?_
  · obtain rfl : j = 0 := by omega
    exact ⟨rfl, rfl, rfl, rfl, rfl⟩
  · rintro i news₁ I oI t h tk hi ⟨σ, δ, C, r', J⟩ hoff F2 N2
    clear F1 N1 R1
    have hf1 : ∀ p ∈ [(sl, W.listOf (srcsN σ (i + 1)) r')], p ∈ (I, oI) :: news₁ := by intro p hp; rw [List.mem_singleton.mp hp]; exact .tail _ J.src
    obtain ⟨N3, off⟩ := focus _ N2 hf1
    have sub := sub_focus N2 hf1
    simp only [List.cons_append, List.nil_append, List.map_cons, List.map_nil] at N3 off sub
    have dN1 : Dis news₁ := fun a b o o' h1 h2 hne => addr_ne N2 (.tail _ h1) (.tail _ h2) hne
    clear N2
    k_steps
    rename News _ _ _ _ => N4
    rename Fr _ _ _ _ => F4
    have it : ((0 : Int) + (i : Int)).toNat = i := by omega
    refine item_n N4 (.head _) (by omega) (by omega) (v := .ref (σ i)) (by rw [it]; exact srcsN_at σ (by omega)) ?_
    k_steps
    refine mkSrc B F4 X N4 T ?_
    intro x1 d1 u1 u2 u3 u4 u5 h2 tk2 F5 N5 lt1 lt2
    have z1 : @Ne Nat x1 sl := fun e => by have := lt1 _ (.head _); rw [e] at lt2; exact absurd (Nat.lt_trans this lt2) (Nat.lt_irrefl _)
    have z2 : @Ne Nat d1 sl := fun e => by have := lt1 _ (.head _); rw [e] at this; exact Nat.lt_irrefl _ this
    clear F4 N4
    k_steps
    refine append_K F5 N5 (.tail z1 (.tail z2 (.head fun p hp => off p hp _ (.head _)))) ?_ (by rw [srcsN_size, sizeLine_eq]; omega)
    intro h3 F6 N6
    rw [srcsN_push] at N6
    refine wpAny_execs_nil ?_
    show TurnEnd _ _ _ _ _ _ _ _ _
    have nI : @Ne Nat I sl := fun e => hoff _ J.src e.symm
    have hII : (I, oI) ∈ restOf [(sl, W.listOf (srcsN σ (i + 1)) r')] ((I, oI) :: news₁) := mem_rest (.head _) (by
      simp only [List.map_cons, List.map_nil, List.mem_cons, List.not_mem_nil, or_false]; exact nI)
    have inR : ∀ p ∈ news₁, p.1 ≠ sl → p ∈ restOf [(sl, W.listOf (srcsN σ (i + 1)) r')] ((I, oI) :: news₁) := fun p hp hne => mem_rest (.tail _ hp) (by
      simp only [List.map_cons, List.map_nil, List.mem_cons, List.not_mem_nil, or_false]; exact hne)
    have kp : ∀ p ∈ news₁, p.1 ≠ sl → p ∈ offI I ((x1, instObj 102 d1) :: (d1, dic w ⟨.ref (σ i), .none, .none, .none, .none, u1, u2, u3, u4, u5⟩) :: (sl, W.listOf (srcsN (fun j => if j = i + 1 then x1 else σ j) (i + 1 + 1)) (r' + 1)) :: restOf [(sl, W.listOf (srcsN σ (i + 1)) r')] ((I, oI) :: news₁)) :=
      fun p hp hne => mem_offI (.tail _ (.tail _ (.tail _ (inR p hp hne)))) (hoff p hp)
    have s1 : ∀ j, j ≤ i → @Ne Nat (σ j) sl := fun j hj => dN1 _ _ _ _ (J.has j hj).1 J.src (by simp)
    have s2 : ∀ j, j ≤ i → @Ne Nat (δ j) sl := fun j hj => dN1 _ _ _ _ (J.has j hj).2 J.src (by simp)
    have l1 : ∀ j, j ≤ i → @LT.lt Nat _ (σ j) x1 := fun j hj => Nat.lt_trans (lt1 _ (.tail _ (inR _ (J.has j hj).1 (s1 j hj)))) lt2
    have l2 : ∀ j, j ≤ i → @LT.lt Nat _ (δ j) d1 := fun j hj => lt1 _ (.tail _ (inR _ (J.has j hj).2 (s2 j hj)))
    have dI : @LT.lt Nat _ I d1 := lt1 _ (.tail _ hII)
    refine ⟨_, _, _, _, rfl, F6, news_offI N6 (.tail _ (.tail _ (.tail _ hII))), offI_ne, fun j => if j = i + 1 then x1 else σ j, fun j => if j = i + 1 then d1 else δ j, fun j => if j = i + 1 then ⟨.ref (σ i), .none, .none, .none, .none, u1, u2, u3, u4, u5⟩ else C j, r' + 1, mem_offI (.tail _ (.tail _ (.head _))) (fun e => nI e.symm), fun j hj => ?_, fun j hj => ?_, fun j k hj hk => ?_, fun j k hj hk => ?_, fun p hp hne => kp p (J.keep p hp hne) hne⟩
    · by_cases e : j = i + 1
      · simp only [if_pos e]
        exact ⟨mem_offI (.head _) (Nat.ne_of_gt (Nat.lt_trans dI lt2)), mem_offI (.tail _ (.head _)) (Nat.ne_of_gt dI)⟩
      · simp only [if_neg e]
        exact ⟨kp _ (J.has j (by omega)).1 (s1 j (by omega)), kp _ (J.has j (by omega)).2 (s2 j (by omega))⟩
    · by_cases e : j = i + 1
      · subst e
        refine ⟨?_, ?_, ?_, ?_, ?_⟩ <;> simp only [if_true]
        rw [if_neg (by omega), if_neg (by omega)]
        rfl
      · have V := J.val j (by omega)
        refine ⟨?_, ?_, ?_, ?_, ?_⟩ <;> simp only [if_neg e]
        · rw [V.sys, if_neg (show ¬ j - 1 = i + 1 by omega)]
        · exact V.pub
        · exact V.enc
        · exact V.byt
        · exact V.chr
    · by_cases e : j = i + 1 <;> by_cases e2 : k = i + 1 <;> simp only [e, e2, if_true, if_false]
      · intro _; first | rfl | trivial
      · intro h9; exact absurd h9 (Nat.ne_of_gt (l1 k (by omega)))
      · intro h9; exact absurd h9 (Nat.ne_of_lt (l1 j (by omega)))
      · intro h9; exact J.s j k (by omega) (by omega) h9
    · by_cases e : j = i + 1 <;> by_cases e2 : k = i + 1 <;> simp only [e, e2, if_true, if_false]
      · intro _; first | rfl | trivial
      · intro h9; exact absurd h9 (Nat.ne_of_gt (l2 k (by omega)))
      · intro h9; exact absurd h9 (Nat.ne_of_lt (l2 j (by omega)))
      · intro h9; exact J.d j k (by omega) (by omega) h9
  · rintro u2 h tk news₁ ⟨σ, δ, C, r', J⟩ F2 N2
    exact ret _ _ _ _ _ _ _ _ (to_frmA F2 rfl rfl rfl) N2 J
theorem law0 {Q : Flow → Shared → Prop} {E : Value → Shared → Prop} {u : Str → Option Value} {sc : Addr} (B : Below callerA h₀ [] h₀) (F : Fr h₀ L s.heap (fun y => if y = Str.ofString "script" then some (.ref sc) else u y)) (X : (hd.heap_39 w.params).In h₀) (N : News h₀ L s.heap news) (T : Top hd.view_39 (looseW hd.view_39 []) mean mg mb h₀)
    (ret : ∀ h' tk' news' sl an x d r1 r2 t1 t2 t3 t4 t5 u', Fr h₀ L h' (frmA sl an sc u') → News h₀ L h' news' → (sl, W.listOf #[.ref x] r1) ∈ news' → (an, W.listOf #[] r2) ∈ news' → (x, instObj 102 d) ∈ news' → (d, dic w ⟨.none, .none, .none, .none, .none, t1, t2, t3, t4, t5⟩) ∈ news' → sl ≠ an → (∀ p ∈ news, p ∈ news' ∧ p.1 ≠ sl ∧ p.1 ≠ an) → Q .next { s with heap := h', toks := tk' }) :
    wpAny (model PySem.Challenge.rw_kn0108_01.row.prog w) (lawA L fa cd) (exec s0.1 (lawEnv L fa cd)) Q E s := by
  revert X; k_fill; intro X
  w_on
  dsimp only [s0, lawA, lawEnv, lawBS]
  k_steps
  rename News _ _ _ _ => N1
  rename Fr _ _ _ _ => F1
  refine mkSrc0 B F1 X N1 T ?_
  intro x1 d1 u1 u2 u3 u4 u5 h2 tk2 F5 N5 lt1 lt2
  clear F1 N1
  k_steps
  rename Fr _ _ _ _ => F6
  rename News _ _ _ _ => N6
  rename _ ∧ _ ∧ AllLt _ _ => q1
  rename _ ∧ _ ∧ _ ∧ AllLt _ _ => q2
  exact ret _ _ _ _ _ _ _ _ _ _ _ _ _ _ _ F6 N6 (.tail _ (.tail _ (.head _))) (.tail _ (.head _)) (.tail _ (.tail _ (.tail _ (.head _)))) (.tail _ (.tail _ (.tail _ (.tail _ (.head _))))) (Nat.ne_of_lt q2.1)
    (fun p hp => ⟨.tail _ (.tail _ (.tail _ (.tail _ (.tail _ hp)))), Nat.ne_of_lt (of_allLt q1.2.2 p hp), Nat.ne_of_lt (of_allLt q2.2.2.2 p hp)⟩)
end
end Mine
end

-- part 26
section
open PySem PySem.W PySem.Calls PyProof.Rows PyProof.V PySem.Spec
set_option Elab.async false
set_option maxRecDepth 100000
namespace Mine
section
set_option maxHeartbeats 4000000
local macro_rules | `(tactic| k_mem) => `(tactic| ((show Membership.mem (γ := List (Addr × Obj)) _ _); with_reducible assumption))
local macro_rules | `(tactic| walk_at "call ref") => `(tactic| (k_here; (with_reducible show wpAny _ _ (call (Value.ref 57) _ _) _ _ _); k_dflt (refine' getSys ?k1 ?k2 ?k3 ?k4 ?k5 ?k6 ?k7 ?k8 ?k9 ?k10 ?_; (case k1 => k_asm); (case k2 => k_asm); (case k3 => k_asm); (case k4 => k_asm); (case k5 => k_asm); (case k6 => first | exact rfl | assumption); (case k7 => ktr_room); (case k8 => k_mem); (case k9 => k_mem); (case k10 => first | k_handed | assumption); k_whole); intro h' tk' F' N'; (try dsimp only); (try k_sweep); walk_say "CONTRACT getSys"))
local macro_rules | `(tactic| walk_at "call ref") => `(tactic| (k_here; (with_reducible show wpAny _ _ (call (Value.ref 43) _ _) _ _ _); k_dflt (refine' getPub ?k1 ?k2 ?k3 ?k4 ?k5 ?k6 ?k7 ?k8 ?k9 ?k10 ?_; (case k1 => k_asm); (case k2 => k_asm); (case k3 => k_asm); (case k4 => k_asm); (case k5 => k_asm); (case k6 => first | exact rfl | assumption); (case k7 => ktr_room); (case k8 => k_mem); (case k9 => k_mem); (case k10 => first | k_handed | assumption); k_whole); intro h' tk' F' N'; (try dsimp only); (try k_sweep); walk_say "CONTRACT getPub"))
local macro_rules | `(tactic| walk_at "call ref") => `(tactic| (k_here; (with_reducible show wpAny _ _ (call (Value.ref 71) _ _) _ _ _); k_dflt (refine' getEnc ?k1 ?k2 ?k3 ?k4 ?k5 ?k6 ?k7 ?k8 ?k9 ?k10 ?_; (case k1 => k_asm); (case k2 => k_asm); (case k3 => k_asm); (case k4 => k_asm); (case k5 => k_asm); (case k6 => first | exact rfl | assumption); (case k7 => ktr_room); (case k8 => k_mem); (case k9 => k_mem); (case k10 => first | k_handed | assumption); k_whole); intro h' tk' F' N'; (try dsimp only); (try k_sweep); walk_say "CONTRACT getEnc"))
local macro_rules | `(tactic| walk_at "call ref") => `(tactic| (k_here; (with_reducible show wpAny _ _ (call (Value.ref 85) _ _) _ _ _); k_dflt (refine' getByt ?k1 ?k2 ?k3 ?k4 ?k5 ?k6 ?k7 ?k8 ?k9 ?k10 ?_; (case k1 => k_asm); (case k2 => k_asm); (case k3 => k_asm); (case k4 => k_asm); (case k5 => k_asm); (case k6 => first | exact rfl | assumption); (case k7 => ktr_room); (case k8 => k_mem); (case k9 => k_mem); (case k10 => first | k_handed | assumption); k_whole); intro h' tk' F' N'; (try dsimp only); (try k_sweep); walk_say "CONTRACT getByt"))
local macro_rules | `(tactic| walk_at "call ref") => `(tactic| (k_here; (with_reducible show wpAny _ _ (call (Value.ref 99) _ _) _ _ _); k_dflt (refine' getChr ?k1 ?k2 ?k3 ?k4 ?k5 ?k6 ?k7 ?k8 ?k9 ?k10 ?_; (case k1 => k_asm); (case k2 => k_asm); (case k3 => k_asm); (case k4 => k_asm); (case k5 => k_asm); (case k6 => first | exact rfl | assumption); (case k7 => ktr_room); (case k8 => k_mem); (case k9 => k_mem); (case k10 => first | k_handed | assumption); k_whole); intro h' tk' F' N'; (try dsimp only); (try k_sweep); walk_say "CONTRACT getChr"))
local macro_rules | `(tactic| walk_at "call ref") => `(tactic| (k_here; (with_reducible show wpAny _ _ (call (Value.ref 50) _ _) _ _ _); k_dflt (refine' setSys ?k1 ?k2 ?k3 ?k4 ?k5 ?k6 ?k7 ?k8 ?k9 ?k10 ?_; (case k1 => k_asm); (case k2 => k_asm); (case k3 => k_asm); (case k4 => k_asm); (case k5 => k_asm); (case k6 => first | exact rfl | assumption); (case k7 => ktr_room); (case k8 => k_mem); (case k9 => k_mem); (case k10 => k_upd); k_whole); intro h' tk' F' N'; (try dsimp only); (try k_sweep); walk_say "CONTRACT setSys"))
local macro_rules | `(tactic| walk_at "call ref") => `(tactic| (k_here; (with_reducible show wpAny _ _ (call (Value.ref 36) _ _) _ _ _); k_dflt (refine' setPub ?k1 ?k2 ?k3 ?k4 ?k5 ?k6 ?k7 ?k8 ?k9 ?k10 ?_; (case k1 => k_asm); (case k2 => k_asm); (case k3 => k_asm); (case k4 => k_asm); (case k5 => k_asm); (case k6 => first | exact rfl | assumption); (case k7 => ktr_room); (case k8 => k_mem); (case k9 => k_mem); (case k10 => k_upd); k_whole); intro h' tk' F' N'; (try dsimp only); (try k_sweep); walk_say "CONTRACT setPub"))
local macro_rules | `(tactic| walk_at "call ref") => `(tactic| (k_here; (with_reducible show wpAny _ _ (call (Value.ref 64) _ _) _ _ _); k_dflt (refine' setEnc ?k1 ?k2 ?k3 ?k4 ?k5 ?k6 ?k7 ?k8 ?k9 ?k10 ?_; (case k1 => k_asm); (case k2 => k_asm); (case k3 => k_asm); (case k4 => k_asm); (case k5 => k_asm); (case k6 => first | exact rfl | assumption); (case k7 => ktr_room); (case k8 => k_mem); (case k9 => k_mem); (case k10 => k_upd); k_whole); intro h' tk' F' N'; (try dsimp only); (try k_sweep); walk_say "CONTRACT setEnc"))
local macro_rules | `(tactic| walk_at "call ref") => `(tactic| (k_here; (with_reducible show wpAny _ _ (call (Value.ref 78) _ _) _ _ _); k_dflt (refine' setByt ?k1 ?k2 ?k3 ?k4 ?k5 ?k6 ?k7 ?k8 ?k9 ?k10 ?_; (case k1 => k_asm); (case k2 => k_asm); (case k3 => k_asm); (case k4 => k_asm); (case k5 => k_asm); (case k6 => first | exact rfl | assumption); (case k7 => ktr_room); (case k8 => k_mem); (case k9 => k_mem); (case k10 => k_upd); k_whole); intro h' tk' F' N'; (try dsimp only); (try k_sweep); walk_say "CONTRACT setByt"))
local macro_rules | `(tactic| walk_at "call ref") => `(tactic| (k_here; (with_reducible show wpAny _ _ (call (Value.ref 92) _ _) _ _ _); k_dflt (refine' setChr ?k1 ?k2 ?k3 ?k4 ?k5 ?k6 ?k7 ?k8 ?k9 ?k10 ?_; (case k1 => k_asm); (case k2 => k_asm); (case k3 => k_asm); (case k4 => k_asm); (case k5 => k_asm); (case k6 => first | exact rfl | assumption); (case k7 => ktr_room); (case k8 => k_mem); (case k9 => k_mem); (case k10 => k_upd); k_whole); intro h' tk' F' N'; (try dsimp only); (try k_sweep); walk_say "CONTRACT setChr"))
local macro_rules | `(tactic| walk_at "call builtin:list.append") => `(tactic| (k_here; (with_reducible show wpAny _ _ (call (Value.builtin _) [Value.ref _, Value.none]) _ _ _); k_dflt (refine' append_none ?k1 ?k2 ?k3 ?k4 ?_; (case k1 => k_asm); (case k2 => k_asm); (case k3 => k_upd); (case k4 => first | assumption | omega); k_whole); intro h' F' N'; (try dsimp only); (try k_sweep); walk_say "APPEND none"))
local macro_rules | `(tactic| walk_at "call builtin:list.extend") => `(tactic| (k_here; (with_reducible show wpAny _ _ (call (Value.builtin _) [Value.ref _, Value.ref _]) _ _ _); k_dflt (refine' extend_none ?k1 ?k2 ?k3 ?k4 ?k5 ?k6 ?_; (case k1 => k_asm); (case k2 => k_asm); (case k3 => k_updF); (case k4 => k_mem); (case k5 => rfl); (case k6 => first | assumption | omega | (show _ + 2 ≤ _; omega) | (show _ + 5 ≤ _; omega)); k_whole); intro h' n' F' N'; (try dsimp only at N'); (try k_sweep); walk_say "EXTEND none"))
local macro_rules | `(tactic| walk_at "compareOp In int ref") => `(tactic| (k_here; k_dflt (refine' in_ints ?k1 ?k2 ?k3 ?_; (case k1 => k_asm); (case k2 => k_mem); (case k3 => k_asm); k_whole); walk_say "IN ints"))
local macro_rules | `(tactic| walk_at "compareOp NotIn int ref") => `(tactic| (k_here; k_dflt (refine' notin_ints ?k1 ?k2 ?k3 ?_; (case k1 => k_asm); (case k2 => k_mem); (case k3 => k_asm); k_whole); walk_say "NOTIN ints"))
local macro_rules | `(tactic| walk_at "subscriptTail") => `(tactic| (k_here; (with_reducible show wpAny _ _ (subscriptTail _ _ (Value.ref _) (Value.int _ _)) _ _ _); (with_unfolding_all refine' item_src ?k1 ?k2 ?k3 ?k4 ?_ ?k6; (case k1 => k_asm); (case k2 => k_mem); (case k3 => first | assumption | omega); (case k4 => first | assumption | omega); (case k6 => with_unfolding_all rfl); k_whole); walk_say "ITEM src"))
local macro_rules | `(tactic| walk_at "subscriptTail Name Constant ref int") => `(tactic| (k_here; (with_unfolding_all refine' item0 ?k1 ?k2 ?k3 ?_ ?k6; (case k1 => k_asm); (case k2 => k_mem); (case k3 => assumption); (case k6 => with_unfolding_all rfl); k_whole); walk_say "ITEM 0"))

variable {w : World} {h₀ : Heap} {L fa : Addr} {cd : Value} {m : Str → Option Value} {news : List (Addr × Obj)} {s : Shared} {mean : ExcName → Option Value} {mg mb : Str → Option Value}
  {σ δ : Nat → Addr} {sl an gl fd : Addr} {Xs : List (Addr × Obj)} {D : Nat → Src} {par : Nat → Nat} {q : Nat} {hs : List Nat} {ha : Nat → Addr} {had : Nat → List Nat} {kvs : List (Int × Value)} {hf rank : Nat → Nat} {v : Value}
local macro_rules | `(tactic| walk_at "pyIter ref") => `(tactic| (refine Halt.mk ?_))
local macro_rules | `(tactic| walk_at "call ref") => `(tactic| (k_here; (with_reducible show wpAny _ _ (call (Value.ref 127) _ _) _ _ _); k_dflt (refine' told ?k1 ?k2 ?k3 ?k4 ?k5 ?k6 ?k7 ?k8 ?k9 ?k10 ?k11 ?k12 ?k13 ?k14 ?_; (case k1 => k_asm); (case k2 => k_asm); (case k3 => k_asm); (case k4 => k_asm); (case k5 => k_asm); (case k6 => first | exact rfl | assumption); (case k7 => ktr_room); (case k8 => k_mem); (case k9 => k_mem); (case k10 => exact rfl); (case k11 => exact rfl); (case k12 => exact rfl); (case k13 => exact rfl); (case k14 => exact rfl); k_whole); intro l' h' tk' F' N' l1; (try dsimp only); (try dsimp only at N'); (try k_lt l1); (try k_sweep); walk_say "CONTRACT told"))
local macro_rules | `(tactic| walk_at "binaryOp Mult ref int") => `(tactic| (k_here; (with_reducible show wpAny _ _ (binaryOp Operator.Mult (Value.ref _) (Value.int _ _)) _ _ _); k_dflt (refine' KMa.mul (vs := [_]) (ws := [_, _, _, _]) ?F ?N ?l ?lo ?hi ?z ?e ?_; (case F => k_asm); (case N => k_asm); (case l => is_list); (case lo => decide); (case hi => decide); (case z => exact (show (1 : Nat) * 4 ≤ 256 by decide)); (case e => exact rfl); k_whole); intro D' h' F' N' l1; (try k_lt l1); (try k_sweep)))
local macro_rules | `(tactic| k_handed) => `(tactic| exact rfl)

abbrev s2 : { x : Stmt // lawBS.1.1[2]? = some x } := ⟨_, rfl⟩
abbrev s3 : { x : Stmt // lawBS.1.1[3]? = some x } := ⟨_, rfl⟩
abbrev s4 : { x : Stmt // lawBS.1.1[4]? = some x } := ⟨_, rfl⟩
theorem plain_is {σ : Nat → Addr} {C : Nat → Src} {j : Nat} (V : Plain σ C j) : ∃ t1 t2 t3 t4 t5, C j = ⟨if j = 0 then .none else .ref (σ (j - 1)), .none, .none, .none, .none, t1, t2, t3, t4, t5⟩ := by
  obtain ⟨v1, v2, v3, v4, v5⟩ := V
  rcases h : C j with ⟨a, b, c, d, e, t1, t2, t3, t4, t5⟩
  rw [h] at v1 v2 v3 v4 v5
  dsimp only at v1 v2 v3 v4 v5
  subst v1 v2 v3 v4 v5
  exact ⟨t1, t2, t3, t4, t5, rfl⟩
theorem law2 {Q : Flow → Shared → Prop} {u : Str → Option Value} {sc : Addr} {r : Nat} {C : Nat → Src} (B : Below callerA h₀ [] h₀) (F : Fr h₀ L s.heap (frmA sl an sc u)) (X : (hd.heap_39 w.params).In h₀) (N : News h₀ L s.heap news) (T : Top hd.view_39 (looseW hd.view_39 []) mean mg mb h₀)
    (h1 : (sl, W.listOf (srcs σ) r) ∈ news) (H : ∀ j, j < 8 → (σ j, instObj 102 (δ j)) ∈ news ∧ (δ j, dic w (C j)) ∈ news) (V : ∀ j, j < 8 → Plain σ C j)
    (ret : ∀ h' tk' news' u', Fr h₀ L h' (frmA sl an sc u') → News h₀ L h' news' → (∀ p ∈ news, p ∈ news') → Q .next { s with heap := h', toks := tk' }) :
    wpAny (model PySem.Challenge.rw_kn0108_01.row.prog w) (lawA L fa cd) (exec s2.1 (lawEnv L fa cd)) Q (fun _ _ => False) s := by
  revert X; k_fill; intro X
  w_on
  dsimp only [s2, lawA, lawEnv, lawBS]
  k_steps
  rename IsRange _ _ _ _ _ _ _ _ => R1
  rename News _ _ _ _ => N1
  rename Fr _ _ _ _ => F1
  refine iter_rangeJ (n := 8) (fun i news' => ∀ p ∈ news, p ∈ news') (by rfl) R1 (by decide) (by decide) F1 N1 (fun _ hp => hp) ?_ ?_
  · rintro i news₁ I oI t h tk hi sub hoff F2 N2
    clear F1 N1 R1
    have hsl : (sl, W.listOf (srcs σ) r) ∈ news₁ := sub _ h1
    have it : ((0 : Int) + (i : Int)).toNat = i := by omega
    have z1 : (σ ((0 : Int) + (i : Int)).toNat, instObj 102 (δ i)) ∈ news₁ := by rw [it]; exact sub _ (H i hi).1
    have z2 := sub _ (H i hi).2
    obtain ⟨t1, t2, t3, t4, t5, e⟩ := plain_is (V i hi)
    rw [e] at z2
    have i0 : (0 : Int) ≤ 0 + (i : Int) := by omega
    have i8 : (0 : Int) + (i : Int) < 8 := by omega
    by_cases e0 : i = 0
    · subst e0
      rw [if_pos rfl] at z2
      k_steps
      rename News _ _ _ _ => N5
      rename Fr _ _ _ _ => F5
      show TurnEnd _ _ _ _ _ _ _ _ _
      exact ⟨_, _, _, _, rfl, F5, news_offI N5 (.tail _ (.tail _ (.tail _ (.tail _ (.head _))))), offI_ne, fun p hp => mem_offI (.tail _ (.tail _ (.tail _ (.tail _ (.tail _ (sub p hp)))))) (hoff p (sub p hp))⟩
    · rw [if_neg e0, show i - 1 = ((0 : Int) + (i : Int) - 1).toNat by omega] at z2
      k_steps
      · exfalso; omega
      · rename News _ _ _ _ => N5
        rename Fr _ _ _ _ => F5
        show TurnEnd _ _ _ _ _ _ _ _ _
        exact ⟨_, _, _, _, rfl, F5, news_offI N5 (.tail _ (.tail _ (.tail _ (.tail _ (.head _))))), offI_ne, fun p hp => mem_offI (.tail _ (.tail _ (.tail _ (.tail _ (.tail _ (sub p hp)))))) (hoff p (sub p hp))⟩
  · rintro u2 h tk news₁ sub F2 N2
    exact ret _ _ _ _ (to_frmA F2 rfl rfl rfl) N2 sub
section
local macro_rules | `(tactic| walk_at "call ref") => `(tactic| ((with_reducible show wpAny _ _ (call (Value.ref 134) _ _) _ _ _); refine Halt.mk ?_))
theorem law3 {Q : Flow → Shared → Prop} {E : Value → Shared → Prop} {u : Str → Option Value} {sc : Addr} {r : Nat} {C : Nat → Src} (B : Below callerA h₀ [] h₀) (F : Fr h₀ L s.heap (frmA sl an sc u)) (X : (hd.heap_39 w.params).In h₀) (N : News h₀ L s.heap news) (T : Top hd.view_39 (looseW hd.view_39 []) mean mg mb h₀)
    (h1 : (sl, W.listOf (srcs σ) r) ∈ news) (H : ∀ j, j < 8 → (σ j, instObj 102 (δ j)) ∈ news ∧ (δ j, dic w (C j)) ∈ news) (S : Sep σ δ)
    (ret : ∀ h' tk' news' (C' : Nat → Src), Fr h₀ L h' (frmA sl an sc u) → News h₀ L h' news' → (∀ p ∈ news, p.1 ≠ δ 0 → p ∈ news') → (∀ j, j < 8 → (σ j, instObj 102 (δ j)) ∈ news' ∧ (δ j, dic w (C' j)) ∈ news') → Q .next { s with heap := h', toks := tk' }) :
    wpAny (model PySem.Challenge.rw_kn0108_01.row.prog w) (lawA L fa cd) (exec s3.1 (lawEnv L fa cd)) Q E s := by
  revert X; k_fill; intro X
  w_on
  dsimp only [s3, lawA, lawEnv, lawBS]
  have dN := dis_of N
  obtain ⟨z1, z2⟩ := H 0 (by decide)
  have n1 : @Ne Nat (σ 0) (δ 0) := dN _ _ _ _ z1 z2 (by simp)
  have hf1 : ∀ p ∈ [(σ 0, instObj 102 (δ 0)), (δ 0, dic w (C 0))], p ∈ news := by
    intro p hp
    simp only [List.mem_cons, List.not_mem_nil, or_false] at hp
    rcases hp with rfl | rfl
    · exact z1
    · exact z2
  obtain ⟨N3, off⟩ := focus _ N hf1
  have sub := sub_focus N hf1
  simp only [List.cons_append, List.nil_append, List.map_cons, List.map_nil] at N3 off sub
  have hsl : (sl, W.listOf (srcs σ) r) ∈ restOf [(σ 0, instObj 102 (δ 0)), (δ 0, dic w (C 0))] news := mem_rest h1 (by
    simp only [List.map_cons, List.map_nil, List.mem_cons, List.not_mem_nil, or_false, not_or]
    exact ⟨dN _ _ _ _ h1 z1 (by simp), dN _ _ _ _ h1 z2 (by simp)⟩)
  k_steps
  rename Fr _ _ _ _ => F4
  rename News _ _ _ _ => N3
  refine washed B F4 X N3 T off n1 ?_
  intro h2 tk2 c' F5 N5
  clear F4
  k_steps
  rename News _ _ _ _ => N6
  rename Fr _ _ _ _ => F6
  have kp : ∀ p ∈ news, p.1 ≠ δ 0 → p ∈ (σ 0, instObj 102 (δ 0)) :: (δ 0, dic w c') :: restOf [(σ 0, instObj 102 (δ 0)), (δ 0, dic w (C 0))] news := fun p hp hne => by
    rcases List.mem_cons.mp (sub p hp) with h | h
    · exact h ▸ .head _
    · rcases List.mem_cons.mp h with h | h
      · exact absurd (by rw [h]) hne
      · exact .tail _ (.tail _ h)
  refine ret _ _ _ (fun j => if j = 0 then c' else C j) F6 N6 kp fun j hj => ⟨kp _ (H j hj).1 (dN _ _ _ _ (H j hj).1 z2 (by simp)), ?_⟩
  by_cases e : j = 0
  · subst e; simp only [if_true]; exact .tail _ (.head _)
  · simp only [if_neg e]; exact kp _ (H j hj).2 fun q => e (S.d _ _ hj (by decide) q)
end
abbrev frmS (sl an gl fd sc : Addr) (u : Str → Option Value) : Str → Option Value := fun y => if y = Str.ofString "script" then some (.ref sc) else frm sl an gl fd u y
theorem to_frmS {h : Heap} {sc gl fd : Addr} {m : Str → Option Value} (F : Fr h₀ L h m) (h1 : m (Str.ofString "sources") = some (.ref sl)) (h2 : m (Str.ofString "answers") = some (.ref an)) (h3 : m (Str.ofString "groups") = some (.ref gl)) (h4 : m (Str.ofString "former") = some (.ref fd))
    (h5 : m (Str.ofString "script") = some (.ref sc)) : Fr h₀ L h (frmS sl an gl fd sc m) := by
  have F' := to_frm F h1 h2 h3 h4
  have e : frm sl an gl fd m = frmS sl an gl fd sc m := by
    funext y
    unfold frmS
    split
    · rename_i e; rw [e]; show m _ = _; exact h5
    · rfl
  rw [← e]; exact F'
theorem law4 {Q : Flow → Shared → Prop} {E : Value → Shared → Prop} {u : Str → Option Value} {sc : Addr} (B : Below callerA h₀ [] h₀) (F : Fr h₀ L s.heap (frmA sl an sc u)) (X : (hd.heap_39 w.params).In h₀) (N : News h₀ L s.heap news) (T : Top hd.view_39 (looseW hd.view_39 []) mean mg mb h₀)
    (ret : ∀ h' tk' news' gl fd r u', Fr h₀ L h' (frmS sl an gl fd sc u') → News h₀ L h' news' → (∀ p ∈ news, p ∈ news') → (gl, W.listOf #[] r) ∈ news' → Q .next { s with heap := h', toks := tk' }) :
    wpAny (model PySem.Challenge.rw_kn0108_01.row.prog w) (lawA L fa cd) (exec s4.1 (lawEnv L fa cd)) Q E s := by
  revert X; k_fill; intro X
  w_on
  dsimp only [s4, lawA, lawEnv, lawBS]
  k_steps
  rename News _ _ _ _ => N6
  rename Fr _ _ _ _ => F6
  exact ret _ _ _ _ _ _ _ (to_frmS F6 rfl rfl rfl rfl rfl) N6 (fun p hp => .tail _ (.tail _ (.tail _ hp))) (.tail _ (.tail _ (.head _)))
end
end Mine
end

-- part 27
section
open PySem PySem.W PySem.Calls PyProof.Rows PyProof.V PySem.Spec
set_option Elab.async false
set_option maxRecDepth 100000
namespace Mine
section
set_option maxHeartbeats 4000000
local macro_rules | `(tactic| k_mem) => `(tactic| ((show Membership.mem (γ := List (Addr × Obj)) _ _); with_reducible assumption))
local macro_rules | `(tactic| walk_at "call ref") => `(tactic| (k_here; (with_reducible show wpAny _ _ (call (Value.ref 57) _ _) _ _ _); k_dflt (refine' getSys ?k1 ?k2 ?k3 ?k4 ?k5 ?k6 ?k7 ?k8 ?k9 ?k10 ?_; (case k1 => k_asm); (case k2 => k_asm); (case k3 => k_asm); (case k4 => k_asm); (case k5 => k_asm); (case k6 => first | exact rfl | assumption); (case k7 => ktr_room); (case k8 => k_mem); (case k9 => k_mem); (case k10 => first | k_handed | assumption); k_whole); intro h' tk' F' N'; (try dsimp only); (try k_sweep); walk_say "CONTRACT getSys"))
local macro_rules | `(tactic| walk_at "call ref") => `(tactic| (k_here; (with_reducible show wpAny _ _ (call (Value.ref 43) _ _) _ _ _); k_dflt (refine' getPub ?k1 ?k2 ?k3 ?k4 ?k5 ?k6 ?k7 ?k8 ?k9 ?k10 ?_; (case k1 => k_asm); (case k2 => k_asm); (case k3 => k_asm); (case k4 => k_asm); (case k5 => k_asm); (case k6 => first | exact rfl | assumption); (case k7 => ktr_room); (case k8 => k_mem); (case k9 => k_mem); (case k10 => first | k_handed | assumption); k_whole); intro h' tk' F' N'; (try dsimp only); (try k_sweep); walk_say "CONTRACT getPub"))
local macro_rules | `(tactic| walk_at "call ref") => `(tactic| (k_here; (with_reducible show wpAny _ _ (call (Value.ref 71) _ _) _ _ _); k_dflt (refine' getEnc ?k1 ?k2 ?k3 ?k4 ?k5 ?k6 ?k7 ?k8 ?k9 ?k10 ?_; (case k1 => k_asm); (case k2 => k_asm); (case k3 => k_asm); (case k4 => k_asm); (case k5 => k_asm); (case k6 => first | exact rfl | assumption); (case k7 => ktr_room); (case k8 => k_mem); (case k9 => k_mem); (case k10 => first | k_handed | assumption); k_whole); intro h' tk' F' N'; (try dsimp only); (try k_sweep); walk_say "CONTRACT getEnc"))
local macro_rules | `(tactic| walk_at "call ref") => `(tactic| (k_here; (with_reducible show wpAny _ _ (call (Value.ref 85) _ _) _ _ _); k_dflt (refine' getByt ?k1 ?k2 ?k3 ?k4 ?k5 ?k6 ?k7 ?k8 ?k9 ?k10 ?_; (case k1 => k_asm); (case k2 => k_asm); (case k3 => k_asm); (case k4 => k_asm); (case k5 => k_asm); (case k6 => first | exact rfl | assumption); (case k7 => ktr_room); (case k8 => k_mem); (case k9 => k_mem); (case k10 => first | k_handed | assumption); k_whole); intro h' tk' F' N'; (try dsimp only); (try k_sweep); walk_say "CONTRACT getByt"))
local macro_rules | `(tactic| walk_at "call ref") => `(tactic| (k_here; (with_reducible show wpAny _ _ (call (Value.ref 99) _ _) _ _ _); k_dflt (refine' getChr ?k1 ?k2 ?k3 ?k4 ?k5 ?k6 ?k7 ?k8 ?k9 ?k10 ?_; (case k1 => k_asm); (case k2 => k_asm); (case k3 => k_asm); (case k4 => k_asm); (case k5 => k_asm); (case k6 => first | exact rfl | assumption); (case k7 => ktr_room); (case k8 => k_mem); (case k9 => k_mem); (case k10 => first | k_handed | assumption); k_whole); intro h' tk' F' N'; (try dsimp only); (try k_sweep); walk_say "CONTRACT getChr"))
local macro_rules | `(tactic| walk_at "call ref") => `(tactic| (k_here; (with_reducible show wpAny _ _ (call (Value.ref 50) _ _) _ _ _); k_dflt (refine' setSys ?k1 ?k2 ?k3 ?k4 ?k5 ?k6 ?k7 ?k8 ?k9 ?k10 ?_; (case k1 => k_asm); (case k2 => k_asm); (case k3 => k_asm); (case k4 => k_asm); (case k5 => k_asm); (case k6 => first | exact rfl | assumption); (case k7 => ktr_room); (case k8 => k_mem); (case k9 => k_mem); (case k10 => k_upd); k_whole); intro h' tk' F' N'; (try dsimp only); (try k_sweep); walk_say "CONTRACT setSys"))
local macro_rules | `(tactic| walk_at "call ref") => `(tactic| (k_here; (with_reducible show wpAny _ _ (call (Value.ref 36) _ _) _ _ _); k_dflt (refine' setPub ?k1 ?k2 ?k3 ?k4 ?k5 ?k6 ?k7 ?k8 ?k9 ?k10 ?_; (case k1 => k_asm); (case k2 => k_asm); (case k3 => k_asm); (case k4 => k_asm); (case k5 => k_asm); (case k6 => first | exact rfl | assumption); (case k7 => ktr_room); (case k8 => k_mem); (case k9 => k_mem); (case k10 => k_upd); k_whole); intro h' tk' F' N'; (try dsimp only); (try k_sweep); walk_say "CONTRACT setPub"))
local macro_rules | `(tactic| walk_at "call ref") => `(tactic| (k_here; (with_reducible show wpAny _ _ (call (Value.ref 64) _ _) _ _ _); k_dflt (refine' setEnc ?k1 ?k2 ?k3 ?k4 ?k5 ?k6 ?k7 ?k8 ?k9 ?k10 ?_; (case k1 => k_asm); (case k2 => k_asm); (case k3 => k_asm); (case k4 => k_asm); (case k5 => k_asm); (case k6 => first | exact rfl | assumption); (case k7 => ktr_room); (case k8 => k_mem); (case k9 => k_mem); (case k10 => k_upd); k_whole); intro h' tk' F' N'; (try dsimp only); (try k_sweep); walk_say "CONTRACT setEnc"))
local macro_rules | `(tactic| walk_at "call ref") => `(tactic| (k_here; (with_reducible show wpAny _ _ (call (Value.ref 78) _ _) _ _ _); k_dflt (refine' setByt ?k1 ?k2 ?k3 ?k4 ?k5 ?k6 ?k7 ?k8 ?k9 ?k10 ?_; (case k1 => k_asm); (case k2 => k_asm); (case k3 => k_asm); (case k4 => k_asm); (case k5 => k_asm); (case k6 => first | exact rfl | assumption); (case k7 => ktr_room); (case k8 => k_mem); (case k9 => k_mem); (case k10 => k_upd); k_whole); intro h' tk' F' N'; (try dsimp only); (try k_sweep); walk_say "CONTRACT setByt"))
local macro_rules | `(tactic| walk_at "call ref") => `(tactic| (k_here; (with_reducible show wpAny _ _ (call (Value.ref 92) _ _) _ _ _); k_dflt (refine' setChr ?k1 ?k2 ?k3 ?k4 ?k5 ?k6 ?k7 ?k8 ?k9 ?k10 ?_; (case k1 => k_asm); (case k2 => k_asm); (case k3 => k_asm); (case k4 => k_asm); (case k5 => k_asm); (case k6 => first | exact rfl | assumption); (case k7 => ktr_room); (case k8 => k_mem); (case k9 => k_mem); (case k10 => k_upd); k_whole); intro h' tk' F' N'; (try dsimp only); (try k_sweep); walk_say "CONTRACT setChr"))
local macro_rules | `(tactic| walk_at "call builtin:list.append") => `(tactic| (k_here; (with_reducible show wpAny _ _ (call (Value.builtin _) [Value.ref _, Value.none]) _ _ _); k_dflt (refine' append_none ?k1 ?k2 ?k3 ?k4 ?_; (case k1 => k_asm); (case k2 => k_asm); (case k3 => k_upd); (case k4 => first | assumption | omega); k_whole); intro h' F' N'; (try dsimp only); (try k_sweep); walk_say "APPEND none"))
local macro_rules | `(tactic| walk_at "call builtin:list.extend") => `(tactic| (k_here; (with_reducible show wpAny _ _ (call (Value.builtin _) [Value.ref _, Value.ref _]) _ _ _); k_dflt (refine' extend_none ?k1 ?k2 ?k3 ?k4 ?k5 ?k6 ?_; (case k1 => k_asm); (case k2 => k_asm); (case k3 => k_updF); (case k4 => k_mem); (case k5 => rfl); (case k6 => first | assumption | omega | (show _ + 2 ≤ _; omega) | (show _ + 5 ≤ _; omega)); k_whole); intro h' n' F' N'; (try dsimp only at N'); (try k_sweep); walk_say "EXTEND none"))
local macro_rules | `(tactic| walk_at "compareOp In int ref") => `(tactic| (k_here; k_dflt (refine' in_ints ?k1 ?k2 ?k3 ?_; (case k1 => k_asm); (case k2 => k_mem); (case k3 => k_asm); k_whole); walk_say "IN ints"))
local macro_rules | `(tactic| walk_at "compareOp NotIn int ref") => `(tactic| (k_here; k_dflt (refine' notin_ints ?k1 ?k2 ?k3 ?_; (case k1 => k_asm); (case k2 => k_mem); (case k3 => k_asm); k_whole); walk_say "NOTIN ints"))
local macro_rules | `(tactic| walk_at "subscriptTail") => `(tactic| (k_here; (with_reducible show wpAny _ _ (subscriptTail _ _ (Value.ref _) (Value.int _ _)) _ _ _); (with_unfolding_all refine' item_src ?k1 ?k2 ?k3 ?k4 ?_ ?k6; (case k1 => k_asm); (case k2 => k_mem); (case k3 => first | assumption | omega); (case k4 => first | assumption | omega); (case k6 => with_unfolding_all rfl); k_whole); walk_say "ITEM src"))
local macro_rules | `(tactic| walk_at "subscriptTail Name Constant ref int") => `(tactic| (k_here; (with_unfolding_all refine' item0 ?k1 ?k2 ?k3 ?_ ?k6; (case k1 => k_asm); (case k2 => k_mem); (case k3 => assumption); (case k6 => with_unfolding_all rfl); k_whole); walk_say "ITEM 0"))

variable {w : World} {h₀ : Heap} {L fa : Addr} {cd : Value} {m : Str → Option Value} {news : List (Addr × Obj)} {s : Shared} {mean : ExcName → Option Value} {mg mb : Str → Option Value}
  {σ δ : Nat → Addr} {sl an gl fd : Addr} {Xs : List (Addr × Obj)} {D : Nat → Src} {par : Nat → Nat} {q : Nat} {hs : List Nat} {ha : Nat → Addr} {had : Nat → List Nat} {kvs : List (Int × Value)} {hf rank : Nat → Nat} {v : Value}
local macro_rules | `(tactic| walk_at "exec For") => `(tactic| (refine Halt.mk ?_))
local macro_rules | `(tactic| walk_at "pyIter ref") => `(tactic| (refine Halt.mk ?_))
local macro_rules | `(tactic| walk_at "binaryOp Add ref ref") => `(tactic| (refine Halt.mk ?_))

abbrev s5 : { x : Stmt // lawBS.1.1[5]? = some x } := ⟨_, rfl⟩
theorem law5 {Q : Flow → Shared → Prop} {u : Str → Option Value} {sc : Addr} {C : Nat → Src} {vs : List Value} {ns : List Int} (B : Below callerA h₀ [] h₀) (F : Fr h₀ L s.heap (frmS sl an gl fd sc u)) (X : (hd.heap_39 w.params).In h₀) (N : News h₀ L s.heap news) (T : Top hd.view_39 (looseW hd.view_39 []) mean mg mb h₀)
    (S : Sep σ δ) (M : WSt w σ δ sl an L [] C 0 gl [] news) (hL : h₀.IsList sc vs.toArray) (hI : IntsAre vs ns) (hn : ns.length ≤ 63)
    (done : ∀ h' tk' news' gl' fd' q' u', Fr h₀ L h' (frm sl an gl' fd' u') → News h₀ L h' news' → LoopS w σ δ sl an L [] (4 + ns.length) gl' fd' q' news' → q' ≤ 60 * (4 + ns.length) → Q .next { s with heap := h', toks := tk' }) :
    wpAny (model PySem.Challenge.rw_kn0108_01.row.prog w) (lawA L fa cd) (exec s5.1 (lawEnv L fa cd)) Q (fun _ _ => False) s := by
  revert X; k_fill; intro X
  w_on
  dsimp only [s5, lawA, lawEnv, lawBS]
  k_steps
  refine For_turns F ?_
  k_steps
  rename News _ _ _ _ => N1
  rename Fr _ _ _ _ => F1
  obtain ⟨r0, han⟩ := M.ans
  refine add_lists_ints (vs := [_, _, _, _]) (ns := [8, 26, 17, 4]) F1 N1 ⟨_, N1.get (.head _), rfl, _, rfl⟩ (F1.lst hL) (.cons _ _ (.cons _ _ (.cons _ _ (.cons _ _ .nil)))) hI ?_ (by rw [sizeLine_eq]; show 4 + ns.length ≤ _; omega)
  intro h2 F2 N2 hI2
  refine mainIter B (to_frm F2 rfl rfl rfl rfl) X N2 T S (.inl ⟨rfl, C, M.mono (fun p hp => .tail _ (.tail _ hp)) (fun p hp => (nomatch hp))⟩) (c := 0) (.head _) hI2 (by rw [List.length_append]; show 4 + ns.length ≤ 500; omega) ⟨?_, ?_⟩ ?_
  · exact Nat.ne_of_gt (Heap.lt_size (N1 _ (.tail _ han)).1)
  · exact fun j hj => Nat.ne_of_gt (Heap.lt_size (N1 _ (.tail _ (M.has j hj).2)).1)
  · intro h3 k3 news3 gl3 fd3 q3 u3 F3 N3 M3 hq3
    have e : (([8, 26, 17, 4] : List Int) ++ ns).length = 4 + ns.length := by simp; omega
    rw [e] at M3 hq3
    exact done _ _ _ _ _ _ _ F3 N3 M3 hq3
theorem lawRun {Q : Flow → Shared → Prop} {u : Str → Option Value} {sc : Addr} {o1 o2 o3 : Obj} {v1 v2 v3 : Option Value} {vs : List Value} {ns : List Int} (B : Below callerA h₀ [] h₀) (F : Fr h₀ L s.heap (fun y => if y = Str.ofString "script" then some (.ref sc) else u y)) (X : (hd.heap_39 w.params).In h₀) (N : News h₀ L s.heap news) (T : Top hd.view_39 (looseW hd.view_39 []) mean mg mb h₀)
    (c1 : (L + 1, o1) ∈ news) (c2 : (L + 1 + 1, o2) ∈ news) (c3 : (L + 1 + 1 + 1, o3) ∈ news) (d1 : o1.data = .cell v1) (d2 : o2.data = .cell v2) (d3 : o3.data = .cell v3)
    (hL : h₀.IsList sc vs.toArray) (hI : IntsAre vs ns) (hn : ns.length ≤ 63)
    (ret : ∀ h' tk' news' m', Fr h₀ L h' m' → News h₀ L h' news' → Q (.ret (.bool true)) { s with heap := h', toks := tk' }) :
    wpAny (model PySem.Challenge.rw_kn0108_01.row.prog w) (lawA L fa cd) (execs lawBS.1.1 (lawEnv L fa cd)) Q (fun _ _ => False) s := by
  show wpAny _ _ (execs [s0.1, s1.1, s2.1, s3.1, s4.1, s5.1, s6.1, s7.1] _) _ _ _
  refine wpAny_execs_cons (law0 B F X N T ?_)
  intro h1 k1 news1 sl an x d r1 r2 t1 t2 t3 t4 t5 u1 F1 N1 hsl1 han1 hx1 hd1 nsa kp1
  refine wpAny_execs_cons (law1 B F1 X N1 T hsl1 hx1 hd1 ?_)
  intro h2 k2 news2 σ δ C r u2 F2 N2 J
  have hS : (sl, W.listOf (srcs σ) r) ∈ news2 := J.src
  have H : ∀ j, j < 8 → (σ j, instObj 102 (δ j)) ∈ news2 ∧ (δ j, dic w (C j)) ∈ news2 := fun j hj => J.has j (by omega)
  have S : Sep σ δ := ⟨fun i j hi hj => J.s i j (by omega) (by omega), fun i j hi hj => J.d i j (by omega) (by omega)⟩
  have dN := dis_of N2
  have han2 : (an, W.listOf #[] r2) ∈ news2 := J.keep _ han1 (fun e => nsa e.symm)
  have d0 := (H 0 (by decide)).2
  refine wpAny_execs_cons (law2 B F2 X N2 T hS H (fun j hj => J.val j (by omega)) ?_)
  intro h3 k3 news3 u3 F3 N3 sub3
  refine wpAny_execs_cons (law3 B F3 X N3 T (sub3 _ hS) (fun j hj => ⟨sub3 _ (H j hj).1, sub3 _ (H j hj).2⟩) S ?_)
  intro h4 k4 news4 C4 F4 N4 kp4 H4
  refine wpAny_execs_cons (law4 B F4 X N4 T ?_)
  intro h5 k5 news5 gl fd r5 u5 F5 N5 sub5 hgl
  have cell : ∀ {a : Addr} {o : Obj} {v : Option Value}, (a, o) ∈ news → o.data = .cell v → ∃ o v, (a, o) ∈ news5 ∧ o.data = .cell v := fun {a o v} hm hd => by
    have m2 := J.keep _ (kp1 _ hm).1 (kp1 _ hm).2.1
    exact ⟨o, v, sub5 _ (kp4 _ (sub3 _ m2) (dN _ _ _ _ m2 d0 (fun e => by rw [e] at hd; cases hd))), hd⟩
  have M : WSt w σ δ sl an L [] C4 0 gl [] news5 := ⟨fun j hj => ⟨sub5 _ (H4 j hj).1, sub5 _ (H4 j hj).2⟩, ⟨_, sub5 _ (kp4 _ (sub3 _ hS) (dN _ _ _ _ hS d0 (by simp)))⟩, ⟨_, sub5 _ (kp4 _ (sub3 _ han2) (dN _ _ _ _ han2 d0 (by simp)))⟩, ⟨_, hgl⟩, cell c1 d1, cell c2 d2, cell c3 d3,
    ⟨nsa, fun j hj => dN _ _ _ _ hS (H j hj).2 (by simp)⟩, fun p hp => (nomatch hp)⟩
  refine wpAny_execs_cons (law5 B F5 X N5 T S M hL hI hn ?_)
  intro h6 k6 news6 gl6 fd6 q6 u6 F6 N6 M6 hq6
  rcases M6 with ⟨e0, _⟩ | ⟨D, par, hf, rank, hs, ha, had, kvs, M6, P6⟩
  · exact absurd e0 (by omega)
  · refine wpAny_execs_cons (law6 B F6 X N6 T S M6 P6 (by omega) ?_)
    intro h7 k7 news7 par7 q7 u7 F7 N7 M7 hq7
    refine wpAny_execs_cons (law7 B F7 X N7 T M7 (by omega) ?_)
    intro h8 k8 news8 m8 F8 N8
    exact ret _ _ _ _ F8 N8
end
end Mine
end

namespace Mine
theorem to_script {h₀ h : Heap} {L sc : Addr} {m : Str → Option Value} (F : Fr h₀ L h m) (h1 : m (Str.ofString "script") = some (.ref sc)) : Fr h₀ L h (fun y => if y = Str.ofString "script" then some (.ref sc) else m y) := by
  have e : m = fun y => if y = Str.ofString "script" then some (.ref sc) else m y := by
    funext y
    split
    · rename_i e; rw [e]; exact h1
    · rfl
  rw [← e]; exact F
end Mine
section
local macro_rules | `(tactic| walk_at "execs cons") => `(tactic| (refine Mine.Halt.mk ?_))
set_option maxHeartbeats 8000000 in
theorem PySem.Challenge.cw_kn0108_01_holds : PySem.Challenge.rw_kn0108_01.Holds :=
  Mine.hd (by
  w_strict (
    k_go0
    (all_goals try k_fold)
    (k_steps)
    (rename Fr _ _ _ _ => F1)
    (rename News _ _ _ _ => N1)
    (rename Below _ _ _ _ => B1)
    (rename Top _ _ _ _ _ _ => T1)
    (rename IntsAre _ _ => I1)
    (rename Heap.IsList _ _ _ => L1)
    (rename Frag.In _ _ => X1)
    (have G1 := Mine.to_script (sc := _) F1 (by with_unfolding_all rfl))
    (rename ¬ _ < _ => c63)
    (refine wpAny_noRaise (Mine.lawRun B1 G1 X1 N1 T1 (.tail _ (.tail _ (.head _))) (.tail _ (.head _)) (.head _) (by assumption) (by assumption) (by assumption) L1 I1 (by omega) ?_))
    (intro h2 k2 news2 m2 F2 N2)
    (k_steps)))
end
