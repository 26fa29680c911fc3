import PyProof.Rows.All
import Wide.All
import OpenK.AllK
import Wide.FinOn
import Lean
import PySem.Challenge.RW_wk0009_01
open PySem PySem.W PySem.Spec PySem.Calls PyProof.Rows
set_option Elab.async false
set_option linter.all false

namespace Mine
set_option maxRecDepth 100000 in
set_option maxHeartbeats 8000000 in
open_top hd for PySem.Challenge.rw_wk0009_01
end Mine

local macro_rules | `(tactic| walk_at $s:str) => `(tactic| k_extra $s)
local macro_rules | `(tactic| k_ne) => `(tactic| k_extra "k ne")
local macro_rules | `(tactic| k_lt $h:ident) => `(tactic| (replace $h := allLt_of $h; dsimp only [AllLt] at $h:ident))
local macro_rules | `(tactic| lcg_off) => `(tactic| assumption)

namespace Mine
theorem ne_off {a i j : Nat} (h : Nat.beq i j = false) : a + i ≠ a + j := fun e => Nat.ne_of_beq_eq_false h (Nat.add_left_cancel e)
theorem lt_up1 {a b : Nat} (h : a < b) : a < b + 1 := Nat.lt_succ_of_lt h
theorem lt_up2 {a b : Nat} (h : a < b) : a < b + 1 + 1 := Nat.lt_succ_of_lt (lt_up1 h)
theorem lt_up3 {a b : Nat} (h : a < b) : a < b + 1 + 1 + 1 := Nat.lt_succ_of_lt (lt_up2 h)
theorem lt_up4 {a b : Nat} (h : a < b) : a < b + 1 + 1 + 1 + 1 := Nat.lt_succ_of_lt (lt_up3 h)
theorem ne_r {a b x : Nat} {P : Prop} (_ : x < b ∧ P) (k : a < b) : a ≠ b := Nat.ne_of_lt k
theorem ne_l {a b x : Nat} {P : Prop} (_ : x < a ∧ P) (k : b < a) : a ≠ b := Nat.ne_of_gt k
theorem ne_r1 {a b x : Nat} {P : Prop} (_ : x < b ∧ P) (k : a < b) : a ≠ b + 1 := Nat.ne_of_lt (lt_up1 k)
theorem ne_r2 {a b x : Nat} {P : Prop} (_ : x < b ∧ P) (k : a < b) : a ≠ b + 1 + 1 := Nat.ne_of_lt (lt_up2 k)
theorem ne_r3 {a b x : Nat} {P : Prop} (_ : x < b ∧ P) (k : a < b) : a ≠ b + 1 + 1 + 1 := Nat.ne_of_lt (lt_up3 k)
theorem ne_r4 {a b x : Nat} {P : Prop} (_ : x < b ∧ P) (k : a < b) : a ≠ b + 1 + 1 + 1 + 1 := Nat.ne_of_lt (lt_up4 k)
theorem ne_l1 {a b x : Nat} {P : Prop} (_ : x < a ∧ P) (k : b < a) : a + 1 ≠ b := Nat.ne_of_gt (lt_up1 k)
theorem ne_l2 {a b x : Nat} {P : Prop} (_ : x < a ∧ P) (k : b < a) : a + 1 + 1 ≠ b := Nat.ne_of_gt (lt_up2 k)
theorem ne_l3 {a b x : Nat} {P : Prop} (_ : x < a ∧ P) (k : b < a) : a + 1 + 1 + 1 ≠ b := Nat.ne_of_gt (lt_up3 k)
theorem ne_l4 {a b x : Nat} {P : Prop} (_ : x < a ∧ P) (k : b < a) : a + 1 + 1 + 1 + 1 ≠ b := Nat.ne_of_gt (lt_up4 k)

/-- a frame's map: the names that count, and whatever else -/
noncomputable def mp : List (Str × Value) → (Str → Option Value) → Str → Option Value
  | [], u => u
  | (k, v) :: r, u => fun y => if y = k then some v else mp r u y
noncomputable def Looks (m : Str → Option Value) : List (Str × Value) → Prop
  | [] => True
  | (k, v) :: r => m k = some v ∧ Looks m r
theorem mp_eq {m : Str → Option Value} : ∀ {ks : List (Str × Value)}, Looks m ks → mp ks m = m
  | [], _ => rfl
  | (k, v) :: r, h => by
    funext y
    show (if y = k then some v else mp r m y) = m y
    rw [mp_eq h.2]
    by_cases e : y = k
    · rw [if_pos e, e, h.1]
    · rw [if_neg e]
theorem fr_mp {h₀ h : Heap} {L : Addr} {m : Str → Option Value} {ks : List (Str × Value)} (F : Fr h₀ L h m) (k : Looks m ks) : Fr h₀ L h (mp ks m) := by rw [mp_eq k]; exact F
theorem fr_ex {h₀ h : Heap} {L : Addr} {m : Str → Option Value} (ks : List (Str × Value)) (F : Fr h₀ L h m) (k : Looks m ks) : ∃ u, Fr h₀ L h (mp ks u) := ⟨m, fr_mp F k⟩
/-- two ways that meet: what is shown of the rest for every heap and count that Pre lets by -/
theorem join_w {M : Model} {A : Around} {α : Type} {t : Sem α} {Q : α → Shared → Prop} {E : Value → Shared → Prop} {z : Shared} {Pre : Heap → Nat → Prop} {G : Prop}
    (main : (∀ h tk, Pre h tk → wpAny M A t Q E ⟨h, z.gens, z.drawn, tk, z.os⟩) → G) (inner : ∀ h tk, Pre h tk → wpAny M A t Q E ⟨h, z.gens, z.drawn, tk, z.os⟩) : G := main inner

noncomputable abbrev Led := List (Addr × Obj)

noncomputable def OffL (a : Nat) : Led → Prop
  | [] => True
  | q :: r => @Ne Nat a q.1 ∧ OffL a r
noncomputable def DisL : Led → Led → Prop
  | [], _ => True
  | p :: r, l => OffL p.1 l ∧ DisL r l
theorem off_of {a : Addr} {l : Led} (h : OffL a l) : a ∉ l.map (·.1) := by
  induction l with
  | nil => intro hm; cases hm
  | cons q r ih =>
    intro hm
    rcases List.mem_cons.mp hm with e | hm
    · exact h.1 e
    · exact ih h.2 hm
theorem dis_of {o l : Led} (h : DisL o l) : ∀ p ∈ o, p.1 ∉ l.map (·.1) := by
  induction o with
  | nil => intro p hp; cases hp
  | cons q r ih =>
    intro p hp
    rcases List.mem_cons.mp hp with e | hp
    · rw [e]; exact off_of h.1
    · exact ih h.2 p hp
theorem sub_nil {l : Led} : ∀ p ∈ ([] : Led), p ∈ l := fun _ h => nomatch h
theorem sub_cons {a : Addr × Obj} {r l : Led} (h : a ∈ l) (k : ∀ p ∈ r, p ∈ l) : ∀ p ∈ a :: r, p ∈ l := fun _ hp => (List.mem_cons.mp hp).elim (fun e => e ▸ h) (k _)

/-- what is wanted behind a call, where the objects that the call does not see stand as they stood -/
noncomputable def Left (h₀ : Heap) (L : Addr) (others : Led) (R : Result → Shared → Prop) (r : Result) (s' : Shared) : Prop := News h₀ L s'.heap others → R r s'

/-- what a call of the def at f with vs does: it sees the ledger news alone; behind it stands a ledger that Post names (hi lies above all that stood before) -/
noncomputable def FnSpec (w : World) (f : Addr) (vs : List Value) (news : Led) (rd ru : Nat) (Post : Addr → Value → Led → Prop) : Prop :=
  ∀ (mean : ExcName → Option Value) (mg mb : Str → Option Value) (dp un : Nat) (gd : Option (List Code)) (cn : Str) (cs : Scope) (a : Addr) (ccd : Value) (cl : List (Str × Addr)) (outer : List Env) (A₀ : Around) (base h₀ : Heap) (L : Addr) (m : Str → Option Value) (s : Shared) (R : Result → Shared → Prop) (others : Led),
    Below A₀ base outer h₀ → Fr h₀ L s.heap m → (Mine.hd.heap_39 w.params).In h₀ → News h₀ L s.heap news → News h₀ L s.heap others → (∀ p ∈ others, p.1 ∉ news.map (·.1)) →
    Top topProg (looseW Mine.hd.view_39 [] ++ List.map (fun x => x.name) (recsOf Mine.hd.view_39) ++
        List.map (fun x => x.fst) (litsOf Mine.hd.view_39) ++
      List.map (fun x => x.name) (clssOf Mine.hd.view_39 (looseW Mine.hd.view_39 []))) mean mg mb h₀ → cs.kind = .function →
    dp + rd < recursionLimit → un + ru < cLine →
    (∀ hi v news' h' tk', (∀ p ∈ news, p.1 < hi) → (∀ p ∈ others, p.1 < hi) → Post hi v news' → Fr h₀ L h' m → News h₀ L h' news' → News h₀ L h' others → R (.ok (.ret v)) { s with heap := h', toks := tk' }) →
    codeAny (model Challenge.rw_wk0009_01.row.prog w) (ktrTop dp un gd cn cs L a ccd cl outer) (.call (.ref f) ⟨vs, []⟩) R s

theorem left_end {h₀ h' : Heap} {L : Addr} {m : Str → Option Value} {news others news' n' : Led} {Post : Addr → Value → Led → Prop} {R : Result → Shared → Prop} {s : Shared} {hi : Addr} {v : Value} {tk' : Nat}
    (hret : ∀ hi v news' h' tk', (∀ p ∈ news, p.1 < hi) → (∀ p ∈ others, p.1 < hi) → Post hi v news' → Fr h₀ L h' m → News h₀ L h' news' → News h₀ L h' others → R (.ok (.ret v)) { s with heap := h', toks := tk' })
    (l1 : ∀ p ∈ news, p.1 < hi) (l2 : ∀ p ∈ others, p.1 < hi) (kF : Fr h₀ L h' m) (kN : News h₀ L h' n') (hp : Post hi v news') (hs : ∀ p ∈ news', p ∈ n') : Left h₀ L others R (.ok (.ret v)) { s with heap := h', toks := tk' } :=
  fun NO' => hret hi v news' h' tk' l1 l2 hp kF (fun p hp => kN p (hs p hp)) NO'

theorem one_eq {c d : Nat} {x : String} (hx : Str.ofString x = ⟨#[d]⟩) : (({ cps := #[c] } : Str) == Str.ofString x) = decide (c = d) := by
  rw [hx]
  by_cases h : c = d
  · subst h; simp
  · simp [h]

section
variable {prog : Program} {w : World} {A₀ A : Around} {s : Shared} {K : Frag} {L : Addr} {h₀ base : Heap} {m mg mb : Str → Option Value} {news others : Led} {p : Program} {loose : List Str} {mean : ExcName → Option Value}

theorem code_defS {env : Env} {outer : List Env} {R : Result → Shared → Prop} {name qual : Str} {params : Arguments} {body : List Stmt} {scope : Scope} {dV kV doc pm cdv ct oc : Value} {an od : Option Addr} {osl : Array (Option Value)} {f : Addr} {args : Args} {binds : List (Str × Value)}
    (B : Below A₀ base outer h₀) (F : Fr h₀ L s.heap m) (X₀ : K.In h₀) (N : News h₀ L s.heap news) (NO : News h₀ L s.heap others) (hdis : ∀ p ∈ others, p.1 ∉ news.map (·.1)) (T : Top p loose mean mg mb h₀) (hA : A.frames = some (env :: outer)) (hf : env.frame = some L) (hke : env.scope.kind = .function)
    (ho : K.lookup f = some ⟨oc, od, .func (fnOf name qual params body scope dV kV doc pm an cdv ct), osl⟩) (hcd : codeIn K cdv qual = true) (hroom : A.depth < recursionLimit)
    (hbind : BindsTo s (fnOf name qual params body scope dV kV doc pm an cdv ct) args binds) (hloc : ∀ y ∈ binds, scope.names.lookup y.1 = some .local)
    (h : ∀ g L' h₁, Fr h₀ L g m → Fr g L' h₁ (fun y => binds.reverse.lookup y) → News g L' h₁ news → Below A base (env :: outer) g → K.In g → Top p loose mean mg mb g → (∀ p ∈ news, p.1 < L') → (∀ p ∈ others, p.1 < L') →
      wpAny (model prog w) (A.deeper (envOf qual scope L' f cdv)) (execs body (envOf qual scope L' f cdv))
        (fun fl s' => LeaveK h₀ L m g (Left h₀ L others R) (match fl with | .ret v => v | _ => .none) s')
        (fun e s' => wpAny (model prog w) (A.deeper (envOf qual scope L' f cdv)) (leaving (envOf qual scope L' f cdv) e) (fun _ s'' => R (.error e) s'') (fun e' s'' => R (.error e') s'') s')
        { s with heap := h₁, toks := s.toks + binds.length })
    (hco : scope.isCoroutine = false) (hgen : scope.isGenerator = false) (hk : scope.kind = .function)
    (hcell : ∀ x ∈ scope.names, x.2 ≠ .cell) : codeAny (model prog w) A (.call (.ref f) args) R s := by
  obtain ⟨FG, BG, st, lv⟩ := groundX (R := Left h₀ L others R) B F N hA hf hke
  refine codeAny_call_def (fd := fnOf name qual params body scope dV kV doc pm an cdv ct) (body := body) (binds := binds) hroom ((X₀.keeps F.keep) _ _ ho) rfl (T.nolimit.keeps F.keep) (codeRec_of (X₀.keeps F.keep) hcd) rfl hbind hcell hloc (fun h₁ hns hk₁ => ?_) hco hgen hk
  refine wpAny_mono (h _ s.heap.objs.size h₁ FG ⟨hns, fun b o e => hk₁ b o (of_hideAll _ e), Nat.le_of_eq (hideAll_size _ _)⟩
    (fun p hp => ⟨hk₁ _ _ (N p hp).1, Nat.ne_of_lt (Heap.lt_size (N p hp).1), hideAll_none _ (List.mem_map_of_mem hp)⟩) BG (X₀.keeps st) (T.keeps st) (fun p hp => Heap.lt_size (N p hp).1) (fun p hp => Heap.lt_size (NO p hp).1)) (fun fl s' hl => ?_) fun _ _ y => y
  refine lv _ _ hl (fun p hp => ⟨?_, (NO p hp).2⟩)
  obtain ⟨L', m', news', F', _, _⟩ := hl
  exact F'.keep _ _ (hideAll_get _ (NO p hp).1 (hdis p hp))

theorem spec_code {f : Addr} {vs : List Value} {rd ru : Nat} {Post : Addr → Value → Led → Prop} {dp un : Nat} {gd : Option (List Code)} {cn : Str} {cs : Scope} {a : Addr} {ccd : Value} {cl : List (Str × Addr)} {outer : List Env} {R : Result → Shared → Prop}
    (C : FnSpec w f vs news rd ru Post) (B : Below A₀ base outer h₀) (F : Fr h₀ L s.heap m) (X : (Mine.hd.heap_39 w.params).In h₀) {all : Led} (N : News h₀ L s.heap all)
    (T : Top topProg (looseW Mine.hd.view_39 [] ++ List.map (fun x => x.name) (recsOf Mine.hd.view_39) ++
        List.map (fun x => x.fst) (litsOf Mine.hd.view_39) ++
      List.map (fun x => x.name) (clssOf Mine.hd.view_39 (looseW Mine.hd.view_39 []))) mean mg mb h₀) (hk : cs.kind = .function)
    (others : Led) (h1 : ∀ p ∈ news, p ∈ all) (h2 : ∀ p ∈ others, p ∈ all) (hdis : ∀ p ∈ others, p.1 ∉ news.map (·.1))
    (hd : dp + rd < recursionLimit) (hu : un + ru < cLine)
    (ret : ∀ hi v news' h' tk', (∀ p ∈ news, p.1 < hi) → (∀ p ∈ others, p.1 < hi) → Post hi v news' → Fr h₀ L h' m → News h₀ L h' (news' ++ others) → R (.ok (.ret v)) { s with heap := h', toks := tk' }) :
    codeAny (model Challenge.rw_wk0009_01.row.prog w) (ktrTop dp un gd cn cs L a ccd cl outer) (.call (.ref f) ⟨vs, []⟩) R s :=
  C mean mg mb dp un gd cn cs a ccd cl outer A₀ base h₀ L m s R others B F X (fun p hp => N p (h1 p hp)) (fun p hp => N p (h2 p hp)) hdis T hk hd hu
    (fun hi v news' h' tk' l1 l2 hp F' N' NO' => ret hi v news' h' tk' l1 l2 hp F' fun p hp => (List.mem_append.mp hp).elim (N' p) (NO' p))

theorem spec_use {f : Addr} {vs : List Value} {rd ru : Nat} {Post : Addr → Value → Led → Prop} {dp un : Nat} {gd : Option (List Code)} {cn : Str} {cs : Scope} {a : Addr} {ccd : Value} {cl : List (Str × Addr)} {outer : List Env} {Q E : Value → Shared → Prop}
    (C : FnSpec w f vs news rd ru Post) (B : Below A₀ base outer h₀) (F : Fr h₀ L s.heap m) (X : (Mine.hd.heap_39 w.params).In h₀) {all : Led} (N : News h₀ L s.heap all)
    (T : Top topProg (looseW Mine.hd.view_39 [] ++ List.map (fun x => x.name) (recsOf Mine.hd.view_39) ++
        List.map (fun x => x.fst) (litsOf Mine.hd.view_39) ++
      List.map (fun x => x.name) (clssOf Mine.hd.view_39 (looseW Mine.hd.view_39 []))) mean mg mb h₀) (hk : cs.kind = .function)
    (others : Led) (h1 : ∀ p ∈ news, p ∈ all) (h2 : ∀ p ∈ others, p ∈ all) (hdis : ∀ p ∈ others, p.1 ∉ news.map (·.1))
    (hd : dp + rd < recursionLimit) (hu : un + ru < cLine)
    (ret : ∀ hi v news' h' tk', (∀ p ∈ news, p.1 < hi) → (∀ p ∈ others, p.1 < hi) → Post hi v news' → Fr h₀ L h' m → News h₀ L h' (news' ++ others) → Q v { s with heap := h', toks := tk' }) :
    wpAny (model Challenge.rw_wk0009_01.row.prog w) (ktrTop dp un gd cn cs L a ccd cl outer) (call (.ref f) vs) Q E s :=
  wpAny_call (spec_code C B F X N T hk others h1 h2 hdis hd hu ret)
end
end Mine

namespace Mine
set_option maxRecDepth 100000

noncomputable def siCls (x : Str) : String := if x.cps.all (· < 128) = true then "str_ascii_iterator" else "str_iterator"
/-- a text's iterator that has given i signs -/
noncomputable def siObj (x : Str) (t : Tok) (i : Nat) : Obj := { cls := .type (siCls x), data := .fields #[.str x t, .int i 0] }
/-- a text's iterator at its end -/
noncomputable def siEnd (x : Str) (i : Nat) : Obj := { cls := .type (siCls x), data := .fields #[.none, .int i 0] }

theorem args_iter1 (a : Value) : argsOk "iter" ⟨[a], []⟩ := by unfold argsOk; kernel_rfl

section
variable {prog : Program} {w : World} {A : Around} {E : Value → Shared → Prop} {s : Shared} {h₀ : Heap} {L : Addr} {m : Str → Option Value} {news : Led}

theorem pyIter_text {x : Str} {t : Tok} {Q : Value → Shared → Prop} (F : Fr h₀ L s.heap m) (N : News h₀ L s.heap news)
    (h : ∀ (I : Addr) h', Fr h₀ L h' m → News h₀ L h' ((I, siObj x t 0) :: news) → (∀ p ∈ news, p.1 < I) → Q (.ref I) { s with heap := h' }) :
    wpAny (model prog w) A (pyIter (.str x t)) Q E s := by
  cases ha : x.cps.all (· < 128) with
  | true =>
    refine wpAny_pyIter_ascii ha ?_
    have e : siObj x t 0 = { cls := .type "str_ascii_iterator", data := .fields #[.str x t, .int 0 0] } := by
      unfold siObj siCls; rw [ha]; rfl
    exact h _ _ (F.push _) (e ▸ News.push F N _ rfl) (fun q hq => Heap.lt_size (N q hq).1)
  | false =>
    refine wpAny_pyIter_wide ha ?_
    have e : siObj x t 0 = { cls := .type "str_iterator", data := .fields #[.str x t, .int 0 0] } := by
      unfold siObj siCls; rw [ha]; rfl
    exact h _ _ (F.push _) (e ▸ News.push F N _ rfl) (fun q hq => Heap.lt_size (N q hq).1)

theorem iter_text {x : Str} {t : Tok} {Q : Value → Shared → Prop} (F : Fr h₀ L s.heap m) (N : News h₀ L s.heap news)
    (h : ∀ (I : Addr) h', Fr h₀ L h' m → News h₀ L h' ((I, siObj x t 0) :: news) → (∀ p ∈ news, p.1 < I) → Q (.ref I) { s with heap := h' }) :
    wpAny (model prog w) A (call (.builtin "iter") [.str x t]) Q E s := by
  refine call_function_entry (by decide +kernel) (by decide +kernel) kdk_entry_iter (args_iter1 _) ?_
  unfold Builtin.«iter»
  refine wpAny_bind (m := someArgs "iter" 1 2 _) (wpAny_of_eq (a := [Value.str x t]) (by first | rfl | kernel_rfl!) ?_)
  show wpAny _ _ (pyIter (.str x t) >>= _) _ _ _
  refine wpAny_bind (pyIter_text F N fun I h' F' N' l => ?_)
  exact wpAny_pure ⟨_, rfl, h I h' F' N' l⟩
end
end Mine

namespace Mine
set_option maxRecDepth 100000

theorem slot_function_setattr : Slot "function" "__setattr__" "object.__setattr__" :=
  .of (owner := "object") (n := "__setattr__") (by rw [typeLookup_type, builtinLookup_eq_fast]; kernel_rfl) (by decide +kernel) (by decide +kernel) (by decide +kernel)
    (by first | exact .inl (by decide +kernel) | exact .inr (by decide +kernel)) (by rw [isSubtype_type]; kernel_rfl)
theorem look_function_read : typeLookup (.type "function") (Str.ofString "read") = pure none := by rw [typeLookup_type, builtinLookup_eq_fast]; kernel_rfl
theorem own_function_setattr : classOwn (.type "function") "__setattr__" = pure none := by
  show (pure (builtinOwn "function" _) : Sem (Option Value)) = _
  rw [builtinOwn_eq_fast]; kernel_rfl
theorem mro_function : mroOf (.type "function") = pure [.type "function", .type "object"] := by first | rfl | kernel_rfl
theorem passes_function (self : Value) : refuseLoop self "__setattr__" [.type "function", .type "object"] = pure () := by
  unfold refuseLoop
  simp only [List.forIn_cons]
  rw [own_function_setattr, PySem.F.own_object_setattr]
  first | rfl | kernel_rfl

section
variable {prog : Program} {w : World} {A : Around} {E : Value → Shared → Prop} {s : Shared} {h₀ : Heap} {L : Addr} {m : Str → Option Value} {news : Led}

theorem set_read {f : Addr} {fo : Obj} {fd : FuncData} {v : Value} {g : Obj → Led} {Q : Unit → Shared → Prop} (F : Fr h₀ L s.heap m) (N : News h₀ L s.heap news) (U : UpdF f fo news g)
    (hc : fo.cls = .type "function") (hd : fo.dict = none) (hf : fo.data = .func fd)
    (h : ∀ (d : Addr) h' tk, Fr h₀ L h' m → News h₀ L h' ((d, dictOf [⟨PyData.keyHash w.params (Str.ofString "read"), .str (Str.ofString "read") tk, v⟩] 1) :: g { fo with dict := some d }) → (∀ p ∈ news, p.1 < d) → Q () { s with heap := h', toks := tk + 1 }) :
    wpAny (model prog w) A (setAttr (.ref f) (Str.ofString "read") v) Q E s := by
  obtain ⟨pre, post, hl, hg, a, b⟩ := U.split
  have hm := N (f, fo) (by rw [hl]; exact List.mem_append_right _ (.head _))
  have hx : s.heap.get? f = some fo := hm.1
  unfold setAttr
  refine wpAny_bind (wpAny_mkText (wpAny_bind ?_))
  refine wpAny_callSpecial?_slot (name := Str.ofString "__setattr__") (s := { s with toks := s.toks + 1 }) ⟨fo, hx, hc⟩ slot_function_setattr
    (wpAny_call_entry slot_function_setattr (s := { s with toks := s.toks + 1 }) ⟨fo, hx, hc⟩ PySem.F.entry_object_setattr ?_ (PySem.F.args_object_setattr_3 _ _ _))
  obtain ⟨hp, gs, dr, tk, os⟩ := s
  dsimp only at hx F N h hm
  unfold Builtin.«object.__setattr__»
  repeat (first | rw [refuse_eq] | rw [mro_function] | rw [passes_function] | (with_reducible refine wpAny_loadPart_at hx ?_; rw [hc]) | rw [look_function_read] | wp_step)
  rw [hd, if_neg (by simp only [typeHasDict, Bool.not_true, Bool.false_or, Bool.not_eq_true, Bool.not_eq_false, Bool.not_eq_true']; decide +kernel), hf]
  (try k_unfold); (try dsimp only)
  have F1 := F.push { cls := .type "dict", data := .dict #[] }
  have N1 : News h₀ L (hp.push { cls := .type "dict", data := .dict #[] }) (((hp.objs.size, { cls := .type "dict", data := .dict #[] }) :: pre) ++ (f, fo) :: post) := by
    have := News.push F N { cls := .type "dict", data := .dict #[] } rfl
    rw [hl] at this
    exact this
  have hlt : ∀ p ∈ news, p.1 < hp.objs.size := fun p hp' => Heap.lt_size (N p hp').1
  have hfs : hp.objs.size ≠ f := Nat.ne_of_gt (Heap.lt_size hx)
  have hfree : ({ cls := fo.cls, dict := some hp.objs.size, data := fo.data, slots := fo.slots } : Obj).isFreed = false := by rw [hf]; rfl
  obtain ⟨F2, N2⟩ := news_upd (f := fun o => { cls := o.cls, dict := some hp.objs.size, data := o.data, slots := o.slots }) F1 N1 (o' := { cls := fo.cls, dict := some hp.objs.size, data := fo.data, slots := fo.slots })
    (fun p hp' => (List.mem_cons.mp hp').elim (fun e => e ▸ hfs) (a p)) b rfl hfree
  have hlt2 : ∀ p ∈ pre ++ (f, ({ cls := fo.cls, dict := some hp.objs.size, data := fo.data, slots := fo.slots } : Obj)) :: post, p.1 ≠ hp.objs.size := by
    intro p hp'
    rcases List.mem_append.mp hp' with q | q
    · exact Nat.ne_of_lt (hlt p (hl ▸ List.mem_append_left _ q))
    · rcases List.mem_cons.mp q with rfl | q
      · exact hfs.symm
      · exact Nat.ne_of_lt (hlt p (hl ▸ List.mem_append_right _ (.tail _ q)))
  obtain ⟨F3, N3⟩ := news_upd (pre := []) (d := hp.objs.size) (f := Obj.putName (Str.ofString "read") (PyData.keyHash w.params (Str.ofString "read")) (.str (Str.ofString "read") (tk + 1)) v) F2 N2 (o' := dictOf [⟨PyData.keyHash w.params (Str.ofString "read"), .str (Str.ofString "read") (tk + 1), v⟩] 1)
    (fun p hp' => nomatch hp') hlt2 (by
      show Obj.putName _ _ _ _ (dictOf [] 0) = _
      rw [putName_dict]; rfl) rfl
  refine wpAny_bind (wpAny_alloc ?_)
  refine wpAny_bind (wpAny_update (o := fo) (Heap.get?_push_of_some _ hx) ?_)
  refine wpAny_pure ?_
  show wpAny _ _ (Builtin.ObjectAttr.storeInDict hp.objs.size (.str (Str.ofString "read") tk) (Str.ofString "read") v) _ _ _
  unfold Builtin.ObjectAttr.storeInDict Builtin.ObjectAttr.newKeyGuard
  refine wpAny_bind (wpAny_pure (wpAny_bind ?_))
  unfold nsSet
  have D2 := (N2 (hp.objs.size, { cls := .type "dict", data := .dict #[] }) (by simp)).1
  have D3 := (N3 (hp.objs.size, dictOf [⟨PyData.keyHash w.params (Str.ofString "read"), .str (Str.ofString "read") (tk + 1), v⟩] 1) (by simp)).1
  refine wpAny_bind (wpAny_bind (wpAny_askSetting (wpAny_pure (wpAny_bind (wpAny_mkText (wpAny_bind (wpAny_loadPart D2 ?_)))))))
  (try k_unfold); (try dsimp only)
  rw [show aRefKeyMayBeTheName (Str.ofString "read") #[] = false from by first | rfl | decide]
  refine wpAny_updatePart D2 ?_
  refine wpAny_bind (wpAny_lookBehind D3 (by first | rfl | exact pastItsLine_dict (by rw [List.size_toArray, sizeLine_eq]; simp)) ?_)
  refine wpAny_pure ⟨_, rfl, wpAny_pure ?_⟩
  refine h hp.objs.size _ (tk + 1) F3 ?_ hlt
  rw [hg]
  exact N3
end
end Mine

namespace Mine
set_option maxRecDepth 100000

theorem slot_function_getattribute : Slot "function" "__getattribute__" "object.__getattribute__" :=
  .of (owner := "object") (n := "__getattribute__") (by rw [typeLookup_type, builtinLookup_eq_fast]; kernel_rfl) (by decide +kernel) (by decide +kernel) (by decide +kernel)
    (by first | exact .inl (by decide +kernel) | exact .inr (by decide +kernel)) (by rw [isSubtype_type]; kernel_rfl)
theorem look_function_getattr : typeLookup (.type "function") (Str.ofString "__getattr__") = pure none := by rw [typeLookup_type, builtinLookup_eq_fast]; kernel_rfl
theorem entry_object_getattribute : entryFor table "object.__getattribute__" = some Builtin.«object.__getattribute__» := entryFor_of_tree (by kernel_rfl)
theorem args_object_getattribute (a b : Value) : argsOk "object.__getattribute__" ⟨[a, b], []⟩ := by unfold argsOk; kernel_rfl

section
variable {prog : Program} {w : World} {A : Around} {E : Value → Shared → Prop} {s : Shared}

theorem oga_read {f df : Addr} {fo : Obj} {fd : FuncData} {v : Value} {hsh : Int} {tk tn : Tok} {n : Nat} {Q : Value → Shared → Prop} (hx : s.heap.get? f = some fo)
    (hc : fo.cls = .type "function") (hd : fo.dict = some df) (hf : fo.data = .func fd) (hdf : s.heap.get? df = some (dictOf [⟨hsh, .str (Str.ofString "read") tk, v⟩] n))
    (h : Q v s) : wpAny (model prog w) A (Builtin.«object.__getattribute__» ⟨[.ref f, .str (Str.ofString "read") tn], []⟩) (fun fin s' => ∃ v, fin = Fin.done (Flow.ret v) ∧ Q v s') E s := by
  obtain ⟨hp, gs, dr, tks, os⟩ := s
  dsimp only at hx hdf h
  have hh : nsFind #[⟨hsh, .str (Str.ofString "read") tk, v⟩] (Str.ofString "read") = some v := by
    unfold nsFind findBy
    rw [show ([⟨hsh, .str (Str.ofString "read") tk, v⟩] : List DictEntry).toArray.find? _ = some ⟨hsh, .str (Str.ofString "read") tk, v⟩ from by first | rfl | simp]
    rfl
  unfold Builtin.«object.__getattribute__» Builtin.ObjectAttr.find Builtin.ObjectAttr.getOf Builtin.ObjectAttr.dataDescriptor? Builtin.ObjectAttr.ownThenClass Builtin.ObjectAttr.inOwnDict Builtin.ObjectAttr.ownDict Builtin.ObjectAttr.inDict
  repeat (first | (with_reducible refine wpAny_loadPart_at hx ?_; rw [hc]) | rw [look_function_read] | wp_step)
  rw [hf]
  (try k_unfold); (try dsimp only)
  unfold instanceDict
  repeat (first | (with_reducible refine wpAny_loadPart_at hx ?_; rw [hc]) | wp_step)
  rw [hd]
  refine wpAny_pure ?_
  have hn : hp.Ns df (fun y => nsFind #[⟨hsh, .str (Str.ofString "read") tk, v⟩] y) := ⟨_, _, _, hdf, rfl, fun e he => ⟨Str.ofString "read", tk, by have := List.mem_singleton.mp (Array.mem_toList_iff.mpr he); rw [this]⟩, fun _ => rfl⟩
  refine wpAny_nsGet hn ?_
  rw [hh]
  exact wpAny_bind (wpAny_rule (wpAny_pure (wpAny_pure ⟨_, rfl, h⟩)))

theorem get_read_attr {f df : Addr} {fo : Obj} {fd : FuncData} {v : Value} {hsh : Int} {tk : Tok} {n : Nat} {expr : Bool} {Q : Value → Shared → Prop} (hx : s.heap.get? f = some fo)
    (hc : fo.cls = .type "function") (hd : fo.dict = some df) (hf : fo.data = .func fd) (hdf : s.heap.get? df = some (dictOf [⟨hsh, .str (Str.ofString "read") tk, v⟩] n)) (hv : handedIn v = true)
    (h : Q v { s with toks := s.toks + 1 }) :
    wpAny (model prog w) A (getAttr (.ref f) (Str.ofString "read") expr) Q E s := by
  obtain ⟨hp, gs, dr, tks, os⟩ := s
  dsimp only at hx hdf h
  have ty : ∀ t', (⟨hp, gs, dr, t', os⟩ : Shared).TypeIs (.ref f) "function" := fun _ => ⟨fo, hx, hc⟩
  unfold getAttr getAttrBy
  refine wpAny_bind (wpAny_mkText (wpAny_holding (wpAny_bind (wpAny_typeOf (ty _) (wpAny_bind (wpAny_of_eq slot_function_getattribute.lookup ?_))))))
  show wpAny _ _ (getAttrByItsOwn (.ref f) (.str (Str.ofString "read") tks) (.type "function") (.builtin "object.__getattribute__") true expr) _ _ _
  unfold getAttrByItsOwn hookBefore callGetattribute boundAndCalled
  refine wpAny_bind (wpAny_of_eq (show (if onTheHeap (.type "function") then typeLookup (.type "function") "__getattr__" else pure none) = pure none from rfl) ?_)
  refine wpAny_bind (wpAny_attempt (wpAny_holding ?_))
  rw [show (expr && onTheHeap (Value.builtin "object.__getattribute__")) = false from by cases expr <;> rfl]
  simp only [Bool.false_eq_true, if_false]
  refine wpAny_bind (wpAny_of_eq (slot_function_getattribute.bind _) ?_)
  refine wpAny_mono (Q := fun v' s' => v' = v ∧ s' = ⟨hp, gs, dr, tks + 1, os⟩) (E := fun _ _ => False)
    (wpAny_call_entry slot_function_getattribute (ty _) entry_object_getattribute (oga_read hx hc hd hf hdf ⟨rfl, rfl⟩) (args_object_getattribute _ _)) (fun v' s' hv' => ?_) fun _ _ z => z.elim
  obtain ⟨rfl, rfl⟩ := hv'
  exact handed_on hv h

theorem get_read_method {f df : Addr} {fo : Obj} {fd : FuncData} {v : Value} {hsh : Int} {tk : Tok} {n : Nat} {pl : Sem Bool} {Q : Value × List Value → Shared → Prop} (hx : s.heap.get? f = some fo)
    (hc : fo.cls = .type "function") (hd : fo.dict = some df) (hf : fo.data = .func fd) (hdf : s.heap.get? df = some (dictOf [⟨hsh, .str (Str.ofString "read") tk, v⟩] n)) (hv : handedIn v = true)
    (h : Q (v, []) { s with toks := s.toks + 1 }) :
    wpAny (model prog w) A (getMethod (.ref f) (Str.ofString "read") pl) Q E s := by
  have ty : s.TypeIs (.ref f) "function" := ⟨fo, hx, hc⟩
  unfold getMethod
  refine wpAny_bind (wpAny_specialOf ty slot_function_getattribute.lookup ?_)
  show wpAny _ _ (if (Manifest.canonical "object.__getattribute__" != "object.__getattribute__") = true then _ else _) _ _ _
  rw [if_neg (by decide +kernel)]
  refine wpAny_bind (wpAny_specialOf ty look_function_getattr ?_)
  dsimp only [Option.isSome_none]
  simp only [Bool.false_eq_true, if_false]
  refine wpAny_bind (wpAny_specialOf ty look_function_read ?_)
  exact wpAny_bind (get_read_attr hx hc hd hf hdf hv (wpAny_pure h))
end
end Mine

namespace Mine
theorem wdReadChar_0 : True := by
  k_with_none
  k_with "my enter" => (refine' code_defS ?k1 ?k2 ?k3 ?k4 ?kO ?kD ?k5 ?kA ?kF ?kK ?k6 ?k7 ?k8 ?k9 ?kB ?_ ?c2 ?c3 ?c4 ?c5; (case kA => exact rfl); (case kF => exact rfl); (case kK => assumption); (case kD => assumption); (case k1 => k_asm); (case k2 => k_asm); (case k3 => k_asm); (case k4 => assumption); (case kO => assumption); (case k5 => k_asm); (case k6 => k_is); (case k7 => k_is); (case k8 => ktr_room); (case k9 => first | k_extra "my binds" | exact BindsTo.of_eq rfl); (case c5 => decide); (case kB => exact locs rfl); (case c2 => exact rfl); (case c3 => exact rfl); (case c4 => exact rfl); k_whole; intro g' L' h' FG' F' N' B' X' T' lN' lO'; (try dsimp only); (try k_lift B'); (try k_fold))
  k_with "my sub" => repeat (first | exact sub_nil | refine sub_cons (by k_mem) ?_)
  k_with "my spec" => ((case k1 => k_asm); (case k2 => k_asm); (case k3 => k_asm); (case k4 => k_asm); (case k5 => k_asm); (case k6 => exact rfl); (case k7 => ktr_room); (case k8 => ktr_units); (case h1 => k_extra "my sub"); (case h2 => k_extra "my sub"); (case h3 => k_extra "my dis"); k_whole)
  k_with "my enterC" => (refine' code_defCS ?k1 ?k2 ?k3 ?k4 ?kO ?kQ ?k5 ?kA ?kF ?kK ?k6 ?k7 ?k8 ?k9 ?kB ?kD ?_ ?c2 ?c3 ?c4; (case kA => exact rfl); (case kF => exact rfl); (case kK => assumption); (case kQ => assumption); (case k1 => k_asm); (case k2 => k_asm); (case k3 => k_asm); (case k4 => assumption); (case kO => assumption); (case k5 => k_asm); (case k6 => k_is); (case k7 => k_is); (case k8 => ktr_room); (case k9 => first | k_extra "my binds" | exact BindsTo.of_eq rfl); (case kB => exact rfl); (case kD => decide +kernel); (case c2 => exact rfl); (case c3 => exact rfl); (case c4 => exact rfl); k_whole; intro g' L' h' tk' cells' FG' F' N' Y' B' X' T' lN' lO'; (have l1' := lN'); (try k_lt l1'); k_cells Y'; (try simp only [List.cons_append, List.nil_append] at N'); (try dsimp only); (try k_lift B'); (try k_fold))
  k_with "my dis" => (refine dis_of ?_; dsimp only [DisL, OffL]; ((repeat' first | exact True.intro | refine And.intro ?_ ?_) <;> first | k_extra "ne" | omega))
  k_with "my nel" => (dsimp only [NeL]; ((repeat' first | exact True.intro | refine And.intro ?_ ?_) <;> first | k_extra "ne" | omega))
  k_with "k ne" => (refine neN ?_; (try dsimp only); k_extra "ne")
  k_with "ne" => (first | with_reducible assumption | exact Nat.ne_of_lt (by with_reducible assumption) | exact Nat.ne_of_gt (by with_reducible assumption) | exact Ne.symm (by with_reducible assumption) | ((repeat (rename (_ < _ ∧ _) => qz; first | (refine ne_r qz ?_; first | exact qz.1 | exact qz.2.1 | exact qz.2.2.1 | exact qz.2.2.2.1 | exact qz.2.2.2.2.1 | exact qz.2.2.2.2.2.1 | exact qz.2.2.2.2.2.2.1 | exact qz.2.2.2.2.2.2.2.1 | exact qz.2.2.2.2.2.2.2.2.1 | exact qz.2.2.2.2.2.2.2.2.2.1 | exact qz.2.2.2.2.2.2.2.2.2.2.1 | exact qz.2.2.2.2.2.2.2.2.2.2.2.1 | exact qz.2.2.2.2.2.2.2.2.2.2.2.2.1 | exact qz.2.2.2.2.2.2.2.2.2.2.2.2.2.1 | exact qz.2.2.2.2.2.2.2.2.2.2.2.2.2.2.1 | exact qz.2.2.2.2.2.2.2.2.2.2.2.2.2.2.2.1 | exact qz.2.2.2.2.2.2.2.2.2.2.2.2.2.2.2.2.1 | exact qz.2.2.2.2.2.2.2.2.2.2.2.2.2.2.2.2.2.1) | (refine ne_l qz ?_; first | exact qz.1 | exact qz.2.1 | exact qz.2.2.1 | exact qz.2.2.2.1 | exact qz.2.2.2.2.1 | exact qz.2.2.2.2.2.1 | exact qz.2.2.2.2.2.2.1 | exact qz.2.2.2.2.2.2.2.1 | exact qz.2.2.2.2.2.2.2.2.1 | exact qz.2.2.2.2.2.2.2.2.2.1 | exact qz.2.2.2.2.2.2.2.2.2.2.1 | exact qz.2.2.2.2.2.2.2.2.2.2.2.1 | exact qz.2.2.2.2.2.2.2.2.2.2.2.2.1 | exact qz.2.2.2.2.2.2.2.2.2.2.2.2.2.1 | exact qz.2.2.2.2.2.2.2.2.2.2.2.2.2.2.1 | exact qz.2.2.2.2.2.2.2.2.2.2.2.2.2.2.2.1 | exact qz.2.2.2.2.2.2.2.2.2.2.2.2.2.2.2.2.1 | exact qz.2.2.2.2.2.2.2.2.2.2.2.2.2.2.2.2.2.1) | clear qz)); done) | k_extra "ne cells" | k_extra "ne one" | k_extra "ne off" | k_extra "ne up")
  k_with "ne cells" => (first | exact ne_off (i := 0) (j := 1) rfl | exact ne_off (i := 0) (j := 2) rfl | exact ne_off (i := 0) (j := 3) rfl | exact ne_off (i := 0) (j := 4) rfl | exact ne_off (i := 1) (j := 0) rfl | exact ne_off (i := 1) (j := 2) rfl | exact ne_off (i := 1) (j := 3) rfl | exact ne_off (i := 1) (j := 4) rfl | exact ne_off (i := 2) (j := 0) rfl | exact ne_off (i := 2) (j := 1) rfl | exact ne_off (i := 2) (j := 3) rfl | exact ne_off (i := 2) (j := 4) rfl | exact ne_off (i := 3) (j := 0) rfl | exact ne_off (i := 3) (j := 1) rfl | exact ne_off (i := 3) (j := 2) rfl | exact ne_off (i := 3) (j := 4) rfl | exact ne_off (i := 4) (j := 0) rfl | exact ne_off (i := 4) (j := 1) rfl | exact ne_off (i := 4) (j := 2) rfl | exact ne_off (i := 4) (j := 3) rfl)
  k_with "ne up" => (first | exact Nat.ne_of_lt (lt_up1 (by with_reducible assumption)) | exact Nat.ne_of_gt (lt_up1 (by with_reducible assumption)) | exact Nat.ne_of_lt (lt_up2 (by with_reducible assumption)) | exact Nat.ne_of_gt (lt_up2 (by with_reducible assumption)) | exact Nat.ne_of_lt (lt_up3 (by with_reducible assumption)) | exact Nat.ne_of_gt (lt_up3 (by with_reducible assumption)) | exact Nat.ne_of_lt (lt_up4 (by with_reducible assumption)) | exact Nat.ne_of_gt (lt_up4 (by with_reducible assumption)) | ((repeat (rename (_ < _ ∧ _) => qz; first | (refine ne_r1 qz ?_; first | exact qz.1 | exact qz.2.1 | exact qz.2.2.1 | exact qz.2.2.2.1 | exact qz.2.2.2.2.1 | exact qz.2.2.2.2.2.1 | exact qz.2.2.2.2.2.2.1 | exact qz.2.2.2.2.2.2.2.1 | exact qz.2.2.2.2.2.2.2.2.1 | exact qz.2.2.2.2.2.2.2.2.2.1 | exact qz.2.2.2.2.2.2.2.2.2.2.1 | exact qz.2.2.2.2.2.2.2.2.2.2.2.1 | exact qz.2.2.2.2.2.2.2.2.2.2.2.2.1 | exact qz.2.2.2.2.2.2.2.2.2.2.2.2.2.1 | exact qz.2.2.2.2.2.2.2.2.2.2.2.2.2.2.1 | exact qz.2.2.2.2.2.2.2.2.2.2.2.2.2.2.2.1 | exact qz.2.2.2.2.2.2.2.2.2.2.2.2.2.2.2.2.1 | exact qz.2.2.2.2.2.2.2.2.2.2.2.2.2.2.2.2.2.1) | (refine ne_l1 qz ?_; first | exact qz.1 | exact qz.2.1 | exact qz.2.2.1 | exact qz.2.2.2.1 | exact qz.2.2.2.2.1 | exact qz.2.2.2.2.2.1 | exact qz.2.2.2.2.2.2.1 | exact qz.2.2.2.2.2.2.2.1 | exact qz.2.2.2.2.2.2.2.2.1 | exact qz.2.2.2.2.2.2.2.2.2.1 | exact qz.2.2.2.2.2.2.2.2.2.2.1 | exact qz.2.2.2.2.2.2.2.2.2.2.2.1 | exact qz.2.2.2.2.2.2.2.2.2.2.2.2.1 | exact qz.2.2.2.2.2.2.2.2.2.2.2.2.2.1 | exact qz.2.2.2.2.2.2.2.2.2.2.2.2.2.2.1 | exact qz.2.2.2.2.2.2.2.2.2.2.2.2.2.2.2.1 | exact qz.2.2.2.2.2.2.2.2.2.2.2.2.2.2.2.2.1 | exact qz.2.2.2.2.2.2.2.2.2.2.2.2.2.2.2.2.2.1) | (refine ne_r2 qz ?_; first | exact qz.1 | exact qz.2.1 | exact qz.2.2.1 | exact qz.2.2.2.1 | exact qz.2.2.2.2.1 | exact qz.2.2.2.2.2.1 | exact qz.2.2.2.2.2.2.1 | exact qz.2.2.2.2.2.2.2.1 | exact qz.2.2.2.2.2.2.2.2.1 | exact qz.2.2.2.2.2.2.2.2.2.1 | exact qz.2.2.2.2.2.2.2.2.2.2.1 | exact qz.2.2.2.2.2.2.2.2.2.2.2.1 | exact qz.2.2.2.2.2.2.2.2.2.2.2.2.1 | exact qz.2.2.2.2.2.2.2.2.2.2.2.2.2.1 | exact qz.2.2.2.2.2.2.2.2.2.2.2.2.2.2.1 | exact qz.2.2.2.2.2.2.2.2.2.2.2.2.2.2.2.1 | exact qz.2.2.2.2.2.2.2.2.2.2.2.2.2.2.2.2.1 | exact qz.2.2.2.2.2.2.2.2.2.2.2.2.2.2.2.2.2.1) | (refine ne_l2 qz ?_; first | exact qz.1 | exact qz.2.1 | exact qz.2.2.1 | exact qz.2.2.2.1 | exact qz.2.2.2.2.1 | exact qz.2.2.2.2.2.1 | exact qz.2.2.2.2.2.2.1 | exact qz.2.2.2.2.2.2.2.1 | exact qz.2.2.2.2.2.2.2.2.1 | exact qz.2.2.2.2.2.2.2.2.2.1 | exact qz.2.2.2.2.2.2.2.2.2.2.1 | exact qz.2.2.2.2.2.2.2.2.2.2.2.1 | exact qz.2.2.2.2.2.2.2.2.2.2.2.2.1 | exact qz.2.2.2.2.2.2.2.2.2.2.2.2.2.1 | exact qz.2.2.2.2.2.2.2.2.2.2.2.2.2.2.1 | exact qz.2.2.2.2.2.2.2.2.2.2.2.2.2.2.2.1 | exact qz.2.2.2.2.2.2.2.2.2.2.2.2.2.2.2.2.1 | exact qz.2.2.2.2.2.2.2.2.2.2.2.2.2.2.2.2.2.1) | (refine ne_r3 qz ?_; first | exact qz.1 | exact qz.2.1 | exact qz.2.2.1 | exact qz.2.2.2.1 | exact qz.2.2.2.2.1 | exact qz.2.2.2.2.2.1 | exact qz.2.2.2.2.2.2.1 | exact qz.2.2.2.2.2.2.2.1 | exact qz.2.2.2.2.2.2.2.2.1 | exact qz.2.2.2.2.2.2.2.2.2.1 | exact qz.2.2.2.2.2.2.2.2.2.2.1 | exact qz.2.2.2.2.2.2.2.2.2.2.2.1 | exact qz.2.2.2.2.2.2.2.2.2.2.2.2.1 | exact qz.2.2.2.2.2.2.2.2.2.2.2.2.2.1 | exact qz.2.2.2.2.2.2.2.2.2.2.2.2.2.2.1 | exact qz.2.2.2.2.2.2.2.2.2.2.2.2.2.2.2.1 | exact qz.2.2.2.2.2.2.2.2.2.2.2.2.2.2.2.2.1 | exact qz.2.2.2.2.2.2.2.2.2.2.2.2.2.2.2.2.2.1) | (refine ne_l3 qz ?_; first | exact qz.1 | exact qz.2.1 | exact qz.2.2.1 | exact qz.2.2.2.1 | exact qz.2.2.2.2.1 | exact qz.2.2.2.2.2.1 | exact qz.2.2.2.2.2.2.1 | exact qz.2.2.2.2.2.2.2.1 | exact qz.2.2.2.2.2.2.2.2.1 | exact qz.2.2.2.2.2.2.2.2.2.1 | exact qz.2.2.2.2.2.2.2.2.2.2.1 | exact qz.2.2.2.2.2.2.2.2.2.2.2.1 | exact qz.2.2.2.2.2.2.2.2.2.2.2.2.1 | exact qz.2.2.2.2.2.2.2.2.2.2.2.2.2.1 | exact qz.2.2.2.2.2.2.2.2.2.2.2.2.2.2.1 | exact qz.2.2.2.2.2.2.2.2.2.2.2.2.2.2.2.1 | exact qz.2.2.2.2.2.2.2.2.2.2.2.2.2.2.2.2.1 | exact qz.2.2.2.2.2.2.2.2.2.2.2.2.2.2.2.2.2.1) | (refine ne_r4 qz ?_; first | exact qz.1 | exact qz.2.1 | exact qz.2.2.1 | exact qz.2.2.2.1 | exact qz.2.2.2.2.1 | exact qz.2.2.2.2.2.1 | exact qz.2.2.2.2.2.2.1 | exact qz.2.2.2.2.2.2.2.1 | exact qz.2.2.2.2.2.2.2.2.1 | exact qz.2.2.2.2.2.2.2.2.2.1 | exact qz.2.2.2.2.2.2.2.2.2.2.1 | exact qz.2.2.2.2.2.2.2.2.2.2.2.1 | exact qz.2.2.2.2.2.2.2.2.2.2.2.2.1 | exact qz.2.2.2.2.2.2.2.2.2.2.2.2.2.1 | exact qz.2.2.2.2.2.2.2.2.2.2.2.2.2.2.1 | exact qz.2.2.2.2.2.2.2.2.2.2.2.2.2.2.2.1 | exact qz.2.2.2.2.2.2.2.2.2.2.2.2.2.2.2.2.1 | exact qz.2.2.2.2.2.2.2.2.2.2.2.2.2.2.2.2.2.1) | (refine ne_l4 qz ?_; first | exact qz.1 | exact qz.2.1 | exact qz.2.2.1 | exact qz.2.2.2.1 | exact qz.2.2.2.2.1 | exact qz.2.2.2.2.2.1 | exact qz.2.2.2.2.2.2.1 | exact qz.2.2.2.2.2.2.2.1 | exact qz.2.2.2.2.2.2.2.2.1 | exact qz.2.2.2.2.2.2.2.2.2.1 | exact qz.2.2.2.2.2.2.2.2.2.2.1 | exact qz.2.2.2.2.2.2.2.2.2.2.2.1 | exact qz.2.2.2.2.2.2.2.2.2.2.2.2.1 | exact qz.2.2.2.2.2.2.2.2.2.2.2.2.2.1 | exact qz.2.2.2.2.2.2.2.2.2.2.2.2.2.2.1 | exact qz.2.2.2.2.2.2.2.2.2.2.2.2.2.2.2.1 | exact qz.2.2.2.2.2.2.2.2.2.2.2.2.2.2.2.2.1 | exact qz.2.2.2.2.2.2.2.2.2.2.2.2.2.2.2.2.2.1) | clear qz)); done))
  k_with "execs cons" => k_fold
  k_with "exec Assign" => k_fold
  k_with "exec If" => k_fold
  k_with "exec AugAssign" => k_fold
  k_with "my looks" => (repeat' first | exact True.intro | (refine And.intro ?_ ?_) | with_unfolding_all rfl)
  k_with "ne off" => ((repeat (rename (LCg.Off3 _ _ _ _) => qo; first | exact qo.1.1 | exact Ne.symm qo.1.1 | exact qo.1.2.1 | exact Ne.symm qo.1.2.1 | exact qo.1.2.2 | exact Ne.symm qo.1.2.2 | exact qo.2.1.1 | exact Ne.symm qo.2.1.1 | exact qo.2.1.2.1 | exact Ne.symm qo.2.1.2.1 | exact qo.2.1.2.2 | exact Ne.symm qo.2.1.2.2 | exact qo.2.2.1.1 | exact Ne.symm qo.2.2.1.1 | exact qo.2.2.1.2.1 | exact Ne.symm qo.2.2.1.2.1 | exact qo.2.2.1.2.2 | exact Ne.symm qo.2.2.1.2.2 | exact qo.2.2.2.1.1 | exact Ne.symm qo.2.2.2.1.1 | exact qo.2.2.2.1.2.1 | exact Ne.symm qo.2.2.2.1.2.1 | exact qo.2.2.2.1.2.2 | exact Ne.symm qo.2.2.2.1.2.2 | exact qo.2.2.2.2.1.1 | exact Ne.symm qo.2.2.2.2.1.1 | exact qo.2.2.2.2.1.2.1 | exact Ne.symm qo.2.2.2.2.1.2.1 | exact qo.2.2.2.2.1.2.2 | exact Ne.symm qo.2.2.2.2.1.2.2 | exact qo.2.2.2.2.2.1.1 | exact Ne.symm qo.2.2.2.2.2.1.1 | exact qo.2.2.2.2.2.1.2.1 | exact Ne.symm qo.2.2.2.2.2.1.2.1 | exact qo.2.2.2.2.2.1.2.2 | exact Ne.symm qo.2.2.2.2.2.1.2.2 | exact qo.2.2.2.2.2.2.1.1 | exact Ne.symm qo.2.2.2.2.2.2.1.1 | exact qo.2.2.2.2.2.2.1.2.1 | exact Ne.symm qo.2.2.2.2.2.2.1.2.1 | exact qo.2.2.2.2.2.2.1.2.2 | exact Ne.symm qo.2.2.2.2.2.2.1.2.2 | exact qo.2.2.2.2.2.2.2.1.1 | exact Ne.symm qo.2.2.2.2.2.2.2.1.1 | exact qo.2.2.2.2.2.2.2.1.2.1 | exact Ne.symm qo.2.2.2.2.2.2.2.1.2.1 | exact qo.2.2.2.2.2.2.2.1.2.2 | exact Ne.symm qo.2.2.2.2.2.2.2.1.2.2 | exact qo.2.2.2.2.2.2.2.2.1.1 | exact Ne.symm qo.2.2.2.2.2.2.2.2.1.1 | exact qo.2.2.2.2.2.2.2.2.1.2.1 | exact Ne.symm qo.2.2.2.2.2.2.2.2.1.2.1 | exact qo.2.2.2.2.2.2.2.2.1.2.2 | exact Ne.symm qo.2.2.2.2.2.2.2.2.1.2.2 | exact qo.2.2.2.2.2.2.2.2.2.1.1 | exact Ne.symm qo.2.2.2.2.2.2.2.2.2.1.1 | exact qo.2.2.2.2.2.2.2.2.2.1.2.1 | exact Ne.symm qo.2.2.2.2.2.2.2.2.2.1.2.1 | exact qo.2.2.2.2.2.2.2.2.2.1.2.2 | exact Ne.symm qo.2.2.2.2.2.2.2.2.2.1.2.2 | exact qo.2.2.2.2.2.2.2.2.2.2.1.1 | exact Ne.symm qo.2.2.2.2.2.2.2.2.2.2.1.1 | exact qo.2.2.2.2.2.2.2.2.2.2.1.2.1 | exact Ne.symm qo.2.2.2.2.2.2.2.2.2.2.1.2.1 | exact qo.2.2.2.2.2.2.2.2.2.2.1.2.2 | exact Ne.symm qo.2.2.2.2.2.2.2.2.2.2.1.2.2 | exact qo.2.2.2.2.2.2.2.2.2.2.2.1.1 | exact Ne.symm qo.2.2.2.2.2.2.2.2.2.2.2.1.1 | exact qo.2.2.2.2.2.2.2.2.2.2.2.1.2.1 | exact Ne.symm qo.2.2.2.2.2.2.2.2.2.2.2.1.2.1 | exact qo.2.2.2.2.2.2.2.2.2.2.2.1.2.2 | exact Ne.symm qo.2.2.2.2.2.2.2.2.2.2.2.1.2.2 | exact qo.2.2.2.2.2.2.2.2.2.2.2.2.1.1 | exact Ne.symm qo.2.2.2.2.2.2.2.2.2.2.2.2.1.1 | exact qo.2.2.2.2.2.2.2.2.2.2.2.2.1.2.1 | exact Ne.symm qo.2.2.2.2.2.2.2.2.2.2.2.2.1.2.1 | exact qo.2.2.2.2.2.2.2.2.2.2.2.2.1.2.2 | exact Ne.symm qo.2.2.2.2.2.2.2.2.2.2.2.2.1.2.2 | exact qo.2.2.2.2.2.2.2.2.2.2.2.2.2.1.1 | exact Ne.symm qo.2.2.2.2.2.2.2.2.2.2.2.2.2.1.1 | exact qo.2.2.2.2.2.2.2.2.2.2.2.2.2.1.2.1 | exact Ne.symm qo.2.2.2.2.2.2.2.2.2.2.2.2.2.1.2.1 | exact qo.2.2.2.2.2.2.2.2.2.2.2.2.2.1.2.2 | exact Ne.symm qo.2.2.2.2.2.2.2.2.2.2.2.2.2.1.2.2 | exact qo.2.2.2.2.2.2.2.2.2.2.2.2.2.2.1.1 | exact Ne.symm qo.2.2.2.2.2.2.2.2.2.2.2.2.2.2.1.1 | exact qo.2.2.2.2.2.2.2.2.2.2.2.2.2.2.1.2.1 | exact Ne.symm qo.2.2.2.2.2.2.2.2.2.2.2.2.2.2.1.2.1 | exact qo.2.2.2.2.2.2.2.2.2.2.2.2.2.2.1.2.2 | exact Ne.symm qo.2.2.2.2.2.2.2.2.2.2.2.2.2.2.1.2.2 | exact qo.2.2.2.2.2.2.2.2.2.2.2.2.2.2.2.1.1 | exact Ne.symm qo.2.2.2.2.2.2.2.2.2.2.2.2.2.2.2.1.1 | exact qo.2.2.2.2.2.2.2.2.2.2.2.2.2.2.2.1.2.1 | exact Ne.symm qo.2.2.2.2.2.2.2.2.2.2.2.2.2.2.2.1.2.1 | exact qo.2.2.2.2.2.2.2.2.2.2.2.2.2.2.2.1.2.2 | exact Ne.symm qo.2.2.2.2.2.2.2.2.2.2.2.2.2.2.2.1.2.2 | exact qo.2.2.2.2.2.2.2.2.2.2.2.2.2.2.2.2.1.1 | exact Ne.symm qo.2.2.2.2.2.2.2.2.2.2.2.2.2.2.2.2.1.1 | exact qo.2.2.2.2.2.2.2.2.2.2.2.2.2.2.2.2.1.2.1 | exact Ne.symm qo.2.2.2.2.2.2.2.2.2.2.2.2.2.2.2.2.1.2.1 | exact qo.2.2.2.2.2.2.2.2.2.2.2.2.2.2.2.2.1.2.2 | exact Ne.symm qo.2.2.2.2.2.2.2.2.2.2.2.2.2.2.2.2.1.2.2 | clear qo)); done)
  k_with "lt" => (first | with_reducible assumption | ((repeat (rename (_ < _ ∧ _) => qz; first | exact qz.1 | exact qz.2.1 | exact qz.2.2.1 | exact qz.2.2.2.1 | exact qz.2.2.2.2.1 | exact qz.2.2.2.2.2.1 | exact qz.2.2.2.2.2.2.1 | exact qz.2.2.2.2.2.2.2.1 | exact qz.2.2.2.2.2.2.2.2.1 | exact qz.2.2.2.2.2.2.2.2.2.1 | exact qz.2.2.2.2.2.2.2.2.2.2.1 | exact qz.2.2.2.2.2.2.2.2.2.2.2.1 | exact qz.2.2.2.2.2.2.2.2.2.2.2.2.1 | exact qz.2.2.2.2.2.2.2.2.2.2.2.2.2.1 | exact qz.2.2.2.2.2.2.2.2.2.2.2.2.2.2.1 | exact qz.2.2.2.2.2.2.2.2.2.2.2.2.2.2.2.1 | exact qz.2.2.2.2.2.2.2.2.2.2.2.2.2.2.2.2.1 | exact qz.2.2.2.2.2.2.2.2.2.2.2.2.2.2.2.2.2.1 | clear qz)); done))
  k_with "ne one" => ((repeat (rename (_ ≠ _ ∧ _) => qo; first | exact qo.1 | exact Ne.symm qo.1 | exact qo.2.1 | exact Ne.symm qo.2.1 | exact qo.2.2.1 | exact Ne.symm qo.2.2.1 | exact qo.2.2.2.1 | exact Ne.symm qo.2.2.2.1 | exact qo.2.2.2.2.1 | exact Ne.symm qo.2.2.2.2.1 | exact qo.2.2.2.2.2.1 | exact Ne.symm qo.2.2.2.2.2.1 | exact qo.2.2.2.2.2.2.1 | exact Ne.symm qo.2.2.2.2.2.2.1 | exact qo.2.2.2.2.2.2.2.1 | exact Ne.symm qo.2.2.2.2.2.2.2.1 | exact qo.2.2.2.2.2.2.2.2.1 | exact Ne.symm qo.2.2.2.2.2.2.2.2.1 | exact qo.2.2.2.2.2.2.2.2.2.1 | exact Ne.symm qo.2.2.2.2.2.2.2.2.2.1 | exact qo.2.2.2.2.2.2.2.2.2.2.1 | exact Ne.symm qo.2.2.2.2.2.2.2.2.2.2.1 | exact qo.2.2.2.2.2.2.2.2.2.2.2.1 | exact Ne.symm qo.2.2.2.2.2.2.2.2.2.2.2.1 | exact qo.2.2.2.2.2.2.2.2.2.2.2.2.1 | exact Ne.symm qo.2.2.2.2.2.2.2.2.2.2.2.2.1 | exact qo.2.2.2.2.2.2.2.2.2.2.2.2.2.1 | exact Ne.symm qo.2.2.2.2.2.2.2.2.2.2.2.2.2.1 | exact qo.2.2.2.2.2.2.2.2.2.2.2.2.2.2.1 | exact Ne.symm qo.2.2.2.2.2.2.2.2.2.2.2.2.2.2.1 | exact qo.2.2.2.2.2.2.2.2.2.2.2.2.2.2.2.1 | exact Ne.symm qo.2.2.2.2.2.2.2.2.2.2.2.2.2.2.2.1 | exact qo.2.2.2.2.2.2.2.2.2.2.2.2.2.2.2.2.1 | exact Ne.symm qo.2.2.2.2.2.2.2.2.2.2.2.2.2.2.2.2.1 | clear qo)); done)
  trivial
set_option maxRecDepth 100000

/-- the lexer's attributes -/
noncomputable abbrev lexD (P : Params) (k : Int) (t0 t1 t2 t3 t4 t5 : Tok) (f pb : Addr) : Obj :=
  dictOf [⟨PyData.keyHash P (Str.ofString "lineno"), .str (Str.ofString "lineno") t1, .int k t0⟩, ⟨PyData.keyHash P (Str.ofString "instream"), .str (Str.ofString "instream") t2, .ref f⟩,
    ⟨PyData.keyHash P (Str.ofString "whitespace"), .str (Str.ofString "whitespace") t3, .str (Str.ofString "\n\t\x0d ") t5⟩, ⟨PyData.keyHash P (Str.ofString "pushback"), .str (Str.ofString "pushback") t4, .ref pb⟩] 4
noncomputable abbrev strmO (fd : FuncData) (df : Addr) : Obj := { cls := .type "function", dict := some df, data := .func fd }
noncomputable abbrev readD (P : Params) (t6 : Tok) (gl : Addr) : Obj := dictOf [⟨PyData.keyHash P (Str.ofString "read"), .str (Str.ofString "read") t6, .ref gl⟩] 1

/-- the reader gl gives the next sign of the text -/
noncomputable def ReadsOn (w : World) (gl gc cell I : Addr) (go gco co : Obj) (x : Str) (t : Tok) : Prop :=
  (∀ i c tk, x.cps[i]? = some c → FnSpec w gl [.int 1 tk] [(gl, go), (gc, gco), (cell, co), (I, siObj x t i)] 2 40 (fun _ v n => n = [(gl, go), (gc, gco), (cell, co), (I, siObj x t (i + 1))] ∧ ∃ u, v = .str ⟨#[c]⟩ u)) ∧
  (∀ i tk, x.cps[i]? = none → FnSpec w gl [.int 1 tk] [(gl, go), (gc, gco), (cell, co), (I, siObj x t i)] 2 40 (fun _ v n => n = [(gl, go), (gc, gco), (cell, co), (I, siEnd x i)] ∧ ∃ u, v = .str ⟨#[]⟩ u))

theorem callWith_led {M : Model} {A : Around} {E : Value → Shared → Prop} {s : Shared} {env : Env} {pos : Pos} {first : List Value} {Q : Value → Shared → Prop} {gl : Addr} {go : Obj} {gfd : FuncData} {e : Expr} {rest : List Expr}
    (hg : go.data = .func gfd) (h : wpAny M A (spliced (backTo pos (starEach (e :: rest) env))) (fun vs s₁ => s₁.heap.get? gl = some go ∧ wpAny M A (call (.ref gl) (first ++ vs)) Q E s₁) E s)
    (he : starEach (e :: rest) env = (false, eval e env) :: starEach rest env := by rfl) (hplain : (backTo pos (starEach rest env)).any (·.1) = false := by rfl) :
    wpAny M A (callWith pos (.ref gl) first (backTo pos (starEach (e :: rest) env)) []) Q E s := by
  rw [he] at h ⊢
  refine callWith_of (P := fun h => h.get? gl = some go) (by show ((false || (backTo pos (starEach rest env)).any (·.1)) || false) = false; rw [hplain]; rfl) (fun h hh => ⟨.frame, .inl rfl, ?_⟩) (evalArgs_plain h)
  refine (Looks.ld (part := none) hh).andThen ?_
  rw [hg]
  exact .now

theorem wdReadChar_1 : True := by
  k_with "callWith ref" => (k_here; k_dflt (refine' callWith_led hgo ?_; k_whole))
  trivial
theorem wdReadChar_2 : True := by
  k_with "And" => (k_here; (with_reducible show Heap.get? _ _ = some _ ∧ _); k_dflt (refine' ⟨News.get (by k_asm) ?a1, ?_⟩; (case a1 => k_mem)))
  trivial
theorem wdReadChar_3 : True := by
  k_with "getMethod ref" => (k_here; (with_reducible show wpAny _ _ (getMethod (Value.ref _) (Str.ofString "read") _) _ _ _); k_dflt (refine' get_read_method (News.get N' ?a1) ?a2 ?a3 ?a4 (News.get N' ?a5) ?a6 ?_; (case a1 => k_mem); (case a2 => exact rfl); (case a3 => exact rfl); (case a4 => exact rfl); (case a5 => k_mem); (case a6 => exact rfl); k_whole))
  trivial

/-- the addresses lie in the order in which the objects were made -/
theorem below_pb {cell I f gc gl df dx x pb : Nat} (ho : @LT.lt Nat _ cell I ∧ @LT.lt Nat _ I f ∧ @LT.lt Nat _ f gc ∧ @LT.lt Nat _ gc gl ∧ @LT.lt Nat _ gl df ∧ @LT.lt Nat _ df dx ∧ @LT.lt Nat _ dx x ∧ @LT.lt Nat _ x pb) :
    @LT.lt Nat _ x pb ∧ @LT.lt Nat _ dx pb ∧ @LT.lt Nat _ df pb ∧ @LT.lt Nat _ gl pb ∧ @LT.lt Nat _ gc pb ∧ @LT.lt Nat _ f pb ∧ @LT.lt Nat _ I pb ∧ @LT.lt Nat _ cell pb := by
  refine ⟨?_, ?_, ?_, ?_, ?_, ?_, ?_, ?_⟩ <;> omega
noncomputable def Ordered (cell I f gc gl df dx x pb : Nat) : Prop := @LT.lt Nat _ cell I ∧ @LT.lt Nat _ I f ∧ @LT.lt Nat _ f gc ∧ @LT.lt Nat _ gc gl ∧ @LT.lt Nat _ gl df ∧ @LT.lt Nat _ df dx ∧ @LT.lt Nat _ dx x ∧ @LT.lt Nat _ x pb

section
variable {w : World} {x dx f df gl gc cell I pb : Addr} {fd : FuncData} {go gco co : Obj} {txt : Str} {tt : Tok}

theorem wdReadChar_4 : True := by
  k_with "call ref" => (k_here; (with_reducible show wpAny _ _ (call (Value.ref _) [Value.int 1 _]) _ _ _); k_dflt (refine' spec_use (hr.1 i c _ hc) ?k1 ?k2 ?k3 ?k4 ?k5 ?k6 [(x, instObj 94 dx), (dx, lexD w.params k t0 t1 t2 t3 t4 t5 f pb), (f, strmO fd df), (df, readD w.params t6 gl)] ?h1 ?h2 ?h3 ?k7 ?k8 ?_; k_extra "my spec"); intro hi' v' n' h'' tk'' l1'' l2'' hp' F'' N''; (try k_unfold); (try dsimp only); (try k_fold); obtain ⟨e1', u', e2'⟩ := hp'; subst e1'; subst e2'; simp only [List.cons_append, List.nil_append] at N''; (try dsimp only))
  trivial

set_option maxHeartbeats 8000000 in
theorem read_char_item (hr : ReadsOn w gl gc cell I go gco co txt tt) (i c : Nat) (hc : txt.cps[i]? = some c) (k : Int) (t0 t1 t2 t3 t4 t5 t6 : Tok) {gfd : FuncData} (hgo : go.data = .func gfd) (ho : Ordered cell I f gc gl df dx x pb) :
    FnSpec w 77 [.ref x] [(x, instObj 94 dx), (dx, lexD w.params k t0 t1 t2 t3 t4 t5 f pb), (f, strmO fd df), (df, readD w.params t6 gl), (gl, go), (gc, gco), (cell, co), (I, siObj txt tt i)] 4 80
      (fun _ v n => ∃ t0', n = [(x, instObj 94 dx), (dx, lexD w.params (if c = 10 then k + 1 else k) t0' t1 t2 t3 t4 t5 f pb), (f, strmO fd df), (df, readD w.params t6 gl), (gl, go), (gc, gco), (cell, co), (I, siObj txt tt (i + 1))] ∧ ∃ u, v = .str ⟨#[c]⟩ u) := by
  unfold FnSpec
  unfold Ordered at ho
  k_fill
  w_top off
  intro mean mg mb dp un gd cn cs a ccd cl outer A₀ base h₀ L m s Q others B F X N NO hdis T hk hd hu hret
  k_with "my binds" => exact BindsTo.of_eq (binds := [(Str.ofString "self", .ref x)]) rfl
  k_dflt k_extra "my enter"
  k_steps
  all_goals (rename (_ == _) = _ => hcq; rw [one_eq (d := 10) (by decide +kernel)] at hcq; simp only [decide_eq_true_eq, decide_eq_false_iff_not] at hcq)
  · simp only [if_pos hcq] at hret
    (refine' left_end hret lN' lO' (by assumption) (by assumption) ⟨_, rfl, _, rfl⟩ ?hs; (case hs => k_extra "my sub"))
  · simp only [if_neg hcq] at hret
    (refine' left_end hret lN' lO' (by assumption) (by assumption) ⟨_, rfl, _, rfl⟩ ?hs; (case hs => k_extra "my sub"))

theorem wdReadChar_5 : True := by
  k_with "call ref" => (k_here; (with_reducible show wpAny _ _ (call (Value.ref _) [Value.int 1 _]) _ _ _); k_dflt (refine' spec_use (hr.2 i _ hc) ?k1 ?k2 ?k3 ?k4 ?k5 ?k6 [(x, instObj 94 dx), (dx, lexD w.params k t0 t1 t2 t3 t4 t5 f pb), (f, strmO fd df), (df, readD w.params t6 gl)] ?h1 ?h2 ?h3 ?k7 ?k8 ?_; k_extra "my spec"); intro hi' v' n' h'' tk'' l1'' l2'' hp' F'' N''; (try k_unfold); (try dsimp only); (try k_fold); obtain ⟨e1', u', e2'⟩ := hp'; subst e1'; subst e2'; simp only [List.cons_append, List.nil_append] at N''; (try dsimp only))
  trivial

set_option maxHeartbeats 8000000 in
theorem read_char_end (hr : ReadsOn w gl gc cell I go gco co txt tt) (i : Nat) (hc : txt.cps[i]? = none) (k : Int) (t0 t1 t2 t3 t4 t5 t6 : Tok) {gfd : FuncData} (hgo : go.data = .func gfd) (ho : Ordered cell I f gc gl df dx x pb) :
    FnSpec w 77 [.ref x] [(x, instObj 94 dx), (dx, lexD w.params k t0 t1 t2 t3 t4 t5 f pb), (f, strmO fd df), (df, readD w.params t6 gl), (gl, go), (gc, gco), (cell, co), (I, siObj txt tt i)] 4 80
      (fun _ v n => n = [(x, instObj 94 dx), (dx, lexD w.params k t0 t1 t2 t3 t4 t5 f pb), (f, strmO fd df), (df, readD w.params t6 gl), (gl, go), (gc, gco), (cell, co), (I, siEnd txt i)] ∧ ∃ u, v = .str ⟨#[]⟩ u) := by
  unfold FnSpec
  unfold Ordered at ho
  k_fill
  w_top off
  intro mean mg mb dp un gd cn cs a ccd cl outer A₀ base h₀ L m s Q others B F X N NO hdis T hk hd hu hret
  k_with "my binds" => exact BindsTo.of_eq (binds := [(Str.ofString "self", .ref x)]) rfl
  k_dflt k_extra "my enter"
  k_steps
  (refine' left_end hret lN' lO' (by assumption) (by assumption) ?hp ?hs; (case hp => exact ⟨rfl, _, rfl⟩); (case hs => k_extra "my sub"))
end
end Mine

namespace Mine
set_option maxRecDepth 100000

theorem wpAny_callBorrowed {M : Model} {A : Around} {E : Value → Shared → Prop} {s : Shared} {f : Value} {pos : List Value} {Q : Value → Shared → Prop}
    (hc : codeAny M A (.call f ⟨pos, []⟩) (fun r s' => match r with | .ok (.ret v) => Q v s' | .ok _ => False | .error e => E e s') s) : wpAny M A (callBorrowed f pos) Q E s := fun Γ p hΓ => by
  unfold callBorrowed
  rw [Sem.wp_call]
  refine wpCode_mono (fun r s' h => ?_) (hc _ p rfl (hΓ.enter _ none p (by intro x; cases x)))
  rcases r with e | (v | _ | _ | _) <;> first | exact h | exact h.elim

theorem slot_callable_iterator_next : Slot "callable_iterator" "__next__" "callable_iterator.__next__" :=
  .of (owner := "callable_iterator") (n := "__next__") (by rw [typeLookup_type, builtinLookup_eq_fast]; kernel_rfl) (by decide +kernel) (by decide +kernel) (by decide +kernel)
    (by first | exact .inl (by decide +kernel) | exact .inr (by decide +kernel)) (by rw [isSubtype_type]; kernel_rfl)
theorem entry_callable_iterator_next : entryFor table "callable_iterator.__next__" = some Builtin.«callable_iterator.__next__» := entryFor_of_tree (by kernel_rfl)
theorem args_callable_iterator_next (a : Value) : argsOk "callable_iterator.__next__" ⟨[a], []⟩ := by unfold argsOk; kernel_rfl
theorem slot_callable_iterator_iter : Slot "callable_iterator" "__iter__" "callable_iterator.__iter__" :=
  .of (owner := "callable_iterator") (n := "__iter__") (by rw [typeLookup_type, builtinLookup_eq_fast]; kernel_rfl) (by decide +kernel) (by decide +kernel) (by decide +kernel)
    (by first | exact .inl (by decide +kernel) | exact .inr (by decide +kernel)) (by rw [isSubtype_type]; kernel_rfl)
theorem args_callable_iterator_iter (a : Value) : argsOk "callable_iterator.__iter__" ⟨[a], []⟩ := by unfold argsOk; kernel_rfl
theorem args_iter2 (a b : Value) : argsOk "iter" ⟨[a, b], []⟩ := by unfold argsOk; kernel_rfl

/-- an iterator that calls q till the answer is the empty text -/
noncomputable def ciObj (q : Addr) (t : Tok) : Obj := { cls := .type "callable_iterator", data := .fields #[.ref q, .str (Str.ofString "") t, .bool false] }

section
variable {prog : Program} {w : World} {A : Around} {E : Value → Shared → Prop} {s : Shared}

theorem ci_borrows {q g : Addr} {self : Value} {go : Obj} {gfd : FuncData} {Q : Bool → Shared → Prop} (hq : s.heap.get? q = some (methodObj (.ref g) self)) (hg : s.heap.get? g = some go) (hgd : go.data = .func gfd) (h : Q true s) :
    wpAny (model prog w) A (borrowsExactly (.ref q)) Q E s := by
  unfold borrowsExactly
  refine wpAny_bind (wpAny_load hq ?_)
  dsimp only [methodObj]
  rw [if_pos (by rfl)]
  show wpAny _ _ (load g >>= _) _ _ _
  refine wpAny_bind (wpAny_load hg ?_)
  rw [hgd]
  exact wpAny_pure h

theorem ci_next {ci q g : Addr} {t : Tok} {self : Value} {go : Obj} {gfd : FuncData} {Q : Option Value → Shared → Prop} (hh : A.handled = none) (hci : s.heap.get? ci = some (ciObj q t)) (hq : s.heap.get? q = some (methodObj (.ref g) self)) (hg : s.heap.get? g = some go) (hgd : go.data = .func gfd)
    (h : codeAny (model prog w) A.in1 (.call (.ref g) ⟨[self], []⟩) (fun r s' => ∃ x u, r = .ok (.ret (.str x u)) ∧ s'.heap.get? ci = some (ciObj q t) ∧ (x = ⟨#[]⟩ → s'.heap.get? q = some (methodObj (.ref g) self) ∧ s'.heap.get? g = some go) ∧
      if x = ⟨#[]⟩ then (∀ h' tk, Heap.ExtBut ci s'.heap h' → Q none { s' with heap := h', toks := tk }) else ∀ tk, Q (some (.str x u)) { s' with toks := tk }) s) :
    wpAny (model prog w) A (pyNext (.ref ci)) Q E s := by
  have ty : s.TypeIs (.ref ci) "callable_iterator" := ⟨_, hci, rfl⟩
  unfold pyNext
  refine wpAny_bind (wpAny_attempt (wpAny_callSpecial?_slot (name := Str.ofString "__next__") ty slot_callable_iterator_next
    (wpAny_call_entry slot_callable_iterator_next ty entry_callable_iterator_next ?_ (args_callable_iterator_next _))))
  show wpAny _ _ (field (.ref ci) 2 >>= _) _ _ s
  refine wpAny_bind (wpAny_field hci rfl (x := .bool false) rfl ?_)
  rw [if_neg (by decide)]
  show wpAny _ _ (field (.ref ci) 0 >>= _) _ _ s
  refine wpAny_bind (wpAny_field hci rfl (x := .ref q) rfl ?_)
  refine wpAny_bind (wpAny_attempt ?_)
  unfold callOutOfASlot
  refine wpAny_bind (ci_borrows hq hg hgd ?_)
  rw [if_pos rfl]
  refine wpAny_callBorrowed (method_call hq (codeAny_mono h fun r s' hr => ?_))
  obtain ⟨x, u, rfl, hci', hq', hx⟩ := hr
  (try k_unfold); (try dsimp only)
  refine wpAny_bind (wpAny_field hci' rfl (x := .bool false) rfl ?_)
  rw [if_neg (by decide)]
  refine wpAny_bind (wpAny_field hci' rfl (x := .str (Str.ofString "") t) rfl ?_)
  refine wpAny_bind (wpAny_holding (wpAny_eqBool_str ?_))
  have e0 : Str.ofString "" = ⟨#[]⟩ := by decide +kernel
  by_cases hxe : x = ⟨#[]⟩
  · subst hxe
    rw [if_pos rfl] at hx
    obtain ⟨hq', hg'⟩ := hq' rfl
    rw [e0, if_neg (by simp)]
    refine wpAny_bind (wpAny_rule ?_)
    refine wpAny_bind ?_
    show wpAny _ _ (field (.ref ci) 0 >>= _) _ _ _
    refine wpAny_bind (wpAny_field hci' rfl (x := .ref q) rfl ?_)
    refine wpAny_bind ?_
    show wpAny _ _ (borrowsExactly (.ref q) >>= _) _ _ _
    refine wpAny_bind (ci_borrows hq' hg' hgd ?_)
    rw [if_pos rfl]
    refine wpAny_pure ?_
    refine wpAny_bind (wpAny_setField_rec hci' (by simp) fun h1 g1 s1 => ?_)
    refine wpAny_bind (wpAny_setField_rec g1 (by simp) fun h2 g2 s2 => ?_)
    refine wpAny_setField_rec g2 (by simp) fun h3 g3 s3 => ?_
    show wpAny _ _ (newExc (.type "StopIteration") [] >>= _) _ _ _
    refine wpAny_bind ?_
    simp only [newExc, newTuple]
    refine wpAny_bind (wpAny_newObj_type ?_ (by size_fits))
    refine wpAny_bind (m := firstArgMember _ _) (wpAny_of_eq (a := Value.none) (by first | rfl | (simp only [firstArgMember]; rfl)) ?_)
    refine wpAny_newObj_type ?_ (by size_fits)
    simp only [raiseNew]
    refine wpAny_bind (wpAny_handled ?_)
    rw [show A.in1.handled = none from hh]
    refine wpAny_bind (wpAny_pure (wpAny_throw ?_))
    refine wpAny_bind (wpAny_isInstance (T := "StopIteration") (b := true) ⟨_, Heap.get?_push_size _ rfl, rfl⟩ isSubtype_stop ?_)
    refine wpAny_pure (hx _ _ ?_)
    intro b o hb e
    refine Heap.get?_push_of_some _ (Heap.get?_push_of_some _ ?_)
    exact (s3.2 b hb).trans ((s2.2 b hb).trans ((s1.2 b hb).trans e))
  · rw [if_neg hxe] at hx
    have hne : decide (Str.ofString "" = x) = false := by rw [e0]; simp [Ne.symm hxe, eq_comm, hxe]
    rw [hne]
    exact wpAny_pure ⟨_, rfl, wpAny_pure (hx _)⟩

theorem entry_callable_iterator_iter : entryFor table "callable_iterator.__iter__" = some Builtin.«dict_keyiterator.__iter__» := entryFor_alias (id' := "dict_keyiterator.__iter__") (by kernel_rfl) rfl (by decide +kernel) (by kernel_rfl)
theorem look_method_call : ∃ r, typeLookup (.type "method") "__call__" = pure (some r) := ⟨.builtin "method.__call__", by rw [typeLookup_type, builtinLookup_eq_fast]; kernel_rfl⟩
theorem pyIter_ci {ci q : Addr} {t : Tok} {Q : Value → Shared → Prop} (hci : s.heap.get? ci = some (ciObj q t)) (h : Q (.ref ci) s) : wpAny (model prog w) A (pyIter (.ref ci)) Q E s := by
  have ty : s.TypeIs (.ref ci) "callable_iterator" := ⟨_, hci, rfl⟩
  refine wpAny_pyIter_slot ty slot_callable_iterator_iter (wpAny_call_entry slot_callable_iterator_iter ty entry_callable_iterator_iter ?_ (args_callable_iterator_iter _))
  show wpAny _ _ (ret (.ref ci)) _ _ s
  exact wpAny_pure ⟨_, rfl, "callable_iterator", _, ty, slot_callable_iterator_next.lookup, h⟩

variable {h₀ : Heap} {L : Addr} {m : Str → Option Value} {news : Led}
theorem iter_call {q g : Addr} {self : Value} {t : Tok} {Q : Value → Shared → Prop} (F : Fr h₀ L s.heap m) (N : News h₀ L s.heap news) (hq : (q, methodObj (.ref g) self) ∈ news)
    (h : ∀ (I : Addr) h', Fr h₀ L h' m → News h₀ L h' ((I, ciObj q t) :: news) → (∀ p ∈ news, p.1 < I) → Q (.ref I) { s with heap := h' }) :
    wpAny (model prog w) A (call (.builtin "iter") [.ref q, .str (Str.ofString "") t]) Q E s := by
  have hm := N _ hq
  refine call_function_entry (by decide +kernel) (by decide +kernel) kdk_entry_iter (args_iter2 _ _) ?_
  unfold Builtin.«iter»
  refine wpAny_bind (m := someArgs "iter" 1 2 _) (wpAny_of_eq (a := [Value.ref q, .str (Str.ofString "") t]) (by first | rfl | kernel_rfl!) ?_)
  (try k_unfold); (try dsimp only)
  obtain ⟨r, hr⟩ := look_method_call
  refine wpAny_bind (wpAny_specialOf (T := "method") ⟨_, hm.1, rfl⟩ hr ?_)
  dsimp only [Option.isNone_some]
  rw [if_neg (by decide)]
  refine wpAny_bind (wpAny_rule ?_)
  refine wpAny_bind (wpAny_newObj_type (wpAny_pure ⟨_, rfl, ?_⟩))
  exact h _ _ (F.push _) (News.push F N (ciObj q t) rfl) (fun p hp => Heap.lt_size (N p hp).1)
end
end Mine

namespace Mine
set_option maxRecDepth 100000

noncomputable abbrev lexLedT (P : Params) (x dx f df gl gc cell I pb : Addr) (fd : FuncData) (go gco co so : Obj) (k : Int) (t0 t1 t2 t3 t4 t5 t6 : Tok) (tl : Led) : Led :=
  (x, instObj 94 dx) :: (dx, lexD P k t0 t1 t2 t3 t4 t5 f pb) :: (f, strmO fd df) :: (df, readD P t6 gl) :: (gl, go) :: (gc, gco) :: (cell, co) :: (I, so) :: tl
noncomputable abbrev lexLed (P : Params) (x dx f df gl gc cell I pb : Addr) (fd : FuncData) (go gco co so : Obj) (k : Int) (t0 t1 t2 t3 t4 t5 t6 : Tok) : Led :=
  [(x, instObj 94 dx), (dx, lexD P k t0 t1 t2 t3 t4 t5 f pb), (f, strmO fd df), (df, readD P t6 gl), (gl, go), (gc, gco), (cell, co), (I, so)]

section
variable {w : World} {x dx f df gl gc cell I pb : Addr} {fd : FuncData} {go gco co : Obj} {txt : Str} {tt : Tok}
  {mean : ExcName → Option Value} {mg mb : Str → Option Value} {dp un : Nat} {gd : Option (List Code)} {cn : Str} {cs : Scope} {a : Addr} {ccd : Value} {cl : List (Str × Addr)} {outer : List Env} {A₀ : Around} {base h₀ : Heap} {L : Addr} {m : Str → Option Value} {s : Shared} {E : Value → Shared → Prop} {all : Led}

theorem next_item {ci q : Addr} {t : Tok} {Q : Option Value → Shared → Prop} {i c : Nat} {k : Int} {t0 t1 t2 t3 t4 t5 t6 : Tok} {gfd : FuncData}
    (hr : ReadsOn w gl gc cell I go gco co txt tt) (hc : txt.cps[i]? = some c) (hgo : go.data = .func gfd) (ho : Ordered cell I f gc gl df dx x pb)
    (B : Below A₀ base outer h₀) (F : Fr h₀ L s.heap m) (X : (Mine.hd.heap_39 w.params).In h₀) (N : News h₀ L s.heap all)
    (T : Top topProg (looseW Mine.hd.view_39 [] ++ List.map (fun x => x.name) (recsOf Mine.hd.view_39) ++
        List.map (fun x => x.fst) (litsOf Mine.hd.view_39) ++
      List.map (fun x => x.name) (clssOf Mine.hd.view_39 (looseW Mine.hd.view_39 []))) mean mg mb h₀) (hk : cs.kind = .function)
    (hd : dp + 5 < recursionLimit) (hu : un + 90 < cLine)
    (others : Led) (h1 : ∀ p ∈ lexLed w.params x dx f df gl gc cell I pb fd go gco co (siObj txt tt i) k t0 t1 t2 t3 t4 t5 t6, p ∈ all) (h2 : ∀ p ∈ (ci, ciObj q t) :: (q, methodObj (.ref 77) (.ref x)) :: others, p ∈ all)
    (h3 : ∀ p ∈ (ci, ciObj q t) :: (q, methodObj (.ref 77) (.ref x)) :: others, p.1 ∉ (lexLed w.params x dx f df gl gc cell I pb fd go gco co (siObj txt tt i) k t0 t1 t2 t3 t4 t5 t6).map (·.1))
    (ret : ∀ u t0' h' tk', Fr h₀ L h' m → News h₀ L h' (lexLedT w.params x dx f df gl gc cell I pb fd go gco co (siObj txt tt (i + 1)) (if c = 10 then k + 1 else k) t0' t1 t2 t3 t4 t5 t6 ((ci, ciObj q t) :: (q, methodObj (.ref 77) (.ref x)) :: others)) → Q (some (.str ⟨#[c]⟩ u)) { s with heap := h', toks := tk' }) :
    wpAny (model Challenge.rw_wk0009_01.row.prog w) (ktrTop dp un gd cn cs L a ccd cl outer) (pyNext (.ref ci)) Q E s := by
  revert X
  k_fill
  w_top off
  intro X
  have hci := (N _ (h2 _ (.head _))).1
  have hq := (N _ (h2 _ (.tail _ (.head _)))).1
  obtain ⟨fo, gfd, hfo, hfd⟩ : ∃ fo gfd, s.heap.get? 77 = some fo ∧ fo.data = .func gfd := by
    have : ∃ oc od fd osl, (Mine.hd.heap_39 w.params).lookup 77 = some ⟨oc, od, .func fd, osl⟩ := ⟨_, _, _, _, by k_is⟩
    obtain ⟨oc, od, fd, osl, e⟩ := this
    exact ⟨_, fd, X.keeps F.keep _ _ e, rfl⟩
  refine ci_next rfl hci hq hfo hfd ?_
  refine spec_code (dp := dp) (un := un + 1) (read_char_item hr i c hc k t0 t1 t2 t3 t4 t5 t6 hgo ho) B F X N T hk _ h1 h2 h3 (by omega) (by omega) ?_
  rintro hi v news' h' tk' l1 l2 ⟨t0', rfl, u, rfl⟩ F' N'
  have hci' := (N' (ci, ciObj q t) (by simp)).1
  refine ⟨_, _, rfl, hci', fun e => absurd e (by simp), ?_⟩
  rw [if_neg (by simp)]
  intro tk
  exact ret u t0' h' tk F' N'

theorem fr_extBut {h₀ h h' : Heap} {L d : Addr} {m : Str → Option Value} (F : Fr h₀ L h m) (hs : Heap.ExtBut d h h') (hL : d ≠ L) (hn : h₀.get? d = none) : Fr h₀ L h' m := by
  obtain ⟨oL, es, ep, hoL, r⟩ := F.ns
  refine ⟨⟨oL, es, ep, hs L oL (Ne.symm hL) hoL, r⟩, fun b o e => hs b o ?_ (F.keep b o e), F.above⟩
  rintro rfl
  rw [hn] at e
  cases e

theorem next_end {ci q : Addr} {t : Tok} {Q : Option Value → Shared → Prop} {i : Nat} {k : Int} {t0 t1 t2 t3 t4 t5 t6 : Tok} {gfd : FuncData}
    (hr : ReadsOn w gl gc cell I go gco co txt tt) (hc : txt.cps[i]? = none) (hgo : go.data = .func gfd) (ho : Ordered cell I f gc gl df dx x pb)
    (B : Below A₀ base outer h₀) (F : Fr h₀ L s.heap m) (X : (Mine.hd.heap_39 w.params).In h₀) (N : News h₀ L s.heap all)
    (T : Top topProg (looseW Mine.hd.view_39 [] ++ List.map (fun x => x.name) (recsOf Mine.hd.view_39) ++
        List.map (fun x => x.fst) (litsOf Mine.hd.view_39) ++
      List.map (fun x => x.name) (clssOf Mine.hd.view_39 (looseW Mine.hd.view_39 []))) mean mg mb h₀) (hk : cs.kind = .function)
    (hd : dp + 5 < recursionLimit) (hu : un + 90 < cLine)
    (others : Led) (h1 : ∀ p ∈ lexLed w.params x dx f df gl gc cell I pb fd go gco co (siObj txt tt i) k t0 t1 t2 t3 t4 t5 t6, p ∈ all) (h2 : ∀ p ∈ (ci, ciObj q t) :: (q, methodObj (.ref 77) (.ref x)) :: others, p ∈ all)
    (h3 : ∀ p ∈ (ci, ciObj q t) :: (q, methodObj (.ref 77) (.ref x)) :: others, p.1 ∉ (lexLed w.params x dx f df gl gc cell I pb fd go gco co (siObj txt tt i) k t0 t1 t2 t3 t4 t5 t6).map (·.1)) (h4 : ∀ p ∈ others, p.1 ≠ ci)
    (ret : ∀ h' tk', Fr h₀ L h' m → News h₀ L h' (lexLedT w.params x dx f df gl gc cell I pb fd go gco co (siEnd txt i) k t0 t1 t2 t3 t4 t5 t6 others) → Q none { s with heap := h', toks := tk' }) :
    wpAny (model Challenge.rw_wk0009_01.row.prog w) (ktrTop dp un gd cn cs L a ccd cl outer) (pyNext (.ref ci)) Q E s := by
  revert X
  k_fill
  w_top off
  intro X
  have hci := (N _ (h2 _ (.head _))).1
  have hq := (N _ (h2 _ (.tail _ (.head _)))).1
  obtain ⟨fo, gfd, hfo', hfd⟩ : ∃ fo gfd, h₀.get? 77 = some fo ∧ fo.data = .func gfd := by
    have : ∃ oc od fd osl, (Mine.hd.heap_39 w.params).lookup 77 = some ⟨oc, od, .func fd, osl⟩ := ⟨_, _, _, _, by k_is⟩
    obtain ⟨oc, od, fd, osl, e⟩ := this
    exact ⟨_, fd, X _ _ e, rfl⟩
  have hfo := F.keep _ _ hfo'
  refine ci_next rfl hci hq hfo hfd ?_
  refine spec_code (dp := dp) (un := un + 1) (read_char_end hr i hc k t0 t1 t2 t3 t4 t5 t6 hgo ho) B F X N T hk _ h1 h2 h3 (by omega) (by omega) ?_
  rintro hi v news' h' tk' l1 l2 ⟨rfl, u, rfl⟩ F' N'
  have hci' := N' (ci, ciObj q t) (by simp)
  refine ⟨_, _, rfl, hci'.1, fun _ => ⟨(N' (q, methodObj (.ref 77) (.ref x)) (by simp)).1, F'.keep _ _ hfo'⟩, ?_⟩
  rw [if_pos rfl]
  intro h'' tk hs
  refine ret h'' tk (fr_extBut F' hs hci'.2.1 hci'.2.2) fun p hp => ?_
  replace hp : p ∈ lexLed w.params x dx f df gl gc cell I pb fd go gco co (siEnd txt i) k t0 t1 t2 t3 t4 t5 t6 ++ others := hp
  have hpN : p ∈ lexLed w.params x dx f df gl gc cell I pb fd go gco co (siEnd txt i) k t0 t1 t2 t3 t4 t5 t6 ++ (ci, ciObj q t) :: (q, methodObj (.ref 77) (.ref x)) :: others := by
    rcases List.mem_append.mp hp with h | h
    · exact List.mem_append_left _ h
    · exact List.mem_append_right _ (.tail _ (.tail _ h))
  refine ⟨hs _ _ ?_ (N' p hpN).1, (N' p hpN).2⟩
  rcases List.mem_append.mp hp with h | h
  · intro e
    have := h3 (ci, ciObj q t) (.head _)
    refine this ?_
    rw [← e]
    simp only [lexLed, List.mem_cons, List.not_mem_nil, or_false] at h
    simp only [lexLed, List.map_cons, List.map_nil, List.mem_cons, List.not_mem_nil, or_false]
    rcases h with h | h | h | h | h | h | h | h <;> subst h <;> simp
  · exact h4 p h
end
end Mine

namespace Mine
theorem wdGetWord_0 : True := by
  k_with_none
  k_with "my enter" => (refine' code_defS ?k1 ?k2 ?k3 ?k4 ?kO ?kD ?k5 ?kA ?kF ?kK ?k6 ?k7 ?k8 ?k9 ?kB ?_ ?c2 ?c3 ?c4 ?c5; (case kA => exact rfl); (case kF => exact rfl); (case kK => assumption); (case kD => assumption); (case k1 => k_asm); (case k2 => k_asm); (case k3 => k_asm); (case k4 => assumption); (case kO => assumption); (case k5 => k_asm); (case k6 => k_is); (case k7 => k_is); (case k8 => ktr_room); (case k9 => first | k_extra "my binds" | exact BindsTo.of_eq rfl); (case c5 => decide); (case kB => exact locs rfl); (case c2 => exact rfl); (case c3 => exact rfl); (case c4 => exact rfl); k_whole; intro g' L' h' FG' F' N' B' X' T' lN' lO'; (try dsimp only); (try k_lift B'); (try k_fold))
  k_with "my sub" => repeat (first | exact sub_nil | refine sub_cons (by k_mem) ?_)
  k_with "my spec" => ((case k1 => k_asm); (case k2 => k_asm); (case k3 => k_asm); (case k4 => k_asm); (case k5 => k_asm); (case k6 => exact rfl); (case k7 => ktr_room); (case k8 => ktr_units); (case h1 => k_extra "my sub"); (case h2 => k_extra "my sub"); (case h3 => k_extra "my dis"); k_whole)
  k_with "my enterC" => (refine' code_defCS ?k1 ?k2 ?k3 ?k4 ?kO ?kQ ?k5 ?kA ?kF ?kK ?k6 ?k7 ?k8 ?k9 ?kB ?kD ?_ ?c2 ?c3 ?c4; (case kA => exact rfl); (case kF => exact rfl); (case kK => assumption); (case kQ => assumption); (case k1 => k_asm); (case k2 => k_asm); (case k3 => k_asm); (case k4 => assumption); (case kO => assumption); (case k5 => k_asm); (case k6 => k_is); (case k7 => k_is); (case k8 => ktr_room); (case k9 => first | k_extra "my binds" | exact BindsTo.of_eq rfl); (case kB => exact rfl); (case kD => decide +kernel); (case c2 => exact rfl); (case c3 => exact rfl); (case c4 => exact rfl); k_whole; intro g' L' h' tk' cells' FG' F' N' Y' B' X' T' lN' lO'; (have l1' := lN'); (try k_lt l1'); k_cells Y'; (try simp only [List.cons_append, List.nil_append] at N'); (try dsimp only); (try k_lift B'); (try k_fold))
  k_with "my dis" => (refine dis_of ?_; dsimp only [DisL, OffL]; ((repeat' first | exact True.intro | refine And.intro ?_ ?_) <;> first | k_extra "ne" | omega))
  k_with "my nel" => (dsimp only [NeL]; ((repeat' first | exact True.intro | refine And.intro ?_ ?_) <;> first | k_extra "ne" | omega))
  k_with "k ne" => (refine neN ?_; (try dsimp only); k_extra "ne")
  k_with "ne" => (first | with_reducible assumption | exact Nat.ne_of_lt (by with_reducible assumption) | exact Nat.ne_of_gt (by with_reducible assumption) | exact Ne.symm (by with_reducible assumption) | ((repeat (rename (_ < _ ∧ _) => qz; first | (refine ne_r qz ?_; first | exact qz.1 | exact qz.2.1 | exact qz.2.2.1 | exact qz.2.2.2.1 | exact qz.2.2.2.2.1 | exact qz.2.2.2.2.2.1 | exact qz.2.2.2.2.2.2.1 | exact qz.2.2.2.2.2.2.2.1 | exact qz.2.2.2.2.2.2.2.2.1 | exact qz.2.2.2.2.2.2.2.2.2.1 | exact qz.2.2.2.2.2.2.2.2.2.2.1 | exact qz.2.2.2.2.2.2.2.2.2.2.2.1 | exact qz.2.2.2.2.2.2.2.2.2.2.2.2.1 | exact qz.2.2.2.2.2.2.2.2.2.2.2.2.2.1 | exact qz.2.2.2.2.2.2.2.2.2.2.2.2.2.2.1 | exact qz.2.2.2.2.2.2.2.2.2.2.2.2.2.2.2.1 | exact qz.2.2.2.2.2.2.2.2.2.2.2.2.2.2.2.2.1 | exact qz.2.2.2.2.2.2.2.2.2.2.2.2.2.2.2.2.2.1) | (refine ne_l qz ?_; first | exact qz.1 | exact qz.2.1 | exact qz.2.2.1 | exact qz.2.2.2.1 | exact qz.2.2.2.2.1 | exact qz.2.2.2.2.2.1 | exact qz.2.2.2.2.2.2.1 | exact qz.2.2.2.2.2.2.2.1 | exact qz.2.2.2.2.2.2.2.2.1 | exact qz.2.2.2.2.2.2.2.2.2.1 | exact qz.2.2.2.2.2.2.2.2.2.2.1 | exact qz.2.2.2.2.2.2.2.2.2.2.2.1 | exact qz.2.2.2.2.2.2.2.2.2.2.2.2.1 | exact qz.2.2.2.2.2.2.2.2.2.2.2.2.2.1 | exact qz.2.2.2.2.2.2.2.2.2.2.2.2.2.2.1 | exact qz.2.2.2.2.2.2.2.2.2.2.2.2.2.2.2.1 | exact qz.2.2.2.2.2.2.2.2.2.2.2.2.2.2.2.2.1 | exact qz.2.2.2.2.2.2.2.2.2.2.2.2.2.2.2.2.2.1) | clear qz)); done) | k_extra "ne cells" | k_extra "ne one" | k_extra "ne off" | k_extra "ne up")
  k_with "ne cells" => (first | exact ne_off (i := 0) (j := 1) rfl | exact ne_off (i := 0) (j := 2) rfl | exact ne_off (i := 0) (j := 3) rfl | exact ne_off (i := 0) (j := 4) rfl | exact ne_off (i := 1) (j := 0) rfl | exact ne_off (i := 1) (j := 2) rfl | exact ne_off (i := 1) (j := 3) rfl | exact ne_off (i := 1) (j := 4) rfl | exact ne_off (i := 2) (j := 0) rfl | exact ne_off (i := 2) (j := 1) rfl | exact ne_off (i := 2) (j := 3) rfl | exact ne_off (i := 2) (j := 4) rfl | exact ne_off (i := 3) (j := 0) rfl | exact ne_off (i := 3) (j := 1) rfl | exact ne_off (i := 3) (j := 2) rfl | exact ne_off (i := 3) (j := 4) rfl | exact ne_off (i := 4) (j := 0) rfl | exact ne_off (i := 4) (j := 1) rfl | exact ne_off (i := 4) (j := 2) rfl | exact ne_off (i := 4) (j := 3) rfl)
  k_with "ne up" => (first | exact Nat.ne_of_lt (lt_up1 (by with_reducible assumption)) | exact Nat.ne_of_gt (lt_up1 (by with_reducible assumption)) | exact Nat.ne_of_lt (lt_up2 (by with_reducible assumption)) | exact Nat.ne_of_gt (lt_up2 (by with_reducible assumption)) | exact Nat.ne_of_lt (lt_up3 (by with_reducible assumption)) | exact Nat.ne_of_gt (lt_up3 (by with_reducible assumption)) | exact Nat.ne_of_lt (lt_up4 (by with_reducible assumption)) | exact Nat.ne_of_gt (lt_up4 (by with_reducible assumption)) | ((repeat (rename (_ < _ ∧ _) => qz; first | (refine ne_r1 qz ?_; first | exact qz.1 | exact qz.2.1 | exact qz.2.2.1 | exact qz.2.2.2.1 | exact qz.2.2.2.2.1 | exact qz.2.2.2.2.2.1 | exact qz.2.2.2.2.2.2.1 | exact qz.2.2.2.2.2.2.2.1 | exact qz.2.2.2.2.2.2.2.2.1 | exact qz.2.2.2.2.2.2.2.2.2.1 | exact qz.2.2.2.2.2.2.2.2.2.2.1 | exact qz.2.2.2.2.2.2.2.2.2.2.2.1 | exact qz.2.2.2.2.2.2.2.2.2.2.2.2.1 | exact qz.2.2.2.2.2.2.2.2.2.2.2.2.2.1 | exact qz.2.2.2.2.2.2.2.2.2.2.2.2.2.2.1 | exact qz.2.2.2.2.2.2.2.2.2.2.2.2.2.2.2.1 | exact qz.2.2.2.2.2.2.2.2.2.2.2.2.2.2.2.2.1 | exact qz.2.2.2.2.2.2.2.2.2.2.2.2.2.2.2.2.2.1) | (refine ne_l1 qz ?_; first | exact qz.1 | exact qz.2.1 | exact qz.2.2.1 | exact qz.2.2.2.1 | exact qz.2.2.2.2.1 | exact qz.2.2.2.2.2.1 | exact qz.2.2.2.2.2.2.1 | exact qz.2.2.2.2.2.2.2.1 | exact qz.2.2.2.2.2.2.2.2.1 | exact qz.2.2.2.2.2.2.2.2.2.1 | exact qz.2.2.2.2.2.2.2.2.2.2.1 | exact qz.2.2.2.2.2.2.2.2.2.2.2.1 | exact qz.2.2.2.2.2.2.2.2.2.2.2.2.1 | exact qz.2.2.2.2.2.2.2.2.2.2.2.2.2.1 | exact qz.2.2.2.2.2.2.2.2.2.2.2.2.2.2.1 | exact qz.2.2.2.2.2.2.2.2.2.2.2.2.2.2.2.1 | exact qz.2.2.2.2.2.2.2.2.2.2.2.2.2.2.2.2.1 | exact qz.2.2.2.2.2.2.2.2.2.2.2.2.2.2.2.2.2.1) | (refine ne_r2 qz ?_; first | exact qz.1 | exact qz.2.1 | exact qz.2.2.1 | exact qz.2.2.2.1 | exact qz.2.2.2.2.1 | exact qz.2.2.2.2.2.1 | exact qz.2.2.2.2.2.2.1 | exact qz.2.2.2.2.2.2.2.1 | exact qz.2.2.2.2.2.2.2.2.1 | exact qz.2.2.2.2.2.2.2.2.2.1 | exact qz.2.2.2.2.2.2.2.2.2.2.1 | exact qz.2.2.2.2.2.2.2.2.2.2.2.1 | exact qz.2.2.2.2.2.2.2.2.2.2.2.2.1 | exact qz.2.2.2.2.2.2.2.2.2.2.2.2.2.1 | exact qz.2.2.2.2.2.2.2.2.2.2.2.2.2.2.1 | exact qz.2.2.2.2.2.2.2.2.2.2.2.2.2.2.2.1 | exact qz.2.2.2.2.2.2.2.2.2.2.2.2.2.2.2.2.1 | exact qz.2.2.2.2.2.2.2.2.2.2.2.2.2.2.2.2.2.1) | (refine ne_l2 qz ?_; first | exact qz.1 | exact qz.2.1 | exact qz.2.2.1 | exact qz.2.2.2.1 | exact qz.2.2.2.2.1 | exact qz.2.2.2.2.2.1 | exact qz.2.2.2.2.2.2.1 | exact qz.2.2.2.2.2.2.2.1 | exact qz.2.2.2.2.2.2.2.2.1 | exact qz.2.2.2.2.2.2.2.2.2.1 | exact qz.2.2.2.2.2.2.2.2.2.2.1 | exact qz.2.2.2.2.2.2.2.2.2.2.2.1 | exact qz.2.2.2.2.2.2.2.2.2.2.2.2.1 | exact qz.2.2.2.2.2.2.2.2.2.2.2.2.2.1 | exact qz.2.2.2.2.2.2.2.2.2.2.2.2.2.2.1 | exact qz.2.2.2.2.2.2.2.2.2.2.2.2.2.2.2.1 | exact qz.2.2.2.2.2.2.2.2.2.2.2.2.2.2.2.2.1 | exact qz.2.2.2.2.2.2.2.2.2.2.2.2.2.2.2.2.2.1) | (refine ne_r3 qz ?_; first | exact qz.1 | exact qz.2.1 | exact qz.2.2.1 | exact qz.2.2.2.1 | exact qz.2.2.2.2.1 | exact qz.2.2.2.2.2.1 | exact qz.2.2.2.2.2.2.1 | exact qz.2.2.2.2.2.2.2.1 | exact qz.2.2.2.2.2.2.2.2.1 | exact qz.2.2.2.2.2.2.2.2.2.1 | exact qz.2.2.2.2.2.2.2.2.2.2.1 | exact qz.2.2.2.2.2.2.2.2.2.2.2.1 | exact qz.2.2.2.2.2.2.2.2.2.2.2.2.1 | exact qz.2.2.2.2.2.2.2.2.2.2.2.2.2.1 | exact qz.2.2.2.2.2.2.2.2.2.2.2.2.2.2.1 | exact qz.2.2.2.2.2.2.2.2.2.2.2.2.2.2.2.1 | exact qz.2.2.2.2.2.2.2.2.2.2.2.2.2.2.2.2.1 | exact qz.2.2.2.2.2.2.2.2.2.2.2.2.2.2.2.2.2.1) | (refine ne_l3 qz ?_; first | exact qz.1 | exact qz.2.1 | exact qz.2.2.1 | exact qz.2.2.2.1 | exact qz.2.2.2.2.1 | exact qz.2.2.2.2.2.1 | exact qz.2.2.2.2.2.2.1 | exact qz.2.2.2.2.2.2.2.1 | exact qz.2.2.2.2.2.2.2.2.1 | exact qz.2.2.2.2.2.2.2.2.2.1 | exact qz.2.2.2.2.2.2.2.2.2.2.1 | exact qz.2.2.2.2.2.2.2.2.2.2.2.1 | exact qz.2.2.2.2.2.2.2.2.2.2.2.2.1 | exact qz.2.2.2.2.2.2.2.2.2.2.2.2.2.1 | exact qz.2.2.2.2.2.2.2.2.2.2.2.2.2.2.1 | exact qz.2.2.2.2.2.2.2.2.2.2.2.2.2.2.2.1 | exact qz.2.2.2.2.2.2.2.2.2.2.2.2.2.2.2.2.1 | exact qz.2.2.2.2.2.2.2.2.2.2.2.2.2.2.2.2.2.1) | (refine ne_r4 qz ?_; first | exact qz.1 | exact qz.2.1 | exact qz.2.2.1 | exact qz.2.2.2.1 | exact qz.2.2.2.2.1 | exact qz.2.2.2.2.2.1 | exact qz.2.2.2.2.2.2.1 | exact qz.2.2.2.2.2.2.2.1 | exact qz.2.2.2.2.2.2.2.2.1 | exact qz.2.2.2.2.2.2.2.2.2.1 | exact qz.2.2.2.2.2.2.2.2.2.2.1 | exact qz.2.2.2.2.2.2.2.2.2.2.2.1 | exact qz.2.2.2.2.2.2.2.2.2.2.2.2.1 | exact qz.2.2.2.2.2.2.2.2.2.2.2.2.2.1 | exact qz.2.2.2.2.2.2.2.2.2.2.2.2.2.2.1 | exact qz.2.2.2.2.2.2.2.2.2.2.2.2.2.2.2.1 | exact qz.2.2.2.2.2.2.2.2.2.2.2.2.2.2.2.2.1 | exact qz.2.2.2.2.2.2.2.2.2.2.2.2.2.2.2.2.2.1) | (refine ne_l4 qz ?_; first | exact qz.1 | exact qz.2.1 | exact qz.2.2.1 | exact qz.2.2.2.1 | exact qz.2.2.2.2.1 | exact qz.2.2.2.2.2.1 | exact qz.2.2.2.2.2.2.1 | exact qz.2.2.2.2.2.2.2.1 | exact qz.2.2.2.2.2.2.2.2.1 | exact qz.2.2.2.2.2.2.2.2.2.1 | exact qz.2.2.2.2.2.2.2.2.2.2.1 | exact qz.2.2.2.2.2.2.2.2.2.2.2.1 | exact qz.2.2.2.2.2.2.2.2.2.2.2.2.1 | exact qz.2.2.2.2.2.2.2.2.2.2.2.2.2.1 | exact qz.2.2.2.2.2.2.2.2.2.2.2.2.2.2.1 | exact qz.2.2.2.2.2.2.2.2.2.2.2.2.2.2.2.1 | exact qz.2.2.2.2.2.2.2.2.2.2.2.2.2.2.2.2.1 | exact qz.2.2.2.2.2.2.2.2.2.2.2.2.2.2.2.2.2.1) | clear qz)); done))
  k_with "execs cons" => k_fold
  k_with "exec Assign" => k_fold
  k_with "exec If" => k_fold
  k_with "exec AugAssign" => k_fold
  k_with "my looks" => (repeat' first | exact True.intro | (refine And.intro ?_ ?_) | with_unfolding_all rfl)
  k_with "ne off" => ((repeat (rename (LCg.Off3 _ _ _ _) => qo; first | exact qo.1.1 | exact Ne.symm qo.1.1 | exact qo.1.2.1 | exact Ne.symm qo.1.2.1 | exact qo.1.2.2 | exact Ne.symm qo.1.2.2 | exact qo.2.1.1 | exact Ne.symm qo.2.1.1 | exact qo.2.1.2.1 | exact Ne.symm qo.2.1.2.1 | exact qo.2.1.2.2 | exact Ne.symm qo.2.1.2.2 | exact qo.2.2.1.1 | exact Ne.symm qo.2.2.1.1 | exact qo.2.2.1.2.1 | exact Ne.symm qo.2.2.1.2.1 | exact qo.2.2.1.2.2 | exact Ne.symm qo.2.2.1.2.2 | exact qo.2.2.2.1.1 | exact Ne.symm qo.2.2.2.1.1 | exact qo.2.2.2.1.2.1 | exact Ne.symm qo.2.2.2.1.2.1 | exact qo.2.2.2.1.2.2 | exact Ne.symm qo.2.2.2.1.2.2 | exact qo.2.2.2.2.1.1 | exact Ne.symm qo.2.2.2.2.1.1 | exact qo.2.2.2.2.1.2.1 | exact Ne.symm qo.2.2.2.2.1.2.1 | exact qo.2.2.2.2.1.2.2 | exact Ne.symm qo.2.2.2.2.1.2.2 | exact qo.2.2.2.2.2.1.1 | exact Ne.symm qo.2.2.2.2.2.1.1 | exact qo.2.2.2.2.2.1.2.1 | exact Ne.symm qo.2.2.2.2.2.1.2.1 | exact qo.2.2.2.2.2.1.2.2 | exact Ne.symm qo.2.2.2.2.2.1.2.2 | exact qo.2.2.2.2.2.2.1.1 | exact Ne.symm qo.2.2.2.2.2.2.1.1 | exact qo.2.2.2.2.2.2.1.2.1 | exact Ne.symm qo.2.2.2.2.2.2.1.2.1 | exact qo.2.2.2.2.2.2.1.2.2 | exact Ne.symm qo.2.2.2.2.2.2.1.2.2 | exact qo.2.2.2.2.2.2.2.1.1 | exact Ne.symm qo.2.2.2.2.2.2.2.1.1 | exact qo.2.2.2.2.2.2.2.1.2.1 | exact Ne.symm qo.2.2.2.2.2.2.2.1.2.1 | exact qo.2.2.2.2.2.2.2.1.2.2 | exact Ne.symm qo.2.2.2.2.2.2.2.1.2.2 | exact qo.2.2.2.2.2.2.2.2.1.1 | exact Ne.symm qo.2.2.2.2.2.2.2.2.1.1 | exact qo.2.2.2.2.2.2.2.2.1.2.1 | exact Ne.symm qo.2.2.2.2.2.2.2.2.1.2.1 | exact qo.2.2.2.2.2.2.2.2.1.2.2 | exact Ne.symm qo.2.2.2.2.2.2.2.2.1.2.2 | exact qo.2.2.2.2.2.2.2.2.2.1.1 | exact Ne.symm qo.2.2.2.2.2.2.2.2.2.1.1 | exact qo.2.2.2.2.2.2.2.2.2.1.2.1 | exact Ne.symm qo.2.2.2.2.2.2.2.2.2.1.2.1 | exact qo.2.2.2.2.2.2.2.2.2.1.2.2 | exact Ne.symm qo.2.2.2.2.2.2.2.2.2.1.2.2 | exact qo.2.2.2.2.2.2.2.2.2.2.1.1 | exact Ne.symm qo.2.2.2.2.2.2.2.2.2.2.1.1 | exact qo.2.2.2.2.2.2.2.2.2.2.1.2.1 | exact Ne.symm qo.2.2.2.2.2.2.2.2.2.2.1.2.1 | exact qo.2.2.2.2.2.2.2.2.2.2.1.2.2 | exact Ne.symm qo.2.2.2.2.2.2.2.2.2.2.1.2.2 | exact qo.2.2.2.2.2.2.2.2.2.2.2.1.1 | exact Ne.symm qo.2.2.2.2.2.2.2.2.2.2.2.1.1 | exact qo.2.2.2.2.2.2.2.2.2.2.2.1.2.1 | exact Ne.symm qo.2.2.2.2.2.2.2.2.2.2.2.1.2.1 | exact qo.2.2.2.2.2.2.2.2.2.2.2.1.2.2 | exact Ne.symm qo.2.2.2.2.2.2.2.2.2.2.2.1.2.2 | exact qo.2.2.2.2.2.2.2.2.2.2.2.2.1.1 | exact Ne.symm qo.2.2.2.2.2.2.2.2.2.2.2.2.1.1 | exact qo.2.2.2.2.2.2.2.2.2.2.2.2.1.2.1 | exact Ne.symm qo.2.2.2.2.2.2.2.2.2.2.2.2.1.2.1 | exact qo.2.2.2.2.2.2.2.2.2.2.2.2.1.2.2 | exact Ne.symm qo.2.2.2.2.2.2.2.2.2.2.2.2.1.2.2 | exact qo.2.2.2.2.2.2.2.2.2.2.2.2.2.1.1 | exact Ne.symm qo.2.2.2.2.2.2.2.2.2.2.2.2.2.1.1 | exact qo.2.2.2.2.2.2.2.2.2.2.2.2.2.1.2.1 | exact Ne.symm qo.2.2.2.2.2.2.2.2.2.2.2.2.2.1.2.1 | exact qo.2.2.2.2.2.2.2.2.2.2.2.2.2.1.2.2 | exact Ne.symm qo.2.2.2.2.2.2.2.2.2.2.2.2.2.1.2.2 | exact qo.2.2.2.2.2.2.2.2.2.2.2.2.2.2.1.1 | exact Ne.symm qo.2.2.2.2.2.2.2.2.2.2.2.2.2.2.1.1 | exact qo.2.2.2.2.2.2.2.2.2.2.2.2.2.2.1.2.1 | exact Ne.symm qo.2.2.2.2.2.2.2.2.2.2.2.2.2.2.1.2.1 | exact qo.2.2.2.2.2.2.2.2.2.2.2.2.2.2.1.2.2 | exact Ne.symm qo.2.2.2.2.2.2.2.2.2.2.2.2.2.2.1.2.2 | exact qo.2.2.2.2.2.2.2.2.2.2.2.2.2.2.2.1.1 | exact Ne.symm qo.2.2.2.2.2.2.2.2.2.2.2.2.2.2.2.1.1 | exact qo.2.2.2.2.2.2.2.2.2.2.2.2.2.2.2.1.2.1 | exact Ne.symm qo.2.2.2.2.2.2.2.2.2.2.2.2.2.2.2.1.2.1 | exact qo.2.2.2.2.2.2.2.2.2.2.2.2.2.2.2.1.2.2 | exact Ne.symm qo.2.2.2.2.2.2.2.2.2.2.2.2.2.2.2.1.2.2 | exact qo.2.2.2.2.2.2.2.2.2.2.2.2.2.2.2.2.1.1 | exact Ne.symm qo.2.2.2.2.2.2.2.2.2.2.2.2.2.2.2.2.1.1 | exact qo.2.2.2.2.2.2.2.2.2.2.2.2.2.2.2.2.1.2.1 | exact Ne.symm qo.2.2.2.2.2.2.2.2.2.2.2.2.2.2.2.2.1.2.1 | exact qo.2.2.2.2.2.2.2.2.2.2.2.2.2.2.2.2.1.2.2 | exact Ne.symm qo.2.2.2.2.2.2.2.2.2.2.2.2.2.2.2.2.1.2.2 | clear qo)); done)
  k_with "lt" => (first | with_reducible assumption | ((repeat (rename (_ < _ ∧ _) => qz; first | exact qz.1 | exact qz.2.1 | exact qz.2.2.1 | exact qz.2.2.2.1 | exact qz.2.2.2.2.1 | exact qz.2.2.2.2.2.1 | exact qz.2.2.2.2.2.2.1 | exact qz.2.2.2.2.2.2.2.1 | exact qz.2.2.2.2.2.2.2.2.1 | exact qz.2.2.2.2.2.2.2.2.2.1 | exact qz.2.2.2.2.2.2.2.2.2.2.1 | exact qz.2.2.2.2.2.2.2.2.2.2.2.1 | exact qz.2.2.2.2.2.2.2.2.2.2.2.2.1 | exact qz.2.2.2.2.2.2.2.2.2.2.2.2.2.1 | exact qz.2.2.2.2.2.2.2.2.2.2.2.2.2.2.1 | exact qz.2.2.2.2.2.2.2.2.2.2.2.2.2.2.2.1 | exact qz.2.2.2.2.2.2.2.2.2.2.2.2.2.2.2.2.1 | exact qz.2.2.2.2.2.2.2.2.2.2.2.2.2.2.2.2.2.1 | clear qz)); done))
  k_with "ne one" => ((repeat (rename (_ ≠ _ ∧ _) => qo; first | exact qo.1 | exact Ne.symm qo.1 | exact qo.2.1 | exact Ne.symm qo.2.1 | exact qo.2.2.1 | exact Ne.symm qo.2.2.1 | exact qo.2.2.2.1 | exact Ne.symm qo.2.2.2.1 | exact qo.2.2.2.2.1 | exact Ne.symm qo.2.2.2.2.1 | exact qo.2.2.2.2.2.1 | exact Ne.symm qo.2.2.2.2.2.1 | exact qo.2.2.2.2.2.2.1 | exact Ne.symm qo.2.2.2.2.2.2.1 | exact qo.2.2.2.2.2.2.2.1 | exact Ne.symm qo.2.2.2.2.2.2.2.1 | exact qo.2.2.2.2.2.2.2.2.1 | exact Ne.symm qo.2.2.2.2.2.2.2.2.1 | exact qo.2.2.2.2.2.2.2.2.2.1 | exact Ne.symm qo.2.2.2.2.2.2.2.2.2.1 | exact qo.2.2.2.2.2.2.2.2.2.2.1 | exact Ne.symm qo.2.2.2.2.2.2.2.2.2.2.1 | exact qo.2.2.2.2.2.2.2.2.2.2.2.1 | exact Ne.symm qo.2.2.2.2.2.2.2.2.2.2.2.1 | exact qo.2.2.2.2.2.2.2.2.2.2.2.2.1 | exact Ne.symm qo.2.2.2.2.2.2.2.2.2.2.2.2.1 | exact qo.2.2.2.2.2.2.2.2.2.2.2.2.2.1 | exact Ne.symm qo.2.2.2.2.2.2.2.2.2.2.2.2.2.1 | exact qo.2.2.2.2.2.2.2.2.2.2.2.2.2.2.1 | exact Ne.symm qo.2.2.2.2.2.2.2.2.2.2.2.2.2.2.1 | exact qo.2.2.2.2.2.2.2.2.2.2.2.2.2.2.2.1 | exact Ne.symm qo.2.2.2.2.2.2.2.2.2.2.2.2.2.2.2.1 | exact qo.2.2.2.2.2.2.2.2.2.2.2.2.2.2.2.2.1 | exact Ne.symm qo.2.2.2.2.2.2.2.2.2.2.2.2.2.2.2.2.1 | clear qo)); done)
  trivial
set_option maxRecDepth 100000

noncomputable def special (o : Nat) : Bool := o == 9 || o == 10 || o == 13 || o == 32 || o == 34 || o == 92
noncomputable def enc : List Nat → List Nat
  | [] => []
  | o :: r => (if special o = true then [92, o] else [o]) ++ enc r
noncomputable def blank (b : Nat) : Bool := b == 9 || b == 10 || b == 13 || b == 32
noncomputable def newlines (l : List Nat) : Int := (l.count 10 : Nat)

noncomputable def Stop (P : Prop) : Prop := P
theorem stop {P : Prop} (h : Stop P) : P := h

theorem wdGetWord_6 : True := by
  k_with "exec For Name Name cons nil" => (k_here; refine stop ?_)
  trivial
theorem wdGetWord_7 : True := by
  k_with "call builtin:iter" => (k_here; (with_reducible show wpAny _ _ (call (Value.builtin "iter") [Value.ref _, Value.str _ _]) _ _ _); k_dflt (refine iter_call (by k_asm) (by k_asm) (by k_mem) ?_); intro _ _ _ _ l1z; (try k_lt l1z); (revert l1z; intro _))
  trivial

theorem pick_t {c : Bool} {P Q : Prop} (hc : c = true) (h : P) : if c = true then P else Q := by rw [if_pos hc]; exact h
theorem pick_f {c : Bool} {P Q : Prop} (hc : c = false) (h : Q) : if c = true then P else Q := by rw [if_neg (by rw [hc]; exact Bool.false_ne_true)]; exact h
theorem wdGetWord_8 : True := by
  k_with "ite" => (k_here; first | (refine pick_t (by assumption) ?_) | (refine pick_f (by assumption) ?_))
  trivial
theorem ws_of (c : Nat) : (Builtin.Str.occurrences (Str.ofString "\n\t\x0d ") { cps := #[c] } 0 (Str.ofString "\n\t\x0d ").length 1).isEmpty = !blank c := by
  have h := StrLaws.found_one (Str.ofString "\n\t\x0d ") c
  have e : (Str.ofString "\n\t\x0d ").cps.toList = [10, 9, 13, 32] := by decide +kernel
  have b : decide (c ∈ (Str.ofString "\n\t\x0d ").cps.toList) = blank c := by
    rw [e]; unfold blank
    rw [Bool.eq_iff_iff]; simp only [decide_eq_true_eq, List.mem_cons, List.not_mem_nil, or_false, Bool.or_eq_true, beq_iff_eq]; omega
  rw [b] at h
  rw [← h, Bool.not_not]
theorem quote_of (c : Nat) : (({ cps := #[c] } : Str) == Str.ofString "\"") = decide (c = 34) := one_eq (by decide +kernel)
theorem slash_of (c : Nat) : (({ cps := #[c] } : Str) == Str.ofString "\\") = decide (c = 92) := one_eq (by decide +kernel)
theorem plain_facts {o : Nat} (h : special o = false) : blank o = false ∧ o ≠ 34 ∧ o ≠ 92 := by
  simp only [special, Bool.or_eq_false_iff, beq_eq_false_iff_ne] at h
  simp only [blank, Bool.or_eq_false_iff, beq_eq_false_iff_ne]
  omega
theorem at_pre {l : Array Nat} {p t : List Nat} {a : Nat} (h : l.toList = p ++ a :: t) : l[p.length]? = some a := by
  rw [← Array.getElem?_toList, h]; simp

theorem wdGetWord_9 : True := by
  k_with "Exists" => (k_here; refine stop ?_)
  trivial
noncomputable abbrev FrMap {h₀ h : Heap} {L : Addr} {m : Str → Option Value} (_ : Fr h₀ L h m) : Str → Option Value := m

noncomputable def GWInv (w : World) (x dx f df gl gc cell I pb : Addr) (fd : FuncData) (go gco co : Obj) (txt : Str) (tt t1 t2 t3 t4 t5 t6 : Tok) (g' : Heap) (L' I' : Addr) (tl : Led) (gens : Array GenState) (dr : Drawn) (os : OsState)
    (wd rest : List Nat) (b : Nat) (iE : Nat) (kE : Int) (n : Nat) (s' : Shared) : Prop :=
  ∃ (rem done pre1 : List Nat) (k1 : Int) (t0' tkn : Tok) (u : Str → Option Value) (h : Heap) (tk : Nat), n = rem.length ∧ s' = ⟨h, gens, dr, tk, os⟩ ∧ txt.cps.toList = pre1 ++ (enc rem ++ b :: rest) ∧ wd = done ++ rem ∧ pre1.length + (enc rem).length + 1 = iE ∧
    k1 + newlines (enc rem ++ [b]) = kE ∧ Fr g' L' h (mp [(Str.ofString "token", .str ⟨done.toArray⟩ tkn), (Str.ofString "self", .ref x), (Str.ofString "fiter", .ref I')] u) ∧
    News g' L' h (lexLedT w.params x dx f df gl gc cell I pb fd go gco co (siObj txt tt pre1.length) k1 t0' t1 t2 t3 t4 t5 t6 tl)

theorem newlines_enc (o : Nat) (r l : List Nat) : newlines (enc (o :: r) ++ l) = (if o = 10 then 1 else 0) + newlines (enc r ++ l) := by
  unfold newlines
  simp only [enc, List.append_assoc]
  cases hs : special o with
  | true =>
    simp only [if_true, List.cons_append, List.nil_append, List.count_cons]
    by_cases h : o = 10
    · subst h; simp; omega
    · simp [h]
  | false =>
    simp only [Bool.false_eq_true, if_false, List.cons_append, List.nil_append, List.count_cons]
    have : o ≠ 10 := by rintro rfl; simp [special] at hs
    simp [this]
theorem enc_len (o : Nat) (r : List Nat) : (enc (o :: r)).length = (if special o = true then 2 else 1) + (enc r).length := by
  simp only [enc, List.length_append]
  split <;> simp
theorem str_snoc (l : List Nat) (o : Nat) : (⟨l.toArray⟩ ++ ⟨#[o]⟩ : Str) = ⟨(l ++ [o]).toArray⟩ := by
  show Str.append _ _ = _
  simp [Str.append]
theorem str_first (o : Nat) : (Str.ofString "" ++ ⟨#[o]⟩ : Str) = ⟨[o].toArray⟩ := by
  rw [show Str.ofString "" = ⟨#[]⟩ from by decide +kernel]
  show Str.append _ _ = _
  simp [Str.append]

theorem wdGetWord_10 : True := by
  k_with "call ref" => (k_here; (with_reducible show wpAny _ _ (call (Value.ref 77) _) _ _ _); k_dflt (refine' spec_use (read_char_item hr _ _ hc2 _ _ _ _ _ _ _ _ hgo ho) ?k1 ?k2 ?k3 ?k4 ?k5 ?k6 [(I', ciObj q _), (q, methodObj (.ref 77) (.ref x)), (pb, W.listOf #[] np)] ?h1 ?h2 ?h3 ?k7 ?k8 ?_; k_extra "my spec"); intro hi' v' n' h'' tk'' l1'' l2'' hp' F'' N''; (try k_unfold); (try dsimp only); (try k_fold); obtain ⟨t0'', e1', u', e2'⟩ := hp'; subst e1'; subst e2'; simp only [List.cons_append, List.nil_append] at N''; (try dsimp only))
  trivial

theorem GWInv.intro {w : World} {x dx f df gl gc cell I pb : Addr} {fd : FuncData} {go gco co : Obj} {txt : Str} {tt t1 t2 t3 t4 t5 t6 : Tok} {g' : Heap} {L' I' : Addr} {m : Str → Option Value} {tl : Led} {gens : Array GenState} {dr : Drawn} {os : OsState}
    {wd rest : List Nat} {b : Nat} {iE i : Nat} {kE k1 : Int} {t0' tkn : Tok} {h : Heap} {tk : Nat} {y : Str} (done pre1 rem : List Nat)
    (F : Fr g' L' h m) (N : News g' L' h (lexLedT w.params x dx f df gl gc cell I pb fd go gco co (siObj txt tt i) k1 t0' t1 t2 t3 t4 t5 t6 tl))
    (h1 : Looks m [(Str.ofString "token", .str y tkn), (Str.ofString "self", .ref x), (Str.ofString "fiter", .ref I')]) (hy : y = ⟨done.toArray⟩) (hi : i = pre1.length)
    (hx1 : txt.cps.toList = pre1 ++ (enc rem ++ b :: rest)) (hx2 : wd = done ++ rem) (hx3 : pre1.length + (enc rem).length + 1 = iE) (hx4 : k1 + newlines (enc rem ++ [b]) = kE) :
    GWInv w x dx f df gl gc cell I pb fd go gco co txt tt t1 t2 t3 t4 t5 t6 g' L' I' tl gens dr os wd rest b iE kE rem.length ⟨h, gens, dr, tk, os⟩ := by
  subst hi
  subst hy
  exact ⟨rem, done, pre1, k1, t0', tkn, m, h, tk, rfl, rfl, hx1, hx2, hx3, hx4, fr_mp F h1, N⟩

theorem small_snoc {done wd r : List Nat} (h : wd = done ++ r) (hl : wd.length ≤ 1000) (c : Nat) : (⟨done.toArray⟩ : Str).length + (⟨#[c]⟩ : Str).length ≤ sizeLine := by
  show done.toArray.size + 1 ≤ _
  rw [sizeLine_eq, List.size_toArray]
  have := congrArg List.length h
  rw [List.length_append] at this
  omega
theorem wdGetWord_11 : True := by
  k_with "inplaceOp Add str str" => (k_here; (refine SBL.iadd (hsz := ?hsz) ?_); (case hsz => exact small_snoc hx2 hlen _); intro _ _ _)
  trivial
theorem wdGetWord_12 : True := by
  k_with "my next" => (refine' next_item hr hc3 hgo ho B' F6 X' N6 T' rfl (by show dp + 1 + 5 < _; omega) (by show un + 3 + 90 < _; omega) [(pb, W.listOf #[] np)] (by k_extra "my sub") (by k_extra "my sub") (by k_extra "my dis") ?_; intro u6 t0b h6 tk6 F7 N7; dsimp only; refine wpAny_assign_Name ?_; k_steps)
  trivial
theorem wdGetWord_13 : True := by
  k_with "my inner" => (
    refine wpAny_For ?_
    k_steps
    (rename Fr _ _ _ _ => F5); (rename News _ _ _ _ => N5)
    refine pyIter_ci (News.get N5 (by k_mem)) ?_
    refine codeAny_forLoop (GWInv w x dx f df gl gc cell I pb fd go gco co txt tt t1 t2 t3 t4 t5 t6 g' L' I' [(I', ciObj q tkq), (q, methodObj (.ref 77) (.ref x)), (pb, W.listOf #[] np)] s.gens s.drawn s.os (o :: wr) rest b (pre.length + (enc (o :: wr)).length + 1) (k + newlines (enc (o :: wr) ++ [b]))) (fun n s' hs => ?_) wr.length ?_
    · try k_fold
      obtain ⟨rem, done, pre1, k1, t0a, tkn, u5, h5, tk5, e9, e8, hx1, hx2, hx3, hx4, F6, N6⟩ := hs
      subst e9
      subst e8
      cases rem with
      | nil =>
        have hc3 : txt.cps[pre1.length]? = some b := at_pre (t := rest) (by rw [hx1]; simp [enc])
        have fwb := ws_of b; rw [hb] at fwb; simp only [Bool.not_true] at fwb
        k_extra "my next"
        have e1 : done = o :: wr := by rw [List.append_nil] at hx2; exact hx2.symm
        subst e1
        have e2 : pre1.length + 1 = pre.length + (enc (o :: wr)).length + 1 := by rw [← hx3]; rfl
        have e3 : (if b = 10 then k1 + 1 else k1) = k + newlines (enc (o :: wr) ++ [b]) := by
          rw [← hx4]
          show _ = k1 + newlines [b]
          unfold newlines
          by_cases h10 : b = 10
          · subst h10; simp
          · simp [h10, List.count_cons]
        (rename News h₀ L _ _ => kN9); (rename Fr h₀ L _ _ => kF9)
        rw [e2, e3] at kN9
        refine' left_end hret lN' lO' kF9 kN9 ⟨_, rfl, _, rfl⟩ ?hs
        case hs => k_extra "my sub"
      | cons o2 r2 =>
        cases hso2 : special o2 with
        | false =>
          have hc3 : txt.cps[pre1.length]? = some o2 := at_pre (t := enc r2 ++ b :: rest) (by rw [hx1]; simp [enc, hso2])
          obtain ⟨hb1, hb2, hb3⟩ := plain_facts hso2
          have fw2 := ws_of o2; rw [hb1] at fw2
          have fs2 := slash_of o2; rw [decide_eq_false hb3] at fs2
          simp only [Bool.not_false] at fw2
          k_extra "my next"
          (rename News _ _ _ _ => kN9); (rename Fr _ _ _ _ => kF9)
          unfold Stop
          refine ⟨r2.length, Nat.lt_succ_self _, GWInv.intro (done ++ [o2]) (pre1 ++ [o2]) r2 kF9 kN9 (by k_extra "my looks") (str_snoc _ _) ?_ ?_ ?_ ?_ ?_⟩
          · simp
          · rw [hx1]; simp [enc, hso2]
          · rw [hx2]; simp
          · rw [← hx3, enc_len, hso2]; simp; omega
          · rw [← hx4, newlines_enc]; split <;> omega
        | true =>
          have htx : txt.cps.toList = pre1 ++ 92 :: (o2 :: enc r2 ++ b :: rest) := by rw [hx1]; simp [enc, hso2]
          have hc3 : txt.cps[pre1.length]? = some 92 := at_pre htx
          have hc2 : txt.cps[pre1.length + 1]? = some o2 := by
            have := at_pre (l := txt.cps) (p := pre1 ++ [92]) (a := o2) (t := enc r2 ++ b :: rest) (by rw [htx]; simp)
            simpa using this
          have fw2 := ws_of 92
          have fs2 := slash_of 92
          simp only [show (!blank 92) = true from rfl, show decide (92 = 92) = true from rfl] at fw2 fs2
          k_extra "my next"
          (rename News _ _ _ _ => kN9); (rename Fr _ _ _ _ => kF9)
          unfold Stop
          refine ⟨r2.length, Nat.lt_succ_self _, GWInv.intro (done ++ [o2]) (pre1 ++ [92, o2]) r2 kF9 kN9 (by k_extra "my looks") (str_snoc _ _) ?_ ?_ ?_ ?_ ?_⟩
          · simp
          · rw [hx1]; simp [enc, hso2]
          · rw [hx2]; simp
          · rw [← hx3, enc_len, hso2]; simp; omega
          · rw [← hx4, newlines_enc]; simp only [show ¬ ((92 : Nat) = 10) from by decide, if_false]; split <;> omega)
  trivial

section
variable {w : World} {x dx f df gl gc cell I pb : Addr} {fd : FuncData} {go gco co : Obj} {txt : Str} {tt : Tok}

set_option maxHeartbeats 8000000 in
theorem get_word (hr : ReadsOn w gl gc cell I go gco co txt tt) (k : Int) (t0 t1 t2 t3 t4 t5 t6 : Tok) {gfd : FuncData} (hgo : go.data = .func gfd) (ho : Ordered cell I f gc gl df dx x pb) (np : Nat)
    (pre wd rest : List Nat) (b : Nat) (htxt : txt.cps.toList = pre ++ (enc wd ++ b :: rest)) (hwd : wd ≠ []) (hlen : wd.length ≤ 1000) (hb : blank b = true) :
    FnSpec w 84 [.ref x] (lexLedT w.params x dx f df gl gc cell I pb fd go gco co (siObj txt tt pre.length) k t0 t1 t2 t3 t4 t5 t6 [(pb, W.listOf #[] np)]) 8 160
      (fun _ v n => ∃ t0', n = lexLedT w.params x dx f df gl gc cell I pb fd go gco co (siObj txt tt (pre.length + (enc wd).length + 1)) (k + newlines (enc wd ++ [b])) t0' t1 t2 t3 t4 t5 t6 [(pb, W.listOf #[] np)] ∧ ∃ u, v = .str ⟨wd.toArray⟩ u) := by
  unfold FnSpec
  unfold Ordered at ho
  have hopb := below_pb ho
  k_fill
  w_top off
  intro mean mg mb dp un gd cn cs a ccd cl outer A₀ base h₀ L m s Q others B F X N NO hdis T hk hd hu hret
  k_with "my binds" => exact BindsTo.of_eq (binds := [(Str.ofString "self", .ref x)]) rfl
  k_dflt k_extra "my enter"
  k_steps
  unfold Stop
  refine wpAny_For ?_
  k_steps
  (rename Fr _ _ _ _ => F9); (rename News _ _ _ _ => N9)
  rename_i tkB q hA hB I' hC l1 hD
  generalize htkq : tkB + 1 = tkq at N9
  obtain ⟨u9, F9⟩ := fr_ex [(Str.ofString "token", .str (Str.ofString "") _), (Str.ofString "self", .ref x), (Str.ofString "fiter", .ref I')] F9 (by k_extra "my looks")

  refine pyIter_ci (News.get N9 (by k_mem)) ?_
  refine codeAny_forLoop (fun n s' => s' = _) (fun n s' hs => ?_) 0 rfl
  subst hs
  obtain ⟨o, wr, rfl⟩ : ∃ o wr, wd = o :: wr := by cases wd with
    | nil => exact absurd rfl hwd
    | cons o wr => exact ⟨o, wr, rfl⟩
  have fw92 : (Builtin.Str.occurrences (Str.ofString "\n\t\x0d ") (Str.ofString "\\") 0 (Str.ofString "\n\t\x0d ").length 1).isEmpty = true := by decide +kernel
  refine' join_w (z := s) (Pre := fun h5 tk5 => ∃ (u5 : Str → Option Value) (tkn t0a : Tok) (k1 : Int) (pre1 : List Nat), txt.cps.toList = pre1 ++ (enc wr ++ b :: rest) ∧ pre1.length + (enc wr).length + 1 = pre.length + (enc (o :: wr)).length + 1 ∧
    k1 + newlines (enc wr ++ [b]) = k + newlines (enc (o :: wr) ++ [b]) ∧ Fr g' L' h5 (mp [(Str.ofString "token", .str ⟨[o].toArray⟩ tkn), (Str.ofString "self", .ref x), (Str.ofString "fiter", .ref I')] u5) ∧
    News g' L' h5 (lexLedT w.params x dx f df gl gc cell I pb fd go gco co (siObj txt tt pre1.length) k1 t0a t1 t2 t3 t4 t5 t6 [(I', ciObj q tkq), (q, methodObj (.ref 77) (.ref x)), (pb, W.listOf #[] np)])) (fun inner => ?main) ?inner
  case' main => skip
  cases hso : special o with
  | false =>
    have hc : txt.cps[pre.length]? = some o := at_pre (t := enc wr ++ b :: rest) (by rw [htxt]; simp [enc, hso])
    obtain ⟨hb1, hb2, hb3⟩ := plain_facts hso
    have fw := ws_of o; rw [hb1] at fw
    have fq := quote_of o; rw [decide_eq_false hb2] at fq
    have fs := slash_of o; rw [decide_eq_false hb3] at fs
    simp only [Bool.not_false] at fw
    refine next_item (i := pre.length) (c := o) hr hc hgo ho B' F9 X' N9 T' rfl (by show dp + 1 + 5 < _; omega) (by show un + 3 + 90 < _; omega) [(pb, W.listOf #[] np)] (by k_extra "my sub") (by k_extra "my sub") (by k_extra "my dis") ?_
    intro u t0' h1 tk1 F1 N1
    (try k_unfold); (try dsimp only)
    refine wpAny_assign_Name ?_
    k_steps
    unfold Stop
    (rename Fr _ _ _ _ => F5); (rename News _ _ _ _ => N5)
    refine inner _ _ ⟨_, _, _, _, pre ++ [o], ?_, ?_, ?_, fr_mp F5 (by rw [← str_first]; k_extra "my looks"), by rw [List.length_append]; exact N5⟩
    · rw [htxt]; simp [enc, hso]
    · rw [enc_len, hso]; simp; omega
    · rw [newlines_enc]; split <;> omega
  | true =>
    have htx : txt.cps.toList = pre ++ 92 :: (o :: enc wr ++ b :: rest) := by rw [htxt]; simp [enc, hso]
    have hc : txt.cps[pre.length]? = some 92 := at_pre htx
    have hc2 : txt.cps[pre.length + 1]? = some o := by
      have := at_pre (l := txt.cps) (p := pre ++ [92]) (a := o) (t := enc wr ++ b :: rest) (by rw [htx]; simp)
      simpa using this
    have fw := ws_of 92
    have fq := quote_of 92
    have fs := slash_of 92
    simp only [show (!blank 92) = true from rfl, show decide (92 = 34) = false from rfl, show decide (92 = 92) = true from rfl] at fw fq fs
    refine next_item (i := pre.length) (c := 92) hr hc hgo ho B' F9 X' N9 T' rfl (by show dp + 1 + 5 < _; omega) (by show un + 3 + 90 < _; omega) [(pb, W.listOf #[] np)] (by k_extra "my sub") (by k_extra "my sub") (by k_extra "my dis") ?_
    intro u t0' h1 tk1 F1 N1
    (try k_unfold); (try dsimp only)
    refine wpAny_assign_Name ?_
    k_steps
    unfold Stop
    (rename Fr _ _ _ _ => F5); (rename News _ _ _ _ => N5)
    refine inner _ _ ⟨_, _, _, _, pre ++ [92, o], ?_, ?_, ?_, fr_mp F5 (by rw [← str_first]; k_extra "my looks"), by rw [List.length_append]; exact N5⟩
    · rw [htxt]; simp [enc, hso]
    · rw [enc_len, hso]; simp; omega
    · rw [newlines_enc]; simp only [show ¬ ((92 : Nat) = 10) from by decide, if_false]; split <;> omega
  case inner =>
    intro h5 tk5 hI9
    try k_fold
    obtain ⟨u5, tkn, t0a, k1, pre1, q1, q2, q3, F5, N5⟩ := hI9
    k_extra "my inner"
    exact GWInv.intro [o] pre1 wr F5 N5 (by k_extra "my looks") rfl rfl q1 rfl q2 q3
end
end Mine

namespace Mine
theorem wdGetEnd_0 : True := by
  k_with_none
  k_with "my enter" => (refine' code_defS ?k1 ?k2 ?k3 ?k4 ?kO ?kD ?k5 ?kA ?kF ?kK ?k6 ?k7 ?k8 ?k9 ?kB ?_ ?c2 ?c3 ?c4 ?c5; (case kA => exact rfl); (case kF => exact rfl); (case kK => assumption); (case kD => assumption); (case k1 => k_asm); (case k2 => k_asm); (case k3 => k_asm); (case k4 => assumption); (case kO => assumption); (case k5 => k_asm); (case k6 => k_is); (case k7 => k_is); (case k8 => ktr_room); (case k9 => first | k_extra "my binds" | exact BindsTo.of_eq rfl); (case c5 => decide); (case kB => exact locs rfl); (case c2 => exact rfl); (case c3 => exact rfl); (case c4 => exact rfl); k_whole; intro g' L' h' FG' F' N' B' X' T' lN' lO'; (try dsimp only); (try k_lift B'); (try k_fold))
  k_with "my sub" => repeat (first | exact sub_nil | refine sub_cons (by k_mem) ?_)
  k_with "my spec" => ((case k1 => k_asm); (case k2 => k_asm); (case k3 => k_asm); (case k4 => k_asm); (case k5 => k_asm); (case k6 => exact rfl); (case k7 => ktr_room); (case k8 => ktr_units); (case h1 => k_extra "my sub"); (case h2 => k_extra "my sub"); (case h3 => k_extra "my dis"); k_whole)
  k_with "my enterC" => (refine' code_defCS ?k1 ?k2 ?k3 ?k4 ?kO ?kQ ?k5 ?kA ?kF ?kK ?k6 ?k7 ?k8 ?k9 ?kB ?kD ?_ ?c2 ?c3 ?c4; (case kA => exact rfl); (case kF => exact rfl); (case kK => assumption); (case kQ => assumption); (case k1 => k_asm); (case k2 => k_asm); (case k3 => k_asm); (case k4 => assumption); (case kO => assumption); (case k5 => k_asm); (case k6 => k_is); (case k7 => k_is); (case k8 => ktr_room); (case k9 => first | k_extra "my binds" | exact BindsTo.of_eq rfl); (case kB => exact rfl); (case kD => decide +kernel); (case c2 => exact rfl); (case c3 => exact rfl); (case c4 => exact rfl); k_whole; intro g' L' h' tk' cells' FG' F' N' Y' B' X' T' lN' lO'; (have l1' := lN'); (try k_lt l1'); k_cells Y'; (try simp only [List.cons_append, List.nil_append] at N'); (try dsimp only); (try k_lift B'); (try k_fold))
  k_with "my dis" => (refine dis_of ?_; dsimp only [DisL, OffL]; ((repeat' first | exact True.intro | refine And.intro ?_ ?_) <;> first | k_extra "ne" | omega))
  k_with "my nel" => (dsimp only [NeL]; ((repeat' first | exact True.intro | refine And.intro ?_ ?_) <;> first | k_extra "ne" | omega))
  k_with "k ne" => (refine neN ?_; (try dsimp only); k_extra "ne")
  k_with "ne" => (first | with_reducible assumption | exact Nat.ne_of_lt (by with_reducible assumption) | exact Nat.ne_of_gt (by with_reducible assumption) | exact Ne.symm (by with_reducible assumption) | ((repeat (rename (_ < _ ∧ _) => qz; first | (refine ne_r qz ?_; first | exact qz.1 | exact qz.2.1 | exact qz.2.2.1 | exact qz.2.2.2.1 | exact qz.2.2.2.2.1 | exact qz.2.2.2.2.2.1 | exact qz.2.2.2.2.2.2.1 | exact qz.2.2.2.2.2.2.2.1 | exact qz.2.2.2.2.2.2.2.2.1 | exact qz.2.2.2.2.2.2.2.2.2.1 | exact qz.2.2.2.2.2.2.2.2.2.2.1 | exact qz.2.2.2.2.2.2.2.2.2.2.2.1 | exact qz.2.2.2.2.2.2.2.2.2.2.2.2.1 | exact qz.2.2.2.2.2.2.2.2.2.2.2.2.2.1 | exact qz.2.2.2.2.2.2.2.2.2.2.2.2.2.2.1 | exact qz.2.2.2.2.2.2.2.2.2.2.2.2.2.2.2.1 | exact qz.2.2.2.2.2.2.2.2.2.2.2.2.2.2.2.2.1 | exact qz.2.2.2.2.2.2.2.2.2.2.2.2.2.2.2.2.2.1) | (refine ne_l qz ?_; first | exact qz.1 | exact qz.2.1 | exact qz.2.2.1 | exact qz.2.2.2.1 | exact qz.2.2.2.2.1 | exact qz.2.2.2.2.2.1 | exact qz.2.2.2.2.2.2.1 | exact qz.2.2.2.2.2.2.2.1 | exact qz.2.2.2.2.2.2.2.2.1 | exact qz.2.2.2.2.2.2.2.2.2.1 | exact qz.2.2.2.2.2.2.2.2.2.2.1 | exact qz.2.2.2.2.2.2.2.2.2.2.2.1 | exact qz.2.2.2.2.2.2.2.2.2.2.2.2.1 | exact qz.2.2.2.2.2.2.2.2.2.2.2.2.2.1 | exact qz.2.2.2.2.2.2.2.2.2.2.2.2.2.2.1 | exact qz.2.2.2.2.2.2.2.2.2.2.2.2.2.2.2.1 | exact qz.2.2.2.2.2.2.2.2.2.2.2.2.2.2.2.2.1 | exact qz.2.2.2.2.2.2.2.2.2.2.2.2.2.2.2.2.2.1) | clear qz)); done) | k_extra "ne cells" | k_extra "ne one" | k_extra "ne off" | k_extra "ne up")
  k_with "ne cells" => (first | exact ne_off (i := 0) (j := 1) rfl | exact ne_off (i := 0) (j := 2) rfl | exact ne_off (i := 0) (j := 3) rfl | exact ne_off (i := 0) (j := 4) rfl | exact ne_off (i := 1) (j := 0) rfl | exact ne_off (i := 1) (j := 2) rfl | exact ne_off (i := 1) (j := 3) rfl | exact ne_off (i := 1) (j := 4) rfl | exact ne_off (i := 2) (j := 0) rfl | exact ne_off (i := 2) (j := 1) rfl | exact ne_off (i := 2) (j := 3) rfl | exact ne_off (i := 2) (j := 4) rfl | exact ne_off (i := 3) (j := 0) rfl | exact ne_off (i := 3) (j := 1) rfl | exact ne_off (i := 3) (j := 2) rfl | exact ne_off (i := 3) (j := 4) rfl | exact ne_off (i := 4) (j := 0) rfl | exact ne_off (i := 4) (j := 1) rfl | exact ne_off (i := 4) (j := 2) rfl | exact ne_off (i := 4) (j := 3) rfl)
  k_with "ne up" => (first | exact Nat.ne_of_lt (lt_up1 (by with_reducible assumption)) | exact Nat.ne_of_gt (lt_up1 (by with_reducible assumption)) | exact Nat.ne_of_lt (lt_up2 (by with_reducible assumption)) | exact Nat.ne_of_gt (lt_up2 (by with_reducible assumption)) | exact Nat.ne_of_lt (lt_up3 (by with_reducible assumption)) | exact Nat.ne_of_gt (lt_up3 (by with_reducible assumption)) | exact Nat.ne_of_lt (lt_up4 (by with_reducible assumption)) | exact Nat.ne_of_gt (lt_up4 (by with_reducible assumption)) | ((repeat (rename (_ < _ ∧ _) => qz; first | (refine ne_r1 qz ?_; first | exact qz.1 | exact qz.2.1 | exact qz.2.2.1 | exact qz.2.2.2.1 | exact qz.2.2.2.2.1 | exact qz.2.2.2.2.2.1 | exact qz.2.2.2.2.2.2.1 | exact qz.2.2.2.2.2.2.2.1 | exact qz.2.2.2.2.2.2.2.2.1 | exact qz.2.2.2.2.2.2.2.2.2.1 | exact qz.2.2.2.2.2.2.2.2.2.2.1 | exact qz.2.2.2.2.2.2.2.2.2.2.2.1 | exact qz.2.2.2.2.2.2.2.2.2.2.2.2.1 | exact qz.2.2.2.2.2.2.2.2.2.2.2.2.2.1 | exact qz.2.2.2.2.2.2.2.2.2.2.2.2.2.2.1 | exact qz.2.2.2.2.2.2.2.2.2.2.2.2.2.2.2.1 | exact qz.2.2.2.2.2.2.2.2.2.2.2.2.2.2.2.2.1 | exact qz.2.2.2.2.2.2.2.2.2.2.2.2.2.2.2.2.2.1) | (refine ne_l1 qz ?_; first | exact qz.1 | exact qz.2.1 | exact qz.2.2.1 | exact qz.2.2.2.1 | exact qz.2.2.2.2.1 | exact qz.2.2.2.2.2.1 | exact qz.2.2.2.2.2.2.1 | exact qz.2.2.2.2.2.2.2.1 | exact qz.2.2.2.2.2.2.2.2.1 | exact qz.2.2.2.2.2.2.2.2.2.1 | exact qz.2.2.2.2.2.2.2.2.2.2.1 | exact qz.2.2.2.2.2.2.2.2.2.2.2.1 | exact qz.2.2.2.2.2.2.2.2.2.2.2.2.1 | exact qz.2.2.2.2.2.2.2.2.2.2.2.2.2.1 | exact qz.2.2.2.2.2.2.2.2.2.2.2.2.2.2.1 | exact qz.2.2.2.2.2.2.2.2.2.2.2.2.2.2.2.1 | exact qz.2.2.2.2.2.2.2.2.2.2.2.2.2.2.2.2.1 | exact qz.2.2.2.2.2.2.2.2.2.2.2.2.2.2.2.2.2.1) | (refine ne_r2 qz ?_; first | exact qz.1 | exact qz.2.1 | exact qz.2.2.1 | exact qz.2.2.2.1 | exact qz.2.2.2.2.1 | exact qz.2.2.2.2.2.1 | exact qz.2.2.2.2.2.2.1 | exact qz.2.2.2.2.2.2.2.1 | exact qz.2.2.2.2.2.2.2.2.1 | exact qz.2.2.2.2.2.2.2.2.2.1 | exact qz.2.2.2.2.2.2.2.2.2.2.1 | exact qz.2.2.2.2.2.2.2.2.2.2.2.1 | exact qz.2.2.2.2.2.2.2.2.2.2.2.2.1 | exact qz.2.2.2.2.2.2.2.2.2.2.2.2.2.1 | exact qz.2.2.2.2.2.2.2.2.2.2.2.2.2.2.1 | exact qz.2.2.2.2.2.2.2.2.2.2.2.2.2.2.2.1 | exact qz.2.2.2.2.2.2.2.2.2.2.2.2.2.2.2.2.1 | exact qz.2.2.2.2.2.2.2.2.2.2.2.2.2.2.2.2.2.1) | (refine ne_l2 qz ?_; first | exact qz.1 | exact qz.2.1 | exact qz.2.2.1 | exact qz.2.2.2.1 | exact qz.2.2.2.2.1 | exact qz.2.2.2.2.2.1 | exact qz.2.2.2.2.2.2.1 | exact qz.2.2.2.2.2.2.2.1 | exact qz.2.2.2.2.2.2.2.2.1 | exact qz.2.2.2.2.2.2.2.2.2.1 | exact qz.2.2.2.2.2.2.2.2.2.2.1 | exact qz.2.2.2.2.2.2.2.2.2.2.2.1 | exact qz.2.2.2.2.2.2.2.2.2.2.2.2.1 | exact qz.2.2.2.2.2.2.2.2.2.2.2.2.2.1 | exact qz.2.2.2.2.2.2.2.2.2.2.2.2.2.2.1 | exact qz.2.2.2.2.2.2.2.2.2.2.2.2.2.2.2.1 | exact qz.2.2.2.2.2.2.2.2.2.2.2.2.2.2.2.2.1 | exact qz.2.2.2.2.2.2.2.2.2.2.2.2.2.2.2.2.2.1) | (refine ne_r3 qz ?_; first | exact qz.1 | exact qz.2.1 | exact qz.2.2.1 | exact qz.2.2.2.1 | exact qz.2.2.2.2.1 | exact qz.2.2.2.2.2.1 | exact qz.2.2.2.2.2.2.1 | exact qz.2.2.2.2.2.2.2.1 | exact qz.2.2.2.2.2.2.2.2.1 | exact qz.2.2.2.2.2.2.2.2.2.1 | exact qz.2.2.2.2.2.2.2.2.2.2.1 | exact qz.2.2.2.2.2.2.2.2.2.2.2.1 | exact qz.2.2.2.2.2.2.2.2.2.2.2.2.1 | exact qz.2.2.2.2.2.2.2.2.2.2.2.2.2.1 | exact qz.2.2.2.2.2.2.2.2.2.2.2.2.2.2.1 | exact qz.2.2.2.2.2.2.2.2.2.2.2.2.2.2.2.1 | exact qz.2.2.2.2.2.2.2.2.2.2.2.2.2.2.2.2.1 | exact qz.2.2.2.2.2.2.2.2.2.2.2.2.2.2.2.2.2.1) | (refine ne_l3 qz ?_; first | exact qz.1 | exact qz.2.1 | exact qz.2.2.1 | exact qz.2.2.2.1 | exact qz.2.2.2.2.1 | exact qz.2.2.2.2.2.1 | exact qz.2.2.2.2.2.2.1 | exact qz.2.2.2.2.2.2.2.1 | exact qz.2.2.2.2.2.2.2.2.1 | exact qz.2.2.2.2.2.2.2.2.2.1 | exact qz.2.2.2.2.2.2.2.2.2.2.1 | exact qz.2.2.2.2.2.2.2.2.2.2.2.1 | exact qz.2.2.2.2.2.2.2.2.2.2.2.2.1 | exact qz.2.2.2.2.2.2.2.2.2.2.2.2.2.1 | exact qz.2.2.2.2.2.2.2.2.2.2.2.2.2.2.1 | exact qz.2.2.2.2.2.2.2.2.2.2.2.2.2.2.2.1 | exact qz.2.2.2.2.2.2.2.2.2.2.2.2.2.2.2.2.1 | exact qz.2.2.2.2.2.2.2.2.2.2.2.2.2.2.2.2.2.1) | (refine ne_r4 qz ?_; first | exact qz.1 | exact qz.2.1 | exact qz.2.2.1 | exact qz.2.2.2.1 | exact qz.2.2.2.2.1 | exact qz.2.2.2.2.2.1 | exact qz.2.2.2.2.2.2.1 | exact qz.2.2.2.2.2.2.2.1 | exact qz.2.2.2.2.2.2.2.2.1 | exact qz.2.2.2.2.2.2.2.2.2.1 | exact qz.2.2.2.2.2.2.2.2.2.2.1 | exact qz.2.2.2.2.2.2.2.2.2.2.2.1 | exact qz.2.2.2.2.2.2.2.2.2.2.2.2.1 | exact qz.2.2.2.2.2.2.2.2.2.2.2.2.2.1 | exact qz.2.2.2.2.2.2.2.2.2.2.2.2.2.2.1 | exact qz.2.2.2.2.2.2.2.2.2.2.2.2.2.2.2.1 | exact qz.2.2.2.2.2.2.2.2.2.2.2.2.2.2.2.2.1 | exact qz.2.2.2.2.2.2.2.2.2.2.2.2.2.2.2.2.2.1) | (refine ne_l4 qz ?_; first | exact qz.1 | exact qz.2.1 | exact qz.2.2.1 | exact qz.2.2.2.1 | exact qz.2.2.2.2.1 | exact qz.2.2.2.2.2.1 | exact qz.2.2.2.2.2.2.1 | exact qz.2.2.2.2.2.2.2.1 | exact qz.2.2.2.2.2.2.2.2.1 | exact qz.2.2.2.2.2.2.2.2.2.1 | exact qz.2.2.2.2.2.2.2.2.2.2.1 | exact qz.2.2.2.2.2.2.2.2.2.2.2.1 | exact qz.2.2.2.2.2.2.2.2.2.2.2.2.1 | exact qz.2.2.2.2.2.2.2.2.2.2.2.2.2.1 | exact qz.2.2.2.2.2.2.2.2.2.2.2.2.2.2.1 | exact qz.2.2.2.2.2.2.2.2.2.2.2.2.2.2.2.1 | exact qz.2.2.2.2.2.2.2.2.2.2.2.2.2.2.2.2.1 | exact qz.2.2.2.2.2.2.2.2.2.2.2.2.2.2.2.2.2.1) | clear qz)); done))
  k_with "execs cons" => k_fold
  k_with "exec Assign" => k_fold
  k_with "exec If" => k_fold
  k_with "exec AugAssign" => k_fold
  k_with "my looks" => (repeat' first | exact True.intro | (refine And.intro ?_ ?_) | with_unfolding_all rfl)
  k_with "ne off" => ((repeat (rename (LCg.Off3 _ _ _ _) => qo; first | exact qo.1.1 | exact Ne.symm qo.1.1 | exact qo.1.2.1 | exact Ne.symm qo.1.2.1 | exact qo.1.2.2 | exact Ne.symm qo.1.2.2 | exact qo.2.1.1 | exact Ne.symm qo.2.1.1 | exact qo.2.1.2.1 | exact Ne.symm qo.2.1.2.1 | exact qo.2.1.2.2 | exact Ne.symm qo.2.1.2.2 | exact qo.2.2.1.1 | exact Ne.symm qo.2.2.1.1 | exact qo.2.2.1.2.1 | exact Ne.symm qo.2.2.1.2.1 | exact qo.2.2.1.2.2 | exact Ne.symm qo.2.2.1.2.2 | exact qo.2.2.2.1.1 | exact Ne.symm qo.2.2.2.1.1 | exact qo.2.2.2.1.2.1 | exact Ne.symm qo.2.2.2.1.2.1 | exact qo.2.2.2.1.2.2 | exact Ne.symm qo.2.2.2.1.2.2 | exact qo.2.2.2.2.1.1 | exact Ne.symm qo.2.2.2.2.1.1 | exact qo.2.2.2.2.1.2.1 | exact Ne.symm qo.2.2.2.2.1.2.1 | exact qo.2.2.2.2.1.2.2 | exact Ne.symm qo.2.2.2.2.1.2.2 | exact qo.2.2.2.2.2.1.1 | exact Ne.symm qo.2.2.2.2.2.1.1 | exact qo.2.2.2.2.2.1.2.1 | exact Ne.symm qo.2.2.2.2.2.1.2.1 | exact qo.2.2.2.2.2.1.2.2 | exact Ne.symm qo.2.2.2.2.2.1.2.2 | exact qo.2.2.2.2.2.2.1.1 | exact Ne.symm qo.2.2.2.2.2.2.1.1 | exact qo.2.2.2.2.2.2.1.2.1 | exact Ne.symm qo.2.2.2.2.2.2.1.2.1 | exact qo.2.2.2.2.2.2.1.2.2 | exact Ne.symm qo.2.2.2.2.2.2.1.2.2 | exact qo.2.2.2.2.2.2.2.1.1 | exact Ne.symm qo.2.2.2.2.2.2.2.1.1 | exact qo.2.2.2.2.2.2.2.1.2.1 | exact Ne.symm qo.2.2.2.2.2.2.2.1.2.1 | exact qo.2.2.2.2.2.2.2.1.2.2 | exact Ne.symm qo.2.2.2.2.2.2.2.1.2.2 | exact qo.2.2.2.2.2.2.2.2.1.1 | exact Ne.symm qo.2.2.2.2.2.2.2.2.1.1 | exact qo.2.2.2.2.2.2.2.2.1.2.1 | exact Ne.symm qo.2.2.2.2.2.2.2.2.1.2.1 | exact qo.2.2.2.2.2.2.2.2.1.2.2 | exact Ne.symm qo.2.2.2.2.2.2.2.2.1.2.2 | exact qo.2.2.2.2.2.2.2.2.2.1.1 | exact Ne.symm qo.2.2.2.2.2.2.2.2.2.1.1 | exact qo.2.2.2.2.2.2.2.2.2.1.2.1 | exact Ne.symm qo.2.2.2.2.2.2.2.2.2.1.2.1 | exact qo.2.2.2.2.2.2.2.2.2.1.2.2 | exact Ne.symm qo.2.2.2.2.2.2.2.2.2.1.2.2 | exact qo.2.2.2.2.2.2.2.2.2.2.1.1 | exact Ne.symm qo.2.2.2.2.2.2.2.2.2.2.1.1 | exact qo.2.2.2.2.2.2.2.2.2.2.1.2.1 | exact Ne.symm qo.2.2.2.2.2.2.2.2.2.2.1.2.1 | exact qo.2.2.2.2.2.2.2.2.2.2.1.2.2 | exact Ne.symm qo.2.2.2.2.2.2.2.2.2.2.1.2.2 | exact qo.2.2.2.2.2.2.2.2.2.2.2.1.1 | exact Ne.symm qo.2.2.2.2.2.2.2.2.2.2.2.1.1 | exact qo.2.2.2.2.2.2.2.2.2.2.2.1.2.1 | exact Ne.symm qo.2.2.2.2.2.2.2.2.2.2.2.1.2.1 | exact qo.2.2.2.2.2.2.2.2.2.2.2.1.2.2 | exact Ne.symm qo.2.2.2.2.2.2.2.2.2.2.2.1.2.2 | exact qo.2.2.2.2.2.2.2.2.2.2.2.2.1.1 | exact Ne.symm qo.2.2.2.2.2.2.2.2.2.2.2.2.1.1 | exact qo.2.2.2.2.2.2.2.2.2.2.2.2.1.2.1 | exact Ne.symm qo.2.2.2.2.2.2.2.2.2.2.2.2.1.2.1 | exact qo.2.2.2.2.2.2.2.2.2.2.2.2.1.2.2 | exact Ne.symm qo.2.2.2.2.2.2.2.2.2.2.2.2.1.2.2 | exact qo.2.2.2.2.2.2.2.2.2.2.2.2.2.1.1 | exact Ne.symm qo.2.2.2.2.2.2.2.2.2.2.2.2.2.1.1 | exact qo.2.2.2.2.2.2.2.2.2.2.2.2.2.1.2.1 | exact Ne.symm qo.2.2.2.2.2.2.2.2.2.2.2.2.2.1.2.1 | exact qo.2.2.2.2.2.2.2.2.2.2.2.2.2.1.2.2 | exact Ne.symm qo.2.2.2.2.2.2.2.2.2.2.2.2.2.1.2.2 | exact qo.2.2.2.2.2.2.2.2.2.2.2.2.2.2.1.1 | exact Ne.symm qo.2.2.2.2.2.2.2.2.2.2.2.2.2.2.1.1 | exact qo.2.2.2.2.2.2.2.2.2.2.2.2.2.2.1.2.1 | exact Ne.symm qo.2.2.2.2.2.2.2.2.2.2.2.2.2.2.1.2.1 | exact qo.2.2.2.2.2.2.2.2.2.2.2.2.2.2.1.2.2 | exact Ne.symm qo.2.2.2.2.2.2.2.2.2.2.2.2.2.2.1.2.2 | exact qo.2.2.2.2.2.2.2.2.2.2.2.2.2.2.2.1.1 | exact Ne.symm qo.2.2.2.2.2.2.2.2.2.2.2.2.2.2.2.1.1 | exact qo.2.2.2.2.2.2.2.2.2.2.2.2.2.2.2.1.2.1 | exact Ne.symm qo.2.2.2.2.2.2.2.2.2.2.2.2.2.2.2.1.2.1 | exact qo.2.2.2.2.2.2.2.2.2.2.2.2.2.2.2.1.2.2 | exact Ne.symm qo.2.2.2.2.2.2.2.2.2.2.2.2.2.2.2.1.2.2 | exact qo.2.2.2.2.2.2.2.2.2.2.2.2.2.2.2.2.1.1 | exact Ne.symm qo.2.2.2.2.2.2.2.2.2.2.2.2.2.2.2.2.1.1 | exact qo.2.2.2.2.2.2.2.2.2.2.2.2.2.2.2.2.1.2.1 | exact Ne.symm qo.2.2.2.2.2.2.2.2.2.2.2.2.2.2.2.2.1.2.1 | exact qo.2.2.2.2.2.2.2.2.2.2.2.2.2.2.2.2.1.2.2 | exact Ne.symm qo.2.2.2.2.2.2.2.2.2.2.2.2.2.2.2.2.1.2.2 | clear qo)); done)
  k_with "lt" => (first | with_reducible assumption | ((repeat (rename (_ < _ ∧ _) => qz; first | exact qz.1 | exact qz.2.1 | exact qz.2.2.1 | exact qz.2.2.2.1 | exact qz.2.2.2.2.1 | exact qz.2.2.2.2.2.1 | exact qz.2.2.2.2.2.2.1 | exact qz.2.2.2.2.2.2.2.1 | exact qz.2.2.2.2.2.2.2.2.1 | exact qz.2.2.2.2.2.2.2.2.2.1 | exact qz.2.2.2.2.2.2.2.2.2.2.1 | exact qz.2.2.2.2.2.2.2.2.2.2.2.1 | exact qz.2.2.2.2.2.2.2.2.2.2.2.2.1 | exact qz.2.2.2.2.2.2.2.2.2.2.2.2.2.1 | exact qz.2.2.2.2.2.2.2.2.2.2.2.2.2.2.1 | exact qz.2.2.2.2.2.2.2.2.2.2.2.2.2.2.2.1 | exact qz.2.2.2.2.2.2.2.2.2.2.2.2.2.2.2.2.1 | exact qz.2.2.2.2.2.2.2.2.2.2.2.2.2.2.2.2.2.1 | clear qz)); done))
  k_with "ne one" => ((repeat (rename (_ ≠ _ ∧ _) => qo; first | exact qo.1 | exact Ne.symm qo.1 | exact qo.2.1 | exact Ne.symm qo.2.1 | exact qo.2.2.1 | exact Ne.symm qo.2.2.1 | exact qo.2.2.2.1 | exact Ne.symm qo.2.2.2.1 | exact qo.2.2.2.2.1 | exact Ne.symm qo.2.2.2.2.1 | exact qo.2.2.2.2.2.1 | exact Ne.symm qo.2.2.2.2.2.1 | exact qo.2.2.2.2.2.2.1 | exact Ne.symm qo.2.2.2.2.2.2.1 | exact qo.2.2.2.2.2.2.2.1 | exact Ne.symm qo.2.2.2.2.2.2.2.1 | exact qo.2.2.2.2.2.2.2.2.1 | exact Ne.symm qo.2.2.2.2.2.2.2.2.1 | exact qo.2.2.2.2.2.2.2.2.2.1 | exact Ne.symm qo.2.2.2.2.2.2.2.2.2.1 | exact qo.2.2.2.2.2.2.2.2.2.2.1 | exact Ne.symm qo.2.2.2.2.2.2.2.2.2.2.1 | exact qo.2.2.2.2.2.2.2.2.2.2.2.1 | exact Ne.symm qo.2.2.2.2.2.2.2.2.2.2.2.1 | exact qo.2.2.2.2.2.2.2.2.2.2.2.2.1 | exact Ne.symm qo.2.2.2.2.2.2.2.2.2.2.2.2.1 | exact qo.2.2.2.2.2.2.2.2.2.2.2.2.2.1 | exact Ne.symm qo.2.2.2.2.2.2.2.2.2.2.2.2.2.1 | exact qo.2.2.2.2.2.2.2.2.2.2.2.2.2.2.1 | exact Ne.symm qo.2.2.2.2.2.2.2.2.2.2.2.2.2.2.1 | exact qo.2.2.2.2.2.2.2.2.2.2.2.2.2.2.2.1 | exact Ne.symm qo.2.2.2.2.2.2.2.2.2.2.2.2.2.2.2.1 | exact qo.2.2.2.2.2.2.2.2.2.2.2.2.2.2.2.2.1 | exact Ne.symm qo.2.2.2.2.2.2.2.2.2.2.2.2.2.2.2.2.1 | clear qo)); done)
  trivial
set_option maxRecDepth 100000

theorem wdGetEnd_14 : True := by
  k_with "exec For Name Name cons nil" => (k_here; refine stop ?_)
  trivial
theorem wdGetEnd_15 : True := by
  k_with "call builtin:iter" => (k_here; (with_reducible show wpAny _ _ (call (Value.builtin "iter") [Value.ref _, Value.str _ _]) _ _ _); k_dflt (refine iter_call (by k_asm) (by k_asm) (by k_mem) ?_); intro _ _ _ _ l1z; (try k_lt l1z); (revert l1z; intro _))
  trivial

section
variable {w : World} {x dx f df gl gc cell I pb : Addr} {fd : FuncData} {go gco co : Obj} {txt : Str} {tt : Tok}

set_option maxHeartbeats 8000000 in
theorem get_end (hr : ReadsOn w gl gc cell I go gco co txt tt) (k : Int) (t0 t1 t2 t3 t4 t5 t6 : Tok) {gfd : FuncData} (hgo : go.data = .func gfd) (ho : Ordered cell I f gc gl df dx x pb) (np i : Nat)
    (hc : txt.cps[i]? = none) :
    FnSpec w 84 [.ref x] (lexLedT w.params x dx f df gl gc cell I pb fd go gco co (siObj txt tt i) k t0 t1 t2 t3 t4 t5 t6 [(pb, W.listOf #[] np)]) 8 160
      (fun _ v n => n = lexLedT w.params x dx f df gl gc cell I pb fd go gco co (siEnd txt i) k t0 t1 t2 t3 t4 t5 t6 [(pb, W.listOf #[] np)] ∧ ∃ u, v = .str ⟨#[]⟩ u) := by
  unfold FnSpec
  unfold Ordered at ho
  k_fill
  w_top off
  intro mean mg mb dp un gd cn cs a ccd cl outer A₀ base h₀ L m s Q others B F X N NO hdis T hk hd hu hret
  k_with "my binds" => exact BindsTo.of_eq (binds := [(Str.ofString "self", .ref x)]) rfl
  k_dflt k_extra "my enter"
  k_steps
  unfold Stop
  refine wpAny_For ?_
  k_steps
  rename_i tkA tkB hX q hA hB I' hC l1 hD F9 N9
  refine pyIter_ci (News.get N9 (by k_mem)) ?_
  refine codeAny_forLoop (fun n s' => s' = _) (fun n s' hs => ?_) 0 rfl
  subst hs
  refine next_end (i := i) hr hc hgo ho B' F9 X' N9 T' rfl (by show dp + 1 + 5 < _; omega) (by show un + 3 + 90 < _; omega) [(pb, W.listOf #[] np)] (by k_extra "my sub") (by k_extra "my sub") (by k_extra "my dis") ?_ ?_
  · intro p hp
    rw [List.mem_singleton.mp hp]
    refine neN ?_
    (try k_unfold); (try dsimp only)
    omega
  intro h1 tk1 F1 N1
  (try k_unfold); (try dsimp only)
  k_steps
  refine' left_end hret lN' lO' (by assumption) (by assumption) ⟨rfl, _, by rw [show Str.ofString "" = ⟨#[]⟩ from by decide +kernel]⟩ ?hs
  case hs => k_extra "my sub"
end

section
variable {prog : Program} {w : World} {A : Around} {E : Value → Shared → Prop} {s : Shared} {h₀ : Heap} {L D : Addr} {m : Str → Option Value} {news news' : Led} {n : Nat}
theorem pop_first {v : Value} {vs : List Value} {u : Tok} {Q : Value → Shared → Prop} (F : Fr h₀ L s.heap m) (N : News h₀ L s.heap news) (hz : (v :: vs).length ≤ 1000) (U : Upd D (W.listOf (v :: vs).toArray n) (W.listOf ([] ++ vs).toArray (n + 1)) news news')
    (h : ∀ h', Fr h₀ L h' m → News h₀ L h' news' → Q v { s with heap := h' }) : wpAny (model prog w) A (call (.builtin "list.pop") [.ref D, .int 0 u]) Q E s := by
  refine kl_popAt (k := 0) (p := []) (q := vs) (y := v) F N rfl ?_ rfl U ?_ h
  · unfold seqIndex?
    simp
  · rw [sizeLine_eq]
    show (v :: vs).length ≤ _
    omega
theorem truthy_more {v : Value} {vs : List Value} {Q : Bool → Shared → Prop} (N : News h₀ L s.heap news) (hm : (D, W.listOf (v :: vs).toArray n) ∈ news) (hz : (v :: vs).length ≤ 1000)
    (h : Q true { s with toks := s.toks + 1 + 1 }) : wpAny (model prog w) A (truthy (.ref D)) Q E s := by
  refine wpAny_truthy_list (News.isList N hm) ?_ ?_
  · rw [List.size_toArray]; omega
  · simpa using h
end

theorem wdGetEnd_16 : True := by
  k_with "truthy ref" => (k_here; k_dflt (refine' truthy_more (by k_asm) ?a ?b ?_; (case a => k_mem); (case b => assumption); k_whole))
  trivial
theorem wdGetEnd_17 : True := by
  k_with "call builtin:list.pop" => (k_here; k_dflt (refine' pop_first (by k_asm) (by k_asm) ?a ?b ?_; (case a => assumption); (case b => k_upd); k_whole); intro _ _ Nz; (try dsimp only [List.nil_append] at Nz); (revert Nz; intro _))
  trivial

section
variable {w : World} {x dx f pb : Addr}
set_option maxHeartbeats 8000000 in
theorem get_pushed (k : Int) (t0 t1 t2 t3 t4 t5 : Tok) (z : Int) (tz : Tok) (vs : List Value) (np : Nat) (hlt : @LT.lt Nat _ dx x ∧ @LT.lt Nat _ x pb) (hv : (Value.int z tz :: vs).length ≤ 1000) :
    FnSpec w 84 [.ref x] [(x, instObj 94 dx), (dx, lexD w.params k t0 t1 t2 t3 t4 t5 f pb), (pb, W.listOf (Value.int z tz :: vs).toArray np)] 8 160
      (fun _ v' n => ∃ np', n = [(x, instObj 94 dx), (dx, lexD w.params k t0 t1 t2 t3 t4 t5 f pb), (pb, W.listOf vs.toArray np')] ∧ v' = .int z tz) := by
  unfold FnSpec
  k_fill
  w_top off
  intro mean mg mb dp un gd cn cs a ccd cl outer A₀ base h₀ L m s Q others B F X N NO hdis T hk hd hu hret
  k_with "my binds" => exact BindsTo.of_eq (binds := [(Str.ofString "self", .ref x)]) rfl
  k_dflt k_extra "my enter"
  k_steps
  (rename News h₀ L _ _ => kN9); (rename Fr h₀ L _ _ => kF9)
  refine left_end hret lN' lO' kF9 kN9 ⟨np + 1, rfl, rfl⟩ ?_
  k_extra "my sub"

set_option maxHeartbeats 8000000 in
theorem push_one (k : Int) (t0 t1 t2 t3 t4 t5 : Tok) (z : Int) (tz : Tok) (vs : List Value) (np : Nat) (hlt : @LT.lt Nat _ dx x ∧ @LT.lt Nat _ x pb) (hv : vs.length ≤ 1000) :
    FnSpec w 91 [.ref x, .int z tz] [(x, instObj 94 dx), (dx, lexD w.params k t0 t1 t2 t3 t4 t5 f pb), (pb, W.listOf vs.toArray np)] 8 160
      (fun _ v' n => ∃ np', n = [(x, instObj 94 dx), (dx, lexD w.params k t0 t1 t2 t3 t4 t5 f pb), (pb, W.listOf (vs ++ [Value.int z tz]).toArray np')] ∧ v' = .none) := by
  unfold FnSpec
  k_fill
  w_top off
  intro mean mg mb dp un gd cn cs a ccd cl outer A₀ base h₀ L m s Q others B F X N NO hdis T hk hd hu hret
  k_with "my binds" => exact BindsTo.of_eq (binds := [(Str.ofString "self", .ref x), (Str.ofString "token", .int z tz)]) rfl
  k_dflt k_extra "my enter"
  k_steps
  (rename News h₀ L _ _ => kN9); (rename Fr h₀ L _ _ => kF9)
  refine left_end hret lN' lO' kF9 kN9 ⟨np + 1, rfl, rfl⟩ ?_
  rw [show (vs ++ [Value.int z tz]).toArray = vs.toArray.push (Value.int z tz) from by simp]
  k_extra "my sub"
end
end Mine

namespace Mine
set_option maxRecDepth 100000

/-- a list's iterator that has given i items -/
noncomputable def liObj (l : Addr) (i : Nat) : Obj := { cls := .type "list_iterator", data := .fields #[.ref l, .int i 0] }
/-- a range's iterator: the next int, how many are left -/
noncomputable def riObj (a n : Int) : Obj := { cls := .type "range_iterator", data := .fields #[rawInt a, rawInt n, rawInt 1] }

theorem fr_ext {h₀ h h' : Heap} {L d : Addr} {m : Str → Option Value} (F : Fr h₀ L h m) (hs : Heap.ExtBut d h h') (hL : d ≠ L) (hn : h₀.get? d = none) : Fr h₀ L h' m := by
  obtain ⟨oL, es, ep, hoL, r⟩ := F.ns
  refine ⟨⟨oL, es, ep, hs L oL (Ne.symm hL) hoL, r⟩, fun b o e => hs b o ?_ (F.keep b o e), F.above⟩
  rintro rfl
  rw [hn] at e
  cases e
theorem news_ext {h₀ h h' : Heap} {L d : Addr} {news rest : Led} (N : News h₀ L h news) (hs : Heap.ExtBut d h h') (hr : ∀ p ∈ rest, p ∈ news) (hd : ∀ p ∈ rest, p.1 ≠ d) : News h₀ L h' rest :=
  fun p hp => ⟨hs _ _ (hd p hp) (N p (hr p hp)).1, (N p (hr p hp)).2⟩
noncomputable def NeL (d : Nat) : Led → Prop
  | [] => True
  | p :: r => @Ne Nat p.1 d ∧ NeL d r
theorem ne_of {d : Addr} {l : Led} (h : NeL d l) : ∀ p ∈ l, p.1 ≠ d := by
  induction l with
  | nil => intro p hp; cases hp
  | cons q r ih =>
    intro p hp
    rcases List.mem_cons.mp hp with e | hp
    · rw [e]; exact h.1
    · exact ih h.2 p hp

section
variable {prog : Program} {w : World} {A : Around} {E : Value → Shared → Prop} {s : Shared} {h₀ : Heap} {L : Addr} {m : Str → Option Value} {news : Led}

theorem upd_led {it : Addr} {io io' : Obj} {g : Obj → Led} {h' : Heap} (F : Fr h₀ L s.heap m) (N : News h₀ L s.heap news) (U : UpdF it io news g) (hs : Heap.SameBut it s.heap h') (ho : h'.get? it = some io') :
    Fr h₀ L h' m ∧ News h₀ L h' (g io') := by
  obtain ⟨pre, post, hl, hg, a, b⟩ := U.split
  have hm := N (it, io) (by rw [hl]; exact List.mem_append_right _ (.head _))
  exact ⟨F.change hs hm.2.1 hm.2.2, hg io' ▸ (show News h₀ L s.heap (pre ++ (it, io) :: post) from hl ▸ N).setIn a b hs ho⟩
theorem updF_mem {it : Addr} {io : Obj} {g : Obj → Led} (U : UpdF it io news g) : (it, io) ∈ news := by
  obtain ⟨pre, post, hl, hg, a, b⟩ := U.split
  rw [hl]; exact List.mem_append_right _ (.head _)

theorem li_start {l : Addr} {its : Array Value} {n : Nat} {Q : Value → Shared → Prop} (F : Fr h₀ L s.heap m) (N : News h₀ L s.heap news) (hm : (l, W.listOf its n) ∈ news)
    (h : ∀ (I : Addr) h', Fr h₀ L h' m → News h₀ L h' ((I, liObj l 0) :: news) → (∀ p ∈ news, p.1 < I) → Q (.ref I) { s with heap := h' }) : wpAny (model prog w) A (pyIter (.ref l)) Q E s := by
  refine wpAny_pyIter_list (News.isList N hm) ?_
  exact h _ _ (F.push _) (News.push F N (liObj l 0) rfl) (fun p hp => Heap.lt_size (N p hp).1)

theorem li_item {l I : Addr} {i : Nat} {its : Array Value} {n : Nat} {v : Value} {g : Obj → Led} {Q : Option Value → Shared → Prop} (F : Fr h₀ L s.heap m) (N : News h₀ L s.heap news) (U : UpdF I (liObj l i) news g) (hm : (l, W.listOf its n) ∈ news) (hx : its[i]? = some v)
    (h : ∀ h', Fr h₀ L h' m → News h₀ L h' (g (liObj l (i + 1))) → Q (some v) { s with heap := h' }) : wpAny (model prog w) A (pyNext (.ref I)) Q E s := by
  have ho := (N _ (updF_mem U)).1
  have ty : s.TypeIs (.ref I) "list_iterator" := ⟨_, ho, rfl⟩
  unfold pyNext
  refine wpAny_bind (wpAny_attempt (wpAny_callSpecial?_slot (name := Str.ofString "__next__") ty slot_listiter_next
    (wpAny_call_entry slot_listiter_next ty entry_listiter_next ?_ (args_listiter_next _))))
  show wpAny _ _ (field (.ref I) 0 >>= _) _ _ s
  refine wpAny_bind (wpAny_field ho rfl (x := .ref l) rfl ?_)
  show wpAny _ _ (if (Value.ref l == Value.none) = true then _ else _) _ _ s
  rw [if_neg (show ¬ ((Value.ref l == Value.none) = true) from Bool.false_ne_true)]
  show wpAny _ _ (field (.ref I) 1 >>= _) _ _ s
  refine wpAny_bind (wpAny_field ho rfl (x := .int i 0) rfl ?_)
  show wpAny _ _ (seqItems? (.ref l) >>= _) _ _ s
  refine wpAny_bind (wpAny_seqItems (N _ hm).1 rfl ?_)
  simp only [Int.toNat_natCast, hx]
  refine wpAny_bind (wpAny_setField_rec ho (by simp) fun h' h1 h2 => wpAny_pure ⟨v, rfl, wpAny_pure ?_⟩)
  obtain ⟨F', N'⟩ := upd_led (io' := liObj l (i + 1)) F N U h2 (by rw [h1]; simp [liObj, rawInt])
  exact h h' F' N'

theorem li_end {l I : Addr} {i : Nat} {its : Array Value} {n : Nat} {rest : Led} {Q : Option Value → Shared → Prop} (hh : A.handled = none) (F : Fr h₀ L s.heap m) (N : News h₀ L s.heap news) (hI : (I, liObj l i) ∈ news) (hm : (l, W.listOf its n) ∈ news) (hx : its[i]? = none)
    (hr : ∀ p ∈ rest, p ∈ news) (hd : ∀ p ∈ rest, p.1 ≠ I)
    (h : ∀ h', Fr h₀ L h' m → News h₀ L h' rest → Q none { s with heap := h' }) : wpAny (model prog w) A (pyNext (.ref I)) Q E s := by
  have hN := N _ hI
  refine wpAny_pyNext_list_end hh ⟨_, hN.1, rfl, rfl⟩ (News.isList N hm) hx fun h' hs => h h' (fr_ext F hs hN.2.1 hN.2.2) (news_ext N hs hr hd)

theorem ri_item {I : Addr} {x k : Int} {g : Obj → Led} {Q : Option Value → Shared → Prop} (F : Fr h₀ L s.heap m) (N : News h₀ L s.heap news) (U : UpdF I (riObj x k) news g) (hk : 0 < k)
    (h : ∀ t h' tk, Fr h₀ L h' m → News h₀ L h' (g (riObj (x + 1) (k - 1))) → Q (some (.int x t)) { s with heap := h', toks := tk }) : wpAny (model prog w) A (pyNext (.ref I)) Q E s := by
  have ho := (N _ (updF_mem U)).1
  refine wpAny_pyNext_range_item (step := 1) ho hk fun h' h1 h2 => ?_
  obtain ⟨F', N'⟩ := upd_led (io' := riObj (x + 1) (k - 1)) F N U h2 h1
  exact h _ h' _ F' N'
theorem ri_end {I : Addr} {x k : Int} {rest : Led} {Q : Option Value → Shared → Prop} (hh : A.handled = none) (F : Fr h₀ L s.heap m) (N : News h₀ L s.heap news) (hI : (I, riObj x k) ∈ news) (hk : k ≤ 0)
    (hr : ∀ p ∈ rest, p ∈ news) (hd : ∀ p ∈ rest, p.1 ≠ I)
    (h : ∀ h', Fr h₀ L h' m → News h₀ L h' rest → Q none { s with heap := h' }) : wpAny (model prog w) A (pyNext (.ref I)) Q E s := by
  have hN := N _ hI
  refine wpAny_pyNext_range_end (step := 1) hh hN.1 hk fun h' hs => h h' (fr_ext F hs hN.2.1 hN.2.2) (news_ext N hs hr hd)
theorem ri_start {r : Addr} {a b : Int} {t u v : Tok} {Q : Value → Shared → Prop} (F : Fr h₀ L s.heap m) (N : News h₀ L s.heap news) (hr : IsRange s.heap r a b 1 t u v) (hs : Builtin.Range.small a b 1 = true)
    (h : ∀ (I : Addr) h', Fr h₀ L h' m → News h₀ L h' ((I, riObj a (Builtin.Range.rangeSize a b 1)) :: news) → (∀ p ∈ news, p.1 < I) → Q (.ref I) { s with heap := h' }) : wpAny (model prog w) A (pyIter (.ref r)) Q E s := by
  refine wpAny_pyIter_range hr hs ?_
  exact h _ _ (F.push _) (News.push F N (riObj a (Builtin.Range.rangeSize a b 1)) rfl) (fun p hp => Heap.lt_size (N p hp).1)
theorem newList_L {vs : List Value} {Q : Value → Shared → Prop} (F : Fr h₀ L s.heap m) (N : News h₀ L s.heap news) (hsz : vs.length ≤ sizeLine)
    (h : ∀ (l : Addr) h', Fr h₀ L h' m → News h₀ L h' ((l, W.listOf vs.toArray 0) :: news) → (∀ p ∈ news, p.1 < l) → @LT.lt Nat _ L l → Q (.ref l) { s with heap := h' }) : wpAny (model prog w) A (newList vs) Q E s :=
  newList_N F N (fun h' F' N' => h _ h' F' N' (fun p hp => Heap.lt_size (N p hp).1) F.ns.lt) hsz
end
theorem sub_down {i n : Nat} (h : i < n) : n - (i + 1) < n - i := Nat.sub_succ_lt_self n i h
theorem lt_five {i : Nat} (h : i < 5) : i = 0 ∨ i = 1 ∨ i = 2 ∨ i = 3 ∨ i = 4 := by omega
theorem riObj_next1 {i : Nat} : riObj (1 + (i : Int) + 1) (5 - (i : Int) - 1) = riObj (1 + ((i + 1 : Nat) : Int)) (5 - ((i + 1 : Nat) : Int)) := by
  rw [show (1 + (i : Int) + 1) = 1 + ((i + 1 : Nat) : Int) from by omega, show (5 - (i : Int) - 1) = 5 - ((i + 1 : Nat) : Int) from by omega]
theorem riObj_next {i : Nat} {x y : Int} (h1 : x = (i : Int) + 1) (h2 : y = 6 - (i : Int) - 1) : riObj x y = riObj (((i + 1 : Nat) : Int)) (6 - ((i + 1 : Nat) : Int)) := by
  rw [h1, h2, show ((i : Int) + 1) = ((i + 1 : Nat) : Int) from by omega, show (6 - (i : Int) - 1) = 6 - ((i + 1 : Nat) : Int) from by omega]
theorem riObj_next5 {r : Nat} : riObj ((r : Int) + 1) (5 - (r : Int) - 1) = riObj (((r + 1 : Nat) : Int)) (5 - ((r + 1 : Nat) : Int)) := by
  rw [show ((r : Int) + 1) = ((r + 1 : Nat) : Int) from by omega, show (5 - (r : Int) - 1) = 5 - ((r + 1 : Nat) : Int) from by omega]
theorem riObj_nextB {b i : Nat} : riObj ((b : Int) + (i : Int) + 1) ((b : Int) - (i : Int) - 1) = riObj ((b : Int) + ((i + 1 : Nat) : Int)) ((b : Int) - ((i + 1 : Nat) : Int)) := by
  rw [show ((b : Int) + (i : Int) + 1) = (b : Int) + ((i + 1 : Nat) : Int) from by omega, show ((b : Int) - (i : Int) - 1) = (b : Int) - ((i + 1 : Nat) : Int) from by omega]
end Mine

namespace Mine
theorem wdPure_0 : True := by
  k_with_none
  k_with "my enter" => (refine' code_defS ?k1 ?k2 ?k3 ?k4 ?kO ?kD ?k5 ?kA ?kF ?kK ?k6 ?k7 ?k8 ?k9 ?kB ?_ ?c2 ?c3 ?c4 ?c5; (case kA => exact rfl); (case kF => exact rfl); (case kK => assumption); (case kD => assumption); (case k1 => k_asm); (case k2 => k_asm); (case k3 => k_asm); (case k4 => assumption); (case kO => assumption); (case k5 => k_asm); (case k6 => k_is); (case k7 => k_is); (case k8 => ktr_room); (case k9 => first | k_extra "my binds" | exact BindsTo.of_eq rfl); (case c5 => decide); (case kB => exact locs rfl); (case c2 => exact rfl); (case c3 => exact rfl); (case c4 => exact rfl); k_whole; intro g' L' h' FG' F' N' B' X' T' lN' lO'; (try dsimp only); (try k_lift B'); (try k_fold))
  k_with "my sub" => repeat (first | exact sub_nil | refine sub_cons (by k_mem) ?_)
  k_with "my spec" => ((case k1 => k_asm); (case k2 => k_asm); (case k3 => k_asm); (case k4 => k_asm); (case k5 => k_asm); (case k6 => exact rfl); (case k7 => ktr_room); (case k8 => ktr_units); (case h1 => k_extra "my sub"); (case h2 => k_extra "my sub"); (case h3 => k_extra "my dis"); k_whole)
  k_with "my enterC" => (refine' code_defCS ?k1 ?k2 ?k3 ?k4 ?kO ?kQ ?k5 ?kA ?kF ?kK ?k6 ?k7 ?k8 ?k9 ?kB ?kD ?_ ?c2 ?c3 ?c4; (case kA => exact rfl); (case kF => exact rfl); (case kK => assumption); (case kQ => assumption); (case k1 => k_asm); (case k2 => k_asm); (case k3 => k_asm); (case k4 => assumption); (case kO => assumption); (case k5 => k_asm); (case k6 => k_is); (case k7 => k_is); (case k8 => ktr_room); (case k9 => first | k_extra "my binds" | exact BindsTo.of_eq rfl); (case kB => exact rfl); (case kD => decide +kernel); (case c2 => exact rfl); (case c3 => exact rfl); (case c4 => exact rfl); k_whole; intro g' L' h' tk' cells' FG' F' N' Y' B' X' T' lN' lO'; (have l1' := lN'); (try k_lt l1'); k_cells Y'; (try simp only [List.cons_append, List.nil_append] at N'); (try dsimp only); (try k_lift B'); (try k_fold))
  k_with "my dis" => (refine dis_of ?_; dsimp only [DisL, OffL]; ((repeat' first | exact True.intro | refine And.intro ?_ ?_) <;> first | k_extra "ne" | omega))
  k_with "my nel" => (dsimp only [NeL]; ((repeat' first | exact True.intro | refine And.intro ?_ ?_) <;> first | k_extra "ne" | omega))
  k_with "k ne" => (refine neN ?_; (try dsimp only); k_extra "ne")
  k_with "ne" => (first | with_reducible assumption | exact Nat.ne_of_lt (by with_reducible assumption) | exact Nat.ne_of_gt (by with_reducible assumption) | exact Ne.symm (by with_reducible assumption) | ((repeat (rename (_ < _ ∧ _) => qz; first | (refine ne_r qz ?_; first | exact qz.1 | exact qz.2.1 | exact qz.2.2.1 | exact qz.2.2.2.1 | exact qz.2.2.2.2.1 | exact qz.2.2.2.2.2.1 | exact qz.2.2.2.2.2.2.1 | exact qz.2.2.2.2.2.2.2.1 | exact qz.2.2.2.2.2.2.2.2.1 | exact qz.2.2.2.2.2.2.2.2.2.1 | exact qz.2.2.2.2.2.2.2.2.2.2.1 | exact qz.2.2.2.2.2.2.2.2.2.2.2.1 | exact qz.2.2.2.2.2.2.2.2.2.2.2.2.1 | exact qz.2.2.2.2.2.2.2.2.2.2.2.2.2.1 | exact qz.2.2.2.2.2.2.2.2.2.2.2.2.2.2.1 | exact qz.2.2.2.2.2.2.2.2.2.2.2.2.2.2.2.1 | exact qz.2.2.2.2.2.2.2.2.2.2.2.2.2.2.2.2.1 | exact qz.2.2.2.2.2.2.2.2.2.2.2.2.2.2.2.2.2.1) | (refine ne_l qz ?_; first | exact qz.1 | exact qz.2.1 | exact qz.2.2.1 | exact qz.2.2.2.1 | exact qz.2.2.2.2.1 | exact qz.2.2.2.2.2.1 | exact qz.2.2.2.2.2.2.1 | exact qz.2.2.2.2.2.2.2.1 | exact qz.2.2.2.2.2.2.2.2.1 | exact qz.2.2.2.2.2.2.2.2.2.1 | exact qz.2.2.2.2.2.2.2.2.2.2.1 | exact qz.2.2.2.2.2.2.2.2.2.2.2.1 | exact qz.2.2.2.2.2.2.2.2.2.2.2.2.1 | exact qz.2.2.2.2.2.2.2.2.2.2.2.2.2.1 | exact qz.2.2.2.2.2.2.2.2.2.2.2.2.2.2.1 | exact qz.2.2.2.2.2.2.2.2.2.2.2.2.2.2.2.1 | exact qz.2.2.2.2.2.2.2.2.2.2.2.2.2.2.2.2.1 | exact qz.2.2.2.2.2.2.2.2.2.2.2.2.2.2.2.2.2.1) | clear qz)); done) | k_extra "ne cells" | k_extra "ne one" | k_extra "ne off" | k_extra "ne up")
  k_with "ne cells" => (first | exact ne_off (i := 0) (j := 1) rfl | exact ne_off (i := 0) (j := 2) rfl | exact ne_off (i := 0) (j := 3) rfl | exact ne_off (i := 0) (j := 4) rfl | exact ne_off (i := 1) (j := 0) rfl | exact ne_off (i := 1) (j := 2) rfl | exact ne_off (i := 1) (j := 3) rfl | exact ne_off (i := 1) (j := 4) rfl | exact ne_off (i := 2) (j := 0) rfl | exact ne_off (i := 2) (j := 1) rfl | exact ne_off (i := 2) (j := 3) rfl | exact ne_off (i := 2) (j := 4) rfl | exact ne_off (i := 3) (j := 0) rfl | exact ne_off (i := 3) (j := 1) rfl | exact ne_off (i := 3) (j := 2) rfl | exact ne_off (i := 3) (j := 4) rfl | exact ne_off (i := 4) (j := 0) rfl | exact ne_off (i := 4) (j := 1) rfl | exact ne_off (i := 4) (j := 2) rfl | exact ne_off (i := 4) (j := 3) rfl)
  k_with "ne up" => (first | exact Nat.ne_of_lt (lt_up1 (by with_reducible assumption)) | exact Nat.ne_of_gt (lt_up1 (by with_reducible assumption)) | exact Nat.ne_of_lt (lt_up2 (by with_reducible assumption)) | exact Nat.ne_of_gt (lt_up2 (by with_reducible assumption)) | exact Nat.ne_of_lt (lt_up3 (by with_reducible assumption)) | exact Nat.ne_of_gt (lt_up3 (by with_reducible assumption)) | exact Nat.ne_of_lt (lt_up4 (by with_reducible assumption)) | exact Nat.ne_of_gt (lt_up4 (by with_reducible assumption)) | ((repeat (rename (_ < _ ∧ _) => qz; first | (refine ne_r1 qz ?_; first | exact qz.1 | exact qz.2.1 | exact qz.2.2.1 | exact qz.2.2.2.1 | exact qz.2.2.2.2.1 | exact qz.2.2.2.2.2.1 | exact qz.2.2.2.2.2.2.1 | exact qz.2.2.2.2.2.2.2.1 | exact qz.2.2.2.2.2.2.2.2.1 | exact qz.2.2.2.2.2.2.2.2.2.1 | exact qz.2.2.2.2.2.2.2.2.2.2.1 | exact qz.2.2.2.2.2.2.2.2.2.2.2.1 | exact qz.2.2.2.2.2.2.2.2.2.2.2.2.1 | exact qz.2.2.2.2.2.2.2.2.2.2.2.2.2.1 | exact qz.2.2.2.2.2.2.2.2.2.2.2.2.2.2.1 | exact qz.2.2.2.2.2.2.2.2.2.2.2.2.2.2.2.1 | exact qz.2.2.2.2.2.2.2.2.2.2.2.2.2.2.2.2.1 | exact qz.2.2.2.2.2.2.2.2.2.2.2.2.2.2.2.2.2.1) | (refine ne_l1 qz ?_; first | exact qz.1 | exact qz.2.1 | exact qz.2.2.1 | exact qz.2.2.2.1 | exact qz.2.2.2.2.1 | exact qz.2.2.2.2.2.1 | exact qz.2.2.2.2.2.2.1 | exact qz.2.2.2.2.2.2.2.1 | exact qz.2.2.2.2.2.2.2.2.1 | exact qz.2.2.2.2.2.2.2.2.2.1 | exact qz.2.2.2.2.2.2.2.2.2.2.1 | exact qz.2.2.2.2.2.2.2.2.2.2.2.1 | exact qz.2.2.2.2.2.2.2.2.2.2.2.2.1 | exact qz.2.2.2.2.2.2.2.2.2.2.2.2.2.1 | exact qz.2.2.2.2.2.2.2.2.2.2.2.2.2.2.1 | exact qz.2.2.2.2.2.2.2.2.2.2.2.2.2.2.2.1 | exact qz.2.2.2.2.2.2.2.2.2.2.2.2.2.2.2.2.1 | exact qz.2.2.2.2.2.2.2.2.2.2.2.2.2.2.2.2.2.1) | (refine ne_r2 qz ?_; first | exact qz.1 | exact qz.2.1 | exact qz.2.2.1 | exact qz.2.2.2.1 | exact qz.2.2.2.2.1 | exact qz.2.2.2.2.2.1 | exact qz.2.2.2.2.2.2.1 | exact qz.2.2.2.2.2.2.2.1 | exact qz.2.2.2.2.2.2.2.2.1 | exact qz.2.2.2.2.2.2.2.2.2.1 | exact qz.2.2.2.2.2.2.2.2.2.2.1 | exact qz.2.2.2.2.2.2.2.2.2.2.2.1 | exact qz.2.2.2.2.2.2.2.2.2.2.2.2.1 | exact qz.2.2.2.2.2.2.2.2.2.2.2.2.2.1 | exact qz.2.2.2.2.2.2.2.2.2.2.2.2.2.2.1 | exact qz.2.2.2.2.2.2.2.2.2.2.2.2.2.2.2.1 | exact qz.2.2.2.2.2.2.2.2.2.2.2.2.2.2.2.2.1 | exact qz.2.2.2.2.2.2.2.2.2.2.2.2.2.2.2.2.2.1) | (refine ne_l2 qz ?_; first | exact qz.1 | exact qz.2.1 | exact qz.2.2.1 | exact qz.2.2.2.1 | exact qz.2.2.2.2.1 | exact qz.2.2.2.2.2.1 | exact qz.2.2.2.2.2.2.1 | exact qz.2.2.2.2.2.2.2.1 | exact qz.2.2.2.2.2.2.2.2.1 | exact qz.2.2.2.2.2.2.2.2.2.1 | exact qz.2.2.2.2.2.2.2.2.2.2.1 | exact qz.2.2.2.2.2.2.2.2.2.2.2.1 | exact qz.2.2.2.2.2.2.2.2.2.2.2.2.1 | exact qz.2.2.2.2.2.2.2.2.2.2.2.2.2.1 | exact qz.2.2.2.2.2.2.2.2.2.2.2.2.2.2.1 | exact qz.2.2.2.2.2.2.2.2.2.2.2.2.2.2.2.1 | exact qz.2.2.2.2.2.2.2.2.2.2.2.2.2.2.2.2.1 | exact qz.2.2.2.2.2.2.2.2.2.2.2.2.2.2.2.2.2.1) | (refine ne_r3 qz ?_; first | exact qz.1 | exact qz.2.1 | exact qz.2.2.1 | exact qz.2.2.2.1 | exact qz.2.2.2.2.1 | exact qz.2.2.2.2.2.1 | exact qz.2.2.2.2.2.2.1 | exact qz.2.2.2.2.2.2.2.1 | exact qz.2.2.2.2.2.2.2.2.1 | exact qz.2.2.2.2.2.2.2.2.2.1 | exact qz.2.2.2.2.2.2.2.2.2.2.1 | exact qz.2.2.2.2.2.2.2.2.2.2.2.1 | exact qz.2.2.2.2.2.2.2.2.2.2.2.2.1 | exact qz.2.2.2.2.2.2.2.2.2.2.2.2.2.1 | exact qz.2.2.2.2.2.2.2.2.2.2.2.2.2.2.1 | exact qz.2.2.2.2.2.2.2.2.2.2.2.2.2.2.2.1 | exact qz.2.2.2.2.2.2.2.2.2.2.2.2.2.2.2.2.1 | exact qz.2.2.2.2.2.2.2.2.2.2.2.2.2.2.2.2.2.1) | (refine ne_l3 qz ?_; first | exact qz.1 | exact qz.2.1 | exact qz.2.2.1 | exact qz.2.2.2.1 | exact qz.2.2.2.2.1 | exact qz.2.2.2.2.2.1 | exact qz.2.2.2.2.2.2.1 | exact qz.2.2.2.2.2.2.2.1 | exact qz.2.2.2.2.2.2.2.2.1 | exact qz.2.2.2.2.2.2.2.2.2.1 | exact qz.2.2.2.2.2.2.2.2.2.2.1 | exact qz.2.2.2.2.2.2.2.2.2.2.2.1 | exact qz.2.2.2.2.2.2.2.2.2.2.2.2.1 | exact qz.2.2.2.2.2.2.2.2.2.2.2.2.2.1 | exact qz.2.2.2.2.2.2.2.2.2.2.2.2.2.2.1 | exact qz.2.2.2.2.2.2.2.2.2.2.2.2.2.2.2.1 | exact qz.2.2.2.2.2.2.2.2.2.2.2.2.2.2.2.2.1 | exact qz.2.2.2.2.2.2.2.2.2.2.2.2.2.2.2.2.2.1) | (refine ne_r4 qz ?_; first | exact qz.1 | exact qz.2.1 | exact qz.2.2.1 | exact qz.2.2.2.1 | exact qz.2.2.2.2.1 | exact qz.2.2.2.2.2.1 | exact qz.2.2.2.2.2.2.1 | exact qz.2.2.2.2.2.2.2.1 | exact qz.2.2.2.2.2.2.2.2.1 | exact qz.2.2.2.2.2.2.2.2.2.1 | exact qz.2.2.2.2.2.2.2.2.2.2.1 | exact qz.2.2.2.2.2.2.2.2.2.2.2.1 | exact qz.2.2.2.2.2.2.2.2.2.2.2.2.1 | exact qz.2.2.2.2.2.2.2.2.2.2.2.2.2.1 | exact qz.2.2.2.2.2.2.2.2.2.2.2.2.2.2.1 | exact qz.2.2.2.2.2.2.2.2.2.2.2.2.2.2.2.1 | exact qz.2.2.2.2.2.2.2.2.2.2.2.2.2.2.2.2.1 | exact qz.2.2.2.2.2.2.2.2.2.2.2.2.2.2.2.2.2.1) | (refine ne_l4 qz ?_; first | exact qz.1 | exact qz.2.1 | exact qz.2.2.1 | exact qz.2.2.2.1 | exact qz.2.2.2.2.1 | exact qz.2.2.2.2.2.1 | exact qz.2.2.2.2.2.2.1 | exact qz.2.2.2.2.2.2.2.1 | exact qz.2.2.2.2.2.2.2.2.1 | exact qz.2.2.2.2.2.2.2.2.2.1 | exact qz.2.2.2.2.2.2.2.2.2.2.1 | exact qz.2.2.2.2.2.2.2.2.2.2.2.1 | exact qz.2.2.2.2.2.2.2.2.2.2.2.2.1 | exact qz.2.2.2.2.2.2.2.2.2.2.2.2.2.1 | exact qz.2.2.2.2.2.2.2.2.2.2.2.2.2.2.1 | exact qz.2.2.2.2.2.2.2.2.2.2.2.2.2.2.2.1 | exact qz.2.2.2.2.2.2.2.2.2.2.2.2.2.2.2.2.1 | exact qz.2.2.2.2.2.2.2.2.2.2.2.2.2.2.2.2.2.1) | clear qz)); done))
  k_with "execs cons" => k_fold
  k_with "exec Assign" => k_fold
  k_with "exec If" => k_fold
  k_with "exec AugAssign" => k_fold
  k_with "my looks" => (repeat' first | exact True.intro | (refine And.intro ?_ ?_) | with_unfolding_all rfl)
  k_with "ne off" => ((repeat (rename (LCg.Off3 _ _ _ _) => qo; first | exact qo.1.1 | exact Ne.symm qo.1.1 | exact qo.1.2.1 | exact Ne.symm qo.1.2.1 | exact qo.1.2.2 | exact Ne.symm qo.1.2.2 | exact qo.2.1.1 | exact Ne.symm qo.2.1.1 | exact qo.2.1.2.1 | exact Ne.symm qo.2.1.2.1 | exact qo.2.1.2.2 | exact Ne.symm qo.2.1.2.2 | exact qo.2.2.1.1 | exact Ne.symm qo.2.2.1.1 | exact qo.2.2.1.2.1 | exact Ne.symm qo.2.2.1.2.1 | exact qo.2.2.1.2.2 | exact Ne.symm qo.2.2.1.2.2 | exact qo.2.2.2.1.1 | exact Ne.symm qo.2.2.2.1.1 | exact qo.2.2.2.1.2.1 | exact Ne.symm qo.2.2.2.1.2.1 | exact qo.2.2.2.1.2.2 | exact Ne.symm qo.2.2.2.1.2.2 | exact qo.2.2.2.2.1.1 | exact Ne.symm qo.2.2.2.2.1.1 | exact qo.2.2.2.2.1.2.1 | exact Ne.symm qo.2.2.2.2.1.2.1 | exact qo.2.2.2.2.1.2.2 | exact Ne.symm qo.2.2.2.2.1.2.2 | exact qo.2.2.2.2.2.1.1 | exact Ne.symm qo.2.2.2.2.2.1.1 | exact qo.2.2.2.2.2.1.2.1 | exact Ne.symm qo.2.2.2.2.2.1.2.1 | exact qo.2.2.2.2.2.1.2.2 | exact Ne.symm qo.2.2.2.2.2.1.2.2 | exact qo.2.2.2.2.2.2.1.1 | exact Ne.symm qo.2.2.2.2.2.2.1.1 | exact qo.2.2.2.2.2.2.1.2.1 | exact Ne.symm qo.2.2.2.2.2.2.1.2.1 | exact qo.2.2.2.2.2.2.1.2.2 | exact Ne.symm qo.2.2.2.2.2.2.1.2.2 | exact qo.2.2.2.2.2.2.2.1.1 | exact Ne.symm qo.2.2.2.2.2.2.2.1.1 | exact qo.2.2.2.2.2.2.2.1.2.1 | exact Ne.symm qo.2.2.2.2.2.2.2.1.2.1 | exact qo.2.2.2.2.2.2.2.1.2.2 | exact Ne.symm qo.2.2.2.2.2.2.2.1.2.2 | exact qo.2.2.2.2.2.2.2.2.1.1 | exact Ne.symm qo.2.2.2.2.2.2.2.2.1.1 | exact qo.2.2.2.2.2.2.2.2.1.2.1 | exact Ne.symm qo.2.2.2.2.2.2.2.2.1.2.1 | exact qo.2.2.2.2.2.2.2.2.1.2.2 | exact Ne.symm qo.2.2.2.2.2.2.2.2.1.2.2 | exact qo.2.2.2.2.2.2.2.2.2.1.1 | exact Ne.symm qo.2.2.2.2.2.2.2.2.2.1.1 | exact qo.2.2.2.2.2.2.2.2.2.1.2.1 | exact Ne.symm qo.2.2.2.2.2.2.2.2.2.1.2.1 | exact qo.2.2.2.2.2.2.2.2.2.1.2.2 | exact Ne.symm qo.2.2.2.2.2.2.2.2.2.1.2.2 | exact qo.2.2.2.2.2.2.2.2.2.2.1.1 | exact Ne.symm qo.2.2.2.2.2.2.2.2.2.2.1.1 | exact qo.2.2.2.2.2.2.2.2.2.2.1.2.1 | exact Ne.symm qo.2.2.2.2.2.2.2.2.2.2.1.2.1 | exact qo.2.2.2.2.2.2.2.2.2.2.1.2.2 | exact Ne.symm qo.2.2.2.2.2.2.2.2.2.2.1.2.2 | exact qo.2.2.2.2.2.2.2.2.2.2.2.1.1 | exact Ne.symm qo.2.2.2.2.2.2.2.2.2.2.2.1.1 | exact qo.2.2.2.2.2.2.2.2.2.2.2.1.2.1 | exact Ne.symm qo.2.2.2.2.2.2.2.2.2.2.2.1.2.1 | exact qo.2.2.2.2.2.2.2.2.2.2.2.1.2.2 | exact Ne.symm qo.2.2.2.2.2.2.2.2.2.2.2.1.2.2 | exact qo.2.2.2.2.2.2.2.2.2.2.2.2.1.1 | exact Ne.symm qo.2.2.2.2.2.2.2.2.2.2.2.2.1.1 | exact qo.2.2.2.2.2.2.2.2.2.2.2.2.1.2.1 | exact Ne.symm qo.2.2.2.2.2.2.2.2.2.2.2.2.1.2.1 | exact qo.2.2.2.2.2.2.2.2.2.2.2.2.1.2.2 | exact Ne.symm qo.2.2.2.2.2.2.2.2.2.2.2.2.1.2.2 | exact qo.2.2.2.2.2.2.2.2.2.2.2.2.2.1.1 | exact Ne.symm qo.2.2.2.2.2.2.2.2.2.2.2.2.2.1.1 | exact qo.2.2.2.2.2.2.2.2.2.2.2.2.2.1.2.1 | exact Ne.symm qo.2.2.2.2.2.2.2.2.2.2.2.2.2.1.2.1 | exact qo.2.2.2.2.2.2.2.2.2.2.2.2.2.1.2.2 | exact Ne.symm qo.2.2.2.2.2.2.2.2.2.2.2.2.2.1.2.2 | exact qo.2.2.2.2.2.2.2.2.2.2.2.2.2.2.1.1 | exact Ne.symm qo.2.2.2.2.2.2.2.2.2.2.2.2.2.2.1.1 | exact qo.2.2.2.2.2.2.2.2.2.2.2.2.2.2.1.2.1 | exact Ne.symm qo.2.2.2.2.2.2.2.2.2.2.2.2.2.2.1.2.1 | exact qo.2.2.2.2.2.2.2.2.2.2.2.2.2.2.1.2.2 | exact Ne.symm qo.2.2.2.2.2.2.2.2.2.2.2.2.2.2.1.2.2 | exact qo.2.2.2.2.2.2.2.2.2.2.2.2.2.2.2.1.1 | exact Ne.symm qo.2.2.2.2.2.2.2.2.2.2.2.2.2.2.2.1.1 | exact qo.2.2.2.2.2.2.2.2.2.2.2.2.2.2.2.1.2.1 | exact Ne.symm qo.2.2.2.2.2.2.2.2.2.2.2.2.2.2.2.1.2.1 | exact qo.2.2.2.2.2.2.2.2.2.2.2.2.2.2.2.1.2.2 | exact Ne.symm qo.2.2.2.2.2.2.2.2.2.2.2.2.2.2.2.1.2.2 | exact qo.2.2.2.2.2.2.2.2.2.2.2.2.2.2.2.2.1.1 | exact Ne.symm qo.2.2.2.2.2.2.2.2.2.2.2.2.2.2.2.2.1.1 | exact qo.2.2.2.2.2.2.2.2.2.2.2.2.2.2.2.2.1.2.1 | exact Ne.symm qo.2.2.2.2.2.2.2.2.2.2.2.2.2.2.2.2.1.2.1 | exact qo.2.2.2.2.2.2.2.2.2.2.2.2.2.2.2.2.1.2.2 | exact Ne.symm qo.2.2.2.2.2.2.2.2.2.2.2.2.2.2.2.2.1.2.2 | clear qo)); done)
  k_with "lt" => (first | with_reducible assumption | ((repeat (rename (_ < _ ∧ _) => qz; first | exact qz.1 | exact qz.2.1 | exact qz.2.2.1 | exact qz.2.2.2.1 | exact qz.2.2.2.2.1 | exact qz.2.2.2.2.2.1 | exact qz.2.2.2.2.2.2.1 | exact qz.2.2.2.2.2.2.2.1 | exact qz.2.2.2.2.2.2.2.2.1 | exact qz.2.2.2.2.2.2.2.2.2.1 | exact qz.2.2.2.2.2.2.2.2.2.2.1 | exact qz.2.2.2.2.2.2.2.2.2.2.2.1 | exact qz.2.2.2.2.2.2.2.2.2.2.2.2.1 | exact qz.2.2.2.2.2.2.2.2.2.2.2.2.2.1 | exact qz.2.2.2.2.2.2.2.2.2.2.2.2.2.2.1 | exact qz.2.2.2.2.2.2.2.2.2.2.2.2.2.2.2.1 | exact qz.2.2.2.2.2.2.2.2.2.2.2.2.2.2.2.2.1 | exact qz.2.2.2.2.2.2.2.2.2.2.2.2.2.2.2.2.2.1 | clear qz)); done))
  k_with "ne one" => ((repeat (rename (_ ≠ _ ∧ _) => qo; first | exact qo.1 | exact Ne.symm qo.1 | exact qo.2.1 | exact Ne.symm qo.2.1 | exact qo.2.2.1 | exact Ne.symm qo.2.2.1 | exact qo.2.2.2.1 | exact Ne.symm qo.2.2.2.1 | exact qo.2.2.2.2.1 | exact Ne.symm qo.2.2.2.2.1 | exact qo.2.2.2.2.2.1 | exact Ne.symm qo.2.2.2.2.2.1 | exact qo.2.2.2.2.2.2.1 | exact Ne.symm qo.2.2.2.2.2.2.1 | exact qo.2.2.2.2.2.2.2.1 | exact Ne.symm qo.2.2.2.2.2.2.2.1 | exact qo.2.2.2.2.2.2.2.2.1 | exact Ne.symm qo.2.2.2.2.2.2.2.2.1 | exact qo.2.2.2.2.2.2.2.2.2.1 | exact Ne.symm qo.2.2.2.2.2.2.2.2.2.1 | exact qo.2.2.2.2.2.2.2.2.2.2.1 | exact Ne.symm qo.2.2.2.2.2.2.2.2.2.2.1 | exact qo.2.2.2.2.2.2.2.2.2.2.2.1 | exact Ne.symm qo.2.2.2.2.2.2.2.2.2.2.2.1 | exact qo.2.2.2.2.2.2.2.2.2.2.2.2.1 | exact Ne.symm qo.2.2.2.2.2.2.2.2.2.2.2.2.1 | exact qo.2.2.2.2.2.2.2.2.2.2.2.2.2.1 | exact Ne.symm qo.2.2.2.2.2.2.2.2.2.2.2.2.2.1 | exact qo.2.2.2.2.2.2.2.2.2.2.2.2.2.2.1 | exact Ne.symm qo.2.2.2.2.2.2.2.2.2.2.2.2.2.2.1 | exact qo.2.2.2.2.2.2.2.2.2.2.2.2.2.2.2.1 | exact Ne.symm qo.2.2.2.2.2.2.2.2.2.2.2.2.2.2.2.1 | exact qo.2.2.2.2.2.2.2.2.2.2.2.2.2.2.2.2.1 | exact Ne.symm qo.2.2.2.2.2.2.2.2.2.2.2.2.2.2.2.2.1 | clear qo)); done)
  trivial
set_option maxRecDepth 100000

noncomputable abbrev IntFn (w : World) (f : Addr) (vs : List Value) (z : Int) : Prop := FnSpec w f vs [] 1 8 (fun _ v n => n = [] ∧ ∃ t, v = .int z t)

section
variable {w : World} {A₀ A : Around} {s : Shared} {L : Addr} {h₀ base : Heap} {m mg mb : Str → Option Value} {mean : ExcName → Option Value}
theorem int_use {f : Addr} {vs : List Value} {z : Int} {dp un : Nat} {gd : Option (List Code)} {cn : Str} {cs : Scope} {a : Addr} {ccd : Value} {cl : List (Str × Addr)} {outer : List Env} {Q E : Value → Shared → Prop}
    (C : IntFn w f vs z) (B : Below A₀ base outer h₀) (F : Fr h₀ L s.heap m) (X : (Mine.hd.heap_39 w.params).In h₀) {all : Led} (N : News h₀ L s.heap all)
    (T : Top topProg (looseW Mine.hd.view_39 [] ++ List.map (fun x => x.name) (recsOf Mine.hd.view_39) ++
        List.map (fun x => x.fst) (litsOf Mine.hd.view_39) ++
      List.map (fun x => x.name) (clssOf Mine.hd.view_39 (looseW Mine.hd.view_39 []))) mean mg mb h₀) (hk : cs.kind = .function)
    (hd : dp + 1 < recursionLimit) (hu : un + 8 < cLine)
    (ret : ∀ t h' tk', Fr h₀ L h' m → News h₀ L h' all → Q (.int z t) { s with heap := h', toks := tk' }) :
    wpAny (model Challenge.rw_wk0009_01.row.prog w) (ktrTop dp un gd cn cs L a ccd cl outer) (call (.ref f) vs) Q E s := by
  refine spec_use (all := all) C B F X N T hk all (fun _ h => nomatch h) (fun _ h => h) (fun p _ hq => by simp at hq) hd hu ?_
  rintro hi v news' h' tk' l1 l2 ⟨rfl, t, rfl⟩ F' N'
  exact ret t h' tk' F' N'
end

theorem wdPure_18 : True := by
  k_with "my pure" => (
  unfold IntFn FnSpec
  k_fill
  w_top off
  intro mean mg mb dp un gd cn cs a ccd cl outer A₀ base h₀ L m s Q others B F X N NO hdis T hk hd hu hret
  k_dflt k_extra "my enter"
  k_steps
  (rename News h₀ L _ _ => kN9); (rename Fr h₀ L _ _ => kF9))
  trivial

set_option maxHeartbeats 8000000 in
theorem xor_int9 (w : World) (x y : Int) (tx ty : Tok) : IntFn w 49 [.int x tx, .int y ty] (Builtin.bitXor x y) := by
  k_extra "my pure"
  exact left_end hret lN' lO' kF9 kN9 ⟨rfl, _, rfl⟩ sub_nil
set_option maxHeartbeats 8000000 in
theorem inv_int9 (w : World) (x : Int) (tx : Tok) : IntFn w 28 [.int x tx] (Builtin.bitNot x) := by
  k_extra "my pure"
  exact left_end hret lN' lO' kF9 kN9 ⟨rfl, _, rfl⟩ sub_nil
set_option maxHeartbeats 8000000 in
theorem and_int9 (w : World) (x y : Int) (tx ty : Tok) : IntFn w 21 [.int x tx, .int y ty] (Builtin.bitAnd x y) := by
  k_extra "my pure"
  exact left_end hret lN' lO' kF9 kN9 ⟨rfl, _, rfl⟩ sub_nil
set_option maxHeartbeats 8000000 in
theorem mod_int9 (w : World) (x : Int) (tx ty : Tok) : IntFn w 35 [.int x tx, .int 37 ty] (Int.fmod x 37) := by
  k_extra "my pure"
  exact left_end hret lN' lO' kF9 kN9 ⟨rfl, _, rfl⟩ sub_nil
set_option maxHeartbeats 8000000 in
theorem rshift_int9 (w : World) (x y : Int) (tx ty : Tok) (h0 : 0 ≤ y) (h1 : y < 64) (hx : 0 ≤ x) : IntFn w 42 [.int x tx, .int y ty] (x.fdiv (2 ^ y.toNat)) := by
  k_extra "my pure"
  exact left_end hret lN' lO' kF9 kN9 ⟨rfl, _, rfl⟩ sub_nil
theorem fm37 (x : Int) : 0 ≤ Int.fmod x 37 ∧ Int.fmod x 37 < 64 := by
  have h1 := Int.fmod_nonneg_of_pos x (b := 37) (by decide)
  have h2 := Int.fmod_lt_of_pos x (b := 37) (by decide)
  omega
end Mine

namespace Mine
theorem wdSieved_0 : True := by
  k_with_none
  k_with "my enter" => (refine' code_defS ?k1 ?k2 ?k3 ?k4 ?kO ?kD ?k5 ?kA ?kF ?kK ?k6 ?k7 ?k8 ?k9 ?kB ?_ ?c2 ?c3 ?c4 ?c5; (case kA => exact rfl); (case kF => exact rfl); (case kK => assumption); (case kD => assumption); (case k1 => k_asm); (case k2 => k_asm); (case k3 => k_asm); (case k4 => assumption); (case kO => assumption); (case k5 => k_asm); (case k6 => k_is); (case k7 => k_is); (case k8 => ktr_room); (case k9 => first | k_extra "my binds" | exact BindsTo.of_eq rfl); (case c5 => decide); (case kB => exact locs rfl); (case c2 => exact rfl); (case c3 => exact rfl); (case c4 => exact rfl); k_whole; intro g' L' h' FG' F' N' B' X' T' lN' lO'; (try dsimp only); (try k_lift B'); (try k_fold))
  k_with "my sub" => repeat (first | exact sub_nil | refine sub_cons (by k_mem) ?_)
  k_with "my spec" => ((case k1 => k_asm); (case k2 => k_asm); (case k3 => k_asm); (case k4 => k_asm); (case k5 => k_asm); (case k6 => exact rfl); (case k7 => ktr_room); (case k8 => ktr_units); (case h1 => k_extra "my sub"); (case h2 => k_extra "my sub"); (case h3 => k_extra "my dis"); k_whole)
  k_with "my enterC" => (refine' code_defCS ?k1 ?k2 ?k3 ?k4 ?kO ?kQ ?k5 ?kA ?kF ?kK ?k6 ?k7 ?k8 ?k9 ?kB ?kD ?_ ?c2 ?c3 ?c4; (case kA => exact rfl); (case kF => exact rfl); (case kK => assumption); (case kQ => assumption); (case k1 => k_asm); (case k2 => k_asm); (case k3 => k_asm); (case k4 => assumption); (case kO => assumption); (case k5 => k_asm); (case k6 => k_is); (case k7 => k_is); (case k8 => ktr_room); (case k9 => first | k_extra "my binds" | exact BindsTo.of_eq rfl); (case kB => exact rfl); (case kD => decide +kernel); (case c2 => exact rfl); (case c3 => exact rfl); (case c4 => exact rfl); k_whole; intro g' L' h' tk' cells' FG' F' N' Y' B' X' T' lN' lO'; (have l1' := lN'); (try k_lt l1'); k_cells Y'; (try simp only [List.cons_append, List.nil_append] at N'); (try dsimp only); (try k_lift B'); (try k_fold))
  k_with "my dis" => (refine dis_of ?_; dsimp only [DisL, OffL]; ((repeat' first | exact True.intro | refine And.intro ?_ ?_) <;> first | k_extra "ne" | omega))
  k_with "my nel" => (dsimp only [NeL]; ((repeat' first | exact True.intro | refine And.intro ?_ ?_) <;> first | k_extra "ne" | omega))
  k_with "k ne" => (refine neN ?_; (try dsimp only); k_extra "ne")
  k_with "ne" => (first | with_reducible assumption | exact Nat.ne_of_lt (by with_reducible assumption) | exact Nat.ne_of_gt (by with_reducible assumption) | exact Ne.symm (by with_reducible assumption) | ((repeat (rename (_ < _ ∧ _) => qz; first | (refine ne_r qz ?_; first | exact qz.1 | exact qz.2.1 | exact qz.2.2.1 | exact qz.2.2.2.1 | exact qz.2.2.2.2.1 | exact qz.2.2.2.2.2.1 | exact qz.2.2.2.2.2.2.1 | exact qz.2.2.2.2.2.2.2.1 | exact qz.2.2.2.2.2.2.2.2.1 | exact qz.2.2.2.2.2.2.2.2.2.1 | exact qz.2.2.2.2.2.2.2.2.2.2.1 | exact qz.2.2.2.2.2.2.2.2.2.2.2.1 | exact qz.2.2.2.2.2.2.2.2.2.2.2.2.1 | exact qz.2.2.2.2.2.2.2.2.2.2.2.2.2.1 | exact qz.2.2.2.2.2.2.2.2.2.2.2.2.2.2.1 | exact qz.2.2.2.2.2.2.2.2.2.2.2.2.2.2.2.1 | exact qz.2.2.2.2.2.2.2.2.2.2.2.2.2.2.2.2.1 | exact qz.2.2.2.2.2.2.2.2.2.2.2.2.2.2.2.2.2.1) | (refine ne_l qz ?_; first | exact qz.1 | exact qz.2.1 | exact qz.2.2.1 | exact qz.2.2.2.1 | exact qz.2.2.2.2.1 | exact qz.2.2.2.2.2.1 | exact qz.2.2.2.2.2.2.1 | exact qz.2.2.2.2.2.2.2.1 | exact qz.2.2.2.2.2.2.2.2.1 | exact qz.2.2.2.2.2.2.2.2.2.1 | exact qz.2.2.2.2.2.2.2.2.2.2.1 | exact qz.2.2.2.2.2.2.2.2.2.2.2.1 | exact qz.2.2.2.2.2.2.2.2.2.2.2.2.1 | exact qz.2.2.2.2.2.2.2.2.2.2.2.2.2.1 | exact qz.2.2.2.2.2.2.2.2.2.2.2.2.2.2.1 | exact qz.2.2.2.2.2.2.2.2.2.2.2.2.2.2.2.1 | exact qz.2.2.2.2.2.2.2.2.2.2.2.2.2.2.2.2.1 | exact qz.2.2.2.2.2.2.2.2.2.2.2.2.2.2.2.2.2.1) | clear qz)); done) | k_extra "ne cells" | k_extra "ne one" | k_extra "ne off" | k_extra "ne up")
  k_with "ne cells" => (first | exact ne_off (i := 0) (j := 1) rfl | exact ne_off (i := 0) (j := 2) rfl | exact ne_off (i := 0) (j := 3) rfl | exact ne_off (i := 0) (j := 4) rfl | exact ne_off (i := 1) (j := 0) rfl | exact ne_off (i := 1) (j := 2) rfl | exact ne_off (i := 1) (j := 3) rfl | exact ne_off (i := 1) (j := 4) rfl | exact ne_off (i := 2) (j := 0) rfl | exact ne_off (i := 2) (j := 1) rfl | exact ne_off (i := 2) (j := 3) rfl | exact ne_off (i := 2) (j := 4) rfl | exact ne_off (i := 3) (j := 0) rfl | exact ne_off (i := 3) (j := 1) rfl | exact ne_off (i := 3) (j := 2) rfl | exact ne_off (i := 3) (j := 4) rfl | exact ne_off (i := 4) (j := 0) rfl | exact ne_off (i := 4) (j := 1) rfl | exact ne_off (i := 4) (j := 2) rfl | exact ne_off (i := 4) (j := 3) rfl)
  k_with "ne up" => (first | exact Nat.ne_of_lt (lt_up1 (by with_reducible assumption)) | exact Nat.ne_of_gt (lt_up1 (by with_reducible assumption)) | exact Nat.ne_of_lt (lt_up2 (by with_reducible assumption)) | exact Nat.ne_of_gt (lt_up2 (by with_reducible assumption)) | exact Nat.ne_of_lt (lt_up3 (by with_reducible assumption)) | exact Nat.ne_of_gt (lt_up3 (by with_reducible assumption)) | exact Nat.ne_of_lt (lt_up4 (by with_reducible assumption)) | exact Nat.ne_of_gt (lt_up4 (by with_reducible assumption)) | ((repeat (rename (_ < _ ∧ _) => qz; first | (refine ne_r1 qz ?_; first | exact qz.1 | exact qz.2.1 | exact qz.2.2.1 | exact qz.2.2.2.1 | exact qz.2.2.2.2.1 | exact qz.2.2.2.2.2.1 | exact qz.2.2.2.2.2.2.1 | exact qz.2.2.2.2.2.2.2.1 | exact qz.2.2.2.2.2.2.2.2.1 | exact qz.2.2.2.2.2.2.2.2.2.1 | exact qz.2.2.2.2.2.2.2.2.2.2.1 | exact qz.2.2.2.2.2.2.2.2.2.2.2.1 | exact qz.2.2.2.2.2.2.2.2.2.2.2.2.1 | exact qz.2.2.2.2.2.2.2.2.2.2.2.2.2.1 | exact qz.2.2.2.2.2.2.2.2.2.2.2.2.2.2.1 | exact qz.2.2.2.2.2.2.2.2.2.2.2.2.2.2.2.1 | exact qz.2.2.2.2.2.2.2.2.2.2.2.2.2.2.2.2.1 | exact qz.2.2.2.2.2.2.2.2.2.2.2.2.2.2.2.2.2.1) | (refine ne_l1 qz ?_; first | exact qz.1 | exact qz.2.1 | exact qz.2.2.1 | exact qz.2.2.2.1 | exact qz.2.2.2.2.1 | exact qz.2.2.2.2.2.1 | exact qz.2.2.2.2.2.2.1 | exact qz.2.2.2.2.2.2.2.1 | exact qz.2.2.2.2.2.2.2.2.1 | exact qz.2.2.2.2.2.2.2.2.2.1 | exact qz.2.2.2.2.2.2.2.2.2.2.1 | exact qz.2.2.2.2.2.2.2.2.2.2.2.1 | exact qz.2.2.2.2.2.2.2.2.2.2.2.2.1 | exact qz.2.2.2.2.2.2.2.2.2.2.2.2.2.1 | exact qz.2.2.2.2.2.2.2.2.2.2.2.2.2.2.1 | exact qz.2.2.2.2.2.2.2.2.2.2.2.2.2.2.2.1 | exact qz.2.2.2.2.2.2.2.2.2.2.2.2.2.2.2.2.1 | exact qz.2.2.2.2.2.2.2.2.2.2.2.2.2.2.2.2.2.1) | (refine ne_r2 qz ?_; first | exact qz.1 | exact qz.2.1 | exact qz.2.2.1 | exact qz.2.2.2.1 | exact qz.2.2.2.2.1 | exact qz.2.2.2.2.2.1 | exact qz.2.2.2.2.2.2.1 | exact qz.2.2.2.2.2.2.2.1 | exact qz.2.2.2.2.2.2.2.2.1 | exact qz.2.2.2.2.2.2.2.2.2.1 | exact qz.2.2.2.2.2.2.2.2.2.2.1 | exact qz.2.2.2.2.2.2.2.2.2.2.2.1 | exact qz.2.2.2.2.2.2.2.2.2.2.2.2.1 | exact qz.2.2.2.2.2.2.2.2.2.2.2.2.2.1 | exact qz.2.2.2.2.2.2.2.2.2.2.2.2.2.2.1 | exact qz.2.2.2.2.2.2.2.2.2.2.2.2.2.2.2.1 | exact qz.2.2.2.2.2.2.2.2.2.2.2.2.2.2.2.2.1 | exact qz.2.2.2.2.2.2.2.2.2.2.2.2.2.2.2.2.2.1) | (refine ne_l2 qz ?_; first | exact qz.1 | exact qz.2.1 | exact qz.2.2.1 | exact qz.2.2.2.1 | exact qz.2.2.2.2.1 | exact qz.2.2.2.2.2.1 | exact qz.2.2.2.2.2.2.1 | exact qz.2.2.2.2.2.2.2.1 | exact qz.2.2.2.2.2.2.2.2.1 | exact qz.2.2.2.2.2.2.2.2.2.1 | exact qz.2.2.2.2.2.2.2.2.2.2.1 | exact qz.2.2.2.2.2.2.2.2.2.2.2.1 | exact qz.2.2.2.2.2.2.2.2.2.2.2.2.1 | exact qz.2.2.2.2.2.2.2.2.2.2.2.2.2.1 | exact qz.2.2.2.2.2.2.2.2.2.2.2.2.2.2.1 | exact qz.2.2.2.2.2.2.2.2.2.2.2.2.2.2.2.1 | exact qz.2.2.2.2.2.2.2.2.2.2.2.2.2.2.2.2.1 | exact qz.2.2.2.2.2.2.2.2.2.2.2.2.2.2.2.2.2.1) | (refine ne_r3 qz ?_; first | exact qz.1 | exact qz.2.1 | exact qz.2.2.1 | exact qz.2.2.2.1 | exact qz.2.2.2.2.1 | exact qz.2.2.2.2.2.1 | exact qz.2.2.2.2.2.2.1 | exact qz.2.2.2.2.2.2.2.1 | exact qz.2.2.2.2.2.2.2.2.1 | exact qz.2.2.2.2.2.2.2.2.2.1 | exact qz.2.2.2.2.2.2.2.2.2.2.1 | exact qz.2.2.2.2.2.2.2.2.2.2.2.1 | exact qz.2.2.2.2.2.2.2.2.2.2.2.2.1 | exact qz.2.2.2.2.2.2.2.2.2.2.2.2.2.1 | exact qz.2.2.2.2.2.2.2.2.2.2.2.2.2.2.1 | exact qz.2.2.2.2.2.2.2.2.2.2.2.2.2.2.2.1 | exact qz.2.2.2.2.2.2.2.2.2.2.2.2.2.2.2.2.1 | exact qz.2.2.2.2.2.2.2.2.2.2.2.2.2.2.2.2.2.1) | (refine ne_l3 qz ?_; first | exact qz.1 | exact qz.2.1 | exact qz.2.2.1 | exact qz.2.2.2.1 | exact qz.2.2.2.2.1 | exact qz.2.2.2.2.2.1 | exact qz.2.2.2.2.2.2.1 | exact qz.2.2.2.2.2.2.2.1 | exact qz.2.2.2.2.2.2.2.2.1 | exact qz.2.2.2.2.2.2.2.2.2.1 | exact qz.2.2.2.2.2.2.2.2.2.2.1 | exact qz.2.2.2.2.2.2.2.2.2.2.2.1 | exact qz.2.2.2.2.2.2.2.2.2.2.2.2.1 | exact qz.2.2.2.2.2.2.2.2.2.2.2.2.2.1 | exact qz.2.2.2.2.2.2.2.2.2.2.2.2.2.2.1 | exact qz.2.2.2.2.2.2.2.2.2.2.2.2.2.2.2.1 | exact qz.2.2.2.2.2.2.2.2.2.2.2.2.2.2.2.2.1 | exact qz.2.2.2.2.2.2.2.2.2.2.2.2.2.2.2.2.2.1) | (refine ne_r4 qz ?_; first | exact qz.1 | exact qz.2.1 | exact qz.2.2.1 | exact qz.2.2.2.1 | exact qz.2.2.2.2.1 | exact qz.2.2.2.2.2.1 | exact qz.2.2.2.2.2.2.1 | exact qz.2.2.2.2.2.2.2.1 | exact qz.2.2.2.2.2.2.2.2.1 | exact qz.2.2.2.2.2.2.2.2.2.1 | exact qz.2.2.2.2.2.2.2.2.2.2.1 | exact qz.2.2.2.2.2.2.2.2.2.2.2.1 | exact qz.2.2.2.2.2.2.2.2.2.2.2.2.1 | exact qz.2.2.2.2.2.2.2.2.2.2.2.2.2.1 | exact qz.2.2.2.2.2.2.2.2.2.2.2.2.2.2.1 | exact qz.2.2.2.2.2.2.2.2.2.2.2.2.2.2.2.1 | exact qz.2.2.2.2.2.2.2.2.2.2.2.2.2.2.2.2.1 | exact qz.2.2.2.2.2.2.2.2.2.2.2.2.2.2.2.2.2.1) | (refine ne_l4 qz ?_; first | exact qz.1 | exact qz.2.1 | exact qz.2.2.1 | exact qz.2.2.2.1 | exact qz.2.2.2.2.1 | exact qz.2.2.2.2.2.1 | exact qz.2.2.2.2.2.2.1 | exact qz.2.2.2.2.2.2.2.1 | exact qz.2.2.2.2.2.2.2.2.1 | exact qz.2.2.2.2.2.2.2.2.2.1 | exact qz.2.2.2.2.2.2.2.2.2.2.1 | exact qz.2.2.2.2.2.2.2.2.2.2.2.1 | exact qz.2.2.2.2.2.2.2.2.2.2.2.2.1 | exact qz.2.2.2.2.2.2.2.2.2.2.2.2.2.1 | exact qz.2.2.2.2.2.2.2.2.2.2.2.2.2.2.1 | exact qz.2.2.2.2.2.2.2.2.2.2.2.2.2.2.2.1 | exact qz.2.2.2.2.2.2.2.2.2.2.2.2.2.2.2.2.1 | exact qz.2.2.2.2.2.2.2.2.2.2.2.2.2.2.2.2.2.1) | clear qz)); done))
  k_with "execs cons" => k_fold
  k_with "exec Assign" => k_fold
  k_with "exec If" => k_fold
  k_with "exec AugAssign" => k_fold
  k_with "my looks" => (repeat' first | exact True.intro | (refine And.intro ?_ ?_) | with_unfolding_all rfl)
  k_with "ne off" => ((repeat (rename (LCg.Off3 _ _ _ _) => qo; first | exact qo.1.1 | exact Ne.symm qo.1.1 | exact qo.1.2.1 | exact Ne.symm qo.1.2.1 | exact qo.1.2.2 | exact Ne.symm qo.1.2.2 | exact qo.2.1.1 | exact Ne.symm qo.2.1.1 | exact qo.2.1.2.1 | exact Ne.symm qo.2.1.2.1 | exact qo.2.1.2.2 | exact Ne.symm qo.2.1.2.2 | exact qo.2.2.1.1 | exact Ne.symm qo.2.2.1.1 | exact qo.2.2.1.2.1 | exact Ne.symm qo.2.2.1.2.1 | exact qo.2.2.1.2.2 | exact Ne.symm qo.2.2.1.2.2 | exact qo.2.2.2.1.1 | exact Ne.symm qo.2.2.2.1.1 | exact qo.2.2.2.1.2.1 | exact Ne.symm qo.2.2.2.1.2.1 | exact qo.2.2.2.1.2.2 | exact Ne.symm qo.2.2.2.1.2.2 | exact qo.2.2.2.2.1.1 | exact Ne.symm qo.2.2.2.2.1.1 | exact qo.2.2.2.2.1.2.1 | exact Ne.symm qo.2.2.2.2.1.2.1 | exact qo.2.2.2.2.1.2.2 | exact Ne.symm qo.2.2.2.2.1.2.2 | exact qo.2.2.2.2.2.1.1 | exact Ne.symm qo.2.2.2.2.2.1.1 | exact qo.2.2.2.2.2.1.2.1 | exact Ne.symm qo.2.2.2.2.2.1.2.1 | exact qo.2.2.2.2.2.1.2.2 | exact Ne.symm qo.2.2.2.2.2.1.2.2 | exact qo.2.2.2.2.2.2.1.1 | exact Ne.symm qo.2.2.2.2.2.2.1.1 | exact qo.2.2.2.2.2.2.1.2.1 | exact Ne.symm qo.2.2.2.2.2.2.1.2.1 | exact qo.2.2.2.2.2.2.1.2.2 | exact Ne.symm qo.2.2.2.2.2.2.1.2.2 | exact qo.2.2.2.2.2.2.2.1.1 | exact Ne.symm qo.2.2.2.2.2.2.2.1.1 | exact qo.2.2.2.2.2.2.2.1.2.1 | exact Ne.symm qo.2.2.2.2.2.2.2.1.2.1 | exact qo.2.2.2.2.2.2.2.1.2.2 | exact Ne.symm qo.2.2.2.2.2.2.2.1.2.2 | exact qo.2.2.2.2.2.2.2.2.1.1 | exact Ne.symm qo.2.2.2.2.2.2.2.2.1.1 | exact qo.2.2.2.2.2.2.2.2.1.2.1 | exact Ne.symm qo.2.2.2.2.2.2.2.2.1.2.1 | exact qo.2.2.2.2.2.2.2.2.1.2.2 | exact Ne.symm qo.2.2.2.2.2.2.2.2.1.2.2 | exact qo.2.2.2.2.2.2.2.2.2.1.1 | exact Ne.symm qo.2.2.2.2.2.2.2.2.2.1.1 | exact qo.2.2.2.2.2.2.2.2.2.1.2.1 | exact Ne.symm qo.2.2.2.2.2.2.2.2.2.1.2.1 | exact qo.2.2.2.2.2.2.2.2.2.1.2.2 | exact Ne.symm qo.2.2.2.2.2.2.2.2.2.1.2.2 | exact qo.2.2.2.2.2.2.2.2.2.2.1.1 | exact Ne.symm qo.2.2.2.2.2.2.2.2.2.2.1.1 | exact qo.2.2.2.2.2.2.2.2.2.2.1.2.1 | exact Ne.symm qo.2.2.2.2.2.2.2.2.2.2.1.2.1 | exact qo.2.2.2.2.2.2.2.2.2.2.1.2.2 | exact Ne.symm qo.2.2.2.2.2.2.2.2.2.2.1.2.2 | exact qo.2.2.2.2.2.2.2.2.2.2.2.1.1 | exact Ne.symm qo.2.2.2.2.2.2.2.2.2.2.2.1.1 | exact qo.2.2.2.2.2.2.2.2.2.2.2.1.2.1 | exact Ne.symm qo.2.2.2.2.2.2.2.2.2.2.2.1.2.1 | exact qo.2.2.2.2.2.2.2.2.2.2.2.1.2.2 | exact Ne.symm qo.2.2.2.2.2.2.2.2.2.2.2.1.2.2 | exact qo.2.2.2.2.2.2.2.2.2.2.2.2.1.1 | exact Ne.symm qo.2.2.2.2.2.2.2.2.2.2.2.2.1.1 | exact qo.2.2.2.2.2.2.2.2.2.2.2.2.1.2.1 | exact Ne.symm qo.2.2.2.2.2.2.2.2.2.2.2.2.1.2.1 | exact qo.2.2.2.2.2.2.2.2.2.2.2.2.1.2.2 | exact Ne.symm qo.2.2.2.2.2.2.2.2.2.2.2.2.1.2.2 | exact qo.2.2.2.2.2.2.2.2.2.2.2.2.2.1.1 | exact Ne.symm qo.2.2.2.2.2.2.2.2.2.2.2.2.2.1.1 | exact qo.2.2.2.2.2.2.2.2.2.2.2.2.2.1.2.1 | exact Ne.symm qo.2.2.2.2.2.2.2.2.2.2.2.2.2.1.2.1 | exact qo.2.2.2.2.2.2.2.2.2.2.2.2.2.1.2.2 | exact Ne.symm qo.2.2.2.2.2.2.2.2.2.2.2.2.2.1.2.2 | exact qo.2.2.2.2.2.2.2.2.2.2.2.2.2.2.1.1 | exact Ne.symm qo.2.2.2.2.2.2.2.2.2.2.2.2.2.2.1.1 | exact qo.2.2.2.2.2.2.2.2.2.2.2.2.2.2.1.2.1 | exact Ne.symm qo.2.2.2.2.2.2.2.2.2.2.2.2.2.2.1.2.1 | exact qo.2.2.2.2.2.2.2.2.2.2.2.2.2.2.1.2.2 | exact Ne.symm qo.2.2.2.2.2.2.2.2.2.2.2.2.2.2.1.2.2 | exact qo.2.2.2.2.2.2.2.2.2.2.2.2.2.2.2.1.1 | exact Ne.symm qo.2.2.2.2.2.2.2.2.2.2.2.2.2.2.2.1.1 | exact qo.2.2.2.2.2.2.2.2.2.2.2.2.2.2.2.1.2.1 | exact Ne.symm qo.2.2.2.2.2.2.2.2.2.2.2.2.2.2.2.1.2.1 | exact qo.2.2.2.2.2.2.2.2.2.2.2.2.2.2.2.1.2.2 | exact Ne.symm qo.2.2.2.2.2.2.2.2.2.2.2.2.2.2.2.1.2.2 | exact qo.2.2.2.2.2.2.2.2.2.2.2.2.2.2.2.2.1.1 | exact Ne.symm qo.2.2.2.2.2.2.2.2.2.2.2.2.2.2.2.2.1.1 | exact qo.2.2.2.2.2.2.2.2.2.2.2.2.2.2.2.2.1.2.1 | exact Ne.symm qo.2.2.2.2.2.2.2.2.2.2.2.2.2.2.2.2.1.2.1 | exact qo.2.2.2.2.2.2.2.2.2.2.2.2.2.2.2.2.1.2.2 | exact Ne.symm qo.2.2.2.2.2.2.2.2.2.2.2.2.2.2.2.2.1.2.2 | clear qo)); done)
  k_with "lt" => (first | with_reducible assumption | ((repeat (rename (_ < _ ∧ _) => qz; first | exact qz.1 | exact qz.2.1 | exact qz.2.2.1 | exact qz.2.2.2.1 | exact qz.2.2.2.2.1 | exact qz.2.2.2.2.2.1 | exact qz.2.2.2.2.2.2.1 | exact qz.2.2.2.2.2.2.2.1 | exact qz.2.2.2.2.2.2.2.2.1 | exact qz.2.2.2.2.2.2.2.2.2.1 | exact qz.2.2.2.2.2.2.2.2.2.2.1 | exact qz.2.2.2.2.2.2.2.2.2.2.2.1 | exact qz.2.2.2.2.2.2.2.2.2.2.2.2.1 | exact qz.2.2.2.2.2.2.2.2.2.2.2.2.2.1 | exact qz.2.2.2.2.2.2.2.2.2.2.2.2.2.2.1 | exact qz.2.2.2.2.2.2.2.2.2.2.2.2.2.2.2.1 | exact qz.2.2.2.2.2.2.2.2.2.2.2.2.2.2.2.2.1 | exact qz.2.2.2.2.2.2.2.2.2.2.2.2.2.2.2.2.2.1 | clear qz)); done))
  k_with "ne one" => ((repeat (rename (_ ≠ _ ∧ _) => qo; first | exact qo.1 | exact Ne.symm qo.1 | exact qo.2.1 | exact Ne.symm qo.2.1 | exact qo.2.2.1 | exact Ne.symm qo.2.2.1 | exact qo.2.2.2.1 | exact Ne.symm qo.2.2.2.1 | exact qo.2.2.2.2.1 | exact Ne.symm qo.2.2.2.2.1 | exact qo.2.2.2.2.2.1 | exact Ne.symm qo.2.2.2.2.2.1 | exact qo.2.2.2.2.2.2.1 | exact Ne.symm qo.2.2.2.2.2.2.1 | exact qo.2.2.2.2.2.2.2.1 | exact Ne.symm qo.2.2.2.2.2.2.2.1 | exact qo.2.2.2.2.2.2.2.2.1 | exact Ne.symm qo.2.2.2.2.2.2.2.2.1 | exact qo.2.2.2.2.2.2.2.2.2.1 | exact Ne.symm qo.2.2.2.2.2.2.2.2.2.1 | exact qo.2.2.2.2.2.2.2.2.2.2.1 | exact Ne.symm qo.2.2.2.2.2.2.2.2.2.2.1 | exact qo.2.2.2.2.2.2.2.2.2.2.2.1 | exact Ne.symm qo.2.2.2.2.2.2.2.2.2.2.2.1 | exact qo.2.2.2.2.2.2.2.2.2.2.2.2.1 | exact Ne.symm qo.2.2.2.2.2.2.2.2.2.2.2.2.1 | exact qo.2.2.2.2.2.2.2.2.2.2.2.2.2.1 | exact Ne.symm qo.2.2.2.2.2.2.2.2.2.2.2.2.2.1 | exact qo.2.2.2.2.2.2.2.2.2.2.2.2.2.2.1 | exact Ne.symm qo.2.2.2.2.2.2.2.2.2.2.2.2.2.2.1 | exact qo.2.2.2.2.2.2.2.2.2.2.2.2.2.2.2.1 | exact Ne.symm qo.2.2.2.2.2.2.2.2.2.2.2.2.2.2.2.1 | exact qo.2.2.2.2.2.2.2.2.2.2.2.2.2.2.2.2.1 | exact Ne.symm qo.2.2.2.2.2.2.2.2.2.2.2.2.2.2.2.2.1 | clear qo)); done)
  trivial
set_option maxRecDepth 100000

theorem wdSieved_19 : True := by
  k_with "exec For Name Name cons nil" => (k_here; k_dflt (refine wpAny_For ?_))
  trivial
theorem wdSieved_20 : True := by
  k_with "exec For Name Call cons nil" => (k_here; k_dflt (refine wpAny_For ?_))
  trivial
theorem wdSieved_21 : True := by
  k_with "pyIter ref" => (k_here; refine stop ?_)
  trivial
theorem wdSieved_22 : True := by
  k_with "exec While" => (k_here; refine stop ?_)
  trivial
theorem wdSieved_23 : True := by
  k_with "exec While Name cons nil" => (k_here; refine stop ?_)
  trivial
theorem wdSieved_24 : True := by
  k_with "newList" => (k_here; k_dflt (refine' newList_L (by k_asm) (by k_asm) ?hsz ?_; (case hsz => size_fits); k_whole); intro _ _ _ _ l1z _; (try k_lt l1z); (revert l1z; intro _))
  trivial
theorem wdSieved_25 : True := by
  k_with "Exists" => (k_here; refine stop ?_)
  trivial
theorem wdSieved_26 : True := by
  k_with "call ref" => (k_here; (with_reducible show wpAny _ _ (call (Value.ref 91) _) _ _ _); k_dflt (first
  | (refine' spec_use (push_one _ _ _ _ _ _ _ _ _ _ _ hlx hpl) ?k1 ?k2 ?k3 ?k4 ?k5 ?k6 [(it, liObj sl (i + 1)), (sl, W.listOf vs.toArray nn)] ?h1 ?h2 ?h3 ?k7 ?k8 ?_; k_extra "my spec")
  | (refine' spec_use (push_one _ _ _ _ _ _ _ _ _ _ _ hlx hpl2) ?k1 ?k2 ?k3 ?k4 ?k5 ?k6 [(it2, riObj _ _), (td, W.listOf (tvs ++ [Value.int a ta]).toArray (nt + 1)), (sl, W.listOf vs.toArray nn)] ?h1 ?h2 ?h3 ?k7 ?k8 ?_; k_extra "my spec")); intro hi' v' n' h'' tk'' l1'' l2'' hp' F'' N''; (try k_unfold); (try dsimp only); (try k_fold); obtain ⟨np'', e1', e2'⟩ := hp'; subst e1'; subst e2'; simp only [List.cons_append, List.nil_append] at N''; (try dsimp only))
  trivial
theorem wdSieved_27 : True := by
  k_with "call ref" => (k_here; (with_reducible show wpAny _ _ (call (Value.ref 84) _) _ _ _); k_dflt (first
  | (refine' spec_use (get_pushed _ _ _ _ _ _ _ _ _ _ _ hlx hpl) ?k1 ?k2 ?k3 ?k4 ?k5 ?k6 [(it2, riObj _ _), (td, W.listOf (tvs ++ [Value.int a ta]).toArray (nt + 1)), (sl, W.listOf vs.toArray nn)] ?h1 ?h2 ?h3 ?k7 ?k8 ?_; k_extra "my spec")
  | (refine' spec_use (get_pushed _ _ _ _ _ _ _ _ _ _ _ hlx hpl) ?k1 ?k2 ?k3 ?k4 ?k5 ?k6 [(td, W.listOf tvs.toArray nt), (sl, W.listOf vs.toArray nn)] ?h1 ?h2 ?h3 ?k7 ?k8 ?_; k_extra "my spec")); intro hi' v' n' h'' tk'' l1'' l2'' hp' F'' N''; (try k_unfold); (try dsimp only); (try k_fold); obtain ⟨np'', e1', e2'⟩ := hp'; subst e1'; subst e2'; simp only [List.cons_append, List.nil_append] at N''; (try dsimp only))
  trivial

theorem wdSieved_28 : True := by
  k_with "my int" => ((case k1 => k_asm); (case k2 => k_asm); (case k3 => k_asm); (case k4 => k_asm); (case k5 => k_asm); (case k6 => exact rfl); (case k7 => ktr_room); (case k8 => ktr_units); k_whole)
  trivial
theorem wdSieved_29 : True := by
  k_with "call ref" => (k_here; k_dflt (first
  | ((with_reducible show wpAny _ _ (call (Value.ref 49) _) _ _ _); refine' int_use (xor_int9 _ _ _ _ _) ?k1 ?k2 ?k3 ?k4 ?k5 ?k6 ?k7 ?k8 ?_; k_extra "my int")
  | ((with_reducible show wpAny _ _ (call (Value.ref 35) _) _ _ _); refine' int_use (mod_int9 _ _ _ _) ?k1 ?k2 ?k3 ?k4 ?k5 ?k6 ?k7 ?k8 ?_; k_extra "my int")
  | ((with_reducible show wpAny _ _ (call (Value.ref 42) _) _ _ _); refine' int_use (rshift_int9 _ _ _ _ _ (fm37 _).1 (fm37 _).2 hV) ?k1 ?k2 ?k3 ?k4 ?k5 ?k6 ?k7 ?k8 ?_; k_extra "my int")
  | ((with_reducible show wpAny _ _ (call (Value.ref 21) _) _ _ _); refine' int_use (and_int9 _ _ _ _ _) ?k1 ?k2 ?k3 ?k4 ?k5 ?k6 ?k7 ?k8 ?_; k_extra "my int")); intro t9 h9 tk9 F9 N9; (try dsimp only))
  trivial

/-- the frame's map, where x and all of xs may be anything -/
noncomputable def butFor (xs : List Str) (u m : Str → Option Value) : Str → Option Value := fun y => if y ∈ xs then u y else m y
theorem fr_but {h₀ h : Heap} {L : Addr} {m m9 : Str → Option Value} {x : Str} (F : Fr h₀ L h m) (h2 : ∀ z, z ≠ x → m z = m9 z) : Fr h₀ L h (fun y => if y = x then m y else m9 y) := by
  have e : (fun y => if y = x then m y else m9 y) = m := by
    funext y
    by_cases a : y = x
    · rw [if_pos a]
    · rw [if_neg a, h2 y a]
  rw [e]; exact F

/-- the frame's map within the while -/
noncomputable abbrev wMap (u m9 : Str → Option Value) (v : Value) : Str → Option Value := fun y => if y = Str.ofString "waiting" then some v else if y = Str.ofString "first" then u y else if y = Str.ofString "left" then u y else if y = Str.ofString "turn" then u y else if y = Str.ofString "other" then u y else m9 y
theorem fr_wMap {h₀ h : Heap} {L : Addr} {m m9 : Str → Option Value} {v : Value} (F : Fr h₀ L h m) (h1 : m (Str.ofString "waiting") = some v) (h2 : ∀ z, z ≠ Str.ofString "waiting" → z ≠ Str.ofString "first" → z ≠ Str.ofString "left" → z ≠ Str.ofString "turn" → z ≠ Str.ofString "other" → m z = m9 z) :
    Fr h₀ L h (wMap m m9 v) := by
  have e : wMap m m9 v = m := by
    funext y
    unfold wMap
    by_cases a : y = Str.ofString "waiting"
    · rw [if_pos a, a, h1]
    · rw [if_neg a]
      by_cases b : y = Str.ofString "first"
      · rw [if_pos b]
      · rw [if_neg b]
        by_cases c : y = Str.ofString "left"
        · rw [if_pos c]
        · rw [if_neg c]
          by_cases d : y = Str.ofString "turn"
          · rw [if_pos d]
          · rw [if_neg d]
            by_cases e : y = Str.ofString "other"
            · rw [if_pos e]
            · rw [if_neg e, h2 y a b c d e]
  rw [e]; exact F
/-- the frame's map within the inner for -/
noncomputable abbrev iMap (u m9 : Str → Option Value) (v : Value) : Str → Option Value := fun y => if y = Str.ofString "left" then some v else if y = Str.ofString "turn" then u y else if y = Str.ofString "other" then u y else m9 y
theorem fr_iMap {h₀ h : Heap} {L : Addr} {m m9 : Str → Option Value} {v : Value} (F : Fr h₀ L h m) (h1 : m (Str.ofString "left") = some v) (h2 : ∀ z, z ≠ Str.ofString "left" → z ≠ Str.ofString "turn" → z ≠ Str.ofString "other" → m z = m9 z) :
    Fr h₀ L h (iMap m m9 v) := by
  have e : iMap m m9 v = m := by
    funext y
    unfold iMap
    by_cases a : y = Str.ofString "left"
    · rw [if_pos a, a, h1]
    · rw [if_neg a]
      by_cases b : y = Str.ofString "turn"
      · rw [if_pos b]
      · rw [if_neg b]
        by_cases c : y = Str.ofString "other"
        · rw [if_pos c]
        · rw [if_neg c, h2 y a b c]
  rw [e]; exact F

noncomputable def tst (V a b : Int) : Bool := decide (Builtin.bitAnd (V.fdiv (2 ^ (Int.fmod (Builtin.bitXor a b) 37).toNat)) 1 ≠ 0)
noncomputable def sieveN (V : Int) : Nat → List Int → List Int
  | 0, _ => []
  | _ + 1, [] => []
  | n + 1, a :: r => a :: sieveN V n (r.filter (tst V a))
noncomputable def sieve (V : Int) (l : List Int) : List Int := sieveN V l.length l
theorem sieveN_nil (V : Int) (n : Nat) : sieveN V n [] = [] := by cases n <;> rfl
theorem sieveN_eq (V : Int) (n : Nat) : ∀ (k : Nat) (l : List Int), l.length ≤ n → l.length ≤ k → sieveN V n l = sieveN V k l := by
  induction n with
  | zero => intro k l h1 h2; cases l with
    | nil => rw [sieveN_nil, sieveN_nil]
    | cons a r => simp at h1
  | succ n ih => intro k l h1 h2; cases l with
    | nil => rw [sieveN_nil, sieveN_nil]
    | cons a r =>
      cases k with
      | zero => simp at h2
      | succ k =>
        have e1 : (r.filter (tst V a)).length ≤ r.length := List.length_filter_le _ _
        simp only [List.length_cons] at h1 h2
        show a :: sieveN V n _ = a :: sieveN V k _
        rw [ih k _ (by omega) (by omega)]
theorem sieve_cons (V a : Int) (r : List Int) : sieve V (a :: r) = a :: sieve V (r.filter (tst V a)) := by
  show a :: sieveN V r.length _ = a :: sieveN V _ _
  rw [sieveN_eq V r.length _ _ (List.length_filter_le _ _) (Nat.le_refl _)]

section
variable {w : World} {x dx f pb sl : Addr}

set_option maxHeartbeats 8000000 in
theorem sieved (k : Int) (t0 t1 t2 t3 t4 t5 : Tok) (V : Int) (tv : Tok) (vs : List Value) (ns : List Int) (np nn : Nat) (hlt : @LT.lt Nat _ dx x ∧ @LT.lt Nat _ x pb ∧ @LT.lt Nat _ pb sl) (hi : IntsAre vs ns) (hv : ns.length ≤ 500) (hV : 0 ≤ V) :
    FnSpec w 117 [.ref x, .int V tv, .ref sl] [(x, instObj 94 dx), (dx, lexD w.params k t0 t1 t2 t3 t4 t5 f pb), (pb, W.listOf #[] np), (sl, W.listOf vs.toArray nn)] 12 300
      (fun hi' v' n => ∃ np' td tvs nt, n = [(td, W.listOf tvs.toArray nt), (x, instObj 94 dx), (dx, lexD w.params k t0 t1 t2 t3 t4 t5 f pb), (pb, W.listOf #[] np'), (sl, W.listOf vs.toArray nn)] ∧ v' = .ref td ∧ hi' < td ∧ IntsAre tvs (sieve V ns)) := by
  unfold FnSpec
  k_fill
  w_top off
  intro mean mg mb dp un gd cn cs a ccd cl outer A₀ base h₀ L m s Q others B F X N NO hdis T hk hd hu hret
  k_with "my binds" => exact BindsTo.of_eq (binds := [(Str.ofString "lexer", .ref x), (Str.ofString "verdict", .int V tv), (Str.ofString "sums", .ref sl)]) rfl
  k_dflt k_extra "my enter"
  have hlx : @LT.lt Nat _ dx x ∧ @LT.lt Nat _ x pb := ⟨hlt.1, hlt.2.1⟩
  k_steps
  unfold Stop
  (rename Fr _ _ _ _ => F5); (rename News _ _ _ _ => N5)
  refine li_start F5 N5 (by k_mem) ?_
  intro it h6 F6 N6 l6
  k_lt l6
  (try k_unfold); (try dsimp only)
  refine codeAny_forLoop (fun n s' => ∃ (i : Nat) (pvs : List Value) (np' : Nat) (u : Str → Option Value) (h : Heap) (tk : Nat), n = ns.length - i ∧ i ≤ ns.length ∧ IntsAre pvs (ns.take i) ∧ s' = ⟨h, s.gens, s.drawn, tk, s.os⟩ ∧
    Fr g' L' h (fun y => if y = Str.ofString "one" then u y else FrMap F5 y) ∧ News g' L' h [(it, liObj sl i), (x, instObj 94 dx), (dx, lexD w.params k t0 t1 t2 t3 t4 t5 f pb), (pb, W.listOf pvs.toArray np'), (sl, W.listOf vs.toArray nn)]) (fun n s' hs => ?_) ns.length ?_
  · try k_fold
    obtain ⟨i, pvs, np1, u1, h1, tk1, rfl, hin, hpi, rfl, F1, N1⟩ := hs
    by_cases hlast : i < ns.length
    · obtain ⟨tz, hz⟩ := hi.get i ns[i] (by simp [hlast])
      refine li_item F1 N1 (by k_updF) (by k_mem) (v := .int ns[i] tz) (by simpa using hz) ?_
      intro h2 F2 N2
      (try k_unfold); (try dsimp only at N2 ⊢)
      have hpl : pvs.length ≤ 1000 := by have := hpi.length; rw [List.length_take] at this; omega
      refine wpAny_assign_Name ?_
      k_steps
      unfold Stop
      (try k_unfold); (try dsimp only)
      refine ⟨ns.length - (i + 1), by omega, i + 1, pvs ++ [.int ns[i] tz], np'', _, h'', tk'', rfl, by omega, ?_, rfl, fr_but F'' (fun z hz => by simp only [if_neg hz]), cb_drop N'' (by k_extra "my sub")⟩
      rw [List.take_add_one, List.getElem?_eq_getElem hlast]
      exact hpi.append (.cons _ _ .nil)
    · obtain rfl : i = ns.length := by omega
      refine li_end rfl F1 N1 (by k_mem) (by k_mem) (by rw [List.getElem?_toArray, List.getElem?_eq_none (by rw [hi.length]; omega)]) (rest := [(x, instObj 94 dx), (dx, lexD w.params k t0 t1 t2 t3 t4 t5 f pb), (pb, W.listOf pvs.toArray np1), (sl, W.listOf vs.toArray nn)]) (by k_extra "my sub") (ne_of (by k_extra "my nel")) ?_
      intro h2 F2 N2
      (try k_unfold); (try dsimp only)
      rw [List.take_length] at hpi
      k_steps
      unfold Stop
      (rename Fr _ _ _ _ => F8); (rename News _ _ _ _ => N8)
      rename_i td _ lL9 ltd _ _ _
      refine While_inv2 (fun n m₁ nx => ∃ (done rem : List Int) (tvs pvs : List Value) (nt np' : Nat) (tw : Tok) (u : Str → Option Value), n = rem.length ∧ IntsAre tvs done ∧ IntsAre pvs rem ∧ done ++ sieve V rem = sieve V ns ∧ done.length + rem.length ≤ ns.length ∧
        m₁ = wMap u (FrMap F8) (.int (rem.length : Int) tw) ∧ nx = [(td, W.listOf tvs.toArray nt), (x, instObj 94 dx), (dx, lexD w.params k t0 t1 t2 t3 t4 t5 f pb), (pb, W.listOf pvs.toArray np'), (sl, W.listOf vs.toArray nn)])
        (fr_wMap F8 rfl (fun _ _ _ _ _ _ => rfl)) N8 ⟨[], ns, [], pvs, 0, np1, _, _, rfl, .nil, hpi, rfl, by simp, rfl, rfl⟩ ?_
      intro n m₁ nx h₁ tk₁ F1 N1 hI9
      try k_fold
      obtain ⟨done, rem, tvs, pvs, nt, np2, tw, u, rfl, hti, hpi2, hsv, hlen, rfl, rfl⟩ := hI9
      cases rem with
      | nil =>
        simp only [List.length_nil, Int.ofNat_zero, Int.natCast_zero] at F1
        k_steps
        cases hpi2
        (rename News h₀ L _ _ => kN9); (rename Fr h₀ L _ _ => kF9)
        have ed : done = sieve V ns := by rw [← hsv]; exact (List.append_nil _).symm
        rw [ed] at hti
        refine left_end hret lN' lO' kF9 kN9 ⟨np2, td, tvs, nt, rfl, rfl, lL9, hti⟩ ?_
        k_extra "my sub"
      | cons a r =>
        simp only [List.length_cons] at F1
        cases pvs with
        | nil => cases hpi2
        | cons pv pr =>
        cases hpi2 with
        | cons _ ta hpr =>
        have hpl : (Value.int a ta :: pr).length ≤ 1000 := by rw [List.length_cons, hpr.length]; simp only [List.length_cons] at hlen; omega
        have hrl : r.length ≤ 500 := by simp only [List.length_cons] at hlen; omega
        k_steps
        rotate_left
        · exfalso; omega
        unfold Stop
        (rename IsRange _ _ _ _ _ _ _ _ => hR); (rename Fr _ _ _ _ => FA); (rename News _ _ _ _ => NA)
        simp only [List.push_toArray] at NA
        refine ri_start FA NA hR (small_one (by omega) (by omega) (by omega) (by omega)) ?_
        intro it2 hB FB NB lB
        k_lt lB
        rw [show Builtin.Range.rangeSize 0 (((r.length + 1 : Nat) : Int) - 1) 1 = (r.length : Int) from by rw [rangeSize_nat]; omega] at NB
        (try k_unfold); (try dsimp only)
        refine codeAny_forLoop (fun n s' => ∃ (i : Nat) (pvs : List Value) (np' : Nat) (tl : Tok) (u : Str → Option Value) (h : Heap) (tk : Nat), n = r.length - i ∧ i ≤ r.length ∧ IntsAre pvs (r.drop i ++ (r.take i).filter (tst V a)) ∧ s' = ⟨h, s.gens, s.drawn, tk, s.os⟩ ∧
          Fr g' L' h (iMap u (FrMap FA) (.int (((r.take i).filter (tst V a)).length : Int) tl)) ∧ News g' L' h [(it2, riObj (i : Int) ((r.length : Int) - (i : Int))), (td, W.listOf (tvs ++ [Value.int a ta]).toArray (nt + 1)), (x, instObj 94 dx), (dx, lexD w.params k t0 t1 t2 t3 t4 t5 f pb), (pb, W.listOf pvs.toArray np'), (sl, W.listOf vs.toArray nn)]) (fun n s' hs => ?_) r.length ?_
        · try k_fold
          obtain ⟨i, pvs, np3, tl, u3, h3, tk3, rfl, hir, hpi3, rfl, F3, N3⟩ := hs
          by_cases hlast2 : i < r.length
          · rw [List.drop_eq_getElem_cons hlast2] at hpi3
            cases pvs with
            | nil => cases hpi3
            | cons pv3 pr3 =>
            generalize hb : r[i] = b at hpi3
            cases hpi3 with
            | cons _ tb hpr3 =>
            have hl3 : pr3.length ≤ 999 := by
              rw [hpr3.length]
              show (List.drop (i + 1) r ++ _).length ≤ _
              rw [List.length_append, List.length_drop]
              have := List.length_filter_le (tst V a) (r.take i)
              rw [List.length_take] at this
              omega
            have hpl : (Value.int b tb :: pr3).length ≤ 1000 := by rw [List.length_cons]; omega
            have hpl2 : pr3.length ≤ 1000 := by omega
            refine ri_item F3 N3 (by k_updF) (by omega) ?_
            intro tq h4 tk4 F4 N4
            (try k_unfold); (try dsimp only at N4 ⊢)
            have et : r.take (i + 1) = r.take i ++ [b] := by rw [List.take_add_one, List.getElem?_eq_getElem hlast2, hb]; rfl
            have er : riObj ((i : Int) + 1) ((r.length : Int) - (i : Int) - 1) = riObj ((i + 1 : Nat) : Int) ((r.length : Int) - ((i + 1 : Nat) : Int)) := by
              rw [show ((i : Int) + 1) = ((i + 1 : Nat) : Int) from by omega, show ((r.length : Int) - (i : Int) - 1) = ((r.length : Int) - ((i + 1 : Nat) : Int)) from by omega]
            refine wpAny_assign_Name ?_
            k_steps
            · unfold Stop
              (rename News _ _ _ _ => NC); (rename Fr _ _ _ _ => FC); (rename _ ≠ _ => hne)
              (try k_unfold); (try dsimp only)
              have ht : tst V a b = true := decide_eq_true hne
              have ef : (r.take (i + 1)).filter (tst V a) = (r.take i).filter (tst V a) ++ [b] := by rw [et, List.filter_append]; simp [ht]
              have hz : ((((r.take i).filter (tst V a)).length : Int) + 1) = (((r.take (i + 1)).filter (tst V a)).length : Int) := by rw [ef, List.length_append]; rfl
              rw [er] at NC
              refine ⟨r.length - (i + 1), by omega, i + 1, pr3 ++ [.int b tb], np'', _, _, _, _, rfl, by omega, ?_, rfl, fr_iMap FC (congrArg (fun z => some (Value.int z _)) hz) (fun z z1 z2 z3 => ?_), cb_drop NC (by k_extra "my sub")⟩
              · rw [ef, ← List.append_assoc]; exact hpr3.append (.cons _ _ .nil)
              · simp only [if_neg z1, if_neg z2, if_neg z3]
            · unfold Stop
              (rename News _ _ _ _ => NC); (rename Fr _ _ _ _ => FC); (rename _ = (0 : Int) => hne)
              (try k_unfold); (try dsimp only)
              have ht : tst V a b = false := decide_eq_false (fun h => h hne)
              have ef : (r.take (i + 1)).filter (tst V a) = (r.take i).filter (tst V a) := by rw [et, List.filter_append]; simp [ht]
              have hz : (((r.take i).filter (tst V a)).length : Int) = (((r.take (i + 1)).filter (tst V a)).length : Int) := by rw [ef]
              rw [er] at NC
              refine ⟨r.length - (i + 1), by omega, i + 1, pr3, np'', _, _, _, _, rfl, by omega, ?_, rfl, fr_iMap FC (congrArg (fun z => some (Value.int z _)) hz) (fun z z1 z2 z3 => ?_), cb_drop NC (by k_extra "my sub")⟩
              · rw [ef]; exact hpr3
              · simp only [if_neg z1, if_neg z2, if_neg z3]
          · obtain rfl : i = r.length := by omega
            refine ri_end rfl F3 N3 (by k_mem) (by omega) (rest := [(td, W.listOf (tvs ++ [Value.int a ta]).toArray (nt + 1)), (x, instObj 94 dx), (dx, lexD w.params k t0 t1 t2 t3 t4 t5 f pb), (pb, W.listOf pvs.toArray np3), (sl, W.listOf vs.toArray nn)]) (by k_extra "my sub") (ne_of (by k_extra "my nel")) ?_
            intro h4 F4 N4
            (try k_unfold); (try dsimp only)
            rw [List.drop_length, List.nil_append, List.take_length] at hpi3
            rw [List.take_length] at F4
            k_steps
            (rename News _ _ _ _ => NC); (rename Fr _ _ _ _ => FC)
            refine ⟨_, _, _, _, (r.filter (tst V a)).length, rfl, fr_wMap (m9 := FrMap F8) FC rfl (fun z z1 z2 z3 z4 z5 => ?_), NC, ?_, done ++ [a], r.filter (tst V a), tvs ++ [.int a ta], pvs, nt + 1, np3, _, _, rfl, hti.append (.cons _ _ .nil), hpi3, ?_, ?_, rfl, rfl⟩
            · simp only [iMap, wMap, FrMap, if_neg z1, if_neg z2, if_neg z3, if_neg z4, if_neg z5]
            · have := List.length_filter_le (tst V a) r
              rw [List.length_cons]; omega
            · rw [← hsv, sieve_cons, List.append_assoc]; rfl
            · have := List.length_filter_le (tst V a) r
              rw [List.length_append]; simp only [List.length_cons, List.length_nil] at hlen ⊢; omega
        · refine ⟨0, pr, np'', _, FrMap FA, hB, _, by omega, by omega, by simpa using hpr, rfl, fr_iMap FB rfl (fun _ _ _ _ => rfl), cb_drop NB ?_⟩
          simp only [Int.ofNat_zero, Int.sub_zero, Int.natCast_zero]
          k_extra "my sub"
  · refine ⟨0, [], np, FrMap F5, h6, _, by omega, by omega, .nil, rfl, fr_but F6 (fun _ _ => rfl), N6⟩
end
end Mine

namespace Mine
set_option maxRecDepth 100000
section
variable {prog : Program} {w : World} {A₀ A : Around} {s : Shared} {K : Frag} {L : Addr} {h₀ base : Heap} {m mg mb : Str → Option Value} {news others : Led} {p : Program} {loose : List Str} {mean : ExcName → Option Value}

/-- as code_defS, for a def with cells -/
theorem code_defCS {env : Env} {outer : List Env} {R : Result → Shared → Prop} {name qual : Str} {params : Arguments} {body : List Stmt} {scope : Scope} {dV kV doc pm cdv ct oc : Value} {an od : Option Addr} {osl : Array (Option Value)} {f : Addr} {args : Args} {binds : List (Str × Value)}
    (B : Below A₀ base outer h₀) (F : Fr h₀ L s.heap m) (X₀ : K.In h₀) (N : News h₀ L s.heap news) (NO : News h₀ L s.heap others) (hdis : ∀ p ∈ others, p.1 ∉ news.map (·.1)) (T : Top p loose mean mg mb h₀) (hA : A.frames = some (env :: outer)) (hf : env.frame = some L) (hke : env.scope.kind = .function)
    (ho : K.lookup f = some ⟨oc, od, .func (fnOf name qual params body scope dV kV doc pm an cdv ct), osl⟩) (hcd : codeIn K cdv qual = true) (hroom : A.depth < recursionLimit)
    (hbind : BindsTo s (fnOf name qual params body scope dV kV doc pm an cdv ct) args binds) (hkind : (binds.all fun y => scope.names.lookup y.1 == some .local || scope.names.lookup y.1 == some .cell) = true)
    (hnd : ((cellsFrom 0 scope.names []).map (·.1)).Nodup)
    (h : ∀ g L' h₁ tk cells, Fr h₀ L g m → Fr g L' h₁ (bindL (envOfC qual scope L' f cdv).kindOf binds fun _ => none) → News g L' h₁ (cells ++ news) →
      CellsAre (bindC (envOfC qual scope L' f cdv).kindOf binds fun _ => none) (cellsFrom (L' + 1) scope.names []) cells → Below A base (env :: outer) g → K.In g → Top p loose mean mg mb g → (∀ p ∈ news, p.1 < L') → (∀ p ∈ others, p.1 < L') →
      wpAny (model prog w) (A.deeper (envOfC qual scope L' f cdv)) (execs body (envOfC qual scope L' f cdv))
        (fun fl s' => LeaveK h₀ L m g (Left h₀ L others R) (match fl with | .ret v => v | _ => .none) s')
        (fun e s' => wpAny (model prog w) (A.deeper (envOfC qual scope L' f cdv)) (leaving (envOfC qual scope L' f cdv) e) (fun _ s'' => R (.error e) s'') (fun e' s'' => R (.error e') s'') s')
        { s with heap := h₁, toks := tk })
    (hco : scope.isCoroutine = false) (hgen : scope.isGenerator = false) (hk : scope.kind = .function) : codeAny (model prog w) A (.call (.ref f) args) R s := by
  obtain ⟨FG, BG, st, lv⟩ := groundX (R := Left h₀ L others R) B F N hA hf hke
  have size0 := hideAll_size (news.map (·.1)) s.heap
  refine codeAny_call_function hroom ((X₀.keeps F.keep) _ _ ho) rfl hco hgen rfl (codeRec_of (X₀.keeps F.keep) hcd) (hbind _ _ _ _ ?_)
  refine wpAny_newFunctionEnv_cells hk (kindsX hkind _) fun env' he s' x => ?_
  subst he
  refine ⟨(T.nolimit.keeps F.keep).keeps x.toInCall.keep, codeAny_func ?_⟩
  obtain ⟨h₁, tk, rfl, _⟩ := x.done
  have kept := x.toInCall.keep
  obtain ⟨cells, NC, Y⟩ := Cl.news (h₀ := s.heap) (Nat.le_refl _) fun n c hm => ⟨x.cell n c (lookup_of_mem_nodup (cellsFrom_names scope.names 0 (s.heap.objs.size + 1) [] [] rfl ▸ hnd) hm), x.above n c hm⟩
  have NA : News (hideAll s.heap (news.map (·.1))) s.heap.objs.size h₁ (cells ++ news) := by
    intro q hq
    rcases List.mem_append.mp hq with hq | hq
    · refine ⟨(NC q hq).1, (NC q hq).2.1, Option.eq_none_iff_forall_ne_some.mpr fun o e => ?_⟩
      have e2 := of_hideAll _ e
      rw [(NC q hq).2.2] at e2
      cases e2
    · exact ⟨kept _ _ (N q hq).1, Nat.ne_of_lt (Heap.lt_size (N q hq).1), hideAll_none _ (List.mem_map_of_mem hq)⟩
  refine wpAny_mono (h _ s.heap.objs.size h₁ tk cells FG ⟨x.toInCall.ns, fun b o e => kept b o (of_hideAll _ e), Nat.le_of_eq size0⟩ NA Y BG (X₀.keeps st) (T.keeps st) (fun q hq => Heap.lt_size (N q hq).1) (fun q hq => Heap.lt_size (NO q hq).1)) (fun fl s' hl => ?_) fun _ _ y => y
  refine lv _ _ hl (fun q hq => ⟨?_, (NO q hq).2⟩)
  obtain ⟨L', m', news', F', _, _⟩ := hl
  exact F'.keep _ _ (hideAll_get _ (NO q hq).1 (hdis q hq))
end
end Mine

namespace Mine
theorem xor_add (a : Nat) : ∀ b : Nat, (a ^^^ b) + 2 * (a &&& b) = a + b := by
  induction a using Nat.strongRecOn with
  | _ a ih =>
    intro b
    by_cases h0 : a = 0
    · subst h0; simp
    · have h := ih (a / 2) (by omega) (b / 2)
      have e1 : (a ^^^ b) / 2 = a / 2 ^^^ b / 2 := Nat.xor_div_two
      have e2 : (a &&& b) / 2 = a / 2 &&& b / 2 := Nat.and_div_two
      rw [← e1, ← e2] at h
      have m1 : (a ^^^ b) % 2 = (a % 2 + b % 2) % 2 := by
        have h1 := Nat.testBit_xor a b 0
        simp only [Nat.testBit_zero] at h1
        rcases Nat.mod_two_eq_zero_or_one a with p | p <;> rcases Nat.mod_two_eq_zero_or_one b with q | q <;> rcases Nat.mod_two_eq_zero_or_one (a ^^^ b) with r | r <;> simp [p, q, r] at h1 ⊢
      have m2 : (a &&& b) % 2 = (a % 2) * (b % 2) := by
        have h1 := Nat.testBit_and a b 0
        simp only [Nat.testBit_zero] at h1
        rcases Nat.mod_two_eq_zero_or_one a with p | p <;> rcases Nat.mod_two_eq_zero_or_one b with q | q <;> rcases Nat.mod_two_eq_zero_or_one (a &&& b) with r | r <;> simp [p, q, r] at h1 ⊢
      have t : (a % 2) * (b % 2) * 2 + (a % 2 + b % 2) % 2 = a % 2 + b % 2 := by
        rcases Nat.mod_two_eq_zero_or_one a with p | p <;> rcases Nat.mod_two_eq_zero_or_one b with q | q <;> simp [p, q]
      omega
theorem or_add (a : Nat) : ∀ b : Nat, (a ||| b) + (a &&& b) = a + b := by
  induction a using Nat.strongRecOn with
  | _ a ih =>
    intro b
    by_cases h0 : a = 0
    · subst h0; simp
    · have h := ih (a / 2) (by omega) (b / 2)
      have e1 : (a ||| b) / 2 = a / 2 ||| b / 2 := Nat.or_div_two
      have e2 : (a &&& b) / 2 = a / 2 &&& b / 2 := Nat.and_div_two
      rw [← e1, ← e2] at h
      have m : (a ||| b) % 2 + (a &&& b) % 2 = a % 2 + b % 2 := by
        have h1 := Nat.testBit_and a b 0
        have h2 := Nat.testBit_or a b 0
        simp only [Nat.testBit_zero] at h1 h2
        rcases Nat.mod_two_eq_zero_or_one a with p | p <;> rcases Nat.mod_two_eq_zero_or_one b with q | q <;> rcases Nat.mod_two_eq_zero_or_one (a &&& b) with r | r <;> rcases Nat.mod_two_eq_zero_or_one (a ||| b) with r2 | r2 <;> simp [p, q, r, r2] at h1 h2 ⊢
      omega
theorem bitXor_nat (a b : Nat) : Builtin.bitXor (a : Int) (b : Int) = ((a ^^^ b : Nat) : Int) := by
  have h := xor_add a b
  have e : Builtin.bitAnd (a : Int) (b : Int) = ((a &&& b : Nat) : Int) := by
    unfold Builtin.bitAnd
    rw [decide_eq_true (by omega : (0 : Int) ≤ (a : Int)), decide_eq_true (by omega : (0 : Int) ≤ (b : Int))]
    simp
  rw [bitXor_and, e]
  omega
/-- an int from its sign and its magnitude -/
noncomputable def dec (s : Bool) (a : Nat) : Int := if s then -(a : Int) - 1 else a
theorem dec_surj (x : Int) : ∃ s a, x = dec s a := by
  by_cases h : 0 ≤ x
  · exact ⟨false, x.toNat, by unfold dec; simp; omega⟩
  · exact ⟨true, (-x - 1).toNat, by unfold dec; simp; omega⟩
theorem bitXor_dec (s t : Bool) (a b : Nat) : Builtin.bitXor (dec s a) (dec t b) = dec (s ^^ t) (a ^^^ b) := by
  have h := xor_add a b
  have h2 := or_add a b
  rw [bitXor_and]
  have hn : ∀ c : Nat, Builtin.bitNot (-(c : Int) - 1) = c := fun c => by unfold Builtin.bitNot; omega
  cases s <;> cases t <;> simp only [dec, Bool.xor_false, Bool.xor_true, Bool.false_xor, Bool.true_xor, Bool.not_true, Bool.not_false, if_true, if_false, Bool.false_eq_true]
  · unfold Builtin.bitAnd
    rw [decide_eq_true (by omega : (0 : Int) ≤ (a : Int)), decide_eq_true (by omega : (0 : Int) ≤ (b : Int))]
    simp only [Int.toNat_natCast]; omega
  · unfold Builtin.bitAnd
    rw [decide_eq_true (by omega : (0 : Int) ≤ (a : Int)), decide_eq_false (by omega : ¬ (0 : Int) ≤ -(b : Int) - 1)]
    simp only [hn, Int.toNat_natCast]; omega
  · unfold Builtin.bitAnd
    rw [decide_eq_false (by omega : ¬ (0 : Int) ≤ -(a : Int) - 1), decide_eq_true (by omega : (0 : Int) ≤ (b : Int))]
    have := Nat.and_comm a b
    simp only [hn, Int.toNat_natCast]; omega
  · unfold Builtin.bitAnd
    rw [decide_eq_false (by omega : ¬ (0 : Int) ≤ -(a : Int) - 1), decide_eq_false (by omega : ¬ (0 : Int) ≤ -(b : Int) - 1)]
    simp only [hn, Int.toNat_natCast]; unfold Builtin.bitNot; omega
theorem bitXor_assoc (x y z : Int) : Builtin.bitXor (Builtin.bitXor x y) z = Builtin.bitXor x (Builtin.bitXor y z) := by
  obtain ⟨s, a, rfl⟩ := dec_surj x
  obtain ⟨t, b, rfl⟩ := dec_surj y
  obtain ⟨u, c, rfl⟩ := dec_surj z
  rw [bitXor_dec, bitXor_dec, bitXor_dec, bitXor_dec, Nat.xor_assoc, Bool.xor_assoc]
theorem bitXor_comm (x y : Int) : Builtin.bitXor x y = Builtin.bitXor y x := by
  obtain ⟨s, a, rfl⟩ := dec_surj x
  obtain ⟨t, b, rfl⟩ := dec_surj y
  rw [bitXor_dec, bitXor_dec, Nat.xor_comm, Bool.xor_comm]
end Mine

namespace Mine
theorem wdDoubled_0 : True := by
  k_with_none
  k_with "my enter" => (refine' code_defS ?k1 ?k2 ?k3 ?k4 ?kO ?kD ?k5 ?kA ?kF ?kK ?k6 ?k7 ?k8 ?k9 ?kB ?_ ?c2 ?c3 ?c4 ?c5; (case kA => exact rfl); (case kF => exact rfl); (case kK => assumption); (case kD => assumption); (case k1 => k_asm); (case k2 => k_asm); (case k3 => k_asm); (case k4 => assumption); (case kO => assumption); (case k5 => k_asm); (case k6 => k_is); (case k7 => k_is); (case k8 => ktr_room); (case k9 => first | k_extra "my binds" | exact BindsTo.of_eq rfl); (case c5 => decide); (case kB => exact locs rfl); (case c2 => exact rfl); (case c3 => exact rfl); (case c4 => exact rfl); k_whole; intro g' L' h' FG' F' N' B' X' T' lN' lO'; (try dsimp only); (try k_lift B'); (try k_fold))
  k_with "my sub" => repeat (first | exact sub_nil | refine sub_cons (by k_mem) ?_)
  k_with "my spec" => ((case k1 => k_asm); (case k2 => k_asm); (case k3 => k_asm); (case k4 => k_asm); (case k5 => k_asm); (case k6 => exact rfl); (case k7 => ktr_room); (case k8 => ktr_units); (case h1 => k_extra "my sub"); (case h2 => k_extra "my sub"); (case h3 => k_extra "my dis"); k_whole)
  k_with "my enterC" => (refine' code_defCS ?k1 ?k2 ?k3 ?k4 ?kO ?kQ ?k5 ?kA ?kF ?kK ?k6 ?k7 ?k8 ?k9 ?kB ?kD ?_ ?c2 ?c3 ?c4; (case kA => exact rfl); (case kF => exact rfl); (case kK => assumption); (case kQ => assumption); (case k1 => k_asm); (case k2 => k_asm); (case k3 => k_asm); (case k4 => assumption); (case kO => assumption); (case k5 => k_asm); (case k6 => k_is); (case k7 => k_is); (case k8 => ktr_room); (case k9 => first | k_extra "my binds" | exact BindsTo.of_eq rfl); (case kB => exact rfl); (case kD => decide +kernel); (case c2 => exact rfl); (case c3 => exact rfl); (case c4 => exact rfl); k_whole; intro g' L' h' tk' cells' FG' F' N' Y' B' X' T' lN' lO'; (have l1' := lN'); (try k_lt l1'); k_cells Y'; (try simp only [List.cons_append, List.nil_append] at N'); (try dsimp only); (try k_lift B'); (try k_fold))
  k_with "my dis" => (refine dis_of ?_; dsimp only [DisL, OffL]; ((repeat' first | exact True.intro | refine And.intro ?_ ?_) <;> first | k_extra "ne" | omega))
  k_with "my nel" => (dsimp only [NeL]; ((repeat' first | exact True.intro | refine And.intro ?_ ?_) <;> first | k_extra "ne" | omega))
  k_with "k ne" => (refine neN ?_; (try dsimp only); k_extra "ne")
  k_with "ne" => (first | with_reducible assumption | exact Nat.ne_of_lt (by with_reducible assumption) | exact Nat.ne_of_gt (by with_reducible assumption) | exact Ne.symm (by with_reducible assumption) | ((repeat (rename (_ < _ ∧ _) => qz; first | (refine ne_r qz ?_; first | exact qz.1 | exact qz.2.1 | exact qz.2.2.1 | exact qz.2.2.2.1 | exact qz.2.2.2.2.1 | exact qz.2.2.2.2.2.1 | exact qz.2.2.2.2.2.2.1 | exact qz.2.2.2.2.2.2.2.1 | exact qz.2.2.2.2.2.2.2.2.1 | exact qz.2.2.2.2.2.2.2.2.2.1 | exact qz.2.2.2.2.2.2.2.2.2.2.1 | exact qz.2.2.2.2.2.2.2.2.2.2.2.1 | exact qz.2.2.2.2.2.2.2.2.2.2.2.2.1 | exact qz.2.2.2.2.2.2.2.2.2.2.2.2.2.1 | exact qz.2.2.2.2.2.2.2.2.2.2.2.2.2.2.1 | exact qz.2.2.2.2.2.2.2.2.2.2.2.2.2.2.2.1 | exact qz.2.2.2.2.2.2.2.2.2.2.2.2.2.2.2.2.1 | exact qz.2.2.2.2.2.2.2.2.2.2.2.2.2.2.2.2.2.1) | (refine ne_l qz ?_; first | exact qz.1 | exact qz.2.1 | exact qz.2.2.1 | exact qz.2.2.2.1 | exact qz.2.2.2.2.1 | exact qz.2.2.2.2.2.1 | exact qz.2.2.2.2.2.2.1 | exact qz.2.2.2.2.2.2.2.1 | exact qz.2.2.2.2.2.2.2.2.1 | exact qz.2.2.2.2.2.2.2.2.2.1 | exact qz.2.2.2.2.2.2.2.2.2.2.1 | exact qz.2.2.2.2.2.2.2.2.2.2.2.1 | exact qz.2.2.2.2.2.2.2.2.2.2.2.2.1 | exact qz.2.2.2.2.2.2.2.2.2.2.2.2.2.1 | exact qz.2.2.2.2.2.2.2.2.2.2.2.2.2.2.1 | exact qz.2.2.2.2.2.2.2.2.2.2.2.2.2.2.2.1 | exact qz.2.2.2.2.2.2.2.2.2.2.2.2.2.2.2.2.1 | exact qz.2.2.2.2.2.2.2.2.2.2.2.2.2.2.2.2.2.1) | clear qz)); done) | k_extra "ne cells" | k_extra "ne one" | k_extra "ne off" | k_extra "ne up")
  k_with "ne cells" => (first | exact ne_off (i := 0) (j := 1) rfl | exact ne_off (i := 0) (j := 2) rfl | exact ne_off (i := 0) (j := 3) rfl | exact ne_off (i := 0) (j := 4) rfl | exact ne_off (i := 1) (j := 0) rfl | exact ne_off (i := 1) (j := 2) rfl | exact ne_off (i := 1) (j := 3) rfl | exact ne_off (i := 1) (j := 4) rfl | exact ne_off (i := 2) (j := 0) rfl | exact ne_off (i := 2) (j := 1) rfl | exact ne_off (i := 2) (j := 3) rfl | exact ne_off (i := 2) (j := 4) rfl | exact ne_off (i := 3) (j := 0) rfl | exact ne_off (i := 3) (j := 1) rfl | exact ne_off (i := 3) (j := 2) rfl | exact ne_off (i := 3) (j := 4) rfl | exact ne_off (i := 4) (j := 0) rfl | exact ne_off (i := 4) (j := 1) rfl | exact ne_off (i := 4) (j := 2) rfl | exact ne_off (i := 4) (j := 3) rfl)
  k_with "ne up" => (first | exact Nat.ne_of_lt (lt_up1 (by with_reducible assumption)) | exact Nat.ne_of_gt (lt_up1 (by with_reducible assumption)) | exact Nat.ne_of_lt (lt_up2 (by with_reducible assumption)) | exact Nat.ne_of_gt (lt_up2 (by with_reducible assumption)) | exact Nat.ne_of_lt (lt_up3 (by with_reducible assumption)) | exact Nat.ne_of_gt (lt_up3 (by with_reducible assumption)) | exact Nat.ne_of_lt (lt_up4 (by with_reducible assumption)) | exact Nat.ne_of_gt (lt_up4 (by with_reducible assumption)) | ((repeat (rename (_ < _ ∧ _) => qz; first | (refine ne_r1 qz ?_; first | exact qz.1 | exact qz.2.1 | exact qz.2.2.1 | exact qz.2.2.2.1 | exact qz.2.2.2.2.1 | exact qz.2.2.2.2.2.1 | exact qz.2.2.2.2.2.2.1 | exact qz.2.2.2.2.2.2.2.1 | exact qz.2.2.2.2.2.2.2.2.1 | exact qz.2.2.2.2.2.2.2.2.2.1 | exact qz.2.2.2.2.2.2.2.2.2.2.1 | exact qz.2.2.2.2.2.2.2.2.2.2.2.1 | exact qz.2.2.2.2.2.2.2.2.2.2.2.2.1 | exact qz.2.2.2.2.2.2.2.2.2.2.2.2.2.1 | exact qz.2.2.2.2.2.2.2.2.2.2.2.2.2.2.1 | exact qz.2.2.2.2.2.2.2.2.2.2.2.2.2.2.2.1 | exact qz.2.2.2.2.2.2.2.2.2.2.2.2.2.2.2.2.1 | exact qz.2.2.2.2.2.2.2.2.2.2.2.2.2.2.2.2.2.1) | (refine ne_l1 qz ?_; first | exact qz.1 | exact qz.2.1 | exact qz.2.2.1 | exact qz.2.2.2.1 | exact qz.2.2.2.2.1 | exact qz.2.2.2.2.2.1 | exact qz.2.2.2.2.2.2.1 | exact qz.2.2.2.2.2.2.2.1 | exact qz.2.2.2.2.2.2.2.2.1 | exact qz.2.2.2.2.2.2.2.2.2.1 | exact qz.2.2.2.2.2.2.2.2.2.2.1 | exact qz.2.2.2.2.2.2.2.2.2.2.2.1 | exact qz.2.2.2.2.2.2.2.2.2.2.2.2.1 | exact qz.2.2.2.2.2.2.2.2.2.2.2.2.2.1 | exact qz.2.2.2.2.2.2.2.2.2.2.2.2.2.2.1 | exact qz.2.2.2.2.2.2.2.2.2.2.2.2.2.2.2.1 | exact qz.2.2.2.2.2.2.2.2.2.2.2.2.2.2.2.2.1 | exact qz.2.2.2.2.2.2.2.2.2.2.2.2.2.2.2.2.2.1) | (refine ne_r2 qz ?_; first | exact qz.1 | exact qz.2.1 | exact qz.2.2.1 | exact qz.2.2.2.1 | exact qz.2.2.2.2.1 | exact qz.2.2.2.2.2.1 | exact qz.2.2.2.2.2.2.1 | exact qz.2.2.2.2.2.2.2.1 | exact qz.2.2.2.2.2.2.2.2.1 | exact qz.2.2.2.2.2.2.2.2.2.1 | exact qz.2.2.2.2.2.2.2.2.2.2.1 | exact qz.2.2.2.2.2.2.2.2.2.2.2.1 | exact qz.2.2.2.2.2.2.2.2.2.2.2.2.1 | exact qz.2.2.2.2.2.2.2.2.2.2.2.2.2.1 | exact qz.2.2.2.2.2.2.2.2.2.2.2.2.2.2.1 | exact qz.2.2.2.2.2.2.2.2.2.2.2.2.2.2.2.1 | exact qz.2.2.2.2.2.2.2.2.2.2.2.2.2.2.2.2.1 | exact qz.2.2.2.2.2.2.2.2.2.2.2.2.2.2.2.2.2.1) | (refine ne_l2 qz ?_; first | exact qz.1 | exact qz.2.1 | exact qz.2.2.1 | exact qz.2.2.2.1 | exact qz.2.2.2.2.1 | exact qz.2.2.2.2.2.1 | exact qz.2.2.2.2.2.2.1 | exact qz.2.2.2.2.2.2.2.1 | exact qz.2.2.2.2.2.2.2.2.1 | exact qz.2.2.2.2.2.2.2.2.2.1 | exact qz.2.2.2.2.2.2.2.2.2.2.1 | exact qz.2.2.2.2.2.2.2.2.2.2.2.1 | exact qz.2.2.2.2.2.2.2.2.2.2.2.2.1 | exact qz.2.2.2.2.2.2.2.2.2.2.2.2.2.1 | exact qz.2.2.2.2.2.2.2.2.2.2.2.2.2.2.1 | exact qz.2.2.2.2.2.2.2.2.2.2.2.2.2.2.2.1 | exact qz.2.2.2.2.2.2.2.2.2.2.2.2.2.2.2.2.1 | exact qz.2.2.2.2.2.2.2.2.2.2.2.2.2.2.2.2.2.1) | (refine ne_r3 qz ?_; first | exact qz.1 | exact qz.2.1 | exact qz.2.2.1 | exact qz.2.2.2.1 | exact qz.2.2.2.2.1 | exact qz.2.2.2.2.2.1 | exact qz.2.2.2.2.2.2.1 | exact qz.2.2.2.2.2.2.2.1 | exact qz.2.2.2.2.2.2.2.2.1 | exact qz.2.2.2.2.2.2.2.2.2.1 | exact qz.2.2.2.2.2.2.2.2.2.2.1 | exact qz.2.2.2.2.2.2.2.2.2.2.2.1 | exact qz.2.2.2.2.2.2.2.2.2.2.2.2.1 | exact qz.2.2.2.2.2.2.2.2.2.2.2.2.2.1 | exact qz.2.2.2.2.2.2.2.2.2.2.2.2.2.2.1 | exact qz.2.2.2.2.2.2.2.2.2.2.2.2.2.2.2.1 | exact qz.2.2.2.2.2.2.2.2.2.2.2.2.2.2.2.2.1 | exact qz.2.2.2.2.2.2.2.2.2.2.2.2.2.2.2.2.2.1) | (refine ne_l3 qz ?_; first | exact qz.1 | exact qz.2.1 | exact qz.2.2.1 | exact qz.2.2.2.1 | exact qz.2.2.2.2.1 | exact qz.2.2.2.2.2.1 | exact qz.2.2.2.2.2.2.1 | exact qz.2.2.2.2.2.2.2.1 | exact qz.2.2.2.2.2.2.2.2.1 | exact qz.2.2.2.2.2.2.2.2.2.1 | exact qz.2.2.2.2.2.2.2.2.2.2.1 | exact qz.2.2.2.2.2.2.2.2.2.2.2.1 | exact qz.2.2.2.2.2.2.2.2.2.2.2.2.1 | exact qz.2.2.2.2.2.2.2.2.2.2.2.2.2.1 | exact qz.2.2.2.2.2.2.2.2.2.2.2.2.2.2.1 | exact qz.2.2.2.2.2.2.2.2.2.2.2.2.2.2.2.1 | exact qz.2.2.2.2.2.2.2.2.2.2.2.2.2.2.2.2.1 | exact qz.2.2.2.2.2.2.2.2.2.2.2.2.2.2.2.2.2.1) | (refine ne_r4 qz ?_; first | exact qz.1 | exact qz.2.1 | exact qz.2.2.1 | exact qz.2.2.2.1 | exact qz.2.2.2.2.1 | exact qz.2.2.2.2.2.1 | exact qz.2.2.2.2.2.2.1 | exact qz.2.2.2.2.2.2.2.1 | exact qz.2.2.2.2.2.2.2.2.1 | exact qz.2.2.2.2.2.2.2.2.2.1 | exact qz.2.2.2.2.2.2.2.2.2.2.1 | exact qz.2.2.2.2.2.2.2.2.2.2.2.1 | exact qz.2.2.2.2.2.2.2.2.2.2.2.2.1 | exact qz.2.2.2.2.2.2.2.2.2.2.2.2.2.1 | exact qz.2.2.2.2.2.2.2.2.2.2.2.2.2.2.1 | exact qz.2.2.2.2.2.2.2.2.2.2.2.2.2.2.2.1 | exact qz.2.2.2.2.2.2.2.2.2.2.2.2.2.2.2.2.1 | exact qz.2.2.2.2.2.2.2.2.2.2.2.2.2.2.2.2.2.1) | (refine ne_l4 qz ?_; first | exact qz.1 | exact qz.2.1 | exact qz.2.2.1 | exact qz.2.2.2.1 | exact qz.2.2.2.2.1 | exact qz.2.2.2.2.2.1 | exact qz.2.2.2.2.2.2.1 | exact qz.2.2.2.2.2.2.2.1 | exact qz.2.2.2.2.2.2.2.2.1 | exact qz.2.2.2.2.2.2.2.2.2.1 | exact qz.2.2.2.2.2.2.2.2.2.2.1 | exact qz.2.2.2.2.2.2.2.2.2.2.2.1 | exact qz.2.2.2.2.2.2.2.2.2.2.2.2.1 | exact qz.2.2.2.2.2.2.2.2.2.2.2.2.2.1 | exact qz.2.2.2.2.2.2.2.2.2.2.2.2.2.2.1 | exact qz.2.2.2.2.2.2.2.2.2.2.2.2.2.2.2.1 | exact qz.2.2.2.2.2.2.2.2.2.2.2.2.2.2.2.2.1 | exact qz.2.2.2.2.2.2.2.2.2.2.2.2.2.2.2.2.2.1) | clear qz)); done))
  k_with "execs cons" => k_fold
  k_with "exec Assign" => k_fold
  k_with "exec If" => k_fold
  k_with "exec AugAssign" => k_fold
  k_with "my looks" => (repeat' first | exact True.intro | (refine And.intro ?_ ?_) | with_unfolding_all rfl)
  k_with "ne off" => ((repeat (rename (LCg.Off3 _ _ _ _) => qo; first | exact qo.1.1 | exact Ne.symm qo.1.1 | exact qo.1.2.1 | exact Ne.symm qo.1.2.1 | exact qo.1.2.2 | exact Ne.symm qo.1.2.2 | exact qo.2.1.1 | exact Ne.symm qo.2.1.1 | exact qo.2.1.2.1 | exact Ne.symm qo.2.1.2.1 | exact qo.2.1.2.2 | exact Ne.symm qo.2.1.2.2 | exact qo.2.2.1.1 | exact Ne.symm qo.2.2.1.1 | exact qo.2.2.1.2.1 | exact Ne.symm qo.2.2.1.2.1 | exact qo.2.2.1.2.2 | exact Ne.symm qo.2.2.1.2.2 | exact qo.2.2.2.1.1 | exact Ne.symm qo.2.2.2.1.1 | exact qo.2.2.2.1.2.1 | exact Ne.symm qo.2.2.2.1.2.1 | exact qo.2.2.2.1.2.2 | exact Ne.symm qo.2.2.2.1.2.2 | exact qo.2.2.2.2.1.1 | exact Ne.symm qo.2.2.2.2.1.1 | exact qo.2.2.2.2.1.2.1 | exact Ne.symm qo.2.2.2.2.1.2.1 | exact qo.2.2.2.2.1.2.2 | exact Ne.symm qo.2.2.2.2.1.2.2 | exact qo.2.2.2.2.2.1.1 | exact Ne.symm qo.2.2.2.2.2.1.1 | exact qo.2.2.2.2.2.1.2.1 | exact Ne.symm qo.2.2.2.2.2.1.2.1 | exact qo.2.2.2.2.2.1.2.2 | exact Ne.symm qo.2.2.2.2.2.1.2.2 | exact qo.2.2.2.2.2.2.1.1 | exact Ne.symm qo.2.2.2.2.2.2.1.1 | exact qo.2.2.2.2.2.2.1.2.1 | exact Ne.symm qo.2.2.2.2.2.2.1.2.1 | exact qo.2.2.2.2.2.2.1.2.2 | exact Ne.symm qo.2.2.2.2.2.2.1.2.2 | exact qo.2.2.2.2.2.2.2.1.1 | exact Ne.symm qo.2.2.2.2.2.2.2.1.1 | exact qo.2.2.2.2.2.2.2.1.2.1 | exact Ne.symm qo.2.2.2.2.2.2.2.1.2.1 | exact qo.2.2.2.2.2.2.2.1.2.2 | exact Ne.symm qo.2.2.2.2.2.2.2.1.2.2 | exact qo.2.2.2.2.2.2.2.2.1.1 | exact Ne.symm qo.2.2.2.2.2.2.2.2.1.1 | exact qo.2.2.2.2.2.2.2.2.1.2.1 | exact Ne.symm qo.2.2.2.2.2.2.2.2.1.2.1 | exact qo.2.2.2.2.2.2.2.2.1.2.2 | exact Ne.symm qo.2.2.2.2.2.2.2.2.1.2.2 | exact qo.2.2.2.2.2.2.2.2.2.1.1 | exact Ne.symm qo.2.2.2.2.2.2.2.2.2.1.1 | exact qo.2.2.2.2.2.2.2.2.2.1.2.1 | exact Ne.symm qo.2.2.2.2.2.2.2.2.2.1.2.1 | exact qo.2.2.2.2.2.2.2.2.2.1.2.2 | exact Ne.symm qo.2.2.2.2.2.2.2.2.2.1.2.2 | exact qo.2.2.2.2.2.2.2.2.2.2.1.1 | exact Ne.symm qo.2.2.2.2.2.2.2.2.2.2.1.1 | exact qo.2.2.2.2.2.2.2.2.2.2.1.2.1 | exact Ne.symm qo.2.2.2.2.2.2.2.2.2.2.1.2.1 | exact qo.2.2.2.2.2.2.2.2.2.2.1.2.2 | exact Ne.symm qo.2.2.2.2.2.2.2.2.2.2.1.2.2 | exact qo.2.2.2.2.2.2.2.2.2.2.2.1.1 | exact Ne.symm qo.2.2.2.2.2.2.2.2.2.2.2.1.1 | exact qo.2.2.2.2.2.2.2.2.2.2.2.1.2.1 | exact Ne.symm qo.2.2.2.2.2.2.2.2.2.2.2.1.2.1 | exact qo.2.2.2.2.2.2.2.2.2.2.2.1.2.2 | exact Ne.symm qo.2.2.2.2.2.2.2.2.2.2.2.1.2.2 | exact qo.2.2.2.2.2.2.2.2.2.2.2.2.1.1 | exact Ne.symm qo.2.2.2.2.2.2.2.2.2.2.2.2.1.1 | exact qo.2.2.2.2.2.2.2.2.2.2.2.2.1.2.1 | exact Ne.symm qo.2.2.2.2.2.2.2.2.2.2.2.2.1.2.1 | exact qo.2.2.2.2.2.2.2.2.2.2.2.2.1.2.2 | exact Ne.symm qo.2.2.2.2.2.2.2.2.2.2.2.2.1.2.2 | exact qo.2.2.2.2.2.2.2.2.2.2.2.2.2.1.1 | exact Ne.symm qo.2.2.2.2.2.2.2.2.2.2.2.2.2.1.1 | exact qo.2.2.2.2.2.2.2.2.2.2.2.2.2.1.2.1 | exact Ne.symm qo.2.2.2.2.2.2.2.2.2.2.2.2.2.1.2.1 | exact qo.2.2.2.2.2.2.2.2.2.2.2.2.2.1.2.2 | exact Ne.symm qo.2.2.2.2.2.2.2.2.2.2.2.2.2.1.2.2 | exact qo.2.2.2.2.2.2.2.2.2.2.2.2.2.2.1.1 | exact Ne.symm qo.2.2.2.2.2.2.2.2.2.2.2.2.2.2.1.1 | exact qo.2.2.2.2.2.2.2.2.2.2.2.2.2.2.1.2.1 | exact Ne.symm qo.2.2.2.2.2.2.2.2.2.2.2.2.2.2.1.2.1 | exact qo.2.2.2.2.2.2.2.2.2.2.2.2.2.2.1.2.2 | exact Ne.symm qo.2.2.2.2.2.2.2.2.2.2.2.2.2.2.1.2.2 | exact qo.2.2.2.2.2.2.2.2.2.2.2.2.2.2.2.1.1 | exact Ne.symm qo.2.2.2.2.2.2.2.2.2.2.2.2.2.2.2.1.1 | exact qo.2.2.2.2.2.2.2.2.2.2.2.2.2.2.2.1.2.1 | exact Ne.symm qo.2.2.2.2.2.2.2.2.2.2.2.2.2.2.2.1.2.1 | exact qo.2.2.2.2.2.2.2.2.2.2.2.2.2.2.2.1.2.2 | exact Ne.symm qo.2.2.2.2.2.2.2.2.2.2.2.2.2.2.2.1.2.2 | exact qo.2.2.2.2.2.2.2.2.2.2.2.2.2.2.2.2.1.1 | exact Ne.symm qo.2.2.2.2.2.2.2.2.2.2.2.2.2.2.2.2.1.1 | exact qo.2.2.2.2.2.2.2.2.2.2.2.2.2.2.2.2.1.2.1 | exact Ne.symm qo.2.2.2.2.2.2.2.2.2.2.2.2.2.2.2.2.1.2.1 | exact qo.2.2.2.2.2.2.2.2.2.2.2.2.2.2.2.2.1.2.2 | exact Ne.symm qo.2.2.2.2.2.2.2.2.2.2.2.2.2.2.2.2.1.2.2 | clear qo)); done)
  k_with "lt" => (first | with_reducible assumption | ((repeat (rename (_ < _ ∧ _) => qz; first | exact qz.1 | exact qz.2.1 | exact qz.2.2.1 | exact qz.2.2.2.1 | exact qz.2.2.2.2.1 | exact qz.2.2.2.2.2.1 | exact qz.2.2.2.2.2.2.1 | exact qz.2.2.2.2.2.2.2.1 | exact qz.2.2.2.2.2.2.2.2.1 | exact qz.2.2.2.2.2.2.2.2.2.1 | exact qz.2.2.2.2.2.2.2.2.2.2.1 | exact qz.2.2.2.2.2.2.2.2.2.2.2.1 | exact qz.2.2.2.2.2.2.2.2.2.2.2.2.1 | exact qz.2.2.2.2.2.2.2.2.2.2.2.2.2.1 | exact qz.2.2.2.2.2.2.2.2.2.2.2.2.2.2.1 | exact qz.2.2.2.2.2.2.2.2.2.2.2.2.2.2.2.1 | exact qz.2.2.2.2.2.2.2.2.2.2.2.2.2.2.2.2.1 | exact qz.2.2.2.2.2.2.2.2.2.2.2.2.2.2.2.2.2.1 | clear qz)); done))
  k_with "ne one" => ((repeat (rename (_ ≠ _ ∧ _) => qo; first | exact qo.1 | exact Ne.symm qo.1 | exact qo.2.1 | exact Ne.symm qo.2.1 | exact qo.2.2.1 | exact Ne.symm qo.2.2.1 | exact qo.2.2.2.1 | exact Ne.symm qo.2.2.2.1 | exact qo.2.2.2.2.1 | exact Ne.symm qo.2.2.2.2.1 | exact qo.2.2.2.2.2.1 | exact Ne.symm qo.2.2.2.2.2.1 | exact qo.2.2.2.2.2.2.1 | exact Ne.symm qo.2.2.2.2.2.2.1 | exact qo.2.2.2.2.2.2.2.1 | exact Ne.symm qo.2.2.2.2.2.2.2.1 | exact qo.2.2.2.2.2.2.2.2.1 | exact Ne.symm qo.2.2.2.2.2.2.2.2.1 | exact qo.2.2.2.2.2.2.2.2.2.1 | exact Ne.symm qo.2.2.2.2.2.2.2.2.2.1 | exact qo.2.2.2.2.2.2.2.2.2.2.1 | exact Ne.symm qo.2.2.2.2.2.2.2.2.2.2.1 | exact qo.2.2.2.2.2.2.2.2.2.2.2.1 | exact Ne.symm qo.2.2.2.2.2.2.2.2.2.2.2.1 | exact qo.2.2.2.2.2.2.2.2.2.2.2.2.1 | exact Ne.symm qo.2.2.2.2.2.2.2.2.2.2.2.2.1 | exact qo.2.2.2.2.2.2.2.2.2.2.2.2.2.1 | exact Ne.symm qo.2.2.2.2.2.2.2.2.2.2.2.2.2.1 | exact qo.2.2.2.2.2.2.2.2.2.2.2.2.2.2.1 | exact Ne.symm qo.2.2.2.2.2.2.2.2.2.2.2.2.2.2.1 | exact qo.2.2.2.2.2.2.2.2.2.2.2.2.2.2.2.1 | exact Ne.symm qo.2.2.2.2.2.2.2.2.2.2.2.2.2.2.2.1 | exact qo.2.2.2.2.2.2.2.2.2.2.2.2.2.2.2.2.1 | exact Ne.symm qo.2.2.2.2.2.2.2.2.2.2.2.2.2.2.2.2.1 | clear qo)); done)
  trivial
set_option maxRecDepth 100000

noncomputable def Stop2 (P : Prop) : Prop := P
theorem stop2 {P : Prop} (h : Stop2 P) : P := h
noncomputable abbrev FrMap2 {h₀ h : Heap} {L : Addr} {m : Str → Option Value} (_ : Fr h₀ L h m) : Str → Option Value := m
theorem wdDoubled_30 : True := by
  k_with "pyIter ref" => (k_here; refine stop2 ?_)
  trivial
theorem wdDoubled_31 : True := by
  k_with "Exists" => (k_here; refine stop2 ?_)
  trivial
theorem wdDoubled_32 : True := by
  k_with "newList" => (k_here; k_dflt (refine' newList_L (by k_asm) (by k_asm) ?hsz ?_; (case hsz => size_fits); k_whole); intro _ _ _ _ l1z _; (try k_lt l1z); (revert l1z; intro _))
  trivial

theorem wdDoubled_33 : True := by
  k_with "binaryOp Add ref ref" => (k_here; (with_reducible show wpAny _ _ (binaryOp _ (Value.ref _) (Value.ref _)) _ _ _); k_dflt (refine' kmk_add_ints ?F ?N ?a ?b ?i ?j ?_ ?z; (case F => k_asm); (case N => k_asm); (case a => kmk_list); (case b => kmk_list); (case i => l_ints); (case j => l_ints); (case z => (rw [List.length_map]; exact Nat.le_trans (Nat.add_le_add hl hl) (by decide)))); intro D' ws' h' F' N' l1 hI'; (try k_lt l1))
  trivial

/-- the five numbers, the second and the fourth turned about -/
noncomputable def numI (n1 n2 n3 n4 n5 : Int) : Nat → Int
  | 0 => n1 | 1 => -1 - n2 | 2 => n3 | 3 => -1 - n4 | _ => n5
noncomputable def sumsI (n1 n2 n3 n4 n5 : Int) : Nat → List Int
  | 0 => [0]
  | i + 1 => sumsI n1 n2 n3 n4 n5 i ++ (sumsI n1 n2 n3 n4 n5 i).map fun one => Builtin.bitXor (numI n1 n2 n3 n4 n5 i) one

theorem all_ints9 {prog : Program} {w : World} {A : Around} {E : Value → Shared → Prop} {s : Shared} {h₀ : Heap} {L l : Addr} {m : Str → Option Value} {news : Led} {vs : List Value} {ns : List Int} {Q : Value → Shared → Prop} (F : Fr h₀ L s.heap m) (N : News h₀ L s.heap news) (hh : A.handled = none) (hl : s.heap.IsList l vs.toArray) (hb : IntsAre vs ns)
    (h : ∀ h' tk, Fr h₀ L h' m → News h₀ L h' news → Q (.bool (ns.all (· != 0))) { s with heap := h', toks := tk }) : wpAny (model prog w) A (call (.builtin "all") [.ref l]) Q E s := by
  have hlt : l < s.heap.objs.size := by obtain ⟨_, e, _⟩ := hl; exact Heap.lt_size e
  refine call_all_walk (wpAny_pyIter_list hl ?_)
  refine ⟨s.heap.objs.size, [s.heap.objs.size, l], [s.heap.objs.size], vs.toArray.size, _, _, fun i => ((ns.map (· != 0))[i]?).getD true, rfl, Walks.list (A := A.in1) hh _ l (Nat.ne_of_lt hlt) vs.toArray,
    ⟨⟨_, Heap.get?_push_size _ rfl, rfl, rfl⟩, hl.push _⟩, fun i v s' Q' E' hP hQ => ?_, fun h' tk hk => ?_⟩
  · obtain ⟨k, t, e, hk⟩ := IntsAre.at hb i v (by simpa using hP)
    subst e
    dsimp only at hQ
    rw [List.getElem?_map, hk] at hQ
    simp only [Option.map_some, Option.getD_some] at hQ
    exact truthy_int hQ
  · have e : ((List.range vs.toArray.size).all fun i => ((ns.map (· != 0))[i]?).getD true) = ns.all (· != 0) := by
      rw [List.size_toArray, hb.length, show ns.length = (ns.map (· != 0)).length from (List.length_map _).symm, LSm.range_all, List.all_map]; rfl
    rw [e]
    exact h h' tk (F.keeps (LSm.kept_iter hk)) (N.grown (LSm.kept_iter hk))
theorem wdDoubled_34 : True := by
  k_with "CompSrc" => (k_here; (have _hmm := hmanual); refine stop2 ?_)
  trivial
theorem wdDoubled_35 : True := by
  k_with "CompSrcT" => (k_here; (have _hmm := hmanual); refine stop2 ?_)
  trivial
theorem wdDoubled_36 : True := by
  k_with "call builtin:all" => (k_here; (with_reducible show wpAny _ _ (call (Value.builtin "all") [Value.ref _]) _ _ _); k_dflt (refine all_ints9 (by k_asm) (by k_asm) (by rfl) (by kmk_list) (by l_ints) ?_); intro h' tk' F' N')
  trivial
theorem wdDoubled_37 : True := by
  k_with "exec For Name Call cons nil" => (k_here; k_dflt (refine wpAny_For ?_))
  trivial

noncomputable abbrev natsI (l : List Nat) : List Int := l.map Int.ofNat
noncomputable def tbit (V x : Int) : Bool := Builtin.bitAnd (V.fdiv (2 ^ (Int.fmod x 37).toNat)) 1 != 0
/-- place is let by with all told -/
noncomputable def okP (V : Int) (S : List Int) (told : List Nat) (p : Nat) : Bool := told.all fun t => tbit V (S.getD (p ^^^ t) 0)
noncomputable def toldR (V : Int) (S : List Int) : Nat → List Nat
  | 0 => [0]
  | r + 1 => match (List.range' (2 ^ r) (2 ^ r)).find? (okP V S (toldR V S r)) with
    | some p => toldR V S r ++ (toldR V S r).map fun t => p ^^^ t
    | none => toldR V S r

theorem ok_eq (V : Int) (S : List Int) (told : List Nat) (p : Nat) : (((natsI told).map fun k => Builtin.bitAnd (V.fdiv (2 ^ (Int.fmod (S.getD (Builtin.bitXor (p : Int) k).toNat 0) 37).toNat)) 1).all fun x => x != 0) = okP V S told p := by
  simp only [natsI, List.all_map, okP]
  congr 1
  funext t
  show (Builtin.bitAnd (V.fdiv (2 ^ (Int.fmod (S.getD (Builtin.bitXor (p : Int) (t : Int)).toNat 0) 37).toNat)) 1 != 0) = _
  rw [bitXor_nat, Int.toNat_natCast]
  rfl
theorem find_first {f : Nat → Bool} {b i : Nat} (h : i < b) (h1 : (List.range' b i).find? f = none) (h2 : f (b + i) = true) : (List.range' b b).find? f = some (b + i) := by
  rw [show b = i + ((b - i - 1) + 1) from by omega]
  rw [show List.range' (i + ((b - i - 1) + 1)) (i + ((b - i - 1) + 1)) = List.range' b (i + ((b - i - 1) + 1)) from by rw [show i + ((b - i - 1) + 1) = b from by omega]]
  rw [← List.range'_append_1, List.find?_append, h1, List.range'_succ, List.find?_cons_of_pos h2]
  rw [show i + ((b - i - 1) + 1) = b from by omega]; rfl
theorem find_snoc {f : Nat → Bool} {b i : Nat} (h1 : (List.range' b i).find? f = none) (h2 : f (b + i) = false) : (List.range' b (i + 1)).find? f = none := by
  rw [← List.range'_append_1, List.find?_append, h1]
  simp [h2]
theorem toldR_some {V : Int} {S : List Int} {r p : Nat} (h : (List.range' (2 ^ r) (2 ^ r)).find? (okP V S (toldR V S r)) = some p) : toldR V S (r + 1) = toldR V S r ++ (toldR V S r).map fun t => p ^^^ t := by
  rw [toldR, h]
theorem toldR_none {V : Int} {S : List Int} {r : Nat} (h : (List.range' (2 ^ r) (2 ^ r)).find? (okP V S (toldR V S r)) = none) : toldR V S (r + 1) = toldR V S r := by
  rw [toldR, h]
theorem toldR_len (V : Int) (S : List Int) : ∀ r, (toldR V S r).length ≤ 2 ^ r ∧ ∀ x ∈ toldR V S r, x < 2 ^ r := by
  intro r
  induction r with
  | zero => exact ⟨Nat.le_refl _, fun x hx => by simp [toldR] at hx; subst hx; decide⟩
  | succ r ih =>
    unfold toldR
    have hp : 2 ^ (r + 1) = 2 ^ r + 2 ^ r := by rw [Nat.pow_succ]; omega
    split
    · rename_i p hf
      have hm := List.mem_of_find?_eq_some hf
      rw [List.mem_range'_1] at hm
      refine ⟨by rw [List.length_append, List.length_map]; omega, fun x hx => ?_⟩
      rcases List.mem_append.mp hx with hx | hx
      · have := ih.2 x hx; omega
      · obtain ⟨t, ht, rfl⟩ := List.mem_map.mp hx
        have := ih.2 t ht
        exact Nat.xor_lt_two_pow (by omega) (by omega)
    · exact ⟨by omega, fun x hx => by have := ih.2 x hx; omega⟩

/-- the frame's map, where rank may be anything -/
noncomputable abbrev dMap (u m9 : Str → Option Value) (v : Value) : Str → Option Value := fun y => if y = Str.ofString "told" then some v else if y = Str.ofString "rank" then u y else m9 y
theorem fr_dMap {h₀ h : Heap} {L : Addr} {m m9 : Str → Option Value} {v : Value} (F : Fr h₀ L h m) (h1 : m (Str.ofString "told") = some v) (h2 : ∀ z, z ≠ Str.ofString "told" → z ≠ Str.ofString "rank" → m z = m9 z) :
    Fr h₀ L h (dMap m m9 v) := by
  have e : dMap m m9 v = m := by
    funext y
    unfold dMap
    by_cases a : y = Str.ofString "told"
    · rw [if_pos a, a, h1]
    · rw [if_neg a]
      by_cases b : y = Str.ofString "rank"
      · rw [if_pos b]
      · rw [if_neg b, h2 y a b]
  rw [e]; exact F

theorem sumsI_len (n1 n2 n3 n4 n5 : Int) : ∀ i, (sumsI n1 n2 n3 n4 n5 i).length = 2 ^ i := by
  intro i
  induction i with
  | zero => rfl
  | succ i ih => rw [sumsI, List.length_append, List.length_map, ih, Nat.pow_succ]; omega

set_option maxHeartbeats 8000000 in
theorem doubled (w : World) (nl : Addr) (V n1 n2 n3 n4 n5 : Int) (tv u1 u2 u3 u4 u5 : Tok) (nn : Nat) (S : List Int) (hS : sumsI n1 n2 n3 n4 n5 5 = S) :
    FnSpec w 127 [.ref nl] [(nl, W.listOf #[.int V tv, .int n1 u1, .int n2 u2, .int n3 u3, .int n4 u4, .int n5 u5] nn)] 12 300
      (fun hi' v' n => ∃ (td : Addr) (tvs : List Value) (nN : List Int), n = [(td, LCg.lst tvs), (nl, W.listOf #[.int V tv, .int n1 u1, .int n2 u2, .int n3 u3, .int n4 u4, .int n5 u5] nn)] ∧ v' = .ref td ∧
        nN.Perm (natsI (toldR V S 5)) ∧ nN.Pairwise (· ≤ ·) ∧ IntsAre tvs (nN.foldl (fun l k => if k < 24 then l ++ [S.getD k.toNat 0] else l) [])) := by
  unfold FnSpec
  k_fill
  w_top off
  intro mean mg mb dp un gd cn cs a ccd cl outer A₀ base h₀ L m s Q others B F X N NO hdis T hk hd hu hret
  k_with "my binds" => exact BindsTo.of_eq (binds := [(Str.ofString "numbers", .ref nl)]) rfl
  k_dflt k_extra "my enterC"
  k_steps
  unfold Stop2
  (rename IsRange _ _ _ _ _ _ _ _ => hR); (rename Fr _ _ _ _ => F5); (rename News _ _ _ _ => N5)
  refine ri_start F5 N5 hR (by decide +kernel) ?_
  intro it hB F6 N6 l6
  k_lt l6
  (try k_unfold); (try dsimp only)
  rename_i oN oP x3 x4 dN dP e3 e4 q1z k1z tV y1 oV dV q2z k2z y1z sl y2 lL lS y3 oS y4 y5 dS y6 y7 y8 y9 y10 y11
  have dV : oV.data = Data.cell (some (Value.int V tV)) := dV
  refine codeAny_forLoop (fun n s' => ∃ (i : Nat) (sl2 : Addr) (svs : List Value) (nv : Nat) (o4 o3 o2 : Obj) (h : Heap) (tk : Nat), n = 5 - i ∧ i ≤ 5 ∧ IntsAre svs (sumsI n1 n2 n3 n4 n5 i) ∧ (∃ c, o4.data = .cell c) ∧ (∃ c, o3.data = .cell c) ∧ o2.data = .cell (some (.ref sl2)) ∧
    (@LT.lt Nat _ (L' + 1 + 1 + 1 + 1) sl2 ∧ @LT.lt Nat _ nl sl2 ∧ @LT.lt Nat _ L' sl2) ∧ @Ne Nat sl2 it ∧ s' = ⟨h, s.gens, s.drawn, tk, s.os⟩ ∧ Fr g' L' h (FrMap2 F5) ∧
    News g' L' h [(it, riObj (1 + (i : Int)) (5 - (i : Int))), (sl2, W.listOf svs.toArray nv), (L' + 1 + 1 + 1 + 1, o4), (L' + 1 + 1 + 1, o3), (L' + 1 + 1, o2), (L' + 1, oV), (nl, W.listOf #[.int V tv, .int n1 u1, .int n2 u2, .int n3 u3, .int n4 u4, .int n5 u5] nn)]) (fun n s' hs => ?_) 5 ?_
  · try k_fold
    obtain ⟨i, sl2, svs, nv, o4, o3, o2, h1, tk1, rfl, hi, hsv, ⟨c4, d4⟩, ⟨c3, d3⟩, d2, ⟨a1, a2, a3⟩, a4, rfl, F1, N1⟩ := hs
    by_cases hlast : i < 5
    · have hl : (sumsI n1 n2 n3 n4 n5 i).length ≤ 16 := by
        rw [sumsI_len]
        exact Nat.pow_le_pow_right (by decide) (by omega : i ≤ 4)
      have hsz : svs.toArray.size ≤ sizeLine := by
        rw [List.size_toArray, hsv.length]
        exact Nat.le_trans hl (by decide)
      refine ri_item F1 N1 (by k_updF) (by omega) ?_
      intro tq h4 tk4 F4 N4
      (try k_unfold); (try dsimp only at N4 ⊢)
      rw [riObj_next1] at N4
      generalize hp : (1 + (i : Int)) = p
      have hp1 : 1 ≤ p := by omega
      have hp5 : p ≤ 5 := by omega
      refine wpAny_assign_Name ?_
      k_steps
      · unfold Stop2
        (rename News _ _ _ _ => NC); (rename Fr _ _ _ _ => FC); (rename IntsAre _ _ => iC); (rename _ = Data.cell (some (Value.ref _)) => dC); (rename (Int.fmod _ _ ≠ _) => hfm)
        (try k_unfold); (try dsimp only)
        refine ⟨5 - (i + 1), sub_down hlast, i + 1, _, ?q1A, 0, ?q2A, ?q3A, _, _, _, rfl, hlast, ?b0A, ⟨?q4A, ?b6A⟩, ⟨?q5A, ?b7A⟩, dC, ⟨?b1A, ?b2A, ?b3A⟩, ?b4A, rfl, FC, ?b5A⟩
        case b5A => exact cb_drop NC (by k_extra "my sub")
        case b6A => assumption
        case b7A => assumption
        case b0A =>
          obtain rfl | rfl | rfl | rfl | rfl := lt_five hlast
          all_goals subst hp
          all_goals first
            | (exfalso; revert hfm; decide)
            | exact iC
        all_goals first | k_extra "lt" | k_extra "ne" | omega
      · unfold Stop2
        (rename News _ _ _ _ => NC); (rename Fr _ _ _ _ => FC); (rename IntsAre _ _ => iC); (rename _ = Data.cell (some (Value.ref _)) => dC); (rename (Int.fmod _ _ = _) => hfm)
        (try k_unfold); (try dsimp only)
        refine ⟨5 - (i + 1), sub_down hlast, i + 1, _, ?q1B, 0, ?q2B, ?q3B, _, _, _, rfl, hlast, ?b0B, ⟨?q4B, ?b6B⟩, ⟨?q5B, ?b7B⟩, dC, ⟨?b1B, ?b2B, ?b3B⟩, ?b4B, rfl, FC, ?b5B⟩
        case b5B => exact cb_drop NC (by k_extra "my sub")
        case b6B => assumption
        case b7B => assumption
        case b0B =>
          obtain rfl | rfl | rfl | rfl | rfl := lt_five hlast
          all_goals subst hp
          all_goals first
            | (exfalso; revert hfm; decide)
            | exact iC
        all_goals first | k_extra "lt" | k_extra "ne" | omega
    · obtain rfl : i = 5 := Nat.le_antisymm hi (Nat.le_of_not_lt hlast)
      refine ri_end rfl F1 N1 (by k_mem) (by omega) (rest := [(sl2, W.listOf svs.toArray nv), (L' + 1 + 1 + 1 + 1, o4), (L' + 1 + 1 + 1, o3), (L' + 1 + 1, o2), (L' + 1, oV), (nl, W.listOf #[.int V tv, .int n1 u1, .int n2 u2, .int n3 u3, .int n4 u4, .int n5 u5] nn)]) (by k_extra "my sub") (ne_of (by k_extra "my nel")) ?_
      intro h2 F2 N2
      (try k_unfold); (try dsimp only)
      k_steps
      unfold Stop2
      (rename IsRange _ _ _ _ _ _ _ _ => hR2); (rename Fr _ _ _ _ => FA); (rename News _ _ _ _ => NA)
      rename_i td _ lL9 l19 _ _ _ _ _ _ _ _ _
      rw [hS] at hsv
      have hSl : S.length = 32 := by rw [← hS, sumsI_len]
      refine ri_start FA NA hR2 (by decide +kernel) ?_
      intro it2 hB2 FB NB lB
      k_lt lB
      (try k_unfold); (try dsimp only)
      refine codeAny_forLoop (fun n s' => ∃ (r : Nat) (tvs : List Value) (nt : Nat) (td2 : Addr) (o4 o3 : Obj) (u : Str → Option Value) (h : Heap) (tk : Nat), n = 5 - r ∧ r ≤ 5 ∧ IntsAre tvs (natsI (toldR V S r)) ∧ (∃ c, o4.data = .cell c) ∧ (∃ c, o3.data = .cell c) ∧
        (@LT.lt Nat _ (L' + 1 + 1 + 1 + 1) td2 ∧ @LT.lt Nat _ nl td2 ∧ @Ne Nat td2 sl2 ∧ @Ne Nat td2 it2) ∧ s' = ⟨h, s.gens, s.drawn, tk, s.os⟩ ∧ Fr g' L' h (dMap u (FrMap2 F5) (.ref td2)) ∧
        News g' L' h [(it2, riObj (r : Int) (5 - (r : Int))), (td2, W.listOf tvs.toArray nt), (sl2, W.listOf svs.toArray nv), (L' + 1 + 1 + 1 + 1, o4), (L' + 1 + 1 + 1, o3), (L' + 1 + 1, o2), (L' + 1, oV), (nl, W.listOf #[.int V tv, .int n1 u1, .int n2 u2, .int n3 u3, .int n4 u4, .int n5 u5] nn)]) (fun n s' hs => ?_) 5 ?_
      · try k_fold
        obtain ⟨r, tvs, nt, td2, o42, o32, u2', h12, tk12, rfl, hr5, hti, ⟨c42, d42⟩, ⟨c32, d32⟩, ⟨b1, b2, b3, b4⟩, rfl, F12, N12⟩ := hs
        by_cases hlast2 : r < 5
        · have hln : ∀ r, (toldR V S r).length ≤ 2 ^ r ∧ ∀ x ∈ toldR V S r, x < 2 ^ r := toldR_len V S
          have hl : (natsI (toldR V S r)).length ≤ 16 := by
            rw [List.length_map]
            exact Nat.le_trans (hln r).1 (Nat.pow_le_pow_right (by decide) (by omega : r ≤ 4))
          have hmem : ∀ x ∈ toldR V S r, x < 2 ^ r := (hln r).2
          have hsome : ∀ p, (List.range' (2 ^ r) (2 ^ r)).find? (okP V S (toldR V S r)) = some p → toldR V S (r + 1) = toldR V S r ++ (toldR V S r).map fun t => p ^^^ t := fun p h => toldR_some h
          have hnone : (List.range' (2 ^ r) (2 ^ r)).find? (okP V S (toldR V S r)) = none → toldR V S (r + 1) = toldR V S r := fun h => toldR_none h
          generalize hT : toldR V S r = told at hti hl hmem hsome hnone
          refine ri_item F12 N12 (by k_updF) (by omega) ?_
          intro tq2 h42 tk42 F42 N42
          (try k_unfold); (try dsimp only at N42 ⊢)
          rw [riObj_next5] at N42
          refine wpAny_assign_Name ?_
          k_steps
          unfold Stop2
          (rename IsRange _ _ _ _ _ _ _ _ => hR3); (rename Fr _ _ _ _ => FD); (rename News _ _ _ _ => ND)
          have e1 : (2 : Int) ^ ((r : Int)).toNat = ((2 ^ r : Nat) : Int) := by simp
          have e2 : (2 : Int) ^ ((r : Int) + 1).toNat = ((2 ^ r : Nat) : Int) + ((2 ^ r : Nat) : Int) := by
            rw [show ((r : Int) + 1).toNat = r + 1 from by omega, Int.pow_succ]; simp; omega
          have hb16 : 2 ^ r ≤ 16 := Nat.pow_le_pow_right (by decide) (by omega : r ≤ 4)
          rw [e1, e2] at hR3
          generalize hb : 2 ^ r = b at hb16 hR3 hmem hsome hnone
          refine ri_start FD ND hR3 (small_one (by omega) (by omega) (by omega) (by omega)) ?_
          intro it3 hB3 FE NE lE
          k_lt lE
          rw [show Builtin.Range.rangeSize (b : Int) ((b : Int) + (b : Int)) 1 = (b : Int) from by rw [rangeSize_nat]; omega] at NE
          (try k_unfold); (try dsimp only)
          have hmanual : True := trivial
          have hti16 : tvs.toArray.size ≤ sizeLine := by
            rw [List.size_toArray, hti.length]
            exact Nat.le_trans hl (by decide)
          refine codeAny_forLoop (fun n s' => ∃ (i : Nat) (o3 : Obj) (h : Heap) (tk : Nat), n = b - i ∧ i ≤ b ∧ (List.range' b i).find? (okP V S told) = none ∧ (∃ c, o3.data = .cell c) ∧ s' = ⟨h, s.gens, s.drawn, tk, s.os⟩ ∧ Fr g' L' h (FrMap2 FD) ∧
            News g' L' h [(it3, riObj ((b : Int) + (i : Int)) ((b : Int) - (i : Int))), (it2, riObj (((r + 1 : Nat) : Int)) (5 - ((r + 1 : Nat) : Int))), (td2, W.listOf tvs.toArray nt), (sl2, W.listOf svs.toArray nv), (L' + 1 + 1 + 1 + 1, o42), (L' + 1 + 1 + 1, o3), (L' + 1 + 1, o2), (L' + 1, oV), (nl, W.listOf #[.int V tv, .int n1 u1, .int n2 u2, .int n3 u3, .int n4 u4, .int n5 u5] nn)]) (fun n s' hs => ?_) b ?_
          · try k_fold
            obtain ⟨i, o33, h13, tk13, rfl, hib, hfi, ⟨c33, d33⟩, rfl, F13, N13⟩ := hs
            by_cases hlast3 : i < b
            · refine ri_item F13 N13 (by k_updF) (by omega) ?_
              intro tq3 h43 tk43 F43 N43
              (try k_unfold); (try dsimp only at N43 ⊢)
              rw [show ((b : Int) + (i : Int)) = ((b + i : Nat) : Int) from by omega]
              have hp32 : b + i < 32 := by omega
              generalize hp : b + i = p at hp32
              refine wpAny_assign_Name ?_
              k_steps
              unfold Stop2
              refine LCg.CompSrc.ledger (by rfl) (by k_asm) (by k_asm) (by k_mem) hti16 ?_
              intro gq
              refine kcf_list (fun k => Builtin.bitAnd (V.fdiv (2 ^ (Int.fmod (S.getD (Builtin.bitXor (p : Int) k).toNat 0) 37).toNat)) 1) hti (fun kk tt I oI C oC D m2 ys hh tk E' hkk hC hx FF NN off ne mk => ?_) ?_
              · obtain ⟨kn, hkn, rfl⟩ := List.mem_map.mp hkk
                have hq1 : kn < 32 := by have := hmem _ hkn; omega
                have hx0 : 0 ≤ Builtin.bitXor (p : Int) (Int.ofNat kn) := by rw [show Int.ofNat kn = (kn : Int) from rfl, bitXor_nat]; omega
                have hx1 : Builtin.bitXor (p : Int) (Int.ofNat kn) < 32 := by
                  rw [show Int.ofNat kn = (kn : Int) from rfl, bitXor_nat]
                  have := Nat.xor_lt_two_pow (x := p) (y := kn) (n := 5) hp32 hq1
                  omega
                k_steps
              · unfold KPfDone
                intro ys hys
                k_steps
                · unfold Stop2
                  rename_i hok
                  rw [ok_eq] at hok
                  refine LCg.CompSrc.ledger (by rfl) (by k_asm) (by k_asm) (by k_mem) hti16 ?_
                  intro gq
                  refine kcf_list (fun k => Builtin.bitXor (p : Int) k) hti (fun kk tt I oI C oC D m2 ys hh tk E' hkk hC hx FF NN off ne mk => ?_) ?_
                  · k_steps
                  · unfold KPfDone
                    intro ys hys
                    k_steps
                    unfold Stop2
                    (rename News _ _ _ _ => NG); (rename Fr _ _ _ _ => FG); (rename IntsAre _ _ => iG)
                    (try k_unfold); (try dsimp only)
                    subst hp
                    have hfs := hsome _ (find_first hlast3 hfi hok)
                    refine ⟨5 - (r + 1), sub_down hlast2, r + 1, ?p8, 0, _, _, ?p4, _, _, _, rfl, hlast2, ?p0, ⟨_, d42⟩, ⟨?p7, ?p1⟩, ?p2, rfl, fr_dMap FG rfl ?p6, ?p5⟩
                    case p5 => exact cb_drop NG (by k_extra "my sub")
                    case p1 => assumption
                    case p0 =>
                      rw [hfs]
                      have := iG
                      rw [show natsI (told ++ told.map fun t => (b + i) ^^^ t) = natsI told ++ (natsI told).map fun k => Builtin.bitXor ((b + i : Nat) : Int) k from by
                        simp only [natsI, List.map_append, List.map_map]; congr 1; exact List.map_congr_left fun t _ => (bitXor_nat _ _).symm]
                      exact this
                    case p6 => exact fun z z1 z2 => by simp only [FrMap2, dMap, if_neg z1, if_neg z2]
                    all_goals first | k_extra "lt" | k_extra "ne" | omega
                · unfold Stop2
                  rename_i hok
                  rw [ok_eq] at hok
                  (rename News _ _ _ _ => NG); (rename Fr _ _ _ _ => FG)
                  (try k_unfold); (try dsimp only)
                  subst hp
                  have hfn := find_snoc hfi hok
                  (try rw [show ((b + i : Nat) : Int) = (b : Int) + (i : Int) from rfl] at NG); rw [riObj_nextB] at NG
                  refine ⟨b - (i + 1), sub_down hlast3, i + 1, ?r1, _, _, rfl, hlast3, hfn, ⟨?r2, ?r3⟩, rfl, FG, ?r4⟩
                  case r4 => exact cb_drop NG (by k_extra "my sub")
                  case r3 => assumption
            · obtain rfl : i = b := Nat.le_antisymm hib (Nat.le_of_not_lt hlast3)
              refine ri_end rfl F13 N13 (by k_mem) (by omega) (rest := [(it2, riObj (((r + 1 : Nat) : Int)) (5 - ((r + 1 : Nat) : Int))), (td2, W.listOf tvs.toArray nt), (sl2, W.listOf svs.toArray nv), (L' + 1 + 1 + 1 + 1, o42), (L' + 1 + 1 + 1, o33), (L' + 1 + 1, o2), (L' + 1, oV), (nl, W.listOf #[.int V tv, .int n1 u1, .int n2 u2, .int n3 u3, .int n4 u4, .int n5 u5] nn)]) (by k_extra "my sub") (ne_of (by k_extra "my nel")) ?_
              intro h2 F2 N2
              (try k_unfold); (try dsimp only)
              have hfs := hnone hfi
              k_steps
              unfold Stop2
              (try k_unfold); (try dsimp only)
              (rename News _ _ _ _ => NG); (rename Fr _ _ _ _ => FG)
              refine ⟨5 - (r + 1), sub_down hlast2, r + 1, tvs, nt, td2, _, ?w4, _, _, _, rfl, hlast2, by rw [hfs]; exact hti, ⟨_, d42⟩, ⟨?w7, ?w1⟩, ⟨b1, b2, b3, b4⟩, rfl, fr_dMap FG rfl ?w6, ?w5⟩
              case w5 => exact NG
              case w1 => exact d33
              case w6 => exact fun z z1 z2 => by simp only [FrMap2, dMap, if_neg z1, if_neg z2]
          · refine ⟨0, o32, hB3, _, by omega, by omega, rfl, ⟨_, d32⟩, rfl, FE, cb_drop NE ?_⟩
            simp only [Int.ofNat_zero, Int.sub_zero, Int.add_zero, Int.natCast_zero]
            k_extra "my sub"
        · obtain rfl : r = 5 := Nat.le_antisymm hr5 (Nat.le_of_not_lt hlast2)
          refine ri_end rfl F12 N12 (by k_mem) (by omega) (rest := [(td2, W.listOf tvs.toArray nt), (sl2, W.listOf svs.toArray nv), (L' + 1 + 1 + 1 + 1, o42), (L' + 1 + 1 + 1, o32), (L' + 1 + 1, o2), (L' + 1, oV), (nl, W.listOf #[.int V tv, .int n1 u1, .int n2 u2, .int n3 u3, .int n4 u4, .int n5 u5] nn)]) (by k_extra "my sub") (ne_of (by k_extra "my nel")) ?_
          intro h2 F2 N2
          (try k_unfold); (try dsimp only)
          have hmanual : True := trivial
          have hln32 : (natsI (toldR V S 5)).length < 64 := by
            rw [List.length_map]
            have := (toldR_len V S 5).1
            omega
          k_steps
          unfold Stop2
          (rename IntsAre _ _ => iN); (rename List.Perm _ _ => pN); (rename List.Pairwise _ _ => oN'); (rename News _ _ _ _ => NG); (rename Fr _ _ _ _ => FG)
          rename_i D2 vN nN cN _ _ _ _ _
          refine LCt.CompSrcT.ledger (by rfl) (by k_asm) (by k_asm) (by k_mem) ?hz ?_
          case hz =>
            rw [List.size_toArray, iN.length, pN.length_eq]
            exact Nat.le_trans (Nat.le_of_lt hln32) (by decide)
          intro gq
          refine kci_list (fun l k => if k < 24 then l ++ [S.getD k.toNat 0] else l) iN (fun kk tt I oI C oC D m2 ys l hh tk E' hkk hIl hC hx FF NN off ne mk => ?_) ?_ ?_
          · obtain ⟨kn, hkn, rfl⟩ := List.mem_map.mp (pN.mem_iff.mp hkk)
            have hk32 := (toldR_len V S 5).2 kn hkn
            have hx0 : 0 ≤ Int.ofNat kn := Int.natCast_nonneg kn
            have hx1 : Int.ofNat kn < 32 := Int.ofNat_lt.mpr hk32
            k_steps
          · unfold KPfDone
            intro ys hys hyl
            k_steps
            (rename News h₀ L _ _ => kN9); (rename Fr h₀ L _ _ => kF9)
            refine left_end hret lN' lO' kF9 kN9 ⟨_, _, nN, rfl, rfl, pN, oN', hys⟩ ?_
            k_extra "my sub"
          · intro l k
            (try k_unfold); (try dsimp only)
            split
            · rw [List.length_append]; exact Nat.le_refl _
            · exact Nat.le_succ _
      · refine ⟨0, [.int 0 _], 0, td, o4, o3, _, hB2, _, by omega, by omega, .cons _ _ .nil, ⟨_, d4⟩, ⟨_, d3⟩, ⟨by omega, by omega, by omega, by omega⟩, rfl, fr_dMap FB rfl (fun z z1 z2 => by simp only [if_neg z1]), NB⟩
  · refine ⟨0, sl, [.int 0 _], 0, oN, oP, oS, hB, _, by omega, by omega, .cons _ _ .nil, ⟨_, dN⟩, ⟨_, dP⟩, dS, ⟨by omega, by omega, lL⟩, by omega, rfl, F6, N6⟩
end Mine

namespace Mine
theorem wdWritten_0 : True := by
  k_with_none
  k_with "my enter" => (refine' code_defS ?k1 ?k2 ?k3 ?k4 ?kO ?kD ?k5 ?kA ?kF ?kK ?k6 ?k7 ?k8 ?k9 ?kB ?_ ?c2 ?c3 ?c4 ?c5; (case kA => exact rfl); (case kF => exact rfl); (case kK => assumption); (case kD => assumption); (case k1 => k_asm); (case k2 => k_asm); (case k3 => k_asm); (case k4 => assumption); (case kO => assumption); (case k5 => k_asm); (case k6 => k_is); (case k7 => k_is); (case k8 => ktr_room); (case k9 => first | k_extra "my binds" | exact BindsTo.of_eq rfl); (case c5 => decide); (case kB => exact locs rfl); (case c2 => exact rfl); (case c3 => exact rfl); (case c4 => exact rfl); k_whole; intro g' L' h' FG' F' N' B' X' T' lN' lO'; (try dsimp only); (try k_lift B'); (try k_fold))
  k_with "my sub" => repeat (first | exact sub_nil | refine sub_cons (by k_mem) ?_)
  k_with "my spec" => ((case k1 => k_asm); (case k2 => k_asm); (case k3 => k_asm); (case k4 => k_asm); (case k5 => k_asm); (case k6 => exact rfl); (case k7 => ktr_room); (case k8 => ktr_units); (case h1 => k_extra "my sub"); (case h2 => k_extra "my sub"); (case h3 => k_extra "my dis"); k_whole)
  k_with "my enterC" => (refine' code_defCS ?k1 ?k2 ?k3 ?k4 ?kO ?kQ ?k5 ?kA ?kF ?kK ?k6 ?k7 ?k8 ?k9 ?kB ?kD ?_ ?c2 ?c3 ?c4; (case kA => exact rfl); (case kF => exact rfl); (case kK => assumption); (case kQ => assumption); (case k1 => k_asm); (case k2 => k_asm); (case k3 => k_asm); (case k4 => assumption); (case kO => assumption); (case k5 => k_asm); (case k6 => k_is); (case k7 => k_is); (case k8 => ktr_room); (case k9 => first | k_extra "my binds" | exact BindsTo.of_eq rfl); (case kB => exact rfl); (case kD => decide +kernel); (case c2 => exact rfl); (case c3 => exact rfl); (case c4 => exact rfl); k_whole; intro g' L' h' tk' cells' FG' F' N' Y' B' X' T' lN' lO'; (have l1' := lN'); (try k_lt l1'); k_cells Y'; (try simp only [List.cons_append, List.nil_append] at N'); (try dsimp only); (try k_lift B'); (try k_fold))
  k_with "my dis" => (refine dis_of ?_; dsimp only [DisL, OffL]; ((repeat' first | exact True.intro | refine And.intro ?_ ?_) <;> first | k_extra "ne" | omega))
  k_with "my nel" => (dsimp only [NeL]; ((repeat' first | exact True.intro | refine And.intro ?_ ?_) <;> first | k_extra "ne" | omega))
  k_with "k ne" => (refine neN ?_; (try dsimp only); k_extra "ne")
  k_with "ne" => (first | with_reducible assumption | exact Nat.ne_of_lt (by with_reducible assumption) | exact Nat.ne_of_gt (by with_reducible assumption) | exact Ne.symm (by with_reducible assumption) | ((repeat (rename (_ < _ ∧ _) => qz; first | (refine ne_r qz ?_; first | exact qz.1 | exact qz.2.1 | exact qz.2.2.1 | exact qz.2.2.2.1 | exact qz.2.2.2.2.1 | exact qz.2.2.2.2.2.1 | exact qz.2.2.2.2.2.2.1 | exact qz.2.2.2.2.2.2.2.1 | exact qz.2.2.2.2.2.2.2.2.1 | exact qz.2.2.2.2.2.2.2.2.2.1 | exact qz.2.2.2.2.2.2.2.2.2.2.1 | exact qz.2.2.2.2.2.2.2.2.2.2.2.1 | exact qz.2.2.2.2.2.2.2.2.2.2.2.2.1 | exact qz.2.2.2.2.2.2.2.2.2.2.2.2.2.1 | exact qz.2.2.2.2.2.2.2.2.2.2.2.2.2.2.1 | exact qz.2.2.2.2.2.2.2.2.2.2.2.2.2.2.2.1 | exact qz.2.2.2.2.2.2.2.2.2.2.2.2.2.2.2.2.1 | exact qz.2.2.2.2.2.2.2.2.2.2.2.2.2.2.2.2.2.1) | (refine ne_l qz ?_; first | exact qz.1 | exact qz.2.1 | exact qz.2.2.1 | exact qz.2.2.2.1 | exact qz.2.2.2.2.1 | exact qz.2.2.2.2.2.1 | exact qz.2.2.2.2.2.2.1 | exact qz.2.2.2.2.2.2.2.1 | exact qz.2.2.2.2.2.2.2.2.1 | exact qz.2.2.2.2.2.2.2.2.2.1 | exact qz.2.2.2.2.2.2.2.2.2.2.1 | exact qz.2.2.2.2.2.2.2.2.2.2.2.1 | exact qz.2.2.2.2.2.2.2.2.2.2.2.2.1 | exact qz.2.2.2.2.2.2.2.2.2.2.2.2.2.1 | exact qz.2.2.2.2.2.2.2.2.2.2.2.2.2.2.1 | exact qz.2.2.2.2.2.2.2.2.2.2.2.2.2.2.2.1 | exact qz.2.2.2.2.2.2.2.2.2.2.2.2.2.2.2.2.1 | exact qz.2.2.2.2.2.2.2.2.2.2.2.2.2.2.2.2.2.1) | clear qz)); done) | k_extra "ne cells" | k_extra "ne one" | k_extra "ne off" | k_extra "ne up")
  k_with "ne cells" => (first | exact ne_off (i := 0) (j := 1) rfl | exact ne_off (i := 0) (j := 2) rfl | exact ne_off (i := 0) (j := 3) rfl | exact ne_off (i := 0) (j := 4) rfl | exact ne_off (i := 1) (j := 0) rfl | exact ne_off (i := 1) (j := 2) rfl | exact ne_off (i := 1) (j := 3) rfl | exact ne_off (i := 1) (j := 4) rfl | exact ne_off (i := 2) (j := 0) rfl | exact ne_off (i := 2) (j := 1) rfl | exact ne_off (i := 2) (j := 3) rfl | exact ne_off (i := 2) (j := 4) rfl | exact ne_off (i := 3) (j := 0) rfl | exact ne_off (i := 3) (j := 1) rfl | exact ne_off (i := 3) (j := 2) rfl | exact ne_off (i := 3) (j := 4) rfl | exact ne_off (i := 4) (j := 0) rfl | exact ne_off (i := 4) (j := 1) rfl | exact ne_off (i := 4) (j := 2) rfl | exact ne_off (i := 4) (j := 3) rfl)
  k_with "ne up" => (first | exact Nat.ne_of_lt (lt_up1 (by with_reducible assumption)) | exact Nat.ne_of_gt (lt_up1 (by with_reducible assumption)) | exact Nat.ne_of_lt (lt_up2 (by with_reducible assumption)) | exact Nat.ne_of_gt (lt_up2 (by with_reducible assumption)) | exact Nat.ne_of_lt (lt_up3 (by with_reducible assumption)) | exact Nat.ne_of_gt (lt_up3 (by with_reducible assumption)) | exact Nat.ne_of_lt (lt_up4 (by with_reducible assumption)) | exact Nat.ne_of_gt (lt_up4 (by with_reducible assumption)) | ((repeat (rename (_ < _ ∧ _) => qz; first | (refine ne_r1 qz ?_; first | exact qz.1 | exact qz.2.1 | exact qz.2.2.1 | exact qz.2.2.2.1 | exact qz.2.2.2.2.1 | exact qz.2.2.2.2.2.1 | exact qz.2.2.2.2.2.2.1 | exact qz.2.2.2.2.2.2.2.1 | exact qz.2.2.2.2.2.2.2.2.1 | exact qz.2.2.2.2.2.2.2.2.2.1 | exact qz.2.2.2.2.2.2.2.2.2.2.1 | exact qz.2.2.2.2.2.2.2.2.2.2.2.1 | exact qz.2.2.2.2.2.2.2.2.2.2.2.2.1 | exact qz.2.2.2.2.2.2.2.2.2.2.2.2.2.1 | exact qz.2.2.2.2.2.2.2.2.2.2.2.2.2.2.1 | exact qz.2.2.2.2.2.2.2.2.2.2.2.2.2.2.2.1 | exact qz.2.2.2.2.2.2.2.2.2.2.2.2.2.2.2.2.1 | exact qz.2.2.2.2.2.2.2.2.2.2.2.2.2.2.2.2.2.1) | (refine ne_l1 qz ?_; first | exact qz.1 | exact qz.2.1 | exact qz.2.2.1 | exact qz.2.2.2.1 | exact qz.2.2.2.2.1 | exact qz.2.2.2.2.2.1 | exact qz.2.2.2.2.2.2.1 | exact qz.2.2.2.2.2.2.2.1 | exact qz.2.2.2.2.2.2.2.2.1 | exact qz.2.2.2.2.2.2.2.2.2.1 | exact qz.2.2.2.2.2.2.2.2.2.2.1 | exact qz.2.2.2.2.2.2.2.2.2.2.2.1 | exact qz.2.2.2.2.2.2.2.2.2.2.2.2.1 | exact qz.2.2.2.2.2.2.2.2.2.2.2.2.2.1 | exact qz.2.2.2.2.2.2.2.2.2.2.2.2.2.2.1 | exact qz.2.2.2.2.2.2.2.2.2.2.2.2.2.2.2.1 | exact qz.2.2.2.2.2.2.2.2.2.2.2.2.2.2.2.2.1 | exact qz.2.2.2.2.2.2.2.2.2.2.2.2.2.2.2.2.2.1) | (refine ne_r2 qz ?_; first | exact qz.1 | exact qz.2.1 | exact qz.2.2.1 | exact qz.2.2.2.1 | exact qz.2.2.2.2.1 | exact qz.2.2.2.2.2.1 | exact qz.2.2.2.2.2.2.1 | exact qz.2.2.2.2.2.2.2.1 | exact qz.2.2.2.2.2.2.2.2.1 | exact qz.2.2.2.2.2.2.2.2.2.1 | exact qz.2.2.2.2.2.2.2.2.2.2.1 | exact qz.2.2.2.2.2.2.2.2.2.2.2.1 | exact qz.2.2.2.2.2.2.2.2.2.2.2.2.1 | exact qz.2.2.2.2.2.2.2.2.2.2.2.2.2.1 | exact qz.2.2.2.2.2.2.2.2.2.2.2.2.2.2.1 | exact qz.2.2.2.2.2.2.2.2.2.2.2.2.2.2.2.1 | exact qz.2.2.2.2.2.2.2.2.2.2.2.2.2.2.2.2.1 | exact qz.2.2.2.2.2.2.2.2.2.2.2.2.2.2.2.2.2.1) | (refine ne_l2 qz ?_; first | exact qz.1 | exact qz.2.1 | exact qz.2.2.1 | exact qz.2.2.2.1 | exact qz.2.2.2.2.1 | exact qz.2.2.2.2.2.1 | exact qz.2.2.2.2.2.2.1 | exact qz.2.2.2.2.2.2.2.1 | exact qz.2.2.2.2.2.2.2.2.1 | exact qz.2.2.2.2.2.2.2.2.2.1 | exact qz.2.2.2.2.2.2.2.2.2.2.1 | exact qz.2.2.2.2.2.2.2.2.2.2.2.1 | exact qz.2.2.2.2.2.2.2.2.2.2.2.2.1 | exact qz.2.2.2.2.2.2.2.2.2.2.2.2.2.1 | exact qz.2.2.2.2.2.2.2.2.2.2.2.2.2.2.1 | exact qz.2.2.2.2.2.2.2.2.2.2.2.2.2.2.2.1 | exact qz.2.2.2.2.2.2.2.2.2.2.2.2.2.2.2.2.1 | exact qz.2.2.2.2.2.2.2.2.2.2.2.2.2.2.2.2.2.1) | (refine ne_r3 qz ?_; first | exact qz.1 | exact qz.2.1 | exact qz.2.2.1 | exact qz.2.2.2.1 | exact qz.2.2.2.2.1 | exact qz.2.2.2.2.2.1 | exact qz.2.2.2.2.2.2.1 | exact qz.2.2.2.2.2.2.2.1 | exact qz.2.2.2.2.2.2.2.2.1 | exact qz.2.2.2.2.2.2.2.2.2.1 | exact qz.2.2.2.2.2.2.2.2.2.2.1 | exact qz.2.2.2.2.2.2.2.2.2.2.2.1 | exact qz.2.2.2.2.2.2.2.2.2.2.2.2.1 | exact qz.2.2.2.2.2.2.2.2.2.2.2.2.2.1 | exact qz.2.2.2.2.2.2.2.2.2.2.2.2.2.2.1 | exact qz.2.2.2.2.2.2.2.2.2.2.2.2.2.2.2.1 | exact qz.2.2.2.2.2.2.2.2.2.2.2.2.2.2.2.2.1 | exact qz.2.2.2.2.2.2.2.2.2.2.2.2.2.2.2.2.2.1) | (refine ne_l3 qz ?_; first | exact qz.1 | exact qz.2.1 | exact qz.2.2.1 | exact qz.2.2.2.1 | exact qz.2.2.2.2.1 | exact qz.2.2.2.2.2.1 | exact qz.2.2.2.2.2.2.1 | exact qz.2.2.2.2.2.2.2.1 | exact qz.2.2.2.2.2.2.2.2.1 | exact qz.2.2.2.2.2.2.2.2.2.1 | exact qz.2.2.2.2.2.2.2.2.2.2.1 | exact qz.2.2.2.2.2.2.2.2.2.2.2.1 | exact qz.2.2.2.2.2.2.2.2.2.2.2.2.1 | exact qz.2.2.2.2.2.2.2.2.2.2.2.2.2.1 | exact qz.2.2.2.2.2.2.2.2.2.2.2.2.2.2.1 | exact qz.2.2.2.2.2.2.2.2.2.2.2.2.2.2.2.1 | exact qz.2.2.2.2.2.2.2.2.2.2.2.2.2.2.2.2.1 | exact qz.2.2.2.2.2.2.2.2.2.2.2.2.2.2.2.2.2.1) | (refine ne_r4 qz ?_; first | exact qz.1 | exact qz.2.1 | exact qz.2.2.1 | exact qz.2.2.2.1 | exact qz.2.2.2.2.1 | exact qz.2.2.2.2.2.1 | exact qz.2.2.2.2.2.2.1 | exact qz.2.2.2.2.2.2.2.1 | exact qz.2.2.2.2.2.2.2.2.1 | exact qz.2.2.2.2.2.2.2.2.2.1 | exact qz.2.2.2.2.2.2.2.2.2.2.1 | exact qz.2.2.2.2.2.2.2.2.2.2.2.1 | exact qz.2.2.2.2.2.2.2.2.2.2.2.2.1 | exact qz.2.2.2.2.2.2.2.2.2.2.2.2.2.1 | exact qz.2.2.2.2.2.2.2.2.2.2.2.2.2.2.1 | exact qz.2.2.2.2.2.2.2.2.2.2.2.2.2.2.2.1 | exact qz.2.2.2.2.2.2.2.2.2.2.2.2.2.2.2.2.1 | exact qz.2.2.2.2.2.2.2.2.2.2.2.2.2.2.2.2.2.1) | (refine ne_l4 qz ?_; first | exact qz.1 | exact qz.2.1 | exact qz.2.2.1 | exact qz.2.2.2.1 | exact qz.2.2.2.2.1 | exact qz.2.2.2.2.2.1 | exact qz.2.2.2.2.2.2.1 | exact qz.2.2.2.2.2.2.2.1 | exact qz.2.2.2.2.2.2.2.2.1 | exact qz.2.2.2.2.2.2.2.2.2.1 | exact qz.2.2.2.2.2.2.2.2.2.2.1 | exact qz.2.2.2.2.2.2.2.2.2.2.2.1 | exact qz.2.2.2.2.2.2.2.2.2.2.2.2.1 | exact qz.2.2.2.2.2.2.2.2.2.2.2.2.2.1 | exact qz.2.2.2.2.2.2.2.2.2.2.2.2.2.2.1 | exact qz.2.2.2.2.2.2.2.2.2.2.2.2.2.2.2.1 | exact qz.2.2.2.2.2.2.2.2.2.2.2.2.2.2.2.2.1 | exact qz.2.2.2.2.2.2.2.2.2.2.2.2.2.2.2.2.2.1) | clear qz)); done))
  k_with "execs cons" => k_fold
  k_with "exec Assign" => k_fold
  k_with "exec If" => k_fold
  k_with "exec AugAssign" => k_fold
  k_with "my looks" => (repeat' first | exact True.intro | (refine And.intro ?_ ?_) | with_unfolding_all rfl)
  k_with "ne off" => ((repeat (rename (LCg.Off3 _ _ _ _) => qo; first | exact qo.1.1 | exact Ne.symm qo.1.1 | exact qo.1.2.1 | exact Ne.symm qo.1.2.1 | exact qo.1.2.2 | exact Ne.symm qo.1.2.2 | exact qo.2.1.1 | exact Ne.symm qo.2.1.1 | exact qo.2.1.2.1 | exact Ne.symm qo.2.1.2.1 | exact qo.2.1.2.2 | exact Ne.symm qo.2.1.2.2 | exact qo.2.2.1.1 | exact Ne.symm qo.2.2.1.1 | exact qo.2.2.1.2.1 | exact Ne.symm qo.2.2.1.2.1 | exact qo.2.2.1.2.2 | exact Ne.symm qo.2.2.1.2.2 | exact qo.2.2.2.1.1 | exact Ne.symm qo.2.2.2.1.1 | exact qo.2.2.2.1.2.1 | exact Ne.symm qo.2.2.2.1.2.1 | exact qo.2.2.2.1.2.2 | exact Ne.symm qo.2.2.2.1.2.2 | exact qo.2.2.2.2.1.1 | exact Ne.symm qo.2.2.2.2.1.1 | exact qo.2.2.2.2.1.2.1 | exact Ne.symm qo.2.2.2.2.1.2.1 | exact qo.2.2.2.2.1.2.2 | exact Ne.symm qo.2.2.2.2.1.2.2 | exact qo.2.2.2.2.2.1.1 | exact Ne.symm qo.2.2.2.2.2.1.1 | exact qo.2.2.2.2.2.1.2.1 | exact Ne.symm qo.2.2.2.2.2.1.2.1 | exact qo.2.2.2.2.2.1.2.2 | exact Ne.symm qo.2.2.2.2.2.1.2.2 | exact qo.2.2.2.2.2.2.1.1 | exact Ne.symm qo.2.2.2.2.2.2.1.1 | exact qo.2.2.2.2.2.2.1.2.1 | exact Ne.symm qo.2.2.2.2.2.2.1.2.1 | exact qo.2.2.2.2.2.2.1.2.2 | exact Ne.symm qo.2.2.2.2.2.2.1.2.2 | exact qo.2.2.2.2.2.2.2.1.1 | exact Ne.symm qo.2.2.2.2.2.2.2.1.1 | exact qo.2.2.2.2.2.2.2.1.2.1 | exact Ne.symm qo.2.2.2.2.2.2.2.1.2.1 | exact qo.2.2.2.2.2.2.2.1.2.2 | exact Ne.symm qo.2.2.2.2.2.2.2.1.2.2 | exact qo.2.2.2.2.2.2.2.2.1.1 | exact Ne.symm qo.2.2.2.2.2.2.2.2.1.1 | exact qo.2.2.2.2.2.2.2.2.1.2.1 | exact Ne.symm qo.2.2.2.2.2.2.2.2.1.2.1 | exact qo.2.2.2.2.2.2.2.2.1.2.2 | exact Ne.symm qo.2.2.2.2.2.2.2.2.1.2.2 | exact qo.2.2.2.2.2.2.2.2.2.1.1 | exact Ne.symm qo.2.2.2.2.2.2.2.2.2.1.1 | exact qo.2.2.2.2.2.2.2.2.2.1.2.1 | exact Ne.symm qo.2.2.2.2.2.2.2.2.2.1.2.1 | exact qo.2.2.2.2.2.2.2.2.2.1.2.2 | exact Ne.symm qo.2.2.2.2.2.2.2.2.2.1.2.2 | exact qo.2.2.2.2.2.2.2.2.2.2.1.1 | exact Ne.symm qo.2.2.2.2.2.2.2.2.2.2.1.1 | exact qo.2.2.2.2.2.2.2.2.2.2.1.2.1 | exact Ne.symm qo.2.2.2.2.2.2.2.2.2.2.1.2.1 | exact qo.2.2.2.2.2.2.2.2.2.2.1.2.2 | exact Ne.symm qo.2.2.2.2.2.2.2.2.2.2.1.2.2 | exact qo.2.2.2.2.2.2.2.2.2.2.2.1.1 | exact Ne.symm qo.2.2.2.2.2.2.2.2.2.2.2.1.1 | exact qo.2.2.2.2.2.2.2.2.2.2.2.1.2.1 | exact Ne.symm qo.2.2.2.2.2.2.2.2.2.2.2.1.2.1 | exact qo.2.2.2.2.2.2.2.2.2.2.2.1.2.2 | exact Ne.symm qo.2.2.2.2.2.2.2.2.2.2.2.1.2.2 | exact qo.2.2.2.2.2.2.2.2.2.2.2.2.1.1 | exact Ne.symm qo.2.2.2.2.2.2.2.2.2.2.2.2.1.1 | exact qo.2.2.2.2.2.2.2.2.2.2.2.2.1.2.1 | exact Ne.symm qo.2.2.2.2.2.2.2.2.2.2.2.2.1.2.1 | exact qo.2.2.2.2.2.2.2.2.2.2.2.2.1.2.2 | exact Ne.symm qo.2.2.2.2.2.2.2.2.2.2.2.2.1.2.2 | exact qo.2.2.2.2.2.2.2.2.2.2.2.2.2.1.1 | exact Ne.symm qo.2.2.2.2.2.2.2.2.2.2.2.2.2.1.1 | exact qo.2.2.2.2.2.2.2.2.2.2.2.2.2.1.2.1 | exact Ne.symm qo.2.2.2.2.2.2.2.2.2.2.2.2.2.1.2.1 | exact qo.2.2.2.2.2.2.2.2.2.2.2.2.2.1.2.2 | exact Ne.symm qo.2.2.2.2.2.2.2.2.2.2.2.2.2.1.2.2 | exact qo.2.2.2.2.2.2.2.2.2.2.2.2.2.2.1.1 | exact Ne.symm qo.2.2.2.2.2.2.2.2.2.2.2.2.2.2.1.1 | exact qo.2.2.2.2.2.2.2.2.2.2.2.2.2.2.1.2.1 | exact Ne.symm qo.2.2.2.2.2.2.2.2.2.2.2.2.2.2.1.2.1 | exact qo.2.2.2.2.2.2.2.2.2.2.2.2.2.2.1.2.2 | exact Ne.symm qo.2.2.2.2.2.2.2.2.2.2.2.2.2.2.1.2.2 | exact qo.2.2.2.2.2.2.2.2.2.2.2.2.2.2.2.1.1 | exact Ne.symm qo.2.2.2.2.2.2.2.2.2.2.2.2.2.2.2.1.1 | exact qo.2.2.2.2.2.2.2.2.2.2.2.2.2.2.2.1.2.1 | exact Ne.symm qo.2.2.2.2.2.2.2.2.2.2.2.2.2.2.2.1.2.1 | exact qo.2.2.2.2.2.2.2.2.2.2.2.2.2.2.2.1.2.2 | exact Ne.symm qo.2.2.2.2.2.2.2.2.2.2.2.2.2.2.2.1.2.2 | exact qo.2.2.2.2.2.2.2.2.2.2.2.2.2.2.2.2.1.1 | exact Ne.symm qo.2.2.2.2.2.2.2.2.2.2.2.2.2.2.2.2.1.1 | exact qo.2.2.2.2.2.2.2.2.2.2.2.2.2.2.2.2.1.2.1 | exact Ne.symm qo.2.2.2.2.2.2.2.2.2.2.2.2.2.2.2.2.1.2.1 | exact qo.2.2.2.2.2.2.2.2.2.2.2.2.2.2.2.2.1.2.2 | exact Ne.symm qo.2.2.2.2.2.2.2.2.2.2.2.2.2.2.2.2.1.2.2 | clear qo)); done)
  k_with "lt" => (first | with_reducible assumption | ((repeat (rename (_ < _ ∧ _) => qz; first | exact qz.1 | exact qz.2.1 | exact qz.2.2.1 | exact qz.2.2.2.1 | exact qz.2.2.2.2.1 | exact qz.2.2.2.2.2.1 | exact qz.2.2.2.2.2.2.1 | exact qz.2.2.2.2.2.2.2.1 | exact qz.2.2.2.2.2.2.2.2.1 | exact qz.2.2.2.2.2.2.2.2.2.1 | exact qz.2.2.2.2.2.2.2.2.2.2.1 | exact qz.2.2.2.2.2.2.2.2.2.2.2.1 | exact qz.2.2.2.2.2.2.2.2.2.2.2.2.1 | exact qz.2.2.2.2.2.2.2.2.2.2.2.2.2.1 | exact qz.2.2.2.2.2.2.2.2.2.2.2.2.2.2.1 | exact qz.2.2.2.2.2.2.2.2.2.2.2.2.2.2.2.1 | exact qz.2.2.2.2.2.2.2.2.2.2.2.2.2.2.2.2.1 | exact qz.2.2.2.2.2.2.2.2.2.2.2.2.2.2.2.2.2.1 | clear qz)); done))
  k_with "ne one" => ((repeat (rename (_ ≠ _ ∧ _) => qo; first | exact qo.1 | exact Ne.symm qo.1 | exact qo.2.1 | exact Ne.symm qo.2.1 | exact qo.2.2.1 | exact Ne.symm qo.2.2.1 | exact qo.2.2.2.1 | exact Ne.symm qo.2.2.2.1 | exact qo.2.2.2.2.1 | exact Ne.symm qo.2.2.2.2.1 | exact qo.2.2.2.2.2.1 | exact Ne.symm qo.2.2.2.2.2.1 | exact qo.2.2.2.2.2.2.1 | exact Ne.symm qo.2.2.2.2.2.2.1 | exact qo.2.2.2.2.2.2.2.1 | exact Ne.symm qo.2.2.2.2.2.2.2.1 | exact qo.2.2.2.2.2.2.2.2.1 | exact Ne.symm qo.2.2.2.2.2.2.2.2.1 | exact qo.2.2.2.2.2.2.2.2.2.1 | exact Ne.symm qo.2.2.2.2.2.2.2.2.2.1 | exact qo.2.2.2.2.2.2.2.2.2.2.1 | exact Ne.symm qo.2.2.2.2.2.2.2.2.2.2.1 | exact qo.2.2.2.2.2.2.2.2.2.2.2.1 | exact Ne.symm qo.2.2.2.2.2.2.2.2.2.2.2.1 | exact qo.2.2.2.2.2.2.2.2.2.2.2.2.1 | exact Ne.symm qo.2.2.2.2.2.2.2.2.2.2.2.2.1 | exact qo.2.2.2.2.2.2.2.2.2.2.2.2.2.1 | exact Ne.symm qo.2.2.2.2.2.2.2.2.2.2.2.2.2.1 | exact qo.2.2.2.2.2.2.2.2.2.2.2.2.2.2.1 | exact Ne.symm qo.2.2.2.2.2.2.2.2.2.2.2.2.2.2.1 | exact qo.2.2.2.2.2.2.2.2.2.2.2.2.2.2.2.1 | exact Ne.symm qo.2.2.2.2.2.2.2.2.2.2.2.2.2.2.2.1 | exact qo.2.2.2.2.2.2.2.2.2.2.2.2.2.2.2.2.1 | exact Ne.symm qo.2.2.2.2.2.2.2.2.2.2.2.2.2.2.2.2.1 | clear qo)); done)
  trivial
set_option maxRecDepth 100000

theorem wdWritten_38 : True := by
  k_with "exec For Name Name cons nil" => (k_here; refine stop ?_)
  trivial
theorem wdWritten_39 : True := by
  k_with "exec For Name Call cons nil" => (k_here; k_dflt (refine wpAny_For ?_))
  trivial
theorem wdWritten_40 : True := by
  k_with "pyIter ref" => (k_here; refine stop ?_)
  trivial
theorem wdWritten_41 : True := by
  k_with "exec While" => (k_here; refine stop ?_)
  trivial
theorem wdWritten_42 : True := by
  k_with "exec While Name cons nil" => (k_here; refine stop ?_)
  trivial
theorem wdWritten_43 : True := by
  k_with "newList" => (k_here; k_dflt (refine' newList_L (by k_asm) (by k_asm) ?hsz ?_; (case hsz => size_fits); k_whole); intro _ _ _ _ l1z _; (try k_lt l1z); (revert l1z; intro _))
  trivial
theorem wdWritten_44 : True := by
  k_with "Exists" => (k_here; refine stop ?_)
  trivial
theorem wdWritten_45 : True := by
  k_with "binaryOp Add ref ref" => (k_here; (with_reducible show wpAny _ _ (binaryOp _ (Value.ref _) (Value.ref _)) _ _ _); k_dflt (refine' kmk_add_ints ?F ?N ?a ?b ?i ?j ?_ ?z; (case F => k_asm); (case N => k_asm); (case a => kmk_list); (case b => kmk_list); (case i => l_ints); (case j => l_ints); (case z => exact hadd)); intro D' ws' h' F' N' l1 hI'; (try k_lt l1))
  trivial

/-- the figures to the base 64 ahead of acc -/
noncomputable def octF : Nat → Nat → List Nat → List Nat
  | 0, _, acc => acc
  | f + 1, left, acc => if left = 0 then acc else octF f (left / 64) ((left % 64 + 64) :: acc)
theorem octF_eq : ∀ (f g left : Nat) (acc : List Nat), left ≤ f → left ≤ g → octF f left acc = octF g left acc
  | 0, 0, _, _, _, _ => rfl
  | 0, g + 1, left, acc, h, _ => by rw [octF, octF, if_pos (Nat.le_zero.mp h)]
  | f + 1, 0, left, acc, _, h => by rw [octF, octF, if_pos (Nat.le_zero.mp h)]
  | f + 1, g + 1, left, acc, h, k => by
    rw [octF, octF]
    split
    · rfl
    · exact octF_eq f g _ _ (by omega) (by omega)
noncomputable def octL (left : Nat) (acc : List Nat) : List Nat := octF left left acc
theorem octL_eq (left : Nat) (acc : List Nat) : octL left acc = if left = 0 then acc else octL (left / 64) ((left % 64 + 64) :: acc) := by
  cases left with
  | zero => rfl
  | succ n =>
    show octF (n + 1) (n + 1) acc = _
    rw [octF, if_neg (Nat.succ_ne_zero n), if_neg (Nat.succ_ne_zero n)]
    exact octF_eq _ _ _ _ (by omega) (Nat.le_refl _)
noncomputable def mark : List Nat → List Nat
  | a :: b :: c :: r => (a + 128) :: b :: c :: r
  | l => l
noncomputable def octets (n : Nat) : List Nat := mark (octL (n / 64) [n % 64])
noncomputable def blankAt (i : Nat) : Nat := [32, 9, 10, 13].getD (i % 4) 0
noncomputable def wtext (ns : List Nat) : Nat → List Nat
  | 0 => []
  | i + 1 => wtext ns i ++ (enc (octets (ns.getD i 0)) ++ [blankAt i])
noncomputable abbrev natI (l : List Nat) : List Int := l.map Int.ofNat
theorem fdiv64 (M : Nat) : ((M : Int)).fdiv 64 = ((M / 64 : Nat) : Int) := by
  rw [Int.fdiv_eq_ediv_of_nonneg _ (by decide)]; omega
theorem fmod64 (M : Nat) : ((M : Int)).fmod 64 = ((M % 64 : Nat) : Int) := by
  rw [Int.fmod_eq_emod_of_nonneg _ (by decide)]; omega
theorem enc_le (l : List Nat) : (enc l).length ≤ 2 * l.length := by
  induction l with
  | nil => exact Nat.le_refl _
  | cons o r ih => rw [enc_len, List.length_cons]; split <;> omega
theorem enc_append (l r : List Nat) : enc (l ++ r) = enc l ++ enc r := by
  induction l with
  | nil => rfl
  | cons o l ih => simp only [List.cons_append, enc, ih, List.append_assoc]
theorem mark_len (l : List Nat) : (mark l).length = l.length := by
  unfold mark; split <;> rfl
theorem mark_lt {l : List Nat} (h : ∀ x ∈ l, x < 128) : ∀ x ∈ mark l, x < 256 := by
  intro x hx
  unfold mark at hx
  split at hx
  · rename_i a b c r
    rcases List.mem_cons.mp hx with rfl | hx
    · have := h a (.head _); omega
    · have := h x (.tail _ hx); omega
  · have := h x hx; omega
theorem mark_more {l : List Nat} (h : 2 < ((natI l).length : Int)) : natI (mark l) = [(natI l).getD (Int.toNat 0) 0 + 128] ++ List.drop 1 (natI l) := by
  rw [List.length_map] at h
  match l, h with
  | a :: b :: c :: r, _ => rfl
  | [a, b], h => exfalso; simp at h
  | [a], h => exfalso; simp at h
  | [], h => exfalso; simp at h
theorem mark_less {l : List Nat} (h : ¬ 2 < ((natI l).length : Int)) : mark l = l := by
  rw [List.length_map] at h
  match l, h with
  | a :: b :: c :: r, h => exfalso; apply h; simp only [List.length_cons]; omega
  | [a, b], _ => rfl
  | [a], _ => rfl
  | [], _ => rfl
section
variable {prog : Program} {w : World} {A : Around} {E : Value → Shared → Prop} {s : Shared}
theorem e_b (c o : Nat) : (Int.ofNat c == Int.ofNat o) = (o == c) := by
  rw [Bool.eq_iff_iff, beq_iff_eq, beq_iff_eq]
  exact ⟨fun h => (Int.ofNat.inj h).symm, fun h => h ▸ rfl⟩
theorem spec_any (o : Nat) : ([9, 10, 13, 32, 34, 92] : List Int).any (· == (o : Int)) = special o := by
  show ((Int.ofNat 9 == Int.ofNat o) || ((Int.ofNat 10 == Int.ofNat o) || ((Int.ofNat 13 == Int.ofNat o) || ((Int.ofNat 32 == Int.ofNat o) || ((Int.ofNat 34 == Int.ofNat o) || ((Int.ofNat 92 == Int.ofNat o) || false)))))) = special o
  unfold special
  rw [e_b, e_b, e_b, e_b, e_b, e_b, Bool.or_false, Bool.or_assoc, Bool.or_assoc, Bool.or_assoc, Bool.or_assoc]
theorem in_spec {l : Addr} {vs : List Value} {o : Nat} {b : Bool} {t : Tok} {Q : Value → Shared → Prop} (hl : s.heap.IsList l vs.toArray) (hi : IntsAre vs [9, 10, 13, 32, 34, 92]) (hb : special o = b)
    (h : Q (.bool b) s) : wpAny (model prog w) A (compareOp .In (.int (o : Int) t) (.ref l)) Q E s :=
  in_list_ints hl hi (by rw [spec_any, hb]; exact h)
end
theorem fits_txt {l : List Nat} {o : Nat} {x : Str} (hx : x = ⟨#[o]⟩) (h : l.length ≤ 500) : (⟨l.toArray⟩ : Str).length + x.length ≤ sizeLine := by
  subst hx
  show l.toArray.size + 1 ≤ _
  rw [sizeLine_eq, List.size_toArray]
  omega
theorem fits_txt2 {l : List Nat} {o p : Nat} {x z : Str} (hz : z = ⟨#[p]⟩) (hx : x = ⟨#[o]⟩) (h : l.length ≤ 500) : ((⟨l.toArray⟩ : Str) ++ z).length + x.length ≤ sizeLine := by
  subst hz
  subst hx
  rw [str_snoc]
  show (l ++ [p]).toArray.size + 1 ≤ _
  rw [sizeLine_eq, List.size_toArray, List.length_append]
  show l.length + 1 + 1 ≤ _
  omega
theorem fits_one {l : List Nat} {x : Str} (hx : x.length = 1) (h : l.length ≤ 500) : (⟨l.toArray⟩ : Str).length + x.length ≤ sizeLine := by
  rw [hx]
  show l.toArray.size + 1 ≤ _
  rw [sizeLine_eq, List.size_toArray]
  omega
theorem item_blank (i : Nat) (h : i < 6) : Txt.item (Str.ofString " \t\n\x0d") ((i : Int).fmod 4) = ⟨#[blankAt i]⟩ := by
  obtain rfl | rfl | rfl | rfl | rfl | rfl : i = 0 ∨ i = 1 ∨ i = 2 ∨ i = 3 ∨ i = 4 ∨ i = 5 := by omega
  all_goals decide +kernel
theorem str_two (l : List Nat) (o : Nat) : (⟨l.toArray⟩ ++ Str.ofString "\\" ++ ⟨#[((o : Int)).toNat]⟩ : Str) = ⟨(l ++ [92, o]).toArray⟩ := by
  rw [show Str.ofString "\\" = ⟨#[92]⟩ from by decide +kernel, str_snoc, str_snoc, Int.toNat_natCast, List.append_assoc]; rfl
theorem str_one (l : List Nat) (o : Nat) : (⟨l.toArray⟩ ++ ⟨#[((o : Int)).toNat]⟩ : Str) = ⟨(l ++ [o]).toArray⟩ := by
  rw [str_snoc, Int.toNat_natCast]
theorem wdWritten_46 : True := by
  k_with "compareOp In int ref" => (k_here; (with_reducible show wpAny _ _ (compareOp CmpOp.In (Value.int _ _) (Value.ref _)) _ _ _); k_dflt (refine' in_spec ?isA ?isI hso ?_; (case isA => kmk_list); (case isI => l_ints); k_whole))
  trivial
theorem wdWritten_47 : True := by
  k_with "binaryOp Add str str" => (k_here; k_dflt (refine SBL.add (hsz := ?hsz) ?_); (case hsz => first | exact fits_txt (by first | rfl | decide +kernel) hjl | exact fits_txt2 (by first | rfl | decide +kernel) (by first | rfl | decide +kernel) hjl | exact fits_one (by assumption) hjl); intro _ _ _)
  trivial
theorem eN_of {ns : List Nat} {i M : Nat} (h : ns.getD i 0 = M) : (natI ns).getD ((i : Int)).toNat 0 = (M : Int) := by
  rw [Int.toNat_natCast, ← h]
  simp only [List.getD_eq_getElem?_getD, List.getElem?_map]
  cases ns[i]? <;> rfl
theorem one_int {x y : Int} {t : Tok} (h : x = y) : IntsAre [.int x t] [y] := h ▸ .cons _ _ .nil
theorem enc_take {mk : List Nat} {j : Nat} (h : j < mk.length) (p : List Nat) (b : Bool) (hb : special mk[j] = b) : p ++ enc (mk.take (j + 1)) = p ++ enc (mk.take j) ++ (if b = true then [92, mk[j]] else [mk[j]]) := by
  subst hb
  rw [List.take_add_one, List.getElem?_eq_getElem h, enc_append, ← List.append_assoc]
  simp [enc]
theorem enc_take_le {mk p : List Nat} {j i : Nat} (hp : p.length ≤ 15 * i) (hi : i < 6) (hm : mk.length ≤ 7) : (p ++ enc (mk.take j)).length ≤ 500 := by
  have := enc_le (mk.take j)
  rw [List.length_append]
  rw [List.length_take] at this
  omega
theorem wt_le {mk p q : List Nat} {i b : Nat} (hp : p.length ≤ 15 * i) (hm : mk.length ≤ 7) (hw : q = p ++ (enc mk ++ [b])) : q.length ≤ 15 * (i + 1) := by
  have := enc_le mk
  rw [hw, List.length_append, List.length_append, List.length_singleton]
  omega
theorem text_next {p q mk : List Nat} {i b : Nat} (hi : i < 6) (hb : b = blankAt i) (hw : q = p ++ (enc mk ++ [b])) : (⟨(p ++ enc mk).toArray⟩ ++ Txt.item (Str.ofString " \t\n\x0d") ((i : Int).fmod 4) : Str) = ⟨q.toArray⟩ := by
  rw [item_blank i hi, str_snoc, hw, hb, List.append_assoc]
theorem octL_zero {left : Nat} {acc r : List Nat} (h : octL left acc = r) (h0 : left = 0) : acc = r := by
  subst h0
  rw [octL_eq, if_pos rfl] at h
  exact h
theorem octL_more {left : Nat} {acc r : List Nat} (h : octL left acc = r) (h0 : 0 < left) : octL (left / 64) ((left % 64 + 64) :: acc) = r := by
  rw [← h]
  conv => rhs; rw [octL_eq]
  rw [if_neg (by omega)]
theorem pow_more {left k : Nat} (h : left < 64 ^ k) (h0 : 0 < left) : ∃ k2, k = k2 + 1 ∧ left / 64 < 64 ^ k2 := by
  cases k with
  | zero => exact absurd h (by simp; omega)
  | succ k => exact ⟨k, rfl, by rw [Nat.pow_succ] at h; omega⟩
theorem lt128 {left : Nat} {acc : List Nat} (h : ∀ x ∈ acc, x < 128) : ∀ x ∈ (left % 64 + 64) :: acc, x < 128 := by
  intro x hx
  rcases List.mem_cons.mp hx with rfl | hx
  · omega
  · exact h x hx
theorem getD_lt {ns : List Nat} (hb : ∀ n ∈ ns, n < 2 ^ 37) {i M : Nat} (hi : i < ns.length) (h : ns.getD i 0 = M) : M / 64 < 64 ^ 6 := by
  have : ns.getD i 0 < 2 ^ 37 := by
    rw [List.getD_eq_getElem?_getD, List.getElem?_eq_getElem hi]
    exact hb _ (List.getElem_mem _)
  omega
theorem oct_item {ovs : List Value} {mk : List Nat} (hOI : IntsAre ovs (natI mk)) {j : Nat} (h : j < mk.length) : ∃ tz, ovs.toArray[j]? = some (.int (mk[j] : Int) tz) := by
  obtain ⟨tz, hz⟩ := hOI.get j (mk[j] : Nat) (by simp [h])
  exact ⟨tz, by simpa using hz⟩
theorem oct_none {ovs : List Value} {mk : List Nat} (hOI : IntsAre ovs (natI mk)) {j : Nat} (h : ¬ j < mk.length) : ovs.toArray[j]? = none := by
  rw [List.getElem?_toArray, List.getElem?_eq_none (by rw [hOI.length, List.length_map]; omega)]

set_option maxHeartbeats 8000000 in
theorem written (w : World) (nl : Addr) (vs : List Value) (ns : List Nat) (nn : Nat) (hi : IntsAre vs (natI ns)) (h6 : ns.length = 6) (hb : ∀ n ∈ ns, n < 2 ^ 37) :
    FnSpec w 110 [.ref nl] [(nl, W.listOf vs.toArray nn)] 8 120
      (fun hi' v' n => n = [(nl, W.listOf vs.toArray nn)] ∧ ∃ u, v' = .str ⟨(wtext ns 6).toArray⟩ u) := by
  unfold FnSpec
  k_fill
  w_top off
  intro mean mg mb dp un gd cn cs a ccd cl outer A₀ base h₀ L m s Q others B F X N NO hdis T hk hd hu hret
  k_with "my binds" => exact BindsTo.of_eq (binds := [(Str.ofString "numbers", .ref nl)]) rfl
  k_dflt k_extra "my enter"
  k_steps
  unfold Stop
  (rename IsRange _ _ _ _ _ _ _ _ => hR); (rename Fr _ _ _ _ => F5); (rename News _ _ _ _ => N5)
  refine ri_start F5 N5 hR (by decide +kernel) ?_
  intro it hB F6 N6 l6
  k_lt l6
  (try k_unfold); (try dsimp only)
  have hnl : (natI ns).length = 6 := by rw [List.length_map, h6]
  refine codeAny_forLoop (fun n s' => ∃ (i : Nat) (tx : Tok) (u : Str → Option Value) (h : Heap) (tk : Nat), n = 6 - i ∧ i ≤ 6 ∧ (wtext ns i).length ≤ 15 * i ∧ s' = ⟨h, s.gens, s.drawn, tk, s.os⟩ ∧ Fr g' L' h (mp [(Str.ofString "text", .str ⟨(wtext ns i).toArray⟩ tx), (Str.ofString "numbers", .ref nl)] u) ∧
    News g' L' h [(it, riObj (i : Int) (6 - (i : Int))), (nl, W.listOf vs.toArray nn)]) (fun n s' hs => ?_) 6 ?_
  · try k_fold
    obtain ⟨i, tx, u1, h1, tk1, rfl, hi6, hwl, rfl, F1, N1⟩ := hs
    by_cases hlast : i < 6
    · refine ri_item F1 N1 (by k_updF) (by omega) ?_
      intro tq h4 tk4 F4 N4
      (try k_unfold); (try dsimp only at N4 ⊢)
      obtain ⟨oI, eI⟩ : ∃ o, o = riObj ((i : Int) + 1) (6 - (i : Int) - 1) := ⟨_, rfl⟩
      rw [← eI] at N4
      refine wpAny_assign_Name ?_
      k_steps
      unfold Stop
      (rename Fr _ _ _ _ => F8); (rename News _ _ _ _ => N8); (rename (_ < _ ∧ _ < _ ∧ True) => l8)
      obtain ⟨oN, eNL⟩ : ∃ o, o = W.listOf vs.toArray nn := ⟨_, rfl⟩
      rw [← eNL] at N8
      have hw : wtext ns (i + 1) = wtext ns i ++ (enc (octets (ns.getD i 0)) ++ [blankAt i]) := rfl
      unfold octets at hw
      generalize hbl : blankAt i = bl at hw
      generalize hNN : ns.getD i 0 = M at hw
      have eN := eN_of hNN
      have hM := getD_lt hb (by omega) hNN
      obtain ⟨wt2, ew2⟩ : ∃ x, x = wtext ns (i + 1) := ⟨_, rfl⟩
      rw [← ew2] at hw
      generalize wtext ns i = wt1 at hw hwl F8
      refine' join_w (z := s) (Pre := fun h5 tk5 => ∃ (mk : List Nat) (ovs : List Value) (ol2 : Addr) (onn : Nat) (u : Str → Option Value) (tx : Tok), IntsAre ovs (natI mk) ∧ (∀ x ∈ mk, x < 256) ∧ mk.length ≤ 7 ∧ (@LT.lt Nat _ it ol2 ∧ @LT.lt Nat _ nl ol2) ∧ wt2 = wt1 ++ (enc mk ++ [bl]) ∧
        Fr g' L' h5 (mp [(Str.ofString "octets", .ref ol2), (Str.ofString "text", .str ⟨wt1.toArray⟩ tx), (Str.ofString "place", .int (i : Int) tq), (Str.ofString "numbers", .ref nl)] u) ∧ News g' L' h5 [(ol2, W.listOf ovs.toArray onn), (it, oI), (nl, oN)]) (fun inner => ?main) ?inner
      case' main => skip
      refine While_inv2 (fun n m₁ nx => ∃ (left : Nat) (lz : Int) (acc : List Nat) (avs : List Value) (ol : Addr) (na k : Nat) (tl : Tok) (u : Str → Option Value) (tx : Tok), n = left ∧ lz = (left : Int) ∧ IntsAre avs (natI acc) ∧ octL left acc = octL (M / 64) [M % 64] ∧ left < 64 ^ k ∧ acc.length + k ≤ 7 ∧ (∀ x ∈ acc, x < 128) ∧ (@LT.lt Nat _ it ol ∧ @LT.lt Nat _ nl ol) ∧
        m₁ = mp [(Str.ofString "left", .int lz tl), (Str.ofString "octets", .ref ol), (Str.ofString "text", .str ⟨wt1.toArray⟩ tx), (Str.ofString "place", .int (i : Int) tq), (Str.ofString "numbers", .ref nl)] u ∧ nx = [(ol, W.listOf avs.toArray na), (it, oI), (nl, oN)])
        (fr_mp (ks := [(Str.ofString "left", .int ((M / 64 : Nat) : Int) _), (Str.ofString "octets", .ref _), (Str.ofString "text", .str ⟨wt1.toArray⟩ _), (Str.ofString "place", .int (i : Int) tq), (Str.ofString "numbers", .ref nl)]) F8 ⟨congrArg (fun z => some (Value.int z _)) ((congrArg (fun z => Int.fdiv z 64) eN).trans (fdiv64 M)), (by k_extra "my looks")⟩) N8 ⟨M / 64, _, [M % 64], [.int _ _], _, 0, 6, _, _, _, rfl, rfl, one_int ((congrArg (fun z => Int.fmod z 64) eN).trans (fmod64 M)), rfl, hM, Nat.le_refl 7, (fun x hx => by rw [List.mem_singleton.mp hx]; omega), ⟨l8.1, l8.2.1⟩, rfl, rfl⟩ ?_
      intro left m₁ nx h₁ tk₁ FW NW hI9
      try k_fold
      obtain ⟨left2, lz, acc, avs, ol, na, k, tl, u7, tx7, rfl, rfl, hia, ho, hlk, hak, hac, ⟨c1, c2⟩, rfl, rfl⟩ := hI9
      have hadd : 1 + acc.length ≤ sizeLine := Nat.le_trans (by omega : 1 + acc.length ≤ 8) (by decide)
      have hacl : (natI acc).length ≤ 7 := by rw [List.length_map]; omega
      rcases Nat.eq_zero_or_pos left with h0 | h0
      · have ho := octL_zero ho h0
        rw [← ho] at hw
        obtain ⟨lz, elz⟩ : ∃ z : Int, (left : Int) = z := ⟨_, rfl⟩
        rw [elz] at FW
        obtain rfl : lz = 0 := by omega
        k_steps
        · unfold Stop
          (rename Fr _ _ _ _ => FO); (rename News _ _ _ _ => NO9); (rename IntsAre _ _ => hOI); (rename 2 < _ => h2)
          rw [← mark_more h2] at hOI
          refine inner _ _ ⟨mark acc, _, _, _, _, _, hOI, mark_lt hac, by rw [mark_len]; omega, ?lts, hw, fr_mp FO (by k_extra "my looks"), cb_drop NO9 (by k_extra "my sub")⟩
          case lts => constructor <;> omega
        · unfold Stop
          (rename Fr _ _ _ _ => FO); (rename News _ _ _ _ => NO9); (rename ¬ (2 < _) => h2)
          have hmlt := mark_lt hac
          rw [mark_less h2] at hw hmlt
          refine inner _ _ ⟨acc, _, _, _, _, _, hia, hmlt, by omega, ⟨c1, c2⟩, hw, fr_mp FO (by k_extra "my looks"), cb_drop NO9 (by k_extra "my sub")⟩
      · k_steps
        rotate_left
        · exfalso; omega
        (rename News _ _ _ _ => NG); (rename Fr _ _ _ _ => FG); (rename IntsAre _ _ => iG)
        rw [fmod64] at iG
        obtain ⟨k2, rfl, hk2⟩ := pow_more hlk h0
        refine ⟨_, _, _, _, left / 64, rfl, fr_mp (ks := [(Str.ofString "left", .int ((left / 64 : Nat) : Int) _), (Str.ofString "octets", .ref _), (Str.ofString "text", .str ⟨wt1.toArray⟩ _), (Str.ofString "place", .int (i : Int) tq), (Str.ofString "numbers", .ref nl)]) FG ⟨congrArg (fun z => some (Value.int z _)) (fdiv64 left), (by k_extra "my looks")⟩, cb_drop (news := [(_, _), _, _]) NG (by k_extra "my sub"), by omega, left / 64, _, (left % 64 + 64) :: acc, _, _, _, k2, _, _, _, rfl, rfl, iG, octL_more ho h0, hk2, ?_, lt128 hac, ?_, rfl, rfl⟩
        · rw [List.length_cons]; omega
        · constructor <;> omega
      case inner =>
        intro h5 tk5 hI9
        try k_fold
        obtain ⟨mk, ovs, ol2, onn, u9, tx9, hOI, hmlt, hml, ⟨c1, c2⟩, hw9, FO, NO9⟩ := hI9
        refine wpAny_For ?_
        k_steps
        unfold Stop
        refine li_start FO NO9 (by k_mem) ?_
        intro it3 hB3 F33 N33 l33
        k_lt l33
        (try k_unfold); (try dsimp only)
        refine codeAny_forLoop (fun n s' => ∃ (j : Nat) (tx : Tok) (u : Str → Option Value) (h : Heap) (tk : Nat), n = mk.length - j ∧ j ≤ mk.length ∧ s' = ⟨h, s.gens, s.drawn, tk, s.os⟩ ∧ Fr g' L' h (mp [(Str.ofString "text", .str ⟨(wt1 ++ enc (mk.take j)).toArray⟩ tx), (Str.ofString "place", .int (i : Int) tq), (Str.ofString "numbers", .ref nl)] u) ∧
          News g' L' h [(it3, liObj ol2 j), (ol2, W.listOf ovs.toArray onn), (it, oI), (nl, oN)]) (fun n s' hs => ?_) mk.length ?_
        · try k_fold
          obtain ⟨j, tx3, u3, h3, tk3, rfl, hjm, rfl, F3, N3⟩ := hs
          by_cases hlast3 : j < mk.length
          · obtain ⟨tz, hz⟩ := oct_item hOI hlast3
            have hjl : (wt1 ++ enc (mk.take j)).length ≤ 500 := enc_take_le hwl hlast hml
            have hes := enc_take hlast3 wt1
            have ho256 : mk[j] < 256 := hmlt _ (List.getElem_mem _)
            generalize mk[j] = o at hz hes ho256
            generalize hpw : wt1 ++ enc (mk.take j) = pw at hes hjl F3
            refine li_item F3 N3 (by k_updF) (by k_mem) hz ?_
            intro h43 F43 N43
            (try k_unfold); (try dsimp only at N43 ⊢)
            refine wpAny_assign_Name ?_
            cases hso : special o with
            | true =>
              have hes := hes true hso
              k_steps
              unfold Stop
              (rename News _ _ _ _ => NG); (rename Fr _ _ _ _ => FG)
              (try k_unfold); (try dsimp only)
              refine ⟨mk.length - (j + 1), by omega, j + 1, _, _, _, _, rfl, by omega, rfl, fr_mp FG ⟨congrArg (fun z => some (Value.str z _)) ((str_two _ _).trans (by rw [hes]; rfl)), (by k_extra "my looks")⟩, cb_drop NG (by k_extra "my sub")⟩
            | false =>
              have hes := hes false hso
              k_steps
              unfold Stop
              (rename News _ _ _ _ => NG); (rename Fr _ _ _ _ => FG)
              (try k_unfold); (try dsimp only)
              refine ⟨mk.length - (j + 1), by omega, j + 1, _, _, _, _, rfl, by omega, rfl, fr_mp FG ⟨congrArg (fun z => some (Value.str z _)) ((str_one _ _).trans (by rw [hes]; rfl)), (by k_extra "my looks")⟩, cb_drop NG (by k_extra "my sub")⟩
          · refine li_end rfl F3 N3 (by k_mem) (by k_mem) (oct_none hOI hlast3) (rest := [(it, oI), (nl, oN)]) (by k_extra "my sub") (ne_of (by k_extra "my nel")) ?_
            intro h43 F43 N43
            (try k_unfold); (try dsimp only)
            obtain rfl : j = mk.length := by omega
            rw [List.take_length] at F43
            have hjl : (wt1 ++ enc mk).length ≤ 500 := by
              have := enc_take_le (j := mk.length) hwl hlast hml
              rwa [List.take_length] at this
            k_steps
            unfold Stop
            (rename News _ _ _ _ => NG); (rename Fr _ _ _ _ => FG)
            (try k_unfold); (try dsimp only)
            subst eI
            subst eNL
            rw [riObj_next rfl rfl] at NG
            refine ⟨6 - (i + 1), by omega, i + 1, _, _, _, _, rfl, by omega, ew2 ▸ wt_le hwl hml hw9, rfl, fr_mp FG ⟨congrArg (fun z => some (Value.str z _)) ((text_next hlast hbl.symm hw9).trans (by rw [ew2])), (by k_extra "my looks")⟩, NG⟩
        · refine ⟨0, _, _, hB3, _, by omega, by omega, rfl, fr_mp F33 ⟨congrArg (fun z => some (Value.str z _)) (show _ = Str.mk (wt1 ++ enc (mk.take 0)).toArray by simp [enc]), (by k_extra "my looks")⟩, N33⟩
    · obtain rfl : i = 6 := by omega
      refine ri_end rfl F1 N1 (by k_mem) (by omega) (rest := [(nl, W.listOf vs.toArray nn)]) (by k_extra "my sub") (ne_of (by k_extra "my nel")) ?_
      intro h43 F43 N43
      (try k_unfold); (try dsimp only)
      k_steps
      (rename News h₀ L _ _ => kN9); (rename Fr h₀ L _ _ => kF9)
      exact left_end hret lN' lO' kF9 kN9 ⟨rfl, _, rfl⟩ (by k_extra "my sub")
  · refine ⟨0, _, _, hB, _, by omega, by omega, Nat.le_refl _, rfl, fr_mp F6 ⟨congrArg (fun z => some (Value.str z _)) (show Str.ofString "" = ⟨#[]⟩ from by decide +kernel), (by k_extra "my looks")⟩, N6⟩
end Mine

namespace Mine
theorem wdDrawn_0 : True := by
  k_with_none
  k_with "my enter" => (refine' code_defS ?k1 ?k2 ?k3 ?k4 ?kO ?kD ?k5 ?kA ?kF ?kK ?k6 ?k7 ?k8 ?k9 ?kB ?_ ?c2 ?c3 ?c4 ?c5; (case kA => exact rfl); (case kF => exact rfl); (case kK => assumption); (case kD => assumption); (case k1 => k_asm); (case k2 => k_asm); (case k3 => k_asm); (case k4 => assumption); (case kO => assumption); (case k5 => k_asm); (case k6 => k_is); (case k7 => k_is); (case k8 => ktr_room); (case k9 => first | k_extra "my binds" | exact BindsTo.of_eq rfl); (case c5 => decide); (case kB => exact locs rfl); (case c2 => exact rfl); (case c3 => exact rfl); (case c4 => exact rfl); k_whole; intro g' L' h' FG' F' N' B' X' T' lN' lO'; (try dsimp only); (try k_lift B'); (try k_fold))
  k_with "my sub" => repeat (first | exact sub_nil | refine sub_cons (by k_mem) ?_)
  k_with "my spec" => ((case k1 => k_asm); (case k2 => k_asm); (case k3 => k_asm); (case k4 => k_asm); (case k5 => k_asm); (case k6 => exact rfl); (case k7 => ktr_room); (case k8 => ktr_units); (case h1 => k_extra "my sub"); (case h2 => k_extra "my sub"); (case h3 => k_extra "my dis"); k_whole)
  k_with "my enterC" => (refine' code_defCS ?k1 ?k2 ?k3 ?k4 ?kO ?kQ ?k5 ?kA ?kF ?kK ?k6 ?k7 ?k8 ?k9 ?kB ?kD ?_ ?c2 ?c3 ?c4; (case kA => exact rfl); (case kF => exact rfl); (case kK => assumption); (case kQ => assumption); (case k1 => k_asm); (case k2 => k_asm); (case k3 => k_asm); (case k4 => assumption); (case kO => assumption); (case k5 => k_asm); (case k6 => k_is); (case k7 => k_is); (case k8 => ktr_room); (case k9 => first | k_extra "my binds" | exact BindsTo.of_eq rfl); (case kB => exact rfl); (case kD => decide +kernel); (case c2 => exact rfl); (case c3 => exact rfl); (case c4 => exact rfl); k_whole; intro g' L' h' tk' cells' FG' F' N' Y' B' X' T' lN' lO'; (have l1' := lN'); (try k_lt l1'); k_cells Y'; (try simp only [List.cons_append, List.nil_append] at N'); (try dsimp only); (try k_lift B'); (try k_fold))
  k_with "my dis" => (refine dis_of ?_; dsimp only [DisL, OffL]; ((repeat' first | exact True.intro | refine And.intro ?_ ?_) <;> first | k_extra "ne" | omega))
  k_with "my nel" => (dsimp only [NeL]; ((repeat' first | exact True.intro | refine And.intro ?_ ?_) <;> first | k_extra "ne" | omega))
  k_with "k ne" => (refine neN ?_; (try dsimp only); k_extra "ne")
  k_with "ne" => (first | with_reducible assumption | exact Nat.ne_of_lt (by with_reducible assumption) | exact Nat.ne_of_gt (by with_reducible assumption) | exact Ne.symm (by with_reducible assumption) | ((repeat (rename (_ < _ ∧ _) => qz; first | (refine ne_r qz ?_; first | exact qz.1 | exact qz.2.1 | exact qz.2.2.1 | exact qz.2.2.2.1 | exact qz.2.2.2.2.1 | exact qz.2.2.2.2.2.1 | exact qz.2.2.2.2.2.2.1 | exact qz.2.2.2.2.2.2.2.1 | exact qz.2.2.2.2.2.2.2.2.1 | exact qz.2.2.2.2.2.2.2.2.2.1 | exact qz.2.2.2.2.2.2.2.2.2.2.1 | exact qz.2.2.2.2.2.2.2.2.2.2.2.1 | exact qz.2.2.2.2.2.2.2.2.2.2.2.2.1 | exact qz.2.2.2.2.2.2.2.2.2.2.2.2.2.1 | exact qz.2.2.2.2.2.2.2.2.2.2.2.2.2.2.1 | exact qz.2.2.2.2.2.2.2.2.2.2.2.2.2.2.2.1 | exact qz.2.2.2.2.2.2.2.2.2.2.2.2.2.2.2.2.1 | exact qz.2.2.2.2.2.2.2.2.2.2.2.2.2.2.2.2.2.1) | (refine ne_l qz ?_; first | exact qz.1 | exact qz.2.1 | exact qz.2.2.1 | exact qz.2.2.2.1 | exact qz.2.2.2.2.1 | exact qz.2.2.2.2.2.1 | exact qz.2.2.2.2.2.2.1 | exact qz.2.2.2.2.2.2.2.1 | exact qz.2.2.2.2.2.2.2.2.1 | exact qz.2.2.2.2.2.2.2.2.2.1 | exact qz.2.2.2.2.2.2.2.2.2.2.1 | exact qz.2.2.2.2.2.2.2.2.2.2.2.1 | exact qz.2.2.2.2.2.2.2.2.2.2.2.2.1 | exact qz.2.2.2.2.2.2.2.2.2.2.2.2.2.1 | exact qz.2.2.2.2.2.2.2.2.2.2.2.2.2.2.1 | exact qz.2.2.2.2.2.2.2.2.2.2.2.2.2.2.2.1 | exact qz.2.2.2.2.2.2.2.2.2.2.2.2.2.2.2.2.1 | exact qz.2.2.2.2.2.2.2.2.2.2.2.2.2.2.2.2.2.1) | clear qz)); done) | k_extra "ne cells" | k_extra "ne one" | k_extra "ne off" | k_extra "ne up")
  k_with "ne cells" => (first | exact ne_off (i := 0) (j := 1) rfl | exact ne_off (i := 0) (j := 2) rfl | exact ne_off (i := 0) (j := 3) rfl | exact ne_off (i := 0) (j := 4) rfl | exact ne_off (i := 1) (j := 0) rfl | exact ne_off (i := 1) (j := 2) rfl | exact ne_off (i := 1) (j := 3) rfl | exact ne_off (i := 1) (j := 4) rfl | exact ne_off (i := 2) (j := 0) rfl | exact ne_off (i := 2) (j := 1) rfl | exact ne_off (i := 2) (j := 3) rfl | exact ne_off (i := 2) (j := 4) rfl | exact ne_off (i := 3) (j := 0) rfl | exact ne_off (i := 3) (j := 1) rfl | exact ne_off (i := 3) (j := 2) rfl | exact ne_off (i := 3) (j := 4) rfl | exact ne_off (i := 4) (j := 0) rfl | exact ne_off (i := 4) (j := 1) rfl | exact ne_off (i := 4) (j := 2) rfl | exact ne_off (i := 4) (j := 3) rfl)
  k_with "ne up" => (first | exact Nat.ne_of_lt (lt_up1 (by with_reducible assumption)) | exact Nat.ne_of_gt (lt_up1 (by with_reducible assumption)) | exact Nat.ne_of_lt (lt_up2 (by with_reducible assumption)) | exact Nat.ne_of_gt (lt_up2 (by with_reducible assumption)) | exact Nat.ne_of_lt (lt_up3 (by with_reducible assumption)) | exact Nat.ne_of_gt (lt_up3 (by with_reducible assumption)) | exact Nat.ne_of_lt (lt_up4 (by with_reducible assumption)) | exact Nat.ne_of_gt (lt_up4 (by with_reducible assumption)) | ((repeat (rename (_ < _ ∧ _) => qz; first | (refine ne_r1 qz ?_; first | exact qz.1 | exact qz.2.1 | exact qz.2.2.1 | exact qz.2.2.2.1 | exact qz.2.2.2.2.1 | exact qz.2.2.2.2.2.1 | exact qz.2.2.2.2.2.2.1 | exact qz.2.2.2.2.2.2.2.1 | exact qz.2.2.2.2.2.2.2.2.1 | exact qz.2.2.2.2.2.2.2.2.2.1 | exact qz.2.2.2.2.2.2.2.2.2.2.1 | exact qz.2.2.2.2.2.2.2.2.2.2.2.1 | exact qz.2.2.2.2.2.2.2.2.2.2.2.2.1 | exact qz.2.2.2.2.2.2.2.2.2.2.2.2.2.1 | exact qz.2.2.2.2.2.2.2.2.2.2.2.2.2.2.1 | exact qz.2.2.2.2.2.2.2.2.2.2.2.2.2.2.2.1 | exact qz.2.2.2.2.2.2.2.2.2.2.2.2.2.2.2.2.1 | exact qz.2.2.2.2.2.2.2.2.2.2.2.2.2.2.2.2.2.1) | (refine ne_l1 qz ?_; first | exact qz.1 | exact qz.2.1 | exact qz.2.2.1 | exact qz.2.2.2.1 | exact qz.2.2.2.2.1 | exact qz.2.2.2.2.2.1 | exact qz.2.2.2.2.2.2.1 | exact qz.2.2.2.2.2.2.2.1 | exact qz.2.2.2.2.2.2.2.2.1 | exact qz.2.2.2.2.2.2.2.2.2.1 | exact qz.2.2.2.2.2.2.2.2.2.2.1 | exact qz.2.2.2.2.2.2.2.2.2.2.2.1 | exact qz.2.2.2.2.2.2.2.2.2.2.2.2.1 | exact qz.2.2.2.2.2.2.2.2.2.2.2.2.2.1 | exact qz.2.2.2.2.2.2.2.2.2.2.2.2.2.2.1 | exact qz.2.2.2.2.2.2.2.2.2.2.2.2.2.2.2.1 | exact qz.2.2.2.2.2.2.2.2.2.2.2.2.2.2.2.2.1 | exact qz.2.2.2.2.2.2.2.2.2.2.2.2.2.2.2.2.2.1) | (refine ne_r2 qz ?_; first | exact qz.1 | exact qz.2.1 | exact qz.2.2.1 | exact qz.2.2.2.1 | exact qz.2.2.2.2.1 | exact qz.2.2.2.2.2.1 | exact qz.2.2.2.2.2.2.1 | exact qz.2.2.2.2.2.2.2.1 | exact qz.2.2.2.2.2.2.2.2.1 | exact qz.2.2.2.2.2.2.2.2.2.1 | exact qz.2.2.2.2.2.2.2.2.2.2.1 | exact qz.2.2.2.2.2.2.2.2.2.2.2.1 | exact qz.2.2.2.2.2.2.2.2.2.2.2.2.1 | exact qz.2.2.2.2.2.2.2.2.2.2.2.2.2.1 | exact qz.2.2.2.2.2.2.2.2.2.2.2.2.2.2.1 | exact qz.2.2.2.2.2.2.2.2.2.2.2.2.2.2.2.1 | exact qz.2.2.2.2.2.2.2.2.2.2.2.2.2.2.2.2.1 | exact qz.2.2.2.2.2.2.2.2.2.2.2.2.2.2.2.2.2.1) | (refine ne_l2 qz ?_; first | exact qz.1 | exact qz.2.1 | exact qz.2.2.1 | exact qz.2.2.2.1 | exact qz.2.2.2.2.1 | exact qz.2.2.2.2.2.1 | exact qz.2.2.2.2.2.2.1 | exact qz.2.2.2.2.2.2.2.1 | exact qz.2.2.2.2.2.2.2.2.1 | exact qz.2.2.2.2.2.2.2.2.2.1 | exact qz.2.2.2.2.2.2.2.2.2.2.1 | exact qz.2.2.2.2.2.2.2.2.2.2.2.1 | exact qz.2.2.2.2.2.2.2.2.2.2.2.2.1 | exact qz.2.2.2.2.2.2.2.2.2.2.2.2.2.1 | exact qz.2.2.2.2.2.2.2.2.2.2.2.2.2.2.1 | exact qz.2.2.2.2.2.2.2.2.2.2.2.2.2.2.2.1 | exact qz.2.2.2.2.2.2.2.2.2.2.2.2.2.2.2.2.1 | exact qz.2.2.2.2.2.2.2.2.2.2.2.2.2.2.2.2.2.1) | (refine ne_r3 qz ?_; first | exact qz.1 | exact qz.2.1 | exact qz.2.2.1 | exact qz.2.2.2.1 | exact qz.2.2.2.2.1 | exact qz.2.2.2.2.2.1 | exact qz.2.2.2.2.2.2.1 | exact qz.2.2.2.2.2.2.2.1 | exact qz.2.2.2.2.2.2.2.2.1 | exact qz.2.2.2.2.2.2.2.2.2.1 | exact qz.2.2.2.2.2.2.2.2.2.2.1 | exact qz.2.2.2.2.2.2.2.2.2.2.2.1 | exact qz.2.2.2.2.2.2.2.2.2.2.2.2.1 | exact qz.2.2.2.2.2.2.2.2.2.2.2.2.2.1 | exact qz.2.2.2.2.2.2.2.2.2.2.2.2.2.2.1 | exact qz.2.2.2.2.2.2.2.2.2.2.2.2.2.2.2.1 | exact qz.2.2.2.2.2.2.2.2.2.2.2.2.2.2.2.2.1 | exact qz.2.2.2.2.2.2.2.2.2.2.2.2.2.2.2.2.2.1) | (refine ne_l3 qz ?_; first | exact qz.1 | exact qz.2.1 | exact qz.2.2.1 | exact qz.2.2.2.1 | exact qz.2.2.2.2.1 | exact qz.2.2.2.2.2.1 | exact qz.2.2.2.2.2.2.1 | exact qz.2.2.2.2.2.2.2.1 | exact qz.2.2.2.2.2.2.2.2.1 | exact qz.2.2.2.2.2.2.2.2.2.1 | exact qz.2.2.2.2.2.2.2.2.2.2.1 | exact qz.2.2.2.2.2.2.2.2.2.2.2.1 | exact qz.2.2.2.2.2.2.2.2.2.2.2.2.1 | exact qz.2.2.2.2.2.2.2.2.2.2.2.2.2.1 | exact qz.2.2.2.2.2.2.2.2.2.2.2.2.2.2.1 | exact qz.2.2.2.2.2.2.2.2.2.2.2.2.2.2.2.1 | exact qz.2.2.2.2.2.2.2.2.2.2.2.2.2.2.2.2.1 | exact qz.2.2.2.2.2.2.2.2.2.2.2.2.2.2.2.2.2.1) | (refine ne_r4 qz ?_; first | exact qz.1 | exact qz.2.1 | exact qz.2.2.1 | exact qz.2.2.2.1 | exact qz.2.2.2.2.1 | exact qz.2.2.2.2.2.1 | exact qz.2.2.2.2.2.2.1 | exact qz.2.2.2.2.2.2.2.1 | exact qz.2.2.2.2.2.2.2.2.1 | exact qz.2.2.2.2.2.2.2.2.2.1 | exact qz.2.2.2.2.2.2.2.2.2.2.1 | exact qz.2.2.2.2.2.2.2.2.2.2.2.1 | exact qz.2.2.2.2.2.2.2.2.2.2.2.2.1 | exact qz.2.2.2.2.2.2.2.2.2.2.2.2.2.1 | exact qz.2.2.2.2.2.2.2.2.2.2.2.2.2.2.1 | exact qz.2.2.2.2.2.2.2.2.2.2.2.2.2.2.2.1 | exact qz.2.2.2.2.2.2.2.2.2.2.2.2.2.2.2.2.1 | exact qz.2.2.2.2.2.2.2.2.2.2.2.2.2.2.2.2.2.1) | (refine ne_l4 qz ?_; first | exact qz.1 | exact qz.2.1 | exact qz.2.2.1 | exact qz.2.2.2.1 | exact qz.2.2.2.2.1 | exact qz.2.2.2.2.2.1 | exact qz.2.2.2.2.2.2.1 | exact qz.2.2.2.2.2.2.2.1 | exact qz.2.2.2.2.2.2.2.2.1 | exact qz.2.2.2.2.2.2.2.2.2.1 | exact qz.2.2.2.2.2.2.2.2.2.2.1 | exact qz.2.2.2.2.2.2.2.2.2.2.2.1 | exact qz.2.2.2.2.2.2.2.2.2.2.2.2.1 | exact qz.2.2.2.2.2.2.2.2.2.2.2.2.2.1 | exact qz.2.2.2.2.2.2.2.2.2.2.2.2.2.2.1 | exact qz.2.2.2.2.2.2.2.2.2.2.2.2.2.2.2.1 | exact qz.2.2.2.2.2.2.2.2.2.2.2.2.2.2.2.2.1 | exact qz.2.2.2.2.2.2.2.2.2.2.2.2.2.2.2.2.2.1) | clear qz)); done))
  k_with "execs cons" => k_fold
  k_with "exec Assign" => k_fold
  k_with "exec If" => k_fold
  k_with "exec AugAssign" => k_fold
  k_with "my looks" => (repeat' first | exact True.intro | (refine And.intro ?_ ?_) | with_unfolding_all rfl)
  k_with "ne off" => ((repeat (rename (LCg.Off3 _ _ _ _) => qo; first | exact qo.1.1 | exact Ne.symm qo.1.1 | exact qo.1.2.1 | exact Ne.symm qo.1.2.1 | exact qo.1.2.2 | exact Ne.symm qo.1.2.2 | exact qo.2.1.1 | exact Ne.symm qo.2.1.1 | exact qo.2.1.2.1 | exact Ne.symm qo.2.1.2.1 | exact qo.2.1.2.2 | exact Ne.symm qo.2.1.2.2 | exact qo.2.2.1.1 | exact Ne.symm qo.2.2.1.1 | exact qo.2.2.1.2.1 | exact Ne.symm qo.2.2.1.2.1 | exact qo.2.2.1.2.2 | exact Ne.symm qo.2.2.1.2.2 | exact qo.2.2.2.1.1 | exact Ne.symm qo.2.2.2.1.1 | exact qo.2.2.2.1.2.1 | exact Ne.symm qo.2.2.2.1.2.1 | exact qo.2.2.2.1.2.2 | exact Ne.symm qo.2.2.2.1.2.2 | exact qo.2.2.2.2.1.1 | exact Ne.symm qo.2.2.2.2.1.1 | exact qo.2.2.2.2.1.2.1 | exact Ne.symm qo.2.2.2.2.1.2.1 | exact qo.2.2.2.2.1.2.2 | exact Ne.symm qo.2.2.2.2.1.2.2 | exact qo.2.2.2.2.2.1.1 | exact Ne.symm qo.2.2.2.2.2.1.1 | exact qo.2.2.2.2.2.1.2.1 | exact Ne.symm qo.2.2.2.2.2.1.2.1 | exact qo.2.2.2.2.2.1.2.2 | exact Ne.symm qo.2.2.2.2.2.1.2.2 | exact qo.2.2.2.2.2.2.1.1 | exact Ne.symm qo.2.2.2.2.2.2.1.1 | exact qo.2.2.2.2.2.2.1.2.1 | exact Ne.symm qo.2.2.2.2.2.2.1.2.1 | exact qo.2.2.2.2.2.2.1.2.2 | exact Ne.symm qo.2.2.2.2.2.2.1.2.2 | exact qo.2.2.2.2.2.2.2.1.1 | exact Ne.symm qo.2.2.2.2.2.2.2.1.1 | exact qo.2.2.2.2.2.2.2.1.2.1 | exact Ne.symm qo.2.2.2.2.2.2.2.1.2.1 | exact qo.2.2.2.2.2.2.2.1.2.2 | exact Ne.symm qo.2.2.2.2.2.2.2.1.2.2 | exact qo.2.2.2.2.2.2.2.2.1.1 | exact Ne.symm qo.2.2.2.2.2.2.2.2.1.1 | exact qo.2.2.2.2.2.2.2.2.1.2.1 | exact Ne.symm qo.2.2.2.2.2.2.2.2.1.2.1 | exact qo.2.2.2.2.2.2.2.2.1.2.2 | exact Ne.symm qo.2.2.2.2.2.2.2.2.1.2.2 | exact qo.2.2.2.2.2.2.2.2.2.1.1 | exact Ne.symm qo.2.2.2.2.2.2.2.2.2.1.1 | exact qo.2.2.2.2.2.2.2.2.2.1.2.1 | exact Ne.symm qo.2.2.2.2.2.2.2.2.2.1.2.1 | exact qo.2.2.2.2.2.2.2.2.2.1.2.2 | exact Ne.symm qo.2.2.2.2.2.2.2.2.2.1.2.2 | exact qo.2.2.2.2.2.2.2.2.2.2.1.1 | exact Ne.symm qo.2.2.2.2.2.2.2.2.2.2.1.1 | exact qo.2.2.2.2.2.2.2.2.2.2.1.2.1 | exact Ne.symm qo.2.2.2.2.2.2.2.2.2.2.1.2.1 | exact qo.2.2.2.2.2.2.2.2.2.2.1.2.2 | exact Ne.symm qo.2.2.2.2.2.2.2.2.2.2.1.2.2 | exact qo.2.2.2.2.2.2.2.2.2.2.2.1.1 | exact Ne.symm qo.2.2.2.2.2.2.2.2.2.2.2.1.1 | exact qo.2.2.2.2.2.2.2.2.2.2.2.1.2.1 | exact Ne.symm qo.2.2.2.2.2.2.2.2.2.2.2.1.2.1 | exact qo.2.2.2.2.2.2.2.2.2.2.2.1.2.2 | exact Ne.symm qo.2.2.2.2.2.2.2.2.2.2.2.1.2.2 | exact qo.2.2.2.2.2.2.2.2.2.2.2.2.1.1 | exact Ne.symm qo.2.2.2.2.2.2.2.2.2.2.2.2.1.1 | exact qo.2.2.2.2.2.2.2.2.2.2.2.2.1.2.1 | exact Ne.symm qo.2.2.2.2.2.2.2.2.2.2.2.2.1.2.1 | exact qo.2.2.2.2.2.2.2.2.2.2.2.2.1.2.2 | exact Ne.symm qo.2.2.2.2.2.2.2.2.2.2.2.2.1.2.2 | exact qo.2.2.2.2.2.2.2.2.2.2.2.2.2.1.1 | exact Ne.symm qo.2.2.2.2.2.2.2.2.2.2.2.2.2.1.1 | exact qo.2.2.2.2.2.2.2.2.2.2.2.2.2.1.2.1 | exact Ne.symm qo.2.2.2.2.2.2.2.2.2.2.2.2.2.1.2.1 | exact qo.2.2.2.2.2.2.2.2.2.2.2.2.2.1.2.2 | exact Ne.symm qo.2.2.2.2.2.2.2.2.2.2.2.2.2.1.2.2 | exact qo.2.2.2.2.2.2.2.2.2.2.2.2.2.2.1.1 | exact Ne.symm qo.2.2.2.2.2.2.2.2.2.2.2.2.2.2.1.1 | exact qo.2.2.2.2.2.2.2.2.2.2.2.2.2.2.1.2.1 | exact Ne.symm qo.2.2.2.2.2.2.2.2.2.2.2.2.2.2.1.2.1 | exact qo.2.2.2.2.2.2.2.2.2.2.2.2.2.2.1.2.2 | exact Ne.symm qo.2.2.2.2.2.2.2.2.2.2.2.2.2.2.1.2.2 | exact qo.2.2.2.2.2.2.2.2.2.2.2.2.2.2.2.1.1 | exact Ne.symm qo.2.2.2.2.2.2.2.2.2.2.2.2.2.2.2.1.1 | exact qo.2.2.2.2.2.2.2.2.2.2.2.2.2.2.2.1.2.1 | exact Ne.symm qo.2.2.2.2.2.2.2.2.2.2.2.2.2.2.2.1.2.1 | exact qo.2.2.2.2.2.2.2.2.2.2.2.2.2.2.2.1.2.2 | exact Ne.symm qo.2.2.2.2.2.2.2.2.2.2.2.2.2.2.2.1.2.2 | exact qo.2.2.2.2.2.2.2.2.2.2.2.2.2.2.2.2.1.1 | exact Ne.symm qo.2.2.2.2.2.2.2.2.2.2.2.2.2.2.2.2.1.1 | exact qo.2.2.2.2.2.2.2.2.2.2.2.2.2.2.2.2.1.2.1 | exact Ne.symm qo.2.2.2.2.2.2.2.2.2.2.2.2.2.2.2.2.1.2.1 | exact qo.2.2.2.2.2.2.2.2.2.2.2.2.2.2.2.2.1.2.2 | exact Ne.symm qo.2.2.2.2.2.2.2.2.2.2.2.2.2.2.2.2.1.2.2 | clear qo)); done)
  k_with "lt" => (first | with_reducible assumption | ((repeat (rename (_ < _ ∧ _) => qz; first | exact qz.1 | exact qz.2.1 | exact qz.2.2.1 | exact qz.2.2.2.1 | exact qz.2.2.2.2.1 | exact qz.2.2.2.2.2.1 | exact qz.2.2.2.2.2.2.1 | exact qz.2.2.2.2.2.2.2.1 | exact qz.2.2.2.2.2.2.2.2.1 | exact qz.2.2.2.2.2.2.2.2.2.1 | exact qz.2.2.2.2.2.2.2.2.2.2.1 | exact qz.2.2.2.2.2.2.2.2.2.2.2.1 | exact qz.2.2.2.2.2.2.2.2.2.2.2.2.1 | exact qz.2.2.2.2.2.2.2.2.2.2.2.2.2.1 | exact qz.2.2.2.2.2.2.2.2.2.2.2.2.2.2.1 | exact qz.2.2.2.2.2.2.2.2.2.2.2.2.2.2.2.1 | exact qz.2.2.2.2.2.2.2.2.2.2.2.2.2.2.2.2.1 | exact qz.2.2.2.2.2.2.2.2.2.2.2.2.2.2.2.2.2.1 | clear qz)); done))
  k_with "ne one" => ((repeat (rename (_ ≠ _ ∧ _) => qo; first | exact qo.1 | exact Ne.symm qo.1 | exact qo.2.1 | exact Ne.symm qo.2.1 | exact qo.2.2.1 | exact Ne.symm qo.2.2.1 | exact qo.2.2.2.1 | exact Ne.symm qo.2.2.2.1 | exact qo.2.2.2.2.1 | exact Ne.symm qo.2.2.2.2.1 | exact qo.2.2.2.2.2.1 | exact Ne.symm qo.2.2.2.2.2.1 | exact qo.2.2.2.2.2.2.1 | exact Ne.symm qo.2.2.2.2.2.2.1 | exact qo.2.2.2.2.2.2.2.1 | exact Ne.symm qo.2.2.2.2.2.2.2.1 | exact qo.2.2.2.2.2.2.2.2.1 | exact Ne.symm qo.2.2.2.2.2.2.2.2.1 | exact qo.2.2.2.2.2.2.2.2.2.1 | exact Ne.symm qo.2.2.2.2.2.2.2.2.2.1 | exact qo.2.2.2.2.2.2.2.2.2.2.1 | exact Ne.symm qo.2.2.2.2.2.2.2.2.2.2.1 | exact qo.2.2.2.2.2.2.2.2.2.2.2.1 | exact Ne.symm qo.2.2.2.2.2.2.2.2.2.2.2.1 | exact qo.2.2.2.2.2.2.2.2.2.2.2.2.1 | exact Ne.symm qo.2.2.2.2.2.2.2.2.2.2.2.2.1 | exact qo.2.2.2.2.2.2.2.2.2.2.2.2.2.1 | exact Ne.symm qo.2.2.2.2.2.2.2.2.2.2.2.2.2.1 | exact qo.2.2.2.2.2.2.2.2.2.2.2.2.2.2.1 | exact Ne.symm qo.2.2.2.2.2.2.2.2.2.2.2.2.2.2.1 | exact qo.2.2.2.2.2.2.2.2.2.2.2.2.2.2.2.1 | exact Ne.symm qo.2.2.2.2.2.2.2.2.2.2.2.2.2.2.2.1 | exact qo.2.2.2.2.2.2.2.2.2.2.2.2.2.2.2.2.1 | exact Ne.symm qo.2.2.2.2.2.2.2.2.2.2.2.2.2.2.2.2.1 | clear qo)); done)
  trivial
set_option maxRecDepth 100000


noncomputable def FnSpecH (w : World) (P : Heap → Prop) (f : Addr) (vs : List Value) (news : Led) (rd ru : Nat) (Post : Addr → Value → Led → Prop) : Prop :=
  ∀ (mean : ExcName → Option Value) (mg mb : Str → Option Value) (dp un : Nat) (gd : Option (List Code)) (cn : Str) (cs : Scope) (a : Addr) (ccd : Value) (cl : List (Str × Addr)) (outer : List Env) (A₀ : Around) (base h₀ : Heap) (L : Addr) (m : Str → Option Value) (s : Shared) (R : Result → Shared → Prop) (others : Led),
    P h₀ → Below A₀ base outer h₀ → Fr h₀ L s.heap m → (Mine.hd.heap_39 w.params).In h₀ → News h₀ L s.heap news → News h₀ L s.heap others → (∀ p ∈ others, p.1 ∉ news.map (·.1)) →
    Top topProg (looseW Mine.hd.view_39 [] ++ List.map (fun x => x.name) (recsOf Mine.hd.view_39) ++
        List.map (fun x => x.fst) (litsOf Mine.hd.view_39) ++
      List.map (fun x => x.name) (clssOf Mine.hd.view_39 (looseW Mine.hd.view_39 []))) mean mg mb h₀ → cs.kind = .function →
    dp + rd < recursionLimit → un + ru < cLine →
    (∀ hi v news' h' tk', (∀ p ∈ news, p.1 < hi) → (∀ p ∈ others, p.1 < hi) → Post hi v news' → Fr h₀ L h' m → News h₀ L h' news' → News h₀ L h' others → R (.ok (.ret v)) { s with heap := h', toks := tk' }) →
    codeAny (model Challenge.rw_wk0009_01.row.prog w) (ktrTop dp un gd cn cs L a ccd cl outer) (.call (.ref f) ⟨vs, []⟩) R s

noncomputable def Stop3 (P : Prop) : Prop := P
theorem stop3 {P : Prop} (h : Stop3 P) : P := h
section
variable {prog : Program} {w : World} {A : Around} {E : Value → Shared → Prop} {s : Shared} {h₀ : Heap} {L l : Addr} {m : Str → Option Value} {news : Led} {value slice : PySem.Expr} {vs : List Value} {ns : List Int} {vl vu vk : Value} {lo hi st : Option Int} {ops : List Value} {Q : Value → Shared → Prop}
theorem slice3_ints (F : Fr h₀ L s.heap m) (N : News h₀ L s.heap news) (hl : s.heap.IsList l vs.toArray) (pl : IsPart vl lo) (pu : IsPart vu hi) (pk : IsPart vk st) (h0 : st ≠ some 0) (hi' : IntsAre vs ns) (hz : ns.length ≤ 1000)
    (h : ∀ D ws h', Fr h₀ L h' m → News h₀ L h' ((D, W.listOf (List.toArray ws) 0) :: news) → (∀ p ∈ news, p.1 < D) → IntsAre ws (pickNums ns lo hi st) → (pickNums ns lo hi st).length ≤ 1000 → Q (.ref D) { s with heap := h' })
    (hs : subscripted slice false (.ref l) (.ref s.heap.objs.size) = operate ops (getItem (.ref l) (.ref s.heap.objs.size))) (ht : ∀ r, letTemporaryGo value (.ref l) r = pure ()) :
    wpAny (model prog w) A (subscriptTail value slice (.ref l) (.ref s.heap.objs.size)) Q E { s with heap := s.heap.push { cls := .type "slice", data := .fields #[vl, vu, vk] } } := by
  refine slice_list3 F N hl pl pu pk h0 (fun h' F' N' => h _ (slicePick vs.toArray lo hi st).toList h' F' ?_ (fun p hp => Nat.lt_succ_of_lt (Heap.lt_size (N p hp).1)) (hi'.pick lo hi st) (Nat.le_trans (length_pickNums_le hi' lo hi st) hz)) hs ht ?_
  · rw [Array.toArray_toList]
    exact N'
  · rw [List.size_toArray, hi'.length, sizeLine_eq]; omega
end
theorem wdDrawn_48 : True := by
  k_with "eval ListComp" => (k_here; k_dflt (refine LCg.ListComp_U (F₀ := by k_asm) (by with_unfolding_all rfl) (by decide) (by rfl) (by decide) (by rfl) ?_))
  trivial
theorem wdDrawn_49 : True := by
  k_with "CompSrc" => (k_here; refine stop3 ?_)
  trivial
theorem wdDrawn_50 : True := by
  k_with "subscriptTail Name Slice ref ref" => (k_here; (with_reducible show wpAny _ _ (subscriptTail _ (PySem.Expr.Slice _ _ (some _) _) (Value.ref _) (Value.ref _)) _ _ _); refine stop3 ?_)
  trivial

noncomputable def drK (ns : List Int) (k : Int) : Int := [124080329878, 9, 34, 864, 1802, 5005].getD k.toNat 0 + ((pickNums ns (some k) (some 60) (some 6)).map fun x => x.fmod (2 ^ Int.toNat 37)).sum
theorem cons_w {x : Int} {ws : List Value} {l : List Int} {P : List Value → Prop} (h : IntsAre ws (x :: l)) (k : ∀ t vs, IntsAre vs l → P (.int x t :: vs)) : P ws := by
  obtain ⟨t, v, rfl, g⟩ := IntsAre.cons_inv h
  exact k t v g
theorem nil_w {ws : List Value} {P : List Value → Prop} (h : IntsAre ws []) (k : P []) : P ws := by
  rw [IntsAre.nil_inv h]; exact k
theorem cons_n {x b : Int} (C : Nat) (hB : b = C) (p : 0 < b) {ws : List Value} {l : List Int} {P : List Value → Prop} (h : IntsAre ws (x.fmod b :: l)) (k : ∀ (n : Nat) t vs, n < C → IntsAre vs l → P (.int n t :: vs)) : P ws := by
  have h1 := Int.fmod_nonneg_of_pos x p
  have h2 := Int.fmod_lt_of_pos x p
  refine cons_w h fun t vs g => ?_
  obtain ⟨n, e⟩ := Int.eq_ofNat_of_zero_le h1
  rw [e, hB] at h2
  rw [e]
  exact k n t vs (Int.ofNat_lt.mp h2) g
noncomputable def Six (ws : List Value) : Prop := ∃ (V n1 n2 n3 n4 n5 : Nat) (tv t1 t2 t3 t4 t5 : Tok), ws = [.int V tv, .int n1 t1, .int n2 t2, .int n3 t3, .int n4 t4, .int n5 t5] ∧ V < 2 ^ 37 ∧ n1 < 2 ^ 18 ∧ n2 < 2 ^ 18 ∧ n3 < 2 ^ 18 ∧ n4 < 2 ^ 18 ∧ n5 < 2 ^ 18
theorem six_of {ws : List Value} {a b c d e g : Int} (h : IntsAre ws [a.fmod (2 ^ Int.toNat 37), b.fmod (2 ^ Int.toNat 18), c.fmod (2 ^ Int.toNat 18), d.fmod (2 ^ Int.toNat 18), e.fmod (2 ^ Int.toNat 18), g.fmod (2 ^ Int.toNat 18)]) :
    Six ws := by
  refine cons_n (P := fun w9 => Six w9) (2 ^ 37) (by decide) (by decide) h fun V0 tv0 v1 hV g1 => ?_
  refine cons_n (P := fun w9 => Six (.int V0 tv0 :: w9)) (2 ^ 18) (by decide) (by decide) g1 fun m1 s1 v2 h1 g2 => ?_
  refine cons_n (P := fun w9 => Six (.int V0 tv0 :: (.int m1 s1 :: w9))) (2 ^ 18) (by decide) (by decide) g2 fun m2 s2 v3 h2 g3 => ?_
  refine cons_n (P := fun w9 => Six (.int V0 tv0 :: (.int m1 s1 :: (.int m2 s2 :: w9)))) (2 ^ 18) (by decide) (by decide) g3 fun m3 s3 v4 h3 g4 => ?_
  refine cons_n (P := fun w9 => Six (.int V0 tv0 :: (.int m1 s1 :: (.int m2 s2 :: (.int m3 s3 :: w9))))) (2 ^ 18) (by decide) (by decide) g4 fun m4 s4 v5 h4 g5 => ?_
  refine cons_n (P := fun w9 => Six (.int V0 tv0 :: (.int m1 s1 :: (.int m2 s2 :: (.int m3 s3 :: (.int m4 s4 :: w9)))))) (2 ^ 18) (by decide) (by decide) g5 fun m5 s5 v6 h5 g6 => ?_
  refine nil_w (P := fun w9 => Six (.int V0 tv0 :: (.int m1 s1 :: (.int m2 s2 :: (.int m3 s3 :: (.int m4 s4 :: (.int m5 s5 :: w9))))))) g6 ?_
  exact ⟨V0, m1, m2, m3, m4, m5, tv0, s1, s2, s3, s4, s5, rfl, hV, h1, h2, h3, h4, h5⟩

set_option maxHeartbeats 8000000 in
theorem drawn (w : World) (sl : Addr) (svs : List Value) (ns : List Int) (hi : IntsAre svs ns) (hl : ns.length ≤ 63) :
    FnSpecH w (fun h => h.IsList sl svs.toArray) 103 [.ref sl] [] 12 300
      (fun hi' v' n => ∃ (td : Addr) (V n1 n2 n3 n4 n5 : Nat) (tv t1 t2 t3 t4 t5 : Tok), n = [(td, W.listOf #[.int V tv, .int n1 t1, .int n2 t2, .int n3 t3, .int n4 t4, .int n5 t5] 0)] ∧ v' = .ref td ∧ @LT.lt Nat _ hi' td ∧
        V < 2 ^ 37 ∧ n1 < 2 ^ 18 ∧ n2 < 2 ^ 18 ∧ n3 < 2 ^ 18 ∧ n4 < 2 ^ 18 ∧ n5 < 2 ^ 18) := by
  unfold FnSpecH
  k_fill
  w_top off
  intro mean mg mb dp un gd cn cs a ccd cl outer A₀ base h₀ L m s Q others hP B F X N NO hdis T hk hd hu hret
  have hl1000 : ns.length ≤ 1000 := by omega
  k_with "my binds" => exact BindsTo.of_eq (binds := [(Str.ofString "script", .ref sl)]) rfl
  k_dflt k_extra "my enterC"
  have hPg : g'.IsList sl svs.toArray := Fr.lst FG' hP
  k_steps
  unfold Stop3
  refine LCg.CompSrc.range (by rfl) (by k_asm) (by k_asm) (by assumption) (by decide) (by rfl) (by decide) ?_
  intro gq
  refine kcf_range (drK ns) (fun k t I oI C oC D m2 ys hh tk E' hlo hhi hC hx FF NN off ne mk => ?_) ?_
  · (replace hhi : k < 6 := hhi)
    unfold drK
    k_steps
    unfold Stop3
    (with_unfolding_all refine' slice3_ints ?x3F ?x3N ?x3l ?x3p ?x3q ?x3k ?x3o hi hl1000 ?_ ?x3s ?x3t)
    case x3F => k_asm
    case x3N => k_asm
    case x3l => exact Fr.lst FF hPg
    case x3p => kmk_part
    case x3q => kmk_part
    case x3k => kmk_part
    case x3o => decide
    case x3s => with_unfolding_all rfl
    case x3t => kmk_pure
    intro D' ws' h' F' N' l1 hI' hC'
    k_steps
    unfold Stop3
    have hti16 : ws'.toArray.size ≤ sizeLine := by
      rw [List.size_toArray, hI'.length]
      exact Nat.le_trans hC' (by decide)
    refine LCg.CompSrc.ledger (by rfl) (by k_asm) (by k_asm) (by k_mem) hti16 ?_
    intro gq2
    refine kcf_list (fun x => x.fmod (2 ^ Int.toNat 37)) hI' (fun kk2 tt2 I2 oI2 C2 oC2 D2 m22 ys2 hh2 tk2 E2' hkk2 hC2 hx2 FF2 NN2 off ne2 mk2 => ?_) ?_
    · k_steps
    · unfold KPfDone
      intro ys2 hys2
      k_steps
  · unfold KPfDone
    intro ys hys
    have hys : IntsAre ys [drK ns 0, drK ns 1, drK ns 2, drK ns 3, drK ns 4, drK ns 5] := hys
    k_steps
    unfold Stop3
    (rename IntsAre _ (List.drop _ _) => hI3); (rename News _ _ _ _ => NG)
    rename_i DD ws2 _ _ _ _ _
    have hti16 : ws2.toArray.size ≤ sizeLine := by
      rw [List.size_toArray, hI3.length]
      show 5 ≤ sizeLine
      decide
    refine LCg.CompSrc.ledger (by rfl) (by k_asm) (by k_asm) (by k_mem) hti16 ?_
    intro gq2
    refine kcf_list (fun x => x.fmod (2 ^ Int.toNat 18)) hI3 (fun kk2 tt2 I2 oI2 C2 oC2 D2 m22 ys2 hh2 tk2 E2' hkk2 hC2 hx2 FF2 NN2 off ne2 mk2 => ?_) ?_
    · k_steps
    · unfold KPfDone
      intro ys2 hys2
      k_steps
      (rename News h₀ L _ _ => kN9); (rename Fr h₀ L _ _ => kF9); (rename IntsAre _ ([_] ++ _) => h6)
      obtain ⟨V, n1, n2, n3, n4, n5, tv, t1, t2, t3, t4, t5, rfl, hb⟩ := six_of h6
      refine left_end hret lN' lO' kF9 kN9 ⟨_, V, n1, n2, n3, n4, n5, tv, t1, t2, t3, t4, t5, rfl, rfl, by omega, hb⟩ ?_
      k_extra "my sub"
end Mine

namespace Mine
set_option maxRecDepth 100000
section
variable {prog : Program} {w : World} {A : Around} {E : Value → Shared → Prop} {s : Shared} {h₀ : Heap} {L : Addr} {m : Str → Option Value} {news : Led}

theorem next_text {I : Addr} {x : Str} {t : Tok} {i c : Nat} {dflt : Value} {g : Obj → Led} {Q : Value → Shared → Prop} (F : Fr h₀ L s.heap m) (N : News h₀ L s.heap news) (U : UpdF I (siObj x t i) news g) (hx : x.cps[i]? = some c)
    (h : ∀ u h' tk, Fr h₀ L h' m → News h₀ L h' (g (siObj x t (i + 1))) → Q (.str ⟨#[c]⟩ u) { s with heap := h', toks := tk }) : wpAny (model prog w) A (call (.builtin "next") [.ref I, dflt]) Q E s := by
  have ho := (N _ (updF_mem U)).1
  refine call_function_entry (by decide +kernel) (by decide +kernel) kdk_entry_next (kdk_args_next2 _ _) ?_
  unfold Builtin.«next»
  refine wpAny_bind (m := someArgs "next" 1 2 _) (wpAny_of_eq (a := [Value.ref I, dflt]) (by first | rfl | kernel_rfl!) ?_)
  (try k_unfold); (try dsimp only)
  have upd : ∀ (s' : Shared) h', s'.heap = s.heap → Heap.SameBut I s.heap h' → h'.get? I = some (siObj x t (i + 1)) → ∀ tk u, Q (.str ⟨#[c]⟩ u) { s with heap := h', toks := tk } := by
    intro s' h' _ h2 h1 tk u
    obtain ⟨F', N'⟩ := upd_led (io' := siObj x t (i + 1)) F N U h2 h1
    exact h u h' tk F' N'
  cases ha : x.cps.all (· < 128) with
  | true =>
    have ec : siCls x = "str_ascii_iterator" := by unfold siCls; rw [if_pos ha]
    have ty : s.TypeIs (.ref I) "str_ascii_iterator" := ⟨_, ho, by unfold siObj; rw [ec]⟩
    refine wpAny_bind (wpAny_specialOf (name := Str.ofString "__next__") ty PySem.F.slot_str_ascii_iterator_next.lookup ?_)
    refine wpAny_ite_split (fun hab => absurd hab (by decide)) (fun _ => ?_)
    refine wpAny_bind ?_
    unfold pyNext
    refine wpAny_bind (wpAny_attempt (wpAny_callSpecial?_slot (name := Str.ofString "__next__") ty PySem.F.slot_str_ascii_iterator_next
      (wpAny_call_entry PySem.F.slot_str_ascii_iterator_next ty PySem.F.entry_str_ascii_iterator_next ?_ (PySem.F.args_str_ascii_iterator_next_1 _))))
    show wpAny _ _ (field (.ref I) 0 >>= _) _ _ s
    refine wpAny_bind (wpAny_field ho rfl (x := .str x t) rfl ?_)
    show wpAny _ _ (field (.ref I) 1 >>= _) _ _ s
    refine wpAny_bind (wpAny_field ho rfl (x := .int i 0) rfl ?_)
    simp only [Int.toNat_natCast, hx]
    refine wpAny_bind (wpAny_setField_rec ho (by simp) fun h' h1 h2 => wpAny_bind (wpAny_mkStr (wpAny_pure ⟨_, rfl, wpAny_pure (wpAny_pure ⟨_, rfl, ?_⟩)⟩)))
    exact upd s h' rfl h2 (by rw [h1]; simp [siObj, rawInt]) _ _
  | false =>
    have ec : siCls x = "str_iterator" := by unfold siCls; rw [if_neg (by rw [ha]; decide)]
    have ty : s.TypeIs (.ref I) "str_iterator" := ⟨_, ho, by unfold siObj; rw [ec]⟩
    refine wpAny_bind (wpAny_specialOf (name := Str.ofString "__next__") ty PySem.F.slot_str_iterator_next.lookup ?_)
    refine wpAny_ite_split (fun hab => absurd hab (by decide)) (fun _ => ?_)
    refine wpAny_bind ?_
    unfold pyNext
    refine wpAny_bind (wpAny_attempt (wpAny_callSpecial?_slot (name := Str.ofString "__next__") ty PySem.F.slot_str_iterator_next
      (wpAny_call_entry PySem.F.slot_str_iterator_next ty PySem.F.entry_str_iterator_next ?_ (PySem.F.args_str_iterator_next_1 _))))
    show wpAny _ _ (field (.ref I) 0 >>= _) _ _ s
    refine wpAny_bind (wpAny_field ho rfl (x := .str x t) rfl ?_)
    show wpAny _ _ (field (.ref I) 1 >>= _) _ _ s
    refine wpAny_bind (wpAny_field ho rfl (x := .int i 0) rfl ?_)
    simp only [Int.toNat_natCast, hx]
    refine wpAny_bind (wpAny_setField_rec ho (by simp) fun h' h1 h2 => wpAny_bind (wpAny_mkStr (wpAny_pure ⟨_, rfl, wpAny_pure (wpAny_pure ⟨_, rfl, ?_⟩)⟩)))
    exact upd s h' rfl h2 (by rw [h1]; simp [siObj, rawInt]) _ _

theorem next_text_end {I : Addr} {x : Str} {t : Tok} {i : Nat} {dflt : Value} {g : Obj → Led} {Q : Value → Shared → Prop} (hh : A.handled = none) (F : Fr h₀ L s.heap m) (N : News h₀ L s.heap news) (U : UpdF I (siObj x t i) news g) (hx : x.cps[i]? = none)
    (h : ∀ h', Fr h₀ L h' m → News h₀ L h' (g (siEnd x i)) → Q dflt { s with heap := h' }) : wpAny (model prog w) A (call (.builtin "next") [.ref I, dflt]) Q E s := by
  have ho := (N _ (updF_mem U)).1
  refine call_function_entry (by decide +kernel) (by decide +kernel) kdk_entry_next (kdk_args_next2 _ _) ?_
  unfold Builtin.«next»
  refine wpAny_bind (m := someArgs "next" 1 2 _) (wpAny_of_eq (a := [Value.ref I, dflt]) (by first | rfl | kernel_rfl!) ?_)
  (try k_unfold); (try dsimp only)
  have upd : ∀ h' a b, Heap.SameBut I s.heap h' → h'.get? I = some (siEnd x i) → Q dflt { s with heap := (h'.push a).push b } := by
    intro h' a b h2 h1
    obtain ⟨F', N'⟩ := upd_led (io' := siEnd x i) F N U h2 h1
    exact h _ ((F'.push _).push _) ((N'.grown fun _ _ e => Heap.get?_push_of_some _ (Heap.get?_push_of_some _ e)))
  cases ha : x.cps.all (· < 128) with
  | true =>
    have ec : siCls x = "str_ascii_iterator" := by unfold siCls; rw [if_pos ha]
    have ty : s.TypeIs (.ref I) "str_ascii_iterator" := ⟨_, ho, by unfold siObj; rw [ec]⟩
    refine wpAny_bind (wpAny_specialOf (name := Str.ofString "__next__") ty PySem.F.slot_str_ascii_iterator_next.lookup ?_)
    refine wpAny_ite_split (fun hab => absurd hab (by decide)) (fun _ => ?_)
    refine wpAny_bind ?_
    unfold pyNext
    refine wpAny_bind (wpAny_attempt (wpAny_callSpecial?_slot (name := Str.ofString "__next__") ty PySem.F.slot_str_ascii_iterator_next
      (wpAny_call_entry PySem.F.slot_str_ascii_iterator_next ty PySem.F.entry_str_ascii_iterator_next ?_ (PySem.F.args_str_ascii_iterator_next_1 _))))
    show wpAny _ _ (field (.ref I) 0 >>= _) _ _ s
    refine wpAny_bind (wpAny_field ho rfl (x := .str x t) rfl ?_)
    show wpAny _ _ (field (.ref I) 1 >>= _) _ _ s
    refine wpAny_bind (wpAny_field ho rfl (x := .int i 0) rfl ?_)
    simp only [Int.toNat_natCast, hx]
    refine wpAny_bind (wpAny_rule (wpAny_bind (wpAny_setField_rec ho (by simp) fun h' h1 h2 => (wpAny_bind (wpAny_letGo ?_)))))
    show wpAny _ _ (newExc (.type "StopIteration") [] >>= _) _ _ _
    refine wpAny_bind ?_
    simp only [newExc, newTuple]
    refine wpAny_bind (wpAny_newObj_type ?_ (by size_fits))
    refine wpAny_bind (m := firstArgMember _ _) (wpAny_of_eq (a := Value.none) (by first | rfl | (simp only [firstArgMember]; rfl)) ?_)
    refine wpAny_newObj_type ?_ (by size_fits)
    simp only [raiseNew]
    refine wpAny_bind (wpAny_handled ?_)
    first | rw [show A.in1.in1.handled = none from hh] | rw [show A.in1.handled = none from hh] | rw [hh]
    refine wpAny_bind (wpAny_pure (wpAny_throw ?_))
    refine wpAny_bind (wpAny_isInstance (T := "StopIteration") (b := true) ⟨_, Heap.get?_push_size _ rfl, rfl⟩ isSubtype_stop ?_)
    exact wpAny_pure (wpAny_pure ⟨_, rfl, upd h' _ _ h2 (by rw [h1]; simp [siObj, siEnd, rawInt])⟩)
  | false =>
    have ec : siCls x = "str_iterator" := by unfold siCls; rw [if_neg (by rw [ha]; decide)]
    have ty : s.TypeIs (.ref I) "str_iterator" := ⟨_, ho, by unfold siObj; rw [ec]⟩
    refine wpAny_bind (wpAny_specialOf (name := Str.ofString "__next__") ty PySem.F.slot_str_iterator_next.lookup ?_)
    refine wpAny_ite_split (fun hab => absurd hab (by decide)) (fun _ => ?_)
    refine wpAny_bind ?_
    unfold pyNext
    refine wpAny_bind (wpAny_attempt (wpAny_callSpecial?_slot (name := Str.ofString "__next__") ty PySem.F.slot_str_iterator_next
      (wpAny_call_entry PySem.F.slot_str_iterator_next ty PySem.F.entry_str_iterator_next ?_ (PySem.F.args_str_iterator_next_1 _))))
    show wpAny _ _ (field (.ref I) 0 >>= _) _ _ s
    refine wpAny_bind (wpAny_field ho rfl (x := .str x t) rfl ?_)
    show wpAny _ _ (field (.ref I) 1 >>= _) _ _ s
    refine wpAny_bind (wpAny_field ho rfl (x := .int i 0) rfl ?_)
    simp only [Int.toNat_natCast, hx]
    refine wpAny_bind (wpAny_rule (wpAny_bind (wpAny_setField_rec ho (by simp) fun h' h1 h2 => (wpAny_bind (wpAny_letGo ?_)))))
    show wpAny _ _ (newExc (.type "StopIteration") [] >>= _) _ _ _
    refine wpAny_bind ?_
    simp only [newExc, newTuple]
    refine wpAny_bind (wpAny_newObj_type ?_ (by size_fits))
    refine wpAny_bind (m := firstArgMember _ _) (wpAny_of_eq (a := Value.none) (by first | rfl | (simp only [firstArgMember]; rfl)) ?_)
    refine wpAny_newObj_type ?_ (by size_fits)
    simp only [raiseNew]
    refine wpAny_bind (wpAny_handled ?_)
    first | rw [show A.in1.in1.handled = none from hh] | rw [show A.in1.handled = none from hh] | rw [hh]
    refine wpAny_bind (wpAny_pure (wpAny_throw ?_))
    refine wpAny_bind (wpAny_isInstance (T := "StopIteration") (b := true) ⟨_, Heap.get?_push_size _ rfl, rfl⟩ isSubtype_stop ?_)
    exact wpAny_pure (wpAny_pure ⟨_, rfl, upd h' _ _ h2 (by rw [h1]; simp [siObj, siEnd, rawInt])⟩)
end
section
variable {prog : Program} {w : World} {A A₀ : Around} {s : Shared} {K : Frag} {L : Addr} {h₀ base : Heap} {m mg mb : Str → Option Value} {news others : Led} {p : Program} {loose : List Str} {mean : ExcName → Option Value}

/-- as code_defS, for a lambda that the call has made -/
theorem kla_codeS {env : Env} {outer : List Env} {R : Result → Shared → Prop} {name qual : Str} {params : Arguments} {body : Expr} {scope : Scope} {cl : List (Str × Addr)} {pm ctv : Value} {c' : Addr} {f : Addr} {args : Args} {binds : List (Str × Value)}
    (B : Below A₀ base outer h₀) (F : Fr h₀ L s.heap m) (X₀ : K.In h₀) (N : News h₀ L s.heap news) (NO : News h₀ L s.heap others) (hdis : ∀ p ∈ others, p.1 ∉ news.map (·.1)) (T : Top p loose mean mg mb h₀) (hA : A.frames = some (env :: outer)) (hf : env.frame = some L) (hke : env.scope.kind = .function)
    (ho : (f, kla_obj name qual params body scope cl pm c' ctv) ∈ news) (hcd : s.heap.CodeRec (.ref c') qual) (hroom : A.depth < recursionLimit)
    (hbind : bindArgs (kla_fn name qual params body scope cl pm (.ref c') ctv) args = pure binds) (hloc : ∀ y ∈ binds, scope.names.lookup y.1 = some .local)
    (h : ∀ g L' h₁, Fr h₀ L g m → Fr g L' h₁ (fun y => binds.reverse.lookup y) → News g L' h₁ news → Below A base (env :: outer) g → K.In g → Top p loose mean mg mb g → (∀ p ∈ news, p.1 < L') → (∀ p ∈ others, p.1 < L') →
      wpAny (model prog w) (A.deeper (envX qual scope L' f (.ref c') cl)) (eval body (envX qual scope L' f (.ref c') cl))
        (fun v s' => LeaveK h₀ L m g (Left h₀ L others R) v s')
        (fun e s' => wpAny (model prog w) (A.deeper (envX qual scope L' f (.ref c') cl)) (leaving (envX qual scope L' f (.ref c') cl) e) (fun _ s'' => R (.error e) s'') (fun e' s'' => R (.error e') s'') s')
        { s with heap := h₁, toks := s.toks + binds.length })
    (hco : scope.isCoroutine = false) (hgen : scope.isGenerator = false) (hk : scope.kind = .function)
    (hcell : ∀ x ∈ scope.names, x.2 ≠ .cell) : codeAny (model prog w) A (.call (.ref f) args) R s := by
  obtain ⟨FG, BG, st, lv⟩ := groundX (R := Left h₀ L others R) B F N hA hf hke
  refine kla_callFunE hroom (N _ ho).1 rfl hco hgen rfl hcd ?_
  rw [hbind]
  refine wpAny_pure (wpAny_newFunctionEnv hcell hloc (fun h₁ hns hsb => ⟨((T.nolimit).keeps F.keep).fresh _ hsb, ?_⟩) hk)
  show codeAny _ _ (.expr body (envX qual scope s.heap.objs.size f (.ref c') cl)) _ _
  have hk₁ : ∀ b o, s.heap.get? b = some o → h₁.get? b = some o := fun b o e => hsb.extBut b o (Nat.ne_of_lt (Heap.lt_size e)) (Heap.get?_push_of_some _ e)
  refine kla_codeExpr (wpAny_mono (h _ s.heap.objs.size h₁ FG ⟨hns, fun b o e => hk₁ b o (of_hideAll _ e), Nat.le_of_eq (hideAll_size _ _)⟩
    (fun p hp => ⟨hk₁ _ _ (N p hp).1, Nat.ne_of_lt (Heap.lt_size (N p hp).1), hideAll_none _ (List.mem_map_of_mem hp)⟩) BG (X₀.keeps st) (T.keeps st) (fun p hp => Heap.lt_size (N p hp).1) (fun p hp => Heap.lt_size (NO p hp).1)) (fun v s' hl => ?_) fun _ _ y => y)
  refine lv _ _ hl (fun p hp => ⟨?_, (NO p hp).2⟩)
  obtain ⟨L', m', news', F', _, _⟩ := hl
  exact F'.keep _ _ (hideAll_get _ (NO p hp).1 (hdis p hp))
end
end Mine

namespace Mine
set_option maxRecDepth 100000
section
variable {prog : Program} {w : World} {A : Around} {E : Value → Shared → Prop} {s : Shared} {h₀ : Heap} {L : Addr} {m : Str → Option Value} {env : Env}

noncomputable def SrcS (prog : Program) (w : World) (A : Around) (h₀ : Heap) (L : Addr) (m : Str → Option Value) (env : Env) (elt : Expr) (x : Str) (scope : Scope) (cl : List (Str × Addr)) (Fin : Shared → List Value → Led → Prop) (xv : Value) (s₁ : Shared) : Prop :=
  ∃ txt t news, xv = .str txt t ∧ A.handled = none ∧ Fr h₀ L s₁.heap m ∧ News h₀ L s₁.heap news ∧ txt.cps.size ≤ sizeLine ∧
    ∀ g, LCg.CompRest prog w A h₀ L m env elt x scope cl { s₁ with heap := g } (fun _ => True) (SignAt txt) (Fin { s₁ with heap := g }) txt.cps.size 0 [] news

theorem str_st {I : Addr} {ty : String} {x : Str} {t : Tok} : ∀ i (h h' : Heap) (o : Obj) (nw : Led), h.IsStrIter I ty x t i → h.get? I = some o → h'.get? I = some o → (∀ b o, h₀.get? b = some o → h'.get? b = some o) → News h₀ L h' nw → True → h'.IsStrIter I ty x t i :=
  fun i h h' o nw st e e' _ _ _ => by
    obtain ⟨o', q, r⟩ := st
    rw [e] at q
    cases q
    exact ⟨o, e', r⟩

theorem ListComp_S {elt iter : Expr} {x : Str} {px : Pos} {scope : Scope} {cl : List (Str × Addr)} {pos : Pos} {Q : Value → Shared → Prop} (F₀ : Fr h₀ L s.heap m)
    (hclos : closureFor scope env = pure cl) (hcell : ∀ y ∈ scope.names, y.2 ≠ .cell) (hkind : scope.kind = .function)
    (hnames : ∀ y ∈ scope.names, y.2 = .local → scope.names.lookup y.1 = some .local) (hx : scope.names.lookup x = some .local)
    (h : wpAny (model prog w) A (eval iter env) (SrcS prog w A h₀ L m env elt x scope cl (fun s₂ => LCg.FinE h₀ L m s₂ Q)) E s)
    (hs : ∀ x, foldedSetIterable iter env x = pure x := by intro _; rfl) :
    wpAny (model prog w) A (eval (.ListComp elt [⟨.Name x px, iter, [], 0⟩] scope pos) env) Q E s := by
  rw [eval_ListComp]
  refine wpAny_comprehension_free (use := none) rfl hs hclos hkind hnames (wpAny_mono h (fun xv s₁ h₁ => ?_) fun _ _ e => e)
  obtain ⟨txt, t, news, rfl, hh, F, N, hsz, R⟩ := h₁
  cases ha : txt.cps.all (· < 128) with
  | true =>
    refine wpAny_pyIter_ascii ha ?_
    refine LCg.block_U (Walks.strAscii hh s₁.heap.objs.size txt t) hsz (fun i h st => by obtain ⟨o, e, _⟩ := st; exact ⟨o, e⟩) (str_st (L := L)) hcell hkind hx ⟨_, Heap.get?_push_size _ rfl, rfl, rfl⟩ (fun b hb => ?_)
      (F.keeps fun _ _ e => Heap.get?_push_of_some _ e) (N.grown fun _ _ e => Heap.get?_push_of_some _ e) (Nat.ne_of_lt F.ns.lt) (next_is_new F) (fun p hp => Nat.ne_of_lt (Heap.lt_size (N p hp).1)) trivial (R _) ?_
    · rw [List.mem_singleton.mp hb]
      show s₁.heap.objs.size < (s₁.heap.push _).objs.size
      rw [Heap.size_push]; exact Nat.lt_succ_self _
    · intro D C h tk m' ys news' F' N' o1 hn hC₀ hD₀ hCL hDL hCD offC fin
      refine ⟨m', hn, fun h'' hs'' => fin D h'' tk (F'.change hs'' hCL hC₀) (fun p hp => ?_) o1⟩
      refine ⟨hs''.extBut _ _ ?_ (N' p hp).1, (N' p hp).2⟩
      rcases List.mem_cons.mp hp with rfl | hp
      · exact Ne.symm hCD
      · exact offC p hp
  | false =>
    refine wpAny_pyIter_wide ha ?_
    refine LCg.block_U (Walks.strWide hh s₁.heap.objs.size txt t) hsz (fun i h st => by obtain ⟨o, e, _⟩ := st; exact ⟨o, e⟩) (str_st (L := L)) hcell hkind hx ⟨_, Heap.get?_push_size _ rfl, rfl, rfl⟩ (fun b hb => ?_)
      (F.keeps fun _ _ e => Heap.get?_push_of_some _ e) (N.grown fun _ _ e => Heap.get?_push_of_some _ e) (Nat.ne_of_lt F.ns.lt) (next_is_new F) (fun p hp => Nat.ne_of_lt (Heap.lt_size (N p hp).1)) trivial (R _) ?_
    · rw [List.mem_singleton.mp hb]
      show s₁.heap.objs.size < (s₁.heap.push _).objs.size
      rw [Heap.size_push]; exact Nat.lt_succ_self _
    · intro D C h tk m' ys news' F' N' o1 hn hC₀ hD₀ hCL hDL hCD offC fin
      refine ⟨m', hn, fun h'' hs'' => fin D h'' tk (F'.change hs'' hCL hC₀) (fun p hp => ?_) o1⟩
      refine ⟨hs''.extBut _ _ ?_ (N' p hp).1, (N' p hp).2⟩
      rcases List.mem_cons.mp hp with rfl | hp
      · exact Ne.symm hCD
      · exact offC p hp

theorem SrcS.of {elt : Expr} {x : Str} {scope : Scope} {cl : List (Str × Addr)} {Fin : Shared → List Value → Led → Prop} {txt : Str} {t : Tok} {news : Led} {s₁ : Shared}
    (hh : A.handled = none) (F : Fr h₀ L s₁.heap m) (N : News h₀ L s₁.heap news) (hsz : txt.cps.size ≤ sizeLine)
    (h : ∀ g, LCg.CompRest prog w A h₀ L m env elt x scope cl { s₁ with heap := g } (fun _ => True) (SignAt txt) (Fin { s₁ with heap := g }) txt.cps.size 0 [] news) :
    SrcS prog w A h₀ L m env elt x scope cl Fin (.str txt t) s₁ := ⟨txt, t, news, rfl, hh, F, N, hsz, h⟩

theorem signs_rest {elt : Expr} {x : Str} {scope : Scope} {cl : List (Str × Addr)} {S : Led → Prop} {Fin : List Value → Led → Prop} {news : Led} {txt : Str}
    (turn : ∀ c t I oI C oC D m₂ ys h tk (E' : Value → Shared → Prop), c ∈ txt.cps.toList → LCg.NsObj oC m₂ → m₂ x = some (.str ⟨#[c]⟩ t) → Fr h₀ L h m → News h₀ L h ((I, oI) :: (C, oC) :: (D, LCg.lst ys) :: news) → LCg.Off3 I C D news → ((@Ne Nat I C) ∧ (@Ne Nat I D) ∧ (@Ne Nat C D)) → KPfMark →
      wpAny (model prog w) A (eval elt (compEnvC scope cl C env)) (LCg.CompEnd h₀ L m { s with heap := h, toks := tk } I oI C oC D (LCg.lst ys) S (fun y news' => KCfEl news (c : Int) y news')) E' { s with heap := h, toks := tk })
    (fin : ∀ ys, IntsAre ys (txt.cps.toList.map Int.ofNat) → Fin ys news) : LCg.CompRest prog w A h₀ L m env elt x scope cl s S (SignAt txt) Fin txt.cps.size 0 [] news := by
  have hl : txt.cps.toList.length = txt.cps.size := Array.length_toList
  have all : ∀ (j i : Nat) (ys : List Value), i + j = txt.cps.size → IntsAre ys ((txt.cps.toList.take i).map Int.ofNat) → LCg.CompRest prog w A h₀ L m env elt x scope cl s S (SignAt txt) Fin j i ys news := by
    intro j
    induction j with
    | zero =>
      intro i ys hi hy
      refine LCg.CompRest.zero (fin ys ?_)
      rwa [show i = txt.cps.toList.length from by omega, List.take_length] at hy
    | succ j ih =>
      intro i ys hi hy
      refine LCg.CompRest.succ ?_
      intro v I oI C oC D m₂ h tk E' hv hC hx F N off ne
      obtain ⟨c, t, hc, rfl⟩ := hv
      have hc' : txt.cps.toList[i]? = some c := by rw [Array.getElem?_toList]; exact hc
      refine wpAny_mono (turn c t I oI C oC D m₂ ys h tk E' (List.mem_of_getElem? hc') hC hx F N off ne True.intro) (fun y s₂ hq => ?_) fun _ _ e => e
      obtain ⟨h', tk', nw, e, F', N', off', hS, rfl, t', rfl⟩ := hq
      refine ⟨h', tk', _, e, F', N', off', hS, ih (i + 1) _ (by omega) ?_⟩
      rw [List.take_add_one, hc', List.map_append]
      exact IntsAre.append hy (.cons _ t' .nil)
  exact all _ 0 [] (by omega) .nil

theorem iter_list {l : Addr} {its : Array Value} {n : Nat} {news : Led} {Q : Value → Shared → Prop} (F : Fr h₀ L s.heap m) (N : News h₀ L s.heap news) (hm : (l, W.listOf its n) ∈ news)
    (h : ∀ (I : Addr) h', Fr h₀ L h' m → News h₀ L h' ((I, liObj l 0) :: news) → (∀ p ∈ news, p.1 < I) → Q (.ref I) { s with heap := h' }) :
    wpAny (model prog w) A (call (.builtin "iter") [.ref l]) Q E s := by
  refine call_function_entry (by decide +kernel) (by decide +kernel) kdk_entry_iter (args_iter1 _) ?_
  unfold Builtin.«iter»
  refine wpAny_bind (m := someArgs "iter" 1 2 _) (wpAny_of_eq (a := [Value.ref l]) (by first | rfl | kernel_rfl!) ?_)
  show wpAny _ _ (pyIter (.ref l) >>= _) _ _ _
  refine wpAny_bind (li_start F N hm fun I h' F' N' l => ?_)
  exact wpAny_pure ⟨_, rfl, h I h' F' N' l⟩
end
end Mine

namespace Mine

theorem octL_len : ∀ (k left : Nat) (acc : List Nat), left < 64 ^ k → (octL left acc).length ≤ acc.length + k := by
  intro k
  induction k with
  | zero =>
    intro left acc h
    have : left = 0 := by simpa using h
    subst this
    rw [octL_eq, if_pos rfl]; omega
  | succ k ih =>
    intro left acc h
    rw [octL_eq]
    split
    · omega
    · rw [Nat.pow_succ] at h
      have := ih (left / 64) ((left % 64 + 64) :: acc) (by omega)
      rw [List.length_cons] at this
      omega
theorem octL_ge : ∀ (n left : Nat) (acc : List Nat), left ≤ n → acc.length ≤ (octL left acc).length := by
  intro n
  induction n with
  | zero =>
    intro left acc h
    have : left = 0 := by omega
    subst this
    rw [octL_eq, if_pos rfl]; exact Nat.le_refl _
  | succ n ih =>
    intro left acc h
    rw [octL_eq]
    split
    · exact Nat.le_refl _
    · have := ih (left / 64) ((left % 64 + 64) :: acc) (by omega)
      rw [List.length_cons] at this
      omega
theorem octets_len {M : Nat} (h : M < 2 ^ 37) : (octets M).length ≤ 7 := by
  unfold octets
  rw [mark_len]
  have := octL_len 6 (M / 64) [M % 64] (by omega)
  exact this
theorem octets_ne (M : Nat) : octets M ≠ [] := by
  intro h
  have h1 := octL_ge _ (M / 64) [M % 64] (Nat.le_refl _)
  have h2 := congrArg List.length h
  unfold octets at h2
  rw [mark_len] at h2
  simp at h2
  rw [h2] at h1
  simp at h1
noncomputable def octN (ns : List Nat) : Nat → List Nat
  | 0 => []
  | i + 1 => octN ns i ++ octets (ns.getD i 0)
theorem octN_len {ns : List Nat} (h : ∀ i, ns.getD i 0 < 2 ^ 37) : ∀ i, (octN ns i).length ≤ 7 * i := by
  intro i
  induction i with
  | zero => exact Nat.le_refl _
  | succ i ih =>
    have := octets_len (h i)
    rw [octN, List.length_append]; omega
theorem wtext_split (ns : List Nat) (i : Nat) : ∀ d, ∃ rest, wtext ns (i + 1 + d) = wtext ns i ++ (enc (octets (ns.getD i 0)) ++ blankAt i :: rest) := by
  intro d
  induction d with
  | zero => exact ⟨[], rfl⟩
  | succ d ih =>
    obtain ⟨rest, h⟩ := ih
    refine ⟨rest ++ (enc (octets (ns.getD (i + 1 + d) 0)) ++ [blankAt (i + 1 + d)]), ?_⟩
    show wtext ns (i + 1 + d) ++ _ = _
    rw [h]
    simp only [List.append_assoc, List.cons_append]
    rfl
theorem blank_at {i : Nat} (h : i < 6) : blank (blankAt i) = true := by
  obtain rfl | rfl | rfl | rfl | rfl | rfl : i = 0 ∨ i = 1 ∨ i = 2 ∨ i = 3 ∨ i = 4 ∨ i = 5 := by omega
  all_goals decide
theorem newlines_append (a b : List Nat) : newlines (a ++ b) = newlines a + newlines b := by
  unfold newlines
  rw [List.count_append]; omega
theorem wtext_nl (ns : List Nat) (i : Nat) : newlines (wtext ns (i + 1)) = newlines (wtext ns i) + newlines (enc (octets (ns.getD i 0)) ++ [blankAt i]) := newlines_append _ _
theorem wtext_len1 (ns : List Nat) (i : Nat) : (wtext ns (i + 1)).length = (wtext ns i).length + (enc (octets (ns.getD i 0))).length + 1 := by
  show (wtext ns i ++ _).length = _
  rw [List.length_append, List.length_append, List.length_singleton]; omega
theorem six_getD {V n1 n2 n3 n4 n5 : Nat} (h : ∀ n ∈ [V, n1, n2, n3, n4, n5], n < 2 ^ 37) : ∀ i, [V, n1, n2, n3, n4, n5].getD i 0 < 2 ^ 37 := by
  intro i
  rw [List.getD_eq_getElem?_getD]
  cases e : [V, n1, n2, n3, n4, n5][i]? with
  | none => exact Nat.two_pow_pos 37
  | some x => exact h x (List.mem_of_getElem? e)
theorem octN_split (ns : List Nat) (i : Nat) : ∀ d, ∃ rest, octN ns (i + 1 + d) = octN ns i ++ (octets (ns.getD i 0) ++ rest) := by
  intro d
  induction d with
  | zero => exact ⟨[], by rw [List.append_nil]; rfl⟩
  | succ d ih =>
    obtain ⟨rest, h⟩ := ih
    refine ⟨rest ++ octets (ns.getD (i + 1 + d) 0), ?_⟩
    show octN ns (i + 1 + d) ++ _ = _
    rw [h]
    simp only [List.append_assoc]
    rfl
end Mine

namespace Mine
set_option maxRecDepth 100000

/-- a ground of the base and the caller's frame alone -/
noncomputable def Lean2 (h₀ : Heap) (L : Addr) (g : Heap) : Prop := (∃ o, g.get? L = some o ∧ ∀ vs, o.data ≠ .fields vs) ∧ (∀ b o, g.get? b = some o → b = L ∨ h₀.get? b = some o) ∧ h₀.get? L = none

noncomputable def hidden (h₀ h : Heap) (L : Addr) : List Addr := (List.range h.objs.size).filter fun b => decide (b ≠ L) && (h₀.get? b).isNone
theorem mem_hidden {h₀ h : Heap} {L b : Addr} : b ∈ hidden h₀ h L ↔ @LT.lt Nat _ b h.objs.size ∧ b ≠ L ∧ h₀.get? b = none := by
  unfold hidden
  rw [List.mem_filter, List.mem_range, Bool.and_eq_true, decide_eq_true_eq, Option.isNone_iff_eq_none]

section
variable {prog : Program} {w : World} {A₀ A : Around} {s : Shared} {K : Frag} {L : Addr} {h₀ : Heap} {m mg mb : Str → Option Value} {news : Led} {p : Program} {loose : List Str} {mean : ExcName → Option Value}

theorem ns_data {h : Heap} {a : Addr} {m : Str → Option Value} (x : h.Ns a m) : ∃ o, h.get? a = some o ∧ ∀ vs, o.data ≠ .fields vs := by
  obtain ⟨o, es, ep, e, hd, _⟩ := x
  exact ⟨o, e, fun vs q => by rw [hd] at q; cases q⟩

theorem below_of {env : Env} {g : Heap} (hA : A.frames = some [env]) (hf : env.frame = some L) (hke : env.scope.kind = .function) (hL : Lean2 h₀ L g) (st : h₀.StaysIn g) : Below A h₀ [env] g := by
  obtain ⟨⟨o, ho, hd⟩, _, hn⟩ := hL
  exact ⟨hA, st, by rw [hke]; decide, ⟨L, o, hf, hn, ho, hd⟩, trivial⟩

theorem in_of (X₀ : K.In h₀) {g : Heap} (st : h₀.StaysIn g) : K.In g := X₀.keeps st

theorem lean_ground (F : Fr h₀ L s.heap m) (N : News h₀ L s.heap news) : ∃ g, Lean2 h₀ L g ∧ Fr h₀ L g m ∧ h₀.StaysIn g ∧ (∀ b o, g.get? b = some o → s.heap.get? b = some o) ∧ (∀ p ∈ news, g.get? p.1 = none) ∧ g.objs.size = s.heap.objs.size := by
  have hn : h₀.get? L = none := Heap.get?_none_of_le F.above
  have st : h₀.StaysIn (hideAll s.heap (hidden h₀ s.heap L)) := fun b o e => hideAll_get _ (F.keep b o e) fun hm => by
    rw [(mem_hidden.mp hm).2.2] at e; cases e
  obtain ⟨oL, es, ep, hL, hLd, hLk, hLf⟩ := F.ns
  have hLg := hideAll_get (hidden h₀ s.heap L) hL fun hm => (mem_hidden.mp hm).2.1 rfl
  refine ⟨hideAll s.heap (hidden h₀ s.heap L), ⟨⟨oL, hLg, fun vs q => by rw [hLd] at q; cases q⟩, fun b o e => ?_, hn⟩, ⟨⟨oL, es, ep, hLg, hLd, hLk, hLf⟩, st, F.above⟩, st, fun b o e => of_hideAll _ e, fun p hp => ?_, hideAll_size _ _⟩
  · by_cases hb : b = L
    · exact .inl hb
    · right
      cases q : h₀.get? b with
      | none =>
        have := hideAll_none (h := s.heap) _ (mem_hidden.mpr ⟨Heap.lt_size (of_hideAll _ e), hb, q⟩)
        rw [e] at this; cases this
      | some o' =>
        have := (F.keep b o' q).symm.trans (of_hideAll _ e)
        exact this
  · exact hideAll_none _ (mem_hidden.mpr ⟨Heap.lt_size (N p hp).1, (N p hp).2.1, (N p hp).2.2⟩)

/-- the caller's frame and ledger, seen from within -/
theorem back_fr {g h' : Heap} {L' : Addr} {m' : Str → Option Value} {nw : Led} (hL : Lean2 h₀ L g) (FG : Fr h₀ L g m) (F' : Fr g L' h' m') (N' : News g L' h' nw) : Fr h₀ L h' m ∧ News h₀ L h' nw := by
  refine ⟨⟨FG.ns.keeps F'.keep, fun b o e => F'.keep b o (FG.keep b o e), FG.above⟩, fun p hp => ⟨(N' p hp).1, fun q => ?_, ?_⟩⟩
  · obtain ⟨⟨o, ho, _⟩, _⟩ := hL
    have := (N' p hp).2.2
    rw [q, ho] at this; cases this
  · cases q : h₀.get? p.1 with
    | none => rfl
    | some o => have := FG.keep _ _ q; rw [(N' p hp).2.2] at this; cases this

/-- the ground anew, behind an exception -/
theorem reground {g h h6 : Heap} {L' : Addr} {mm : Str → Option Value} (hL : Lean2 h₀ L g) (FG : Fr h₀ L g m) (F : Fr g L' h mm) (up : h.UpToSlots h6) (st : h₀.StaysIn h6) :
    ∃ g2, Lean2 h₀ L g2 ∧ Fr h₀ L g2 m ∧ h₀.StaysIn g2 ∧ Fr g2 L' h6 mm ∧ (∀ b, g.get? b = none → g2.get? b = none) := by
  obtain ⟨⟨o, ho, hd⟩, hG, hn⟩ := hL
  obtain ⟨sl, h6L⟩ := up L o (F.keep L o ho) hd
  have hfree : ({ o with slots := sl } : Obj).isFreed = false := (Heap.get?_some_iff.mp h6L).2
  have g2L : (g.update L fun _ => { o with slots := sl }).get? L = some { o with slots := sl } := Heap.get?_update_self _ ho hfree
  have g2o : ∀ b, b ≠ L → (g.update L fun _ => { o with slots := sl }).get? b = g.get? b := fun b hb => Heap.get?_update_other _ _ (Ne.symm hb)
  have st2 : h₀.StaysIn (g.update L fun _ => { o with slots := sl }) := fun b o' e => by
    have hb : b ≠ L := fun q => by rw [q, hn] at e; cases e
    rw [g2o b hb]; exact FG.keep b o' e
  refine ⟨g.update L fun _ => { o with slots := sl }, ⟨⟨_, g2L, hd⟩, fun b o' e => ?_, hn⟩, ⟨?_, st2, FG.above⟩, st2, ⟨up.ns F.ns, fun b o' e => ?_, ?_⟩, fun b e => ?_⟩
  · by_cases hb : b = L
    · exact .inl hb
    · rw [g2o b hb] at e; exact hG b o' e
  · obtain ⟨oL, es, ep, e, d, r⟩ := FG.ns
    rw [ho] at e; cases e
    exact ⟨_, es, ep, g2L, d, r⟩
  · by_cases hb : b = L
    · subst hb; rw [g2L] at e; cases e; exact h6L
    · rw [g2o b hb] at e
      rcases hG b o' e with q | q
      · exact absurd q hb
      · exact st b o' q
  · rw [Heap.size_update]; exact F.above
  · have hb : b ≠ L := fun q => by rw [q, ho] at e; cases e
    rw [g2o b hb]; exact e

/-- as code_defCS, with a ground of the base and the caller's frame alone; the end is the caller's own -/
theorem code_defCT {env : Env} {R : Result → Shared → Prop} {name qual : Str} {params : Arguments} {body : List Stmt} {scope : Scope} {dV kV doc pm cdv ct oc : Value} {an od : Option Addr} {osl : Array (Option Value)} {f : Addr} {args : Args} {binds : List (Str × Value)}
    (F : Fr h₀ L s.heap m) (X₀ : K.In h₀) (N : News h₀ L s.heap news) (T : Top p loose mean mg mb h₀) (hA : A.frames = some [env]) (hf : env.frame = some L) (hke : env.scope.kind = .function)
    (ho : K.lookup f = some ⟨oc, od, .func (fnOf name qual params body scope dV kV doc pm an cdv ct), osl⟩) (hcd : codeIn K cdv qual = true) (hroom : A.depth < recursionLimit)
    (hbind : BindsTo s (fnOf name qual params body scope dV kV doc pm an cdv ct) args binds) (hkind : (binds.all fun y => scope.names.lookup y.1 == some .local || scope.names.lookup y.1 == some .cell) = true)
    (hnd : ((cellsFrom 0 scope.names []).map (·.1)).Nodup)
    (h : ∀ g L' h₁ tk cells, Lean2 h₀ L g → Fr h₀ L g m → h₀.StaysIn g → Fr g L' h₁ (bindL (envOfC qual scope L' f cdv).kindOf binds fun _ => none) → News g L' h₁ (cells ++ news) →
      CellsAre (bindC (envOfC qual scope L' f cdv).kindOf binds fun _ => none) (cellsFrom (L' + 1) scope.names []) cells → Below A h₀ [env] g → K.In g → Top p loose mean mg mb g → (∀ p ∈ news, p.1 < L') →
      wpAny (model prog w) (A.deeper (envOfC qual scope L' f cdv)) (execs body (envOfC qual scope L' f cdv))
        (fun fl s' => R (.ok (.ret (match fl with | .ret v => v | _ => .none))) s')
        (fun e s' => wpAny (model prog w) (A.deeper (envOfC qual scope L' f cdv)) (leaving (envOfC qual scope L' f cdv) e) (fun _ s'' => R (.error e) s'') (fun e' s'' => R (.error e') s'') s')
        { s with heap := h₁, toks := tk })
    (hco : scope.isCoroutine = false) (hgen : scope.isGenerator = false) (hk : scope.kind = .function) : codeAny (model prog w) A (.call (.ref f) args) R s := by
  obtain ⟨g, hL, FG, st, hgs, hgn, hsz⟩ := lean_ground F N
  refine codeAny_call_function hroom ((X₀.keeps F.keep) _ _ ho) rfl hco hgen rfl (codeRec_of (X₀.keeps F.keep) hcd) (hbind _ _ _ _ ?_)
  refine wpAny_newFunctionEnv_cells hk (kindsX hkind _) fun env' he s' x => ?_
  subst he
  refine ⟨(T.nolimit.keeps F.keep).keeps x.toInCall.keep, codeAny_func ?_⟩
  obtain ⟨h₁, tk, rfl, _⟩ := x.done
  have kept := x.toInCall.keep
  obtain ⟨cells, NC, Y⟩ := Cl.news (h₀ := s.heap) (Nat.le_refl _) fun n c hm => ⟨x.cell n c (lookup_of_mem_nodup (cellsFrom_names scope.names 0 (s.heap.objs.size + 1) [] [] rfl ▸ hnd) hm), x.above n c hm⟩
  have NA : News g s.heap.objs.size h₁ (cells ++ news) := by
    intro q hq
    rcases List.mem_append.mp hq with hq | hq
    · refine ⟨(NC q hq).1, (NC q hq).2.1, Option.eq_none_iff_forall_ne_some.mpr fun o e => ?_⟩
      have e2 := hgs _ _ e
      rw [(NC q hq).2.2] at e2
      cases e2
    · exact ⟨kept _ _ (N q hq).1, Nat.ne_of_lt (Heap.lt_size (N q hq).1), hgn q hq⟩
  exact h g s.heap.objs.size h₁ tk cells hL FG st ⟨x.toInCall.ns, fun b o e => kept b o (hgs _ _ e), Nat.le_of_eq hsz⟩ NA Y (below_of hA hf hke hL st) (X₀.keeps st) (T.keeps st) (fun q hq => Heap.lt_size (N q hq).1)

/-- an exception that a called def has raised is caught by its class's own name, the outer frame alone behind -/
theorem caught_T {E : Value → Shared → Prop} {s' : Shared} {g h : Heap} {A' : Around} {envT env : Env} {L' e : Addr} {mm : Str → Option Value} {b₀ : Stmt} {suite : List Stmt} {pos np : Pos} {rest : List ExceptHandler} {Q : Flow → Shared → Prop} {x : Str} {X T' : String}
    (hA : A'.frames = some [envT, env]) (hA0 : A.frames = some [env]) (hf : envT.frame = some L') (hfe : env.frame = some L) (hke : env.scope.kind = .function) (hL : Lean2 h₀ L g) (FG : Fr h₀ L g m) (F : Fr g L' h mm) (hsm : h.UpToSlots s'.heap)
    (R : RaisedN h₀ [envT, env] e (.type X) news s'.heap) (hnn : ∀ p ∈ news, p.1 ≠ L' ∧ g.get? p.1 = none) (X₀ : K.In h₀)
    (T : Top p loose mean mg mb h₀) (hv : bootBuiltins x = some (.type T'))
    (hexc : isSubtype (.type T') (.type "BaseException") = pure true) (hnt : isSubtype (.type ((Manifest.find? T').elim "type" fun y => y.metatype)) (.type "tuple") = pure false) (hsub : isSubtype (.type X) (.type T') = pure true)
    (k : ∀ h' g2, Lean2 h₀ L g2 → Fr h₀ L g2 m → h₀.StaysIn g2 → Fr g2 L' h' mm → News g2 L' h' news → Below A h₀ [env] g2 → K.In g2 → Top p loose mean mg mb g2 →
      wpAny (model prog w) (A'.mark (some (.ref e))) (execs (b₀ :: suite) envT) Q E { s' with heap := h' })
    (h1 : x ∉ startupNames := by decide +kernel) (h2 : x ∉ loose := by decide +kernel) (h3 : x ∉ (recsOf p).map (·.name) := by decide +kernel) (h4 : x ∉ (litsOf p).map (·.1) := by decide +kernel) (h4c : x ∉ (clssOf p loose).map (·.name) := by decide +kernel) (hn : x ≠ "__name__" := by decide +kernel)
    (hk : envT.scope.kind = .function := by rfl) (hx : envT.kindOf x = some .globalImplicit := by rfl) (hgl : envT.globals = mainGlobals := by rfl) (hbu : envT.builtins = builtinsNs := by rfl) (hd : (x == ("__debug__" : Str)) = false := by decide)
    (hE : PassesOwnAt (model prog w) (A'.mark (some (.ref e))) A' envT E := by passes_own) :
    wpAny (model prog w) A' (noteFrame (.ref e) envT)
      (fun _ s₂ => wpAny (model prog w) A' (setFlight (.ref e) none) (fun _ s₃ =>
        wpAny (model prog w) A' (handleBy (.ref e) envT (.ExceptHandler (some (.Name x np)) none (b₀ :: suite) pos :: rest)) Q E s₃) E s₂) E s' := by
  obtain ⟨B, a0, hB, hl, hfl⟩ := R
  refine wpAny_looks_onW hA hf hfl fun h₄ hheld₄ hsm₄ => ?_
  refine wpAny_landsW hheld₄ fun h₅ hheld hsm₅' => ?_
  have hsm₅ := hsm₄.trans hsm₅'
  have hheld' := flyingW_base hB hheld
  have st₅ : h₀.StaysIn h₅ := hheld'.1
  obtain ⟨ob, hob, hobc⟩ := hheld'.there
  refine wpAny_handleBy_builtin (X := X) (T := T') (b := true) hexc hnt hsub (Calls.Name_function_global hk hx (Calls.loadGlobal_builtin (mg := mg) (mb := mb) (hgl ▸ T.g.keeps st₅) (T.free x h1 h2 h3 h4 h4c) (hbu ▸ T.b.keeps st₅) ((T.builtins x hn).trans hv) ⟨rfl, ⟨ob, hob, hobc⟩, ?_⟩) hd)
  refine lands_againW hheld fun h₆ hfl₆ hsm₆ => ?_
  obtain ⟨g2, hL2, FG2, st2, F2, hn2⟩ := reground hL FG F ((hsm.trans hsm₅).trans hsm₆) (flyingW_base hB hfl₆).1
  exact wpAny_passesOwnAt hE (k h₆ g2 hL2 FG2 st2 F2 (fun q hq => ⟨hfl₆.1 _ _ (hl q hq).1, (hnn q hq).1, hn2 _ (hnn q hq).2⟩) (below_of hA0 hfe hke hL2 st2) (X₀.keeps st2) (T.keeps st2))
end
end Mine

namespace Mine
set_option maxRecDepth 100000
section
variable {prog : Program} {w : World} {A : Around} {E : Value → Shared → Prop} {s : Shared} {h₀ : Heap} {L : Addr} {m : Str → Option Value} {news : Led}

theorem next_one {l I : Addr} {i : Nat} {its : Array Value} {n : Nat} {v : Value} {g : Obj → Led} {Q : Value → Shared → Prop} (F : Fr h₀ L s.heap m) (N : News h₀ L s.heap news) (U : UpdF I (liObj l i) news g) (hm : (l, W.listOf its n) ∈ news) (hx : its[i]? = some v)
    (h : ∀ h', Fr h₀ L h' m → News h₀ L h' (g (liObj l (i + 1))) → Q v { s with heap := h' }) : wpAny (model prog w) A (call (.builtin "next") [.ref I]) Q E s := by
  have ho := (N _ (updF_mem U)).1
  have ty : s.TypeIs (.ref I) "list_iterator" := ⟨_, ho, rfl⟩
  refine call_function_entry (by decide +kernel) (by decide +kernel) kdk_entry_next (kdk_args_next _) ?_
  unfold Builtin.«next»
  refine wpAny_bind (m := someArgs "next" 1 2 _) (wpAny_of_eq (a := [Value.ref I]) (by first | rfl | kernel_rfl!) ?_)
  (try k_unfold); (try dsimp only)
  refine wpAny_bind (wpAny_specialOf (name := Str.ofString "__next__") ty slot_listiter_next.lookup ?_)
  refine wpAny_ite_split (fun hab => absurd hab (by decide)) (fun _ => ?_)
  refine wpAny_bind (wpAny_callSpecial?_slot (name := Str.ofString "__next__") ty slot_listiter_next
    (wpAny_call_entry slot_listiter_next ty entry_listiter_next ?_ (args_listiter_next _)))
  show wpAny _ _ (field (.ref I) 0 >>= _) _ _ s
  refine wpAny_bind (wpAny_field ho rfl (x := .ref l) rfl ?_)
  show wpAny _ _ (if (Value.ref l == Value.none) = true then _ else _) _ _ s
  rw [if_neg (show ¬ ((Value.ref l == Value.none) = true) from Bool.false_ne_true)]
  show wpAny _ _ (field (.ref I) 1 >>= _) _ _ s
  refine wpAny_bind (wpAny_field ho rfl (x := .int i 0) rfl ?_)
  show wpAny _ _ (seqItems? (.ref l) >>= _) _ _ s
  refine wpAny_bind (wpAny_seqItems (N _ hm).1 rfl ?_)
  simp only [Int.toNat_natCast, hx]
  refine wpAny_bind (wpAny_setField_rec ho (by simp) fun h' h1 h2 => wpAny_pure ⟨v, rfl, wpAny_pure ⟨_, rfl, ?_⟩⟩)
  obtain ⟨F', N'⟩ := upd_led (io' := liObj l (i + 1)) F N U h2 (by rw [h1]; simp [liObj, rawInt])
  exact h h' F' N'

theorem next_none {l I : Addr} {i : Nat} {its : Array Value} {n : Nat} {rest : Led} {Q : Value → Shared → Prop} (hh : A.handled = none) (F : Fr h₀ L s.heap m) (N : News h₀ L s.heap news) (hI : (I, liObj l i) ∈ news) (hm : (l, W.listOf its n) ∈ news) (hx : its[i]? = none)
    (hr : ∀ p ∈ rest, p ∈ news) (hd : ∀ p ∈ rest, p.1 ≠ I)
    (h : ∀ h1 h' e, Fr h₀ L h1 m → News h₀ L h1 rest → Heap.NewExcOf h1 h' e "StopIteration" → E (.ref e) { s with heap := h' }) : wpAny (model prog w) A (call (.builtin "next") [.ref I]) Q E s := by
  have hN := N _ hI
  have ho := hN.1
  have ty : s.TypeIs (.ref I) "list_iterator" := ⟨_, ho, rfl⟩
  refine call_function_entry (by decide +kernel) (by decide +kernel) kdk_entry_next (kdk_args_next _) ?_
  unfold Builtin.«next»
  refine wpAny_bind (m := someArgs "next" 1 2 _) (wpAny_of_eq (a := [Value.ref I]) (by first | rfl | kernel_rfl!) ?_)
  (try k_unfold); (try dsimp only)
  refine wpAny_bind (wpAny_specialOf (name := Str.ofString "__next__") ty slot_listiter_next.lookup ?_)
  refine wpAny_ite_split (fun hab => absurd hab (by decide)) (fun _ => ?_)
  refine wpAny_bind (wpAny_callSpecial?_slot (name := Str.ofString "__next__") ty slot_listiter_next
    (wpAny_call_entry slot_listiter_next ty entry_listiter_next ?_ (args_listiter_next _)))
  show wpAny _ _ (field (.ref I) 0 >>= _) _ _ s
  refine wpAny_bind (wpAny_field ho rfl (x := .ref l) rfl ?_)
  show wpAny _ _ (if (Value.ref l == Value.none) = true then _ else _) _ _ s
  rw [if_neg (show ¬ ((Value.ref l == Value.none) = true) from Bool.false_ne_true)]
  show wpAny _ _ (field (.ref I) 1 >>= _) _ _ s
  refine wpAny_bind (wpAny_field ho rfl (x := .int i 0) rfl ?_)
  show wpAny _ _ (seqItems? (.ref l) >>= _) _ _ s
  refine wpAny_bind (wpAny_seqItems (N _ hm).1 rfl ?_)
  simp only [Int.toNat_natCast, hx]
  refine wpAny_bind (wpAny_rule (wpAny_bind (wpAny_setField_rec ho (by simp) fun h1 g1 s1 => ?_)))
  show wpAny _ _ (newExc (.type "StopIteration") [] >>= _) _ _ _
  refine wpAny_bind ?_
  simp only [newExc, newTuple]
  refine wpAny_bind (wpAny_newObj_type ?_ (by size_fits))
  refine wpAny_bind (m := firstArgMember _ _) (wpAny_of_eq (a := Value.none) (by first | rfl | (simp only [firstArgMember]; rfl)) ?_)
  refine wpAny_newObj_type ?_ (by size_fits)
  simp only [raiseNew]
  refine wpAny_bind (wpAny_handled ?_)
  first | rw [show A.in1.in1.handled = none from hh] | rw [show A.in1.handled = none from hh] | rw [hh]
  refine wpAny_bind (wpAny_pure (wpAny_throw ?_))
  refine h h1 _ _ (fr_ext F s1.extBut hN.2.1 hN.2.2) (news_ext N s1.extBut hr hd) ⟨fun b o e => Heap.get?_push_of_some _ (Heap.get?_push_of_some _ e), ?_, ⟨_, _, Heap.get?_push_size _ rfl, rfl, rfl, rfl⟩⟩
  refine Heap.get?_none_of_le ?_
  rw [Heap.size_push]
  exact Nat.le_succ _
end

section
variable {M : Model} {A : Around} {E : Value → Shared → Prop} {s' : Shared} {base g h : Heap} {outer : List Env} {L a e : Addr} {m : Str → Option Value} {name : Str} {scope : Scope} {cd : Value} {Q : Unit → Shared → Prop} {news : Led}
/-- as the library's rule for a new built-in exception, of whatever members -/
theorem leave_newOf {cls : String} (K : Below A base outer g) (hx : Heap.NewExcOf h s'.heap e cls) (F : Fr g L h m) (N : News g L h news)
    (hQ : ∀ h', RaisedN base outer e (.type cls) news h' → g.UpToSlots h' → Q () { s' with heap := h' }) (hk : scope.kind = .function := by rfl) :
    wpAny M (A.deeper (envOf name scope L a cd)) (leaving (envOf name scope L a cd) (.ref e)) Q E s' := by
  have K' := K.push (name := name) (a := a) (cd := cd) F hk
  generalize hfs : (envOf name scope L a cd :: outer).filterMap (·.frame) = fs
  have hin : ∀ env ∈ (envOf name scope L a cd :: outer), ∀ b, env.frame = some b → b ∈ fs := fun env he b hb => hfs ▸ List.mem_filterMap.mpr ⟨env, he, hb⟩
  have st : base.StaysIn (hideAll h fs) := fun b o q => hideAll_get _ (K'.stays b o q) fun hm => by
    rw [← hfs] at hm
    rw [(K'.frames.mem hm).1] at q; cases q
  have hl : ∀ q ∈ news, (hideAll h fs).get? q.1 = some q.2 ∧ base.get? q.1 = none := fun q hq => by
    refine ⟨hideAll_get _ (N q hq).1 fun hm => ?_, fresh_of_stays K.stays (N q hq).2.2⟩
    rw [← hfs] at hm
    obtain ⟨env, he, hf⟩ := List.mem_filterMap.mp hm
    rcases List.mem_cons.mp he with rfl | he
    · exact (N q hq).2.1 (Option.some.inj hf).symm
    · obtain ⟨o, ho, _⟩ := (K.frames.mem (List.mem_filterMap.mpr ⟨env, he, hf⟩)).2
      rw [(N q hq).2.2] at ho; cases ho
  obtain ⟨ob, vs, he, hcls, hd, h1⟩ := hx.there
  have hen : (hideAll h fs).get? e = none := by
    cases q : (hideAll h fs).get? e with
    | none => rfl
    | some o => have := of_hideAll _ q; rw [hx.new] at this; cases this
  obtain ⟨a0, h0⟩ : ∃ a0, vs[0]? = some a0 := by
    have hs := (Array.getElem?_eq_some_iff.mp h1).1
    exact ⟨vs[0]'(by omega), Array.getElem?_eq_getElem (by omega)⟩
  refine wpAny_leaving_firstW (a0 := a0) K'.stack ((funFrames_hide K'.frames (by rw [← hfs] at hin; rw [← hfs]; exact hin)).of_keeps fun b o hb _ => ⟨o, hx.keeps b o hb, rfl⟩) rfl he (fun b o hb => hx.keeps b o (of_hideAll _ hb)) hen hd h1 h0 fun h' hL => ?_
  obtain ⟨k1, ⟨_, _, k2⟩, k3, k4⟩ := hL
  exact hQ h' ⟨_, a0, st, hl, k1, hen, k2, by rw [← hcls]; exact k3⟩ (((Heap.UpToSlots.of_keeps F.keep).trans (Heap.UpToSlots.of_keeps hx.keeps)).trans k4)
end
end Mine

namespace Mine
theorem wdParse_0 : True := by
  k_with_none
  k_with "my enter" => (refine' code_defS ?k1 ?k2 ?k3 ?k4 ?kO ?kD ?k5 ?kA ?kF ?kK ?k6 ?k7 ?k8 ?k9 ?kB ?_ ?c2 ?c3 ?c4 ?c5; (case kA => exact rfl); (case kF => exact rfl); (case kK => assumption); (case kD => assumption); (case k1 => k_asm); (case k2 => k_asm); (case k3 => k_asm); (case k4 => assumption); (case kO => assumption); (case k5 => k_asm); (case k6 => k_is); (case k7 => k_is); (case k8 => ktr_room); (case k9 => first | k_extra "my binds" | exact BindsTo.of_eq rfl); (case c5 => decide); (case kB => exact locs rfl); (case c2 => exact rfl); (case c3 => exact rfl); (case c4 => exact rfl); k_whole; intro g' L' h' FG' F' N' B' X' T' lN' lO'; (try dsimp only); (try k_lift B'); (try k_fold))
  k_with "my sub" => repeat (first | exact sub_nil | refine sub_cons (by k_mem) ?_)
  k_with "my spec" => ((case k1 => k_asm); (case k2 => k_asm); (case k3 => k_asm); (case k4 => k_asm); (case k5 => k_asm); (case k6 => exact rfl); (case k7 => ktr_room); (case k8 => ktr_units); (case h1 => k_extra "my sub"); (case h2 => k_extra "my sub"); (case h3 => k_extra "my dis"); k_whole)
  k_with "my enterC" => (refine' code_defCS ?k1 ?k2 ?k3 ?k4 ?kO ?kQ ?k5 ?kA ?kF ?kK ?k6 ?k7 ?k8 ?k9 ?kB ?kD ?_ ?c2 ?c3 ?c4; (case kA => exact rfl); (case kF => exact rfl); (case kK => assumption); (case kQ => assumption); (case k1 => k_asm); (case k2 => k_asm); (case k3 => k_asm); (case k4 => assumption); (case kO => assumption); (case k5 => k_asm); (case k6 => k_is); (case k7 => k_is); (case k8 => ktr_room); (case k9 => first | k_extra "my binds" | exact BindsTo.of_eq rfl); (case kB => exact rfl); (case kD => decide +kernel); (case c2 => exact rfl); (case c3 => exact rfl); (case c4 => exact rfl); k_whole; intro g' L' h' tk' cells' FG' F' N' Y' B' X' T' lN' lO'; (have l1' := lN'); (try k_lt l1'); k_cells Y'; (try simp only [List.cons_append, List.nil_append] at N'); (try dsimp only); (try k_lift B'); (try k_fold))
  k_with "my dis" => (refine dis_of ?_; dsimp only [DisL, OffL]; ((repeat' first | exact True.intro | refine And.intro ?_ ?_) <;> first | k_extra "ne" | omega))
  k_with "my nel" => (dsimp only [NeL]; ((repeat' first | exact True.intro | refine And.intro ?_ ?_) <;> first | k_extra "ne" | omega))
  k_with "k ne" => (refine neN ?_; (try dsimp only); k_extra "ne")
  k_with "ne" => (first | with_reducible assumption | exact Nat.ne_of_lt (by with_reducible assumption) | exact Nat.ne_of_gt (by with_reducible assumption) | exact Ne.symm (by with_reducible assumption) | ((repeat (rename (_ < _ ∧ _) => qz; first | (refine ne_r qz ?_; first | exact qz.1 | exact qz.2.1 | exact qz.2.2.1 | exact qz.2.2.2.1 | exact qz.2.2.2.2.1 | exact qz.2.2.2.2.2.1 | exact qz.2.2.2.2.2.2.1 | exact qz.2.2.2.2.2.2.2.1 | exact qz.2.2.2.2.2.2.2.2.1 | exact qz.2.2.2.2.2.2.2.2.2.1 | exact qz.2.2.2.2.2.2.2.2.2.2.1 | exact qz.2.2.2.2.2.2.2.2.2.2.2.1 | exact qz.2.2.2.2.2.2.2.2.2.2.2.2.1 | exact qz.2.2.2.2.2.2.2.2.2.2.2.2.2.1 | exact qz.2.2.2.2.2.2.2.2.2.2.2.2.2.2.1 | exact qz.2.2.2.2.2.2.2.2.2.2.2.2.2.2.2.1 | exact qz.2.2.2.2.2.2.2.2.2.2.2.2.2.2.2.2.1 | exact qz.2.2.2.2.2.2.2.2.2.2.2.2.2.2.2.2.2.1) | (refine ne_l qz ?_; first | exact qz.1 | exact qz.2.1 | exact qz.2.2.1 | exact qz.2.2.2.1 | exact qz.2.2.2.2.1 | exact qz.2.2.2.2.2.1 | exact qz.2.2.2.2.2.2.1 | exact qz.2.2.2.2.2.2.2.1 | exact qz.2.2.2.2.2.2.2.2.1 | exact qz.2.2.2.2.2.2.2.2.2.1 | exact qz.2.2.2.2.2.2.2.2.2.2.1 | exact qz.2.2.2.2.2.2.2.2.2.2.2.1 | exact qz.2.2.2.2.2.2.2.2.2.2.2.2.1 | exact qz.2.2.2.2.2.2.2.2.2.2.2.2.2.1 | exact qz.2.2.2.2.2.2.2.2.2.2.2.2.2.2.1 | exact qz.2.2.2.2.2.2.2.2.2.2.2.2.2.2.2.1 | exact qz.2.2.2.2.2.2.2.2.2.2.2.2.2.2.2.2.1 | exact qz.2.2.2.2.2.2.2.2.2.2.2.2.2.2.2.2.2.1) | clear qz)); done) | k_extra "ne cells" | k_extra "ne one" | k_extra "ne off" | k_extra "ne up")
  k_with "ne cells" => (first | exact ne_off (i := 0) (j := 1) rfl | exact ne_off (i := 0) (j := 2) rfl | exact ne_off (i := 0) (j := 3) rfl | exact ne_off (i := 0) (j := 4) rfl | exact ne_off (i := 1) (j := 0) rfl | exact ne_off (i := 1) (j := 2) rfl | exact ne_off (i := 1) (j := 3) rfl | exact ne_off (i := 1) (j := 4) rfl | exact ne_off (i := 2) (j := 0) rfl | exact ne_off (i := 2) (j := 1) rfl | exact ne_off (i := 2) (j := 3) rfl | exact ne_off (i := 2) (j := 4) rfl | exact ne_off (i := 3) (j := 0) rfl | exact ne_off (i := 3) (j := 1) rfl | exact ne_off (i := 3) (j := 2) rfl | exact ne_off (i := 3) (j := 4) rfl | exact ne_off (i := 4) (j := 0) rfl | exact ne_off (i := 4) (j := 1) rfl | exact ne_off (i := 4) (j := 2) rfl | exact ne_off (i := 4) (j := 3) rfl)
  k_with "ne up" => (first | exact Nat.ne_of_lt (lt_up1 (by with_reducible assumption)) | exact Nat.ne_of_gt (lt_up1 (by with_reducible assumption)) | exact Nat.ne_of_lt (lt_up2 (by with_reducible assumption)) | exact Nat.ne_of_gt (lt_up2 (by with_reducible assumption)) | exact Nat.ne_of_lt (lt_up3 (by with_reducible assumption)) | exact Nat.ne_of_gt (lt_up3 (by with_reducible assumption)) | exact Nat.ne_of_lt (lt_up4 (by with_reducible assumption)) | exact Nat.ne_of_gt (lt_up4 (by with_reducible assumption)) | ((repeat (rename (_ < _ ∧ _) => qz; first | (refine ne_r1 qz ?_; first | exact qz.1 | exact qz.2.1 | exact qz.2.2.1 | exact qz.2.2.2.1 | exact qz.2.2.2.2.1 | exact qz.2.2.2.2.2.1 | exact qz.2.2.2.2.2.2.1 | exact qz.2.2.2.2.2.2.2.1 | exact qz.2.2.2.2.2.2.2.2.1 | exact qz.2.2.2.2.2.2.2.2.2.1 | exact qz.2.2.2.2.2.2.2.2.2.2.1 | exact qz.2.2.2.2.2.2.2.2.2.2.2.1 | exact qz.2.2.2.2.2.2.2.2.2.2.2.2.1 | exact qz.2.2.2.2.2.2.2.2.2.2.2.2.2.1 | exact qz.2.2.2.2.2.2.2.2.2.2.2.2.2.2.1 | exact qz.2.2.2.2.2.2.2.2.2.2.2.2.2.2.2.1 | exact qz.2.2.2.2.2.2.2.2.2.2.2.2.2.2.2.2.1 | exact qz.2.2.2.2.2.2.2.2.2.2.2.2.2.2.2.2.2.1) | (refine ne_l1 qz ?_; first | exact qz.1 | exact qz.2.1 | exact qz.2.2.1 | exact qz.2.2.2.1 | exact qz.2.2.2.2.1 | exact qz.2.2.2.2.2.1 | exact qz.2.2.2.2.2.2.1 | exact qz.2.2.2.2.2.2.2.1 | exact qz.2.2.2.2.2.2.2.2.1 | exact qz.2.2.2.2.2.2.2.2.2.1 | exact qz.2.2.2.2.2.2.2.2.2.2.1 | exact qz.2.2.2.2.2.2.2.2.2.2.2.1 | exact qz.2.2.2.2.2.2.2.2.2.2.2.2.1 | exact qz.2.2.2.2.2.2.2.2.2.2.2.2.2.1 | exact qz.2.2.2.2.2.2.2.2.2.2.2.2.2.2.1 | exact qz.2.2.2.2.2.2.2.2.2.2.2.2.2.2.2.1 | exact qz.2.2.2.2.2.2.2.2.2.2.2.2.2.2.2.2.1 | exact qz.2.2.2.2.2.2.2.2.2.2.2.2.2.2.2.2.2.1) | (refine ne_r2 qz ?_; first | exact qz.1 | exact qz.2.1 | exact qz.2.2.1 | exact qz.2.2.2.1 | exact qz.2.2.2.2.1 | exact qz.2.2.2.2.2.1 | exact qz.2.2.2.2.2.2.1 | exact qz.2.2.2.2.2.2.2.1 | exact qz.2.2.2.2.2.2.2.2.1 | exact qz.2.2.2.2.2.2.2.2.2.1 | exact qz.2.2.2.2.2.2.2.2.2.2.1 | exact qz.2.2.2.2.2.2.2.2.2.2.2.1 | exact qz.2.2.2.2.2.2.2.2.2.2.2.2.1 | exact qz.2.2.2.2.2.2.2.2.2.2.2.2.2.1 | exact qz.2.2.2.2.2.2.2.2.2.2.2.2.2.2.1 | exact qz.2.2.2.2.2.2.2.2.2.2.2.2.2.2.2.1 | exact qz.2.2.2.2.2.2.2.2.2.2.2.2.2.2.2.2.1 | exact qz.2.2.2.2.2.2.2.2.2.2.2.2.2.2.2.2.2.1) | (refine ne_l2 qz ?_; first | exact qz.1 | exact qz.2.1 | exact qz.2.2.1 | exact qz.2.2.2.1 | exact qz.2.2.2.2.1 | exact qz.2.2.2.2.2.1 | exact qz.2.2.2.2.2.2.1 | exact qz.2.2.2.2.2.2.2.1 | exact qz.2.2.2.2.2.2.2.2.1 | exact qz.2.2.2.2.2.2.2.2.2.1 | exact qz.2.2.2.2.2.2.2.2.2.2.1 | exact qz.2.2.2.2.2.2.2.2.2.2.2.1 | exact qz.2.2.2.2.2.2.2.2.2.2.2.2.1 | exact qz.2.2.2.2.2.2.2.2.2.2.2.2.2.1 | exact qz.2.2.2.2.2.2.2.2.2.2.2.2.2.2.1 | exact qz.2.2.2.2.2.2.2.2.2.2.2.2.2.2.2.1 | exact qz.2.2.2.2.2.2.2.2.2.2.2.2.2.2.2.2.1 | exact qz.2.2.2.2.2.2.2.2.2.2.2.2.2.2.2.2.2.1) | (refine ne_r3 qz ?_; first | exact qz.1 | exact qz.2.1 | exact qz.2.2.1 | exact qz.2.2.2.1 | exact qz.2.2.2.2.1 | exact qz.2.2.2.2.2.1 | exact qz.2.2.2.2.2.2.1 | exact qz.2.2.2.2.2.2.2.1 | exact qz.2.2.2.2.2.2.2.2.1 | exact qz.2.2.2.2.2.2.2.2.2.1 | exact qz.2.2.2.2.2.2.2.2.2.2.1 | exact qz.2.2.2.2.2.2.2.2.2.2.2.1 | exact qz.2.2.2.2.2.2.2.2.2.2.2.2.1 | exact qz.2.2.2.2.2.2.2.2.2.2.2.2.2.1 | exact qz.2.2.2.2.2.2.2.2.2.2.2.2.2.2.1 | exact qz.2.2.2.2.2.2.2.2.2.2.2.2.2.2.2.1 | exact qz.2.2.2.2.2.2.2.2.2.2.2.2.2.2.2.2.1 | exact qz.2.2.2.2.2.2.2.2.2.2.2.2.2.2.2.2.2.1) | (refine ne_l3 qz ?_; first | exact qz.1 | exact qz.2.1 | exact qz.2.2.1 | exact qz.2.2.2.1 | exact qz.2.2.2.2.1 | exact qz.2.2.2.2.2.1 | exact qz.2.2.2.2.2.2.1 | exact qz.2.2.2.2.2.2.2.1 | exact qz.2.2.2.2.2.2.2.2.1 | exact qz.2.2.2.2.2.2.2.2.2.1 | exact qz.2.2.2.2.2.2.2.2.2.2.1 | exact qz.2.2.2.2.2.2.2.2.2.2.2.1 | exact qz.2.2.2.2.2.2.2.2.2.2.2.2.1 | exact qz.2.2.2.2.2.2.2.2.2.2.2.2.2.1 | exact qz.2.2.2.2.2.2.2.2.2.2.2.2.2.2.1 | exact qz.2.2.2.2.2.2.2.2.2.2.2.2.2.2.2.1 | exact qz.2.2.2.2.2.2.2.2.2.2.2.2.2.2.2.2.1 | exact qz.2.2.2.2.2.2.2.2.2.2.2.2.2.2.2.2.2.1) | (refine ne_r4 qz ?_; first | exact qz.1 | exact qz.2.1 | exact qz.2.2.1 | exact qz.2.2.2.1 | exact qz.2.2.2.2.1 | exact qz.2.2.2.2.2.1 | exact qz.2.2.2.2.2.2.1 | exact qz.2.2.2.2.2.2.2.1 | exact qz.2.2.2.2.2.2.2.2.1 | exact qz.2.2.2.2.2.2.2.2.2.1 | exact qz.2.2.2.2.2.2.2.2.2.2.1 | exact qz.2.2.2.2.2.2.2.2.2.2.2.1 | exact qz.2.2.2.2.2.2.2.2.2.2.2.2.1 | exact qz.2.2.2.2.2.2.2.2.2.2.2.2.2.1 | exact qz.2.2.2.2.2.2.2.2.2.2.2.2.2.2.1 | exact qz.2.2.2.2.2.2.2.2.2.2.2.2.2.2.2.1 | exact qz.2.2.2.2.2.2.2.2.2.2.2.2.2.2.2.2.1 | exact qz.2.2.2.2.2.2.2.2.2.2.2.2.2.2.2.2.2.1) | (refine ne_l4 qz ?_; first | exact qz.1 | exact qz.2.1 | exact qz.2.2.1 | exact qz.2.2.2.1 | exact qz.2.2.2.2.1 | exact qz.2.2.2.2.2.1 | exact qz.2.2.2.2.2.2.1 | exact qz.2.2.2.2.2.2.2.1 | exact qz.2.2.2.2.2.2.2.2.1 | exact qz.2.2.2.2.2.2.2.2.2.1 | exact qz.2.2.2.2.2.2.2.2.2.2.1 | exact qz.2.2.2.2.2.2.2.2.2.2.2.1 | exact qz.2.2.2.2.2.2.2.2.2.2.2.2.1 | exact qz.2.2.2.2.2.2.2.2.2.2.2.2.2.1 | exact qz.2.2.2.2.2.2.2.2.2.2.2.2.2.2.1 | exact qz.2.2.2.2.2.2.2.2.2.2.2.2.2.2.2.1 | exact qz.2.2.2.2.2.2.2.2.2.2.2.2.2.2.2.2.1 | exact qz.2.2.2.2.2.2.2.2.2.2.2.2.2.2.2.2.2.1) | clear qz)); done))
  k_with "execs cons" => k_fold
  k_with "exec Assign" => k_fold
  k_with "exec If" => k_fold
  k_with "exec AugAssign" => k_fold
  k_with "my looks" => (repeat' first | exact True.intro | (refine And.intro ?_ ?_) | with_unfolding_all rfl)
  k_with "ne off" => ((repeat (rename (LCg.Off3 _ _ _ _) => qo; first | exact qo.1.1 | exact Ne.symm qo.1.1 | exact qo.1.2.1 | exact Ne.symm qo.1.2.1 | exact qo.1.2.2 | exact Ne.symm qo.1.2.2 | exact qo.2.1.1 | exact Ne.symm qo.2.1.1 | exact qo.2.1.2.1 | exact Ne.symm qo.2.1.2.1 | exact qo.2.1.2.2 | exact Ne.symm qo.2.1.2.2 | exact qo.2.2.1.1 | exact Ne.symm qo.2.2.1.1 | exact qo.2.2.1.2.1 | exact Ne.symm qo.2.2.1.2.1 | exact qo.2.2.1.2.2 | exact Ne.symm qo.2.2.1.2.2 | exact qo.2.2.2.1.1 | exact Ne.symm qo.2.2.2.1.1 | exact qo.2.2.2.1.2.1 | exact Ne.symm qo.2.2.2.1.2.1 | exact qo.2.2.2.1.2.2 | exact Ne.symm qo.2.2.2.1.2.2 | exact qo.2.2.2.2.1.1 | exact Ne.symm qo.2.2.2.2.1.1 | exact qo.2.2.2.2.1.2.1 | exact Ne.symm qo.2.2.2.2.1.2.1 | exact qo.2.2.2.2.1.2.2 | exact Ne.symm qo.2.2.2.2.1.2.2 | exact qo.2.2.2.2.2.1.1 | exact Ne.symm qo.2.2.2.2.2.1.1 | exact qo.2.2.2.2.2.1.2.1 | exact Ne.symm qo.2.2.2.2.2.1.2.1 | exact qo.2.2.2.2.2.1.2.2 | exact Ne.symm qo.2.2.2.2.2.1.2.2 | exact qo.2.2.2.2.2.2.1.1 | exact Ne.symm qo.2.2.2.2.2.2.1.1 | exact qo.2.2.2.2.2.2.1.2.1 | exact Ne.symm qo.2.2.2.2.2.2.1.2.1 | exact qo.2.2.2.2.2.2.1.2.2 | exact Ne.symm qo.2.2.2.2.2.2.1.2.2 | exact qo.2.2.2.2.2.2.2.1.1 | exact Ne.symm qo.2.2.2.2.2.2.2.1.1 | exact qo.2.2.2.2.2.2.2.1.2.1 | exact Ne.symm qo.2.2.2.2.2.2.2.1.2.1 | exact qo.2.2.2.2.2.2.2.1.2.2 | exact Ne.symm qo.2.2.2.2.2.2.2.1.2.2 | exact qo.2.2.2.2.2.2.2.2.1.1 | exact Ne.symm qo.2.2.2.2.2.2.2.2.1.1 | exact qo.2.2.2.2.2.2.2.2.1.2.1 | exact Ne.symm qo.2.2.2.2.2.2.2.2.1.2.1 | exact qo.2.2.2.2.2.2.2.2.1.2.2 | exact Ne.symm qo.2.2.2.2.2.2.2.2.1.2.2 | exact qo.2.2.2.2.2.2.2.2.2.1.1 | exact Ne.symm qo.2.2.2.2.2.2.2.2.2.1.1 | exact qo.2.2.2.2.2.2.2.2.2.1.2.1 | exact Ne.symm qo.2.2.2.2.2.2.2.2.2.1.2.1 | exact qo.2.2.2.2.2.2.2.2.2.1.2.2 | exact Ne.symm qo.2.2.2.2.2.2.2.2.2.1.2.2 | exact qo.2.2.2.2.2.2.2.2.2.2.1.1 | exact Ne.symm qo.2.2.2.2.2.2.2.2.2.2.1.1 | exact qo.2.2.2.2.2.2.2.2.2.2.1.2.1 | exact Ne.symm qo.2.2.2.2.2.2.2.2.2.2.1.2.1 | exact qo.2.2.2.2.2.2.2.2.2.2.1.2.2 | exact Ne.symm qo.2.2.2.2.2.2.2.2.2.2.1.2.2 | exact qo.2.2.2.2.2.2.2.2.2.2.2.1.1 | exact Ne.symm qo.2.2.2.2.2.2.2.2.2.2.2.1.1 | exact qo.2.2.2.2.2.2.2.2.2.2.2.1.2.1 | exact Ne.symm qo.2.2.2.2.2.2.2.2.2.2.2.1.2.1 | exact qo.2.2.2.2.2.2.2.2.2.2.2.1.2.2 | exact Ne.symm qo.2.2.2.2.2.2.2.2.2.2.2.1.2.2 | exact qo.2.2.2.2.2.2.2.2.2.2.2.2.1.1 | exact Ne.symm qo.2.2.2.2.2.2.2.2.2.2.2.2.1.1 | exact qo.2.2.2.2.2.2.2.2.2.2.2.2.1.2.1 | exact Ne.symm qo.2.2.2.2.2.2.2.2.2.2.2.2.1.2.1 | exact qo.2.2.2.2.2.2.2.2.2.2.2.2.1.2.2 | exact Ne.symm qo.2.2.2.2.2.2.2.2.2.2.2.2.1.2.2 | exact qo.2.2.2.2.2.2.2.2.2.2.2.2.2.1.1 | exact Ne.symm qo.2.2.2.2.2.2.2.2.2.2.2.2.2.1.1 | exact qo.2.2.2.2.2.2.2.2.2.2.2.2.2.1.2.1 | exact Ne.symm qo.2.2.2.2.2.2.2.2.2.2.2.2.2.1.2.1 | exact qo.2.2.2.2.2.2.2.2.2.2.2.2.2.1.2.2 | exact Ne.symm qo.2.2.2.2.2.2.2.2.2.2.2.2.2.1.2.2 | exact qo.2.2.2.2.2.2.2.2.2.2.2.2.2.2.1.1 | exact Ne.symm qo.2.2.2.2.2.2.2.2.2.2.2.2.2.2.1.1 | exact qo.2.2.2.2.2.2.2.2.2.2.2.2.2.2.1.2.1 | exact Ne.symm qo.2.2.2.2.2.2.2.2.2.2.2.2.2.2.1.2.1 | exact qo.2.2.2.2.2.2.2.2.2.2.2.2.2.2.1.2.2 | exact Ne.symm qo.2.2.2.2.2.2.2.2.2.2.2.2.2.2.1.2.2 | exact qo.2.2.2.2.2.2.2.2.2.2.2.2.2.2.2.1.1 | exact Ne.symm qo.2.2.2.2.2.2.2.2.2.2.2.2.2.2.2.1.1 | exact qo.2.2.2.2.2.2.2.2.2.2.2.2.2.2.2.1.2.1 | exact Ne.symm qo.2.2.2.2.2.2.2.2.2.2.2.2.2.2.2.1.2.1 | exact qo.2.2.2.2.2.2.2.2.2.2.2.2.2.2.2.1.2.2 | exact Ne.symm qo.2.2.2.2.2.2.2.2.2.2.2.2.2.2.2.1.2.2 | exact qo.2.2.2.2.2.2.2.2.2.2.2.2.2.2.2.2.1.1 | exact Ne.symm qo.2.2.2.2.2.2.2.2.2.2.2.2.2.2.2.2.1.1 | exact qo.2.2.2.2.2.2.2.2.2.2.2.2.2.2.2.2.1.2.1 | exact Ne.symm qo.2.2.2.2.2.2.2.2.2.2.2.2.2.2.2.2.1.2.1 | exact qo.2.2.2.2.2.2.2.2.2.2.2.2.2.2.2.2.1.2.2 | exact Ne.symm qo.2.2.2.2.2.2.2.2.2.2.2.2.2.2.2.2.1.2.2 | clear qo)); done)
  k_with "lt" => (first | with_reducible assumption | ((repeat (rename (_ < _ ∧ _) => qz; first | exact qz.1 | exact qz.2.1 | exact qz.2.2.1 | exact qz.2.2.2.1 | exact qz.2.2.2.2.1 | exact qz.2.2.2.2.2.1 | exact qz.2.2.2.2.2.2.1 | exact qz.2.2.2.2.2.2.2.1 | exact qz.2.2.2.2.2.2.2.2.1 | exact qz.2.2.2.2.2.2.2.2.2.1 | exact qz.2.2.2.2.2.2.2.2.2.2.1 | exact qz.2.2.2.2.2.2.2.2.2.2.2.1 | exact qz.2.2.2.2.2.2.2.2.2.2.2.2.1 | exact qz.2.2.2.2.2.2.2.2.2.2.2.2.2.1 | exact qz.2.2.2.2.2.2.2.2.2.2.2.2.2.2.1 | exact qz.2.2.2.2.2.2.2.2.2.2.2.2.2.2.2.1 | exact qz.2.2.2.2.2.2.2.2.2.2.2.2.2.2.2.2.1 | exact qz.2.2.2.2.2.2.2.2.2.2.2.2.2.2.2.2.2.1 | clear qz)); done))
  k_with "ne one" => ((repeat (rename (_ ≠ _ ∧ _) => qo; first | exact qo.1 | exact Ne.symm qo.1 | exact qo.2.1 | exact Ne.symm qo.2.1 | exact qo.2.2.1 | exact Ne.symm qo.2.2.1 | exact qo.2.2.2.1 | exact Ne.symm qo.2.2.2.1 | exact qo.2.2.2.2.1 | exact Ne.symm qo.2.2.2.2.1 | exact qo.2.2.2.2.2.1 | exact Ne.symm qo.2.2.2.2.2.1 | exact qo.2.2.2.2.2.2.1 | exact Ne.symm qo.2.2.2.2.2.2.1 | exact qo.2.2.2.2.2.2.2.1 | exact Ne.symm qo.2.2.2.2.2.2.2.1 | exact qo.2.2.2.2.2.2.2.2.1 | exact Ne.symm qo.2.2.2.2.2.2.2.2.1 | exact qo.2.2.2.2.2.2.2.2.2.1 | exact Ne.symm qo.2.2.2.2.2.2.2.2.2.1 | exact qo.2.2.2.2.2.2.2.2.2.2.1 | exact Ne.symm qo.2.2.2.2.2.2.2.2.2.2.1 | exact qo.2.2.2.2.2.2.2.2.2.2.2.1 | exact Ne.symm qo.2.2.2.2.2.2.2.2.2.2.2.1 | exact qo.2.2.2.2.2.2.2.2.2.2.2.2.1 | exact Ne.symm qo.2.2.2.2.2.2.2.2.2.2.2.2.1 | exact qo.2.2.2.2.2.2.2.2.2.2.2.2.2.1 | exact Ne.symm qo.2.2.2.2.2.2.2.2.2.2.2.2.2.1 | exact qo.2.2.2.2.2.2.2.2.2.2.2.2.2.2.1 | exact Ne.symm qo.2.2.2.2.2.2.2.2.2.2.2.2.2.2.1 | exact qo.2.2.2.2.2.2.2.2.2.2.2.2.2.2.2.1 | exact Ne.symm qo.2.2.2.2.2.2.2.2.2.2.2.2.2.2.2.1 | exact qo.2.2.2.2.2.2.2.2.2.2.2.2.2.2.2.2.1 | exact Ne.symm qo.2.2.2.2.2.2.2.2.2.2.2.2.2.2.2.2.1 | clear qo)); done)
  trivial
set_option maxRecDepth 100000

/-- the octets of one number: all but the last bear 64 -/
noncomputable def vok : List Nat → Prop
  | [] => False
  | [o] => o / 64 % 2 = 0
  | o :: p :: r => o / 64 % 2 = 1 ∧ vok (p :: r)
noncomputable def vval : Nat → List Nat → Nat
  | v, [] => v
  | v, o :: r => vval (v * 64 + o % 64) r
noncomputable def Stop5 (P : Prop) : Prop := P
theorem stop5 {P : Prop} (h : Stop5 P) : P := h
theorem wdParse_51 : True := by
  k_with "call builtin:next" => (k_here; refine stop5 ?_)
  trivial
theorem wdParse_52 : True := by
  k_with "exec While" => (k_here; refine stop5 ?_)
  trivial
theorem wdParse_53 : True := by
  k_with "exec While BinOp cons nil" => (k_here; refine stop5 ?_)
  trivial
theorem at_nat {its : List Value} {l p t : List Nat} {o : Nat} (hi : IntsAre its (natI l)) (hl : l = p ++ o :: t) : ∃ tk, its.toArray[p.length]? = some (.int (o : Int) tk) := by
  obtain ⟨tk, e⟩ := hi.get p.length (o : Int) (by rw [hl]; simp)
  exact ⟨tk, by simpa using e⟩

theorem and63 {o : Nat} (h : o < 256) : Builtin.bitAnd (o : Int) 63 = ((o % 64 : Nat) : Int) := by
  have all : ∀ o : Fin 256, Builtin.bitAnd ((o.val : Nat) : Int) 63 = ((o.val % 64 : Nat) : Int) := by decide +kernel
  exact all ⟨o, h⟩
theorem and64_0 {o : Nat} (h : o < 256) (hb : o / 64 % 2 = 0) : Builtin.bitAnd (o : Int) 64 = 0 := by
  have all : ∀ o : Fin 256, o.val / 64 % 2 = 0 → Builtin.bitAnd ((o.val : Nat) : Int) 64 = 0 := by decide +kernel
  exact all ⟨o, h⟩ hb
theorem and64_1 {o : Nat} (h : o < 256) (hb : o / 64 % 2 = 1) : Builtin.bitAnd (o : Int) 64 ≠ 0 := by
  have all : ∀ o : Fin 256, o.val / 64 % 2 = 1 → Builtin.bitAnd ((o.val : Nat) : Int) 64 ≠ 0 := by decide +kernel
  exact all ⟨o, h⟩ hb
theorem vval_ge : ∀ (r : List Nat) (v : Nat), v ≤ vval v r
  | [], v => Nat.le_refl v
  | o :: r, v => Nat.le_trans (by omega) (vval_ge r (v * 64 + o % 64))
/-- the frame's map within the while -/
noncomputable abbrev pvMap (m9 : Str → Option Value) (v1 v2 : Value) : Str → Option Value := fun y => if y = Str.ofString "val" then some v1 else if y = Str.ofString "b" then some v2 else m9 y
theorem fr_pvMap {h₀ h : Heap} {L : Addr} {m m9 : Str → Option Value} {v1 v2 : Value} (F : Fr h₀ L h m) (h1 : m (Str.ofString "val") = some v1) (h3 : m (Str.ofString "b") = some v2) (h2 : ∀ z, z ≠ Str.ofString "val" → z ≠ Str.ofString "b" → m z = m9 z) :
    Fr h₀ L h (pvMap m9 v1 v2) := by
  have e : pvMap m9 v1 v2 = m := by
    funext y
    unfold pvMap
    by_cases a : y = Str.ofString "val"
    · rw [if_pos a, a, h1]
    · rw [if_neg a]
      by_cases b : y = Str.ofString "b"
      · rw [if_pos b, b, h3]
      · rw [if_neg b, h2 y a b]
  rw [e]; exact F
noncomputable abbrev FrMap5 {h₀ h : Heap} {L : Addr} {m : Str → Option Value} (_ : Fr h₀ L h m) : Str → Option Value := m
theorem wdParse_54 : True := by
  k_with "Exists" => (k_here; refine stop5 ?_)
  trivial

theorem wdParse_55 : True := by
  k_with "inplaceOp LShift int int" => (k_here; k_dflt (refine ilshift_int_small (by decide) (by decide) hv64 ?_))
  trivial
theorem and_digit (v c : Nat) : (v * 64) &&& (c % 64) = 0 := by
  apply Nat.eq_of_testBit_eq
  intro i
  rw [Nat.testBit_and, Nat.zero_testBit]
  by_cases h : i < 6
  · rw [show v * 64 = 2 ^ 6 * v from by omega, Nat.testBit_two_pow_mul]
    simp [Nat.not_le.mpr h]
  · have : (c % 64).testBit i = false := Nat.testBit_lt_two_pow (Nat.lt_of_lt_of_le (Nat.mod_lt _ (by decide)) (Nat.pow_le_pow_right (n := 2) (by decide) (Nat.not_lt.mp h)))
    rw [this, Bool.and_false]
theorem or_digit (v c : Nat) : Builtin.bitOr ((v : Int) * 2 ^ Int.toNat 6) ((c % 64 : Nat) : Int) = ((v * 64 + c % 64 : Nat) : Int) := by
  have e : (v : Int) * 2 ^ Int.toNat 6 = ((v * 64 : Nat) : Int) := by
    rw [show (2 : Int) ^ Int.toNat 6 = 64 from by decide]; omega
  have h : Builtin.bitAnd ((v * 64 : Nat) : Int) ((c % 64 : Nat) : Int) = (((v * 64) &&& (c % 64) : Nat) : Int) := by
    unfold Builtin.bitAnd
    rw [decide_eq_true (by omega : (0 : Int) ≤ ((v * 64 : Nat) : Int)), decide_eq_true (by omega : (0 : Int) ≤ ((c % 64 : Nat) : Int))]
    simp only [Int.toNat_natCast]
  rw [e, bitOr_and, h, and_digit]
  omega
set_option maxHeartbeats 8000000 in
theorem parse_item (w : World) (fe ol : Addr) (hne : @LT.lt Nat _ ol fe) (its : List Value) (lst pre os post : List Nat) (no : Nat) (hi : IntsAre its (natI lst)) (hl : lst = pre ++ (os ++ post)) (hv : vok os) (h256 : ∀ x ∈ os, x < 256) (hlen : os.length ≤ 7) (hb : vval 0 os < 2 ^ 37) :
    FnSpec w 56 [.ref fe] [(fe, liObj ol pre.length), (ol, W.listOf its.toArray no)] 4 60
      (fun _ v n => n = [(fe, liObj ol (pre.length + os.length)), (ol, W.listOf its.toArray no)] ∧ ∃ t, v = .int (vval 0 os : Int) t) := by
  cases os with
  | nil => exact hv.elim
  | cons o r =>
  unfold FnSpec
  k_fill
  w_top off
  intro mean mg mb dp un gd cn cs a ccd cl outer A₀ base h₀ L m s Q others B F X N NO hdis T hk hd hu hret
  k_with "my binds" => exact BindsTo.of_eq (binds := [(Str.ofString "iterator", .ref fe)]) rfl
  k_dflt k_extra "my enter"
  k_steps
  unfold Stop5
  obtain ⟨tz, hz⟩ := at_nat hi hl
  refine next_one (l := ol) (i := pre.length) (n := no) (by k_asm) (by k_asm) (by k_updF) (by k_mem) hz ?_
  intro h1 F1 N1
  (try dsimp only at N1)
  have ho : o < 256 := h256 o (.head _)
  k_steps
  unfold Stop5
  (rename Fr _ _ _ _ => F8); (rename News _ _ _ _ => N8)
  have e63 : Builtin.bitAnd (o : Int) 63 = ((o % 64 : Nat) : Int) := and63 ho
  simp only [e63] at F8
  refine While_inv2 (fun n m₁ nx => ∃ (b : Nat) (r2 pr : List Nat) (v : Nat) (tb tv : Tok), n = r2.length ∧ lst = pr ++ (r2 ++ post) ∧ vok (b :: r2) ∧ (∀ x ∈ b :: r2, x < 256) ∧ pr.length + r2.length = pre.length + (o :: r).length ∧ vval v r2 = vval 0 (o :: r) ∧
    m₁ = pvMap (FrMap5 F8) (.int (v : Int) tv) (.int (b : Int) tb) ∧ nx = [(fe, liObj ol pr.length), (ol, W.listOf its.toArray no)])
    (fr_pvMap F8 rfl rfl (fun _ _ _ => rfl)) N8 ⟨o, r, pre ++ [o], o % 64, _, _, rfl, by rw [hl]; simp, hv, h256, by simp; omega, by show _ = vval (0 * 64 + o % 64) r; rw [Nat.zero_mul, Nat.zero_add], rfl, by simp⟩ ?_
  intro n m₁ nx h₁ tk₁ FW NW hI9
  try k_fold
  obtain ⟨b, r2, pr, v, tb, tv, rfl, hl2, hv2, hx2, hn2, hval, rfl, rfl⟩ := hI9
  have hb256 := hx2 b (.head _)
  cases r2 with
  | nil =>
    have e64 := and64_0 hb256 hv2
    k_steps
    all_goals (try (exfalso; exact absurd e64 (by assumption)))
    (rename News h₀ L _ _ => kN9); (rename Fr h₀ L _ _ => kF9)
    simp only [List.length_nil, Nat.add_zero] at hn2
    rw [hn2] at kN9
    have hval' : v = vval 0 (o :: r) := hval
    exact left_end hret lN' lO' kF9 kN9 ⟨rfl, _, by rw [hval']⟩ (by k_extra "my sub")
  | cons c r3 =>
    obtain ⟨hb1, hv3⟩ := hv2
    have e64 := and64_1 hb256 hb1
    have hc256 := hx2 c (.tail _ (.head _))
    have hv37 : v < 2 ^ 37 := Nat.lt_of_le_of_lt (vval_ge _ _) (hval ▸ hb)
    have hv64 : ((v : Nat) : Int).natAbs < 2 ^ 64 := by rw [Int.natAbs_natCast]; exact Nat.lt_trans hv37 (by decide)
    k_steps
    all_goals (try (exfalso; exact absurd (by assumption) e64))
    unfold Stop5
    obtain ⟨tz2, hz2⟩ := at_nat hi hl2
    refine next_one (l := ol) (i := pr.length) (n := no) (by k_asm) (by k_asm) (by k_updF) (by k_mem) hz2 ?_
    intro h12 F12 N12
    (try dsimp only at N12)
    k_steps
    (rename News _ _ _ _ => NG); (rename Fr _ _ _ _ => FG)
    rw [and63 hc256, or_digit] at FG
    refine ⟨_, _, _, _, r3.length, rfl, fr_pvMap (m9 := FrMap5 F8) FG rfl rfl (fun z z1 z2 => by simp only [if_neg z1, if_neg z2]), NG, by simp, c, r3, pr ++ [c], v * 64 + c % 64, _, _, rfl, by rw [hl2]; simp, hv3, fun x hx => hx2 x (.tail _ hx), ?_, hval, rfl, by rw [List.length_append]; rfl⟩
    rw [← hn2, List.length_append]
    simp only [List.length_cons, List.length_nil]
    omega

/-- octL puts figures ahead of acc: the value is the number's, in front of acc -/
theorem vval_append (a b : List Nat) : ∀ v, vval v (a ++ b) = vval (vval v a) b := by
  induction a with
  | nil => intro v; rfl
  | cons o r ih => intro v; exact ih _
theorem vok_cons {o : Nat} {l : List Nat} (h : o / 64 % 2 = 1) (hl : vok l) : vok (o :: l) := by
  cases l with
  | nil => exact hl.elim
  | cons p r => exact ⟨h, hl⟩
theorem octL_vok : ∀ (n left : Nat) (acc : List Nat), left ≤ n → vok acc → vok (octL left acc) := by
  intro n
  induction n with
  | zero =>
    intro left acc h ha
    have : left = 0 := by omega
    subst this
    rw [octL_eq, if_pos rfl]; exact ha
  | succ n ih =>
    intro left acc h ha
    rw [octL_eq]
    split
    · exact ha
    · exact ih _ _ (by omega) (vok_cons (by omega) ha)
theorem octL_val : ∀ (n left : Nat) (acc : List Nat), left ≤ n → vval 0 (octL left acc) = vval left acc := by
  intro n
  induction n with
  | zero =>
    intro left acc h
    have : left = 0 := by omega
    subst this
    rw [octL_eq, if_pos rfl]
  | succ n ih =>
    intro left acc h
    rw [octL_eq]
    split
    · rename_i h0; rw [h0]
    · rw [ih _ _ (by omega)]
      show vval (left / 64 * 64 + (left % 64 + 64) % 64) acc = vval left acc
      rw [show left / 64 * 64 + (left % 64 + 64) % 64 = left from by omega]
theorem octL_lt : ∀ (n left : Nat) (acc : List Nat), left ≤ n → (∀ x ∈ acc, x < 128) → ∀ x ∈ octL left acc, x < 128 := by
  intro n
  induction n with
  | zero =>
    intro left acc h ha
    have : left = 0 := by omega
    subst this
    rw [octL_eq, if_pos rfl]; exact ha
  | succ n ih =>
    intro left acc h ha
    rw [octL_eq]
    split
    · exact ha
    · refine ih _ _ (by omega) fun x hx => ?_
      rcases List.mem_cons.mp hx with rfl | hx
      · omega
      · exact ha x hx
theorem mark_vok {l : List Nat} (h : vok l) : vok (mark l) := by
  unfold mark
  split
  · rename_i a b c r
    exact ⟨by have := h.1; omega, h.2⟩
  · exact h
theorem vval_cons (v o : Nat) (r : List Nat) : vval v (o :: r) = vval (v * 64 + o % 64) r := rfl
theorem mark_val : ∀ (l : List Nat) (v : Nat), vval v (mark l) = vval v l
  | a :: b :: c :: r, v => by
    rw [show mark (a :: b :: c :: r) = (a + 128) :: b :: c :: r from rfl, vval_cons v (a + 128), vval_cons v a, Nat.add_mod a 128 64, show 128 % 64 = 0 from rfl, Nat.add_zero, Nat.mod_mod]
  | [a, b], v => rfl
  | [a], v => rfl
  | [], v => rfl
theorem vok_octets (M : Nat) : vok (octets M) := mark_vok (octL_vok _ _ _ (Nat.le_refl _) (by show M % 64 / 64 % 2 = 0; omega))
theorem val_octets (M : Nat) : vval 0 (octets M) = M := by
  unfold octets
  rw [mark_val, octL_val _ _ _ (Nat.le_refl _)]
  show M / 64 * 64 + M % 64 % 64 = M
  omega
theorem lt_octets (M : Nat) : ∀ x ∈ octets M, x < 256 := mark_lt (octL_lt _ _ _ (Nat.le_refl _) fun x hx => by rw [List.mem_singleton.mp hx]; omega)
end Mine

namespace Mine
theorem wdTold_0 : True := by
  k_with_none
  k_with "my enter" => (refine' code_defS ?k1 ?k2 ?k3 ?k4 ?kO ?kD ?k5 ?kA ?kF ?kK ?k6 ?k7 ?k8 ?k9 ?kB ?_ ?c2 ?c3 ?c4 ?c5; (case kA => exact rfl); (case kF => exact rfl); (case kK => assumption); (case kD => assumption); (case k1 => k_asm); (case k2 => k_asm); (case k3 => k_asm); (case k4 => assumption); (case kO => assumption); (case k5 => k_asm); (case k6 => k_is); (case k7 => k_is); (case k8 => ktr_room); (case k9 => first | k_extra "my binds" | exact BindsTo.of_eq rfl); (case c5 => decide); (case kB => exact locs rfl); (case c2 => exact rfl); (case c3 => exact rfl); (case c4 => exact rfl); k_whole; intro g' L' h' FG' F' N' B' X' T' lN' lO'; (try dsimp only); (try k_lift B'); (try k_fold))
  k_with "my sub" => repeat (first | exact sub_nil | refine sub_cons (by k_mem) ?_)
  k_with "my spec" => ((case k1 => k_asm); (case k2 => k_asm); (case k3 => k_asm); (case k4 => k_asm); (case k5 => k_asm); (case k6 => exact rfl); (case k7 => ktr_room); (case k8 => ktr_units); (case h1 => k_extra "my sub"); (case h2 => k_extra "my sub"); (case h3 => k_extra "my dis"); k_whole)
  k_with "my enterC" => (refine' code_defCS ?k1 ?k2 ?k3 ?k4 ?kO ?kQ ?k5 ?kA ?kF ?kK ?k6 ?k7 ?k8 ?k9 ?kB ?kD ?_ ?c2 ?c3 ?c4; (case kA => exact rfl); (case kF => exact rfl); (case kK => assumption); (case kQ => assumption); (case k1 => k_asm); (case k2 => k_asm); (case k3 => k_asm); (case k4 => assumption); (case kO => assumption); (case k5 => k_asm); (case k6 => k_is); (case k7 => k_is); (case k8 => ktr_room); (case k9 => first | k_extra "my binds" | exact BindsTo.of_eq rfl); (case kB => exact rfl); (case kD => decide +kernel); (case c2 => exact rfl); (case c3 => exact rfl); (case c4 => exact rfl); k_whole; intro g' L' h' tk' cells' FG' F' N' Y' B' X' T' lN' lO'; (have l1' := lN'); (try k_lt l1'); k_cells Y'; (try simp only [List.cons_append, List.nil_append] at N'); (try dsimp only); (try k_lift B'); (try k_fold))
  k_with "my dis" => (refine dis_of ?_; dsimp only [DisL, OffL]; ((repeat' first | exact True.intro | refine And.intro ?_ ?_) <;> first | k_extra "ne" | omega))
  k_with "my nel" => (dsimp only [NeL]; ((repeat' first | exact True.intro | refine And.intro ?_ ?_) <;> first | k_extra "ne" | omega))
  k_with "k ne" => (refine neN ?_; (try dsimp only); k_extra "ne")
  k_with "ne" => (first | with_reducible assumption | exact Nat.ne_of_lt (by with_reducible assumption) | exact Nat.ne_of_gt (by with_reducible assumption) | exact Ne.symm (by with_reducible assumption) | ((repeat (rename (_ < _ ∧ _) => qz; first | (refine ne_r qz ?_; first | exact qz.1 | exact qz.2.1 | exact qz.2.2.1 | exact qz.2.2.2.1 | exact qz.2.2.2.2.1 | exact qz.2.2.2.2.2.1 | exact qz.2.2.2.2.2.2.1 | exact qz.2.2.2.2.2.2.2.1 | exact qz.2.2.2.2.2.2.2.2.1 | exact qz.2.2.2.2.2.2.2.2.2.1 | exact qz.2.2.2.2.2.2.2.2.2.2.1 | exact qz.2.2.2.2.2.2.2.2.2.2.2.1 | exact qz.2.2.2.2.2.2.2.2.2.2.2.2.1 | exact qz.2.2.2.2.2.2.2.2.2.2.2.2.2.1 | exact qz.2.2.2.2.2.2.2.2.2.2.2.2.2.2.1 | exact qz.2.2.2.2.2.2.2.2.2.2.2.2.2.2.2.1 | exact qz.2.2.2.2.2.2.2.2.2.2.2.2.2.2.2.2.1 | exact qz.2.2.2.2.2.2.2.2.2.2.2.2.2.2.2.2.2.1) | (refine ne_l qz ?_; first | exact qz.1 | exact qz.2.1 | exact qz.2.2.1 | exact qz.2.2.2.1 | exact qz.2.2.2.2.1 | exact qz.2.2.2.2.2.1 | exact qz.2.2.2.2.2.2.1 | exact qz.2.2.2.2.2.2.2.1 | exact qz.2.2.2.2.2.2.2.2.1 | exact qz.2.2.2.2.2.2.2.2.2.1 | exact qz.2.2.2.2.2.2.2.2.2.2.1 | exact qz.2.2.2.2.2.2.2.2.2.2.2.1 | exact qz.2.2.2.2.2.2.2.2.2.2.2.2.1 | exact qz.2.2.2.2.2.2.2.2.2.2.2.2.2.1 | exact qz.2.2.2.2.2.2.2.2.2.2.2.2.2.2.1 | exact qz.2.2.2.2.2.2.2.2.2.2.2.2.2.2.2.1 | exact qz.2.2.2.2.2.2.2.2.2.2.2.2.2.2.2.2.1 | exact qz.2.2.2.2.2.2.2.2.2.2.2.2.2.2.2.2.2.1) | clear qz)); done) | k_extra "ne cells" | k_extra "ne one" | k_extra "ne off" | k_extra "ne up")
  k_with "ne cells" => (first | exact ne_off (i := 0) (j := 1) rfl | exact ne_off (i := 0) (j := 2) rfl | exact ne_off (i := 0) (j := 3) rfl | exact ne_off (i := 0) (j := 4) rfl | exact ne_off (i := 1) (j := 0) rfl | exact ne_off (i := 1) (j := 2) rfl | exact ne_off (i := 1) (j := 3) rfl | exact ne_off (i := 1) (j := 4) rfl | exact ne_off (i := 2) (j := 0) rfl | exact ne_off (i := 2) (j := 1) rfl | exact ne_off (i := 2) (j := 3) rfl | exact ne_off (i := 2) (j := 4) rfl | exact ne_off (i := 3) (j := 0) rfl | exact ne_off (i := 3) (j := 1) rfl | exact ne_off (i := 3) (j := 2) rfl | exact ne_off (i := 3) (j := 4) rfl | exact ne_off (i := 4) (j := 0) rfl | exact ne_off (i := 4) (j := 1) rfl | exact ne_off (i := 4) (j := 2) rfl | exact ne_off (i := 4) (j := 3) rfl)
  k_with "ne up" => (first | exact Nat.ne_of_lt (lt_up1 (by with_reducible assumption)) | exact Nat.ne_of_gt (lt_up1 (by with_reducible assumption)) | exact Nat.ne_of_lt (lt_up2 (by with_reducible assumption)) | exact Nat.ne_of_gt (lt_up2 (by with_reducible assumption)) | exact Nat.ne_of_lt (lt_up3 (by with_reducible assumption)) | exact Nat.ne_of_gt (lt_up3 (by with_reducible assumption)) | exact Nat.ne_of_lt (lt_up4 (by with_reducible assumption)) | exact Nat.ne_of_gt (lt_up4 (by with_reducible assumption)) | ((repeat (rename (_ < _ ∧ _) => qz; first | (refine ne_r1 qz ?_; first | exact qz.1 | exact qz.2.1 | exact qz.2.2.1 | exact qz.2.2.2.1 | exact qz.2.2.2.2.1 | exact qz.2.2.2.2.2.1 | exact qz.2.2.2.2.2.2.1 | exact qz.2.2.2.2.2.2.2.1 | exact qz.2.2.2.2.2.2.2.2.1 | exact qz.2.2.2.2.2.2.2.2.2.1 | exact qz.2.2.2.2.2.2.2.2.2.2.1 | exact qz.2.2.2.2.2.2.2.2.2.2.2.1 | exact qz.2.2.2.2.2.2.2.2.2.2.2.2.1 | exact qz.2.2.2.2.2.2.2.2.2.2.2.2.2.1 | exact qz.2.2.2.2.2.2.2.2.2.2.2.2.2.2.1 | exact qz.2.2.2.2.2.2.2.2.2.2.2.2.2.2.2.1 | exact qz.2.2.2.2.2.2.2.2.2.2.2.2.2.2.2.2.1 | exact qz.2.2.2.2.2.2.2.2.2.2.2.2.2.2.2.2.2.1) | (refine ne_l1 qz ?_; first | exact qz.1 | exact qz.2.1 | exact qz.2.2.1 | exact qz.2.2.2.1 | exact qz.2.2.2.2.1 | exact qz.2.2.2.2.2.1 | exact qz.2.2.2.2.2.2.1 | exact qz.2.2.2.2.2.2.2.1 | exact qz.2.2.2.2.2.2.2.2.1 | exact qz.2.2.2.2.2.2.2.2.2.1 | exact qz.2.2.2.2.2.2.2.2.2.2.1 | exact qz.2.2.2.2.2.2.2.2.2.2.2.1 | exact qz.2.2.2.2.2.2.2.2.2.2.2.2.1 | exact qz.2.2.2.2.2.2.2.2.2.2.2.2.2.1 | exact qz.2.2.2.2.2.2.2.2.2.2.2.2.2.2.1 | exact qz.2.2.2.2.2.2.2.2.2.2.2.2.2.2.2.1 | exact qz.2.2.2.2.2.2.2.2.2.2.2.2.2.2.2.2.1 | exact qz.2.2.2.2.2.2.2.2.2.2.2.2.2.2.2.2.2.1) | (refine ne_r2 qz ?_; first | exact qz.1 | exact qz.2.1 | exact qz.2.2.1 | exact qz.2.2.2.1 | exact qz.2.2.2.2.1 | exact qz.2.2.2.2.2.1 | exact qz.2.2.2.2.2.2.1 | exact qz.2.2.2.2.2.2.2.1 | exact qz.2.2.2.2.2.2.2.2.1 | exact qz.2.2.2.2.2.2.2.2.2.1 | exact qz.2.2.2.2.2.2.2.2.2.2.1 | exact qz.2.2.2.2.2.2.2.2.2.2.2.1 | exact qz.2.2.2.2.2.2.2.2.2.2.2.2.1 | exact qz.2.2.2.2.2.2.2.2.2.2.2.2.2.1 | exact qz.2.2.2.2.2.2.2.2.2.2.2.2.2.2.1 | exact qz.2.2.2.2.2.2.2.2.2.2.2.2.2.2.2.1 | exact qz.2.2.2.2.2.2.2.2.2.2.2.2.2.2.2.2.1 | exact qz.2.2.2.2.2.2.2.2.2.2.2.2.2.2.2.2.2.1) | (refine ne_l2 qz ?_; first | exact qz.1 | exact qz.2.1 | exact qz.2.2.1 | exact qz.2.2.2.1 | exact qz.2.2.2.2.1 | exact qz.2.2.2.2.2.1 | exact qz.2.2.2.2.2.2.1 | exact qz.2.2.2.2.2.2.2.1 | exact qz.2.2.2.2.2.2.2.2.1 | exact qz.2.2.2.2.2.2.2.2.2.1 | exact qz.2.2.2.2.2.2.2.2.2.2.1 | exact qz.2.2.2.2.2.2.2.2.2.2.2.1 | exact qz.2.2.2.2.2.2.2.2.2.2.2.2.1 | exact qz.2.2.2.2.2.2.2.2.2.2.2.2.2.1 | exact qz.2.2.2.2.2.2.2.2.2.2.2.2.2.2.1 | exact qz.2.2.2.2.2.2.2.2.2.2.2.2.2.2.2.1 | exact qz.2.2.2.2.2.2.2.2.2.2.2.2.2.2.2.2.1 | exact qz.2.2.2.2.2.2.2.2.2.2.2.2.2.2.2.2.2.1) | (refine ne_r3 qz ?_; first | exact qz.1 | exact qz.2.1 | exact qz.2.2.1 | exact qz.2.2.2.1 | exact qz.2.2.2.2.1 | exact qz.2.2.2.2.2.1 | exact qz.2.2.2.2.2.2.1 | exact qz.2.2.2.2.2.2.2.1 | exact qz.2.2.2.2.2.2.2.2.1 | exact qz.2.2.2.2.2.2.2.2.2.1 | exact qz.2.2.2.2.2.2.2.2.2.2.1 | exact qz.2.2.2.2.2.2.2.2.2.2.2.1 | exact qz.2.2.2.2.2.2.2.2.2.2.2.2.1 | exact qz.2.2.2.2.2.2.2.2.2.2.2.2.2.1 | exact qz.2.2.2.2.2.2.2.2.2.2.2.2.2.2.1 | exact qz.2.2.2.2.2.2.2.2.2.2.2.2.2.2.2.1 | exact qz.2.2.2.2.2.2.2.2.2.2.2.2.2.2.2.2.1 | exact qz.2.2.2.2.2.2.2.2.2.2.2.2.2.2.2.2.2.1) | (refine ne_l3 qz ?_; first | exact qz.1 | exact qz.2.1 | exact qz.2.2.1 | exact qz.2.2.2.1 | exact qz.2.2.2.2.1 | exact qz.2.2.2.2.2.1 | exact qz.2.2.2.2.2.2.1 | exact qz.2.2.2.2.2.2.2.1 | exact qz.2.2.2.2.2.2.2.2.1 | exact qz.2.2.2.2.2.2.2.2.2.1 | exact qz.2.2.2.2.2.2.2.2.2.2.1 | exact qz.2.2.2.2.2.2.2.2.2.2.2.1 | exact qz.2.2.2.2.2.2.2.2.2.2.2.2.1 | exact qz.2.2.2.2.2.2.2.2.2.2.2.2.2.1 | exact qz.2.2.2.2.2.2.2.2.2.2.2.2.2.2.1 | exact qz.2.2.2.2.2.2.2.2.2.2.2.2.2.2.2.1 | exact qz.2.2.2.2.2.2.2.2.2.2.2.2.2.2.2.2.1 | exact qz.2.2.2.2.2.2.2.2.2.2.2.2.2.2.2.2.2.1) | (refine ne_r4 qz ?_; first | exact qz.1 | exact qz.2.1 | exact qz.2.2.1 | exact qz.2.2.2.1 | exact qz.2.2.2.2.1 | exact qz.2.2.2.2.2.1 | exact qz.2.2.2.2.2.2.1 | exact qz.2.2.2.2.2.2.2.1 | exact qz.2.2.2.2.2.2.2.2.1 | exact qz.2.2.2.2.2.2.2.2.2.1 | exact qz.2.2.2.2.2.2.2.2.2.2.1 | exact qz.2.2.2.2.2.2.2.2.2.2.2.1 | exact qz.2.2.2.2.2.2.2.2.2.2.2.2.1 | exact qz.2.2.2.2.2.2.2.2.2.2.2.2.2.1 | exact qz.2.2.2.2.2.2.2.2.2.2.2.2.2.2.1 | exact qz.2.2.2.2.2.2.2.2.2.2.2.2.2.2.2.1 | exact qz.2.2.2.2.2.2.2.2.2.2.2.2.2.2.2.2.1 | exact qz.2.2.2.2.2.2.2.2.2.2.2.2.2.2.2.2.2.1) | (refine ne_l4 qz ?_; first | exact qz.1 | exact qz.2.1 | exact qz.2.2.1 | exact qz.2.2.2.1 | exact qz.2.2.2.2.1 | exact qz.2.2.2.2.2.1 | exact qz.2.2.2.2.2.2.1 | exact qz.2.2.2.2.2.2.2.1 | exact qz.2.2.2.2.2.2.2.2.1 | exact qz.2.2.2.2.2.2.2.2.2.1 | exact qz.2.2.2.2.2.2.2.2.2.2.1 | exact qz.2.2.2.2.2.2.2.2.2.2.2.1 | exact qz.2.2.2.2.2.2.2.2.2.2.2.2.1 | exact qz.2.2.2.2.2.2.2.2.2.2.2.2.2.1 | exact qz.2.2.2.2.2.2.2.2.2.2.2.2.2.2.1 | exact qz.2.2.2.2.2.2.2.2.2.2.2.2.2.2.2.1 | exact qz.2.2.2.2.2.2.2.2.2.2.2.2.2.2.2.2.1 | exact qz.2.2.2.2.2.2.2.2.2.2.2.2.2.2.2.2.2.1) | clear qz)); done))
  k_with "execs cons" => k_fold
  k_with "exec Assign" => k_fold
  k_with "exec If" => k_fold
  k_with "exec AugAssign" => k_fold
  k_with "my looks" => (repeat' first | exact True.intro | (refine And.intro ?_ ?_) | with_unfolding_all rfl)
  k_with "ne off" => ((repeat (rename (LCg.Off3 _ _ _ _) => qo; first | exact qo.1.1 | exact Ne.symm qo.1.1 | exact qo.1.2.1 | exact Ne.symm qo.1.2.1 | exact qo.1.2.2 | exact Ne.symm qo.1.2.2 | exact qo.2.1.1 | exact Ne.symm qo.2.1.1 | exact qo.2.1.2.1 | exact Ne.symm qo.2.1.2.1 | exact qo.2.1.2.2 | exact Ne.symm qo.2.1.2.2 | exact qo.2.2.1.1 | exact Ne.symm qo.2.2.1.1 | exact qo.2.2.1.2.1 | exact Ne.symm qo.2.2.1.2.1 | exact qo.2.2.1.2.2 | exact Ne.symm qo.2.2.1.2.2 | exact qo.2.2.2.1.1 | exact Ne.symm qo.2.2.2.1.1 | exact qo.2.2.2.1.2.1 | exact Ne.symm qo.2.2.2.1.2.1 | exact qo.2.2.2.1.2.2 | exact Ne.symm qo.2.2.2.1.2.2 | exact qo.2.2.2.2.1.1 | exact Ne.symm qo.2.2.2.2.1.1 | exact qo.2.2.2.2.1.2.1 | exact Ne.symm qo.2.2.2.2.1.2.1 | exact qo.2.2.2.2.1.2.2 | exact Ne.symm qo.2.2.2.2.1.2.2 | exact qo.2.2.2.2.2.1.1 | exact Ne.symm qo.2.2.2.2.2.1.1 | exact qo.2.2.2.2.2.1.2.1 | exact Ne.symm qo.2.2.2.2.2.1.2.1 | exact qo.2.2.2.2.2.1.2.2 | exact Ne.symm qo.2.2.2.2.2.1.2.2 | exact qo.2.2.2.2.2.2.1.1 | exact Ne.symm qo.2.2.2.2.2.2.1.1 | exact qo.2.2.2.2.2.2.1.2.1 | exact Ne.symm qo.2.2.2.2.2.2.1.2.1 | exact qo.2.2.2.2.2.2.1.2.2 | exact Ne.symm qo.2.2.2.2.2.2.1.2.2 | exact qo.2.2.2.2.2.2.2.1.1 | exact Ne.symm qo.2.2.2.2.2.2.2.1.1 | exact qo.2.2.2.2.2.2.2.1.2.1 | exact Ne.symm qo.2.2.2.2.2.2.2.1.2.1 | exact qo.2.2.2.2.2.2.2.1.2.2 | exact Ne.symm qo.2.2.2.2.2.2.2.1.2.2 | exact qo.2.2.2.2.2.2.2.2.1.1 | exact Ne.symm qo.2.2.2.2.2.2.2.2.1.1 | exact qo.2.2.2.2.2.2.2.2.1.2.1 | exact Ne.symm qo.2.2.2.2.2.2.2.2.1.2.1 | exact qo.2.2.2.2.2.2.2.2.1.2.2 | exact Ne.symm qo.2.2.2.2.2.2.2.2.1.2.2 | exact qo.2.2.2.2.2.2.2.2.2.1.1 | exact Ne.symm qo.2.2.2.2.2.2.2.2.2.1.1 | exact qo.2.2.2.2.2.2.2.2.2.1.2.1 | exact Ne.symm qo.2.2.2.2.2.2.2.2.2.1.2.1 | exact qo.2.2.2.2.2.2.2.2.2.1.2.2 | exact Ne.symm qo.2.2.2.2.2.2.2.2.2.1.2.2 | exact qo.2.2.2.2.2.2.2.2.2.2.1.1 | exact Ne.symm qo.2.2.2.2.2.2.2.2.2.2.1.1 | exact qo.2.2.2.2.2.2.2.2.2.2.1.2.1 | exact Ne.symm qo.2.2.2.2.2.2.2.2.2.2.1.2.1 | exact qo.2.2.2.2.2.2.2.2.2.2.1.2.2 | exact Ne.symm qo.2.2.2.2.2.2.2.2.2.2.1.2.2 | exact qo.2.2.2.2.2.2.2.2.2.2.2.1.1 | exact Ne.symm qo.2.2.2.2.2.2.2.2.2.2.2.1.1 | exact qo.2.2.2.2.2.2.2.2.2.2.2.1.2.1 | exact Ne.symm qo.2.2.2.2.2.2.2.2.2.2.2.1.2.1 | exact qo.2.2.2.2.2.2.2.2.2.2.2.1.2.2 | exact Ne.symm qo.2.2.2.2.2.2.2.2.2.2.2.1.2.2 | exact qo.2.2.2.2.2.2.2.2.2.2.2.2.1.1 | exact Ne.symm qo.2.2.2.2.2.2.2.2.2.2.2.2.1.1 | exact qo.2.2.2.2.2.2.2.2.2.2.2.2.1.2.1 | exact Ne.symm qo.2.2.2.2.2.2.2.2.2.2.2.2.1.2.1 | exact qo.2.2.2.2.2.2.2.2.2.2.2.2.1.2.2 | exact Ne.symm qo.2.2.2.2.2.2.2.2.2.2.2.2.1.2.2 | exact qo.2.2.2.2.2.2.2.2.2.2.2.2.2.1.1 | exact Ne.symm qo.2.2.2.2.2.2.2.2.2.2.2.2.2.1.1 | exact qo.2.2.2.2.2.2.2.2.2.2.2.2.2.1.2.1 | exact Ne.symm qo.2.2.2.2.2.2.2.2.2.2.2.2.2.1.2.1 | exact qo.2.2.2.2.2.2.2.2.2.2.2.2.2.1.2.2 | exact Ne.symm qo.2.2.2.2.2.2.2.2.2.2.2.2.2.1.2.2 | exact qo.2.2.2.2.2.2.2.2.2.2.2.2.2.2.1.1 | exact Ne.symm qo.2.2.2.2.2.2.2.2.2.2.2.2.2.2.1.1 | exact qo.2.2.2.2.2.2.2.2.2.2.2.2.2.2.1.2.1 | exact Ne.symm qo.2.2.2.2.2.2.2.2.2.2.2.2.2.2.1.2.1 | exact qo.2.2.2.2.2.2.2.2.2.2.2.2.2.2.1.2.2 | exact Ne.symm qo.2.2.2.2.2.2.2.2.2.2.2.2.2.2.1.2.2 | exact qo.2.2.2.2.2.2.2.2.2.2.2.2.2.2.2.1.1 | exact Ne.symm qo.2.2.2.2.2.2.2.2.2.2.2.2.2.2.2.1.1 | exact qo.2.2.2.2.2.2.2.2.2.2.2.2.2.2.2.1.2.1 | exact Ne.symm qo.2.2.2.2.2.2.2.2.2.2.2.2.2.2.2.1.2.1 | exact qo.2.2.2.2.2.2.2.2.2.2.2.2.2.2.2.1.2.2 | exact Ne.symm qo.2.2.2.2.2.2.2.2.2.2.2.2.2.2.2.1.2.2 | exact qo.2.2.2.2.2.2.2.2.2.2.2.2.2.2.2.2.1.1 | exact Ne.symm qo.2.2.2.2.2.2.2.2.2.2.2.2.2.2.2.2.1.1 | exact qo.2.2.2.2.2.2.2.2.2.2.2.2.2.2.2.2.1.2.1 | exact Ne.symm qo.2.2.2.2.2.2.2.2.2.2.2.2.2.2.2.2.1.2.1 | exact qo.2.2.2.2.2.2.2.2.2.2.2.2.2.2.2.2.1.2.2 | exact Ne.symm qo.2.2.2.2.2.2.2.2.2.2.2.2.2.2.2.2.1.2.2 | clear qo)); done)
  k_with "lt" => (first | with_reducible assumption | ((repeat (rename (_ < _ ∧ _) => qz; first | exact qz.1 | exact qz.2.1 | exact qz.2.2.1 | exact qz.2.2.2.1 | exact qz.2.2.2.2.1 | exact qz.2.2.2.2.2.1 | exact qz.2.2.2.2.2.2.1 | exact qz.2.2.2.2.2.2.2.1 | exact qz.2.2.2.2.2.2.2.2.1 | exact qz.2.2.2.2.2.2.2.2.2.1 | exact qz.2.2.2.2.2.2.2.2.2.2.1 | exact qz.2.2.2.2.2.2.2.2.2.2.2.1 | exact qz.2.2.2.2.2.2.2.2.2.2.2.2.1 | exact qz.2.2.2.2.2.2.2.2.2.2.2.2.2.1 | exact qz.2.2.2.2.2.2.2.2.2.2.2.2.2.2.1 | exact qz.2.2.2.2.2.2.2.2.2.2.2.2.2.2.2.1 | exact qz.2.2.2.2.2.2.2.2.2.2.2.2.2.2.2.2.1 | exact qz.2.2.2.2.2.2.2.2.2.2.2.2.2.2.2.2.2.1 | clear qz)); done))
  k_with "ne one" => ((repeat (rename (_ ≠ _ ∧ _) => qo; first | exact qo.1 | exact Ne.symm qo.1 | exact qo.2.1 | exact Ne.symm qo.2.1 | exact qo.2.2.1 | exact Ne.symm qo.2.2.1 | exact qo.2.2.2.1 | exact Ne.symm qo.2.2.2.1 | exact qo.2.2.2.2.1 | exact Ne.symm qo.2.2.2.2.1 | exact qo.2.2.2.2.2.1 | exact Ne.symm qo.2.2.2.2.2.1 | exact qo.2.2.2.2.2.2.1 | exact Ne.symm qo.2.2.2.2.2.2.1 | exact qo.2.2.2.2.2.2.2.1 | exact Ne.symm qo.2.2.2.2.2.2.2.1 | exact qo.2.2.2.2.2.2.2.2.1 | exact Ne.symm qo.2.2.2.2.2.2.2.2.1 | exact qo.2.2.2.2.2.2.2.2.2.1 | exact Ne.symm qo.2.2.2.2.2.2.2.2.2.1 | exact qo.2.2.2.2.2.2.2.2.2.2.1 | exact Ne.symm qo.2.2.2.2.2.2.2.2.2.2.1 | exact qo.2.2.2.2.2.2.2.2.2.2.2.1 | exact Ne.symm qo.2.2.2.2.2.2.2.2.2.2.2.1 | exact qo.2.2.2.2.2.2.2.2.2.2.2.2.1 | exact Ne.symm qo.2.2.2.2.2.2.2.2.2.2.2.2.1 | exact qo.2.2.2.2.2.2.2.2.2.2.2.2.2.1 | exact Ne.symm qo.2.2.2.2.2.2.2.2.2.2.2.2.2.1 | exact qo.2.2.2.2.2.2.2.2.2.2.2.2.2.2.1 | exact Ne.symm qo.2.2.2.2.2.2.2.2.2.2.2.2.2.2.1 | exact qo.2.2.2.2.2.2.2.2.2.2.2.2.2.2.2.1 | exact Ne.symm qo.2.2.2.2.2.2.2.2.2.2.2.2.2.2.2.1 | exact qo.2.2.2.2.2.2.2.2.2.2.2.2.2.2.2.2.1 | exact Ne.symm qo.2.2.2.2.2.2.2.2.2.2.2.2.2.2.2.2.1 | clear qo)); done)
  trivial
set_option maxRecDepth 100000
noncomputable def Stop4 (P : Prop) : Prop := P
theorem stop4 {P : Prop} (h : Stop4 P) : P := h
theorem wdTold_56 : True := by
  k_with "call ref" => (k_here; (with_reducible show wpAny _ _ (call (Value.ref 110) _) _ _ _); refine stop4 ?_)
  trivial
theorem wdTold_57 : True := by
  k_with "call ref" => (k_here; (with_reducible show wpAny _ _ (call (Value.ref 117) _) _ _ _); refine stop4 ?_)
  trivial
theorem wdTold_58 : True := by
  k_with "call ref" => (k_here; (with_reducible show wpAny _ _ (call (Value.ref 84) _) _ _ _); refine stop4 ?_)
  trivial
theorem wdTold_59 : True := by
  k_with "call builtin:iter" => (k_here; (with_reducible show wpAny _ _ (call (Value.builtin "iter") [Value.str _ _]) _ _ _); k_dflt (refine iter_text (by k_asm) (by k_asm) ?_); intro I' h' F' N' l1; (try k_lt l1))
  trivial
theorem wdTold_60 : True := by
  k_with "setAttr ref" => (k_here; (with_reducible show wpAny _ _ (setAttr (Value.ref _) (Str.ofString "read") _) _ _ _); k_dflt (refine' set_read ?sr1 ?sr2 ?sr3 ?sr4 ?sr5 ?sr6 ?_; (case sr1 => k_asm); (case sr2 => k_asm); (case sr3 => k_updF); (case sr4 => exact rfl); (case sr5 => exact rfl); (case sr6 => exact rfl); k_whole); intro d' h' tk' F' N' l1; (try dsimp only at N'); (try k_lt l1))
  trivial
theorem wdTold_61 : True := by
  k_with "exec For Name Call cons nil" => (k_here; k_dflt (refine wpAny_For ?_))
  trivial
theorem wdTold_62 : True := by
  k_with "pyIter ref" => (k_here; refine stop4 ?_)
  trivial
theorem wdTold_63 : True := by
  k_with "my inE" => (refine' code_def ?k1 ?k2 ?k3 ?k4 ?k5 ?kA ?kF ?kK ?k6 ?k7 ?k8 ?k9 ?kB ?_ ?c2 ?c3 ?c4 ?c5; (case kA => exact rfl); (case kF => exact rfl); (case kK => exact rfl); (case k1 => k_asm); (case k2 => k_asm); (case k3 => k_asm); (case k4 => k_asm); (case k5 => k_asm); (case k6 => k_is); (case k7 => k_is); (case k8 => ktr_room); (case k9 => exact BindsTo.of_eq rfl); (case c5 => decide); (case kB => exact locs rfl); (case c2 => exact rfl); (case c3 => exact rfl); (case c4 => exact rfl); k_whole; intro gI' LI' hI' FGI' FI' NI' BI' XI' TI'; (try dsimp only); (try k_lift BI'); (try k_fold))
  trivial
theorem wdTold_64 : True := by
  k_with "call ref" => (k_here; (with_reducible show wpAny _ _ (call (Value.ref 94) _) _ _ _); refine stop4 ?_)
  trivial
theorem wdTold_65 : True := by
  k_with "eval Lambda" => (k_here; refine stop4 ?_)
  trivial
theorem wdTold_66 : True := by
  k_with "setAttr ref" => (k_here; (with_reducible show wpAny _ _ (setAttr (Value.ref _) (Str.ofString "read") _) _ _ _); refine stop4 ?_)
  trivial
theorem wdTold_67 : True := by
  k_with "call builtin:iter" => (k_here; (with_reducible show wpAny _ _ (call (Value.builtin "iter") [Value.str _ _]) _ _ _); refine stop4 ?_)
  trivial
theorem wdTold_68 : True := by
  k_with "my lam" => (unfold Stop4; refine' kla_eval ?d0 ?_; (case d0 => exact rfl); (k_dflt (refine' kla_nest ?F ?N ?T ?C ?cd ?U ?t ?n ?cl ?_; (case F => k_asm); (case N => k_asm); (case T => k_asm); (case cd => exact rfl); (case C => kn_code); (case U => k_updF); (case t => kn_triples); (case n => kn_among); (case cl => exact rfl); k_whole)))
  trivial
theorem wdTold_69 : True := by
  k_with "my lamIn" => (refine' kla_codeS ?k1 ?k2 ?k3 ?k4 ?kO ?kD ?k5 ?kA ?kF ?kK ?k6 ?k7 ?k8 ?k9 ?kB ?_ ?c2 ?c3 ?c4 ?c5; (case kA => exact rfl); (case kF => exact rfl); (case kK => assumption); (case kD => assumption); (case k1 => k_asm); (case k2 => k_asm); (case k3 => k_asm); (case k4 => assumption); (case kO => assumption); (case k5 => k_asm); (case k6 => k_mem); (case k7 => exact codeRec_news N9 (by k_mem) dc2 dq2); (case k8 => ktr_room); (case k9 => exact rfl); (case c5 => decide); (case kB => exact locs rfl); (case c2 => exact rfl); (case c3 => exact rfl); (case c4 => exact rfl); k_whole; intro gA' LA' hA' FGA' FA' NA' BA' XA' TA' lNA' lOA'; (try dsimp only); (try k_lift BA'); (try k_fold))
  trivial
theorem wdTold_70 : True := by
  k_with "CompSrc" => (k_here; refine stop4 ?_)
  trivial
theorem wdTold_71 : True := by
  k_with "call builtin:next" => (k_here; refine stop4 ?_)
  trivial
theorem wdTold_72 : True := by
  k_with "my lamWalk" => (
      unfold FnSpec
      intro mean9 mg9 mb9 dp9 un9 gd9 cn9 cs9 a9 ccd9 cl9 outer9 A₀9 base9 h₀9 L9 m9 s9 Q9 others9 B9 F9 X9 N9 NO9 hdis9 T9 hk9 hd9 hu9 hret9
      k_dflt k_extra "my lamIn"
      k_steps
      unfold Stop4
      refine LCg.CompSrc.range (n := 1) (by rfl) (by k_asm) (by k_asm) (by assumption) (by decide) (by rfl) (by decide) ?_
      intro gq
      refine LCg.CompRest.succ ?_
      intro v' I' oI' C' oC' D' m' h' tk' E' hv' hC' hx' F' N' off ne'
      obtain ⟨t9', hv9'⟩ := hv'
      subst hv9'
      k_steps
      unfold Stop4)
  trivial
theorem wdTold_73 : True := by
  k_with "eval ListComp" => (k_here; (with_reducible show wpAny _ _ (eval (Expr.ListComp (Expr.Call (Expr.Name "ord" _) _ _ _) _ _ _) _) _ _ _); k_dflt (refine ListComp_S (F₀ := by k_asm) (by with_unfolding_all rfl) (by decide) (by rfl) (by decide) (by rfl) ?_))
  trivial
theorem wdTold_74 : True := by
  k_with "SrcS" => (k_here; refine stop4 ?_)
  trivial
theorem wdTold_75 : True := by
  k_with "Exists" => (k_here; refine stop4 ?_)
  trivial
theorem wdTold_76 : True := by
  k_with "my enterT" => (refine' code_defCT ?k2 ?k3 ?k4 ?k5 ?kA ?kF ?kK ?k6 ?k7 ?k8 ?k9 ?kB ?kD ?_ ?c2 ?c3 ?c4; (case kA => exact rfl); (case kF => exact rfl); (case kK => assumption); (case k2 => k_asm); (case k3 => k_asm); (case k4 => assumption); (case k5 => k_asm); (case k6 => k_is); (case k7 => k_is); (case k8 => ktr_room); (case k9 => first | k_extra "my binds" | exact BindsTo.of_eq rfl); (case kB => exact rfl); (case kD => decide +kernel); (case c2 => exact rfl); (case c3 => exact rfl); (case c4 => exact rfl); k_whole; intro g' L' h' tk' cells' hLe FG' hSt F' N' Y' B' X' T' lN'; (have l1' := lN'); (try k_lt l1'); k_cells Y'; (try simp only [List.cons_append, List.nil_append] at N'); (try dsimp only); (try k_fold))
  trivial
theorem wdTold_77 : True := by
  k_with "call ref" => (k_here; (with_reducible show wpAny _ _ (call (Value.ref 56) _) _ _ _); refine stop4 ?_)
  trivial
theorem wdTold_78 : True := by
  k_with "exec While" => (k_here; refine stop4 ?_)
  trivial
theorem wdTold_79 : True := by
  k_with "my int" => ((case k1 => k_asm); (case k2 => k_asm); (case k3 => k_asm); (case k4 => k_asm); (case k5 => k_asm); (case k6 => exact rfl); (case k7 => ktr_room); (case k8 => ktr_units); k_whole)
  trivial
theorem wdTold_80 : True := by
  k_with "call ref" => (k_here; (with_reducible show wpAny _ _ (call (Value.ref 49) _) _ _ _); k_dflt (refine' int_use (xor_int9 _ _ _ _ _) ?k1 ?k2 ?k3 ?k4 ?k5 ?k6 ?k7 ?k8 ?_; k_extra "my int"); intro t9 h9 tk9 F9 N9; (try dsimp only))
  trivial
theorem wdTold_81 : True := by
  k_with "call ref" => (k_here; (with_reducible show wpAny _ _ (call (Value.ref 28) _) _ _ _); k_dflt (refine' int_use (inv_int9 _ _ _) ?k1 ?k2 ?k3 ?k4 ?k5 ?k6 ?k7 ?k8 ?_; k_extra "my int"); intro t9 h9 tk9 F9 N9; (try dsimp only))
  trivial
/-- the frame's map within the sums' loop -/
noncomputable abbrev sMap (u m9 : Str → Option Value) (v : Value) : Str → Option Value := fun y => if y = Str.ofString "sums" then some v else if y = Str.ofString "place" then u y else m9 y
theorem fr_sMap {h₀ h : Heap} {L : Addr} {m m9 : Str → Option Value} {v : Value} (F : Fr h₀ L h m) (h1 : m (Str.ofString "sums") = some v) (h2 : ∀ z, z ≠ Str.ofString "sums" → z ≠ Str.ofString "place" → m z = m9 z) :
    Fr h₀ L h (sMap m m9 v) := by
  have e : sMap m m9 v = m := by
    funext y
    unfold sMap
    by_cases a : y = Str.ofString "sums"
    · rw [if_pos a, a, h1]
    · rw [if_neg a]
      by_cases b : y = Str.ofString "place"
      · rw [if_pos b]
      · rw [if_neg b, h2 y a b]
  rw [e]; exact F
theorem wdTold_82 : True := by
  k_with "binaryOp Add ref ref" => (k_here; (with_reducible show wpAny _ _ (binaryOp _ (Value.ref _) (Value.ref _)) _ _ _); k_dflt (refine' kmk_add_ints ?F ?N ?a ?b ?i ?j ?_ ?z; (case F => k_asm); (case N => k_asm); (case a => kmk_list); (case b => kmk_list); (case i => l_ints); (case j => l_ints); (case z => (rw [List.length_map]; exact Nat.le_trans (Nat.add_le_add hl hl) (by decide)))); intro D' ws' h' F' N' l1 hI'; (try k_lt l1))
  trivial
theorem six_nat (V n1 n2 n3 n4 n5 : Nat) (tv u1 u2 u3 u4 u5 : Tok) : IntsAre [.int V tv, .int n1 u1, .int n2 u2, .int n3 u3, .int n4 u4, .int n5 u5] (natI [V, n1, n2, n3, n4, n5]) :=
  .cons _ _ (.cons _ _ (.cons _ _ (.cons _ _ (.cons _ _ (.cons _ _ .nil)))))
theorem six_lt {V n1 n2 n3 n4 n5 : Nat} (bV : V < 2 ^ 37) (b1 : n1 < 2 ^ 18) (b2 : n2 < 2 ^ 18) (b3 : n3 < 2 ^ 18) (b4 : n4 < 2 ^ 18) (b5 : n5 < 2 ^ 18) : ∀ n ∈ [V, n1, n2, n3, n4, n5], n < 2 ^ 37 := by
  intro n hn
  simp only [List.mem_cons, List.not_mem_nil, or_false] at hn
  rcases hn with h | h | h | h | h | h <;> subst h <;> omega

theorem count_nl (x : Str) : Txt.count x (Str.ofString "\n") = newlines x.cps.toList := by
  rw [show Str.ofString "\n" = ⟨#[10]⟩ from by decide +kernel, count_cnt]
  unfold newlines
  induction x.cps.toList with
  | nil => rw [cnt_nil]; rfl
  | cons a r ih =>
    rw [cnt_cons, ih, List.count_cons]
    by_cases h : a = 10
    · rw [if_pos h, if_pos (beq_iff_eq.mpr h)]; omega
    · rw [if_neg h, if_neg (fun e => h (beq_iff_eq.mp e))]; omega
theorem bitNot_eq (x : Int) : Builtin.bitNot x = -1 - x := by unfold Builtin.bitNot; omega
theorem all_up {l : Led} {a b : Nat} (h : ∀ p ∈ l, p.1 < a) (k : a < b) : ∀ p ∈ l, p.1 < b := fun p hp => Nat.lt_trans (h p hp) k
theorem add_six {i : Nat} (h : i < 6) : i + 1 + (5 - i) = 6 := by omega
theorem ord_up {cell I f gc gl df dx x pb td : Nat} (h : Ordered cell I f gc gl df dx x pb) (k : pb < td) : cell < td ∧ I < td ∧ f < td ∧ gc < td ∧ gl < td ∧ df < td ∧ dx < td ∧ x < td ∧ pb < td := by
  obtain ⟨h1, h2, h3, h4, h5, h6, h7, h8⟩ := h
  omega
theorem six_vs {ws : List Value} {a b c d e f : Nat} (h : IntsAre ws (natI [a, b, c, d, e, f])) :
    ∃ t0 t1 t2 t3 t4 t5, ws = [.int a t0, .int b t1, .int c t2, .int d t3, .int e t4, .int f t5] := by
  refine cons_w (P := fun w => ∃ t0 t1 t2 t3 t4 t5, w = [.int a t0, .int b t1, .int c t2, .int d t3, .int e t4, .int f t5]) h fun t0 v1 g1 => ?_
  refine cons_w (P := fun w => ∃ t0 t1 t2 t3 t4 t5, _ :: w = [.int a t0, .int b t1, .int c t2, .int d t3, .int e t4, .int f t5]) g1 fun t1 v2 g2 => ?_
  refine cons_w (P := fun w => ∃ t0 t1 t2 t3 t4 t5, _ :: _ :: w = [.int a t0, .int b t1, .int c t2, .int d t3, .int e t4, .int f t5]) g2 fun t2 v3 g3 => ?_
  refine cons_w (P := fun w => ∃ t0 t1 t2 t3 t4 t5, _ :: _ :: _ :: w = [.int a t0, .int b t1, .int c t2, .int d t3, .int e t4, .int f t5]) g3 fun t3 v4 g4 => ?_
  refine cons_w (P := fun w => ∃ t0 t1 t2 t3 t4 t5, _ :: _ :: _ :: _ :: w = [.int a t0, .int b t1, .int c t2, .int d t3, .int e t4, .int f t5]) g4 fun t4 v5 g5 => ?_
  refine cons_w (P := fun w => ∃ t0 t1 t2 t3 t4 t5, _ :: _ :: _ :: _ :: _ :: w = [.int a t0, .int b t1, .int c t2, .int d t3, .int e t4, .int f t5]) g5 fun t5 v6 g6 => ?_
  refine nil_w (P := fun w => ∃ t0 t1 t2 t3 t4 t5, _ :: _ :: _ :: _ :: _ :: _ :: w = [.int a t0, .int b t1, .int c t2, .int d t3, .int e t4, .int f t5]) g6 ?_
  exact ⟨t0, t1, t2, t3, t4, t5, rfl⟩

set_option maxHeartbeats 8000000 in
theorem told (w : World) (nl : Addr) (V n1 n2 n3 n4 n5 : Nat) (tv u1 u2 u3 u4 u5 : Tok) (bV : V < 2 ^ 37) (b1 : n1 < 2 ^ 18) (b2 : n2 < 2 ^ 18) (b3 : n3 < 2 ^ 18) (b4 : n4 < 2 ^ 18) (b5 : n5 < 2 ^ 18) (l119 : @LT.lt Nat _ 119 nl) :
    ∀ (mean : ExcName → Option Value) (mg mb : Str → Option Value) (dp un : Nat) (gd : Option (List Code)) (cn : Str) (cs : Scope) (a : Addr) (ccd : Value) (cl : List (Str × Addr)) (A₀ : Around) (h₀ : Heap) (L : Addr) (m : Str → Option Value) (s : Shared) (R : Result → Shared → Prop),
      CodeHd h₀ 121 119 → Below A₀ h₀ [] h₀ → Fr h₀ L s.heap m → (Mine.hd.heap_39 w.params).In h₀ → News h₀ L s.heap [(nl, W.listOf #[.int V tv, .int n1 u1, .int n2 u2, .int n3 u3, .int n4 u4, .int n5 u5] 0), (119, tabObj #[])] →
      Top topProg (looseW Mine.hd.view_39 [] ++ List.map (fun x => x.name) (recsOf Mine.hd.view_39) ++
          List.map (fun x => x.fst) (litsOf Mine.hd.view_39) ++
        List.map (fun x => x.name) (clssOf Mine.hd.view_39 (looseW Mine.hd.view_39 []))) mean mg mb h₀ → cs.kind = .function →
      dp + 30 < recursionLimit → un + 600 < cLine →
      (∀ (Rl td fl : Addr) (tvs fvs : List Value) (nt nf : Nat) (ps : Array Value) (te tl : Tok) (h' : Heap) (tk' : Nat), (@LT.lt Nat _ td Rl ∧ @LT.lt Nat _ fl Rl ∧ @LT.lt Nat _ fl td ∧ @LT.lt Nat _ nl fl) →
        IntsAre tvs (sieve V ((sumsI n1 n2 n3 n4 n5 5).take 24)) → IntsAre fvs (natI [V, n1, n2, n3, n4, n5]) → Fr h₀ L h' m →
        News h₀ L h' [(Rl, W.listOf #[.ref td, .ref fl, .str ⟨#[]⟩ te, .int 1 tl] 0), (td, W.listOf tvs.toArray nt), (fl, W.listOf fvs.toArray nf), (nl, W.listOf #[.int V tv, .int n1 u1, .int n2 u2, .int n3 u3, .int n4 u4, .int n5 u5] 0), (119, tabObj ps)] →
        R (.ok (.ret (.ref Rl))) { s with heap := h', toks := tk' }) →
      codeAny (model Challenge.rw_wk0009_01.row.prog w) (ktrTop dp un gd cn cs L a ccd cl []) (.call (.ref 122) ⟨[.ref nl], []⟩) R s := by
  k_fill
  w_top off
  intro mean mg mb dp un gd cn cs a ccd cl A₀ h₀ L m s Q hP B F X N T hk hd hu hret
  k_with "my binds" => exact BindsTo.of_eq (binds := [(Str.ofString "numbers", .ref nl)]) rfl
  k_dflt k_extra "my enterT"
  k_with "my binds" => fail
  have hCg : CodeHd g' 121 119 := CodeHd.keeps hP FG'.keep
  rename_i oS oN dS dN
  have dS : oS.data = Data.cell none := dS
  have dN : oN.data = Data.cell none := dN
  k_steps
  unfold Stop4
  refine' spec_use (written w nl [.int V tv, .int n1 u1, .int n2 u2, .int n3 u3, .int n4 u4, .int n5 u5] [V, n1, n2, n3, n4, n5] 0 (six_nat _ _ _ _ _ _ _ _ _ _ _ _) rfl (six_lt bV b1 b2 b3 b4 b5)) ?k1 ?k2 ?k3 ?k4 ?k5 ?k6 [(L' + 1 + 1, oS), (L' + 1, oN), (119, tabObj #[])] ?h1 ?h2 ?h3 ?k7 ?k8 ?_
  k_extra "my spec"
  intro hi' v' n' h'' tk'' l1'' l2'' hp' F'' N''; (try k_unfold); (try dsimp only); (try k_fold)
  obtain ⟨e1', tt, e2'⟩ := hp'
  subst e1'
  subst e2'
  simp only [List.cons_append, List.nil_append] at N''
  (try k_unfold); (try dsimp only)
  generalize htx : wtext [V, n1, n2, n3, n4, n5] 6 = tx
  k_steps
  unfold Stop4
  refine iter_text (by k_asm) (by k_asm) ?_
  intro I hB1 FB1 NB1 lI
  k_lt lI
  k_steps
  rename_i oS2 FB2 NB2 dS2
  k_extra "my lam"
  intro f gc1 oc1 vs1 tl1 ct1 hB3 tkB3 FB3 NB3 dc1 dq1 lgc1 lf
  have lf2 := all_up lgc1 lf
  k_lt lf2
  k_lt lgc1
  k_lt2 lf
  dsimp only at NB3
  k_steps
  k_extra "my lam"
  intro gl gc oc vs2 tl2 ct2 hB4 tkB4 FB4 NB4 dc2 dq2 lgc lgl
  have lgl2 := all_up lgc lgl
  k_lt lgl2
  k_lt lgc
  k_lt2 lgl
  dsimp only at NB4
  generalize hgo : kla_obj _ _ _ _ _ [(_, _)] _ _ _ = go at NB4
  generalize htxt : ({ cps := tx.toArray } : Str) = txt at NB4 FB4
  have hR : ReadsOn w gl gc (L' + 1 + 1) I go oc oS2 txt tt := by
    -- <A>
    subst hgo
    constructor
    · intro i c tk9 hc
      k_extra "my lamWalk"
      refine next_text (i := i) (c := c) (by k_asm) (by k_asm) (by k_updF) hc ?_
      intro u11 h11 tk11 F11 N11
      (try dsimp only at N11)
      k_steps
      (rename News gA' LA' _ _ => N12); (rename Fr gA' LA' _ _ => F12)
      refine join_listW (ys := [⟨#[c]⟩]) (News.isList N12 (List.Mem.head _)) (.cons _ _ .nil) (by decide +kernel) (show 1 + 0 + 1 ≤ 1048576 by decide) ?_
      k_steps
      (rename News h₀9 L9 _ _ => kN9); (rename Fr h₀9 L9 _ _ => kF9)
      exact left_end hret9 lNA' lOA' kF9 kN9 ⟨rfl, _, rfl⟩ (by k_extra "my sub")
    · intro i tk9 hc
      k_extra "my lamWalk"
      refine next_text_end (i := i) (by rfl) (by k_asm) (by k_asm) (by k_updF) hc ?_
      intro h11 F11 N11
      (try dsimp only at N11)
      k_steps
      (rename News h₀9 L9 _ _ => kN9); (rename Fr h₀9 L9 _ _ => kF9)
      refine left_end hret9 lNA' lOA' kF9 kN9 ⟨rfl, _, congrArg (fun z => Value.str z _) ?_⟩ (by k_extra "my sub")
      decide +kernel
    -- </A>
  have hgd : ∃ fd, go.data = .func fd := by subst hgo; exact ⟨_, rfl⟩
  k_steps
  unfold Stop4
  refine' set_read ?sr1 ?sr2 ?sr3 ?sr4 ?sr5 ?sr6 ?_
  case sr1 => k_asm
  case sr2 => k_asm
  case sr3 => k_updF
  case sr4 => exact rfl
  case sr5 => exact rfl
  case sr6 => exact rfl
  intro df hB5 tkB5 FB5 NB5 lB5
  dsimp only at NB5
  k_lt lB5
  k_steps
  unfold Stop4
  refine' call_cls ?k1 ?k2 ?k3 ?k4 ?k5 ?k6 ?_
  case k1 => k_asm
  case k2 => k_asm
  case k3 => k_asm
  case k4 => k_is
  case k5 => k_is
  case k6 => k_is
  intro x dx hB6 FB6 NB6 lB6 lB6'
  have lx2 := all_up lB6 lB6'
  k_lt lx2
  k_lt lB6
  k_lt2 lB6'
  k_extra "my inE"
  k_steps
  unfold Stop4
  (rename IsRange _ _ _ _ _ _ _ _ => hR1); (rename News _ _ _ _ => NC); (rename Fr _ _ _ _ => FC)
  rename_i pb _ _ _ _ _ _ _ _ _ _ ol _ _ _ _ _ _ _ _ _ _ _
  generalize hfd : kla_fn _ _ _ _ _ _ _ _ _ = fd at NC
  obtain ⟨ps, t0, t1, t2, t3, t4, t5, NG⟩ : ∃ ps t0 t1 t2 t3 t4 t5, News g' L' _ ((ol, W.listOf #[] 0) :: lexLedT w.params x dx f df gl gc (L' + 1 + 1) I pb fd go oc oS2 (siObj txt tt 0) 1 t0 t1 t2 t3 t4 t5 tkB5 [(pb, W.listOf #[] 0), (nl, W.listOf #[.int V tv, .int n1 u1, .int n2 u2, .int n3 u3, .int n4 u4, .int n5 u5] 0), (L' + 1, oN), (119, tabObj ps)]) :=
    ⟨_, _, _, _, _, _, _, cb_drop (news' := _) NC (by k_extra "my sub")⟩
  obtain ⟨gfd, hgo2⟩ := hgd
  have hord : Ordered (L' + 1 + 1) I f gc gl df dx x pb := by
    unfold Ordered
    refine ⟨?_, ?_, ?_, ?_, ?_, ?_, ?_, ?_⟩ <;> first | k_extra "lt" | omega
  have hM := six_getD (six_lt bV b1 b2 b3 b4 b5)
  generalize hnsd : [V, n1, n2, n3, n4, n5] = ns at htx hM
  have htoL : txt.cps.toList = wtext ns 6 := by rw [← htxt, htx]
  refine ri_start FC NG hR1 (by decide +kernel) ?_
  intro it hB7 FB7 NB7 lit
  k_lt lit
  (try k_unfold); (try dsimp only)
  refine codeAny_forLoop (fun n s' => ∃ (i : Nat) (ovs : List Value) (no : Nat) (t0' : Tok) (u : Str → Option Value) (h : Heap) (tk : Nat), n = 6 - i ∧ i ≤ 6 ∧ IntsAre ovs (natI (octN ns i)) ∧ s' = ⟨h, s.gens, s.drawn, tk, s.os⟩ ∧
    Fr g' L' h (fun y => if y = Str.ofString "turn" then u y else FrMap FC y) ∧
    News g' L' h ((it, riObj (i : Int) (6 - (i : Int))) :: (ol, W.listOf ovs.toArray no) :: lexLedT w.params x dx f df gl gc (L' + 1 + 1) I pb fd go oc oS2 (siObj txt tt (wtext ns i).length) (1 + newlines (wtext ns i)) t0' t1 t2 t3 t4 t5 tkB5 [(pb, W.listOf #[] 0), (nl, W.listOf #[.int V tv, .int n1 u1, .int n2 u2, .int n3 u3, .int n4 u4, .int n5 u5] 0), (L' + 1, oN), (119, tabObj ps)])) (fun n s' hs => ?_) 6 ?_
  · try k_fold
    obtain ⟨i, ovs, no, t0', u8, h8, tk8, rfl, hi6, hov, rfl, F8, N8⟩ := hs
    have hol := octN_len hM i
    by_cases hlast : i < 6
    · -- <B>
      refine ri_item F8 N8 (by k_updF) (by omega) ?_
      intro tq h9 tk9 F9 N9
      (try k_unfold); (try dsimp only at N9 ⊢)
      rw [riObj_next rfl rfl] at N9
      refine wpAny_assign_Name ?_
      k_steps
      unfold Stop4
      obtain ⟨rest, hsplit⟩ := wtext_split ns i (5 - i)
      rw [add_six hlast, ← htoL] at hsplit
      have hol7 := octets_len (hM i)
      have hl1 := wtext_len1 ns i
      have hn1 := wtext_nl ns i
      generalize hwd : octets (ns.getD i 0) = wd at hsplit hol7 hl1 hn1
      have hwdn : wd ≠ [] := hwd ▸ octets_ne _
      refine' spec_use (get_word hR (1 + newlines (wtext ns i)) t0' t1 t2 t3 t4 t5 tkB5 hgo2 hord 0 (wtext ns i) wd rest (blankAt i) hsplit hwdn (by omega) (blank_at hlast)) ?k1 ?k2 ?k3 ?k4 ?k5 ?k6 [(it, riObj (((i + 1 : Nat) : Int)) (6 - ((i + 1 : Nat) : Int))), (ol, W.listOf ovs.toArray no), (nl, W.listOf #[.int V tv, .int n1 u1, .int n2 u2, .int n3 u3, .int n4 u4, .int n5 u5] 0), (L' + 1, oN), (119, tabObj ps)] ?h1 ?h2 ?h3 ?k7 ?k8 ?_
      k_extra "my spec"
      intro hi' v' n' h'' tk'' l1'' l2'' hp' F'' N''; (try k_unfold); (try dsimp only); (try k_fold)
      obtain ⟨t0'', e1', tu, e2'⟩ := hp'
      subst e1'
      subst e2'
      simp only [List.cons_append, List.nil_append] at N''
      (try k_unfold); (try dsimp only)
      refine SrcS.of (by rfl) F'' N'' (Nat.le_trans (show wd.toArray.size ≤ 7 by rw [List.size_toArray]; exact hol7) (by decide)) ?_
      intro gq
      refine signs_rest (fun c t I2 oI C oC D m2 ys hh tk E' hcm hC hx FF NN off ne mk => ?_) ?_
      · k_steps
      · intro ys hys
        have hys : IntsAre ys (natI wd) := hys
        k_steps
        (rename News g' L' _ _ => N12); (rename Fr g' L' _ _ => F12)
        have hsz2 : ovs.toArray.size + ys.toArray.size ≤ sizeLine := by
          rw [List.size_toArray, List.size_toArray, hov.length, hys.length, List.length_map, List.length_map]
          exact Nat.le_trans (show _ ≤ 60 by omega) (by decide)
        refine kl_extend (its := ovs.toArray) (its2 := ys.toArray) (l := ovs ++ ys) (n2 := ys.length) F12 N12 (by k_mem) rfl ?_ (by k_upd) (extend_door hsz2) (Nat.le_trans (Nat.le_add_right _ _) hsz2) (Nat.le_succ_of_le hsz2) ?_
        · show ys.length ≠ 0
          rw [hys.length, List.length_map]
          exact fun e => hwdn (List.length_eq_zero_iff.mp e)
        intro h13 F13 N13
        k_steps
        unfold Stop4
        (try k_unfold); (try dsimp only)
        refine ⟨6 - (i + 1), sub_down hlast, i + 1, ovs ++ ys, no + 1, t0'', _, _, _, rfl, hlast, ?_, rfl, fr_but (m9 := FrMap FC) F13 (fun z hz => by simp only [if_neg hz]), cb_drop N13 ?_⟩
        · rw [octN, hwd]
          have e : natI (octN ns i ++ wd) = natI (octN ns i) ++ natI wd := List.map_append
          rw [e]
          exact hov.append hys
        · rw [hl1, hn1, ← Int.add_assoc]
          k_extra "my sub"
      -- </B>
    · obtain rfl : i = 6 := Nat.le_antisymm hi6 (Nat.le_of_not_lt hlast)
      refine ri_end rfl F8 N8 (by k_mem) (by omega) (rest := (ol, W.listOf ovs.toArray no) :: lexLedT w.params x dx f df gl gc (L' + 1 + 1) I pb fd go oc oS2 (siObj txt tt (wtext ns 6).length) (1 + newlines (wtext ns 6)) t0' t1 t2 t3 t4 t5 tkB5 [(pb, W.listOf #[] 0), (nl, W.listOf #[.int V tv, .int n1 u1, .int n2 u2, .int n3 u3, .int n4 u4, .int n5 u5] 0), (L' + 1, oN), (119, tabObj ps)]) (by k_extra "my sub") (ne_of (by k_extra "my nel")) ?_
      intro h9 F9 N9
      (try k_unfold); (try dsimp only)
      k_steps
      refine iter_list (by k_asm) (by k_asm) (by k_mem) ?_
      intro fe hB10 FB10 NB10 lfe
      k_lt lfe
      k_steps
      refine wpAny_Try_except ?_
      (rename Fr _ _ _ _ => FK); (rename News _ _ _ _ => NK)
      rename_i fl _ lfl _
      k_steps
      unfold Stop4
      refine While_inv2 (fun n m₁ nx => ∃ (j : Nat) (fvs : List Value) (nf : Nat), n = 7 - j ∧ j ≤ 6 ∧ IntsAre fvs (natI (ns.take j)) ∧ m₁ = FrMap FK ∧
        nx = (fl, W.listOf fvs.toArray nf) :: (fe, liObj ol (octN ns j).length) :: (ol, W.listOf ovs.toArray no) :: lexLedT w.params x dx f df gl gc (L' + 1 + 1) I pb fd go oc oS2 (siObj txt tt (wtext ns 6).length) (1 + newlines (wtext ns 6)) t0' t1 t2 t3 t4 t5 tkB5 [(pb, W.listOf #[] 0), (nl, W.listOf #[.int V tv, .int n1 u1, .int n2 u2, .int n3 u3, .int n4 u4, .int n5 u5] 0), (L' + 1, oN), (119, tabObj ps)])
        FK NK ⟨0, [], 0, rfl, by omega, .nil, rfl, rfl⟩ ?_ ?hpo
      case hpo => passes_own
      intro n m₁ nx h₁ tk₁ FW NW hI9
      try k_fold
      obtain ⟨j, fvs, nf, rfl, hj6, hfv, rfl, rfl⟩ := hI9
      have hnsl : ns.length = 6 := by rw [← hnsd]; rfl
      have hfl : (natI (ns.take j)).length ≤ 6 := by rw [List.length_map, List.length_take]; omega
      k_steps
      unfold Stop4
      by_cases hj : j < 6
      · -- <C>
        obtain ⟨post, hsp⟩ := octN_split ns j (5 - j)
        rw [add_six hj] at hsp
        refine' spec_use (parse_item w fe ol lfe.1 ovs (octN ns 6) (octN ns j) (octets (ns.getD j 0)) post no hov hsp (vok_octets _) (lt_octets _) (octets_len (hM j)) (by rw [val_octets]; exact hM j)) ?k1 ?k2 ?k3 ?k4 ?k5 ?k6 ((fl, W.listOf fvs.toArray nf) :: lexLedT w.params x dx f df gl gc (L' + 1 + 1) I pb fd go oc oS2 (siObj txt tt (wtext ns 6).length) (1 + newlines (wtext ns 6)) t0' t1 t2 t3 t4 t5 tkB5 [(pb, W.listOf #[] 0), (nl, W.listOf #[.int V tv, .int n1 u1, .int n2 u2, .int n3 u3, .int n4 u4, .int n5 u5] 0), (L' + 1, oN), (119, tabObj ps)]) ?h1 ?h2 ?h3 ?k7 ?k8 ?_
        k_extra "my spec"
        intro hi' v' n' h'' tk'' l1'' l2'' hp' F'' N''; (try k_unfold); (try dsimp only); (try k_fold)
        obtain ⟨e1', tpv, e2'⟩ := hp'
        rw [val_octets] at e2'
        subst e1'
        subst e2'
        simp only [List.cons_append, List.nil_append] at N''
        (try k_unfold); (try dsimp only)
        k_steps
        (rename News _ _ _ _ => NG); (rename Fr _ _ _ _ => FG)
        have hoj : (octN ns j).length + (octets (ns.getD j 0)).length = (octN ns (j + 1)).length := by rw [octN, List.length_append]
        rw [List.push_toArray, hoj] at NG
        refine ⟨_, _, _, _, 7 - (j + 1), rfl, FG, cb_drop (news := (fl, W.listOf (fvs ++ [Value.int ((ns.getD j 0 : Nat) : Int) tpv]).toArray (nf + 1)) :: (fe, liObj ol (octN ns (j + 1)).length) :: (ol, W.listOf ovs.toArray no) :: lexLedT w.params x dx f df gl gc (L' + 1 + 1) I pb fd go oc oS2 (siObj txt tt (wtext ns 6).length) (1 + newlines (wtext ns 6)) t0' t1 t2 t3 t4 t5 tkB5 [(pb, W.listOf #[] 0), (nl, W.listOf #[.int V tv, .int n1 u1, .int n2 u2, .int n3 u3, .int n4 u4, .int n5 u5] 0), (L' + 1, oN), (119, tabObj ps)]) NG (by k_extra "my sub"), sub_down (Nat.lt_succ_of_lt hj), j + 1, _, _, rfl, hj, ?_, rfl, rfl⟩
        rw [List.take_add_one, List.getElem?_eq_getElem (by omega)]
        have e : natI (ns.take j ++ [ns[j]]) = natI (ns.take j) ++ [((ns.getD j 0 : Nat) : Int)] := by
          rw [List.getD_eq_getElem?_getD, List.getElem?_eq_getElem (by omega)]
          exact List.map_append
        show IntsAre _ (natI (ns.take j ++ [ns[j]]))
        rw [e]
        exact hfv.append (.cons _ _ .nil)
        -- </C>
      · obtain rfl : j = 6 := Nat.le_antisymm hj6 (Nat.le_of_not_lt hj)
        refine wpAny_call ?_
        k_extra "my inE"
        k_steps
        unfold Stop4
        refine next_none (l := ol) (i := (octN ns 6).length) (its := ovs.toArray) (n := no) (rest := (fl, W.listOf fvs.toArray nf) :: lexLedT w.params x dx f df gl gc (L' + 1 + 1) I pb fd go oc oS2 (siObj txt tt (wtext ns 6).length) (1 + newlines (wtext ns 6)) t0' t1 t2 t3 t4 t5 tkB5 [(pb, W.listOf #[] 0), (nl, W.listOf #[.int V tv, .int n1 u1, .int n2 u2, .int n3 u3, .int n4 u4, .int n5 u5] 0), (L' + 1, oN), (119, tabObj ps)]) (by rfl) (by k_asm) (by k_asm) (by k_mem) (by k_mem) ?_ (by k_extra "my sub") (ne_of (by k_extra "my nel")) ?_
        · rw [List.getElem?_toArray, List.getElem?_eq_none (by rw [hov.length, List.length_map]; exact Nat.le_refl _)]
        intro h11 h12 e F11 N11 hx11
        (rename Below _ _ _ _ => B11)
        refine leave_newOf B11 hx11 F11 N11 ?_
        intro h13 R13 U13
        (try k_unfold); (try dsimp only)
        refine caught_T (A := ktrTop dp un gd cn cs L a ccd cl []) (L := L) (h₀ := h₀) (m := m) (T' := "StopIteration") ?ca ?cb ?cc ?cd ?ce hLe FG' (by assumption) U13 R13 ?cf X T PyProof.Rows.Boot.«StopIteration» ?cg ?ch ?ci ?_
        case ca => exact rfl
        case cb => exact rfl
        case cc => exact rfl
        case cd => exact rfl
        case ce => exact hk
        case cf => exact fun p hp => (cb_drop NW (by k_extra "my sub") p hp).2
        case cg => rw [isSubtype_type]; kernel_rfl
        case ch => rw [show ((Manifest.find? "StopIteration").elim "type" fun x => x.metatype) = "type" from by kernel_rfl, isSubtype_type]; kernel_rfl
        case ci => rw [isSubtype_type]; kernel_rfl
        intro h14 g2 hL2 FG2 st2 F14 N14 B2 X2 T2
        have hfv6 : IntsAre fvs (natI ns) := by
          rw [List.take_of_length_le (by omega)] at hfv
          exact hfv
        have hnl6 : (natI ns).length = 6 := by rw [List.length_map, hnsl]
        k_steps
        unfold Stop4
        (rename IsRange _ _ _ _ _ _ _ _ => hR2); (rename Fr _ _ _ _ => FS); (rename News _ _ _ _ => NS)
        rename_i sl _ lsl _ _ _ _ _ _ _ _ _
        rw [hnl6] at hR2
        refine ri_start FS NS hR2 (by decide +kernel) ?_
        intro it2 hB15 FB15 NB15 lit2
        k_lt lit2
        (try k_unfold); (try dsimp only)
        obtain ⟨tg0, tg1, tg2, tg3, tg4, tg5, efv⟩ : ∃ a0 a1 a2 a3 a4 a5, fvs = [.int V a0, .int n1 a1, .int n2 a2, .int n3 a3, .int n4 a4, .int n5 a5] := by
          rw [← hnsd] at hfv6
          exact six_vs hfv6
        have hsum : ∀ i, (sumsI n1 n2 n3 n4 n5 i).length = 2 ^ i := sumsI_len n1 n2 n3 n4 n5
        refine codeAny_forLoop (fun n s' => ∃ (i : Nat) (sl2 : Addr) (svs : List Value) (nv : Nat) (oN2 : Obj) (u : Str → Option Value) (h : Heap) (tk : Nat), n = 5 - i ∧ i ≤ 5 ∧ IntsAre svs (sumsI n1 n2 n3 n4 n5 i) ∧ (∃ c, oN2.data = .cell c) ∧ (@LT.lt Nat _ fl sl2 ∧ @Ne Nat sl2 it2) ∧ s' = ⟨h, s.gens, s.drawn, tk, s.os⟩ ∧ Fr g2 L' h (sMap u (FrMap FK) (.ref sl2)) ∧
          News g2 L' h ((it2, riObj (1 + (i : Int)) (5 - (i : Int))) :: (sl2, W.listOf svs.toArray nv) :: (fl, W.listOf fvs.toArray nf) :: lexLedT w.params x dx f df gl gc (L' + 1 + 1) I pb fd go oc oS2 (siObj txt tt (wtext ns 6).length) (1 + newlines (wtext ns 6)) t0' t1 t2 t3 t4 t5 tkB5 [(pb, W.listOf #[] 0), (nl, W.listOf #[.int V tv, .int n1 u1, .int n2 u2, .int n3 u3, .int n4 u4, .int n5 u5] 0), (L' + 1, oN2), (119, tabObj ps)])) (fun n s' hs => ?_) 5 ?_
        · try k_fold
          obtain ⟨i, sl2, svs, nv, oN2, uS, h16, tk16, rfl, hi5, hsv, ⟨cN, dN2⟩, ⟨a1, a2⟩, rfl, F16, N16⟩ := hs
          by_cases hlast : i < 5
          · have hl : (sumsI n1 n2 n3 n4 n5 i).length ≤ 16 := by
              rw [hsum]
              exact Nat.pow_le_pow_right (by decide) (by omega : i ≤ 4)
            have hsz : svs.toArray.size ≤ sizeLine := by
              rw [List.size_toArray, hsv.length]
              exact Nat.le_trans hl (by decide)
            refine ri_item F16 N16 (by k_updF) (by omega) ?_
            intro tq2 h17 tk17 F17 N17
            (try k_unfold); (try dsimp only at N17 ⊢)
            rw [riObj_next1] at N17
            generalize hp : (1 + (i : Int)) = p
            have hp1 : 1 ≤ p := by omega
            have hp5 : p ≤ 5 := by omega
            refine wpAny_assign_Name ?_
            k_steps
            · -- <D>
              unfold Stop4
              (rename (Int.fmod _ _ ≠ _) => hfm); (rename (_ = Data.cell (some (Value.int _ _))) => dC)
              have ez : (natI ns).getD p.toNat 0 = numI n1 n2 n3 n4 n5 i := by
                rw [← hnsd]
                obtain rfl | rfl | rfl | rfl | rfl := lt_five hlast
                all_goals subst hp
                all_goals first
                  | (exfalso; revert hfm; decide)
                  | rfl
                  | exact bitNot_eq _
              rw [ez] at dC
              refine LCg.CompSrc.ledger (by rfl) (by k_asm) (by k_asm) (by k_mem) hsz ?_
              intro gq
              refine kcf_list (fun k => Builtin.bitXor (numI n1 n2 n3 n4 n5 i) k) hsv (fun kk tt2 I2 oI2 C2 oC2 D2 m22 ys2 hh2 tk2 E2' hkk2 hC2 hx2 FF2 NN2 off ne2 mk2 => ?_) ?_
              · k_steps
              · unfold KPfDone
                intro ys hys
                k_steps
                unfold Stop4
                (rename News _ _ _ _ => NG); (rename Fr _ _ _ _ => FG); (rename IntsAre _ _ => iG)
                (try k_unfold); (try dsimp only)
                refine ⟨5 - (i + 1), sub_down hlast, i + 1, _, _, 0, _, _, _, _, rfl, hlast, iG, ⟨_, dC⟩, ⟨by first | k_extra "lt" | omega, by first | k_extra "ne" | omega⟩, rfl, fr_sMap (m9 := FrMap FK) FG rfl (fun z z1 z2 => by simp only [sMap, if_neg z1, if_neg z2]), cb_drop NG (by k_extra "my sub")⟩
              -- </D>
            · -- <E>
              unfold Stop4
              (rename (Int.fmod _ _ = _) => hfm); (rename (_ = Data.cell (some (Value.int _ _))) => dC)
              have ez : Builtin.bitNot ((natI ns).getD p.toNat 0) = numI n1 n2 n3 n4 n5 i := by
                rw [← hnsd]
                obtain rfl | rfl | rfl | rfl | rfl := lt_five hlast
                all_goals subst hp
                all_goals first
                  | (exfalso; revert hfm; decide)
                  | rfl
                  | exact bitNot_eq _
              rw [ez] at dC
              refine LCg.CompSrc.ledger (by rfl) (by k_asm) (by k_asm) (by k_mem) hsz ?_
              intro gq
              refine kcf_list (fun k => Builtin.bitXor (numI n1 n2 n3 n4 n5 i) k) hsv (fun kk tt2 I2 oI2 C2 oC2 D2 m22 ys2 hh2 tk2 E2' hkk2 hC2 hx2 FF2 NN2 off ne2 mk2 => ?_) ?_
              · k_steps
              · unfold KPfDone
                intro ys hys
                k_steps
                unfold Stop4
                (rename News _ _ _ _ => NG); (rename Fr _ _ _ _ => FG); (rename IntsAre _ _ => iG)
                (try k_unfold); (try dsimp only)
                refine ⟨5 - (i + 1), sub_down hlast, i + 1, _, _, 0, _, _, _, _, rfl, hlast, iG, ⟨_, dC⟩, ⟨by first | k_extra "lt" | omega, by first | k_extra "ne" | omega⟩, rfl, fr_sMap (m9 := FrMap FK) FG rfl (fun z z1 z2 => by simp only [sMap, if_neg z1, if_neg z2]), cb_drop NG (by k_extra "my sub")⟩
              -- </E>
          · obtain rfl : i = 5 := Nat.le_antisymm hi5 (Nat.le_of_not_lt hlast)
            refine ri_end rfl F16 N16 (by k_mem) (by omega) (rest := (sl2, W.listOf svs.toArray nv) :: (fl, W.listOf fvs.toArray nf) :: lexLedT w.params x dx f df gl gc (L' + 1 + 1) I pb fd go oc oS2 (siObj txt tt (wtext ns 6).length) (1 + newlines (wtext ns 6)) t0' t1 t2 t3 t4 t5 tkB5 [(pb, W.listOf #[] 0), (nl, W.listOf #[.int V tv, .int n1 u1, .int n2 u2, .int n3 u3, .int n4 u4, .int n5 u5] 0), (L' + 1, oN2), (119, tabObj ps)]) (by k_extra "my sub") (ne_of (by k_extra "my nel")) ?_
            intro h18 F18 N18
            (try k_unfold); (try dsimp only)
            have hl32 : (sumsI n1 n2 n3 n4 n5 5).length = 32 := hsum 5
            generalize hSS : sumsI n1 n2 n3 n4 n5 5 = S at hsv hl32
            have eV : (natI ns).getD 0 0 = (V : Int) := by rw [← hnsd]; rfl
            k_steps
            unfold Stop4
            (rename Fr _ _ _ _ => F19); (rename News _ _ _ _ => N19); (rename IntsAre _ (S.take 24) => hI24)
            rename_i s24 ws24 _ _ _ ls24
            have hv24 : (S.take 24).length ≤ 500 := by rw [List.length_take]; omega
            have hV0 : (0 : Int) ≤ (natI ns).getD 0 0 := by rw [eV]; exact Int.natCast_nonneg V
            refine' spec_use (sieved (w := w) (x := x) (dx := dx) (f := f) (pb := pb) (sl := s24) (1 + newlines (wtext ns 6)) t0' t1 t2 t3 t4 t5 ((natI ns).getD 0 0) _ ws24 (S.take 24) 0 0 ⟨by first | k_extra "lt" | omega, by first | k_extra "lt" | omega, by first | k_extra "lt" | omega⟩ hI24 hv24 hV0) ?k1 ?k2 ?k3 ?k4 ?k5 ?k6 [(fl, W.listOf fvs.toArray nf), (f, strmO fd df), (df, readD w.params tkB5 gl), (gl, go), (gc, oc), (L' + 1 + 1, oS2), (I, siObj txt tt (wtext ns 6).length), (nl, W.listOf #[.int V tv, .int n1 u1, .int n2 u2, .int n3 u3, .int n4 u4, .int n5 u5] 0), (119, tabObj ps)] ?h1 ?h2 ?h3 ?k7 ?k8 ?_
            k_extra "my spec"
            intro hi' v' n' h'' tk'' l1'' l2'' hp' F'' N''; (try k_unfold); (try dsimp only); (try k_fold)
            obtain ⟨np', td, tvs, nt, e1', e2', ltd, iT⟩ := hp'
            rw [eV] at iT
            subst e1'
            subst e2'
            simp only [List.cons_append, List.nil_append] at N''
            have ltd1 := Nat.lt_trans (l1'' (pb, _) (by k_mem)) ltd
            have ltd2 := Nat.lt_trans (l2'' (fl, _) (by k_mem)) ltd
            dsimp only at ltd1 ltd2
            have ltd3 := ord_up hord ltd1
            (try k_unfold); (try dsimp only)
            k_steps
            unfold Stop4
            have hcn : txt.cps[(wtext ns 6).length]? = none := by
              rw [← Array.getElem?_toList, htoL, List.getElem?_eq_none (Nat.le_refl _)]
            refine' spec_use (get_end hR (1 + newlines (wtext ns 6)) t0' t1 t2 t3 t4 t5 tkB5 hgo2 hord np' (wtext ns 6).length hcn) ?k1 ?k2 ?k3 ?k4 ?k5 ?k6 [(td, W.listOf tvs.toArray nt), (fl, W.listOf fvs.toArray nf), (nl, W.listOf #[.int V tv, .int n1 u1, .int n2 u2, .int n3 u3, .int n4 u4, .int n5 u5] 0), (119, tabObj ps)] ?h1 ?h2 ?h3 ?k7 ?k8 ?_
            k_extra "my spec"
            intro hi' v' n' h'' tk'' l1'' l2'' hp' F'' N''; (try k_unfold); (try dsimp only); (try k_fold)
            obtain ⟨e1', te, e2'⟩ := hp'
            subst e1'
            subst e2'
            simp only [List.cons_append, List.nil_append] at N''
            (try k_unfold); (try dsimp only)
            k_steps
            (rename Fr _ _ _ _ => F21); (rename News _ _ _ _ => N21)
            rename_i R9 _ lR9
            have e0 : Str.ofString "" = ⟨#[]⟩ := by decide +kernel
            (try rw [e0] at N21)
            have ec : 1 + newlines (wtext ns 6) - Txt.count txt (Str.ofString "\n") = 1 := by rw [count_nl, htoL]; omega
            rw [ec] at N21
            obtain ⟨kF, kN⟩ := back_fr hL2 FG2 F21 N21
            refine hret R9 td fl tvs fvs nt nf ps _ _ _ _ ⟨by first | k_extra "lt" | omega, by first | k_extra "lt" | omega, ?_, ?_⟩ ?_ ?_ kF (cb_drop kN (by k_extra "my sub"))
            · first | k_extra "lt" | omega
            · first | k_extra "lt" | omega
            · rw [hSS]; exact iT
            · rw [hnsd]; exact hfv6
        · refine ⟨0, sl, [.int 0 _], 0, oN, _, hB15, _, by omega, by omega, .cons _ _ .nil, ⟨_, dN⟩, ⟨by first | k_extra "lt" | omega, by first | k_extra "ne" | omega⟩, rfl, fr_sMap (m9 := FrMap FK) FB15 rfl (fun z z1 z2 => by simp only [if_neg z1]), NB15⟩
  · refine ⟨0, [], 0, t0, FrMap FC, hB7, _, by omega, by omega, .nil, rfl, fr_but FB7 (fun _ _ => rfl), cb_drop NB7 ?_⟩
    simp only [Int.ofNat_zero, Int.sub_zero, Int.natCast_zero]
    k_extra "my sub"
end Mine

namespace Mine

theorem xor_eq_zero {a b : Nat} (h : a ^^^ b = b) : a = 0 := by
  have h2 : (a ^^^ b) ^^^ b = b ^^^ b := by rw [h]
  rwa [Nat.xor_assoc, Nat.xor_self, Nat.xor_zero] at h2
/-- a number that takes a xor of two down takes one of the two down -/
theorem xor_less (n : Nat) : ∀ a b : Nat, n ^^^ (a ^^^ b) < a ^^^ b → n ^^^ a < a ∨ n ^^^ b < b := by
  induction n using Nat.strongRecOn with
  | _ n ih =>
    intro a b h
    by_cases h0 : n = 0
    · subst h0
      rw [Nat.zero_xor] at h
      omega
    by_cases h1 : n / 2 = 0
    · have : n = 1 := by omega
      subst this
      have e : ∀ c : Nat, (1 ^^^ c) / 2 = c / 2 ∧ (1 ^^^ c) % 2 = (1 + c) % 2 := fun c => by
        refine ⟨?_, by have := xor_add 1 c; omega⟩
        rw [Nat.xor_div_two]
        show 0 ^^^ c / 2 = c / 2
        rw [Nat.zero_xor]
      have hm : (a ^^^ b) % 2 = (a + b) % 2 := by have := xor_add a b; omega
      have := e (a ^^^ b)
      have := e a
      have := e b
      omega
    · have hd : ∀ c : Nat, (n ^^^ c) / 2 = n / 2 ^^^ c / 2 := fun c => Nat.xor_div_two
      have hc : (a ^^^ b) / 2 = a / 2 ^^^ b / 2 := Nat.xor_div_two
      have hlt : n / 2 ^^^ (a / 2 ^^^ b / 2) < a / 2 ^^^ b / 2 := by
        rw [← hc]
        have h2 := hd (a ^^^ b)
        have hne : n / 2 ^^^ (a ^^^ b) / 2 ≠ (a ^^^ b) / 2 := fun q => h1 (xor_eq_zero q)
        generalize n / 2 ^^^ (a ^^^ b) / 2 = z at h2 hne ⊢
        generalize n ^^^ (a ^^^ b) = y at h2 h
        omega
      rcases ih (n / 2) (by omega) _ _ hlt with q | q
      · left
        have := hd a
        omega
      · right
        have := hd b
        omega
theorem xor_pow {r w : Nat} (h : w < 2 ^ r) : 2 ^ r ^^^ w = 2 ^ r + w := by
  have e := xor_add (2 ^ r) w
  have : 2 ^ r &&& w = 0 := by
    apply Nat.eq_of_testBit_eq
    intro i
    rw [Nat.testBit_and, Nat.zero_testBit, Nat.testBit_two_pow]
    by_cases q : r = i
    · subst q
      rw [Nat.testBit_lt_two_pow h, Bool.and_false]
    · rw [decide_eq_false q, Bool.false_and]
  omega
/-- what lies below 2 ^ (r + 1) -/
theorem halves {r v : Nat} (h : v < 2 ^ (r + 1)) : v < 2 ^ r ∨ ∃ w, w < 2 ^ r ∧ v = 2 ^ r ^^^ w := by
  by_cases q : v < 2 ^ r
  · exact .inl q
  · right
    rw [Nat.pow_succ] at h
    refine ⟨v - 2 ^ r, by omega, ?_⟩
    rw [xor_pow (by omega)]
    omega
theorem xor_cancel (a b : Nat) : a ^^^ (a ^^^ b) = b := by rw [← Nat.xor_assoc, Nat.xor_self, Nat.zero_xor]
theorem xor_cross (p a b : Nat) : (p ^^^ a) ^^^ (p ^^^ b) = a ^^^ b := by
  rw [Nat.xor_assoc, ← Nat.xor_assoc a p b, Nat.xor_comm a p, Nat.xor_assoc p a b, xor_cancel]
theorem least {P : Nat → Prop} : ∀ n, P n → ∃ m, P m ∧ ∀ k, k < m → ¬ P k := by
  intro n
  induction n using Nat.strongRecOn with
  | _ n ih =>
    intro h
    by_cases q : ∃ k, k < n ∧ P k
    · obtain ⟨k, hk, hp⟩ := q
      exact ih k hk hp
    · exact ⟨n, h, fun k hk hp => q ⟨k, hk, hp⟩⟩
theorem bounded (g : Nat → Nat) : ∀ n, ∃ b, ∀ x, x < n → g x < b := by
  intro n
  induction n with
  | zero => exact ⟨0, fun x h => by omega⟩
  | succ n ih =>
    obtain ⟨b, h⟩ := ih
    refine ⟨b + g n + 1, fun x hx => ?_⟩
    by_cases q : x = n
    · subst q; omega
    · have := h x (by omega)
      omega

structure Worth (ok : Nat → Bool) (r : Nat) (g : Nat → Nat) : Prop where
  lin : ∀ u v, u < 2 ^ r → v < 2 ^ r → g (u ^^^ v) = g u ^^^ g v
  one : ∀ d, 0 < d → d < 2 ^ r → ok d = false → g d ≠ 0
  two : ∀ v, v < 2 ^ r → ∀ n, n ^^^ g v < g v → ∃ d, d < 2 ^ r ∧ ok d = false ∧ v ^^^ d < v ∧ g d = n

theorem worth (ok : Nat → Bool) : ∀ r, ∃ g, Worth ok r g := by
  intro r
  induction r with
  | zero =>
    refine ⟨fun _ => 0, ⟨fun u v _ _ => rfl, fun d h1 h2 => ?_, fun v _ n h => ?_⟩⟩
    · simp at h2; omega
    · exact absurd h (Nat.not_lt_zero _)
  | succ r ih =>
    obtain ⟨g, G⟩ := ih
    obtain ⟨b, hb⟩ := bounded g (2 ^ r)
    obtain ⟨val, hv, hmin⟩ := least (P := fun m => ∀ x, x < 2 ^ r → ok (2 ^ r ^^^ x) = false → g x ≠ m) b (fun x hx _ q => by have := hb x hx; omega)
    have hP : 2 ^ (r + 1) = 2 ^ r + 2 ^ r := by rw [Nat.pow_succ]; omega
    have glo : ∀ v, v < 2 ^ r → (if v < 2 ^ r then g v else val ^^^ g (v ^^^ 2 ^ r)) = g v := fun v h => if_pos h
    have ghi : ∀ w, w < 2 ^ r → (if 2 ^ r ^^^ w < 2 ^ r then g (2 ^ r ^^^ w) else val ^^^ g ((2 ^ r ^^^ w) ^^^ 2 ^ r)) = val ^^^ g w := fun w h => by
      rw [if_neg (by rw [xor_pow h]; omega), Nat.xor_comm (2 ^ r ^^^ w), xor_cancel]
    have glin := G.lin
    refine ⟨fun v => if v < 2 ^ r then g v else val ^^^ g (v ^^^ 2 ^ r), ⟨fun u v hu hv' => ?_, fun d hd hd2 hok => ?_, fun v hv2 n hn => ?_⟩⟩
    · rcases halves hu with hu1 | ⟨u', hu1, rfl⟩ <;> rcases halves hv' with hv1 | ⟨v', hv1, rfl⟩
      · rw [glo _ hu1, glo _ hv1, glo _ (Nat.xor_lt_two_pow hu1 hv1), glin _ _ hu1 hv1]
      · rw [glo _ hu1, ghi _ hv1, ← Nat.xor_assoc, Nat.xor_comm u, Nat.xor_assoc, ghi _ (Nat.xor_lt_two_pow hu1 hv1), glin _ _ hu1 hv1, ← Nat.xor_assoc, Nat.xor_comm val, Nat.xor_assoc]
      · rw [ghi _ hu1, glo _ hv1, Nat.xor_assoc, ghi _ (Nat.xor_lt_two_pow hu1 hv1), glin _ _ hu1 hv1, Nat.xor_assoc]
      · rw [ghi _ hu1, ghi _ hv1, xor_cross, glo _ (Nat.xor_lt_two_pow hu1 hv1), glin _ _ hu1 hv1, xor_cross]
    · rcases halves hd2 with h | ⟨w, h, rfl⟩
      · rw [glo _ h]; exact G.one d hd h hok
      · rw [ghi _ h]
        intro q
        have : g w = val := by
          have h2 : val ^^^ (val ^^^ g w) = val ^^^ 0 := by rw [q]
          rwa [xor_cancel, Nat.xor_zero] at h2
        exact hv w h hok this
    · rcases halves hv2 with h | ⟨w, h, rfl⟩
      · rw [glo _ h] at hn
        obtain ⟨d, h1, h2, h3, h4⟩ := G.two v h n hn
        exact ⟨d, by omega, h2, h3, by rw [glo _ h1]; exact h4⟩
      · rw [ghi _ h] at hn
        rcases xor_less n _ _ hn with q | q
        · have hx : ∃ x, x < 2 ^ r ∧ ok (2 ^ r ^^^ x) = false ∧ g x = n ^^^ val := by
            apply Classical.byContradiction
            intro hno
            exact hmin _ q fun x h1 h2 h3 => hno ⟨x, h1, h2, h3⟩
          obtain ⟨x, h1, h2, h3⟩ := hx
          refine ⟨2 ^ r ^^^ x, by rw [xor_pow h1]; omega, h2, ?_, ?_⟩
          · rw [xor_cross, xor_pow h]
            have := Nat.xor_lt_two_pow h h1
            omega
          · rw [ghi _ h1, h3, Nat.xor_comm n, xor_cancel]
        · obtain ⟨d, h1, h2, h3, h4⟩ := G.two w h n q
          refine ⟨d, by omega, h2, ?_, by rw [glo _ h1]; exact h4⟩
          rw [Nat.xor_assoc, xor_pow h, xor_pow (Nat.xor_lt_two_pow h h1)]
          omega

/-- worth nothing: let by with all that are worth nothing ahead of it -/
theorem greedy {ok : Nat → Bool} {r : Nat} {g : Nat → Nat} (G : Worth ok r g) {v : Nat} (hv : v < 2 ^ r) : g v = 0 ↔ ∀ u, u < v → g u = 0 → ok (v ^^^ u) = true := by
  constructor
  · intro h u hu h0
    have hu2 : u < 2 ^ r := by omega
    have hd : g (v ^^^ u) = 0 := by rw [G.lin _ _ hv hu2, h, h0]; rfl
    cases q : ok (v ^^^ u) with
    | true => rfl
    | false =>
      exfalso
      refine G.one (v ^^^ u) ?_ (Nat.xor_lt_two_pow hv hu2) q hd
      rcases Nat.eq_zero_or_pos (v ^^^ u) with e | e
      · exfalso
        have : v ^^^ (v ^^^ u) = v ^^^ 0 := by rw [e]
        rw [xor_cancel, Nat.xor_zero] at this
        omega
      · exact e
  · intro h
    apply Classical.byContradiction
    intro hne
    obtain ⟨d, h1, h2, h3, h4⟩ := G.two v hv (g v) (by rw [Nat.xor_self]; omega)
    have h5 := h (v ^^^ d) h3 (by rw [G.lin _ _ hv h1, h4, Nat.xor_self])
    rw [xor_cancel, h2] at h5
    cases h5
end Mine

namespace Mine

theorem bitXor_self (x : Int) : Builtin.bitXor x x = 0 := by
  obtain ⟨s, a, rfl⟩ := dec_surj x
  rw [bitXor_dec, Nat.xor_self]
  cases s <;> rfl
theorem bitXor_zero (x : Int) : Builtin.bitXor 0 x = x := by
  obtain ⟨s, a, rfl⟩ := dec_surj x
  rw [show (0 : Int) = dec false 0 from rfl, bitXor_dec, Nat.zero_xor, Bool.false_xor]
theorem bitXor_cancel (x y : Int) : Builtin.bitXor x (Builtin.bitXor x y) = y := by rw [← bitXor_assoc, bitXor_self, bitXor_zero]
theorem bitXor_left (x y z : Int) : Builtin.bitXor x (Builtin.bitXor y z) = Builtin.bitXor y (Builtin.bitXor x z) := by
  rw [← bitXor_assoc, bitXor_comm x y, bitXor_assoc]

theorem sums_lo (n1 n2 n3 n4 n5 : Int) {i p : Nat} (h : p < 2 ^ i) : (sumsI n1 n2 n3 n4 n5 (i + 1)).getD p 0 = (sumsI n1 n2 n3 n4 n5 i).getD p 0 := by
  rw [sumsI, List.getD_eq_getElem?_getD, List.getD_eq_getElem?_getD, List.getElem?_append_left (by rw [sumsI_len]; exact h)]
theorem sums_hi (n1 n2 n3 n4 n5 : Int) {i p : Nat} (h : p < 2 ^ i) : (sumsI n1 n2 n3 n4 n5 (i + 1)).getD (2 ^ i ^^^ p) 0 = Builtin.bitXor (numI n1 n2 n3 n4 n5 i) ((sumsI n1 n2 n3 n4 n5 i).getD p 0) := by
  have hl := sumsI_len n1 n2 n3 n4 n5 i
  rw [sumsI, xor_pow h, List.getD_eq_getElem?_getD, List.getD_eq_getElem?_getD, List.getElem?_append_right (by rw [hl]; exact Nat.le_add_right _ _), hl, Nat.add_sub_cancel_left, List.getElem?_map, List.getElem?_eq_getElem (by rw [hl]; exact h)]
  rfl
theorem sums_lin (n1 n2 n3 n4 n5 : Int) : ∀ i p q, p < 2 ^ i → q < 2 ^ i → (sumsI n1 n2 n3 n4 n5 i).getD (p ^^^ q) 0 = Builtin.bitXor ((sumsI n1 n2 n3 n4 n5 i).getD p 0) ((sumsI n1 n2 n3 n4 n5 i).getD q 0) := by
  intro i
  induction i with
  | zero =>
    intro p q hp hq
    obtain rfl : p = 0 := by simpa using hp
    obtain rfl : q = 0 := by simpa using hq
    show (0 : Int) = Builtin.bitXor 0 0
    rw [bitXor_self]
  | succ i ih =>
    intro p q hp hq
    rcases halves hp with hp1 | ⟨p', hp1, rfl⟩ <;> rcases halves hq with hq1 | ⟨q', hq1, rfl⟩
    · rw [sums_lo _ _ _ _ _ (Nat.xor_lt_two_pow hp1 hq1), sums_lo _ _ _ _ _ hp1, sums_lo _ _ _ _ _ hq1, ih _ _ hp1 hq1]
    · rw [← Nat.xor_assoc, Nat.xor_comm p, Nat.xor_assoc, sums_hi _ _ _ _ _ (Nat.xor_lt_two_pow hp1 hq1), sums_lo _ _ _ _ _ hp1, sums_hi _ _ _ _ _ hq1, ih _ _ hp1 hq1, bitXor_left]
    · rw [Nat.xor_assoc, sums_hi _ _ _ _ _ (Nat.xor_lt_two_pow hp1 hq1), sums_hi _ _ _ _ _ hp1, sums_lo _ _ _ _ _ hq1, ih _ _ hp1 hq1, bitXor_assoc]
    · rw [xor_cross, sums_lo _ _ _ _ _ (Nat.xor_lt_two_pow hp1 hq1), sums_hi _ _ _ _ _ hp1, sums_hi _ _ _ _ _ hq1, ih _ _ hp1 hq1, bitXor_assoc, bitXor_left _ (numI n1 n2 n3 n4 n5 i), bitXor_cancel]

theorem tst_tbit (V a b : Int) : tst V a b = tbit V (Builtin.bitXor a b) := by
  unfold tst tbit
  rw [Bool.eq_iff_iff, decide_eq_true_eq, bne_iff_ne]

section
variable {V : Int} {S : List Int} {g : Nat → Nat}
/-- let by with all that are told -/
theorem okP_iff {told : List Nat} {p : Nat} : okP V S told p = true ↔ ∀ t ∈ told, tbit V (S.getD (p ^^^ t) 0) = true := by
  unfold okP
  rw [List.all_eq_true]

theorem told_mem (G : Worth (fun d => tbit V (S.getD d 0)) 5 g) : ∀ r, r ≤ 5 → (∀ x, x ∈ toldR V S r ↔ x < 2 ^ r ∧ g x = 0) ∧ (toldR V S r).Nodup := by
  intro r
  have g0 : g 0 = 0 := (greedy G (by decide)).mpr fun u hu => absurd hu (Nat.not_lt_zero _)
  induction r with
  | zero =>
    intro _
    refine ⟨fun x => ?_, List.nodup_cons.mpr ⟨List.not_mem_nil, List.nodup_nil⟩⟩
    rw [show toldR V S 0 = [0] from rfl, List.mem_singleton]
    constructor
    · rintro rfl; exact ⟨by decide, g0⟩
    · rintro ⟨h, _⟩; simpa using h
  | succ r ih =>
    intro hr
    obtain ⟨hm, hnd⟩ := ih (by omega)
    have hP : 2 ^ (r + 1) = 2 ^ r + 2 ^ r := by rw [Nat.pow_succ]; omega
    have h32 : 2 ^ (r + 1) ≤ 2 ^ 5 := Nat.pow_le_pow_right (by decide) hr
    -- worth nothing within the range: let by
    have must : ∀ p, 2 ^ r ≤ p → p < 2 ^ (r + 1) → g p = 0 → okP V S (toldR V S r) p = true := by
      intro p h1 h2 h3
      rw [okP_iff]
      intro t ht
      obtain ⟨ht1, ht2⟩ := (hm t).mp ht
      exact (greedy G (by omega)).mp h3 t (by omega) ht2
    cases hf : (List.range' (2 ^ r) (2 ^ r)).find? (okP V S (toldR V S r)) with
    | none =>
      rw [toldR_none hf]
      refine ⟨fun x => ?_, hnd⟩
      rw [hm]
      constructor
      · rintro ⟨h1, h2⟩; exact ⟨by omega, h2⟩
      · rintro ⟨h1, h2⟩
        refine ⟨?_, h2⟩
        apply Classical.byContradiction
        intro q
        exact (List.find?_eq_none.mp hf) x (List.mem_range'_1.mpr ⟨by omega, by omega⟩) (must x (by omega) h1 h2)
    | some p =>
      rw [toldR_some hf]
      obtain ⟨hok, hpm, hfirst⟩ := List.find?_range'_eq_some.mp hf
      rw [List.mem_range'_1] at hpm
      have hp2 : p < 2 ^ (r + 1) := by omega
      have gp : g p = 0 := by
        refine (greedy G (by omega)).mpr fun u hu h0 => ?_
        by_cases q : u < 2 ^ r
        · exact (okP_iff.mp hok) u ((hm u).mpr ⟨q, h0⟩)
        · exfalso
          have h1 := hfirst u (by omega) hu
          rw [must u (by omega) (by omega) h0] at h1
          cases h1
      obtain ⟨p', hp', ep⟩ : ∃ w, w < 2 ^ r ∧ p = 2 ^ r ^^^ w := by
        rcases halves hp2 with h | h
        · omega
        · exact h
      have hlin : ∀ t, t < 2 ^ r → g (p ^^^ t) = g t := fun t ht => by rw [G.lin _ _ (by omega) (by omega), gp, Nat.zero_xor]
      have hhi : ∀ t, t < 2 ^ r → p ^^^ t = 2 ^ r + (p' ^^^ t) ∧ p' ^^^ t < 2 ^ r := fun t ht => by
        have := Nat.xor_lt_two_pow hp' ht
        rw [ep, Nat.xor_assoc, xor_pow this]
        exact ⟨rfl, this⟩
      refine ⟨fun x => ?_, ?_⟩
      · rw [List.mem_append, List.mem_map, hm]
        constructor
        · rintro (⟨h1, h2⟩ | ⟨t, ht, rfl⟩)
          · exact ⟨by omega, h2⟩
          · obtain ⟨ht1, ht2⟩ := (hm t).mp ht
            have := hhi t ht1
            exact ⟨by omega, by rw [hlin t ht1]; exact ht2⟩
        · rintro ⟨h1, h2⟩
          rcases halves h1 with q | ⟨w, hw, rfl⟩
          · exact .inl ⟨q, h2⟩
          · right
            have hwp := Nat.xor_lt_two_pow hp' hw
            have e : p ^^^ (p' ^^^ w) = 2 ^ r ^^^ w := by rw [ep, Nat.xor_assoc, xor_cancel]
            refine ⟨p' ^^^ w, (hm _).mpr ⟨hwp, ?_⟩, e⟩
            rw [← hlin _ hwp, e]; exact h2
      · rw [List.nodup_append]
        refine ⟨hnd, ?_, ?_⟩
        · refine List.pairwise_map.mpr (List.Pairwise.imp (fun {a b} hab q => hab ?_) hnd)
          rw [← xor_cancel p a, q, xor_cancel]
        · intro a ha b hb q
          obtain ⟨t, ht, rfl⟩ := List.mem_map.mp hb
          have h1 := ((hm a).mp ha).1
          have h2 := hhi t ((hm t).mp ht).1
          omega

/-- what stands ahead of a lets q by -/
noncomputable def lets (V : Int) (S : List Int) (g : Nat → Nat) (a q : Nat) : Bool := (List.range a).all fun t => g t != 0 || tbit V (S.getD (q ^^^ t) 0)
theorem lets_self (G : Worth (fun d => tbit V (S.getD d 0)) 5 g) {a : Nat} (h : a < 32) : lets V S g a a = (g a == 0) := by
  rw [Bool.eq_iff_iff, beq_iff_eq, greedy G (v := a) h]
  unfold lets
  rw [List.all_eq_true]
  constructor
  · intro q u hu h0
    have := q u (List.mem_range.mpr hu)
    rw [h0] at this
    simpa using this
  · intro q t ht
    by_cases h0 : g t = 0
    · rw [q t (List.mem_range.mp ht) h0, Bool.or_true]
    · simp [h0]
theorem lets_succ (a q : Nat) : lets V S g (a + 1) q = (lets V S g a q && (g a != 0 || tbit V (S.getD (q ^^^ a) 0))) := by
  unfold lets
  rw [List.range_succ, List.all_append]
  simp

theorem sieve_main (G : Worth (fun d => tbit V (S.getD d 0)) 5 g) (hlin : ∀ p q, p < 32 → q < 32 → S.getD (p ^^^ q) 0 = Builtin.bitXor (S.getD p 0) (S.getD q 0)) : ∀ n a, a + n = 24 →
    sieve V (((List.range' a n).filter (lets V S g a)).map fun p => S.getD p 0) = ((List.range' a n).filter fun p => g p == 0).map fun p => S.getD p 0 := by
  intro n
  induction n with
  | zero => intro a _; rfl
  | succ n ih =>
    intro a ha
    rw [List.range'_succ]
    have hstep : ∀ q ∈ List.range' (a + 1) n, q < 32 := fun q hq => by rw [List.mem_range'_1] at hq; omega
    cases hz : (g a == 0) with
    | true =>
      have hg : g a = 0 := beq_iff_eq.mp hz
      rw [List.filter_cons_of_pos (by rw [lets_self G (by omega), hz]), List.filter_cons_of_pos (by exact hz), List.map_cons, List.map_cons, sieve_cons, ← ih (a + 1) (by omega), List.filter_map, List.filter_filter]
      congr 2
      refine congrArg (List.map fun p => S.getD p 0) (List.filter_congr fun q hq => ?_)
      have hq32 := hstep q hq
      rw [lets_succ, hg]
      show (tst V (S.getD a 0) (S.getD q 0) && lets V S g a q) = (lets V S g a q && (false || tbit V (S.getD (q ^^^ a) 0)))
      rw [tst_tbit, ← hlin a q (by omega) hq32, Nat.xor_comm a q, Bool.false_or, Bool.and_comm]
    | false =>
      rw [List.filter_cons_of_neg (by rw [lets_self G (by omega), hz]; decide), List.filter_cons_of_neg (by rw [hz]; decide), ← ih (a + 1) (by omega)]
      refine congrArg (fun l => sieve V (List.map (fun p => S.getD p 0) l)) (List.filter_congr fun q hq => ?_)
      rw [lets_succ]
      have : (g a != 0) = true := by rw [bne, hz]; rfl
      rw [this, Bool.true_or, Bool.and_true]
end

theorem fold_map (S : List Int) (l : List Nat) : ∀ acc : List Int, (natsI l).foldl (fun l k => if k < 24 then l ++ [S.getD k.toNat 0] else l) acc = acc ++ (l.filter fun p => decide (p < 24)).map fun p => S.getD p 0 := by
  induction l with
  | nil => intro acc; simp [natsI]
  | cons a r ih =>
    intro acc
    have e : natsI (a :: r) = Int.ofNat a :: natsI r := rfl
    rw [e, List.foldl_cons]
    by_cases h : a < 24
    · rw [if_pos (show Int.ofNat a < 24 from Int.ofNat_lt.mpr h), ih, List.filter_cons_of_pos (by simpa using h), List.map_cons, List.append_assoc]
      rfl
    · rw [if_neg (fun q : Int.ofNat a < 24 => h (Int.ofNat_lt.mp q)), ih, List.filter_cons_of_neg (by simpa using h)]

/-- the taken are the told among the first 24 -/
theorem law_lists (V n1 n2 n3 n4 n5 : Int) (S : List Int) (hS : sumsI n1 n2 n3 n4 n5 5 = S) (nN : List Int) (hp : nN.Perm (natsI (toldR V S 5))) (hs : nN.Pairwise (· ≤ ·)) :
    nN.foldl (fun l k => if k < 24 then l ++ [S.getD k.toNat 0] else l) [] = sieve V (S.take 24) := by
  obtain ⟨g, G⟩ := worth (fun d => tbit V (S.getD d 0)) 5
  obtain ⟨hm, hnd⟩ := told_mem G 5 (Nat.le_refl _)
  have hlin : ∀ p q, p < 32 → q < 32 → S.getD (p ^^^ q) 0 = Builtin.bitXor (S.getD p 0) (S.getD q 0) := by
    rw [← hS]; exact sums_lin n1 n2 n3 n4 n5 5
  have hl : S.length = 32 := by rw [← hS, sumsI_len]
  have e1 : (toldR V S 5).Perm ((List.range 32).filter fun p => g p == 0) := by
    refine (List.perm_ext_iff_of_nodup hnd (List.Pairwise.filter _ List.nodup_range)).mpr fun x => ?_
    rw [hm, List.mem_filter, List.mem_range, beq_iff_eq]
  have e2 : nN = natsI ((List.range 32).filter fun p => g p == 0) := by
    refine List.Perm.eq_of_pairwise (le := (· ≤ ·)) (fun a b _ _ h1 h2 => Int.le_antisymm h1 h2) hs ?_ (hp.trans (e1.map _))
    refine List.pairwise_map.mpr (List.Pairwise.imp (fun {a b} h => Int.ofNat_le.mpr h) (List.Pairwise.filter _ List.pairwise_le_range))
  rw [e2, fold_map, List.nil_append, List.filter_filter]
  have e3 : S.take 24 = ((List.range' 0 24).filter (lets V S g 0)).map fun p => S.getD p 0 := by
    have e4 : (List.range' 0 24).filter (lets V S g 0) = List.range' 0 24 := List.filter_eq_self.mpr fun a _ => rfl
    rw [e4]
    apply List.ext_getElem?
    intro i
    by_cases h : i < 24
    · rw [List.getElem?_take_of_lt h, List.getElem?_map, List.getElem?_range' (by omega), List.getElem?_eq_getElem (by omega)]
      show some S[i] = some (S.getD (0 + 1 * i) 0)
      rw [List.getD_eq_getElem?_getD, show 0 + 1 * i = i from by omega, List.getElem?_eq_getElem (by omega)]
      rfl
    · rw [List.getElem?_eq_none (by rw [List.length_take]; omega), List.getElem?_eq_none (by rw [List.length_map, List.length_range']; omega)]
  rw [e3, sieve_main G hlin 24 0 rfl]
  refine congrArg (List.map fun p => S.getD p 0) ?_
  have e5 : ((List.range' 24 8).filter fun a => decide (a < 24) && g a == 0) = [] := List.filter_eq_nil_iff.mpr fun a ha => by
    rw [List.mem_range'_1] at ha
    rw [decide_eq_false (by omega : ¬ a < 24), Bool.false_and]
    exact Bool.false_ne_true
  rw [show List.range 32 = List.range' 0 24 ++ List.range' 24 8 from rfl, List.filter_append, e5, List.append_nil]
  refine List.filter_congr fun q hq => ?_
  rw [List.mem_range'_1] at hq
  rw [decide_eq_true (by omega : q < 24), Bool.true_and]
end Mine

namespace Mine
open PySem.SeqAt
section
variable {prog : Program} {w : World} {A : Around} {E : Value → Shared → Prop} {s : Shared}
theorem eqat_ints {l b : Addr} {vs ws : List Value} {ns : List Int} (hl : s.heap.IsList l vs.toArray) (hb : s.heap.IsList b ws.toArray) (hi : IntsAre vs ns) (hj : IntsAre ws ns) (hu : A.units < cLine) : EqAt A s (.ref l) (.ref b) true := by
  by_cases hne : l = b
  · subst hne; exact EqAt.same _
  · have h := RcAt.lists (A := A) (s := s) (e := fun _ => true) hl hb (by rw [List.size_toArray, List.size_toArray, hi.length, hj.length]) hu (fun j h1 h2 => by
      obtain ⟨n, t, e1, g1⟩ := IntsAre.at hi j vs.toArray[j] (by rw [← List.getElem?_toArray, Array.getElem?_eq_getElem h1])
      obtain ⟨n', t', e2, g2⟩ := IntsAre.at hj j ws.toArray[j] (by rw [← List.getElem?_toArray, Array.getElem?_eq_getElem h2])
      rw [g1] at g2
      obtain rfl : n = n' := Option.some.inj g2
      rw [e1, e2]
      have q := (MeetsSeq.EqGives.int n n t t').at A.in1 s
      rwa [beq_self_eq_true] at q)
    have ea : (List.range vs.toArray.size).all (fun _ => true) = true := List.all_eq_true.mpr fun _ _ => rfl
    rw [ea] at h
    exact EqAt.of_refs hne h
theorem eq_four {R1 R2 a1 b1 a2 b2 : Addr} {x y : Str} {t1 t2 u1 u2 : Tok} {k : Int} {Q : Value → Shared → Prop} (h1 : s.heap.IsList R1 #[.ref a1, .ref b1, .str x t1, .int k u1]) (h2 : s.heap.IsList R2 #[.ref a2, .ref b2, .str y t2, .int k u2]) (hxy : x = y)
    (ha : EqAt A.in1 s (.ref a1) (.ref a2) true) (hb : EqAt A.in1 s (.ref b1) (.ref b2) true) (hu : A.units < cLine) (h : Q (.bool true) s) : wpAny (model prog w) A (compareOp .Eq (.ref R1) (.ref R2)) Q E s := by
  subst hxy
  refine eq_listAt (e := fun _ => true) h1 h2 rfl hu (fun j p q => ?_) ?_
  · have hj : j < 4 := p
    obtain rfl | rfl | rfl | rfl : j = 0 ∨ j = 1 ∨ j = 2 ∨ j = 3 := by omega
    · exact ha
    · exact hb
    · have q := (SeqRoads2.EqGives.str x x t1 t2).at A.in1 s
      rwa [beq_self_eq_true] at q
    · have q := (MeetsSeq.EqGives.int k k u1 u2).at A.in1 s
      rwa [beq_self_eq_true] at q
  · exact h
end
end Mine

namespace Mine
theorem wdMain_0 : True := by
  k_with_none
  k_with "my enter" => (refine' code_defS ?k1 ?k2 ?k3 ?k4 ?kO ?kD ?k5 ?kA ?kF ?kK ?k6 ?k7 ?k8 ?k9 ?kB ?_ ?c2 ?c3 ?c4 ?c5; (case kA => exact rfl); (case kF => exact rfl); (case kK => assumption); (case kD => assumption); (case k1 => k_asm); (case k2 => k_asm); (case k3 => k_asm); (case k4 => assumption); (case kO => assumption); (case k5 => k_asm); (case k6 => k_is); (case k7 => k_is); (case k8 => ktr_room); (case k9 => first | k_extra "my binds" | exact BindsTo.of_eq rfl); (case c5 => decide); (case kB => exact locs rfl); (case c2 => exact rfl); (case c3 => exact rfl); (case c4 => exact rfl); k_whole; intro g' L' h' FG' F' N' B' X' T' lN' lO'; (try dsimp only); (try k_lift B'); (try k_fold))
  k_with "my sub" => repeat (first | exact sub_nil | refine sub_cons (by k_mem) ?_)
  k_with "my spec" => ((case k1 => k_asm); (case k2 => k_asm); (case k3 => k_asm); (case k4 => k_asm); (case k5 => k_asm); (case k6 => exact rfl); (case k7 => ktr_room); (case k8 => ktr_units); (case h1 => k_extra "my sub"); (case h2 => k_extra "my sub"); (case h3 => k_extra "my dis"); k_whole)
  k_with "my enterC" => (refine' code_defCS ?k1 ?k2 ?k3 ?k4 ?kO ?kQ ?k5 ?kA ?kF ?kK ?k6 ?k7 ?k8 ?k9 ?kB ?kD ?_ ?c2 ?c3 ?c4; (case kA => exact rfl); (case kF => exact rfl); (case kK => assumption); (case kQ => assumption); (case k1 => k_asm); (case k2 => k_asm); (case k3 => k_asm); (case k4 => assumption); (case kO => assumption); (case k5 => k_asm); (case k6 => k_is); (case k7 => k_is); (case k8 => ktr_room); (case k9 => first | k_extra "my binds" | exact BindsTo.of_eq rfl); (case kB => exact rfl); (case kD => decide +kernel); (case c2 => exact rfl); (case c3 => exact rfl); (case c4 => exact rfl); k_whole; intro g' L' h' tk' cells' FG' F' N' Y' B' X' T' lN' lO'; (have l1' := lN'); (try k_lt l1'); k_cells Y'; (try simp only [List.cons_append, List.nil_append] at N'); (try dsimp only); (try k_lift B'); (try k_fold))
  k_with "my dis" => (refine dis_of ?_; dsimp only [DisL, OffL]; ((repeat' first | exact True.intro | refine And.intro ?_ ?_) <;> first | k_extra "ne" | omega))
  k_with "my nel" => (dsimp only [NeL]; ((repeat' first | exact True.intro | refine And.intro ?_ ?_) <;> first | k_extra "ne" | omega))
  k_with "k ne" => (refine neN ?_; (try dsimp only); k_extra "ne")
  k_with "ne" => (first | with_reducible assumption | exact Nat.ne_of_lt (by with_reducible assumption) | exact Nat.ne_of_gt (by with_reducible assumption) | exact Ne.symm (by with_reducible assumption) | ((repeat (rename (_ < _ ∧ _) => qz; first | (refine ne_r qz ?_; first | exact qz.1 | exact qz.2.1 | exact qz.2.2.1 | exact qz.2.2.2.1 | exact qz.2.2.2.2.1 | exact qz.2.2.2.2.2.1 | exact qz.2.2.2.2.2.2.1 | exact qz.2.2.2.2.2.2.2.1 | exact qz.2.2.2.2.2.2.2.2.1 | exact qz.2.2.2.2.2.2.2.2.2.1 | exact qz.2.2.2.2.2.2.2.2.2.2.1 | exact qz.2.2.2.2.2.2.2.2.2.2.2.1 | exact qz.2.2.2.2.2.2.2.2.2.2.2.2.1 | exact qz.2.2.2.2.2.2.2.2.2.2.2.2.2.1 | exact qz.2.2.2.2.2.2.2.2.2.2.2.2.2.2.1 | exact qz.2.2.2.2.2.2.2.2.2.2.2.2.2.2.2.1 | exact qz.2.2.2.2.2.2.2.2.2.2.2.2.2.2.2.2.1 | exact qz.2.2.2.2.2.2.2.2.2.2.2.2.2.2.2.2.2.1) | (refine ne_l qz ?_; first | exact qz.1 | exact qz.2.1 | exact qz.2.2.1 | exact qz.2.2.2.1 | exact qz.2.2.2.2.1 | exact qz.2.2.2.2.2.1 | exact qz.2.2.2.2.2.2.1 | exact qz.2.2.2.2.2.2.2.1 | exact qz.2.2.2.2.2.2.2.2.1 | exact qz.2.2.2.2.2.2.2.2.2.1 | exact qz.2.2.2.2.2.2.2.2.2.2.1 | exact qz.2.2.2.2.2.2.2.2.2.2.2.1 | exact qz.2.2.2.2.2.2.2.2.2.2.2.2.1 | exact qz.2.2.2.2.2.2.2.2.2.2.2.2.2.1 | exact qz.2.2.2.2.2.2.2.2.2.2.2.2.2.2.1 | exact qz.2.2.2.2.2.2.2.2.2.2.2.2.2.2.2.1 | exact qz.2.2.2.2.2.2.2.2.2.2.2.2.2.2.2.2.1 | exact qz.2.2.2.2.2.2.2.2.2.2.2.2.2.2.2.2.2.1) | clear qz)); done) | k_extra "ne cells" | k_extra "ne one" | k_extra "ne off" | k_extra "ne up")
  k_with "ne cells" => (first | exact ne_off (i := 0) (j := 1) rfl | exact ne_off (i := 0) (j := 2) rfl | exact ne_off (i := 0) (j := 3) rfl | exact ne_off (i := 0) (j := 4) rfl | exact ne_off (i := 1) (j := 0) rfl | exact ne_off (i := 1) (j := 2) rfl | exact ne_off (i := 1) (j := 3) rfl | exact ne_off (i := 1) (j := 4) rfl | exact ne_off (i := 2) (j := 0) rfl | exact ne_off (i := 2) (j := 1) rfl | exact ne_off (i := 2) (j := 3) rfl | exact ne_off (i := 2) (j := 4) rfl | exact ne_off (i := 3) (j := 0) rfl | exact ne_off (i := 3) (j := 1) rfl | exact ne_off (i := 3) (j := 2) rfl | exact ne_off (i := 3) (j := 4) rfl | exact ne_off (i := 4) (j := 0) rfl | exact ne_off (i := 4) (j := 1) rfl | exact ne_off (i := 4) (j := 2) rfl | exact ne_off (i := 4) (j := 3) rfl)
  k_with "ne up" => (first | exact Nat.ne_of_lt (lt_up1 (by with_reducible assumption)) | exact Nat.ne_of_gt (lt_up1 (by with_reducible assumption)) | exact Nat.ne_of_lt (lt_up2 (by with_reducible assumption)) | exact Nat.ne_of_gt (lt_up2 (by with_reducible assumption)) | exact Nat.ne_of_lt (lt_up3 (by with_reducible assumption)) | exact Nat.ne_of_gt (lt_up3 (by with_reducible assumption)) | exact Nat.ne_of_lt (lt_up4 (by with_reducible assumption)) | exact Nat.ne_of_gt (lt_up4 (by with_reducible assumption)) | ((repeat (rename (_ < _ ∧ _) => qz; first | (refine ne_r1 qz ?_; first | exact qz.1 | exact qz.2.1 | exact qz.2.2.1 | exact qz.2.2.2.1 | exact qz.2.2.2.2.1 | exact qz.2.2.2.2.2.1 | exact qz.2.2.2.2.2.2.1 | exact qz.2.2.2.2.2.2.2.1 | exact qz.2.2.2.2.2.2.2.2.1 | exact qz.2.2.2.2.2.2.2.2.2.1 | exact qz.2.2.2.2.2.2.2.2.2.2.1 | exact qz.2.2.2.2.2.2.2.2.2.2.2.1 | exact qz.2.2.2.2.2.2.2.2.2.2.2.2.1 | exact qz.2.2.2.2.2.2.2.2.2.2.2.2.2.1 | exact qz.2.2.2.2.2.2.2.2.2.2.2.2.2.2.1 | exact qz.2.2.2.2.2.2.2.2.2.2.2.2.2.2.2.1 | exact qz.2.2.2.2.2.2.2.2.2.2.2.2.2.2.2.2.1 | exact qz.2.2.2.2.2.2.2.2.2.2.2.2.2.2.2.2.2.1) | (refine ne_l1 qz ?_; first | exact qz.1 | exact qz.2.1 | exact qz.2.2.1 | exact qz.2.2.2.1 | exact qz.2.2.2.2.1 | exact qz.2.2.2.2.2.1 | exact qz.2.2.2.2.2.2.1 | exact qz.2.2.2.2.2.2.2.1 | exact qz.2.2.2.2.2.2.2.2.1 | exact qz.2.2.2.2.2.2.2.2.2.1 | exact qz.2.2.2.2.2.2.2.2.2.2.1 | exact qz.2.2.2.2.2.2.2.2.2.2.2.1 | exact qz.2.2.2.2.2.2.2.2.2.2.2.2.1 | exact qz.2.2.2.2.2.2.2.2.2.2.2.2.2.1 | exact qz.2.2.2.2.2.2.2.2.2.2.2.2.2.2.1 | exact qz.2.2.2.2.2.2.2.2.2.2.2.2.2.2.2.1 | exact qz.2.2.2.2.2.2.2.2.2.2.2.2.2.2.2.2.1 | exact qz.2.2.2.2.2.2.2.2.2.2.2.2.2.2.2.2.2.1) | (refine ne_r2 qz ?_; first | exact qz.1 | exact qz.2.1 | exact qz.2.2.1 | exact qz.2.2.2.1 | exact qz.2.2.2.2.1 | exact qz.2.2.2.2.2.1 | exact qz.2.2.2.2.2.2.1 | exact qz.2.2.2.2.2.2.2.1 | exact qz.2.2.2.2.2.2.2.2.1 | exact qz.2.2.2.2.2.2.2.2.2.1 | exact qz.2.2.2.2.2.2.2.2.2.2.1 | exact qz.2.2.2.2.2.2.2.2.2.2.2.1 | exact qz.2.2.2.2.2.2.2.2.2.2.2.2.1 | exact qz.2.2.2.2.2.2.2.2.2.2.2.2.2.1 | exact qz.2.2.2.2.2.2.2.2.2.2.2.2.2.2.1 | exact qz.2.2.2.2.2.2.2.2.2.2.2.2.2.2.2.1 | exact qz.2.2.2.2.2.2.2.2.2.2.2.2.2.2.2.2.1 | exact qz.2.2.2.2.2.2.2.2.2.2.2.2.2.2.2.2.2.1) | (refine ne_l2 qz ?_; first | exact qz.1 | exact qz.2.1 | exact qz.2.2.1 | exact qz.2.2.2.1 | exact qz.2.2.2.2.1 | exact qz.2.2.2.2.2.1 | exact qz.2.2.2.2.2.2.1 | exact qz.2.2.2.2.2.2.2.1 | exact qz.2.2.2.2.2.2.2.2.1 | exact qz.2.2.2.2.2.2.2.2.2.1 | exact qz.2.2.2.2.2.2.2.2.2.2.1 | exact qz.2.2.2.2.2.2.2.2.2.2.2.1 | exact qz.2.2.2.2.2.2.2.2.2.2.2.2.1 | exact qz.2.2.2.2.2.2.2.2.2.2.2.2.2.1 | exact qz.2.2.2.2.2.2.2.2.2.2.2.2.2.2.1 | exact qz.2.2.2.2.2.2.2.2.2.2.2.2.2.2.2.1 | exact qz.2.2.2.2.2.2.2.2.2.2.2.2.2.2.2.2.1 | exact qz.2.2.2.2.2.2.2.2.2.2.2.2.2.2.2.2.2.1) | (refine ne_r3 qz ?_; first | exact qz.1 | exact qz.2.1 | exact qz.2.2.1 | exact qz.2.2.2.1 | exact qz.2.2.2.2.1 | exact qz.2.2.2.2.2.1 | exact qz.2.2.2.2.2.2.1 | exact qz.2.2.2.2.2.2.2.1 | exact qz.2.2.2.2.2.2.2.2.1 | exact qz.2.2.2.2.2.2.2.2.2.1 | exact qz.2.2.2.2.2.2.2.2.2.2.1 | exact qz.2.2.2.2.2.2.2.2.2.2.2.1 | exact qz.2.2.2.2.2.2.2.2.2.2.2.2.1 | exact qz.2.2.2.2.2.2.2.2.2.2.2.2.2.1 | exact qz.2.2.2.2.2.2.2.2.2.2.2.2.2.2.1 | exact qz.2.2.2.2.2.2.2.2.2.2.2.2.2.2.2.1 | exact qz.2.2.2.2.2.2.2.2.2.2.2.2.2.2.2.2.1 | exact qz.2.2.2.2.2.2.2.2.2.2.2.2.2.2.2.2.2.1) | (refine ne_l3 qz ?_; first | exact qz.1 | exact qz.2.1 | exact qz.2.2.1 | exact qz.2.2.2.1 | exact qz.2.2.2.2.1 | exact qz.2.2.2.2.2.1 | exact qz.2.2.2.2.2.2.1 | exact qz.2.2.2.2.2.2.2.1 | exact qz.2.2.2.2.2.2.2.2.1 | exact qz.2.2.2.2.2.2.2.2.2.1 | exact qz.2.2.2.2.2.2.2.2.2.2.1 | exact qz.2.2.2.2.2.2.2.2.2.2.2.1 | exact qz.2.2.2.2.2.2.2.2.2.2.2.2.1 | exact qz.2.2.2.2.2.2.2.2.2.2.2.2.2.1 | exact qz.2.2.2.2.2.2.2.2.2.2.2.2.2.2.1 | exact qz.2.2.2.2.2.2.2.2.2.2.2.2.2.2.2.1 | exact qz.2.2.2.2.2.2.2.2.2.2.2.2.2.2.2.2.1 | exact qz.2.2.2.2.2.2.2.2.2.2.2.2.2.2.2.2.2.1) | (refine ne_r4 qz ?_; first | exact qz.1 | exact qz.2.1 | exact qz.2.2.1 | exact qz.2.2.2.1 | exact qz.2.2.2.2.1 | exact qz.2.2.2.2.2.1 | exact qz.2.2.2.2.2.2.1 | exact qz.2.2.2.2.2.2.2.1 | exact qz.2.2.2.2.2.2.2.2.1 | exact qz.2.2.2.2.2.2.2.2.2.1 | exact qz.2.2.2.2.2.2.2.2.2.2.1 | exact qz.2.2.2.2.2.2.2.2.2.2.2.1 | exact qz.2.2.2.2.2.2.2.2.2.2.2.2.1 | exact qz.2.2.2.2.2.2.2.2.2.2.2.2.2.1 | exact qz.2.2.2.2.2.2.2.2.2.2.2.2.2.2.1 | exact qz.2.2.2.2.2.2.2.2.2.2.2.2.2.2.2.1 | exact qz.2.2.2.2.2.2.2.2.2.2.2.2.2.2.2.2.1 | exact qz.2.2.2.2.2.2.2.2.2.2.2.2.2.2.2.2.2.1) | (refine ne_l4 qz ?_; first | exact qz.1 | exact qz.2.1 | exact qz.2.2.1 | exact qz.2.2.2.1 | exact qz.2.2.2.2.1 | exact qz.2.2.2.2.2.1 | exact qz.2.2.2.2.2.2.1 | exact qz.2.2.2.2.2.2.2.1 | exact qz.2.2.2.2.2.2.2.2.1 | exact qz.2.2.2.2.2.2.2.2.2.1 | exact qz.2.2.2.2.2.2.2.2.2.2.1 | exact qz.2.2.2.2.2.2.2.2.2.2.2.1 | exact qz.2.2.2.2.2.2.2.2.2.2.2.2.1 | exact qz.2.2.2.2.2.2.2.2.2.2.2.2.2.1 | exact qz.2.2.2.2.2.2.2.2.2.2.2.2.2.2.1 | exact qz.2.2.2.2.2.2.2.2.2.2.2.2.2.2.2.1 | exact qz.2.2.2.2.2.2.2.2.2.2.2.2.2.2.2.2.1 | exact qz.2.2.2.2.2.2.2.2.2.2.2.2.2.2.2.2.2.1) | clear qz)); done))
  k_with "execs cons" => k_fold
  k_with "exec Assign" => k_fold
  k_with "exec If" => k_fold
  k_with "exec AugAssign" => k_fold
  k_with "my looks" => (repeat' first | exact True.intro | (refine And.intro ?_ ?_) | with_unfolding_all rfl)
  k_with "ne off" => ((repeat (rename (LCg.Off3 _ _ _ _) => qo; first | exact qo.1.1 | exact Ne.symm qo.1.1 | exact qo.1.2.1 | exact Ne.symm qo.1.2.1 | exact qo.1.2.2 | exact Ne.symm qo.1.2.2 | exact qo.2.1.1 | exact Ne.symm qo.2.1.1 | exact qo.2.1.2.1 | exact Ne.symm qo.2.1.2.1 | exact qo.2.1.2.2 | exact Ne.symm qo.2.1.2.2 | exact qo.2.2.1.1 | exact Ne.symm qo.2.2.1.1 | exact qo.2.2.1.2.1 | exact Ne.symm qo.2.2.1.2.1 | exact qo.2.2.1.2.2 | exact Ne.symm qo.2.2.1.2.2 | exact qo.2.2.2.1.1 | exact Ne.symm qo.2.2.2.1.1 | exact qo.2.2.2.1.2.1 | exact Ne.symm qo.2.2.2.1.2.1 | exact qo.2.2.2.1.2.2 | exact Ne.symm qo.2.2.2.1.2.2 | exact qo.2.2.2.2.1.1 | exact Ne.symm qo.2.2.2.2.1.1 | exact qo.2.2.2.2.1.2.1 | exact Ne.symm qo.2.2.2.2.1.2.1 | exact qo.2.2.2.2.1.2.2 | exact Ne.symm qo.2.2.2.2.1.2.2 | exact qo.2.2.2.2.2.1.1 | exact Ne.symm qo.2.2.2.2.2.1.1 | exact qo.2.2.2.2.2.1.2.1 | exact Ne.symm qo.2.2.2.2.2.1.2.1 | exact qo.2.2.2.2.2.1.2.2 | exact Ne.symm qo.2.2.2.2.2.1.2.2 | exact qo.2.2.2.2.2.2.1.1 | exact Ne.symm qo.2.2.2.2.2.2.1.1 | exact qo.2.2.2.2.2.2.1.2.1 | exact Ne.symm qo.2.2.2.2.2.2.1.2.1 | exact qo.2.2.2.2.2.2.1.2.2 | exact Ne.symm qo.2.2.2.2.2.2.1.2.2 | exact qo.2.2.2.2.2.2.2.1.1 | exact Ne.symm qo.2.2.2.2.2.2.2.1.1 | exact qo.2.2.2.2.2.2.2.1.2.1 | exact Ne.symm qo.2.2.2.2.2.2.2.1.2.1 | exact qo.2.2.2.2.2.2.2.1.2.2 | exact Ne.symm qo.2.2.2.2.2.2.2.1.2.2 | exact qo.2.2.2.2.2.2.2.2.1.1 | exact Ne.symm qo.2.2.2.2.2.2.2.2.1.1 | exact qo.2.2.2.2.2.2.2.2.1.2.1 | exact Ne.symm qo.2.2.2.2.2.2.2.2.1.2.1 | exact qo.2.2.2.2.2.2.2.2.1.2.2 | exact Ne.symm qo.2.2.2.2.2.2.2.2.1.2.2 | exact qo.2.2.2.2.2.2.2.2.2.1.1 | exact Ne.symm qo.2.2.2.2.2.2.2.2.2.1.1 | exact qo.2.2.2.2.2.2.2.2.2.1.2.1 | exact Ne.symm qo.2.2.2.2.2.2.2.2.2.1.2.1 | exact qo.2.2.2.2.2.2.2.2.2.1.2.2 | exact Ne.symm qo.2.2.2.2.2.2.2.2.2.1.2.2 | exact qo.2.2.2.2.2.2.2.2.2.2.1.1 | exact Ne.symm qo.2.2.2.2.2.2.2.2.2.2.1.1 | exact qo.2.2.2.2.2.2.2.2.2.2.1.2.1 | exact Ne.symm qo.2.2.2.2.2.2.2.2.2.2.1.2.1 | exact qo.2.2.2.2.2.2.2.2.2.2.1.2.2 | exact Ne.symm qo.2.2.2.2.2.2.2.2.2.2.1.2.2 | exact qo.2.2.2.2.2.2.2.2.2.2.2.1.1 | exact Ne.symm qo.2.2.2.2.2.2.2.2.2.2.2.1.1 | exact qo.2.2.2.2.2.2.2.2.2.2.2.1.2.1 | exact Ne.symm qo.2.2.2.2.2.2.2.2.2.2.2.1.2.1 | exact qo.2.2.2.2.2.2.2.2.2.2.2.1.2.2 | exact Ne.symm qo.2.2.2.2.2.2.2.2.2.2.2.1.2.2 | exact qo.2.2.2.2.2.2.2.2.2.2.2.2.1.1 | exact Ne.symm qo.2.2.2.2.2.2.2.2.2.2.2.2.1.1 | exact qo.2.2.2.2.2.2.2.2.2.2.2.2.1.2.1 | exact Ne.symm qo.2.2.2.2.2.2.2.2.2.2.2.2.1.2.1 | exact qo.2.2.2.2.2.2.2.2.2.2.2.2.1.2.2 | exact Ne.symm qo.2.2.2.2.2.2.2.2.2.2.2.2.1.2.2 | exact qo.2.2.2.2.2.2.2.2.2.2.2.2.2.1.1 | exact Ne.symm qo.2.2.2.2.2.2.2.2.2.2.2.2.2.1.1 | exact qo.2.2.2.2.2.2.2.2.2.2.2.2.2.1.2.1 | exact Ne.symm qo.2.2.2.2.2.2.2.2.2.2.2.2.2.1.2.1 | exact qo.2.2.2.2.2.2.2.2.2.2.2.2.2.1.2.2 | exact Ne.symm qo.2.2.2.2.2.2.2.2.2.2.2.2.2.1.2.2 | exact qo.2.2.2.2.2.2.2.2.2.2.2.2.2.2.1.1 | exact Ne.symm qo.2.2.2.2.2.2.2.2.2.2.2.2.2.2.1.1 | exact qo.2.2.2.2.2.2.2.2.2.2.2.2.2.2.1.2.1 | exact Ne.symm qo.2.2.2.2.2.2.2.2.2.2.2.2.2.2.1.2.1 | exact qo.2.2.2.2.2.2.2.2.2.2.2.2.2.2.1.2.2 | exact Ne.symm qo.2.2.2.2.2.2.2.2.2.2.2.2.2.2.1.2.2 | exact qo.2.2.2.2.2.2.2.2.2.2.2.2.2.2.2.1.1 | exact Ne.symm qo.2.2.2.2.2.2.2.2.2.2.2.2.2.2.2.1.1 | exact qo.2.2.2.2.2.2.2.2.2.2.2.2.2.2.2.1.2.1 | exact Ne.symm qo.2.2.2.2.2.2.2.2.2.2.2.2.2.2.2.1.2.1 | exact qo.2.2.2.2.2.2.2.2.2.2.2.2.2.2.2.1.2.2 | exact Ne.symm qo.2.2.2.2.2.2.2.2.2.2.2.2.2.2.2.1.2.2 | exact qo.2.2.2.2.2.2.2.2.2.2.2.2.2.2.2.2.1.1 | exact Ne.symm qo.2.2.2.2.2.2.2.2.2.2.2.2.2.2.2.2.1.1 | exact qo.2.2.2.2.2.2.2.2.2.2.2.2.2.2.2.2.1.2.1 | exact Ne.symm qo.2.2.2.2.2.2.2.2.2.2.2.2.2.2.2.2.1.2.1 | exact qo.2.2.2.2.2.2.2.2.2.2.2.2.2.2.2.2.1.2.2 | exact Ne.symm qo.2.2.2.2.2.2.2.2.2.2.2.2.2.2.2.2.1.2.2 | clear qo)); done)
  k_with "lt" => (first | with_reducible assumption | ((repeat (rename (_ < _ ∧ _) => qz; first | exact qz.1 | exact qz.2.1 | exact qz.2.2.1 | exact qz.2.2.2.1 | exact qz.2.2.2.2.1 | exact qz.2.2.2.2.2.1 | exact qz.2.2.2.2.2.2.1 | exact qz.2.2.2.2.2.2.2.1 | exact qz.2.2.2.2.2.2.2.2.1 | exact qz.2.2.2.2.2.2.2.2.2.1 | exact qz.2.2.2.2.2.2.2.2.2.2.1 | exact qz.2.2.2.2.2.2.2.2.2.2.2.1 | exact qz.2.2.2.2.2.2.2.2.2.2.2.2.1 | exact qz.2.2.2.2.2.2.2.2.2.2.2.2.2.1 | exact qz.2.2.2.2.2.2.2.2.2.2.2.2.2.2.1 | exact qz.2.2.2.2.2.2.2.2.2.2.2.2.2.2.2.1 | exact qz.2.2.2.2.2.2.2.2.2.2.2.2.2.2.2.2.1 | exact qz.2.2.2.2.2.2.2.2.2.2.2.2.2.2.2.2.2.1 | clear qz)); done))
  k_with "ne one" => ((repeat (rename (_ ≠ _ ∧ _) => qo; first | exact qo.1 | exact Ne.symm qo.1 | exact qo.2.1 | exact Ne.symm qo.2.1 | exact qo.2.2.1 | exact Ne.symm qo.2.2.1 | exact qo.2.2.2.1 | exact Ne.symm qo.2.2.2.1 | exact qo.2.2.2.2.1 | exact Ne.symm qo.2.2.2.2.1 | exact qo.2.2.2.2.2.1 | exact Ne.symm qo.2.2.2.2.2.1 | exact qo.2.2.2.2.2.2.1 | exact Ne.symm qo.2.2.2.2.2.2.1 | exact qo.2.2.2.2.2.2.2.1 | exact Ne.symm qo.2.2.2.2.2.2.2.1 | exact qo.2.2.2.2.2.2.2.2.1 | exact Ne.symm qo.2.2.2.2.2.2.2.2.1 | exact qo.2.2.2.2.2.2.2.2.2.1 | exact Ne.symm qo.2.2.2.2.2.2.2.2.2.1 | exact qo.2.2.2.2.2.2.2.2.2.2.1 | exact Ne.symm qo.2.2.2.2.2.2.2.2.2.2.1 | exact qo.2.2.2.2.2.2.2.2.2.2.2.1 | exact Ne.symm qo.2.2.2.2.2.2.2.2.2.2.2.1 | exact qo.2.2.2.2.2.2.2.2.2.2.2.2.1 | exact Ne.symm qo.2.2.2.2.2.2.2.2.2.2.2.2.1 | exact qo.2.2.2.2.2.2.2.2.2.2.2.2.2.1 | exact Ne.symm qo.2.2.2.2.2.2.2.2.2.2.2.2.2.1 | exact qo.2.2.2.2.2.2.2.2.2.2.2.2.2.2.1 | exact Ne.symm qo.2.2.2.2.2.2.2.2.2.2.2.2.2.2.1 | exact qo.2.2.2.2.2.2.2.2.2.2.2.2.2.2.2.1 | exact Ne.symm qo.2.2.2.2.2.2.2.2.2.2.2.2.2.2.2.1 | exact qo.2.2.2.2.2.2.2.2.2.2.2.2.2.2.2.2.1 | exact Ne.symm qo.2.2.2.2.2.2.2.2.2.2.2.2.2.2.2.2.1 | clear qo)); done)
  trivial
set_option maxRecDepth 100000
section
variable {w : World} {A₀ A : Around} {s : Shared} {L : Addr} {h₀ base : Heap} {m mg mb : Str → Option Value} {mean : ExcName → Option Value}
theorem spec_useH {P : Heap → Prop} {f : Addr} {vs : List Value} {rd ru : Nat} {news : Led} {Post : Addr → Value → Led → Prop} {dp un : Nat} {gd : Option (List Code)} {cn : Str} {cs : Scope} {a : Addr} {ccd : Value} {cl : List (Str × Addr)} {outer : List Env} {Q E : Value → Shared → Prop}
    (C : FnSpecH w P f vs news rd ru Post) (hP : P h₀) (B : Below A₀ base outer h₀) (F : Fr h₀ L s.heap m) (X : (Mine.hd.heap_39 w.params).In h₀) {all : Led} (N : News h₀ L s.heap all)
    (T : Top topProg (looseW Mine.hd.view_39 [] ++ List.map (fun x => x.name) (recsOf Mine.hd.view_39) ++
        List.map (fun x => x.fst) (litsOf Mine.hd.view_39) ++
      List.map (fun x => x.name) (clssOf Mine.hd.view_39 (looseW Mine.hd.view_39 []))) mean mg mb h₀) (hk : cs.kind = .function)
    (others : Led) (h1 : ∀ p ∈ news, p ∈ all) (h2 : ∀ p ∈ others, p ∈ all) (hdis : ∀ p ∈ others, p.1 ∉ news.map (·.1))
    (hd : dp + rd < recursionLimit) (hu : un + ru < cLine)
    (ret : ∀ hi v news' h' tk', (∀ p ∈ news, p.1 < hi) → (∀ p ∈ others, p.1 < hi) → Post hi v news' → Fr h₀ L h' m → News h₀ L h' (news' ++ others) → Q v { s with heap := h', toks := tk' }) :
    wpAny (model Challenge.rw_wk0009_01.row.prog w) (ktrTop dp un gd cn cs L a ccd cl outer) (call (.ref f) vs) Q E s :=
  wpAny_call (C mean mg mb dp un gd cn cs a ccd cl outer A₀ base h₀ L m s _ others hP B F X (fun p hp => N p (h1 p hp)) (fun p hp => N p (h2 p hp)) hdis T hk hd hu
    (fun hi v news' h' tk' l1 l2 hp F' N' NO' => ret hi v news' h' tk' l1 l2 hp F' fun p hp => (List.mem_append.mp hp).elim (N' p) (NO' p)))
end

theorem wdMain_83 : True := by
  k_with "call ref" => (k_here; (with_reducible show wpAny _ _ (call (Value.ref 103) _) _ _ _); refine stop4 ?_)
  trivial
theorem wdMain_84 : True := by
  k_with "call ref" => (k_here; (with_reducible show wpAny _ _ (call (Value.ref 110) _) _ _ _); refine stop4 ?_)
  trivial
theorem wdMain_85 : True := by
  k_with "call ref" => (k_here; (with_reducible show wpAny _ _ (call (Value.ref 117) _) _ _ _); refine stop4 ?_)
  trivial
theorem wdMain_86 : True := by
  k_with "call ref" => (k_here; (with_reducible show wpAny _ _ (call (Value.ref 127) _) _ _ _); refine stop4 ?_)
  trivial
theorem wdMain_87 : True := by
  k_with "call ref" => (k_here; (with_reducible show wpAny _ _ (call (Value.ref 84) _) _ _ _); refine stop4 ?_)
  trivial
theorem wdMain_88 : True := by
  k_with "call ref" => (k_here; (with_reducible show wpAny _ _ (call (Value.ref 122) _) _ _ _); refine stop4 ?_)
  trivial
theorem wdMain_89 : True := by
  k_with "compareOp Eq ref ref" => (k_here; refine stop4 ?_)
  trivial

set_option maxRecDepth 100000 in
set_option maxHeartbeats 8000000 in
theorem main : PySem.Challenge.rw_wk0009_01.Holds := Mine.hd (by
  k_go0
  (all_goals try k_fold)
  (rename World => w); (rename News _ _ _ _ => N1); (rename Fr _ _ _ _ => F1); (rename IntsAre _ _ => hI); (rename ¬ _ < _ => hc63)
  have hl63 := Int.ofNat_le.mp (Int.not_lt.mp hc63)
  k_steps
  unfold Stop4
  refine' spec_useH (drawn _ _ _ _ hI hl63) (by assumption) ?k1 ?k2 ?k3 ?k4 ?k5 ?k6 [(119, tabObj #[])] ?h1 ?h2 ?h3 ?k7 ?k8 ?_
  k_extra "my spec"
  intro hi' v' n' h'' tk'' l1'' l2'' hp' F'' N''; (try k_unfold); (try dsimp only); (try k_fold)
  obtain ⟨nl, V, n1, n2, n3, n4, n5, tv, u1, u2, u3, u4, u5, e1', e2', ltn, bV, b1, b2, b3, b4, b5⟩ := hp'
  subst e1'
  subst e2'
  simp only [List.cons_append, List.nil_append] at N''
  have lt9 := Nat.lt_trans (l2'' _ (.head _)) ltn
  dsimp only at lt9
  (try k_unfold); (try dsimp only)
  k_steps
  unfold Stop4
  (rename Below _ _ _ _ => B2); (rename Fr _ _ _ _ => F2); (rename News _ _ _ _ => N2); (rename Top _ _ _ _ _ _ => T2)
  refine wpAny_call (told w nl V n1 n2 n3 n4 n5 tv u1 u2 u3 u4 u5 bV b1 b2 b3 b4 b5 lt9 _ _ _ _ _ _ _ _ _ _ _ _ _ _ _ _ _ codeHd B2 F2 ?k3 N2 T2 ?k6 ?k7 ?k8 ?_)
  case k3 => k_asm
  case k6 => exact rfl
  case k7 => ktr_room
  case k8 => ktr_units
  intro Rl td fl tvs fvs nt nf ps te tl h8 tk8 ⟨o1, o2, o3, o4⟩ iT iF F8 N8
  (try k_unfold); (try dsimp only)
  k_steps
  unfold Stop4
  generalize hSS : sumsI n1 n2 n3 n4 n5 5 = S at iT
  refine' spec_use (doubled w nl V n1 n2 n3 n4 n5 tv u1 u2 u3 u4 u5 0 S hSS) ?k1 ?k2 ?k3 ?k4 ?k5 ?k6 [(Rl, W.listOf #[.ref td, .ref fl, .str ⟨#[]⟩ te, .int 1 tl] 0), (td, W.listOf tvs.toArray nt), (fl, W.listOf fvs.toArray nf), (119, tabObj ps)] ?h1 ?h2 ?h3 ?k7 ?k8 ?_
  k_extra "my spec"
  intro hi' v' n' h'' tk'' l1'' l2'' hp' F'' N''; (try k_unfold); (try dsimp only); (try k_fold)
  obtain ⟨td2, tvs2, nN, e1', e2', hperm, hpair, iD⟩ := hp'
  rw [law_lists V n1 n2 n3 n4 n5 S hSS nN hperm hpair] at iD
  subst e1'
  subst e2'
  simp only [List.cons_append, List.nil_append] at N''
  (try k_unfold); (try dsimp only)
  k_steps
  unfold Stop4
  (rename News _ _ _ _ => N9)
  rename_i R2 hp9 _ _
  have e0 : (⟨#[]⟩ : Str) = Str.ofString "" := by decide +kernel
  have L1 : hp9.IsList Rl #[.ref td, .ref fl, .str ⟨#[]⟩ te, .int 1 tl] := News.isList N9 (by k_mem)
  have L2 : hp9.IsList R2 #[.ref td2, .ref nl, .str (Str.ofString "") tk'', .int 1 (tk'' + 1)] := News.isList N9 (by k_mem)
  have L3 : hp9.IsList td tvs.toArray := News.isList N9 (by k_mem)
  have L4 : hp9.IsList td2 tvs2.toArray := News.isList N9 (by k_mem)
  have L5 : hp9.IsList fl fvs.toArray := News.isList N9 (by k_mem)
  have L6 : hp9.IsList nl [Value.int V tv, .int n1 u1, .int n2 u2, .int n3 u3, .int n4 u4, .int n5 u5].toArray := News.isList N9 (by k_mem)
  refine eq_four L1 L2 e0 (eqat_ints L3 L4 iT iD ?u1) (eqat_ints L5 L6 iF (six_nat _ _ _ _ _ _ _ _ _ _ _ _) ?u2) ?u3 ?_
  case u1 => simp only [units_in1, units_deeper, units_caller, cLine]; decide
  case u2 => simp only [units_in1, units_deeper, units_caller, cLine]; decide
  case u3 => simp only [units_deeper, units_caller, cLine]; decide
  refine ⟨?_, GrownAt.of N9 (by k_mem), trivial⟩
  k_steps)
end Mine

theorem PySem.Challenge.cw_wk0009_01_holds : PySem.Challenge.rw_wk0009_01.Holds := by
  exact Mine.main
