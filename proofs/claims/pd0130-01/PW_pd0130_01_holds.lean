import PyProof.Rows.All
import Wide.All
import OpenK.AllK
import Wide.FinOn
import PySem.Challenge.RW_pd0130_01
open PySem PySem.W PyProof.Rows PySem.Calls
set_option Elab.async false
set_option maxRecDepth 100000
set_option maxHeartbeats 8000000
set_option linter.unusedVariables false
set_option linter.unusedSimpArgs false
namespace Mine
open_top hd for PySem.Challenge.rw_pd0130_01
theorem kind_isn : builtinKind "issubclass.nested" = none := by decide +kernel
theorem plain_isn : plainId "issubclass.nested" = true := by decide +kernel
theorem args_isn (a b c : Value) : argsOk "issubclass.nested" ⟨[a, b, c], []⟩ := by unfold argsOk; kernel_rfl

theorem isn_str {dep : Int} {tk : Tok} : Meets (Builtin.«issubclass.nested» ⟨[.type "str", .type "str", .int dep tk], []⟩) (fun _ R s => R (.ok (.ret (.bool true))) s) := by
  intro prog w A R s hs
  have hm : typeOf (.type "str") = pure (.type "type") := by kernel_rfl
  have hself : isSubtype (.type "str") (.type "str") = pure true := by kernel_rfl
  unfold Builtin.«issubclass.nested»
  dsimp only
  rw [hm]
  refine wpAny_bind (wpAny_pure ?_)
  rw [if_pos (by decide)]
  repeat (any_goals (first | assumption | (rw [hself]) | wp_step))

theorem issub_tuple {D : Addr} {tk : Tok} : Meets (Builtin.«issubclass.nested» ⟨[.type "str", .ref D, .int 0 tk], []⟩)
   (fun _ R s => s.heap.get? D = some { cls := .type "tuple", data := .seq #[.type "str", .type "bytes"] } ∧ R (.ok (.ret (.bool true))) s) := by
  intro prog w A R s hs
  obtain ⟨h, g, d, tt, os⟩ := s
  obtain ⟨htp, hq⟩ := hs
  have hT2 : (⟨h, g, d, tt, os⟩ : Shared).TypeIs (.ref D) "tuple" := ⟨_, htp, rfl⟩
  obtain ⟨its, hits⟩ : ∃ its : List Value, its = [.type "str", .type "bytes"] := ⟨_, rfl⟩
  have htp : h.get? D = some { cls := .type "tuple", data := .seq its.toArray } := by rw [hits]; exact htp
  have f1 := F.isi_sub_tuple
  unfold Builtin.«issubclass.nested»
  repeat (any_goals (first | assumption | wp_step))
  refine wpAny_arrayLoop ?_
  simp only [Option.getD_some, List.toList_toArray]
  rw [hits, List.forIn_cons]
  refine wpAny_bind (wpAny_bind (call_function_meets kind_isn plain_isn F.entry_issubclass_nested (args_isn _ _ _) isn_str ?_))
  show wpAny _ _ (truthy (.bool true) >>= _) _ _ _
  refine wpAny_bind (m := truthy (.bool true)) (wpAny_pure ?_)
  refine wpAny_bind (wpAny_pure (wpAny_pure (wpAny_pure ?_)))
  repeat (any_goals (first | assumption | wp_step))

theorem issub_call {prog : Program} {w : World} {A : Around} {E : Value → Shared → Prop} {s : Shared} {Q : Value → Shared → Prop} {D : Addr}
   (hD : s.heap.get? D = some { cls := .type "tuple", data := .seq #[.type "str", .type "bytes"] }) (h : Q (.bool true) s) :
   wpAny (model prog w) A (call (.builtin "issubclass") [.type "str", .ref D]) Q E s :=
  call_issubclass (S := fun _ R s => s.heap.get? D = some { cls := .type "tuple", data := .seq #[.type "str", .type "bytes"] } ∧ R (.ok (.ret (.bool true))) s)
   (fun prog w A R s hs => issubclass_outer (issub_tuple prog w A R s hs)) ⟨hD, h⟩
theorem issub_N {prog : Program} {w : World} {A : Around} {E : Value → Shared → Prop} {s : Shared} {Q : Value → Shared → Prop} {D : Addr} {h₀ : Heap} {L : Addr} {news : List (Addr × Obj)} (N : News h₀ L s.heap news)
   (hD : (D, ({ cls := .type "tuple", data := .seq #[.type "str", .type "bytes"] } : Obj)) ∈ news) (h : Q (.bool true) s) :
   wpAny (model prog w) A (call (.builtin "issubclass") [.type "str", .ref D]) Q E s := issub_call (N _ hD).1 h


abbrev PP : Program := PySem.Challenge.rw_pd0130_01.row.prog

abbrev TokIn (B t : Nat) : Prop := 0 < t ∧ t < B

section Lin
variable {a b c : Nat}
theorem ltM (h : a < b) : a < b := h
theorem leM (h : a ≤ b) : a ≤ b := h
theorem lth (n : Nat) (h : a + (n + 1) ≤ c) : a < c := Nat.lt_of_lt_of_le (Nat.lt_add_of_pos_right (Nat.succ_pos n)) h
theorem lta (n : Nat) (h : a < c) : a < c + n := Nat.lt_of_lt_of_le h (Nat.le_add_right c n)
theorem lts (n : Nat) : a < a + (n + 1) := Nat.lt_add_of_pos_right (Nat.succ_pos n)
theorem ltp (n : Nat) (h : a ≤ c) : a < c + (n + 1) := Nat.lt_of_le_of_lt h (lts n)
theorem ltk (n : Nat) (h : a < c) : a < c + n := lta n h
theorem ltc (n : Nat) (h2 : b + n ≤ c) (h : a < b) : a < c := Nat.lt_of_lt_of_le (lta n h) h2
theorem lt0 (h2 : b ≤ c) (h : a < b) : a < c := Nat.lt_of_lt_of_le h h2
theorem le0 (h2 : b ≤ c) (h : a ≤ b) : a ≤ c := Nat.le_trans h h2
theorem leh (n : Nat) (h : a + n ≤ c) : a ≤ c := Nat.le_trans (Nat.le_add_right a n) h
theorem lea (n : Nat) (h : a ≤ c) : a ≤ c + n := Nat.le_trans h (Nat.le_add_right c n)
theorem les (n : Nat) : a ≤ a + n := Nat.le_add_right a n
theorem lek (n : Nat) (h : a ≤ c) : a ≤ c + n := lea n h
theorem lec (n : Nat) (h2 : b + n ≤ c) (h : a ≤ b) : a ≤ c := Nat.le_trans (lea n h) h2
theorem leN1 (h : a ≤ b) (h2 : Nat.ble b c = true) : a ≤ c := Nat.le_trans h (Nat.le_of_ble_eq_true h2)
theorem leN2 {d : Nat} (h : a < b) (h2 : b ≤ d) (h3 : Nat.ble d c = true) : a ≤ c := Nat.le_trans (Nat.le_of_lt h) (leN1 h2 h3)
theorem rs_nat (n : Nat) : Builtin.Range.rangeSize 0 (n : Int) 1 = (n : Int) := by rw [rangeSize_nat]; omega
theorem rs_pred (n : Nat) : Builtin.Range.rangeSize 0 ((n : Int) - 1) 1 = ((n - 1 : Nat) : Int) := by rw [rangeSize_nat]; omega
theorem i63 (h : a ≤ 16777216) : (a : Int) + 1 < 2 ^ 63 ∧ (a : Int) < 2 ^ 63 ∧ 0 ≤ (a : Int) + 1 := by omega
theorem s62 (h : a ≤ 16777216) : (-2 ^ 62 ≤ (a : Int) - 1 ∧ (a : Int) - 1 < 2 ^ 62) ∧ -2 ^ 62 ≤ (a : Int) ∧ (a : Int) < 2 ^ 62 := by omega
theorem neg1 (h : a = b + 1) : (-1 + (a : Int)).toNat = b ∧ -(a : Int) ≤ -1 := by omega
end Lin

abbrev Ar (dp : Nat) (fr : Option (List Env)) (gd : Option (List Code)) (un : Nat) : Around := ⟨none, dp, fr, gd, un⟩

structure Wd (w : World) (h : Heap) : Prop where
  k : (hd.heap_39 w.params).In h
  t : ∃ mean mg mb, Top hd.view_39 (looseW hd.view_39 []) mean mg mb h

theorem Wd.keeps {w : World} {h h' : Heap} (W : Wd w h) (hk : ∀ b o, h.get? b = some o → h'.get? b = some o) : Wd w h' :=
  ⟨W.k.keeps hk, let ⟨a, b, c, T⟩ := W.t; ⟨a, b, c, T.keeps hk⟩⟩

/-- what a contract's walk shows at its end -/
def RetP (s : Shared) (Q : Value → Shared → Prop) (v : Value) (s' : Shared) : Prop := s.toks ≤ s'.toks → Q v s'

theorem enter {w : World} {A : Around} {s : Shared} {Q : Value → Shared → Prop} {E : Value → Shared → Prop} {K : Frag} {p : Program} {loose : List Str} {mean : ExcName → Option Value} {mg mb : Str → Option Value}
    {name qual : Str} {params : Arguments} {body : List Stmt} {scope : Scope} {dV kV doc pm cdv ct oc : Value} {an od : Option Addr} {osl : Array (Option Value)} {f : Addr} {vs : List Value} {binds : List (Str × Value)}
    (X : K.In s.heap) (T : Top p loose mean mg mb s.heap) (hroom : A.depth < recursionLimit)
    (ho : K.lookup f = some ⟨oc, od, .func (fnOf name qual params body scope dV kV doc pm an cdv ct), osl⟩) (hcd : codeIn K cdv qual = true)
    (hbind : BindsTo s (fnOf name qual params body scope dV kV doc pm an cdv ct) ⟨vs, []⟩ binds) (hloc : ∀ y ∈ binds, scope.names.lookup y.1 = some .local)
    (h : ∀ L h₁, Fr s.heap L h₁ (fun y => binds.reverse.lookup y) → News s.heap L h₁ [] →
      wpAny (model PP w) (A.deeper (envOf qual scope L f cdv)) (execs body (envOf qual scope L f cdv))
        (fun fl s' => RetP s Q (match fl with | .ret v => v | _ => .none) s') (fun _ _ => False)
        { s with heap := h₁, toks := s.toks + binds.length })
    (hco : scope.isCoroutine = false) (hgen : scope.isGenerator = false) (hk : scope.kind = .function)
    (hcell : ∀ x ∈ scope.names, x.2 ≠ .cell) : wpAny (model PP w) A (call (.ref f) vs) Q E s := by
  refine wpAny_with_toks (Nat.le_refl _) (wpAny_call ?_)
  refine codeAny_call_def (fd := fnOf name qual params body scope dV kV doc pm an cdv ct) (body := body) (binds := binds) hroom (X _ _ ho) rfl T.nolimit (codeRec_of X hcd) rfl hbind hcell hloc (fun h₁ hns hk₁ => ?_) hco hgen hk
  exact wpAny_mono (h s.heap.objs.size h₁ ⟨hns, hk₁, Nat.le_refl _⟩ News.nil) (fun _ _ x => x) (fun _ _ x => x.elim)

abbrev Stays (h h' : Heap) : Prop := ∀ b o, h.get? b = some o → h'.get? b = some o

theorem Stays.fr {h₀ h h' : Heap} {L : Addr} {m : Str → Option Value} (st : Stays h h') (F : Fr h₀ L h m) : Fr h₀ L h' m :=
  ⟨F.ns.keeps st, fun b o e => st b o (F.keep b o e), F.above⟩
theorem Stays.news {h₀ h h' : Heap} {L : Addr} {news : List (Addr × Obj)} (st : Stays h h') (N : News h₀ L h news) : News h₀ L h' news :=
  fun p hp => ⟨st _ _ (N p hp).1, (N p hp).2⟩

/-- a stop for the walk -/
def Stop (P : Prop) : Prop := P
theorem Stop.out {P : Prop} (h : Stop P) : P := h
theorem Stop.mk {P : Prop} (h : P) : Stop P := h

section Rets
variable {h₀ : Heap} {L : Addr} {m : Str → Option Value} {news : List (Addr × Obj)} {s : Shared} {Q : Value → Shared → Prop}
/-- a contract whose answer is a str -/
def RetS (h : Heap) (s : Shared) (Q : Value → Shared → Prop) (x : Str) : Prop := ∀ (h' : Heap) (tk' t' : Nat), Stays h h' → s.toks ≤ tk' → 0 < t' → t' < tk' → Q (.str x t') { s with heap := h', toks := tk' }
theorem retS {x : Str} (F : Fr h₀ L s.heap m) (N : News h₀ L s.heap news)
   (k : ∀ (h' : Heap) (tk' t' : Nat), Fr h₀ L h' m → News h₀ L h' news → s.toks ≤ tk' → 0 < t' → t' < tk' → Q (.str x t') { s with heap := h', toks := tk' }) : RetS s.heap s Q x := fun h' tk' t' st => k h' tk' t' (st.fr F) (st.news N)
/-- a contract whose answer is an int -/
def RetI (h : Heap) (s : Shared) (Q : Value → Shared → Prop) (x : Int) : Prop := ∀ (h' : Heap) (tk' t' : Nat), Stays h h' → s.toks ≤ tk' → Q (.int x t') { s with heap := h', toks := tk' }
theorem retI {x : Int} (F : Fr h₀ L s.heap m) (N : News h₀ L s.heap news)
   (k : ∀ (h' : Heap) (tk' t' : Nat), Fr h₀ L h' m → News h₀ L h' news → s.toks ≤ tk' → Q (.int x t') { s with heap := h', toks := tk' }) : RetI s.heap s Q x := fun h' tk' t' st => k h' tk' t' (st.fr F) (st.news N)
/-- a contract whose answer is a given value -/
def RetV (h : Heap) (s : Shared) (Q : Value → Shared → Prop) (v : Value) : Prop := ∀ h' tk', Stays h h' → s.toks ≤ tk' → Q v { s with heap := h', toks := tk' }
theorem retV {v : Value} (F : Fr h₀ L s.heap m) (N : News h₀ L s.heap news)
   (k : ∀ h' tk', Fr h₀ L h' m → News h₀ L h' news → s.toks ≤ tk' → Q v { s with heap := h', toks := tk' }) : RetV s.heap s Q v := fun h' tk' st => k h' tk' (st.fr F) (st.news N)
end Rets

def AllNe (d : Nat) : List (Addr × Obj) → Prop
  | [] => True
  | p :: r => @Ne Nat p.1 d ∧ AllNe d r
theorem allNe_of {d : Addr} : ∀ {l : List (Addr × Obj)}, (∀ p ∈ l, p.1 ≠ d) → AllNe d l
  | [], _ => trivial
  | p :: _, h => ⟨h p (.head _), allNe_of fun q hq => h q (.tail _ hq)⟩
/-- a contract whose answer is a new object -/
def RetO (h : Heap) (s : Shared) (Q : Value → Shared → Prop) (P : Nat → Obj → Prop) : Prop := ∀ h' tk' D o, Stays h h' → s.toks ≤ tk' → h.get? D = none → h'.get? D = some o → P tk' o → Q (.ref D) { s with heap := h', toks := tk' }
theorem news_one {h₀ h h' : Heap} {L : Addr} {m : Str → Option Value} {news : List (Addr × Obj)} {D : Addr} {o : Obj} (F : Fr h₀ L h m) (N : News h₀ L h news) (st : Stays h h') (hn : h.get? D = none) (ho : h'.get? D = some o) :
    News h₀ L h' ((D, o) :: news) ∧ AllNe D news := by
  refine ⟨fun p hp => ?_, allNe_of fun p hp e => ?_⟩
  · rcases List.mem_cons.mp hp with rfl | hp
    · refine ⟨ho, fun e => ?_, ?_⟩
      · obtain ⟨oL, _, _, hL, _⟩ := F.ns
        have e' : D = L := e
        rw [e', hL] at hn; cases hn
      · cases q : h₀.get? D with
        | none => rfl
        | some o' => rw [F.keep _ _ q] at hn; cases hn
    · exact (st.news N) p hp
  · have := (N p hp).1; rw [e, hn] at this; cases this
theorem retO {h₀ : Heap} {L : Addr} {m : Str → Option Value} {news : List (Addr × Obj)} {s : Shared} {Q : Value → Shared → Prop} {P : Nat → Obj → Prop} (F : Fr h₀ L s.heap m) (N : News h₀ L s.heap news)
   (k : ∀ h' tk' D o, P tk' o → Fr h₀ L h' m → News h₀ L h' ((D, o) :: news) → AllNe D news → s.toks ≤ tk' → Q (.ref D) { s with heap := h', toks := tk' }) : RetO s.heap s Q P := fun h' tk' D o st tk hn ho hp =>
  k h' tk' D o hp (st.fr F) (news_one F N st hn ho).1 (news_one F N st hn ho).2 tk

section Loop
theorem allNe_out {d : Addr} {l : List (Addr × Obj)} (h : AllNe d l) : ∀ p ∈ l, p.1 ≠ d := by
  induction l with
  | nil => intro p hp; cases hp
  | cons q r ih =>
    intro p hp
    rcases List.mem_cons.mp hp with e | hp
    · rw [e]; exact h.1
    · exact ih h.2 p hp
end Loop

section Lists
variable {prog : Program} {w : World} {A : Around} {E : Value → Shared → Prop} {s : Shared} {h₀ : Heap} {L D : Addr} {m : Str → Option Value} {news news' : List (Addr × Obj)} {vs : List Value} {v : Value} {n : Nat}

theorem tr_nil {Q : Bool → Shared → Prop} (N : News h₀ L s.heap news) (hm : (D, PySem.W.listOf (strValues []).toArray n) ∈ news) (h : Q false { s with toks := s.toks + 1 + 1 }) :
    wpAny (model prog w) A (truthy (.ref D)) Q E s := by
  refine wpAny_truthy_list ⟨_, (N _ hm).1, rfl, _, rfl⟩ (by decide) ?_
  exact h
theorem tr_snoc {Q : Bool → Shared → Prop} (N : News h₀ L s.heap news) (hm : (D, PySem.W.listOf (vs ++ [v]).toArray n) ∈ news) (hsz : vs.length ≤ 4096) (h : Q true { s with toks := s.toks + 1 + 1 }) :
    wpAny (model prog w) A (truthy (.ref D)) Q E s := by
  refine wpAny_truthy_list (items := (vs ++ [v]).toArray) ⟨_, (N _ hm).1, rfl, _, rfl⟩ (by simp; omega) ?_
  have e : (!((vs ++ [v]).toArray.isEmpty)) = true := by simp
  rw [e]; exact h
theorem item_last {value slice : PySem.Expr} {u : Tok} {Q : Value → Shared → Prop} (N : News h₀ L s.heap news) (hm : (D, PySem.W.listOf (vs ++ [v]).toArray n) ∈ news) (hsz : vs.length ≤ 4096) (h : Q v s)
    (hs : subscripted slice false (.ref D) (.int (-1) u) = operate [.ref D, .int (-1) u] (getItem (.ref D) (.int (-1) u)) := by with_unfolding_all rfl) :
    wpAny (model prog w) A (subscriptTail value slice (.ref D) (.int (-1) u)) Q E s := by
  have hL : s.heap.IsList D (vs ++ [v]).toArray := ⟨_, (N _ hm).1, rfl, _, rfl⟩
  refine tail_any hL.typeIs slot_list_getitem.lookup (wpAny_getItem_list_neg hL (by decide) (by simp; omega) (by decide) ?_ h) hs
  have e : ((-1 : Int) + ((vs ++ [v]).toArray.size : Int)).toNat = vs.length := (neg1 (by simp)).1
  rw [e]; simp
theorem pop_last {Q : Value → Shared → Prop} (F : Fr h₀ L s.heap m) (N : News h₀ L s.heap news) (U : Upd D (PySem.W.listOf (vs ++ [v]).toArray n) (PySem.W.listOf vs.toArray (n + 1)) news news') (hsz : vs.length ≤ 4096)
    (h : ∀ h', Fr h₀ L h' m → News h₀ L h' news' → Q v { s with heap := h' }) : wpAny (model prog w) A (call (.builtin "list.pop") [.ref D]) Q E s :=
  kl_pop F N (kpa_last v vs) U (by rw [sizeLine_eq]; simp; omega) h
theorem strValues_snoc (a : List (Str × Tok)) (z : Str) (t : Tok) : strValues (a ++ [(z, t)]) = strValues a ++ [Value.str z t] := by simp [strValues]
theorem strValues_length (a : List (Str × Tok)) : (strValues a).length = a.length := by simp [strValues]
theorem strValues_push (a : List (Str × Tok)) (z : Str) (t : Tok) : (strValues a).toArray.push (Value.str z t) = (strValues (a ++ [(z, t)])).toArray := by simp [strValues]
theorem strValues_get {l : List (Str × Tok)} {i : Nat} {v : Value} (h : (strValues l)[i]? = some v) : ∃ c t, (l.map (·.1))[i]? = some c ∧ v = .str c t := by
  unfold strValues at h
  rw [List.getElem?_map] at h
  cases q : l[i]? with
  | none => rw [q] at h; cases h
  | some p => rw [q] at h; exact ⟨p.1, p.2, by rw [List.getElem?_map, q]; rfl, (Option.some.inj h).symm⟩
theorem strValues_at {l : List (Str × Tok)} {i : Nat} {v : Value} (h : (strValues l)[i]? = some v) : ∃ c t, (l.map (·.1))[i]? = some c ∧ v = .str c t ∧ (c, t) ∈ l := by
  unfold strValues at h
  rw [List.getElem?_map] at h
  cases q : l[i]? with
  | none => rw [q] at h; cases h
  | some p => rw [q] at h; exact ⟨p.1, p.2, by rw [List.getElem?_map, q]; rfl, (Option.some.inj h).symm, List.mem_of_getElem? q⟩

theorem tr_any {l : List (Str × Tok)} {Q : Bool → Shared → Prop} (N : News h₀ L s.heap news) (hm : (D, PySem.W.listOf (strValues l).toArray n) ∈ news) (hsz : l.length ≤ 4096)
    (h0 : l = [] → Q false { s with toks := s.toks + 1 + 1 }) (h1 : ∀ a z t, l = a ++ [(z, t)] → (strValues a).length ≤ 4096 → Q true { s with toks := s.toks + 1 + 1 }) :
    wpAny (model prog w) A (truthy (.ref D)) Q E s := by
  rcases List.eq_nil_or_concat l with e | ⟨a, ⟨z, t⟩, e⟩
  · rw [e] at hm
    exact tr_nil N hm (h0 e)
  · rw [List.concat_eq_append] at e
    have hz : (strValues a).length ≤ 4096 := by
      rw [e] at hsz
      simp [strValues] at hsz ⊢
      omega
    refine tr_snoc (vs := strValues a) (v := .str z t) (n := n) N ?_ hz (h1 a z t e hz)
    rw [e] at hm
    simpa [strValues] using hm
end Lists
section Join
variable {prog : Program} {w : World} {A : Around} {E : Value → Shared → Prop} {s : Shared} {h₀ : Heap} {L D : Addr} {news : List (Addr × Obj)} {n : Nat}
theorem sum_lens {b : Nat} : ∀ {ys : List Str}, (∀ c ∈ ys, c.length ≤ b) → (ys.map (·.length)).sum ≤ ys.length * b
  | [], _ => by simp
  | y :: ys, h => by
    have h1 := h y (List.mem_cons_self ..)
    have h2 := sum_lens (ys := ys) fun c hc => h c (List.mem_cons_of_mem _ hc)
    simp only [List.map_cons, List.sum_cons, List.length_cons, Nat.add_mul, Nat.one_mul]
    omega
theorem join_mine {l : List (Str × Tok)} {t : Tok} {B : Nat} {Q : Value → Shared → Prop} (N : News h₀ L s.heap news) (hm : (D, PySem.W.listOf (strValues l).toArray n) ∈ news) (hall : ∀ c ∈ l.map (·.1), c.length ≤ 1000) (hn : l.length ≤ 1002)
    (hpos : 0 < s.toks) (htk : ∀ p ∈ l, TokIn B p.2) (hB : B ≤ s.toks)
    (hq : ∀ (t' k : Nat), (Txt.join (Str.ofString "/") (l.map (·.1))).length ≤ 1003002 → 0 < t' → t' < k → s.toks ≤ k → Q (.str (Txt.join (Str.ofString "/") (l.map (·.1))) t') { s with toks := k }) :
    wpAny (model prog w) A (call (.builtin "str.join") [.str (Str.ofString "/") t, .ref D]) Q E s := by
  have h1 := sum_lens hall
  have h2 : (l.map (·.1)).length ≤ 1002 := by simpa using hn
  have h3 : (Str.ofString "/").length = 1 := by decide
  have h4 : (l.map (·.1)).length * 1000 ≤ 1002 * 1000 := Nat.mul_le_mul_right _ h2
  have hle : (Txt.join (Str.ofString "/") (l.map (·.1))).length ≤ 1003002 := by
    unfold Txt.join
    rw [StrLaws.glued_eq_join]
    have h5 := StrLaws.join_length_le (Str.ofString "/") (l.map (·.1))
    rw [h3] at h5
    omega
  have hok : JoinOk (Str.ofString "/") (l.map (·.1)) = true := joinOk_of (by rw [h3]; omega)
  unfold JoinOk at hok
  rw [Bool.not_eq_true'] at hok
  refine call_meets F.slot_str_join (typeIs_str _ _ _) F.entry_str_join (F.args_str_join_2 _ _) (meets_str_join_list _ t D l hok) ⟨⟨_, (N _ hm).1, rfl, _, rfl⟩, ?_⟩
  match l, htk, hq, hle, hok with
  | [], htk, hq, hle, hok => exact ⟨joinFit_length hok, hq _ _ hle hpos (Nat.lt_succ_self _) (Nat.le_succ _)⟩
  | [p], htk, hq, hle, hok =>
    have z := htk p (List.mem_cons_self ..)
    exact hq p.2 s.toks hle z.1 (Nat.lt_of_lt_of_le z.2 hB) (Nat.le_refl _)
  | _ :: _ :: _, htk, hq, hle, hok => exact ⟨joinFit_length hok, hq _ _ hle hpos (Nat.lt_succ_self _) (Nat.le_succ _)⟩
end Join
section Toks
variable {prog : Program} {w : World} {A : Around} {E : Value → Shared → Prop} {s : Shared} {h₀ : Heap} {L : Addr} {m : Str → Option Value} {news : List (Addr × Obj)} {x y : Str} {t u : Nat} {Q : Value → Shared → Prop}
theorem post_add_tok (ht : 0 < t) (hu : 0 < u) (ht2 : t < s.toks) (hu2 : u < s.toks) (h : ∀ (t' k : Nat), 0 < t' → t' < k → s.toks ≤ k → (x ++ y).length = x.length + y.length → Q (.str (x ++ y) t') { s with toks := k }) (hsz : x.length + y.length ≤ sizeLine) :
    (if x.length == 0 then Made.val (.str y u) else if y.length == 0 then Made.val (.str x t) else Made.str (x ++ y)).post Q s := by
  have hl : (x ++ y).length = x.length + y.length := Str.length_append x y
  cases h1 : x.length == 0
  · cases h2 : y.length == 0
    · exact ⟨by rw [hl]; exact hsz, h s.toks (s.toks + 1) (Nat.lt_trans ht ht2) (Nat.lt_succ_self _) (Nat.le_succ _) hl⟩
    · have e : y = Str.ofString "" := by
        obtain ⟨⟨l⟩⟩ := y
        have : l = [] := List.eq_nil_of_length_eq_zero (by simpa [Str.length] using h2)
        rw [this]; rfl
      have e2 : x ++ y = x := by rw [e]; exact Str.append_empty x
      have := h t s.toks ht ht2 (Nat.le_refl _) hl
      rw [e2] at this
      exact this
  · have e : x = Str.ofString "" := by
      obtain ⟨⟨l⟩⟩ := x
      have : l = [] := List.eq_nil_of_length_eq_zero (by simpa [Str.length] using h1)
      rw [this]; rfl
    have e2 : x ++ y = y := by rw [e]; exact Str.empty_append y
    have := h u s.toks hu hu2 (Nat.le_refl _) hl
    rw [e2] at this
    exact this
theorem add_tok (ht : 0 < t) (hu : 0 < u) (ht2 : t < s.toks) (hu2 : u < s.toks) (h : ∀ (t' k : Nat), 0 < t' → t' < k → s.toks ≤ k → (x ++ y).length = x.length + y.length → Q (.str (x ++ y) t') { s with toks := k }) (hsz : x.length + y.length ≤ sizeLine) :
    wpAny (model prog w) A (binaryOp .Add (.str x t) (.str y u)) Q E s := P.add_str (post_add_tok ht hu ht2 hu2 h hsz)
theorem iadd_tok (ht : 0 < t) (hu : 0 < u) (ht2 : t < s.toks) (hu2 : u < s.toks) (h : ∀ (t' k : Nat), 0 < t' → t' < k → s.toks ≤ k → (x ++ y).length = x.length + y.length → Q (.str (x ++ y) t') { s with toks := k }) (hsz : x.length + y.length ≤ sizeLine) :
    wpAny (model prog w) A (inplaceOp .Add (.str x t) (.str y u)) Q E s := P.iadd_str (post_add_tok ht hu ht2 hu2 h hsz)
theorem numbered_toks : ∀ (l : List Str) (k : Nat), ∀ p ∈ numbered k l, @LE.le Nat _ k p.2 ∧ @LT.lt Nat _ p.2 (k + l.length)
  | [], _, _, h => by cases h
  | c :: l, k, p, h => by
    rcases List.mem_cons.mp h with rfl | h
    · exact ⟨Nat.le_refl _, by simp⟩
    · obtain ⟨h1, h2⟩ := numbered_toks l (k + 1) p h
      refine ⟨Nat.le_of_succ_le h1, ?_⟩
      have e : k + (c :: l).length = k + 1 + l.length := by rw [List.length_cons]; omega
      rw [e]; exact h2
theorem split_mine (F' : Fr h₀ L s.heap m) (N : News h₀ L s.heap news) (ht : 0 < t) (ht2 : t < s.toks) (hsz : x.length ≤ 1048576)
    (hq : ∀ (D : Addr) (l : List (Str × Tok)) (h' : Heap) (k : Nat), l.map (·.1) = Txt.split x (Str.ofString "/") → (∀ p ∈ l, TokIn k p.2) → s.toks ≤ k → (∀ c ∈ l.map (·.1), c.length ≤ x.length) → Fr h₀ L h' m → News h₀ L h' ((D, PySem.W.listOf (strValues l).toArray 0) :: news) → AllLt D news →
      Q (.ref D) { s with heap := h', toks := k }) :
    wpAny (model prog w) A (call (.builtin "str.split") [.str x t, .str (Str.ofString "/") u]) Q E s := by
  have hy : ((Str.ofString "/").length == 0) = false := by decide
  have hne : AllLt s.heap.objs.size news := allLt_of fun p hp => Heap.lt_size (N p hp).1
  have hlen : ∀ l : List (Str × Tok), l.map (·.1) = Txt.split x (Str.ofString "/") → ∀ c ∈ l.map (·.1), c.length ≤ x.length := fun l e c hc => by rw [e] at hc; exact part_short hc
  have fin : ∀ (l : List (Str × Tok)) (k : Nat), l.map (·.1) = Txt.split x (Str.ofString "/") → (∀ p ∈ l, TokIn k p.2) → s.toks ≤ k →
      Q (.ref s.heap.objs.size) { s with heap := s.heap.push { cls := .type "list", data := .seq (strValues l).toArray }, toks := k } := fun l k e h1 h2 =>
    hq _ l _ k e h1 h2 (hlen l e) (F'.push _) (N.push F' _) hne
  have one : ∀ p ∈ [(x, t)], TokIn s.toks p.2 := fun p hp => by rw [List.mem_singleton.mp hp]; exact ⟨ht, ht2⟩
  have hsz' : x.length ≤ sizeLine := by rw [sizeLine_eq]; omega
  cases h1 : (decide (x.length < (Str.ofString "/").length) || decide (Builtin.Str.strKind x < Builtin.Str.strKind (Str.ofString "/")))
  · cases hf : (Builtin.Str.occurrences x (Str.ofString "/") 0 x.length (x.length + 1)).isEmpty
    · have hsp : Txt.split x (Str.ofString "/") = Builtin.Str.partsBetween x (Builtin.Str.occurrences x (Str.ofString "/") 0 x.length (x.length + 1)) (Str.ofString "/").length := (if_neg (ne_true_of_eq_false h1)).trans (if_neg (ne_true_of_eq_false hf))
      have hsz2 : (Builtin.Str.partsBetween x (Builtin.Str.occurrences x (Str.ofString "/") 0 x.length (x.length + 1)) (Str.ofString "/").length).length ≤ sizeLine := by
        rw [← hsp, sizeLine_eq]; have := split_le x (Str.ofString "/"); omega
      refine call_meets F.slot_str_split (typeIs_str _ _ _) F.entry_str_split (F.args_str_split_2 _ _) (meets_str_split_sep x (Str.ofString "/") t u h1 hy hf hsz' hsz2) ?_
      show wants Q E _ { s with toks := _, heap := s.heap.push { cls := .type "list", data := .seq (strsFrom s.toks (Builtin.Str.partsBetween x (Builtin.Str.occurrences x (Str.ofString "/") 0 x.length (x.length + 1)) (Str.ofString "/").length)).toArray } }
      rw [strsFrom_eq]
      refine fin (numbered s.toks _) _ ((numbered_texts _ _).trans hsp.symm) (fun p hp => ?_) (Nat.le_add_right _ _)
      have := numbered_toks _ _ p hp
      omega
    · exact call_meets F.slot_str_split (typeIs_str _ _ _) F.entry_str_split (F.args_str_split_2 _ _) (meets_str_split_not_found x (Str.ofString "/") t u h1 hy hf)
        (fin [(x, t)] s.toks ((if_neg (ne_true_of_eq_false h1)).trans (if_pos hf)).symm one (Nat.le_refl _))
  · exact call_meets F.slot_str_split (typeIs_str _ _ _) F.entry_str_split (F.args_str_split_2 _ _) (meets_str_split_cannot_occur x (Str.ofString "/") t u h1)
      (fin [(x, t)] s.toks (if_pos h1).symm one (Nat.le_refl _))
end Toks
section Menu
variable {prog : Program} {w : World} {A : Around} {E : Value → Shared → Prop} {s : Shared} {h₀ : Heap} {L D : Addr} {news : List (Addr × Obj)} {n : Nat}
theorem item_menu (l : List (Str × Tok)) {value slice : PySem.Expr} {k : Int} {u : Tok} {Q : Value → Shared → Prop} (N : News h₀ L s.heap news) (hm : (D, PySem.W.listOf (strValues l).toArray n) ∈ news)
    (h0 : 0 ≤ k) (hk : k < l.length) (hl : l.length ≤ 8) (htk : ∀ p ∈ l, TokIn s.toks p.2) (h : ∀ t : Nat, 0 < t → t < s.toks → Q (.str ((l.map (·.1)).getD k.toNat (Str.ofString "")) t) s)
    (hs : subscripted slice false (.ref D) (.int k u) = operate [.ref D, .int k u] (getItem (.ref D) (.int k u))) :
    wpAny (model prog w) A (subscriptTail value slice (.ref D) (.int k u)) Q E s := by
  have hL : s.heap.IsList D (strValues l).toArray := ⟨_, (N _ hm).1, rfl, _, rfl⟩
  have hlt : k.toNat < l.length := by omega
  have hg : (strValues l)[k.toNat]? = some (.str (l[k.toNat]'hlt).1 (l[k.toNat]'hlt).2) := by simp [strValues, hlt]
  have hv : (l.map (·.1)).getD k.toNat (Str.ofString "") = (l[k.toNat]'hlt).1 := by simp [List.getD, hlt]
  refine tail_any hL.typeIs slot_list_getitem.lookup (wpAny_getItem_list hL h0 (by omega) (by simpa using hg) ?_) hs
  have z := htk _ (List.getElem_mem hlt)
  rw [← hv]
  exact h _ z.1 z.2
end Menu

theorem wp_peek1 {α : Type} {K : Frag} {M : Model} {A : Around} {E : Value → Shared → Prop} {Q : α → Shared → Prop} {s : Shared} {o : Obj} {r : Addr → α} (X : K.In s.heap)
    (q : Q (r s.heap.objs.size) { s with heap := s.heap.push o }) :
    ∀ (t : Sem α) (g : Addr → Option α), peek1 K ⟨M.prog, M.w.params⟩ t = some (o, g) → (∀ D, g D = some (r D)) → wpAny M A t Q E s := by
  intro t
  induction t with
  | rule _ k ih => intro g e hg Γ p hΓ; exact ih () g e hg Γ p hΓ
  | point _ k ih => intro g e hg Γ p hΓ; exact ih () g e hg Γ p hΓ
  | ask k ih => intro g e hg Γ p hΓ; exact ih _ g e hg Γ p hΓ
  | load a _ k ih =>
    intro g e hg Γ p hΓ
    simp only [peek1] at e
    split at e
    · rename_i ob ho; exact ⟨ob, X _ _ ho, ih ob g e hg Γ p hΓ⟩
    · cases e
  | alloc ob k _ =>
    intro g e hg
    have e : some (ob, fun D => peek K ⟨M.prog, M.w.params⟩ (k D)) = some (o, g) := e
    obtain ⟨e1, e2⟩ := Prod.mk.inj (Option.some.inj e)
    subst e1
    subst e2
    have X' : K.In (s.heap.push ob) := X.keeps fun b x hb => Heap.get?_push_of_some _ hb
    show wpAny M A (alloc ob >>= k) Q E s
    refine wpAny_bind (wpAny_alloc ?_)
    exact (Looks.of_peek (M := M) (h := s.heap.push ob) X' (hg s.heap.objs.size)).here (s := { s with heap := s.heap.push ob }) q
  | _ => intro g e; cases e

theorem enterRest {w : World} {A : Around} {s : Shared} {Q : Value → Shared → Prop} {E : Value → Shared → Prop} {K : Frag} {p : Program} {loose : List Str} {mean : ExcName → Option Value} {mg mb : Str → Option Value}
    {name qual : Str} {params : Arguments} {body : List Stmt} {scope : Scope} {dV kV doc pm cdv ct oc : Value} {an od : Option Addr} {osl : Array (Option Value)} {f : Addr} {vs us : List Value} {binds : Addr → List (Str × Value)} {g₁ : Addr → Option (List (Str × Value))}
    (X : K.In s.heap) (T : Top p loose mean mg mb s.heap) (hroom : A.depth < recursionLimit)
    (ho : K.lookup f = some ⟨oc, od, .func (fnOf name qual params body scope dV kV doc pm an cdv ct), osl⟩) (hcd : codeIn K cdv qual = true)
    (hp : peek1 K ⟨PP, w.params⟩ (bindArgs (fnOf name qual params body scope dV kV doc pm an cdv ct) ⟨vs, []⟩) = some (({ cls := .type "tuple", data := .seq us.toArray } : Obj), g₁))
    (hg : ∀ D, g₁ D = some (binds D)) (hloc : ∀ D, ∀ y ∈ binds D, scope.names.lookup y.1 = some .local)
    (h : ∀ D L h₁, Fr s.heap L h₁ (fun y => (binds D).reverse.lookup y) → News s.heap L h₁ [(D, ({ cls := .type "tuple", data := .seq us.toArray } : Obj))] →
      wpAny (model PP w) (A.deeper (envOf qual scope L f cdv)) (execs body (envOf qual scope L f cdv))
        (fun fl s' => RetP s Q (match fl with | .ret v => v | _ => .none) s') (fun _ _ => False)
        { s with heap := h₁, toks := s.toks + (binds D).length })
    (hco : scope.isCoroutine = false) (hgen : scope.isGenerator = false) (hk : scope.kind = .function)
    (hcell : ∀ x ∈ scope.names, x.2 ≠ .cell) : wpAny (model PP w) A (call (.ref f) vs) Q E s := by
  refine wpAny_with_toks (Nat.le_refl _) (wpAny_call ?_)
  refine codeAny_call_function (fd := fnOf name qual params body scope dV kV doc pm an cdv ct) (body := body) hroom (X _ _ ho) rfl hco hgen rfl (codeRec_of X hcd) ?_
  refine wp_peek1 (o := ({ cls := .type "tuple", data := .seq us.toArray } : Obj)) X (r := binds) ?_ _ g₁ hp hg
  refine wpAny_newFunctionEnv hcell (hloc _) (fun h₁ hns hsb => ⟨(T.nolimit.keeps fun b o e => Heap.get?_push_of_some _ e).fresh _ hsb, codeAny_func ?_⟩) hk
  have hk₁ : ∀ b o, (s.heap.push { cls := .type "tuple", data := .seq us.toArray }).get? b = some o → h₁.get? b = some o := fun b o e => hsb.extBut b o (Nat.ne_of_lt (Heap.lt_size e)) (Heap.get?_push_of_some _ e)
  have hsz : (s.heap.push { cls := .type "tuple", data := .seq us.toArray }).objs.size = s.heap.objs.size + 1 := by simp [Heap.push]
  refine wpAny_mono (h s.heap.objs.size _ h₁ ⟨hns, fun b o e => hk₁ b o (Heap.get?_push_of_some _ e), ?_⟩ (fun q hq => ?_)) (fun _ _ x => x) (fun _ _ x => x.elim)
  · show s.heap.objs.size ≤ (s.heap.push { cls := .type "tuple", data := .seq us.toArray }).objs.size
    rw [hsz]; exact Nat.le_succ _
  · rw [List.mem_singleton.mp hq]
    refine ⟨hk₁ _ _ (Heap.get?_push_size _ rfl), ?_, Heap.get?_none_of_le (Nat.le_refl _)⟩
    show s.heap.objs.size ≠ (s.heap.push { cls := .type "tuple", data := .seq us.toArray }).objs.size
    rw [hsz]; exact Nat.ne_of_lt (Nat.lt_succ_self _)

section LoopT
variable {prog : Program} {w : World} {A : Around} {E : Value → Shared → Prop} {s : Shared} {env : Env} {h₀ : Heap} {x : Str} {body : List Stmt} {Q : Flow → Shared → Prop}

def TurnEndT {σ : Type} (h₀ : Heap) (L : Addr) (x : Str) (I : Addr) (io : Obj) (inv : Nat → σ → Prop) (frm : σ → Str → Option Value) (led : σ → List (Addr × Obj)) (s s₂ : Shared) : Prop :=
  ∃ a h' tk m', s₂ = { s with heap := h', toks := tk } ∧ inv tk a ∧ Fr h₀ L h' m' ∧ (∀ z, z ≠ x → m' z = frm a z) ∧ News h₀ L h' ((I, io) :: led a) ∧ (∀ p ∈ led a, p.1 ≠ I)
def TurnT {σ : Type} (h₀ : Heap) (L : Addr) (x : Str) (I : Addr) (io : Obj) (inv : Nat → σ → Prop) (frm : σ → Str → Option Value) (led : σ → List (Addr × Obj)) (s : Shared) (Q : Flow → Shared → Prop) (f : Flow) (s₂ : Shared) : Prop :=
  match f with
  | .ret v => Q (.ret v) s₂
  | .brk => Q .next s₂
  | _ => TurnEndT h₀ L x I io inv frm led s s₂
section
variable {σ : Type} {L : Addr} {I : Addr} {io : Obj} {inv : Nat → σ → Prop} {frm : σ → Str → Option Value} {led : σ → List (Addr × Obj)} {h' : Heap} {tk : Nat} {m' : Str → Option Value}
theorem turnTN (a : σ) (F : Fr h₀ L h' m') (N : News h₀ L h' ((I, io) :: led a)) (hi : inv tk a) (hm : ∀ z, z ≠ x → m' z = frm a z) (hne : AllNe I (led a)) : TurnT h₀ L x I io inv frm led s Q .next { s with heap := h', toks := tk } :=
  ⟨a, h', tk, m', rfl, hi, F, hm, N, allNe_out hne⟩
theorem turnTC (a : σ) (F : Fr h₀ L h' m') (N : News h₀ L h' ((I, io) :: led a)) (hi : inv tk a) (hm : ∀ z, z ≠ x → m' z = frm a z) (hne : AllNe I (led a)) : TurnT h₀ L x I io inv frm led s Q .cont { s with heap := h', toks := tk } :=
  ⟨a, h', tk, m', rfl, hi, F, hm, N, allNe_out hne⟩
end

/-- the loop's run, with nothing raised -/
abbrev LoopRun (prog : Program) (w : World) (A : Around) (env : Env) (x : Str) (px : Pos) (body : List Stmt) (Q : Flow → Shared → Prop) (it : Value) (s₂ : Shared) : Prop :=
  codeAny (model prog w) A (.forLoop (.Name x px) it body [] env) (fun r s' => match r with | .ok f => Q f s' | .error _ => False) s₂

abbrev InvT {σ : Type} (h₀ : Heap) (L : Addr) (x : Str) (I : Addr) (St : Nat → Shared → Prop) (inv : Nat → Nat → σ → Prop) (frm : σ → Str → Option Value) (led : σ → List (Addr × Obj)) (n : Nat) (s : Shared) (k : Nat) (s' : Shared) : Prop :=
  ∃ h' tk m' i a, s' = { s with heap := h', toks := tk } ∧ s.toks ≤ tk ∧ St i s' ∧ Fr h₀ L h' m' ∧ News h₀ L h' (led a) ∧ (∀ p ∈ led a, p.1 ≠ I) ∧
      (∀ z, z ≠ x → m' z = frm a z) ∧ inv tk i a ∧ i ≤ n ∧ k = n + 1 - i
theorem loopT {σ : Type} {I : Addr} {ax : List Addr} {n : Nat} {P : Nat → Value → Prop} {St : Nat → Shared → Prop} {m₀ : Str → Option Value} {news : List (Addr × Obj)} {px : Pos}
    (frm : σ → Str → Option Value) (led : σ → List (Addr × Obj)) (inv : Nat → Nat → σ → Prop) (a₀ : σ)
    (W : WalksS prog w A I (I :: ax) [I] (fun a b => b = a) n P St) (hI : ∀ i s, St i s → ∃ o, s.heap.get? I = some o)
    (hmono : ∀ tk tk' i a, tk ≤ tk' → inv tk i a → inv tk' i a)
    (hx : env.kindOf x = some .local) (hp : (env.scope.kind == .class || (env.scope.kind == .module && env.locals != env.globals)) = false)
    (hLI : env.locals ≠ I) (hLax : env.locals ∉ ax) (hnew : h₀.get? I = none)
    (hax : ∀ b ∈ ax, (∃ o, h₀.get? b = some o) ∨ (∃ o, ∀ tk i a, inv tk i a → (b, o) ∈ led a))
    (hst : St 0 s) (F : Fr h₀ env.locals s.heap m₀) (N : News h₀ env.locals s.heap news) (hnI : ∀ p ∈ news, p.1 ≠ I)
    (h0 : inv s.toks 0 a₀) (hm0 : ∀ z, z ≠ x → m₀ z = frm a₀ z) (hl0 : news = led a₀)
    (turn : ∀ i v a io h tk, s.toks ≤ tk → i < n → P i v → inv tk i a → (∀ p ∈ led a, p.1 ≠ I) → Fr h₀ env.locals h (fun y => if y = x then some v else frm a y) → News h₀ env.locals h ((I, io) :: led a) →
      wpAny (model prog w) A (execs body env) (TurnT h₀ env.locals x I io (fun tk => inv tk (i + 1)) frm led s Q) (fun _ _ => False) { s with heap := h, toks := tk })
    (done : ∀ a u h tk, s.toks ≤ tk → inv tk n a → Fr h₀ env.locals h (fun z => if z = x then u else frm a z) → News h₀ env.locals h (led a) → Q .next { s with heap := h, toks := tk }) :
    LoopRun prog w A env x px body Q (.ref I) s := by
  refine codeAny_forLoop (InvT h₀ env.locals x I St inv frm led n s) ?_ (n + 1) ⟨s.heap, s.toks, m₀, 0, a₀, rfl, Nat.le_refl _, hst, F, hl0 ▸ N, hl0 ▸ hnI, hm0, h0, Nat.zero_le _, rfl⟩
  rintro k s' ⟨h', tk, m', i, a, rfl, htk, hst', F', N', hn', hm', hinv, hi, rfl⟩
  have old : ∀ b o, h₀.get? b = some o → b ≠ I := fun b o e q => by rw [q, hnew] at e; cases e
  have moved : ∀ s₁ : Shared, Moved [I] (fun a b => b = a) { s with heap := h', toks := tk } s₁ → Fr h₀ env.locals s₁.heap m' ∧ News h₀ env.locals s₁.heap (led a) := fun s₁ M =>
    ⟨⟨F'.ns.at' fun o e => M.heap _ o (fun q => hLI (List.mem_singleton.mp q)) e, fun b o e => M.heap b o (fun q => old b o e (List.mem_singleton.mp q)) (F'.keep b o e), F'.above⟩,
     fun p hp => ⟨M.heap _ _ (fun q => hn' p hp (List.mem_singleton.mp q)) (N' p hp).1, (N' p hp).2⟩⟩
  have eqS : ∀ s₁ : Shared, Moved [I] (fun a b => b = a) { s with heap := h', toks := tk } s₁ → s₁ = { s with heap := s₁.heap, toks := s₁.toks } := fun s₁ M => by
    obtain ⟨h₁, g₁, d₁, t₁, o₁⟩ := s₁
    have e1 : g₁ = s.gens := M.gens
    have e2 : d₁ = s.drawn := M.drawn
    have e3 : o₁ = s.os := M.os
    subst e1 e2 e3; rfl
  by_cases hlt : i < n
  · refine W.item i _ _ _ hlt hst' fun v s₁ hP hst₁ M => ?_
    obtain ⟨F₁, N₁⟩ := moved s₁ M
    have htk₁ : tk ≤ s₁.toks := M.toks
    have e₁ := eqS s₁ M
    refine wpAny_assign_Name (wpAny_storeName_local hx F₁.ns (fun h₂ hn₂ hs₂ => ?_) hp)
    replace hs₂ : Heap.SameBut env.locals s₁.heap h₂ := hs₂
    have F₂ := F₁.set hn₂ hs₂
    have hF₂ : Fr h₀ env.locals h₂ (fun y => if y = x then some v else frm a y) := by
      have q : (fun y => if y = x then some v else m' y) = fun y => if y = x then some v else frm a y := by
        funext z
        by_cases hz : z = x
        · simp [hz]
        · simp only [if_neg hz]; exact hm' z hz
      rw [← q]; exact F₂
    have keep₂ : ∀ b, b ∈ I :: ax → ∀ o, s₁.heap.get? b = some o → h₂.get? b = some o := fun b hb o e => (hs₂.2 b fun q => by
      rcases List.mem_cons.mp hb with e' | e'
      · exact hLI (q ▸ e')
      · exact hLax (q ▸ e')).trans e
    obtain ⟨io, hio⟩ := hI _ _ hst₁
    have hio₂ : h₂.get? I = some io := keep₂ I (List.mem_cons_self ..) io hio
    have N₂ : News h₀ env.locals h₂ ((I, io) :: led a) := fun p hp => by
      rcases List.mem_cons.mp hp with rfl | hp
      · exact ⟨hio₂, Ne.symm hLI, hnew⟩
      · exact (N₁.set hs₂) p hp
    have es : ({ s₁ with heap := h₂, toks := s₁.toks + 1 } : Shared) = { s with heap := h₂, toks := s₁.toks + 1 } := by rw [e₁]
    have tn := turn i v a io h₂ (s₁.toks + 1) (Nat.le_succ_of_le (Nat.le_trans htk htk₁)) hlt hP (hmono _ _ _ _ (Nat.le_succ_of_le htk₁) hinv) hn' hF₂ N₂
    refine wpAny_mono (E := fun _ _ => False) (Q := fun f s₃ => (s₁.toks + 1 : Nat) ≤ s₃.toks ∧ TurnT h₀ env.locals x I io (fun tk => inv tk (i + 1)) frm led s Q f s₃) ?_ (fun f s₃ h₃ => ?_) fun _ _ e => e.elim
    · rw [es]
      exact wpAny_mono (wpAny_toks tn) (fun _ _ z => z) fun _ _ z => z.2
    · have fin : TurnEndT h₀ env.locals x I io (fun tk => inv tk (i + 1)) frm led s s₃ → (s₁.toks + 1 : Nat) ≤ s₃.toks → ∃ m, m < n + 1 - i ∧ InvT h₀ env.locals x I St inv frm led n s m s₃ := by
        rintro ⟨a', h₃', tk₃, m₃, rfl, hinv₃, F₃, hm₃, N₃, hne₃⟩ htk₃
        refine ⟨n + 1 - (i + 1), Nat.sub_lt_sub_left (Nat.lt_succ_of_lt hlt) (Nat.lt_succ_self i), h₃', tk₃, m₃, i + 1, a', rfl, ?_, ?_, F₃, fun p hp => N₃ p (List.mem_cons_of_mem _ hp), hne₃, hm₃, hinv₃, hlt, rfl⟩
        · exact Nat.le_trans (Nat.le_succ_of_le (Nat.le_trans htk htk₁)) htk₃
        · have hst₂ : St (i + 1) { s with heap := h₂, toks := s₁.toks + 1 } := by
            rw [← es]
            exact W.frame _ _ _ _ hst₁ (Nat.le_succ _) keep₂
          refine W.frame (i + 1) { s with heap := h₂, toks := s₁.toks + 1 } h₃' tk₃ hst₂ htk₃ fun b hb o e => ?_
          replace e : h₂.get? b = some o := e
          rcases List.mem_cons.mp hb with e' | e'
          · subst e'
            have : o = io := by rw [hio₂] at e; exact (Option.some.inj e).symm
            rw [this]; exact (N₃ _ (List.mem_cons_self ..)).1
          · rcases hax b e' with ⟨o', ho⟩ | ⟨o', ho⟩
            · have : o = o' := by have q := hF₂.keep b o' ho; rw [e] at q; exact Option.some.inj q
              rw [this]; exact F₃.keep b o' ho
            · have : o = o' := by have q := (N₂ _ (List.mem_cons_of_mem _ (ho _ _ _ hinv))).1; rw [e] at q; exact Option.some.inj q
              rw [this]; exact (N₃ _ (List.mem_cons_of_mem _ (ho _ _ _ hinv₃))).1
      obtain ⟨h₃t, h₃⟩ := h₃
      cases f with
      | ret v => exact h₃
      | brk => exact h₃
      | next => exact fin h₃ h₃t
      | cont => exact fin h₃ h₃t
  · have hin : i = n := Nat.le_antisymm hi (Nat.not_lt.mp hlt)
    subst hin
    refine W.done _ _ _ hst' fun s₁ M => wpAny_execs_nil ?_
    obtain ⟨F₁, N₁⟩ := moved s₁ M
    have htk₁ : tk ≤ s₁.toks := M.toks
    rw [eqS s₁ M]
    refine done a (m' x) s₁.heap s₁.toks (Nat.le_trans htk htk₁) (hmono _ _ _ _ htk₁ hinv) ?_ N₁
    have q : (fun z => if z = x then m' x else frm a z) = m' := by
      funext z
      by_cases hz : z = x
      · simp [hz]
      · simp only [if_neg hz]; exact (hm' z hz).symm
    rw [q]; exact F₁

theorem for_restT {px pos : Pos} {iter : PySem.Expr} {rest : List Stmt} {Q : Flow → Shared → Prop}
    (h : wpAny (model prog w) A (eval iter env) (fun xv s₁ => wpAny (model prog w) A (pyIter xv) (fun it s₂ => LoopRun prog w A env x px body
      (fun f s' => match f with | .next => wpAny (model prog w) A (execs rest env) Q (fun _ _ => False) s' | f => Q f s') it s₂) (fun _ _ => False) s₁) (fun _ _ => False) s)
    (hs : ∀ x, foldedSetIterable iter env x = pure x) :
    wpAny (model prog w) A (execs (Stmt.For (.Name x px) iter body [] pos :: rest) env) Q E s := by
  refine wpAny_mono (E := fun _ _ => False) (wpAny_execs_cons ?_) (fun _ _ h => h) (fun _ _ h => h.elim)
  refine wpAny_mono (wpAny_For (Q := fun f s' => match f with | .next => wpAny (model prog w) A (execs rest env) Q (fun _ _ => False) s' | f => Q f s') (wpAny_mono h (fun xv s₁ h₁ => wpAny_mono h₁ (fun it s₂ h₂ => ?_) fun _ _ e => e) fun _ _ e => e) hs) (fun f s' h' => ?_) fun _ _ e => e
  · exact codeAny_mono h₂ (fun r s' z => by cases r with | ok f => exact z | error e => exact z.elim)
  · cases f <;> exact h'
end LoopT

section IterT
variable {prog : Program} {w : World} {A : Around} {E : Value → Shared → Prop} {s : Shared} {env : Env} {h₀ : Heap} {x : Str} {body : List Stmt} {Q : Flow → Shared → Prop}

/-- a str's signs, each with a token that was not there when the loop began -/
def SignNew (x : Str) (b i : Nat) (v : Value) : Prop := ∃ c u : Nat, x.cps[i]? = some c ∧ v = .str ⟨#[c]⟩ u ∧ b ≤ u
theorem walks_ascii (hh : A.handled = none) (I : Addr) (x : Str) (t : Tok) (b : Nat) :
    WalksS prog w A I [I] [I] (fun a b => b = a) x.cps.size (SignNew x b) (fun i s => s.heap.IsStrIter I "str_ascii_iterator" x t i ∧ b ≤ s.toks) :=
  let W := (Walks.strAscii (prog := prog) (w := w) hh I x t).toS
  { sub := W.sub, grefl := W.grefl, gtrans := W.gtrans
    frame := fun i s h' tk st htk hk => ⟨W.frame i s h' tk st.1 htk hk, Nat.le_trans st.2 htk⟩
    item := fun i s Q E hi st hQ => by
      refine wpAny_pyNext_ascii_item st.1 (c := x.cps[i]) (by simp [hi]) fun h' hit' hs' => ?_
      exact hQ _ _ ⟨_, _, by simp [hi], rfl, st.2⟩ ⟨hit', Nat.le_succ_of_le st.2⟩ ⟨fun b o hb e => hs'.extBut b o (fun h => hb (by simp [h])) e, rfl, rfl, rfl, Nat.le_succ _⟩
    done := fun s Q E st hQ => W.done s Q E st.1 hQ
    self := fun i s Q E st hQ => W.self i s Q E st.1 hQ }
theorem walks_wide (hh : A.handled = none) (I : Addr) (x : Str) (t : Tok) (b : Nat) :
    WalksS prog w A I [I] [I] (fun a b => b = a) x.cps.size (SignNew x b) (fun i s => s.heap.IsStrIter I "str_iterator" x t i ∧ b ≤ s.toks) :=
  let W := (Walks.strWide (prog := prog) (w := w) hh I x t).toS
  { sub := W.sub, grefl := W.grefl, gtrans := W.gtrans
    frame := fun i s h' tk st htk hk => ⟨W.frame i s h' tk st.1 htk hk, Nat.le_trans st.2 htk⟩
    item := fun i s Q E hi st hQ => by
      refine wpAny_pyNext_wide_item st.1 (c := x.cps[i]) (by simp [hi]) fun h' hit' hs' => ?_
      exact hQ _ _ ⟨_, _, by simp [hi], rfl, st.2⟩ ⟨hit', Nat.le_succ_of_le st.2⟩ ⟨fun b o hb e => hs'.extBut b o (fun h => hb (by simp [h])) e, rfl, rfl, rfl, Nat.le_succ _⟩
    done := fun s Q E st hQ => W.done s Q E st.1 hQ
    self := fun i s Q E st hQ => W.self i s Q E st.1 hQ }

theorem iterT_list {σ : Type} {L l : Addr} {vs : List Value} {m₀ : Str → Option Value} {news : List (Addr × Obj)} {px : Pos}
    (frm : σ → Str → Option Value) (led : σ → List (Addr × Obj)) (inv : Nat → Nat → σ → Prop) (a₀ : σ)
    (hL : env.locals = L) (hh : A.handled = none) (hx : env.kindOf x = some .local) (hp : (env.scope.kind == .class || (env.scope.kind == .module && env.locals != env.globals)) = false)
    (hmono : ∀ tk tk' i a, tk ≤ tk' → inv tk i a → inv tk' i a)
    (hl : s.heap.IsList l vs.toArray) (hLl : L ≠ l)
    (hax : (∃ o, h₀.get? l = some o) ∨ (∃ o, ∀ tk i a, inv tk i a → (l, o) ∈ led a))
    (F : Fr h₀ L s.heap m₀) (N : News h₀ L s.heap news)
    (h0 : inv s.toks 0 a₀) (hm0 : ∀ z, z ≠ x → m₀ z = frm a₀ z) (hl0 : news = led a₀)
    (turn : ∀ i v a I io h tk, s.toks ≤ tk → vs[i]? = some v → inv tk i a → AllNe I (led a) → Fr h₀ L h (fun y => if y = x then some v else frm a y) → News h₀ L h ((I, io) :: led a) →
      wpAny (model prog w) A (execs body env) (TurnT h₀ L x I io (fun tk => inv tk (i + 1)) frm led s Q) (fun _ _ => False) { s with heap := h, toks := tk })
    (done : ∀ a u h tk, s.toks ≤ tk → inv tk vs.length a → Fr h₀ L h (fun z => if z = x then u else frm a z) → News h₀ L h (led a) → Q .next { s with heap := h, toks := tk }) :
    wpAny (model prog w) A (pyIter (.ref l)) (fun it s₂ => LoopRun prog w A env x px body Q it s₂) E s := by
  subst hL
  have hne : l ≠ s.heap.objs.size := by obtain ⟨o, ho, _⟩ := hl; exact Nat.ne_of_lt (Heap.lt_size ho)
  refine wpAny_pyIter_list hl ?_
  have W := (Walks.list (prog := prog) (w := w) hh s.heap.objs.size l hne vs.toArray).toS
  have hlen : vs.toArray.size = vs.length := by simp
  rw [hlen] at W
  refine loopT (ax := [l]) frm led inv a₀ W (fun i h hs => let ⟨o, ho, _⟩ := hs.1; ⟨o, ho⟩) hmono hx hp (Nat.ne_of_lt F.ns.lt) (by simpa using hLl) (next_is_new F)
    (fun b hb => by rw [List.mem_singleton.mp hb]; exact hax)
    ⟨⟨_, Heap.get?_push_size _ rfl, rfl, rfl⟩, hl.at fun o e => Heap.get?_push_of_some _ e⟩ (F.push _) (fun p hp => ⟨Heap.get?_push_of_some _ (N p hp).1, (N p hp).2⟩)
    (fun p hp => Nat.ne_of_lt (Heap.lt_size (N p hp).1)) h0 hm0 hl0 (fun i v a io h tk htk _ hP ha hne' F' N' => ?_) (fun a u h tk htk ha F' N' => ?_)
  · exact turn i v a _ io h tk htk (by simpa using hP) ha (allNe_of hne') F' N'
  · exact done a u h tk htk ha F' N'

/-- the same where the loop turns no other name, and of the ledger its head alone -/
theorem iterT_listC {σ : Type} {L : Addr} {l : Addr} {vs : List Value} {m₀ : Str → Option Value} {news fix : List (Addr × Obj)} {px : Pos}
    (dyn : σ → List (Addr × Obj)) (inv : Nat → Nat → σ → Prop) (a₀ : σ)
    (hL : env.locals = L) (hh : A.handled = none) (hx : env.kindOf x = some .local) (hp : (env.scope.kind == .class || (env.scope.kind == .module && env.locals != env.globals)) = false)
    (hmono : ∀ tk tk' i a, tk ≤ tk' → inv tk i a → inv tk' i a)
    (hl : s.heap.IsList l vs.toArray) (hLl : L ≠ l) (hax : (∃ o, h₀.get? l = some o) ∨ (∃ o, (l, o) ∈ fix))
    (F : Fr h₀ L s.heap m₀) (N : News h₀ L s.heap news)
    (h0 : inv s.toks 0 a₀) (hl0 : news = dyn a₀ ++ fix)
    (turn : ∀ i v a I io h tk, s.toks ≤ tk → vs[i]? = some v → inv tk i a → AllNe I (dyn a ++ fix) → Fr h₀ L h (fun z => if z = x then some v else m₀ z) → News h₀ L h ((I, io) :: (dyn a ++ fix)) →
      wpAny (model prog w) A (execs body env) (TurnT h₀ L x I io (fun tk => inv tk (i + 1)) (fun _ => m₀) (fun a => dyn a ++ fix) s Q) (fun _ _ => False) { s with heap := h, toks := tk })
    (done : ∀ a u h tk, s.toks ≤ tk → inv tk vs.length a → Fr h₀ L h (fun z => if z = x then u else m₀ z) → News h₀ L h (dyn a ++ fix) → Q .next { s with heap := h, toks := tk }) :
    wpAny (model prog w) A (pyIter (.ref l)) (fun it s₂ => LoopRun prog w A env x px body Q it s₂) E s :=
  iterT_list (fun _ => m₀) (fun a => dyn a ++ fix) inv a₀ hL hh hx hp hmono hl hLl (hax.imp id fun ⟨o, ho⟩ => ⟨o, fun _ _ _ _ => List.mem_append_right _ ho⟩) F N h0
    (fun _ _ => rfl) hl0 turn done

/-- the same where the loop turns one other name, and of the ledger its head alone -/
theorem iterT_list1 {σ : Type} {L : Addr} {l : Addr} {vs : List Value} {m₀ : Str → Option Value} {news fix : List (Addr × Obj)} {px : Pos} (yy : Str)
    (val : σ → Value) (dyn : σ → List (Addr × Obj)) (inv : Nat → Nat → σ → Prop) (a₀ : σ)
    (hL : env.locals = L) (hh : A.handled = none) (hx : env.kindOf x = some .local) (hp : (env.scope.kind == .class || (env.scope.kind == .module && env.locals != env.globals)) = false)
    (hmono : ∀ tk tk' i a, tk ≤ tk' → inv tk i a → inv tk' i a)
    (hl : s.heap.IsList l vs.toArray) (hLl : L ≠ l) (hax : (∃ o, h₀.get? l = some o) ∨ (∃ o, (l, o) ∈ fix))
    (F : Fr h₀ L s.heap m₀) (N : News h₀ L s.heap news)
    (h0 : inv s.toks 0 a₀) (hy : m₀ yy = some (val a₀)) (hl0 : news = dyn a₀ ++ fix)
    (turn : ∀ i v a I io h tk, s.toks ≤ tk → vs[i]? = some v → inv tk i a → AllNe I (dyn a ++ fix) → Fr h₀ L h (fun z => if z = x then some v else if z = yy then some (val a) else m₀ z) → News h₀ L h ((I, io) :: (dyn a ++ fix)) →
      wpAny (model prog w) A (execs body env) (TurnT h₀ L x I io (fun tk => inv tk (i + 1)) (fun a z => if z = yy then some (val a) else m₀ z) (fun a => dyn a ++ fix) s Q) (fun _ _ => False) { s with heap := h, toks := tk })
    (done : ∀ a u h tk, s.toks ≤ tk → inv tk vs.length a → Fr h₀ L h (fun z => if z = x then u else if z = yy then some (val a) else m₀ z) → News h₀ L h (dyn a ++ fix) → Q .next { s with heap := h, toks := tk }) :
    wpAny (model prog w) A (pyIter (.ref l)) (fun it s₂ => LoopRun prog w A env x px body Q it s₂) E s :=
  iterT_list (fun a z => if z = yy then some (val a) else m₀ z) (fun a => dyn a ++ fix) inv a₀ hL hh hx hp hmono hl hLl (hax.imp id fun ⟨o, ho⟩ => ⟨o, fun _ _ _ _ => List.mem_append_right _ ho⟩) F N h0
    (fun z _ => by by_cases hz : z = yy <;> simp [hz, hy]) hl0 turn done

theorem iterT_tuple {σ : Type} {L l : Addr} {vs : List Value} {m₀ : Str → Option Value} {news : List (Addr × Obj)} {px : Pos}
    (frm : σ → Str → Option Value) (led : σ → List (Addr × Obj)) (inv : Nat → Nat → σ → Prop) (a₀ : σ)
    (hL : env.locals = L) (hh : A.handled = none) (hx : env.kindOf x = some .local) (hp : (env.scope.kind == .class || (env.scope.kind == .module && env.locals != env.globals)) = false)
    (hmono : ∀ tk tk' i a, tk ≤ tk' → inv tk i a → inv tk' i a)
    (hl : s.heap.IsTuple l vs.toArray) (hLl : L ≠ l)
    (hax : (∃ o, h₀.get? l = some o) ∨ (∃ o, ∀ tk i a, inv tk i a → (l, o) ∈ led a))
    (F : Fr h₀ L s.heap m₀) (N : News h₀ L s.heap news)
    (h0 : inv s.toks 0 a₀) (hm0 : ∀ z, z ≠ x → m₀ z = frm a₀ z) (hl0 : news = led a₀)
    (turn : ∀ i v a I io h tk, s.toks ≤ tk → vs[i]? = some v → inv tk i a → AllNe I (led a) → Fr h₀ L h (fun y => if y = x then some v else frm a y) → News h₀ L h ((I, io) :: led a) →
      wpAny (model prog w) A (execs body env) (TurnT h₀ L x I io (fun tk => inv tk (i + 1)) frm led s Q) (fun _ _ => False) { s with heap := h, toks := tk })
    (done : ∀ a u h tk, s.toks ≤ tk → inv tk vs.length a → Fr h₀ L h (fun z => if z = x then u else frm a z) → News h₀ L h (led a) → Q .next { s with heap := h, toks := tk }) :
    wpAny (model prog w) A (pyIter (.ref l)) (fun it s₂ => LoopRun prog w A env x px body Q it s₂) E s := by
  subst hL
  have hne : l ≠ s.heap.objs.size := by obtain ⟨o, ho, _⟩ := hl; exact Nat.ne_of_lt (Heap.lt_size ho)
  refine wpAny_pyIter_tuple hl ?_
  have W := (Walks.tuple (prog := prog) (w := w) hh s.heap.objs.size l hne vs.toArray).toS
  have hlen : vs.toArray.size = vs.length := by simp
  rw [hlen] at W
  refine loopT (ax := [l]) frm led inv a₀ W (fun i h hs => let ⟨o, ho, _⟩ := hs.1; ⟨o, ho⟩) hmono hx hp (Nat.ne_of_lt F.ns.lt) (by simpa using hLl) (next_is_new F)
    (fun b hb => by rw [List.mem_singleton.mp hb]; exact hax)
    ⟨⟨_, Heap.get?_push_size _ rfl, rfl, rfl⟩, hl.at fun o e => Heap.get?_push_of_some _ e⟩ (F.push _) (fun p hp => ⟨Heap.get?_push_of_some _ (N p hp).1, (N p hp).2⟩)
    (fun p hp => Nat.ne_of_lt (Heap.lt_size (N p hp).1)) h0 hm0 hl0 (fun i v a io h tk htk _ hP ha hne' F' N' => ?_) (fun a u h tk htk ha F' N' => ?_)
  · exact turn i v a _ io h tk htk (by simpa using hP) ha (allNe_of hne') F' N'
  · exact done a u h tk htk ha F' N'

/-- the same where the loop turns one other name, and of the ledger its head alone -/
theorem iterT_tuple1 {σ : Type} {L : Addr} {l : Addr} {vs : List Value} {m₀ : Str → Option Value} {news fix : List (Addr × Obj)} {px : Pos} (yy : Str)
    (val : σ → Value) (dyn : σ → List (Addr × Obj)) (inv : Nat → Nat → σ → Prop) (a₀ : σ)
    (hL : env.locals = L) (hh : A.handled = none) (hx : env.kindOf x = some .local) (hp : (env.scope.kind == .class || (env.scope.kind == .module && env.locals != env.globals)) = false)
    (hmono : ∀ tk tk' i a, tk ≤ tk' → inv tk i a → inv tk' i a)
    (hl : s.heap.IsTuple l vs.toArray) (hLl : L ≠ l) (hax : (∃ o, h₀.get? l = some o) ∨ (∃ o, (l, o) ∈ fix))
    (F : Fr h₀ L s.heap m₀) (N : News h₀ L s.heap news)
    (h0 : inv s.toks 0 a₀) (hy : m₀ yy = some (val a₀)) (hl0 : news = dyn a₀ ++ fix)
    (turn : ∀ i v a I io h tk, s.toks ≤ tk → vs[i]? = some v → inv tk i a → AllNe I (dyn a ++ fix) → Fr h₀ L h (fun z => if z = x then some v else if z = yy then some (val a) else m₀ z) → News h₀ L h ((I, io) :: (dyn a ++ fix)) →
      wpAny (model prog w) A (execs body env) (TurnT h₀ L x I io (fun tk => inv tk (i + 1)) (fun a z => if z = yy then some (val a) else m₀ z) (fun a => dyn a ++ fix) s Q) (fun _ _ => False) { s with heap := h, toks := tk })
    (done : ∀ a u h tk, s.toks ≤ tk → inv tk vs.length a → Fr h₀ L h (fun z => if z = x then u else if z = yy then some (val a) else m₀ z) → News h₀ L h (dyn a ++ fix) → Q .next { s with heap := h, toks := tk }) :
    wpAny (model prog w) A (pyIter (.ref l)) (fun it s₂ => LoopRun prog w A env x px body Q it s₂) E s :=
  iterT_tuple (fun a z => if z = yy then some (val a) else m₀ z) (fun a => dyn a ++ fix) inv a₀ hL hh hx hp hmono hl hLl (hax.imp id fun ⟨o, ho⟩ => ⟨o, fun _ _ _ _ => List.mem_append_right _ ho⟩) F N h0
    (fun z _ => by by_cases hz : z = yy <;> simp [hz, hy]) hl0 turn done

theorem iterT_str {σ : Type} {L : Addr} {y : Str} {t : Tok} {m₀ : Str → Option Value} {news : List (Addr × Obj)} {px : Pos}
    (frm : σ → Str → Option Value) (led : σ → List (Addr × Obj)) (inv : Nat → Nat → σ → Prop) (a₀ : σ)
    (hL : env.locals = L) (hh : A.handled = none) (hx : env.kindOf x = some .local) (hp : (env.scope.kind == .class || (env.scope.kind == .module && env.locals != env.globals)) = false)
    (hmono : ∀ tk tk' i a, tk ≤ tk' → inv tk i a → inv tk' i a)
    (F : Fr h₀ L s.heap m₀) (N : News h₀ L s.heap news)
    (h0 : inv s.toks 0 a₀) (hm0 : ∀ z, z ≠ x → m₀ z = frm a₀ z) (hl0 : news = led a₀)
    (turn : ∀ i v a I io h tk, s.toks ≤ tk → SignNew y s.toks i v → inv tk i a → AllNe I (led a) → Fr h₀ L h (fun y => if y = x then some v else frm a y) → News h₀ L h ((I, io) :: led a) →
      wpAny (model prog w) A (execs body env) (TurnT h₀ L x I io (fun tk => inv tk (i + 1)) frm led s Q) (fun _ _ => False) { s with heap := h, toks := tk })
    (done : ∀ a u h tk, s.toks ≤ tk → inv tk y.cps.size a → Fr h₀ L h (fun z => if z = x then u else frm a z) → News h₀ L h (led a) → Q .next { s with heap := h, toks := tk }) :
    wpAny (model prog w) A (pyIter (.str y t)) (fun it s₂ => LoopRun prog w A env x px body Q it s₂) E s := by
  subst hL
  cases ha : y.cps.all (· < 128)
  · refine wpAny_pyIter_wide ha ?_
    refine loopT (ax := []) frm led inv a₀ (walks_wide hh s.heap.objs.size y t s.toks) (fun i h hs => let ⟨o, ho, _⟩ := hs.1; ⟨o, ho⟩) hmono hx hp (Nat.ne_of_lt F.ns.lt) (by simp) (next_is_new F)
      (fun b hb => by cases hb) ⟨⟨_, Heap.get?_push_size _ rfl, rfl, rfl⟩, Nat.le_refl _⟩ (F.push _) (fun p hp => ⟨Heap.get?_push_of_some _ (N p hp).1, (N p hp).2⟩)
      (fun p hp => Nat.ne_of_lt (Heap.lt_size (N p hp).1)) h0 hm0 hl0 (fun i v a io h tk htk _ hP ha hne' F' N' => ?_) (fun a u h tk htk ha F' N' => ?_)
    · exact turn i v a _ io h tk htk hP ha (allNe_of hne') F' N'
    · exact done a u h tk htk ha F' N'
  · refine wpAny_pyIter_ascii ha ?_
    refine loopT (ax := []) frm led inv a₀ (walks_ascii hh s.heap.objs.size y t s.toks) (fun i h hs => let ⟨o, ho, _⟩ := hs.1; ⟨o, ho⟩) hmono hx hp (Nat.ne_of_lt F.ns.lt) (by simp) (next_is_new F)
      (fun b hb => by cases hb) ⟨⟨_, Heap.get?_push_size _ rfl, rfl, rfl⟩, Nat.le_refl _⟩ (F.push _) (fun p hp => ⟨Heap.get?_push_of_some _ (N p hp).1, (N p hp).2⟩)
      (fun p hp => Nat.ne_of_lt (Heap.lt_size (N p hp).1)) h0 hm0 hl0 (fun i v a io h tk htk _ hP ha hne' F' N' => ?_) (fun a u h tk htk ha F' N' => ?_)
    · exact turn i v a _ io h tk htk hP ha (allNe_of hne') F' N'
    · exact done a u h tk htk ha F' N'

/-- the same where the loop turns one other name, and of the ledger its head alone -/
theorem iterT_str1 {σ : Type} {L : Addr} {y : Str} {t : Tok} {m₀ : Str → Option Value} {news fix : List (Addr × Obj)} {px : Pos} (yy : Str)
    (val : σ → Value) (dyn : σ → List (Addr × Obj)) (inv : Nat → Nat → σ → Prop) (a₀ : σ)
    (hL : env.locals = L) (hh : A.handled = none) (hx : env.kindOf x = some .local) (hp : (env.scope.kind == .class || (env.scope.kind == .module && env.locals != env.globals)) = false)
    (hmono : ∀ tk tk' i a, tk ≤ tk' → inv tk i a → inv tk' i a)
    (F : Fr h₀ L s.heap m₀) (N : News h₀ L s.heap news)
    (h0 : inv s.toks 0 a₀) (hy : m₀ yy = some (val a₀)) (hl0 : news = dyn a₀ ++ fix)
    (turn : ∀ i v a I io h tk, s.toks ≤ tk → SignNew y s.toks i v → inv tk i a → AllNe I (dyn a ++ fix) → Fr h₀ L h (fun z => if z = x then some v else if z = yy then some (val a) else m₀ z) → News h₀ L h ((I, io) :: (dyn a ++ fix)) →
      wpAny (model prog w) A (execs body env) (TurnT h₀ L x I io (fun tk => inv tk (i + 1)) (fun a z => if z = yy then some (val a) else m₀ z) (fun a => dyn a ++ fix) s Q) (fun _ _ => False) { s with heap := h, toks := tk })
    (done : ∀ a u h tk, s.toks ≤ tk → inv tk y.cps.size a → Fr h₀ L h (fun z => if z = x then u else if z = yy then some (val a) else m₀ z) → News h₀ L h (dyn a ++ fix) → Q .next { s with heap := h, toks := tk }) :
    wpAny (model prog w) A (pyIter (.str y t)) (fun it s₂ => LoopRun prog w A env x px body Q it s₂) E s :=
  iterT_str (fun a z => if z = yy then some (val a) else m₀ z) (fun a => dyn a ++ fix) inv a₀ hL hh hx hp hmono F N h0
    (fun z _ => by by_cases hz : z = yy <;> simp [hz, hy]) hl0 turn done
end IterT

section LoopP
variable {prog : Program} {w : World} {A : Around} {E : Value → Shared → Prop} {s : Shared} {env : Env} {h₀ : Heap} {xi xc : Str} {body : List Stmt} {Q : Flow → Shared → Prop}

def TurnEndZ {σ : Type} (h₀ : Heap) (L : Addr) (xi xc : Str) (os : List (Addr × Obj)) (inv : Nat → σ → Prop) (frm : σ → Str → Option Value) (led : σ → List (Addr × Obj)) (s s₂ : Shared) : Prop :=
  ∃ a h' tk m', s₂ = { s with heap := h', toks := tk } ∧ inv tk a ∧ Fr h₀ L h' m' ∧ (∀ z, z ≠ xi → z ≠ xc → m' z = frm a z) ∧ News h₀ L h' (os ++ led a) ∧ (∀ p ∈ led a, p.1 ∉ os.map (·.1))
def TurnZ {σ : Type} (h₀ : Heap) (L : Addr) (xi xc : Str) (os : List (Addr × Obj)) (inv : Nat → σ → Prop) (frm : σ → Str → Option Value) (led : σ → List (Addr × Obj)) (s : Shared) (Q : Flow → Shared → Prop) (f : Flow) (s₂ : Shared) : Prop :=
  match f with
  | .ret v => Q (.ret v) s₂
  | .brk => Q .next s₂
  | _ => TurnEndZ h₀ L xi xc os inv frm led s s₂
theorem turnZN {σ : Type} {L : Addr} {os : List (Addr × Obj)} {inv : Nat → σ → Prop} {frm : σ → Str → Option Value} {led : σ → List (Addr × Obj)} {h' : Heap} {tk : Nat} {m' : Str → Option Value} (a : σ) (F : Fr h₀ L h' m')
    (N : News h₀ L h' (os ++ led a)) (hi : inv tk a) (hm : ∀ z, z ≠ xi → z ≠ xc → m' z = frm a z) (hne : ∀ p ∈ led a, p.1 ∉ os.map (·.1)) : TurnZ h₀ L xi xc os inv frm led s Q .next { s with heap := h', toks := tk } :=
  ⟨a, h', tk, m', rfl, hi, F, hm, N, hne⟩

abbrev LoopRunP (prog : Program) (w : World) (A : Around) (env : Env) (xi xc : Str) (pk pv pt : Pos) (x1 : Nat) (body : List Stmt) (Q : Flow → Shared → Prop) (it : Value) (s₂ : Shared) : Prop :=
  codeAny (model prog w) A (.forLoop (.Tuple [.Name xi pk, .Name xc pv] x1 pt) it body [] env) (fun r s' => match r with | .ok f => Q f s' | .error _ => False) s₂

abbrev InvP {σ : Type} (h₀ : Heap) (L : Addr) (xi xc : Str) (own : List Addr) (St : Nat → Heap → Prop) (inv : Nat → Nat → σ → Prop) (frm : σ → Str → Option Value) (led : σ → List (Addr × Obj)) (n : Nat) (s : Shared) (k : Nat) (s' : Shared) : Prop :=
  ∃ h' tk m' i a, s' = { s with heap := h', toks := tk } ∧ s.toks ≤ tk ∧ St i h' ∧ Fr h₀ L h' m' ∧ News h₀ L h' (led a) ∧ (∀ p ∈ led a, p.1 ∉ own) ∧
      (∀ z, z ≠ xi → z ≠ xc → m' z = frm a z) ∧ inv tk i a ∧ i ≤ n ∧ k = n + 1 - i
theorem loopP {σ : Type} {I : Addr} {own ax wr : List Addr} {n : Nat} {Pt : Nat → Array Value → Prop} {St : Nat → Heap → Prop} {Mid : Nat → Addr → Heap → Prop} {P2 : Nat → Value → Value → Prop} {m₀ : Str → Option Value} {news : List (Addr × Obj)} {pk pv pt : Pos} {x1 : Nat}
    (frm : σ → Str → Option Value) (led : σ → List (Addr × Obj)) (inv : Nat → Nat → σ → Prop) (a₀ : σ)
    (W : WalksT prog w A I (own ++ ax) wr n Pt St Mid) (h2 : ∀ i vals, Pt i vals → ∃ v0 v1, vals = #[v0, v1] ∧ P2 i v0 v1)
    (hown : ∀ i h, St i h → ∀ b ∈ own, ∃ o, h.get? b = some o) (hwo : ∀ b ∈ wr, b ∈ own)
    (hmono : ∀ tk tk' i a, tk ≤ tk' → inv tk i a → inv tk' i a) (hh : A.handled = none)
    (hxi : env.kindOf xi = some .local) (hxc : env.kindOf xc = some .local) (hp : (env.scope.kind == .class || (env.scope.kind == .module && env.locals != env.globals)) = false)
    (hLo : env.locals ∉ own) (hLax : env.locals ∉ ax) (hnew : ∀ b ∈ own, h₀.get? b = none) (hax : ∀ b ∈ ax, ∃ o, h₀.get? b = some o)
    (hst : St 0 s.heap) (F : Fr h₀ env.locals s.heap m₀) (N : News h₀ env.locals s.heap news) (hnI : ∀ p ∈ news, p.1 ∉ own)
    (h0 : inv s.toks 0 a₀) (hm0 : ∀ z, z ≠ xi → z ≠ xc → m₀ z = frm a₀ z) (hl0 : news = led a₀)
    (turn : ∀ i v0 v1 a os h tk, s.toks ≤ tk → i < n → P2 i v0 v1 → inv tk i a → os.map (·.1) = own → (∀ p ∈ led a, p.1 ∉ own) → Fr h₀ env.locals h (fun y => if y = xc then some v1 else if y = xi then some v0 else frm a y) → News h₀ env.locals h (os ++ led a) →
      wpAny (model prog w) A (execs body env) (TurnZ h₀ env.locals xi xc os (fun tk => inv tk (i + 1)) frm led s Q) (fun _ _ => False) { s with heap := h, toks := tk })
    (done : ∀ a u u' h tk, s.toks ≤ tk → inv tk n a → Fr h₀ env.locals h (fun z => if z = xc then u else if z = xi then u' else frm a z) → News h₀ env.locals h (led a) → Q .next { s with heap := h, toks := tk }) :
    LoopRunP prog w A env xi xc pk pv pt x1 body Q (.ref I) s := by
  refine codeAny_forLoop_any (InvP h₀ env.locals xi xc own St inv frm led n s) ?_ (n + 1) ⟨s.heap, s.toks, m₀, 0, a₀, rfl, Nat.le_refl _, hst, F, hl0 ▸ N, hl0 ▸ hnI, hm0, h0, Nat.zero_le _, rfl⟩
  rintro k s' ⟨H, tk, m', i, a, rfl, htk, hst', F', N', hn', hm', hinv, hi, rfl⟩
  have old : ∀ b o, h₀.get? b = some o → b ∉ wr := fun b o e hb => by rw [hnew b (hwo b hb)] at e; cases e
  have next : ∀ h₁ : Heap, (∀ b o, b ∉ wr → H.get? b = some o → h₁.get? b = some o) → Fr h₀ env.locals h₁ m' ∧ News h₀ env.locals h₁ (led a) := fun h₁ hk₁ =>
    ⟨⟨F'.ns.at' fun o e => hk₁ _ o (fun q => hLo (hwo _ q)) e, fun b o e => hk₁ b o (old b o e) (F'.keep b o e), F'.above⟩, fun p hp => ⟨hk₁ _ _ (fun q => hn' p hp (hwo _ q)) (N' p hp).1, (N' p hp).2⟩⟩
  by_cases hlt : i < n
  · refine wpAny_with_toks (n := tk) (Nat.le_refl _) (W.item i _ _ _ hlt hst' fun T vals h₁ tk₁ hPt _ hT hMid hk₁ htk₁ => ?_)
    replace htk₁ : tk ≤ tk₁ := htk₁
    have le2 : tk ≤ tk₁ + 1 + 1 := Nat.le_succ_of_le (Nat.le_succ_of_le htk₁)
    obtain ⟨v0, v1, rfl, hP2⟩ := h2 i vals hPt
    refine W.go _ x1 pt i T _ _ _ hMid fun h₂ hst₂ hk₂ => ?_
    have ht₂ : h₂.IsTuple T #[v0, v1] := hT.at fun o e => hk₂ T o (W.apart i T h₁ hMid) e
    refine wpAny_assign_Tuple hh ht₂ rfl rfl fun h₃ hx₃ => ?_
    replace hx₃ : Heap.ExtBut h₂.objs.size h₂ h₃ := hx₃
    have up₃ : ∀ b o, h₂.get? b = some o → h₃.get? b = some o := fun b o x => hx₃ b o (Nat.ne_of_lt (Heap.lt_size x)) x
    obtain ⟨F₃, N₃⟩ := next h₃ fun b o hb x => up₃ b o (hk₂ b o hb (hk₁ b o hb x))
    show wpAny _ A (do holding [v1] (assign (.Name xi pk) env v0); do holding [] (assign (.Name xc pv) env v1); pure ()) _ _ _
    refine wpAny_bind (wpAny_holding (wpAny_assign_Name (wpAny_storeName_local hxi F₃.ns (fun h₄ hn₄ hs₄ => ?_) hp)))
    replace hs₄ : Heap.SameBut env.locals h₃ h₄ := hs₄
    have F₄ := F₃.set hn₄ hs₄
    refine wpAny_bind (wpAny_holding (wpAny_assign_Name (wpAny_storeName_local hxc F₄.ns (fun h₅ hn₅ hs₅ => wpAny_pure ?_) hp)))
    replace hs₅ : Heap.SameBut env.locals h₄ h₅ := hs₅
    have F₅ := F₄.set hn₅ hs₅
    have N₅ : News h₀ env.locals h₅ (led a) := (N₃.set hs₄).set hs₅
    have hLf : env.locals ∉ own ++ ax := fun q => (List.mem_append.mp q).elim hLo hLax
    have keep₅ : ∀ b ∈ own ++ ax, ∀ o, h₃.get? b = some o → h₅.get? b = some o := fun b hb o e => hs₅.extBut b o (fun q => hLf (q ▸ hb)) (hs₄.extBut b o (fun q => hLf (q ▸ hb)) e)
    have hst₅ : St (i + 1) h₅ := W.frame _ _ _ hst₂ fun b hb o e => keep₅ b hb o (up₃ b o e)
    have hF₅ : Fr h₀ env.locals h₅ (fun y => if y = xc then some v1 else if y = xi then some v0 else frm a y) := by
      have q : (fun y => if y = xc then some v1 else if y = xi then some v0 else m' y) = fun y => if y = xc then some v1 else if y = xi then some v0 else frm a y := by
        funext z
        by_cases hz : z = xc
        · simp [hz]
        · by_cases hz2 : z = xi
          · simp [hz2]
          · simp only [if_neg hz, if_neg hz2]; exact hm' z hz2 hz
      rw [← q]; exact F₅
    let os : List (Addr × Obj) := own.map fun b => (b, (h₅.get? b).getD default)
    have hos : os.map (·.1) = own := (List.map_map ..).trans (List.map_id own)
    have hget : ∀ p ∈ os, p.1 ∈ own ∧ h₅.get? p.1 = some p.2 := fun p hp => by
      obtain ⟨b, hb, rfl⟩ := List.mem_map.mp hp
      obtain ⟨o, ho⟩ := hown _ _ hst₅ b hb
      exact ⟨hb, by simp [ho]⟩
    have hmem : ∀ b ∈ own, ∀ o, h₅.get? b = some o → (b, o) ∈ os := fun b hb o e => List.mem_map.mpr ⟨b, hb, by simp [e]⟩
    have NN : News h₀ env.locals h₅ (os ++ led a) := fun p hp => by
      rcases List.mem_append.mp hp with hp | hp
      · have z := hget p hp
        exact ⟨z.2, fun q => hLo (q ▸ z.1), hnew _ z.1⟩
      · exact N₅ p hp
    have tn := turn i v0 v1 a os h₅ (tk₁ + 1 + 1) (Nat.le_trans htk le2) hlt hP2 (hmono _ _ _ _ le2 hinv) hos hn' hF₅ NN
    refine wpAny_mono (E := fun _ _ => False) (Q := fun f s₃ => (tk₁ + 1 + 1 : Nat) ≤ s₃.toks ∧ TurnZ h₀ env.locals xi xc os (fun tk => inv tk (i + 1)) frm led s Q f s₃) ?_ (fun f s₃ h₃ => ?_) fun _ _ e => e.elim
    · exact wpAny_mono (wpAny_toks tn) (fun _ _ z => z) fun _ _ z => z.2
    · have fin : TurnEndZ h₀ env.locals xi xc os (fun tk => inv tk (i + 1)) frm led s s₃ → (tk₁ + 1 + 1 : Nat) ≤ s₃.toks → ∃ m, m < n + 1 - i ∧ InvP h₀ env.locals xi xc own St inv frm led n s m s₃ := by
        rintro ⟨a', h₃', tk₃, m₃, rfl, hinv₃, F₃, hm₃, N₃, hne₃⟩ htk₃
        refine ⟨n + 1 - (i + 1), Nat.sub_lt_sub_left (Nat.lt_succ_of_lt hlt) (Nat.lt_succ_self i), h₃', tk₃, m₃, i + 1, a', rfl, ?_, ?_, F₃, fun p hp => N₃ p (List.mem_append_right _ hp), hos ▸ hne₃, hm₃, hinv₃, hlt, rfl⟩
        · exact Nat.le_trans (Nat.le_trans htk le2) htk₃
        · refine W.frame _ _ _ hst₅ fun b hb o e => ?_
          rcases List.mem_append.mp hb with hb | hb
          · exact (N₃ _ (List.mem_append_left _ (hmem b hb o e))).1
          · obtain ⟨o', ho⟩ := hax b hb
            have : o = o' := by have q := hF₅.keep b o' ho; rw [e] at q; exact Option.some.inj q
            rw [this]; exact F₃.keep b o' ho
      obtain ⟨h₃t, h₃⟩ := h₃
      cases f with
      | ret v => exact h₃
      | brk => exact h₃
      | next => exact fin h₃ h₃t
      | cont => exact fin h₃ h₃t
  · have hin : i = n := Nat.le_antisymm hi (Nat.not_lt.mp hlt)
    subst hin
    refine wpAny_with_toks (n := tk) (Nat.le_refl _) (W.done _ _ _ hst' fun h₁ tk₁ hk₁ htk₁ => wpAny_execs_nil ?_)
    replace htk₁ : tk ≤ tk₁ := htk₁
    obtain ⟨F₁, N₁⟩ := next h₁ hk₁
    refine done a (m' xc) (m' xi) h₁ tk₁ (Nat.le_trans htk htk₁) (hmono _ _ _ _ htk₁ hinv) ?_ N₁
    have q : (fun z => if z = xc then m' xc else if z = xi then m' xi else frm a z) = m' := by
      funext z
      by_cases hz : z = xc
      · simp [hz]
      · by_cases hz2 : z = xi
        · rw [if_neg hz, if_pos hz2, hz2]
        · simp only [if_neg hz, if_neg hz2]; exact (hm' z hz2 hz).symm
    rw [q]; exact F₁

theorem for_restP {pk pv pt pos : Pos} {x1 : Nat} {iter : PySem.Expr} {rest : List Stmt} {Q : Flow → Shared → Prop}
    (h : wpAny (model prog w) A (eval iter env) (fun xv s₁ => wpAny (model prog w) A (pyIter xv) (fun it s₂ => LoopRunP prog w A env xi xc pk pv pt x1 body
      (fun f s' => match f with | .next => wpAny (model prog w) A (execs rest env) Q (fun _ _ => False) s' | f => Q f s') it s₂) (fun _ _ => False) s₁) (fun _ _ => False) s)
    (hs : ∀ x, foldedSetIterable iter env x = pure x) :
    wpAny (model prog w) A (execs (Stmt.For (.Tuple [.Name xi pk, .Name xc pv] x1 pt) iter body [] pos :: rest) env) Q E s := by
  refine wpAny_mono (E := fun _ _ => False) (wpAny_execs_cons ?_) (fun _ _ h => h) (fun _ _ h => h.elim)
  refine wpAny_mono (wpAny_For (Q := fun f s' => match f with | .next => wpAny (model prog w) A (execs rest env) Q (fun _ _ => False) s' | f => Q f s') (wpAny_mono h (fun xv s₁ h₁ => wpAny_mono h₁ (fun it s₂ h₂ => ?_) fun _ _ e => e) fun _ _ e => e) hs) (fun f s' h' => ?_) fun _ _ e => e
  · exact codeAny_mono h₂ (fun r s' z => by cases r with | ok f => exact z | error e => exact z.elim)
  · cases f <;> exact h'
end LoopP

section Zip
variable {prog : Program} {w : World} {A : Around} {E : Value → Shared → Prop} {s : Shared} {env : Env} {h₀ : Heap} {xi xc : Str} {body : List Stmt} {Q : Flow → Shared → Prop}

theorem five_of {os : List (Addr × Obj)} {a b c d e : Addr} (h : os.map (·.1) = [a, b, c, d, e]) : ∃ o1 o2 o3 o4 o5, os = [(a, o1), (b, o2), (c, o3), (d, o4), (e, o5)] := by
  obtain ⟨p1, r1, rfl, rfl, h1⟩ := List.map_eq_cons_iff.mp h
  obtain ⟨p2, r2, rfl, rfl, h2⟩ := List.map_eq_cons_iff.mp h1
  obtain ⟨p3, r3, rfl, rfl, h3⟩ := List.map_eq_cons_iff.mp h2
  obtain ⟨p4, r4, rfl, rfl, h4⟩ := List.map_eq_cons_iff.mp h3
  obtain ⟨p5, r5, rfl, rfl, h5⟩ := List.map_eq_cons_iff.mp h4
  rw [List.map_eq_nil_iff.mp h5]
  exact ⟨_, _, _, _, _, rfl⟩

theorem allNe_notin {led : List (Addr × Obj)} {l : List Addr} (h : ∀ p ∈ led, p.1 ∉ l) {b : Addr} (hb : b ∈ l) : AllNe b led := allNe_of fun p hp e => h p hp (e ▸ hb)
theorem notin_allNe {led : List (Addr × Obj)} {b1 b2 b3 b4 b5 : Addr} (h1 : AllNe b1 led) (h2 : AllNe b2 led) (h3 : AllNe b3 led) (h4 : AllNe b4 led) (h5 : AllNe b5 led) : ∀ p ∈ led, p.1 ∉ [b1, b2, b3, b4, b5] := fun p hp q =>
  List.forall_mem_cons (p := fun b => p.1 ≠ b).mpr ⟨allNe_out h1 p hp, List.forall_mem_cons.mpr ⟨allNe_out h2 p hp, List.forall_mem_cons.mpr ⟨allNe_out h3 p hp, List.forall_mem_cons.mpr ⟨allNe_out h4 p hp, List.forall_mem_cons.mpr ⟨allNe_out h5 p hp, List.forall_mem_nil _⟩⟩⟩⟩⟩ _ q rfl

theorem zip_go {σ : Type} {L l1 l2 : Addr} {vs₁ vs₂ : List Value} {m₀ : Str → Option Value} {news : List (Addr × Obj)} {pk pv pt : Pos} {x1 : Nat}
    (frm : σ → Str → Option Value) (led : σ → List (Addr × Obj)) (inv : Nat → Nat → σ → Prop) (a₀ : σ)
    (hL : env.locals = L) (hmono : ∀ tk tk' i a, tk ≤ tk' → inv tk i a → inv tk' i a) (hh : A.handled = none)
    (hxi : env.kindOf xi = some .local) (hxc : env.kindOf xc = some .local) (hp : (env.scope.kind == .class || (env.scope.kind == .module && env.locals != env.globals)) = false)
    (hl1 : h₀.IsList l1 vs₁.toArray) (hl2 : h₀.IsList l2 vs₂.toArray)
    (F : Fr h₀ L s.heap m₀) (N : News h₀ L s.heap news)
    (h0 : inv s.toks 0 a₀) (hm0 : ∀ z, z ≠ xi → z ≠ xc → m₀ z = frm a₀ z) (hl0 : news = led a₀)
    (turn : ∀ i v0 v1 a b1 b2 b3 b4 b5 o1 o2 o3 o4 o5 h tk, s.toks ≤ tk → vs₁[i]? = some v0 → vs₂[i]? = some v1 → inv tk i a → (@LE.le Nat _ s.heap.objs.size b1 ∧ @LE.le Nat _ s.heap.objs.size b2 ∧ @LE.le Nat _ s.heap.objs.size b3 ∧ @LE.le Nat _ s.heap.objs.size b4 ∧ @LE.le Nat _ s.heap.objs.size b5) → AllNe b1 (led a) → AllNe b2 (led a) → AllNe b3 (led a) → AllNe b4 (led a) → AllNe b5 (led a) →
      Fr h₀ L h (fun y => if y = xc then some v1 else if y = xi then some v0 else frm a y) → News h₀ L h ((b1, o1) :: (b2, o2) :: (b3, o3) :: (b4, o4) :: (b5, o5) :: led a) →
      wpAny (model prog w) A (execs body env) (TurnZ h₀ L xi xc [(b1, o1), (b2, o2), (b3, o3), (b4, o4), (b5, o5)] (fun tk => inv tk (i + 1)) frm led s Q) (fun _ _ => False) { s with heap := h, toks := tk })
    (done : ∀ a u u' h tk, s.toks ≤ tk → inv tk (min vs₁.length vs₂.length) a → Fr h₀ L h (fun z => if z = xc then u else if z = xi then u' else frm a z) → News h₀ L h (led a) → Q .next { s with heap := h, toks := tk }) :
    wpAny (model prog w) A (call (.type "zip") [.ref l1, .ref l2]) (fun xv s₁ => wpAny (model prog w) A (pyIter xv) (fun it s₂ => LoopRunP prog w A env xi xc pk pv pt x1 body Q it s₂) E s₁) E s := by
  subst hL
  have hls1 : s.heap.IsList l1 vs₁.toArray := hl1.at fun o e => F.keep l1 o e
  have hls2 : s.heap.IsList l2 vs₂.toArray := hl2.at fun o e => F.keep l2 o e
  obtain ⟨ol1, hol1, _⟩ := id hl1
  obtain ⟨ol2, hol2, _⟩ := id hl2
  have hlt1 : @LT.lt Nat _ l1 h₀.objs.size := Heap.lt_size hol1
  have hlt2 : @LT.lt Nat _ l2 h₀.objs.size := Heap.lt_size hol2
  have hLs : @LT.lt Nat _ env.locals s.heap.objs.size := F.ns.lt
  have hab : @LE.le Nat _ h₀.objs.size env.locals := F.above
  refine call_zip_2 hls1 hls2 fun h' hz hTI hTO hit1 hit2 hsz hk => ?_
  have F' : Fr h₀ env.locals h' m₀ := ⟨F.ns.keeps hk, fun b o e => hk b o (F.keep b o e), F.above⟩
  have N' : News h₀ env.locals h' news := fun p hp => ⟨hk _ _ (N p hp).1, (N p hp).2⟩
  generalize hn : s.heap.objs.size = k at *
  have hst : IsZip h' (k + 4) (k + 2) (k + 3) .none ∧ IsPair h' (k + 2) (.ref k) (.ref (k + 1)) ∧ (∃ a b, IsPair h' (k + 3) a b) ∧ h'.IsListIter k l1 0 ∧ h'.IsListIter (k + 1) l2 0 ∧ h'.IsList l1 vs₁.toArray ∧ h'.IsList l2 vs₂.toArray :=
    ⟨hz, hTI, ⟨_, _, hTO⟩, hit1, hit2, hls1.at fun o e => hk l1 o e, hls2.at fun o e => hk l2 o e⟩
  have h0k : @LE.le Nat _ h₀.objs.size k := Nat.le_trans hab (Nat.le_of_lt hLs)
  have W := WalksT.zip2 (prog := prog) (w := w) hh (k + 4) (k + 2) (k + 3) k (k + 1) l1 l2 (zipApart_new (Nat.lt_of_lt_of_le hlt1 h0k) (Nat.lt_of_lt_of_le hlt2 h0k)) vs₁.toArray vs₂.toArray
  refine W.self 0 _ _ _ hst ?_
  have hmin : min vs₁.toArray.size vs₂.toArray.size = min vs₁.length vs₂.length := by simp
  rw [hmin] at W
  have lt0 : ∀ p ∈ news, @LT.lt Nat _ p.1 k := fun p hp => Nat.lt_of_lt_of_eq (Heap.lt_size (N p hp).1) hn
  have hle : ∀ b ∈ [k + 4, k + 2, k + 3, k, k + 1], @LE.le Nat _ k b :=
    List.forall_mem_cons.mpr ⟨Nat.le_add_right k 4, List.forall_mem_cons.mpr ⟨Nat.le_add_right k 2, List.forall_mem_cons.mpr ⟨Nat.le_add_right k 3, List.forall_mem_cons.mpr ⟨Nat.le_refl k, List.forall_mem_cons.mpr ⟨Nat.le_add_right k 1, List.forall_mem_nil _⟩⟩⟩⟩⟩
  refine loopP (own := [k + 4, k + 2, k + 3, k, k + 1]) (ax := [l1, l2]) (P2 := fun i v0 v1 => vs₁[i]? = some v0 ∧ vs₂[i]? = some v1) frm led inv a₀ W ?_ ?_ ?_ hmono hh hxi hxc hp ?_ ?_ ?_ ?_ hst F' N' ?_ h0 hm0 hl0 ?_ ?_
  · rintro i vals ⟨x, y, hx, hy, rfl⟩
    exact ⟨x, y, rfl, by simpa using hx, by simpa using hy⟩
  · rintro i h ⟨q1, q2, ⟨a, b, q3⟩, ⟨o4, q4, _⟩, ⟨o5, q5, _⟩, _⟩ b hb
    exact List.forall_mem_cons (p := fun b => ∃ o, h.get? b = some o).mpr ⟨⟨_, q1⟩, List.forall_mem_cons.mpr ⟨⟨_, q2⟩, List.forall_mem_cons.mpr ⟨⟨_, q3⟩, List.forall_mem_cons.mpr ⟨⟨_, q4⟩, List.forall_mem_cons.mpr ⟨⟨_, q5⟩, List.forall_mem_nil _⟩⟩⟩⟩⟩ b hb
  · exact List.forall_mem_cons.mpr ⟨.head _, List.forall_mem_cons.mpr ⟨.tail _ (.tail _ (.head _)), List.forall_mem_cons.mpr ⟨.tail _ (.tail _ (.tail _ (.head _))), List.forall_mem_cons.mpr ⟨.tail _ (.tail _ (.tail _ (.tail _ (.head _)))), List.forall_mem_nil _⟩⟩⟩⟩
  · exact fun hb => Nat.lt_irrefl _ (Nat.lt_of_lt_of_le hLs (hle _ hb))
  · exact fun hb => Nat.lt_irrefl _ (Nat.lt_of_lt_of_le (List.forall_mem_cons (p := fun b => @LT.lt Nat _ b h₀.objs.size).mpr ⟨hlt1, List.forall_mem_cons.mpr ⟨hlt2, List.forall_mem_nil _⟩⟩ _ hb) hab)
  · exact fun b hb => Heap.get?_none_of_le (Nat.le_trans h0k (hle b hb))
  · exact List.forall_mem_cons.mpr ⟨⟨_, hol1⟩, List.forall_mem_cons.mpr ⟨⟨_, hol2⟩, List.forall_mem_nil _⟩⟩
  · exact fun p hp hb => Nat.lt_irrefl _ (Nat.lt_of_lt_of_le (lt0 p hp) (hle _ hb))
  · rintro i v0 v1 a os h tk htk _ ⟨g1, g2⟩ hinv hos hne F₁ N₁
    obtain ⟨o1, o2, o3, o4, o5, rfl⟩ := five_of hos
    exact turn i v0 v1 a _ _ _ _ _ o1 o2 o3 o4 o5 h tk htk g1 g2 hinv ⟨Nat.le_add_right _ _, Nat.le_add_right _ _, Nat.le_add_right _ _, Nat.le_refl _, Nat.le_add_right _ _⟩ (allNe_notin hne (.head _)) (allNe_notin hne (.tail _ (.head _))) (allNe_notin hne (.tail _ (.tail _ (.head _)))) (allNe_notin hne (.tail _ (.tail _ (.tail _ (.head _))))) (allNe_notin hne (.tail _ (.tail _ (.tail _ (.tail _ (.head _)))))) F₁ N₁
  · exact fun a u u' h tk htk ha F₁ N₁ => done a u u' h tk htk ha F₁ N₁
end Zip

theorem enterC {w : World} {A : Around} {s : Shared} {Q : Value → Shared → Prop} {E : Value → Shared → Prop} {K : Frag} {p : Program} {loose : List Str} {mean : ExcName → Option Value} {mg mb : Str → Option Value}
    {name qual : Str} {params : Arguments} {body : List Stmt} {scope : Scope} {dV kV doc pm cdv ct oc : Value} {an od : Option Addr} {osl : Array (Option Value)} {f : Addr} {vs : List Value} {binds : List (Str × Value)}
    (X : K.In s.heap) (T : Top p loose mean mg mb s.heap) (hroom : A.depth < recursionLimit)
    (ho : K.lookup f = some ⟨oc, od, .func (fnOf name qual params body scope dV kV doc pm an cdv ct), osl⟩) (hcd : codeIn K cdv qual = true)
    (hbind : BindsTo s (fnOf name qual params body scope dV kV doc pm an cdv ct) ⟨vs, []⟩ binds)
    (hkind : (binds.all fun y => scope.names.lookup y.1 == some .local || scope.names.lookup y.1 == some .cell) = true)
    (hnd : ((cellsFrom 0 scope.names []).map (·.1)).Nodup)
    (h : ∀ L h₁ (tk : Nat) cells, s.toks ≤ tk → Fr s.heap L h₁ (bindL (envOfC qual scope L f cdv).kindOf binds fun _ => none) → News s.heap L h₁ cells →
      CellsAre (bindC (envOfC qual scope L f cdv).kindOf binds fun _ => none) (cellsFrom (L + 1) scope.names []) cells →
      wpAny (model PP w) (A.deeper (envOfC qual scope L f cdv)) (execs body (envOfC qual scope L f cdv))
        (fun fl s' => RetP s Q (match fl with | .ret v => v | _ => .none) s') (fun _ _ => False) { s with heap := h₁, toks := tk })
    (hco : scope.isCoroutine = false) (hgen : scope.isGenerator = false) (hk : scope.kind = .function) : wpAny (model PP w) A (call (.ref f) vs) Q E s := by
  refine wpAny_with_toks (Nat.le_refl _) (wpAny_call ?_)
  refine codeAny_call_function (fd := fnOf name qual params body scope dV kV doc pm an cdv ct) (body := body) hroom (X _ _ ho) rfl hco hgen rfl (codeRec_of X hcd) (hbind _ _ _ _ ?_)
  refine wpAny_with_toks (n := s.toks) (Nat.le_refl _) (wpAny_newFunctionEnv_cells hk (kindsX hkind _) fun env' he s' x htk => ?_)
  subst he
  refine ⟨T.nolimit.keeps x.toInCall.keep, codeAny_func ?_⟩
  obtain ⟨h₁, tk, rfl, _⟩ := x.done
  have hk₁ := x.toInCall.keep
  obtain ⟨cells, NC, Y⟩ := Cl.news (h₀ := s.heap) (Nat.le_refl _) fun n c hm => ⟨x.cell n c (lookup_of_mem_nodup (cellsFrom_names scope.names 0 (s.heap.objs.size + 1) [] [] rfl ▸ hnd) hm), x.above n c hm⟩
  exact wpAny_mono (h s.heap.objs.size h₁ tk cells htk ⟨x.toInCall.ns, hk₁, Nat.le_refl _⟩ NC Y) (fun _ _ x => x) (fun _ _ x => x.elim)

section CompR
variable {prog : Program} {w : World} {A : Around} {h₀ : Heap} {L : Addr} {m : Str → Option Value} {env : Env} {elt : PySem.Expr} {x : Str} {scope : Scope} {cl : List (Str × Addr)} {s : Shared} {S : List (Addr × Obj) → Prop} {P : Nat → Value → Prop} {Fin : List Value → List (Addr × Obj) → Prop} {news : List (Addr × Obj)}
def CEl (R : Value → Prop) (news : List (Addr × Obj)) (y : Value) (news' : List (Addr × Obj)) : Prop := news' = news ∧ R y
/-- a comprehension of any length: each element has its fact -/
theorem comp_rest {n : Nat} (R : Nat → Value → Prop)
    (turn : ∀ i v I oI C oC D m₂ ys h (tk : Nat) (E' : Value → Shared → Prop), i < n → P i v → LCg.NsObj oC m₂ → m₂ x = some v → Fr h₀ L h m → News h₀ L h ((I, oI) :: (C, oC) :: (D, LCg.lst ys) :: news) → LCg.Off3 I C D news → ((@Ne Nat I C) ∧ (@Ne Nat I D) ∧ (@Ne Nat C D)) →
      wpAny (model prog w) A (eval elt (compEnvC scope cl C env)) (LCg.CompEnd h₀ L m { s with heap := h, toks := tk } I oI C oC D (LCg.lst ys) S (fun y news' => CEl (R i) news y news')) E' { s with heap := h, toks := tk })
    (fin : ∀ ys : List Value, ys.length = n → (∀ i y, ys[i]? = some y → R i y) → Fin ys news) : LCg.CompRest prog w A h₀ L m env elt x scope cl s S P Fin n 0 [] news := by
  have key : ∀ (j i : Nat) (ys : List Value), i + j = n → ys.length = i → (∀ i y, ys[i]? = some y → R i y) → LCg.CompRest prog w A h₀ L m env elt x scope cl s S P Fin j i ys news := by
    intro j
    induction j with
    | zero => intro i ys hi hl hy; exact LCg.CompRest.zero (fin ys (by omega) hy)
    | succ j ih =>
      intro i ys hi hl hy
      refine LCg.CompRest.succ ?_
      intro v I oI C oC D m₂ h tk E' hv hC hx F N off ne
      refine wpAny_mono (turn i v I oI C oC D m₂ ys h tk E' (by omega) hv hC hx F N off ne) (fun y s₂ hq => ?_) fun _ _ e => e
      obtain ⟨h', tk', nw, e, F', N', off', hS, hn, hr⟩ := hq
      rw [hn] at N' off' hS
      refine ⟨h', tk', news, e, F', N', off', hS, ?_⟩
      refine ih (i + 1) _ (by omega) (by simp [hl]) ?_
      intro k z hz
      by_cases hk : k < ys.length
      · rw [List.getElem?_append_left hk] at hz; exact hy k z hz
      · rw [List.getElem?_append_right (Nat.not_lt.mp hk)] at hz
        have : k - ys.length = 0 := by
          cases hq : k - ys.length with
          | zero => rfl
          | succ q => rw [hq] at hz; simp at hz
        rw [this] at hz
        have e1 : k = i := by omega
        rw [e1, ← Option.some.inj hz]; exact hr
  exact key n 0 [] (by omega) rfl (fun i y h => by simp at h)
end CompR

section ZipComp
variable {prog : Program} {w : World} {A : Around} {E : Value → Shared → Prop} {s : Shared} {h₀ : Heap} {L : Addr} {m : Str → Option Value} {env : Env}
def ZEnd (h₀ : Heap) (L : Addr) (m : Str → Option Value) (s : Shared) (news : List (Addr × Obj)) (R : Value → Prop) (y : Value) (s' : Shared) : Prop :=
  ∃ h' tk', s' = { s with heap := h', toks := tk' } ∧ Fr h₀ L h' m ∧ News h₀ L h' news ∧ R y

abbrev InvZ (h₀ : Heap) (L : Addr) (m : Str → Option Value) (s : Shared) (k : Nat) (l1 l2 : Addr) (vs₁ vs₂ : List Value) (news : List (Addr × Obj)) (R : Nat → Value → Prop) (n : Nat) (q : Nat) (s' : Shared) : Prop :=
  ∃ (H : Heap) (tk i : Nat) (ys : List Value) (m' : Str → Option Value), s' = { s with heap := H, toks := tk } ∧ i ≤ n ∧ q = n + 1 - i ∧ ys.length = i ∧ (∀ j y, ys[j]? = some y → R j y) ∧
        (IsZip H (k + 4) (k + 2) (k + 3) .none ∧ IsPair H (k + 2) (.ref k) (.ref (k + 1)) ∧ (∃ a b, IsPair H (k + 3) a b) ∧ H.IsListIter k l1 i ∧ H.IsListIter (k + 1) l2 i ∧ H.IsList l1 vs₁.toArray ∧ H.IsList l2 vs₂.toArray) ∧
        Fr h₀ L H m ∧ H.Ns (k + 6) m' ∧ News h₀ L H ((k + 5, LCg.lst ys) :: news)
theorem zip_comp {elt iter : PySem.Expr} {a b : Str} {pa pb tp : Pos} {kk : Nat} {scope : Scope} {cl : List (Str × Addr)} {pos : Pos} {l1 l2 : Addr} {vs₁ vs₂ : List Value} {news : List (Addr × Obj)} {RR : Value → Addr → Result → Shared → Prop} (R : Nat → Value → Prop)
    (hh : A.handled = none) (hl1 : h₀.IsList l1 vs₁.toArray) (hl2 : h₀.IsList l2 vs₂.toArray) (hsz : min vs₁.length vs₂.length ≤ sizeLine)
    (hcell : ∀ y ∈ scope.names, y.2 ≠ .cell) (hkind : scope.kind = .function) (hxa : scope.names.lookup a = some .local) (hxb : scope.names.lookup b = some .local) (hab : a ≠ b)
    (F : Fr h₀ L s.heap m) (N : News h₀ L s.heap news)
    (turn : ∀ i v0 v1 C oC D m₂ ys b1 b2 b3 b4 b5 o1 o2 o3 o4 o5 h (tk : Nat), vs₁[i]? = some v0 → vs₂[i]? = some v1 → LCg.NsObj oC m₂ → m₂ a = some v0 → m₂ b = some v1 → Fr h₀ L h m →
      News h₀ L h ((C, oC) :: (D, LCg.lst ys) :: (b1, o1) :: (b2, o2) :: (b3, o3) :: (b4, o4) :: (b5, o5) :: news) →
      wpAny (model prog w) A (eval elt (compEnvC scope cl C env)) (ZEnd h₀ L m s ((C, oC) :: (D, LCg.lst ys) :: (b1, o1) :: (b2, o2) :: (b3, o3) :: (b4, o4) :: (b5, o5) :: news) (R i)) (fun _ _ => False) { s with heap := h, toks := tk })
    (hRR : ∀ D C h tk m' ys, Fr h₀ L h m → News h₀ L h ((D, LCg.lst ys) :: news) → AllLt D news → h.Ns C m' → C ≠ L → C ≠ D → h₀.get? C = none → (∀ p ∈ news, p.1 ≠ C) → ys.length = min vs₁.length vs₂.length → (∀ i y, ys[i]? = some y → R i y) →
      RR (.ref D) C (.ok .next) { s with heap := h, toks := tk }) :
    wpAny (model prog w) A (call (.type "zip") [.ref l1, .ref l2]) (fun xv s₁ => wpAny (model prog w) A (pyIter xv) (fun it s₂ => wpAny (model prog w) A (newList []) (fun acc s₃ =>
      wpAny (model prog w) A (newFunctionEnv scope env.globals cl [] env.qual none .none (some env)) (fun cenv s₄ =>
        codeAny (model prog w) A (.compStart (.ListComp elt [⟨.Tuple [.Name a pa, .Name b pb] kk tp, iter, [], 0⟩] scope pos) 0 it acc { cenv with scope := relabel scope env }) (RR acc cenv.locals) s₄) E s₃) E s₂) E s₁) E s := by
  have hls1 : s.heap.IsList l1 vs₁.toArray := hl1.at fun o e => F.keep l1 o e
  have hls2 : s.heap.IsList l2 vs₂.toArray := hl2.at fun o e => F.keep l2 o e
  obtain ⟨ol1, hol1, _⟩ := id hl1
  obtain ⟨ol2, hol2, _⟩ := id hl2
  have hlt1 : @LT.lt Nat _ l1 h₀.objs.size := Heap.lt_size hol1
  have hlt2 : @LT.lt Nat _ l2 h₀.objs.size := Heap.lt_size hol2
  have hLs : @LT.lt Nat _ L s.heap.objs.size := F.ns.lt
  have hab' : @LE.le Nat _ h₀.objs.size L := F.above
  refine call_zip_2 hls1 hls2 fun h' hz hTI hTO hit1 hit2 hsz' hk => ?_
  have F' : Fr h₀ L h' m := ⟨F.ns.keeps hk, fun b o e => hk b o (F.keep b o e), F.above⟩
  have N' : News h₀ L h' news := fun p hp => ⟨hk _ _ (N p hp).1, (N p hp).2⟩
  have lt0 : ∀ p ∈ news, @LT.lt Nat _ p.1 s.heap.objs.size := fun p hp => Heap.lt_size (N p hp).1
  generalize hn : s.heap.objs.size = k at *
  have hst : IsZip h' (k + 4) (k + 2) (k + 3) .none ∧ IsPair h' (k + 2) (.ref k) (.ref (k + 1)) ∧ (∃ a b, IsPair h' (k + 3) a b) ∧ h'.IsListIter k l1 0 ∧ h'.IsListIter (k + 1) l2 0 ∧ h'.IsList l1 vs₁.toArray ∧ h'.IsList l2 vs₂.toArray :=
    ⟨hz, hTI, ⟨_, _, hTO⟩, hit1, hit2, hls1.at fun o e => hk l1 o e, hls2.at fun o e => hk l2 o e⟩
  have h0k : @LE.le Nat _ h₀.objs.size k := Nat.le_trans hab' (Nat.le_of_lt hLs)
  have hl1k : @LT.lt Nat _ l1 k := Nat.lt_of_lt_of_le hlt1 h0k
  have hl2k : @LT.lt Nat _ l2 k := Nat.lt_of_lt_of_le hlt2 h0k
  have W := WalksT.zip2 (prog := prog) (w := w) hh (k + 4) (k + 2) (k + 3) k (k + 1) l1 l2 (zipApart_new hl1k hl2k) vs₁.toArray vs₂.toArray
  have hmin : min vs₁.toArray.size vs₂.toArray.size = min vs₁.length vs₂.length := by simp
  rw [hmin] at W
  generalize hnn : min vs₁.length vs₂.length = n at *
  refine W.self 0 _ _ _ hst ?_
  refine wpAny_newObj_type (wpAny_newFunctionEnv hcell (by intro y hy; simp at hy) (fun h₁ hns₁ hsb₁ => ?_) hkind)
  dsimp only at hns₁ hsb₁ ⊢
  generalize hH2 : h'.push { cls := .type "list", dict := none, data := .seq ([] : List Value).toArray } = H2 at hns₁ hsb₁ ⊢
  have hC : H2.objs.size = k + 6 := by rw [← hH2, Heap.size_push, hsz']
  have hDs : h'.objs.size = k + 5 := hsz'
  rw [hC] at hns₁ hsb₁ ⊢
  rw [hDs]
  have old : ∀ b o, h'.get? b = some o → h₁.get? b = some o := fun b o e => hsb₁.extBut b o (Nat.ne_of_lt (Nat.lt_succ_of_lt (Nat.lt_of_lt_of_eq (Heap.lt_size e) hDs))) (Heap.get?_push_of_some _ (hH2 ▸ Heap.get?_push_of_some _ e))
  have hacc : h₁.get? (k + 5) = some (LCg.lst []) := hsb₁.extBut _ _ (Nat.ne_of_lt (Nat.lt_succ_self (k + 5))) (Heap.get?_push_of_some _ (hH2 ▸ hDs ▸ Heap.get?_push_size _ rfl))
  have hL5 : @LT.lt Nat _ L (k + 5) := Nat.lt_of_lt_of_le hLs (Nat.le_add_right _ _)
  let own : List Addr := [k + 4, k + 2, k + 3, k, k + 1]
  have hnone : ∀ b, @LE.le Nat _ k b → h₀.get? b = none := fun b hb => Heap.get?_none_of_le (Nat.le_trans h0k hb)
  have hlo : ∀ q, @LT.lt Nat _ q 5 → @LE.le Nat _ k (k + q) ∧ @LT.lt Nat _ (k + q) (k + 5) := fun q hq => ⟨Nat.le_add_right _ _, Nat.add_lt_add_left hq k⟩
  have hle : ∀ b ∈ own, @LE.le Nat _ k b ∧ @LT.lt Nat _ b (k + 5) :=
    List.forall_mem_cons.mpr ⟨hlo 4 (by decide), List.forall_mem_cons.mpr ⟨hlo 2 (by decide), List.forall_mem_cons.mpr ⟨hlo 3 (by decide), List.forall_mem_cons.mpr ⟨hlo 0 (by decide), List.forall_mem_cons.mpr ⟨hlo 1 (by decide), List.forall_mem_nil _⟩⟩⟩⟩⟩
  have hfp : ∀ b ∈ [k + 4, k + 2, k + 3, k, k + 1, l1, l2], @LT.lt Nat _ b (k + 5) := fun b hb => (List.mem_append.mp (show b ∈ own ++ [l1, l2] from hb)).elim (fun h => (hle b h).2)
    (List.forall_mem_cons (p := fun b => @LT.lt Nat _ b (k + 5)).mpr ⟨Nat.lt_of_lt_of_le hl1k (Nat.le_add_right _ _), List.forall_mem_cons.mpr ⟨Nat.lt_of_lt_of_le hl2k (Nat.le_add_right _ _), List.forall_mem_nil _⟩⟩ b)
  have hwr : ∀ b ∈ [k + 4, k + 3, k, k + 1], b ∈ own := List.forall_mem_cons.mpr ⟨.head _, List.forall_mem_cons.mpr ⟨.tail _ (.tail _ (.head _)), List.forall_mem_cons.mpr ⟨.tail _ (.tail _ (.tail _ (.head _))), List.forall_mem_cons.mpr ⟨.tail _ (.tail _ (.tail _ (.tail _ (.head _)))), List.forall_mem_nil _⟩⟩⟩⟩
  have loop : ∀ s₃ : Shared, (∃ tk, s₃ = { s with heap := h₁, toks := tk }) →
      codeAny (model prog w) A (.compLoop (.ListComp elt [⟨.Tuple [.Name a pa, .Name b pb] kk tp, iter, [], 0⟩] scope pos) 0 (.ref (k + 4)) (.ref (k + 5)) (compEnvC scope cl (k + 6) env)) (RR (.ref (k + 5)) (k + 6)) s₃ := by
    rintro s₃ ⟨tk0, rfl⟩
    refine kcp_loop
      (InvZ h₀ L m s k l1 l2 vs₁ vs₂ news R n) ?_ (n + 1)
      ⟨h₁, tk0, 0, [], _, rfl, Nat.zero_le _, rfl, rfl, fun j y e => by simp at e, W.frame _ _ _ hst (fun b _ o e => old b o e), F'.keeps old, hns₁, fun p hp => ?_⟩
    · rintro q s' ⟨H, tk, i, ys, m', rfl, hi, rfl, hyl, hyR, hst', F₁, hn₁, N₁⟩
      have next : ∀ h₁ : Heap, (∀ b o, b ∉ [k + 4, k + 3, k, k + 1] → H.get? b = some o → h₁.get? b = some o) → Fr h₀ L h₁ m ∧ h₁.Ns (k + 6) m' ∧ News h₀ L h₁ ((k + 5, LCg.lst ys) :: news) := fun h₁ hk₁ => by
        have nm : ∀ b, @LT.lt Nat _ b k ∨ @LE.le Nat _ (k + 5) b → b ∉ [k + 4, k + 3, k, k + 1] := fun b hb hm => hb.elim (fun h => Nat.lt_irrefl _ (Nat.lt_of_lt_of_le h (hle b (hwr b hm)).1)) (fun h => Nat.lt_irrefl _ (Nat.lt_of_lt_of_le (hle b (hwr b hm)).2 h))
        refine ⟨⟨F₁.ns.at' fun o e => hk₁ _ o (nm _ (.inl hLs)) e, fun b o e => hk₁ b o (nm _ (.inl ?_)) (F₁.keep b o e), F₁.above⟩, hn₁.at' fun o e => hk₁ _ o (nm _ (.inr (Nat.le_succ (k + 5)))) e, fun p hp => ⟨hk₁ _ _ (nm _ ?_) (N₁ p hp).1, (N₁ p hp).2⟩⟩
        · exact Nat.lt_of_lt_of_le (Heap.lt_size e) h0k
        · rcases List.mem_cons.mp hp with rfl | hp
          · exact .inr (Nat.le_refl _)
          · exact .inl (lt0 p hp)
      by_cases hlt : i < n
      · refine W.item i _ _ _ hlt hst' fun T vals h₂ tk₂ hPt _ hT hMid hk₂ => ?_
        obtain ⟨v0, v1, hv0, hv1, rfl⟩ := hPt
        obtain ⟨F₂, hn₂, N₂⟩ := next h₂ hk₂
        refine W.go _ kk tp i T _ _ _ hMid fun h₃ hst₃ hk₃ => ?_
        have hT₃ : h₃.IsTuple T #[v0, v1] := hT.at fun o e => hk₃ T o (W.apart i T h₂ hMid) e
        obtain ⟨F₃, hn₃, N₃⟩ := next h₃ fun b o hb e => hk₃ b o hb (hk₂ b o hb e)
        refine kcp_assign (m := m') hh hT₃ (lookup_relabel_local hxa) (lookup_relabel_local hxb) (by simp [compEnvC, relabel, hkind]) hn₃ fun h₄ tk₄ hn₄ hk₄ => ?_
        replace hn₄ : h₄.Ns (k + 6) _ := hn₄
        replace hk₄ : ∀ (c : Addr) o, c ≠ k + 6 → h₃.get? c = some o → h₄.get? c = some o := hk₄
        have hL6 : L ≠ k + 6 := Nat.ne_of_lt (Nat.lt_of_lt_of_le hLs (Nat.le_add_right _ _))
        have hC0 : h₀.get? (k + 6) = none := hnone _ (Nat.le_add_right _ _)
        have F₄ : Fr h₀ L h₄ m := ⟨F₃.ns.at' fun o e => hk₄ _ o hL6 e, fun b o e => hk₄ b o (fun q => by rw [q, hC0] at e; cases e) (F₃.keep b o e), F₃.above⟩
        have N₄ : News h₀ L h₄ ((k + 5, LCg.lst ys) :: news) := fun p hp => ⟨hk₄ _ _ (by
          rcases List.mem_cons.mp hp with rfl | hp
          · exact Nat.ne_of_lt (Nat.lt_succ_self _)
          · exact Nat.ne_of_lt (Nat.lt_of_lt_of_le (lt0 p hp) (Nat.le_add_right _ _))) (N₃ p hp).1, (N₃ p hp).2⟩
        have hst₄ := W.frame _ _ _ hst₃ fun b hb o e => hk₄ b o (Nat.ne_of_lt (Nat.lt_succ_of_lt (hfp b hb))) e
        obtain ⟨q1, q2, ⟨za, zb, q3⟩, ⟨p4, q4, _⟩, ⟨p5, q5, _⟩, _, _⟩ := id hst₄
        obtain ⟨oC, heC, hoC⟩ := LCg.ns_obj hn₄
        have mk : ∀ (b : Addr) (o : Obj), h₄.get? b = some o → @LE.le Nat _ k b → h₄.get? b = some o ∧ b ≠ L ∧ h₀.get? b = none := fun b o e hb => ⟨e, Nat.ne_of_gt (Nat.lt_of_lt_of_le hLs hb), hnone b hb⟩
        have NN : News h₀ L h₄ ((k + 6, oC) :: (k + 5, LCg.lst ys) :: (k + 4, _) :: (k + 2, _) :: (k + 3, _) :: (k, _) :: (k + 1, _) :: news) :=
          List.forall_mem_cons.mpr ⟨mk _ _ heC (Nat.le_add_right _ _), List.forall_mem_cons.mpr ⟨N₄ _ (.head _), List.forall_mem_cons.mpr ⟨mk _ _ q1 (Nat.le_add_right _ _), List.forall_mem_cons.mpr ⟨mk _ _ q2 (Nat.le_add_right _ _),
            List.forall_mem_cons.mpr ⟨mk _ _ q3 (Nat.le_add_right _ _), List.forall_mem_cons.mpr ⟨mk _ _ q4 (Nat.le_refl _), List.forall_mem_cons.mpr ⟨mk _ _ q5 (Nat.le_add_right _ _), fun p hp => N₄ p (.tail _ hp)⟩⟩⟩⟩⟩⟩⟩
        refine wpAny_mono (E := fun _ _ => False) (turn i v0 v1 (k + 6) oC (k + 5) _ ys _ _ _ _ _ _ _ _ _ _ h₄ _ (by simpa using hv0) (by simpa using hv1) hoC (by simp [hab]) (by simp) F₄ NN) (fun y s₄ h₅ => ?_) fun _ _ e => e.elim
        obtain ⟨h₅, tk₅, rfl, F₅, N₅, hR⟩ := h₅
        have st5 : ∀ p ∈ (k + 4, _) :: (k + 2, _) :: (k + 3, _) :: (k, _) :: (k + 1, _) :: news, h₅.get? p.1 = some p.2 := fun p hp => (N₅ p (.tail _ (.tail _ hp))).1
        have hst₅ := W.frame _ _ h₅ hst₄ (List.forall_mem_cons.mpr ⟨fun o e => (st5 _ (.head _)).trans (q1.symm.trans e), List.forall_mem_cons.mpr ⟨fun o e => (st5 _ (.tail _ (.head _))).trans (q2.symm.trans e),
          List.forall_mem_cons.mpr ⟨fun o e => (st5 _ (.tail _ (.tail _ (.head _)))).trans (q3.symm.trans e), List.forall_mem_cons.mpr ⟨fun o e => (st5 _ (.tail _ (.tail _ (.tail _ (.head _))))).trans (q4.symm.trans e),
          List.forall_mem_cons.mpr ⟨fun o e => (st5 _ (.tail _ (.tail _ (.tail _ (.tail _ (.head _)))))).trans (q5.symm.trans e), List.forall_mem_cons.mpr ⟨fun o e => (F₅.keep _ _ hol1).trans ((F₄.keep _ _ hol1).symm.trans e),
          List.forall_mem_cons.mpr ⟨fun o e => (F₅.keep _ _ hol2).trans ((F₄.keep _ _ hol2).symm.trans e), List.forall_mem_nil _⟩⟩⟩⟩⟩⟩⟩)
        have zD := (N₅ (k + 5, LCg.lst ys) (.tail _ (.head _))).1
        have zC := (N₅ (k + 6, oC) (.head _)).1
        refine append_at (hsz := by show ys.toArray.size ≤ sizeLine; rw [List.size_toArray, hyl]; exact Nat.le_trans hi hsz) zD fun h₆ hs₆ hD₆ => ?_
        have hne5 : ∀ b, @LT.lt Nat _ b (k + 5) → b ≠ k + 5 := fun b hb => Nat.ne_of_lt hb
        refine ⟨n + 1 - (i + 1), Nat.sub_lt_sub_left (Nat.lt_succ_of_lt hlt) (Nat.lt_succ_self i), h₆, tk₅, i + 1, ys ++ [y], _, rfl, hlt, rfl, by rw [List.length_append, List.length_singleton, hyl], ?_, W.frame _ _ _ hst₅ fun b hb o e => hs₆.extBut b o (hne5 b (hfp b hb)) e,
          F₅.change hs₆ (Nat.ne_of_gt hL5) (hnone _ (Nat.le_add_right _ _)), (hoC.ns zC).sameBut hs₆ (Nat.ne_of_gt (Nat.lt_succ_self (k + 5))), fun p hp => ?_⟩
        · intro j z hz
          by_cases hj : j < ys.length
          · rw [List.getElem?_append_left hj] at hz; exact hyR j z hz
          · rw [List.getElem?_append_right (Nat.not_lt.mp hj)] at hz
            have : j - ys.length = 0 := by
              cases hq : j - ys.length with
              | zero => rfl
              | succ q => rw [hq] at hz; simp at hz
            rw [this] at hz
            have e1 : j = i := Nat.le_antisymm (hyl ▸ Nat.le_of_sub_eq_zero this) (hyl ▸ Nat.not_lt.mp hj)
            rw [e1, ← Option.some.inj hz]; exact hR
        · rcases List.mem_cons.mp hp with rfl | hp
          · exact ⟨hD₆.trans (congrArg some (LCg.lst_snoc ys y)), Nat.ne_of_gt hL5, hnone _ (Nat.le_add_right _ _)⟩
          · exact ⟨hs₆.extBut _ _ (hne5 _ (Nat.lt_of_lt_of_le (lt0 p hp) (Nat.le_add_right _ _))) (N₅ p (.tail _ (.tail _ (.tail _ (.tail _ (.tail _ (.tail _ (.tail _ hp)))))))).1, (N₁ p (.tail _ hp)).2⟩
      · obtain rfl : i = n := Nat.le_antisymm hi (Nat.not_lt.mp hlt)
        refine W.done _ _ _ hst' fun h₂ tk₂ hk₂ => ?_
        obtain ⟨F₂, hn₂, N₂⟩ := next h₂ hk₂
        exact hRR _ _ h₂ tk₂ _ ys F₂ N₂ (allLt_of fun p hp => Nat.lt_of_lt_of_le (lt0 p hp) (Nat.le_add_right _ _)) hn₂ (Nat.ne_of_gt (Nat.lt_succ_of_lt hL5)) (Nat.ne_of_gt (Nat.lt_succ_self (k + 5))) (hnone _ (Nat.le_add_right _ _))
          (fun p hp => Nat.ne_of_lt (Nat.lt_of_lt_of_le (lt0 p hp) (Nat.le_add_right _ _))) hyl hyR
    · rcases List.mem_cons.mp hp with rfl | hp
      · exact ⟨hacc, Nat.ne_of_gt hL5, hnone _ (Nat.le_add_right _ _)⟩
      · exact ⟨old _ _ (N' p hp).1, (N p hp).2⟩
  exact codeAny_compStart_list (loop _ ⟨_, rfl⟩) (W.self 0 _ _ _ (W.frame _ _ _ hst fun b _ o e => old b o e) (loop _ ⟨_, rfl⟩))
theorem ListComp_open {M : Model} {elt target iter : PySem.Expr} {scope : Scope} {cl : List (Str × Addr)} {pos : Pos} {Q : Value → Shared → Prop} (hclos : closureFor scope env = pure cl) (hkind : scope.kind = .function)
    (hnames : ∀ x ∈ scope.names, x.2 = .local → scope.names.lookup x.1 = some .local)
    (h : wpAny M A (eval iter env) (fun x s₁ => wpAny M A (pyIter x) (fun it s₂ => wpAny M A (newList []) (fun acc s₃ => wpAny M A (newFunctionEnv scope env.globals cl [] env.qual none .none (some env)) (fun cenv s₄ =>
      codeAny M A (.compStart (.ListComp elt [⟨target, iter, [], 0⟩] scope pos) 0 it acc { cenv with scope := relabel scope env }) (compPost M A E none Q acc cenv.locals) s₄) E s₃) E s₂) E s₁) E s)
    (hs : ∀ x, foldedSetIterable iter env x = pure x) : wpAny M A (eval (.ListComp elt [⟨target, iter, [], 0⟩] scope pos) env) Q E s := by
  rw [eval_ListComp]; exact wpAny_comprehension_free (use := none) rfl hs hclos hkind hnames h
end ZipComp
theorem ints_of_at : ∀ (l : List Int) (ys : List Value), ys.length = l.length → (∀ i y, ys[i]? = some y → ∃ t : Tok, y = Value.int (l.getD i 0) t) → IntsAre ys l
  | [], [], _, _ => .nil
  | n :: l, y :: ys, hl, h => by
    obtain ⟨t, e⟩ := h 0 y rfl
    have e' : y = Value.int n t := e
    rw [e']
    exact .cons _ _ (ints_of_at l ys (by simpa using hl) fun i z hz => h (i + 1) z (by simpa using hz))

section Dict
variable {prog : Program} {w : World} {A : Around} {E : Value → Shared → Prop} {s : Shared} {h₀ : Heap} {L d : Addr} {m : Str → Option Value} {news : List (Addr × Obj)} {u : Obj → List (Addr × Obj)} {o : Obj} {kvs : List (Int × Value)} {k : Int} {t : Tok} {v : Value}
theorem valueAt_cons (a : Int) (b : Value) (r : List (Int × Value)) (x : Int) : valueAt ((a, b) :: r) x = if a = x then some b else valueAt r x := by
  unfold valueAt
  by_cases h : a = x <;> simp [h]
theorem valueAt_put (k x : Int) (v : Value) : ∀ l : List (Int × Value), valueAt (l.map fun kv => if kv.1 = k then (kv.1, v) else kv) x = if x = k ∧ l.any (fun kv => kv.1 = k) = true then some v else valueAt l x
  | [] => by simp [valueAt]
  | (a, b) :: r => by
    rw [List.map_cons, valueAt_cons, List.any_cons]
    by_cases ha : a = k
    · subst ha
      rw [if_pos rfl, valueAt_cons, valueAt_put a x v r]
      by_cases hx : a = x
      · subst hx; simp
      · have hx' : ¬ x = a := fun e => hx e.symm
        rw [if_neg hx, if_neg hx, if_neg (fun q => hx' q.1), if_neg (fun q => hx' q.1)]
    · rw [if_neg ha, valueAt_cons, valueAt_put k x v r]
      by_cases hx : a = x
      · subst hx
        rw [if_pos rfl, if_pos rfl, if_neg (fun q => ha q.1)]
      · rw [if_neg hx, if_neg hx, decide_eq_false ha, Bool.false_or]
theorem valueAt_snoc (k x : Int) (v : Value) : ∀ l : List (Int × Value), (∀ p ∈ l, ¬ p.1 = k) → valueAt (l ++ [(k, v)]) x = if x = k then some v else valueAt l x
  | [], _ => by 
    rw [List.nil_append, valueAt_cons]
    by_cases h : x = k
    · subst h; rw [if_pos rfl]
    · rw [if_neg h, if_neg (fun e => h e.symm)]
  | (a, b) :: r, h => by
    rw [List.cons_append, valueAt_cons, valueAt_cons, valueAt_snoc k x v r fun p hp => h p (.tail _ hp)]
    have ha : ¬ a = k := h (a, b) (.head _)
    by_cases hx : a = x
    · subst hx; rw [if_pos rfl, if_pos rfl, if_neg ha]
    · rw [if_neg hx, if_neg hx]
theorem valueAt_stored (kvs : List (Int × Value)) (k x : Int) (v : Value) : valueAt (stored kvs k v) x = if x = k then some v else valueAt kvs x := by
  unfold stored
  by_cases h : kvs.any (fun kv => kv.1 = k) = true
  · rw [if_pos h, valueAt_put]
    simp [h]
  · rw [if_neg h]
    exact valueAt_snoc k x v kvs fun p hp e => h (List.any_eq_true.mpr ⟨p, hp, by simpa using e⟩)
theorem my_set {Q : Unit → Shared → Prop} (F : Fr h₀ L s.heap m) (N : News h₀ L s.heap news) (U : UpdF d o news u) (hd : o.IsDictOf (intKind prog w) kvs) (hz : kvs.length ≤ 1000)
    (h : ∀ h' o', Fr h₀ L h' m → News h₀ L h' (u o') → o'.IsDictOf (intKind prog w) (stored kvs k v) → Q () { s with heap := h', toks := s.toks + 1 }) :
    wpAny (model prog w) A (setItem (.ref d) (.int k t) v) Q E s := by
  obtain ⟨own, rest, rfl, hg, h1, h2⟩ := U.split
  have hmem := N (d, o) (List.mem_append_right _ (.head _))
  have hD : s.heap.DictOf (intKind prog w) d kvs := Heap.dictOf_iff.mpr ⟨o, hmem.1, hd⟩
  refine wpAny_setItem_pairs (intKind_is _ _ _ _) hD (fun h' hD' hs => ?_) (by rw [sizeLine_eq]; omega)
  obtain ⟨o', ho', hd'⟩ := Heap.dictOf_iff.mp hD'
  exact h h' o' ⟨F.ns.sameBut hs (Ne.symm hmem.2.1), fun b ob e => (hs.2 b (fun q => by rw [q, hmem.2.2] at e; cases e)).trans (F.keep b ob e), F.above⟩ (hg o' ▸ N.setAt h1 h2 hs ho') hd'
theorem my_get {value slice : PySem.Expr} {Q : Value → Shared → Prop} (N : News h₀ L s.heap news) (hm : (d, o) ∈ news) (hd : o.IsDictOf (intKind prog w) kvs) (hv : valueAt kvs k = some v) (h : Q v { s with toks := s.toks + 1 })
    (hs : subscripted slice false (.ref d) (.int k t) = operate [.ref d, .int k t] (getItem (.ref d) (.int k t))) :
    wpAny (model prog w) A (subscriptTail value slice (.ref d) (.int k t)) Q E s := by
  have hD : s.heap.DictOf (intKind prog w) d kvs := Heap.dictOf_iff.mpr ⟨o, (N _ hm).1, hd⟩
  exact tail_any hD.mapOf.typeIs slot_dict_getitem.lookup (wpAny_getItem_of (intKind_is _ _ _ _) hD.mapOf hv h) hs
theorem item_bools {D : Addr} {bs : List Bool} {b : Bool} {value slice : PySem.Expr} {Q : Value → Shared → Prop} (F : Fr h₀ L s.heap m) (hl : h₀.IsList D (bs.map Value.bool).toArray) (h0 : 0 ≤ k) (hk : bs[k.toNat]? = some b) (hb : bs.length ≤ 1000) (h : Q (.bool b) s)
    (hs : subscripted slice false (.ref D) (.int k t) = operate [.ref D, .int k t] (getItem (.ref D) (.int k t))) :
    wpAny (model prog w) A (subscriptTail value slice (.ref D) (.int k t)) Q E s := by
  have hL : s.heap.IsList D (bs.map Value.bool).toArray := hl.at fun o e => F.keep D o e
  have hlt : k.toNat < bs.length := (List.getElem?_eq_some_iff.mp hk).1
  exact tail_any hL.typeIs slot_list_getitem.lookup (wpAny_getItem_list hL h0 (by omega) (by simp [hk]) h) hs
end Dict
section IterR
variable {prog : Program} {w : World} {A : Around} {E : Value → Shared → Prop} {s : Shared} {env : Env} {h₀ : Heap} {x : Str} {body : List Stmt} {Q : Flow → Shared → Prop}
theorem iterT_range {σ : Type} {L r : Addr} {b : Int} {t u v : Tok} {n : Nat} {m₀ : Str → Option Value} {news : List (Addr × Obj)} {px : Pos}
    (frm : σ → Str → Option Value) (led : σ → List (Addr × Obj)) (inv : Nat → Nat → σ → Prop) (a₀ : σ)
    (hL : env.locals = L) (hh : A.handled = none) (hx : env.kindOf x = some .local) (hp : (env.scope.kind == .class || (env.scope.kind == .module && env.locals != env.globals)) = false)
    (hmono : ∀ tk tk' i a, tk ≤ tk' → inv tk i a → inv tk' i a)
    (hr : IsRange s.heap r 0 b 1 t u v) (hn : b = (n : Int)) (hsz : n ≤ 100000)
    (F : Fr h₀ L s.heap m₀) (N : News h₀ L s.heap news)
    (h0 : inv s.toks 0 a₀) (hm0 : ∀ z, z ≠ x → m₀ z = frm a₀ z) (hl0 : news = led a₀)
    (turn : ∀ (i : Nat) tv I io h (tk : Nat), s.toks ≤ tk → i < n → ∀ a, inv tk i a → AllNe I (led a) → @LE.le Nat _ s.heap.objs.size I → Fr h₀ L h (fun y => if y = x then some (Value.int (i : Int) tv) else frm a y) → News h₀ L h ((I, io) :: led a) →
      wpAny (model prog w) A (execs body env) (TurnT h₀ L x I io (fun tk => inv tk (i + 1)) frm led s Q) (fun _ _ => False) { s with heap := h, toks := tk })
    (done : ∀ a u h tk, s.toks ≤ tk → inv tk n a → Fr h₀ L h (fun z => if z = x then u else frm a z) → News h₀ L h (led a) → Q .next { s with heap := h, toks := tk }) :
    wpAny (model prog w) A (pyIter (.ref r)) (fun it s₂ => LoopRun prog w A env x px body Q it s₂) E s := by
  subst hL hn
  have hrs : Builtin.Range.rangeSize 0 (n : Int) 1 = (n : Int) := rs_nat n
  refine wpAny_pyIter_range hr (small_one (by decide) (by decide) (by omega) (by omega)) ?_
  refine loopT (ax := []) frm led inv a₀ ((LCg.range_walks (prog := prog) (w := w) (I := s.heap.objs.size) hh 0 n).toS) (fun i h hs => ⟨_, hs⟩) hmono hx hp (Nat.ne_of_lt F.ns.lt) (by simp) (next_is_new F)
      (fun b hb => by cases hb) (by show IsRangeIter _ _ _ _ _; rw [hrs]; simpa using Heap.get?_push_size _ rfl) (F.push _) (fun p hp => ⟨Heap.get?_push_of_some _ (N p hp).1, (N p hp).2⟩)
      (fun p hp => Nat.ne_of_lt (Heap.lt_size (N p hp).1)) h0 hm0 hl0 (fun i v a io h tk htk hin hP ha hne' F' N' => ?_) (fun a u h tk htk ha F' N' => ?_)
  · obtain ⟨tv, rfl⟩ := hP
    rw [Int.zero_add] at F'
    exact turn i tv _ io h tk htk hin a ha (allNe_of hne') (Nat.le_refl _) F' N'
  · exact done a u h tk htk ha F' N'
end IterR

theorem fill_one {w : World} : hd.heap_39 w.params = hd.heap_39 w.params ∧ PySem.Challenge.rw_pd0130_01.row.prog = PySem.Challenge.rw_pd0130_01.row.prog := by
  w_top off
  k_fill
  k_with_none
  exact ⟨rfl, rfl⟩
local macro_rules | `(tactic| walk_at $s:str) => `(tactic| k_extra $s)
local macro_rules | `(tactic| size_fits) => `(tactic| first | exact Nat.le_trans (Nat.add_le_add (by with_reducible assumption) (by with_reducible assumption)) (Nat.le_of_ble_eq_true rfl) | k_dflt (exact Nat.le_trans (by assumption) (Nat.le_of_ble_eq_true rfl)))
local macro_rules | `(tactic| k_ne) => `(tactic| (refine neN ?_; (try dsimp only); walk_at "my ne"))
theorem kw1 : True := by
  k_with "my lt" => ((first | with_reducible assumption | with_reducible exact Nat.zero_lt_of_lt (by with_reducible assumption) | with_reducible exact Nat.succ_pos _ | with_reducible exact lth 0 (by with_reducible assumption) | with_reducible exact lth 1 (by with_reducible assumption) | with_reducible exact lth 2 (by with_reducible assumption) | with_reducible exact lth 3 (by with_reducible assumption) | with_reducible exact lth 4 (by with_reducible assumption) | with_reducible exact lth 5 (by with_reducible assumption) | with_reducible exact lth 6 (by with_reducible assumption) | with_reducible exact lth 7 (by with_reducible assumption) | with_reducible exact lth 8 (by with_reducible assumption) | with_reducible exact lth 9 (by with_reducible assumption) | with_reducible exact lth 10 (by with_reducible assumption) | with_reducible exact lth 11 (by with_reducible assumption) | with_reducible exact lth 12 (by with_reducible assumption) | with_reducible exact lta 1 (by with_reducible assumption) | with_reducible exact lta 2 (by with_reducible assumption) | with_reducible exact lta 3 (by with_reducible assumption) | with_reducible exact lta 4 (by with_reducible assumption) | with_reducible exact lta 5 (by with_reducible assumption) | with_reducible exact lta 6 (by with_reducible assumption) | with_reducible exact lta 7 (by with_reducible assumption) | with_reducible exact lta 8 (by with_reducible assumption) | with_reducible exact lta 9 (by with_reducible assumption) | with_reducible exact lta 10 (by with_reducible assumption) | with_reducible exact lta 11 (by with_reducible assumption) | with_reducible exact lta 12 (by with_reducible assumption) | with_reducible exact lta 13 (by with_reducible assumption) | with_reducible exact lta 14 (by with_reducible assumption) | with_reducible exact lta 15 (by with_reducible assumption) | with_reducible exact lta 16 (by with_reducible assumption) | with_reducible exact lta 17 (by with_reducible assumption) | with_reducible exact lta 18 (by with_reducible assumption) | with_reducible exact lta 19 (by with_reducible assumption) | with_reducible exact lta 20 (by with_reducible assumption) | with_reducible exact lta 21 (by with_reducible assumption) | with_reducible exact lts 0 | with_reducible exact lts 1 | with_reducible exact lts 2 | with_reducible exact lts 3 | with_reducible exact lts 4 | with_reducible exact lts 5 | with_reducible exact lts 6 | with_reducible exact lts 7 | with_reducible exact lts 8 | with_reducible exact lts 9 | with_reducible exact lts 10 | with_reducible exact lts 11 | with_reducible exact lts 12 | with_reducible exact ltp 0 (by with_reducible assumption) | with_reducible exact ltp 1 (by with_reducible assumption) | with_reducible exact ltp 2 (by with_reducible assumption) | with_reducible exact ltp 3 (by with_reducible assumption) | with_reducible exact ltp 4 (by with_reducible assumption) | with_reducible exact ltp 5 (by with_reducible assumption) | with_reducible exact ltp 6 (by with_reducible assumption) | with_reducible exact ltp 7 (by with_reducible assumption) | with_reducible exact ltp 8 (by with_reducible assumption) | with_reducible exact ltp 9 (by with_reducible assumption) | with_reducible exact ltp 10 (by with_reducible assumption) | with_reducible exact ltp 11 (by with_reducible assumption) | with_reducible exact ltp 12 (by with_reducible assumption) | ((first | with_reducible refine ltk 22 ?_ | with_reducible refine ltk 21 ?_ | with_reducible refine ltk 20 ?_ | with_reducible refine ltk 19 ?_ | with_reducible refine ltk 18 ?_ | with_reducible refine ltk 17 ?_ | with_reducible refine ltk 16 ?_ | with_reducible refine ltk 15 ?_ | with_reducible refine ltk 14 ?_ | with_reducible refine ltk 13 ?_ | with_reducible refine ltk 12 ?_ | with_reducible refine ltk 11 ?_ | with_reducible refine ltk 10 ?_ | with_reducible refine ltk 9 ?_ | with_reducible refine ltk 8 ?_ | with_reducible refine ltk 7 ?_ | with_reducible refine ltk 6 ?_ | with_reducible refine ltk 5 ?_ | with_reducible refine ltk 4 ?_ | with_reducible refine ltk 3 ?_ | with_reducible refine ltk 2 ?_ | with_reducible refine ltk 1 ?_ | skip); first | with_reducible assumption | ((first | with_reducible refine ltc 22 (by with_reducible assumption) ?_ | with_reducible refine ltc 21 (by with_reducible assumption) ?_ | with_reducible refine ltc 20 (by with_reducible assumption) ?_ | with_reducible refine ltc 19 (by with_reducible assumption) ?_ | with_reducible refine ltc 18 (by with_reducible assumption) ?_ | with_reducible refine ltc 17 (by with_reducible assumption) ?_ | with_reducible refine ltc 16 (by with_reducible assumption) ?_ | with_reducible refine ltc 15 (by with_reducible assumption) ?_ | with_reducible refine ltc 14 (by with_reducible assumption) ?_ | with_reducible refine ltc 13 (by with_reducible assumption) ?_ | with_reducible refine ltc 12 (by with_reducible assumption) ?_ | with_reducible refine ltc 11 (by with_reducible assumption) ?_ | with_reducible refine ltc 10 (by with_reducible assumption) ?_ | with_reducible refine ltc 9 (by with_reducible assumption) ?_ | with_reducible refine ltc 8 (by with_reducible assumption) ?_ | with_reducible refine ltc 7 (by with_reducible assumption) ?_ | with_reducible refine ltc 6 (by with_reducible assumption) ?_ | with_reducible refine ltc 5 (by with_reducible assumption) ?_ | with_reducible refine ltc 4 (by with_reducible assumption) ?_ | with_reducible refine ltc 3 (by with_reducible assumption) ?_ | with_reducible refine ltc 2 (by with_reducible assumption) ?_ | with_reducible refine ltc 1 (by with_reducible assumption) ?_ | with_reducible refine lt0 (by with_reducible assumption) ?_); walk_at "my lt"))))
  trivial
theorem kw2 : True := by
  k_with "my le" => ((first | with_reducible assumption | with_reducible exact Nat.le_refl _ | with_reducible exact Nat.le_of_lt (by with_reducible assumption) | with_reducible exact leN1 (by with_reducible assumption) rfl | with_reducible exact leN2 (by with_reducible assumption) (by with_reducible assumption) rfl | with_reducible exact leh 1 (by with_reducible assumption) | with_reducible exact leh 2 (by with_reducible assumption) | with_reducible exact leh 3 (by with_reducible assumption) | with_reducible exact leh 4 (by with_reducible assumption) | with_reducible exact leh 5 (by with_reducible assumption) | with_reducible exact leh 6 (by with_reducible assumption) | with_reducible exact leh 7 (by with_reducible assumption) | with_reducible exact leh 8 (by with_reducible assumption) | with_reducible exact leh 9 (by with_reducible assumption) | with_reducible exact leh 10 (by with_reducible assumption) | with_reducible exact leh 11 (by with_reducible assumption) | with_reducible exact leh 12 (by with_reducible assumption) | with_reducible exact lea 1 (by with_reducible assumption) | with_reducible exact lea 2 (by with_reducible assumption) | with_reducible exact lea 3 (by with_reducible assumption) | with_reducible exact lea 4 (by with_reducible assumption) | with_reducible exact lea 5 (by with_reducible assumption) | with_reducible exact lea 6 (by with_reducible assumption) | with_reducible exact lea 7 (by with_reducible assumption) | with_reducible exact lea 8 (by with_reducible assumption) | with_reducible exact lea 9 (by with_reducible assumption) | with_reducible exact lea 10 (by with_reducible assumption) | with_reducible exact lea 11 (by with_reducible assumption) | with_reducible exact lea 12 (by with_reducible assumption) | with_reducible exact lea 13 (by with_reducible assumption) | with_reducible exact lea 14 (by with_reducible assumption) | with_reducible exact lea 15 (by with_reducible assumption) | with_reducible exact lea 16 (by with_reducible assumption) | with_reducible exact lea 17 (by with_reducible assumption) | with_reducible exact lea 18 (by with_reducible assumption) | with_reducible exact lea 19 (by with_reducible assumption) | with_reducible exact lea 20 (by with_reducible assumption) | with_reducible exact lea 21 (by with_reducible assumption) | with_reducible exact les 1 | with_reducible exact les 2 | with_reducible exact les 3 | with_reducible exact les 4 | with_reducible exact les 5 | with_reducible exact les 6 | with_reducible exact les 7 | with_reducible exact les 8 | with_reducible exact les 9 | with_reducible exact les 10 | with_reducible exact les 11 | with_reducible exact les 12 | ((first | with_reducible refine lek 22 ?_ | with_reducible refine lek 21 ?_ | with_reducible refine lek 20 ?_ | with_reducible refine lek 19 ?_ | with_reducible refine lek 18 ?_ | with_reducible refine lek 17 ?_ | with_reducible refine lek 16 ?_ | with_reducible refine lek 15 ?_ | with_reducible refine lek 14 ?_ | with_reducible refine lek 13 ?_ | with_reducible refine lek 12 ?_ | with_reducible refine lek 11 ?_ | with_reducible refine lek 10 ?_ | with_reducible refine lek 9 ?_ | with_reducible refine lek 8 ?_ | with_reducible refine lek 7 ?_ | with_reducible refine lek 6 ?_ | with_reducible refine lek 5 ?_ | with_reducible refine lek 4 ?_ | with_reducible refine lek 3 ?_ | with_reducible refine lek 2 ?_ | with_reducible refine lek 1 ?_ | skip); first | with_reducible assumption | ((first | with_reducible refine lec 22 (by with_reducible assumption) ?_ | with_reducible refine lec 21 (by with_reducible assumption) ?_ | with_reducible refine lec 20 (by with_reducible assumption) ?_ | with_reducible refine lec 19 (by with_reducible assumption) ?_ | with_reducible refine lec 18 (by with_reducible assumption) ?_ | with_reducible refine lec 17 (by with_reducible assumption) ?_ | with_reducible refine lec 16 (by with_reducible assumption) ?_ | with_reducible refine lec 15 (by with_reducible assumption) ?_ | with_reducible refine lec 14 (by with_reducible assumption) ?_ | with_reducible refine lec 13 (by with_reducible assumption) ?_ | with_reducible refine lec 12 (by with_reducible assumption) ?_ | with_reducible refine lec 11 (by with_reducible assumption) ?_ | with_reducible refine lec 10 (by with_reducible assumption) ?_ | with_reducible refine lec 9 (by with_reducible assumption) ?_ | with_reducible refine lec 8 (by with_reducible assumption) ?_ | with_reducible refine lec 7 (by with_reducible assumption) ?_ | with_reducible refine lec 6 (by with_reducible assumption) ?_ | with_reducible refine lec 5 (by with_reducible assumption) ?_ | with_reducible refine lec 4 (by with_reducible assumption) ?_ | with_reducible refine lec 3 (by with_reducible assumption) ?_ | with_reducible refine lec 2 (by with_reducible assumption) ?_ | with_reducible refine lec 1 (by with_reducible assumption) ?_ | with_reducible refine le0 (by with_reducible assumption) ?_); walk_at "my le"))))
  trivial
theorem kw3 : True := by
  k_with "my ne" => ((first | with_reducible assumption | with_reducible exact Ne.symm (by with_reducible assumption) | with_reducible exact Nat.ne_of_lt (by with_reducible assumption) | with_reducible exact Nat.ne_of_gt (by with_reducible assumption) | with_reducible exact And.right (by with_reducible assumption) | with_reducible exact Ne.symm (And.right (by with_reducible assumption)) | with_reducible exact Nat.ne_of_lt (And.right (by with_reducible assumption)) | with_reducible exact Nat.ne_of_gt (And.right (by with_reducible assumption)) | with_reducible exact And.right (And.right (by with_reducible assumption)) | with_reducible exact Ne.symm (And.right (And.right (by with_reducible assumption))) | with_reducible exact Nat.ne_of_lt (And.right (And.right (by with_reducible assumption))) | with_reducible exact Nat.ne_of_gt (And.right (And.right (by with_reducible assumption))) | with_reducible exact And.right (And.right (And.right (by with_reducible assumption))) | with_reducible exact Ne.symm (And.right (And.right (And.right (by with_reducible assumption)))) | with_reducible exact Nat.ne_of_lt (And.right (And.right (And.right (by with_reducible assumption)))) | with_reducible exact Nat.ne_of_gt (And.right (And.right (And.right (by with_reducible assumption)))) | with_reducible exact And.right (And.right (And.right (And.right (by with_reducible assumption)))) | with_reducible exact Ne.symm (And.right (And.right (And.right (And.right (by with_reducible assumption))))) | with_reducible exact Nat.ne_of_lt (And.right (And.right (And.right (And.right (by with_reducible assumption))))) | with_reducible exact Nat.ne_of_gt (And.right (And.right (And.right (And.right (by with_reducible assumption))))) | with_reducible exact And.right (And.right (And.right (And.right (And.right (by with_reducible assumption))))) | with_reducible exact Ne.symm (And.right (And.right (And.right (And.right (And.right (by with_reducible assumption)))))) | with_reducible exact Nat.ne_of_lt (And.right (And.right (And.right (And.right (And.right (by with_reducible assumption)))))) | with_reducible exact Nat.ne_of_gt (And.right (And.right (And.right (And.right (And.right (by with_reducible assumption)))))) | with_reducible exact And.right (And.right (And.right (And.right (And.right (And.right (by with_reducible assumption)))))) | with_reducible exact Ne.symm (And.right (And.right (And.right (And.right (And.right (And.right (by with_reducible assumption))))))) | with_reducible exact Nat.ne_of_lt (And.right (And.right (And.right (And.right (And.right (And.right (by with_reducible assumption))))))) | with_reducible exact Nat.ne_of_gt (And.right (And.right (And.right (And.right (And.right (And.right (by with_reducible assumption))))))) | with_reducible exact And.right (And.right (And.right (And.right (And.right (And.right (And.right (by with_reducible assumption))))))) | with_reducible exact Ne.symm (And.right (And.right (And.right (And.right (And.right (And.right (And.right (by with_reducible assumption)))))))) | with_reducible exact Nat.ne_of_lt (And.right (And.right (And.right (And.right (And.right (And.right (And.right (by with_reducible assumption)))))))) | with_reducible exact Nat.ne_of_gt (And.right (And.right (And.right (And.right (And.right (And.right (And.right (by with_reducible assumption)))))))) | with_reducible exact And.right (And.right (And.right (And.right (And.right (And.right (And.right (And.right (by with_reducible assumption)))))))) | with_reducible exact Ne.symm (And.right (And.right (And.right (And.right (And.right (And.right (And.right (And.right (by with_reducible assumption))))))))) | with_reducible exact Nat.ne_of_lt (And.right (And.right (And.right (And.right (And.right (And.right (And.right (And.right (by with_reducible assumption))))))))) | with_reducible exact Nat.ne_of_gt (And.right (And.right (And.right (And.right (And.right (And.right (And.right (And.right (by with_reducible assumption))))))))) | with_reducible exact And.right (And.right (And.right (And.right (And.right (And.right (And.right (And.right (And.right (by with_reducible assumption))))))))) | with_reducible exact Ne.symm (And.right (And.right (And.right (And.right (And.right (And.right (And.right (And.right (And.right (by with_reducible assumption)))))))))) | with_reducible exact Nat.ne_of_lt (And.right (And.right (And.right (And.right (And.right (And.right (And.right (And.right (And.right (by with_reducible assumption)))))))))) | with_reducible exact Nat.ne_of_gt (And.right (And.right (And.right (And.right (And.right (And.right (And.right (And.right (And.right (by with_reducible assumption)))))))))) | with_reducible exact And.left (by with_reducible assumption) | with_reducible exact Ne.symm (And.left (by with_reducible assumption)) | with_reducible exact Nat.ne_of_lt (And.left (by with_reducible assumption)) | with_reducible exact Nat.ne_of_gt (And.left (by with_reducible assumption)) | with_reducible exact And.left (And.right (by with_reducible assumption)) | with_reducible exact Ne.symm (And.left (And.right (by with_reducible assumption))) | with_reducible exact Nat.ne_of_lt (And.left (And.right (by with_reducible assumption))) | with_reducible exact Nat.ne_of_gt (And.left (And.right (by with_reducible assumption))) | with_reducible exact And.left (And.right (And.right (by with_reducible assumption))) | with_reducible exact Ne.symm (And.left (And.right (And.right (by with_reducible assumption)))) | with_reducible exact Nat.ne_of_lt (And.left (And.right (And.right (by with_reducible assumption)))) | with_reducible exact Nat.ne_of_gt (And.left (And.right (And.right (by with_reducible assumption)))) | with_reducible exact And.left (And.right (And.right (And.right (by with_reducible assumption)))) | with_reducible exact Ne.symm (And.left (And.right (And.right (And.right (by with_reducible assumption))))) | with_reducible exact Nat.ne_of_lt (And.left (And.right (And.right (And.right (by with_reducible assumption))))) | with_reducible exact Nat.ne_of_gt (And.left (And.right (And.right (And.right (by with_reducible assumption))))) | with_reducible exact And.left (And.right (And.right (And.right (And.right (by with_reducible assumption))))) | with_reducible exact Ne.symm (And.left (And.right (And.right (And.right (And.right (by with_reducible assumption)))))) | with_reducible exact Nat.ne_of_lt (And.left (And.right (And.right (And.right (And.right (by with_reducible assumption)))))) | with_reducible exact Nat.ne_of_gt (And.left (And.right (And.right (And.right (And.right (by with_reducible assumption)))))) | with_reducible exact And.left (And.right (And.right (And.right (And.right (And.right (by with_reducible assumption)))))) | with_reducible exact Ne.symm (And.left (And.right (And.right (And.right (And.right (And.right (by with_reducible assumption))))))) | with_reducible exact Nat.ne_of_lt (And.left (And.right (And.right (And.right (And.right (And.right (by with_reducible assumption))))))) | with_reducible exact Nat.ne_of_gt (And.left (And.right (And.right (And.right (And.right (And.right (by with_reducible assumption))))))) | with_reducible exact And.left (And.right (And.right (And.right (And.right (And.right (And.right (by with_reducible assumption))))))) | with_reducible exact Ne.symm (And.left (And.right (And.right (And.right (And.right (And.right (And.right (by with_reducible assumption)))))))) | with_reducible exact Nat.ne_of_lt (And.left (And.right (And.right (And.right (And.right (And.right (And.right (by with_reducible assumption)))))))) | with_reducible exact Nat.ne_of_gt (And.left (And.right (And.right (And.right (And.right (And.right (And.right (by with_reducible assumption)))))))) | with_reducible exact And.left (And.right (And.right (And.right (And.right (And.right (And.right (And.right (by with_reducible assumption)))))))) | with_reducible exact Ne.symm (And.left (And.right (And.right (And.right (And.right (And.right (And.right (And.right (by with_reducible assumption))))))))) | with_reducible exact Nat.ne_of_lt (And.left (And.right (And.right (And.right (And.right (And.right (And.right (And.right (by with_reducible assumption))))))))) | with_reducible exact Nat.ne_of_gt (And.left (And.right (And.right (And.right (And.right (And.right (And.right (And.right (by with_reducible assumption))))))))) | with_reducible exact And.left (And.right (And.right (And.right (And.right (And.right (And.right (And.right (And.right (by with_reducible assumption))))))))) | with_reducible exact Ne.symm (And.left (And.right (And.right (And.right (And.right (And.right (And.right (And.right (And.right (by with_reducible assumption)))))))))) | with_reducible exact Nat.ne_of_lt (And.left (And.right (And.right (And.right (And.right (And.right (And.right (And.right (And.right (by with_reducible assumption)))))))))) | with_reducible exact Nat.ne_of_gt (And.left (And.right (And.right (And.right (And.right (And.right (And.right (And.right (And.right (by with_reducible assumption)))))))))) | with_reducible exact And.right (And.left (by with_reducible assumption)) | with_reducible exact Ne.symm (And.right (And.left (by with_reducible assumption))) | with_reducible exact Nat.ne_of_lt (And.right (And.left (by with_reducible assumption))) | with_reducible exact Nat.ne_of_gt (And.right (And.left (by with_reducible assumption))) | with_reducible exact And.right (And.right (And.left (by with_reducible assumption))) | with_reducible exact Ne.symm (And.right (And.right (And.left (by with_reducible assumption)))) | with_reducible exact Nat.ne_of_lt (And.right (And.right (And.left (by with_reducible assumption)))) | with_reducible exact Nat.ne_of_gt (And.right (And.right (And.left (by with_reducible assumption)))) | with_reducible exact And.right (And.right (And.right (And.left (by with_reducible assumption)))) | with_reducible exact Ne.symm (And.right (And.right (And.right (And.left (by with_reducible assumption))))) | with_reducible exact Nat.ne_of_lt (And.right (And.right (And.right (And.left (by with_reducible assumption))))) | with_reducible exact Nat.ne_of_gt (And.right (And.right (And.right (And.left (by with_reducible assumption))))) | with_reducible exact And.left (And.left (by with_reducible assumption)) | with_reducible exact Ne.symm (And.left (And.left (by with_reducible assumption))) | with_reducible exact Nat.ne_of_lt (And.left (And.left (by with_reducible assumption))) | with_reducible exact Nat.ne_of_gt (And.left (And.left (by with_reducible assumption))) | with_reducible exact And.left (And.right (And.left (by with_reducible assumption))) | with_reducible exact Ne.symm (And.left (And.right (And.left (by with_reducible assumption)))) | with_reducible exact Nat.ne_of_lt (And.left (And.right (And.left (by with_reducible assumption)))) | with_reducible exact Nat.ne_of_gt (And.left (And.right (And.left (by with_reducible assumption)))) | with_reducible exact And.left (And.right (And.right (And.left (by with_reducible assumption)))) | with_reducible exact Ne.symm (And.left (And.right (And.right (And.left (by with_reducible assumption))))) | with_reducible exact Nat.ne_of_lt (And.left (And.right (And.right (And.left (by with_reducible assumption))))) | with_reducible exact Nat.ne_of_gt (And.left (And.right (And.right (And.left (by with_reducible assumption))))) | with_reducible exact And.left (And.right (And.right (And.right (And.left (by with_reducible assumption))))) | with_reducible exact Ne.symm (And.left (And.right (And.right (And.right (And.left (by with_reducible assumption)))))) | with_reducible exact Nat.ne_of_lt (And.left (And.right (And.right (And.right (And.left (by with_reducible assumption)))))) | with_reducible exact Nat.ne_of_gt (And.left (And.right (And.right (And.right (And.left (by with_reducible assumption)))))) | omega))
  trivial
theorem kw4 : True := by
  k_with "my lin" => ((first | (with_reducible refine ltM ?_; walk_at "my lt") | (with_reducible refine leM ?_; walk_at "my le") | omega))
  trivial

-- the sides of enter
theorem kw5 : True := by
  k_with "my enter" => (( (case a => exact Nat.lt_trans (by with_reducible assumption) (by decide)); (case b => k_is); (case c => k_is); (case d => exact BindsTo.of_eq rfl); (case e => exact locs rfl); (case k1 => rfl); (case k2 => rfl); (case k3 => rfl); (case k4 => decide)))
  trivial
-- the sides of a contract at a call
theorem kw6 : True := by
  k_with "my sides" => (( (case cw => exact Wd.keeps (by assumption) (Fr.keep (by assumption))); (case cd => ((try dsimp only [Ar, Around.deeper]); first | exact Nat.lt_of_lt_of_le (Nat.add_lt_add_right (by assumption) 1) (by decide) | omega)); (case cu => ((try dsimp only [Ar, Around.deeper]); first | exact Nat.lt_of_lt_of_le (Nat.add_lt_add_right (by assumption) 3) (by decide) | omega)); (case ct => ((try dsimp only); walk_at "my lin"))))
  trivial
theorem kw7 : True := by
  k_with "my sides0" => (( (case cw => exact Wd.keeps (by assumption) (Fr.keep (by assumption))); (case cd => ((try dsimp only [Ar, Around.deeper]); first | exact Nat.lt_of_lt_of_le (Nat.add_lt_add_right (by assumption) 1) (by decide) | omega)); (case cu => ((try dsimp only [Ar, Around.deeper]); first | exact Nat.lt_of_lt_of_le (Nat.add_lt_add_right (by assumption) 3) (by decide) | omega))))
  trivial
theorem kw8 : True := by
  k_with "my ret" => (first | (refine' retS ?rF ?rN ?_; (case rF => k_asm); (case rN => k_asm); intro _ _ _ _ _ q9 p9 r9; k_sweep; (try dsimp only at q9 ⊢); revert q9 p9 r9; intro _ _ _) | (refine' retI ?rF ?rN ?_; (case rF => k_asm); (case rN => k_asm); intro _ _ _ _ _ q9; k_sweep; (try dsimp only at q9 ⊢); revert q9; intro _) | (refine' retV ?rF ?rN ?_; (case rF => k_asm); (case rN => k_asm); intro _ _ _ _ q9; k_sweep; (try dsimp only at q9 ⊢); revert q9; intro _) | (refine' retO ?rF ?rN ?_; (case rF => k_asm); (case rN => k_asm); intro _ _ _ _ P9 F9 N9 l9 q9; k_sweep; (try (obtain ⟨u1, u2, e9, v1, v2, v3, v4⟩ := P9; subst e9)); simp only [AllNe, and_true, true_and] at l9; (try dsimp only at q9 ⊢)))
  trivial
theorem kw9 : True := by
  k_with "execs cons" => (((with_reducible refine wpAny_execs_cons ?_); try dsimp only))
  trivial
theorem kw10 : True := by
  k_with "execs nil" => (((with_reducible refine wpAny_execs_nil ?_); try dsimp only))
  trivial
theorem kw11 : True := by
  k_with "call builtin:issubclass" => ((refine' issub_N ?k1 ?k2 ?_; (case k1 => k_asm); (case k2 => k_mem)))
  trivial
theorem kw12 : True := by
  k_with "execs cons For" => (refine Stop.out ?_)
  trivial
theorem kw13 : True := by
  k_with "truthy ref" => ((k_dflt (first | (refine' tr_nil ?kN ?km ?_; (case kN => k_asm); (case km => k_mem)) | (refine' tr_snoc ?kN ?km ?kz ?_; (case kN => k_asm); (case km => k_mem); (case kz => assumption)) | (refine' tr_any ?kN ?km ?kz ?_ ?_; (case kN => k_asm); (case km => k_mem); (case kz => assumption); all_goals (first | (intro e9; subst e9) | (intro _ _ _ e9 _; subst e9; (rename News _ _ _ _ => N9); rw [strValues_snoc] at N9))))))
  trivial
theorem kw14 : True := by
  k_with "subscriptTail" => ((k_dflt (refine' item_last ?kN ?km ?kz ?_ ?ks; (case kN => k_asm); (case km => k_mem); (case kz => assumption); (case ks => with_unfolding_all rfl))))
  trivial
theorem kw15 : True := by
  k_with "call builtin:list.pop" => ((k_dflt (refine' pop_last ?kF ?kN ?kU ?kz ?_; (case kF => k_asm); (case kN => k_asm); (case kU => k_upd); (case kz => assumption); intro _ _ _; k_sweep)))
  trivial
theorem kw16 : True := by
  k_with "call builtin:str.join" => ((k_dflt (refine' join_mine ?kN ?km ?ka ?kn ?kp ?kt ?kb ?_; (case kN => k_asm); (case km => k_mem); (case ka => assumption); (case kn => assumption); (case kp => ((try dsimp only); walk_at "my lin")); (case kt => assumption); (case kb => ((try dsimp only); omega)); intro _ _ _ _ r9 q9; (try dsimp only at q9 r9 ⊢); revert r9 q9; intro _ _)))
  trivial
theorem kw17 : True := by
  k_with "call builtin:str.split" => ((k_dflt (refine' split_mine ?kF ?kN ?kp ?kq ?ks ?_; (case kF => k_asm); (case kN => k_asm); (case kp => walk_at "my lin"); (case kq => ((try dsimp only); walk_at "my lin")); (case ks => ((try dsimp only); omega)); intro _ _ _ _ _ x9 y9 z9 F9 N9 l9; k_sweep; (try dsimp only at x9 y9 l9 ⊢); simp only [AllLt, and_true, true_and] at l9; first | (revert x9 y9 z9 F9 N9 l9; intro _ _ _ _ _ _) | (revert x9 y9 z9 F9 N9; intro _ _ _ _ _))))
  trivial
theorem kw18 : True := by
  k_with "binaryOp Add str str" => ((k_dflt (refine' add_tok ?kt ?ku ?kp ?kq ?_ ?kz; (case kt => walk_at "my lin"); (case ku => walk_at "my lin"); (case kp => ((try dsimp only); walk_at "my lin")); (case kq => ((try dsimp only); walk_at "my lin")); (case kz => size_fits); intro _ _ _ r9 q9 l9; (try dsimp only at q9 r9 ⊢); revert r9 q9 l9; intro _ _ _)))
  trivial
theorem kw19 : True := by
  k_with "inplaceOp Add str str" => ((k_dflt (refine' iadd_tok ?kt ?ku ?kp ?kq ?_ ?kz; (case kt => walk_at "my lin"); (case ku => walk_at "my lin"); (case kp => ((try dsimp only); walk_at "my lin")); (case kq => ((try dsimp only); walk_at "my lin")); (case kz => size_fits); intro _ _ _ r9 q9 l9; (try dsimp only at q9 r9 ⊢); revert r9 q9 l9; intro _ _ _)))
  trivial
theorem kw20 : True := by
  k_with "truthy str" => ((refine SBL.truthy (by (have e0 : (PySem.Str.ofString "").length = 0 := by rfl); simp only [Str.length_append, e0]; omega) ?_))
  trivial
theorem kw21 : True := by
  k_with "my enter2" => (( (case a => exact Nat.lt_trans (by with_reducible assumption) (by decide)); (case b => k_is); (case c => k_is); (case k1 => rfl); (case k2 => rfl); (case k3 => rfl); (case k4 => decide)))
  trivial
theorem kw22 : True := by
  k_with "subscriptTail Name Slice str ref" => (((with_reducible show wpAny _ _ (subscriptTail _ (Expr.Slice none (some _) none _) _ _) _ _ _); (refine wpAny_with_toks (Nat.le_refl _) ?_); (refine' slice_strN_ns (hsz := ?hsz) (s := ⟨_, _, _, _, _⟩) ?kF ?kN ?_); (case kF => k_asm); (case kN => k_asm); (case hsz => size_fits); intro _ _ _ _ _ q9; (try dsimp only at q9 ⊢); revert q9; intro _))
  trivial
theorem kw23 : True := by
  k_with "my toks" => (first | exact List.forall_mem_nil _ | (refine' List.forall_mem_cons.mpr ⟨?ka, ?kb⟩; (case ka => (constructor <;> ((try dsimp only); walk_at "my lin"))); (case kb => walk_at "my toks")))
  trivial
theorem kw24 : True := by
  k_with "subscriptTail List cons BinOp ref int" => ((k_dflt (refine' item_menu [(PySem.Str.ofString "a", _), (PySem.Str.ofString "b", _), (PySem.Str.ofString "ab", _), (PySem.Str.ofString "a.", _), (PySem.Str.ofString "...", _), (PySem.Str.ofString ".b", _), (⟨#[_]⟩, _)] ?kN ?km ?k0 ?kk ?kl ?kt ?_ ?ks); (case kN => k_asm); (case km => k_mem); (case k0 => first | assumption | omega); (case kk => first | assumption | ((try simp only [List.length_cons, List.length_nil]); omega)); (case kl => exact Nat.le_of_ble_eq_true rfl); (case ks => with_unfolding_all rfl); (case kt => walk_at "my toks"); intro _ _ r9; (try dsimp only at r9); revert r9; intro _))
  trivial

theorem c_fspath {w : World} {dp un : Nat} {fr : Option (List Env)} {gd : Option (List Code)} {s : Shared} {Q : Value → Shared → Prop} {E : Value → Shared → Prop} {x : Str} {t : Nat}
   (W : Wd w s.heap) (hdep : dp < 900) (hun : un < 8000) (hpos : 0 < s.toks) (hret : RetV s.heap s Q (.str x t)) :
   wpAny (model PP w) (Ar dp fr gd un) (call (.ref 94) [.str x t]) Q E s := by
  have W' := W
  obtain ⟨X, mean, mg, mb, T⟩ := W'
  refine' enter (K := hd.heap_39 _) (binds := [(Str.ofString "path", .str x t)]) X T ?a ?b ?c ?d ?e ?k ?k1 ?k2 ?k3 ?k4
  walk_at "my enter"
  intro L h₁ F N
  k_steps
  all_goals exact fun hk => hret _ _ (Fr.keep (by assumption)) hk

theorem c_get_sep {w : World} {dp un : Nat} {fr : Option (List Env)} {gd : Option (List Code)} {s : Shared} {Q : Value → Shared → Prop} {E : Value → Shared → Prop} {x : Str} {t : Nat}
   (W : Wd w s.heap) (hdep : dp < 900) (hun : un < 8000) (hpos : 0 < s.toks)
   (hret : RetS s.heap s Q (Str.ofString "/")) :
   wpAny (model PP w) (Ar dp fr gd un) (call (.ref 108) [.str x t]) Q E s := by
  have W' := W
  obtain ⟨X, mean, mg, mb, T⟩ := W'
  refine' enter (K := hd.heap_39 _) (binds := [(Str.ofString "path", .str x t)]) X T ?a ?b ?c ?d ?e ?k ?k1 ?k2 ?k3 ?k4
  walk_at "my enter"
  intro L h₁ F N
  k_steps
  all_goals exact fun hk => hret _ _ _ (Fr.keep (by assumption)) hk (by dsimp only at hk ⊢; omega) (by dsimp only at hk ⊢; omega)

theorem kw25 : True := by
  k_with "call ref" => (( (k_dflt (refine' c_fspath ?cw ?cd ?cu ?ct ?_)); walk_at "my sides"; walk_at "my ret"))
  trivial
theorem kw26 : True := by
  k_with "call ref" => (( (k_dflt (refine' c_get_sep ?cw ?cd ?cu ?ct ?_)); walk_at "my sides"; walk_at "my ret"))
  trivial
abbrev tup3 (x : Str) (t : Nat) (B : Nat) (o : Obj) : Prop := ∃ t1 t2 : Nat, o = { cls := .type "tuple", data := .seq #[.str (Str.ofString "") t1, .str (Str.ofString "") t2, .str x t] } ∧ 0 < t1 ∧ t1 < B ∧ 0 < t2 ∧ t2 < B

theorem c_splitroot {w : World} {dp un : Nat} {fr : Option (List Env)} {gd : Option (List Code)} {s : Shared} {Q : Value → Shared → Prop} {E : Value → Shared → Prop} {x : Str} {t : Nat}
   (W : Wd w s.heap) (hdep : dp < 890) (hun : un < 7900) (hpos : 0 < s.toks) (hlen : x.length ≤ 4096) (hx0 : (Txt.slice x none (some 1) != Str.ofString "/") = true)
   (hret : RetO s.heap s Q (tup3 x t)) :
   wpAny (model PP w) (Ar dp fr gd un) (call (.ref 122) [.str x t]) Q E s := by
  have W' := W
  obtain ⟨X, mean, mg, mb, T⟩ := W'
  refine' enter (K := hd.heap_39 _) (binds := [(Str.ofString "p", .str x t)]) X T ?a ?b ?c ?d ?e ?k ?k1 ?k2 ?k3 ?k4
  walk_at "my enter"
  intro L h₁ F N
  k_steps
  refine fun hk => hret _ _ _ _ (Fr.keep (by assumption)) hk (News.fresh (by assumption) (List.Mem.head _)) (News.get (by assumption) (List.Mem.head _)) ⟨_, _, rfl, ?_, ?_, ?_, ?_⟩
  all_goals (dsimp only at hk ⊢)
  all_goals omega

theorem kw27 : True := by
  k_with "call ref" => (( (k_dflt (refine' c_splitroot ?cw ?cd ?cu ?ct (by first | assumption | omega) (by assumption) ?_)); walk_at "my sides"; walk_at "my ret"))
  trivial

def npStep (acc : List Str) (c : Str) : List Str :=
  if c = Str.ofString "" ∨ c = Str.ofString "." then acc
  else if c ≠ Str.ofString ".." ∨ acc = [] ∨ acc.getLast? = some (Str.ofString "..") then acc ++ [c] else acc.dropLast
def npFold (cs : List Str) : List Str := cs.foldl npStep []

theorem str_nil {c : Str} (h : (c.length : Int) = 0) : c = Str.ofString "" := by
  obtain ⟨⟨l⟩⟩ := c
  have : l = [] := List.eq_nil_of_length_eq_zero (by have : (l.length : Int) = 0 := h; omega)
  rw [this]; rfl
theorem ne_str_nil {c : Str} (h : (c.length : Int) ≠ 0) : c ≠ Str.ofString "" := fun e => h (by rw [e]; rfl)
theorem npFold_take {cs : List Str} {i : Nat} {c : Str} (h : cs[i]? = some c) : npFold (cs.take (i + 1)) = npStep (npFold (cs.take i)) c := by
  unfold npFold
  rw [List.take_add_one, h]; simp
theorem np_skip1 {acc : List Str} {c : Str} (h : (c.length : Int) = 0) : npStep acc c = acc := by unfold npStep; rw [if_pos (.inl (str_nil h))]
theorem np_skip2 {acc : List Str} {c : Str} (h : (c == Str.ofString ".") = true) : npStep acc c = acc := by unfold npStep; rw [if_pos (.inr (beq_iff_eq.mp h))]
theorem np_push1 {acc : List Str} {c : Str} (h : (c.length : Int) ≠ 0) (h1 : (c == Str.ofString ".") = false) (h2 : (c != Str.ofString "..") = true) : npStep acc c = acc ++ [c] := by
  unfold npStep; rw [if_neg (fun q => q.elim (ne_str_nil h) (beq_eq_false_iff_ne.mp h1)), if_pos (.inl (bne_iff_ne.mp h2))]
theorem np_push2 {c : Str} (h : (c.length : Int) ≠ 0) (h1 : (c == Str.ofString ".") = false) : npStep [] c = [c] := by
  unfold npStep; rw [if_neg (fun q => q.elim (ne_str_nil h) (beq_eq_false_iff_ne.mp h1)), if_pos (.inr (.inl rfl))]; rfl
theorem np_push3 {acc : List Str} {c z : Str} (h : (c.length : Int) ≠ 0) (h1 : (c == Str.ofString ".") = false) (h2 : (z == Str.ofString "..") = true) : npStep (acc ++ [z]) c = acc ++ [z] ++ [c] := by
  unfold npStep; rw [if_neg (fun q => q.elim (ne_str_nil h) (beq_eq_false_iff_ne.mp h1)), if_pos (.inr (.inr (by rw [List.getLast?_concat, beq_iff_eq.mp h2])))]
theorem np_pop {acc : List Str} {c z : Str} (h : (c.length : Int) ≠ 0) (h1 : (c == Str.ofString ".") = false) (h2 : (c != Str.ofString "..") = false) (h3 : (z == Str.ofString "..") = false) : npStep (acc ++ [z]) c = acc := by
  unfold npStep
  rw [if_neg (fun q => q.elim (ne_str_nil h) (beq_eq_false_iff_ne.mp h1)), if_neg, List.dropLast_concat]
  rintro (q | q | q)
  · exact q (by simpa using h2)
  · simp at q
  · rw [List.getLast?_concat] at q; exact beq_eq_false_iff_ne.mp h3 (Option.some.inj q)

theorem npStep_length (acc : List Str) (c : Str) : (npStep acc c).length ≤ acc.length + 1 := by
  unfold npStep
  split
  · omega
  · split
    · simp
    · simp; omega
theorem npFold_length_aux (cs : List Str) : ∀ acc : List Str, (cs.foldl npStep acc).length ≤ acc.length + cs.length := by
  induction cs with
  | nil => intro acc; simp
  | cons c cs ih => intro acc; have := ih (npStep acc c); have := npStep_length acc c; simp only [List.foldl_cons, List.length_cons]; omega
theorem npFold_length (cs : List Str) : (npFold cs).length ≤ cs.length := by have := npFold_length_aux cs []; simpa [npFold] using this

theorem npStep_mem {acc : List Str} {c z : Str} (h : z ∈ npStep acc c) : z ∈ acc ∨ z = c := by
  unfold npStep at h
  split at h
  · exact .inl h
  · split at h
    · rcases List.mem_append.mp h with h | h
      · exact .inl h
      · exact .inr (List.mem_singleton.mp h)
    · exact .inl (List.dropLast_subset _ h)
theorem npFold_mem_aux (cs : List Str) : ∀ (acc : List Str) (z : Str), z ∈ cs.foldl npStep acc → z ∈ acc ∨ z ∈ cs := by
  induction cs with
  | nil => intro acc z h; exact .inl h
  | cons c cs ih =>
    intro acc z h
    rcases ih _ _ h with h | h
    · rcases npStep_mem h with h | h
      · exact .inl h
      · exact .inr (h ▸ List.mem_cons_self ..)
    · exact .inr (List.mem_cons_of_mem _ h)
theorem npFold_mem {cs : List Str} {z : Str} (h : z ∈ npFold cs) : z ∈ cs := (npFold_mem_aux cs [] z h).elim (fun h => by cases h) id
def npText (x : Str) : Str := if (Txt.join (Str.ofString "/") (npFold (Txt.split x (Str.ofString "/")))).length = 0 then Str.ofString "." else Txt.join (Str.ofString "/") (npFold (Txt.split x (Str.ofString "/")))

theorem c_normpath {w : World} {dp un : Nat} {fr : Option (List Env)} {gd : Option (List Code)} {s : Shared} {Q : Value → Shared → Prop} {E : Value → Shared → Prop} {x : Str} {t : Nat}
   (W : Wd w s.heap) (hdep : dp < 880) (hun : un < 7800) (hpos : 0 < s.toks) (ht : 0 < t) (ht2 : t < s.toks) (hlen : x.length ≤ 1000) (hx0 : (Txt.slice x none (some 1) != Str.ofString "/") = true)
   (hret : RetS s.heap s Q (npText x)) :
   wpAny (model PP w) (Ar dp fr gd un) (call (.ref 129) [.str x t]) Q E s := by
  have W' := W
  obtain ⟨X, mean, mg, mb, T⟩ := W'
  refine' enter (K := hd.heap_39 _) (binds := [(Str.ofString "path", .str x t)]) X T ?a ?b ?c ?d ?e ?k ?k1 ?k2 ?k3 ?k4
  walk_at "my enter"
  intro L h₁ F N
  k_steps
  · rename_i D lc hA kA hsplit htks hkA hlens hDt hB ln hC hlt hD F' N'
    refine Stop.mk ?_
    refine for_restT ?_ (fun _ => rfl)
    refine ld F' rfl ?_
    refine iterT_listC (L := L) (σ := List (Str × Tok) × Nat) (fun a => [(ln, PySem.W.listOf (strValues a.1).toArray a.2)]) (fun B i a => a.1.map (·.1) = npFold ((lc.map (·.1)).take i) ∧ ∀ p ∈ a.1, p ∈ lc) ([], 0) rfl rfl rfl rfl
      (fun tk tk' i a hk h => h) (vs := strValues lc) (News.isList N' (List.Mem.tail _ (List.Mem.head _))) (Ne.symm (N' _ (List.Mem.tail _ (List.Mem.head _))).2.1) (.inr ⟨_, List.Mem.head _⟩) F' N' ⟨rfl, fun _ h => by cases h⟩ rfl ?_ ?_
    · rintro i v ⟨a, na⟩ I io h tk htk hv ⟨hinv, hsub⟩ hne F₁ N₁
      simp only [AllNe, and_true, List.cons_append, List.nil_append] at hne N₁
      obtain ⟨c, tc, hc, rfl, hcm⟩ := strValues_at hv
      have hcl : c.length ≤ 4096 := Nat.le_trans (hlens c (List.mem_of_getElem? hc)) (by walk_at "my lin")
      have hal : a.length ≤ 4096 := by
        have h1 := congrArg List.length hinv
        have h2 := npFold_length (List.take i (List.map (fun x => x.fst) lc))
        have h3 := len_le_of_split hsplit
        simp only [List.length_map, List.length_take] at h1 h2
        omega
      have hsub' : ∀ p ∈ a ++ [(c, tc)], p ∈ lc := fun p hp => (List.mem_append.mp hp).elim (hsub p) fun q => by rw [List.mem_singleton.mp q]; exact hcm
      dsimp only at hinv hsub N₁
      have hal2 : (strValues a).length ≤ 4096 := by rw [strValues_length]; exact hal
      clear F' N' hv hlens htks hcm
      k_steps
      all_goals (rename Fr _ _ _ _ => Fz; rename News _ _ _ _ => Nz; (try rw [← strValues_snoc] at Nz); (try rw [strValues_push] at Nz))
      all_goals (first | refine turnTC (_, _) Fz Nz ⟨?_, by assumption⟩ (fun _ hz => if_neg hz) ⟨hne.1, hne.2.1, hne.2.2, trivial⟩ | refine turnTN (_, _) Fz Nz ⟨?_, by assumption⟩ (fun _ hz => if_neg hz) ⟨hne.1, hne.2.1, hne.2.2, trivial⟩ | refine turnTN (_, _) Fz Nz ⟨?_, fun p hp => hsub p (List.mem_append_left _ hp)⟩ (fun _ hz => if_neg hz) ⟨hne.1, hne.2.1, hne.2.2, trivial⟩)
      all_goals (dsimp only at hinv ⊢; rw [npFold_take hc, ← hinv]; try simp only [List.map_append, List.map_cons, List.map_nil])
      all_goals first
        | exact (np_skip1 (by assumption)).symm
        | exact (np_skip2 (by assumption)).symm
        | exact (np_push1 (by assumption) (by assumption) (by assumption)).symm
        | exact (np_push2 (by assumption) (by assumption)).symm
        | exact (np_push3 (by assumption) (by assumption) (by assumption)).symm
        | exact (np_pop (by assumption) (by assumption) (by assumption) (by assumption)).symm
    · rintro ⟨a, na⟩ u h tk htk ⟨hinv, hsub⟩ F₁ N₁
      dsimp only at htk
      simp only [List.cons_append, List.nil_append] at N₁
      have hinv' : a.map (·.1) = npFold (Txt.split x (Str.ofString "/")) := by
        dsimp only at hinv
        rw [hinv, strValues_length, ← hsplit, List.take_of_length_le (by simp)]
      have hal : a.length ≤ 1002 := by
        have h1 := congrArg List.length hinv'
        have h2 := npFold_length (Txt.split x (Str.ofString "/"))
        have h3 := split_le x (Str.ofString "/")
        simp only [List.length_map] at h1
        omega
      have haa : ∀ c ∈ a.map (·.1), c.length ≤ 1000 := fun c hc => Nat.le_trans (hlens c (by rw [hsplit]; rw [hinv'] at hc; exact npFold_mem hc)) hlen
      have hat : ∀ p ∈ a, TokIn kA p.2 := fun p hp => htks p (hsub p hp)
      clear F' N'
      dsimp only
      have e0 : ∀ y : Str, Str.ofString "" ++ y = y := Str.empty_append
      k_steps
      · have hz : ((Str.ofString "" ++ Txt.join (Str.ofString "/") (a.map (·.1))).length : Int) ≠ 0 := by assumption
        rw [e0, hinv'] at hz
        have : npText x = Txt.join (Str.ofString "/") (npFold (Txt.split x (Str.ofString "/"))) := if_neg (by walk_at "my lin")
        rw [e0, hinv', ← this]
        exact fun hk => hret _ _ _ (Fr.keep (by assumption)) hk (by assumption) (by (try dsimp only); walk_at "my lin")
      · have hz : ((Str.ofString "" ++ Txt.join (Str.ofString "/") (a.map (·.1))).length : Int) = 0 := by assumption
        rw [e0, hinv'] at hz
        have : npText x = Str.ofString "." := if_pos (by walk_at "my lin")
        rw [← this]
        exact fun hk => hret _ _ _ (Fr.keep (by assumption)) hk (by (try dsimp only); walk_at "my lin") (by (try dsimp only); walk_at "my lin")
  · have hz : (x.length : Int) = 0 := by assumption
    have : npText x = Str.ofString "." := by rw [str_nil hz]; decide +kernel
    rw [← this]
    exact fun hk => hret _ _ _ (Fr.keep (by assumption)) hk (by (try dsimp only); walk_at "my lin") (by (try dsimp only); walk_at "my lin")
theorem kw28 : True := by
  k_with "call ref" => (( (k_dflt (refine' c_normpath ?cw ?cd ?cu ?ct (by walk_at "my lin") (by ((try dsimp only); walk_at "my lin")) (by first | assumption | omega) (by assumption) ?_)); walk_at "my sides"; walk_at "my ret"))
  trivial

def jnText (x y : Str) : Str := if x.length = 0 then y else if Txt.endswith x (Str.ofString "/") then x ++ y else x ++ (Str.ofString "/" ++ y)

theorem jn1 {x y : Str} (h : (x.length : Int) ≠ 0) (h2 : Txt.endswith x (Str.ofString "/") = true) : x ++ y = jnText x y := by unfold jnText; rw [if_neg (by walk_at "my lin"), if_pos h2]
theorem jn2 {x y : Str} (h : (x.length : Int) ≠ 0) (h2 : Txt.endswith x (Str.ofString "/") = false) : x ++ (Str.ofString "/" ++ y) = jnText x y := by unfold jnText; rw [if_neg (by walk_at "my lin"), if_neg (by rw [h2]; decide)]
theorem jn3 {x y : Str} (h : (x.length : Int) = 0) : y = jnText x y := by unfold jnText; rw [if_pos (by walk_at "my lin")]
theorem c_join {w : World} {dp un : Nat} {fr : Option (List Env)} {gd : Option (List Code)} {s : Shared} {Q : Value → Shared → Prop} {E : Value → Shared → Prop} {x y : Str} {t u : Nat}
   (W : Wd w s.heap) (hdep : dp < 880) (hun : un < 7800) (hpos : 0 < s.toks) (ht : 0 < t) (ht2 : t < s.toks) (hu : 0 < u) (hu2 : u < s.toks) (hlen : x.length ≤ 1000) (hlen2 : y.length ≤ 1000) (hx0 : Txt.startswith y (Str.ofString "/") = false)
   (hret : RetS s.heap s Q (jnText x y)) :
   wpAny (model PP w) (Ar dp fr gd un) (call (.ref 115) [.str x t, .str y u]) Q E s := by
  have W' := W
  obtain ⟨X, mean, mg, mb, T⟩ := W'
  refine' enterRest (K := hd.heap_39 _) (us := [.str y u]) (binds := fun D => [(Str.ofString "a", .str x t), (Str.ofString "p", .ref D)]) X T ?a ?b ?c ?d ?d2 ?e ?k ?k1 ?k2 ?k3 ?k4
  walk_at "my enter2"
  case d => exact rfl
  case d2 => exact fun _ => rfl
  case e => exact fun _ => locs rfl
  intro D L h₁ F N
  k_steps
  rename_i hA tkA hqA hB hC tkC t2 hqC hp2 hr2 hD hE F' N'
  have hpos2 : 0 < tkC := by walk_at "my lin"
  have htC : t < tkC := by walk_at "my lin"
  have huC : u < tkC := by walk_at "my lin"
  refine Stop.mk ?_
  refine for_restT ?_ (fun _ => rfl)
  refine ld F' rfl ?_
  refine iterT_tuple1 (L := L) (σ := Str × Nat) (Str.ofString "path") (fun a => .str a.1 a.2) (fun _ => []) (fun B i a => (i = 0 → a = (x, t)) ∧ (i = 1 → a.1 = jnText x y ∧ TokIn B a.2)) (x, t) rfl rfl rfl rfl
      (fun tk tk' i a hk h => ⟨h.1, fun hi => ⟨(h.2 hi).1, (h.2 hi).2.1, Nat.lt_of_lt_of_le (h.2 hi).2.2 hk⟩⟩) (vs := [.str y u])
      ⟨_, (N' _ (List.Mem.head _)).1, rfl, _, rfl⟩ (Ne.symm (N' _ (List.Mem.head _)).2.1) (.inr ⟨_, List.Mem.head _⟩) F' N' ⟨fun _ => rfl, fun h => by cases h⟩ rfl rfl ?_ ?_
  · rintro i v ⟨a, ta⟩ I io h tk htk hv hinv hne F₁ N₁
    dsimp only at htk
    simp only [AllNe, and_true, List.nil_append] at hne N₁
    have hi : i = 0 ∧ v = .str y u := by
      cases i with
      | zero => exact ⟨rfl, (Option.some.inj hv).symm⟩
      | succ i => cases hv
    obtain ⟨rfl, rfl⟩ := hi
    obtain ⟨rfl, rfl⟩ := Prod.mk.inj (hinv.1 rfl)
    clear F' N' hinv
    dsimp only at F₁
    k_steps
    · rename_i t3 k3 hp3 hr3 hq3 l3 h3 Fz Nz
      exact turnTN (a ++ y, t3) Fz Nz ⟨fun h => (by cases h), fun _ => ⟨jn1 (by assumption) (by assumption), hp3, (by (try dsimp only); walk_at "my lin")⟩⟩ (fun z hz => by by_cases hp : z = Str.ofString "path" <;> simp [hp, hz]) ⟨hne, trivial⟩
    · rename_i t3 k3 hp3 hr3 hq3 l3 h3 Fz Nz
      exact turnTN (a ++ (Str.ofString "/" ++ y), t3) Fz Nz ⟨fun h => (by cases h), fun _ => ⟨jn2 (by assumption) (by assumption), hp3, (by (try dsimp only); walk_at "my lin")⟩⟩ (fun z hz => by by_cases hp : z = Str.ofString "path" <;> simp [hp, hz]) ⟨hne, trivial⟩
    · rename News _ _ _ _ => Nz
      rename Fr _ _ _ _ => Fz
      exact turnTN (y, u) Fz Nz ⟨fun h => (by cases h), fun _ => ⟨jn3 (by assumption), hu, (by (try dsimp only); walk_at "my lin")⟩⟩ (fun z hz => by by_cases hp : z = Str.ofString "path" <;> simp [hp, hz]) ⟨hne, trivial⟩
  · rintro ⟨a, ta⟩ u h tk htk hinv F₁ N₁
    obtain ⟨hax, hta⟩ := hinv.2 rfl
    have hax : a = jnText x y := hax
    subst hax
    clear F' N'
    dsimp only
    k_steps
    exact fun hk => hret _ _ _ (Fr.keep (by assumption)) hk hta.1 hta.2
theorem kw29 : True := by
  k_with "call ref" => (( (k_dflt (refine' c_join ?cw ?cd ?cu ?ct (by walk_at "my lin") (by ((try dsimp only); walk_at "my lin")) (by walk_at "my lin") (by ((try dsimp only); walk_at "my lin")) (by first | assumption | omega) (by first | assumption | omega) (by assumption) ?_)); walk_at "my sides"; walk_at "my ret"))
  trivial

theorem c_lt {w : World} {dp un : Nat} {fr : Option (List Env)} {gd : Option (List Code)} {s : Shared} {Q : Value → Shared → Prop} {E : Value → Shared → Prop} {x y : Int} {t u : Nat}
   (W : Wd w s.heap) (hdep : dp < 900) (hun : un < 8000) (hret : RetV s.heap s Q (.bool (decide (x < y)))) :
   wpAny (model PP w) (Ar dp fr gd un) (call (.ref 136) [.int x t, .int y u]) Q E s := by
  have W' := W
  obtain ⟨X, mean, mg, mb, T⟩ := W'
  refine' enter (K := hd.heap_39 _) (binds := [(Str.ofString "a", .int x t), (Str.ofString "b", .int y u)]) X T ?a ?b ?c ?d ?e ?k ?k1 ?k2 ?k3 ?k4
  walk_at "my enter"
  intro L h₁ F N
  k_steps
  all_goals exact fun hk => hret _ _ (Fr.keep (by assumption)) hk
theorem c_sub {w : World} {dp un : Nat} {fr : Option (List Env)} {gd : Option (List Code)} {s : Shared} {Q : Value → Shared → Prop} {E : Value → Shared → Prop} {x y : Int} {t u : Nat}
   (W : Wd w s.heap) (hdep : dp < 900) (hun : un < 8000) (hret : RetI s.heap s Q (x - y)) :
   wpAny (model PP w) (Ar dp fr gd un) (call (.ref 150) [.int x t, .int y u]) Q E s := by
  have W' := W
  obtain ⟨X, mean, mg, mb, T⟩ := W'
  refine' enter (K := hd.heap_39 _) (binds := [(Str.ofString "a", .int x t), (Str.ofString "b", .int y u)]) X T ?a ?b ?c ?d ?e ?k ?k1 ?k2 ?k3 ?k4
  walk_at "my enter"
  intro L h₁ F N
  k_steps
  all_goals exact fun hk => hret _ _ _ (Fr.keep (by assumption)) hk
theorem c_mul {w : World} {dp un : Nat} {fr : Option (List Env)} {gd : Option (List Code)} {s : Shared} {Q : Value → Shared → Prop} {E : Value → Shared → Prop} {y : Int} {t u : Nat}
   (W : Wd w s.heap) (hdep : dp < 900) (hun : un < 8000) (hy : -1000 ≤ y) (hy2 : y ≤ 1000) (hret : RetI s.heap s Q (2 * y)) :
   wpAny (model PP w) (Ar dp fr gd un) (call (.ref 143) [.int 2 t, .int y u]) Q E s := by
  have W' := W
  obtain ⟨X, mean, mg, mb, T⟩ := W'
  refine' enter (K := hd.heap_39 _) (binds := [(Str.ofString "a", .int 2 t), (Str.ofString "b", .int y u)]) X T ?a ?b ?c ?d ?e ?k ?k1 ?k2 ?k3 ?k4
  walk_at "my enter"
  intro L h₁ F N
  k_steps
  all_goals exact fun hk => hret _ _ _ (Fr.keep (by assumption)) hk
theorem kw30 : True := by
  k_with "call ref" => (( (k_dflt (refine' c_lt ?cw ?cd ?cu ?_)); walk_at "my sides0"; walk_at "my ret"))
  trivial
theorem kw31 : True := by
  k_with "call ref" => (( (k_dflt (refine' c_sub ?cw ?cd ?cu ?_)); walk_at "my sides0"; walk_at "my ret"))
  trivial
theorem kw32 : True := by
  k_with "call ref" => (( (k_dflt (refine' c_mul ?cw ?cd ?cu (by walk_at "my lin") (by walk_at "my lin") ?_)); walk_at "my sides0"; walk_at "my ret"))
  trivial
theorem looks_told {M : Model} {w : World} {h : Heap} (X : (hd.heap_39 w.params).In h) : Looks M h (nsGet cStatics sharingNotToldKey) none := looks_nsIn X (by k_is)

theorem is_str {M : Model} {A : Around} {E : Value → Shared → Prop} {s : Shared} {w : World} {y z : Str} {u v : Nat} {Q : Value → Shared → Prop}
    (X : (hd.heap_39 w.params).In s.heap) (hu : 0 < u) (hv : 0 < v) (hne : u ≠ v) (hq : ∀ b, (b = true → y = z) → Q (.bool b) s) : wpAny M A (compareOp .Is (.str y u) (.str z v)) Q E s := by
  show wpAny M A (do return .bool (← isSame.created (y == z) u v)) Q E s
  unfold isSame.created
  refine wpAny_bind ?_
  have h0 : ¬ ((u == 0 || v == 0) = true) := by simp; omega
  rw [if_neg h0, if_neg (by simpa using hne)]
  have told : ∀ (t : Tok) (R : Bool → Shared → Prop), R false s → wpAny M A (sharingNotTold t) R E s := fun t R hR => by
    unfold sharingNotTold
    exact wpAny_bind ((looks_told X).here (wpAny_pure hR))
  cases hyz : y == z
  · exact wpAny_pure (wpAny_pure (hq false (fun h => by cases h)))
  · simp only [Bool.not_true, Bool.false_eq_true, if_false]
    refine wpAny_bind (told _ _ ?_)
    simp only [Bool.false_eq_true, if_false]
    refine wpAny_bind (told _ _ ?_)
    simp only [Bool.false_eq_true, if_false]
    exact wpAny_bind (wpAny_rule (wpAny_bind (wpAny_askSetting (wpAny_pure (wpAny_pure (hq _ fun _ => beq_iff_eq.mp hyz))))))

theorem kw33 : True := by
  k_with "compareOp Is str str" => ((k_dflt (refine' is_str (Frag.In.keeps (by assumption) (Fr.keep (by assumption))) ?ku ?kv ?kn ?_; (case ku => omega); (case kv => omega); (case kn => omega); intro _ _)))
  trivial
def cntC (l : List Nat) : Int := ((l.filter (· == 47)).length : Int)
def cntL (l : List Str) : Int := ((l.filter (· == Str.ofString "..")).length : Int)
theorem cntC_take {l : List Nat} {i c : Nat} (h : l[i]? = some c) : cntC (l.take (i + 1)) = cntC (l.take i) + (if c = 47 then 1 else 0) := by
  unfold cntC
  rw [List.take_add_one, h]
  by_cases hc : c = 47 <;> simp [hc]
theorem cntL_take {l : List Str} {i : Nat} {c : Str} (h : l[i]? = some c) : cntL (l.take (i + 1)) = cntL (l.take i) + (if c = Str.ofString ".." then 1 else 0) := by
  unfold cntL
  rw [List.take_add_one, h]
  by_cases hc : c = Str.ofString ".." <;> simp [hc]

theorem c_countS {w : World} {dp un : Nat} {fr : Option (List Env)} {gd : Option (List Code)} {s : Shared} {Q : Value → Shared → Prop} {E : Value → Shared → Prop} {x : Str} {t u : Nat}
   (W : Wd w s.heap) (hdep : dp < 900) (hun : un < 8000) (hpos : 0 < s.toks) (hu : 0 < u) (hu2 : u < s.toks) (hret : RetI s.heap s Q (cntC x.cps.toList)) :
   wpAny (model PP w) (Ar dp fr gd un) (call (.ref 157) [.str x t, .str (Str.ofString "/") u]) Q E s := by
  have W' := W
  obtain ⟨X, mean, mg, mb, T⟩ := W'
  refine' enter (K := hd.heap_39 _) (binds := [(Str.ofString "a", .str x t), (Str.ofString "b", .str (Str.ofString "/") u)]) X T ?a ?b ?c ?d ?e ?k ?k1 ?k2 ?k3 ?k4
  walk_at "my enter"
  intro L h₁ F N
  k_steps
  rename_i hA F' N'
  refine Stop.mk ?_
  refine for_restT ?_ (fun _ => rfl)
  refine ld F' rfl ?_
  refine iterT_str1 (L := L) (σ := Int × Nat) (Str.ofString "count") (fun a => .int a.1 a.2) (fun _ => []) (fun B i a => a.1 = cntC (x.cps.toList.take i)) (0, _) rfl rfl rfl rfl
      (fun tk tk' i a hk h => h) F' N' rfl rfl rfl ?_ ?_
  · rintro i v ⟨a, ta⟩ I io h tk htk ⟨c, uc, hc, rfl, huc⟩ hinv hne F₁ N₁
    dsimp only at htk huc hinv F₁
    simp only [AllNe, and_true, List.nil_append] at hne N₁
    clear F' N'
    have e47 : Str.ofString "/" = ⟨#[47]⟩ := by decide +kernel
    have hc' : x.cps.toList[i]? = some c := by simpa using hc
    have one : ∀ c' : Nat, (⟨#[c']⟩ : Str) = Str.ofString "/" → c' = 47 := fun c' h => by rw [e47] at h; simpa using h
    have hcnt := cntC_take hc'
    k_steps
    · rename_i b9 e9 hb h3 Fz Nz
      exact turnTN (a + 1, _) Fz Nz (by dsimp only; rw [hcnt, if_pos (one _ (e9 hb)), hinv]) (fun z hz => by by_cases hp : z = Str.ofString "count" <;> simp [hp, hz]; rfl) trivial
    · rename_i b9 e9 hb he h3 Fz Nz
      exact turnTN (a + 1, _) Fz Nz (by dsimp only; rw [hcnt, if_pos (one _ (beq_iff_eq.mp he)), hinv]) (fun z hz => by by_cases hp : z = Str.ofString "count" <;> simp [hp, hz]; rfl) trivial
    · rename_i b9 e9 hb he
      exact turnTN (a, ta) F₁ N₁ (by dsimp only; rw [hcnt, if_neg (fun h => beq_eq_false_iff_ne.mp he (by rw [h, e47])), hinv, Int.add_zero]) (fun z hz => if_neg hz) trivial
  · rintro ⟨a, ta⟩ u h tk htk hinv F₁ N₁
    dsimp only at hinv F₁
    clear F' N'
    k_steps
    have : a = cntC x.cps.toList := by rw [hinv, List.take_of_length_le (by simp)]
    rw [this]
    exact fun hk => hret _ _ _ (Fr.keep (by assumption)) hk

theorem kw34 : True := by
  k_with "call ref" => (( (k_dflt (refine' c_countS ?cw ?cd ?cu ?ct (by walk_at "my lin") (by ((try dsimp only); walk_at "my lin")) ?_)); walk_at "my sides"; walk_at "my ret"))
  trivial
theorem c_countL {w : World} {dp un : Nat} {fr : Option (List Env)} {gd : Option (List Code)} {s : Shared} {Q : Value → Shared → Prop} {E : Value → Shared → Prop} {D : Addr} {lc : List (Str × Tok)} {B u : Nat}
   (W : Wd w s.heap) (hdep : dp < 900) (hun : un < 8000) (hpos : 0 < s.toks) (hl : s.heap.IsList D (strValues lc).toArray) (hlc : ∀ p ∈ lc, TokIn B p.2) (hB : B ≤ u) (hu : 0 < u) (hu2 : u < s.toks) (hret : RetI s.heap s Q (cntL (lc.map (·.1)))) :
   wpAny (model PP w) (Ar dp fr gd un) (call (.ref 157) [.ref D, .str (Str.ofString "..") u]) Q E s := by
  have W' := W
  obtain ⟨X, mean, mg, mb, T⟩ := W'
  refine' enter (K := hd.heap_39 _) (binds := [(Str.ofString "a", .ref D), (Str.ofString "b", .str (Str.ofString "..") u)]) X T ?a ?b ?c ?d ?e ?k ?k1 ?k2 ?k3 ?k4
  walk_at "my enter"
  intro L h₁ F N
  k_steps
  rename_i hA F' N'
  refine Stop.mk ?_
  refine for_restT ?_ (fun _ => rfl)
  refine ld F' rfl ?_
  obtain ⟨oD, hoD, _⟩ := id hl
  have hLD : L ≠ D := fun e => absurd (Heap.lt_size hoD) (by rw [← e]; exact Nat.not_lt.mpr F'.above)
  refine iterT_list1 (L := L) (σ := Int × Nat) (Str.ofString "count") (fun a => .int a.1 a.2) (fun _ => []) (fun B i a => a.1 = cntL ((lc.map (·.1)).take i)) (0, _) rfl rfl rfl rfl
      (fun tk tk' i a hk h => h) (vs := strValues lc) (hl.at fun o e => F'.keep D o e) hLD (.inl ⟨oD, hoD⟩) F' N' rfl rfl rfl ?_ ?_
  · rintro i v ⟨a, ta⟩ I io h tk htk hv hinv hne F₁ N₁
    dsimp only at htk hinv F₁
    simp only [AllNe, and_true, List.nil_append] at hne N₁
    clear F' N'
    obtain ⟨c, uc, hc, rfl, hcm⟩ := strValues_at hv
    obtain ⟨huc1, huc2⟩ := hlc _ hcm
    dsimp only at huc1 huc2
    have hcnt := cntL_take hc
    k_steps
    · rename_i b9 e9 hb h3 Fz Nz
      exact turnTN (a + 1, _) Fz Nz (by dsimp only; rw [hcnt, if_pos (e9 hb), hinv]) (fun z hz => by by_cases hp : z = Str.ofString "count" <;> simp [hp, hz]; rfl) trivial
    · rename_i b9 e9 hb he h3 Fz Nz
      exact turnTN (a + 1, _) Fz Nz (by dsimp only; rw [hcnt, if_pos (beq_iff_eq.mp he), hinv]) (fun z hz => by by_cases hp : z = Str.ofString "count" <;> simp [hp, hz]; rfl) trivial
    · rename_i b9 e9 hb he
      exact turnTN (a, ta) F₁ N₁ (by dsimp only; rw [hcnt, if_neg (fun h => beq_eq_false_iff_ne.mp he h), hinv, Int.add_zero]) (fun z hz => if_neg hz) trivial
  · rintro ⟨a, ta⟩ u h tk htk hinv F₁ N₁
    dsimp only at hinv F₁
    clear F' N'
    k_steps
    have : a = cntL (lc.map (·.1)) := by rw [hinv, List.take_of_length_le (by rw [strValues_length]; simp)]
    rw [this]
    exact fun hk => hret _ _ _ (Fr.keep (by assumption)) hk
theorem kw35 : True := by
  k_with "call ref" => (( (k_dflt (refine' c_countL ?cw ?cd ?cu ?ct ?cl (by assumption) (by ((try dsimp only); walk_at "my lin")) (by ((try dsimp only); walk_at "my lin")) (by ((try dsimp only); walk_at "my lin")) ?_)); walk_at "my sides"; walk_at "my ret"))
  trivial

def menu7 (code : Int) : List Str := [Str.ofString "a", Str.ofString "b", Str.ofString "ab", Str.ofString "a.", Str.ofString "...", Str.ofString ".b", ⟨#[(1 + (code.fdiv 7).fmod 55295).toNat]⟩]
def rawName (code : Int) : Str := (menu7 code).getD (code.fmod 7).toNat (Str.ofString "")
def lawName (code : Int) : Str := if rawName code = Str.ofString "/" ∨ rawName code = Str.ofString "." then Str.ofString "c" else rawName code

theorem lawName_c {x : Int} (h : ([Str.ofString "/", Str.ofString "."].any fun y => y == rawName x) = true) : lawName x = Str.ofString "c" := by
  unfold lawName
  rw [if_pos]
  simp only [List.any_cons, List.any_nil, Bool.or_false, Bool.or_eq_true, beq_iff_eq] at h
  exact h.imp Eq.symm Eq.symm
theorem lawName_raw {x : Int} (h : ([Str.ofString "/", Str.ofString "."].any fun y => y == rawName x) = false) : lawName x = rawName x := by
  unfold lawName
  rw [if_neg]
  simp only [List.any_cons, List.any_nil, Bool.or_false, Bool.or_eq_false_iff, beq_eq_false_iff_ne] at h
  exact fun q => q.elim (fun e => h.1 e.symm) (fun e => h.2 e.symm)
theorem c_name {w : World} {dp un : Nat} {fr : Option (List Env)} {gd : Option (List Code)} {s : Shared} {Q : Value → Shared → Prop} {E : Value → Shared → Prop} {x : Int} {t : Nat}
   (W : Wd w s.heap) (hdep : dp < 900) (hun : un < 8000) (hpos : 0 < s.toks) (hx : 0 ≤ x) (hx2 : x ≤ 4294967296) (hret : RetS s.heap s Q (lawName x)) :
   wpAny (model PP w) (Ar dp fr gd un) (call (.ref 164) [.int x t]) Q E s := by
  have W' := W
  obtain ⟨X, mean, mg, mb, T⟩ := W'
  refine' enter (K := hd.heap_39 _) (binds := [(Str.ofString "code", .int x t)]) X T ?a ?b ?c ?d ?e ?k ?k1 ?k2 ?k3 ?k4
  walk_at "my enter"
  intro L h₁ F N
  have hf := Int.fmod_nonneg_of_pos x (show (0:Int) < 7 by decide)
  have hf2 := Int.fmod_lt_of_pos x (show (0:Int) < 7 by decide)
  k_steps
  · rename_i hz
    have e := lawName_c (x := x) hz
    rw [← e]
    exact fun hk => hret _ _ _ (Fr.keep (by assumption)) hk (by (try dsimp only); walk_at "my lin") (by (try dsimp only); walk_at "my lin")
  · rename_i t9 hp9 hr9 hA D hB F' N' hl hz
    have e := lawName_raw (x := x) hz
    have e2 : Value.str (rawName x) t9 = Value.str (lawName x) t9 := by rw [e]
    refine fun hk => ?_
    show Q (Value.str (rawName x) t9) _
    rw [e2]
    exact hret _ _ _ (Fr.keep (by assumption)) hk hp9 (by (try dsimp only); walk_at "my lin")
theorem kw36 : True := by
  k_with "call ref" => (( (k_dflt (refine' c_name ?cw ?cd ?cu ?ct (by walk_at "my lin") (by walk_at "my lin") ?_)); walk_at "my sides"; walk_at "my ret"))
  trivial
theorem c_length {w : World} {dp un : Nat} {fr : Option (List Env)} {gd : Option (List Code)} {s : Shared} {Q : Value → Shared → Prop} {E : Value → Shared → Prop} {x : Str} {t : Nat}
   (W : Wd w s.heap) (hdep : dp < 890) (hun : un < 7900) (hpos : 0 < s.toks) (hret : RetI s.heap s Q (if x = Str.ofString "." then 0 else cntC x.cps.toList + 1)) :
   wpAny (model PP w) (Ar dp fr gd un) (call (.ref 171) [.str x t]) Q E s := by
  have W' := W
  obtain ⟨X, mean, mg, mb, T⟩ := W'
  refine' enter (K := hd.heap_39 _) (binds := [(Str.ofString "plain", .str x t)]) X T ?a ?b ?c ?d ?e ?k ?k1 ?k2 ?k3 ?k4
  walk_at "my enter"
  intro L h₁ F N
  k_steps
  · have hz : (x == Str.ofString ".") = true := by assumption
    rw [if_pos (beq_iff_eq.mp hz)] at hret
    exact fun hk => hret _ _ _ (Fr.keep (by assumption)) hk
  · have hz : (x == Str.ofString ".") = false := by assumption
    rw [if_neg (beq_eq_false_iff_ne.mp hz)] at hret
    exact fun hk => hret _ _ _ (Fr.keep (by assumption)) hk
theorem kw37 : True := by
  k_with "call ref" => (( (k_dflt (refine' c_length ?cw ?cd ?cu ?ct ?_)); walk_at "my sides"; walk_at "my ret"))
  trivial

section Strs
def tl (x : Str) : List Nat := x.cps.toList
theorem tl_inj {x y : Str} (h : tl x = tl y) : x = y := by
  obtain ⟨⟨a⟩⟩ := x
  obtain ⟨⟨b⟩⟩ := y
  have : a = b := h
  rw [this]
theorem tl_append (x y : Str) : tl (x ++ y) = tl x ++ tl y := Array.toList_append
theorem tl_length (x : Str) : (tl x).length = x.length := rfl
theorem head_app {a b : List Nat} (h : a ≠ []) : (a ++ b).head? = a.head? := by cases a with | nil => exact absurd rfl h | cons _ _ => rfl
theorem tl_slash : tl (Str.ofString "/") = [47] := by decide +kernel
theorem tl_nil : tl (Str.ofString "") = [] := by decide +kernel
theorem slash_eq : Str.ofString "/" = ⟨#[47]⟩ := by decide +kernel

theorem slice_head {x : Str} (h : (tl x).head? ≠ some 47) : (Txt.slice x none (some 1) != Str.ofString "/") = true := by
  rw [bne_iff_ne]
  intro e
  obtain ⟨⟨l⟩⟩ := x
  match l with
  | [] => exact absurd e (by decide +kernel)
  | a :: r =>
    have := slice_closes_to (x := ⟨⟨a :: r⟩⟩) (j := 1) ⟨by decide, by simp; omega⟩
    rw [beq_iff_eq] at this
    rw [this] at e
    have e2 := congrArg tl e
    rw [tl_slash] at e2
    simp [tl] at e2 h
    exact h e2
theorem starts_head {y : Str} (h : (tl y).head? ≠ some 47) : Txt.startswith y (Str.ofString "/") = false := by
  unfold Txt.startswith
  obtain ⟨⟨l⟩⟩ := y
  match l with
  | [] => decide +kernel
  | a :: r =>
    rw [Bool.and_eq_false_iff]
    right
    rw [slash_eq]
    unfold Builtin.Str.subAt
    rw [beq_eq_false_iff_ne]
    intro e
    have e2 := congrArg Array.toList e
    simp [Str.length] at e2
    exact h (by simp [tl, e2])
theorem ends_slash {x : Str} : Txt.endswith x (Str.ofString "/") = true ↔ ∃ x', x = x' ++ Str.ofString "/" := by
  unfold Txt.endswith
  rw [slash_eq]
  constructor
  · intro h
    rw [Bool.and_eq_true] at h
    obtain ⟨h1, h2⟩ := h
    unfold Builtin.Str.subAt at h2
    rw [beq_iff_eq] at h2
    have h1' : 1 ≤ x.length := by simpa [Str.length] using h1
    have e2 := congrArg Array.toList h2
    refine ⟨⟨((tl x).take (x.length - 1)).toArray⟩, tl_inj ?_⟩
    rw [tl_append]
    have e3 : (tl x).drop (x.length - 1) = [47] := by
      have : (tl x).drop (x.length - 1) = ((tl x).drop (x.length - 1)).take 1 := by
        rw [List.take_of_length_le]; rw [List.length_drop, tl_length]; omega
      rw [this]
      obtain ⟨⟨l⟩⟩ := x
      simp [Str.length] at e2 h1'
      simpa [tl, Str.length] using e2
    show tl x = (tl x).take (x.length - 1) ++ [47]
    rw [← e3, List.take_append_drop]
  · rintro ⟨x', rfl⟩
    rw [Bool.and_eq_true]
    have hl : (x' ++ (⟨#[47]⟩ : Str)).length = x'.length + 1 := Str.length_append _ _
    have h1 : (⟨#[47]⟩ : Str).length = 1 := rfl
    rw [hl, h1]
    refine ⟨by simp, ?_⟩
    unfold Builtin.Str.subAt
    rw [beq_iff_eq]
    obtain ⟨⟨l⟩⟩ := x'
    apply Array.toList_inj.mp
    have : ((⟨⟨l⟩⟩ : Str) ++ (⟨#[47]⟩ : Str)).cps = ⟨l ++ [47]⟩ := Array.toList_inj.mp (tl_append ⟨⟨l⟩⟩ ⟨#[47]⟩)
    rw [this]
    simp [Str.length]

theorem jn_head {x y : Str} (hx : (tl x).head? ≠ some 47) (hy : (tl y).head? ≠ some 47) : (tl (jnText x y)).head? ≠ some 47 := by
  unfold jnText
  by_cases h0 : x.length = 0
  · rw [if_pos h0]; exact hy
  · rw [if_neg h0]
    have hne : tl x ≠ [] := fun e => h0 (by rw [← tl_length, e]; rfl)
    split
    · rw [tl_append, head_app hne]; exact hx
    · rw [tl_append, head_app hne]; exact hx
theorem jn_len (x y : Str) : (jnText x y).length ≤ x.length + y.length + 1 := by
  have h1 : (Str.ofString "/").length = 1 := by decide +kernel
  unfold jnText
  split
  · omega
  · split
    · rw [Str.length_append]; omega
    · rw [Str.length_append, Str.length_append]; omega
theorem np_len {x : Str} (h : x.length ≤ 1000) : (npText x).length ≤ 1003002 := by
  have hd1 : (Str.ofString ".").length = 1 := by decide +kernel
  unfold npText
  split
  · omega
  · have hall : ∀ c ∈ npFold (Txt.split x (Str.ofString "/")), c.length ≤ 1000 := fun c hc => Nat.le_trans (part_short (npFold_mem hc)) h
    have h1 := sum_lens hall
    have h2 := npFold_length (Txt.split x (Str.ofString "/"))
    have h3 := split_le x (Str.ofString "/")
    have h4 : (npFold (Txt.split x (Str.ofString "/"))).length * 1000 ≤ 1002 * 1000 := Nat.mul_le_mul_right _ (by omega)
    have h6 : (Str.ofString "/").length = 1 := by decide +kernel
    unfold Txt.join
    rw [StrLaws.glued_eq_join]
    have h5 := StrLaws.join_length_le (Str.ofString "/") (npFold (Txt.split x (Str.ofString "/")))
    rw [h6] at h5
    omega

/-- what every step's name is like -/
structure NameOk (x : Str) : Prop where
  len : x.length ≤ 3
  pos : tl x ≠ []
  free : 47 ∉ tl x
  dot : x ≠ Str.ofString "."
theorem fmod_mem {l : List Str} {d : Str} {m : Int} (c : Int) (hm : (l.length : Int) = m) (hp : 0 < m) : l.getD (c.fmod m).toNat d ∈ l := by
  subst hm
  have h : (c.fmod l.length).toNat < l.length := (Int.toNat_lt (Int.fmod_nonneg_of_pos c hp)).mpr (Int.fmod_lt_of_pos c hp)
  rw [List.getD, List.getElem?_eq_getElem h]
  exact List.getElem_mem h
def six : List Str := [Str.ofString "a", Str.ofString "b", Str.ofString "ab", Str.ofString "a.", Str.ofString "...", Str.ofString ".b"]
theorem rawName_mem (c : Int) : rawName c ∈ six ∨ rawName c = ⟨#[(1 + (c.fdiv 7).fmod 55295).toNat]⟩ := by
  have h : rawName c ∈ six ++ [⟨#[(1 + (c.fdiv 7).fmod 55295).toNat]⟩] := fmod_mem (l := menu7 c) c rfl (by decide)
  exact (List.mem_append.mp h).imp id List.mem_singleton.mp
theorem six_ok : ∀ x ∈ six, x.length ≤ 3 ∧ tl x ≠ [] ∧ 47 ∉ tl x ∧ x ≠ Str.ofString "." ∧ x ≠ Str.ofString ".." := by decide +kernel
theorem lawName_ok (c : Int) : NameOk (lawName c) ∧ lawName c ≠ Str.ofString ".." := by
  unfold lawName
  by_cases h : rawName c = Str.ofString "/" ∨ rawName c = Str.ofString "."
  · rw [if_pos h]
    exact ⟨⟨by decide +kernel, by decide +kernel, by decide +kernel, by decide +kernel⟩, by decide +kernel⟩
  · rw [if_neg h]
    rcases rawName_mem c with e | e
    · obtain ⟨q1, q2, q3, q4, q5⟩ := six_ok _ e
      exact ⟨⟨q1, q2, q3, q4⟩, q5⟩
    · refine ⟨⟨by rw [e]; exact (by decide : 1 ≤ 3), by rw [e]; exact List.cons_ne_nil _ _, fun hm => h (.inl ?_), fun hm => h (.inr hm)⟩, fun hm => ?_⟩
      · rw [e] at hm ⊢
        generalize (1 + (c.fdiv 7).fmod 55295).toNat = k at hm
        have : (47 : Nat) = k := by simpa [tl] using hm
        rw [← this, slash_eq]
      · rw [e] at hm
        have e2 := congrArg (fun x : Str => x.cps.size) hm
        have e3 : (Str.ofString "..").cps.size = 2 := by decide +kernel
        exact absurd (e2.trans e3) (show (1 : Nat) ≠ 2 by decide)
def pre3 (code : Int) : Str := [Str.ofString "", Str.ofString "./", Str.ofString ".//"].getD (code.fmod 3).toNat (Str.ofString "")
def post5 (code : Int) : Str := [Str.ofString "", Str.ofString "/", Str.ofString "//", Str.ofString "/./", Str.ofString "/."].getD (code.fmod 5).toNat (Str.ofString "")
def stepName (code : Int) (up : Bool) : Str := if up then Str.ofString ".." else lawName code
def piece (cu : Int × Bool) : Str := (pre3 cu.1 ++ stepName cu.1 cu.2) ++ post5 cu.1
theorem pre3_mem (c : Int) : pre3 c ∈ [Str.ofString "", Str.ofString "./", Str.ofString ".//"] := fmod_mem c rfl (by decide)
theorem post5_mem (c : Int) : post5 c ∈ [Str.ofString "", Str.ofString "/", Str.ofString "//", Str.ofString "/./", Str.ofString "/."] := fmod_mem c rfl (by decide)
theorem pre3_cases (c : Int) : pre3 c = Str.ofString "" ∨ pre3 c = Str.ofString "./" ∨ pre3 c = Str.ofString ".//" :=
  (List.mem_cons.mp (pre3_mem c)).imp id fun h => (List.mem_cons.mp h).imp id List.mem_singleton.mp
theorem post5_cases (c : Int) : post5 c = Str.ofString "" ∨ post5 c = Str.ofString "/" ∨ post5 c = Str.ofString "//" ∨ post5 c = Str.ofString "/./" ∨ post5 c = Str.ofString "/." :=
  (List.mem_cons.mp (post5_mem c)).imp id fun h => (List.mem_cons.mp h).imp id fun h => (List.mem_cons.mp h).imp id fun h => (List.mem_cons.mp h).imp id List.mem_singleton.mp
theorem pre3_len (c : Int) : (pre3 c).length ≤ 3 := (by decide +kernel : ∀ x ∈ [Str.ofString "", Str.ofString "./", Str.ofString ".//"], x.length ≤ 3) _ (pre3_mem c)
theorem post5_len (c : Int) : (post5 c).length ≤ 3 := (by decide +kernel : ∀ x ∈ [Str.ofString "", Str.ofString "/", Str.ofString "//", Str.ofString "/./", Str.ofString "/."], x.length ≤ 3) _ (post5_mem c)
theorem stepName_ok (c : Int) (b : Bool) : NameOk (stepName c b) := by
  cases b
  · exact (lawName_ok c).1
  · show NameOk (Str.ofString "..")
    exact ⟨by decide +kernel, by decide +kernel, by decide +kernel, by decide +kernel⟩
theorem piece_head (cu : Int × Bool) : (tl (piece cu)).head? ≠ some 47 := by
  have hn := stepName_ok cu.1 cu.2
  unfold piece
  generalize stepName cu.1 cu.2 = n at hn
  have h1 : (tl n).head? ≠ some 47 := fun e => hn.free (List.mem_of_mem_head? e)
  have h2 : ∀ p : Str, tl p ≠ [] → (tl p).head? ≠ some 47 → (tl ((p ++ n) ++ post5 cu.1)).head? ≠ some 47 := fun p hp hq => by
    rw [tl_append, tl_append, head_app (by simp [hp]), head_app hp]; exact hq
  rcases pre3_cases cu.1 with e | e | e
  · rw [e, show Str.ofString "" ++ n = n from Str.empty_append n, tl_append, head_app hn.pos]; exact h1
  · rw [e]; exact h2 _ (by decide +kernel) (by decide +kernel)
  · rw [e]; exact h2 _ (by decide +kernel) (by decide +kernel)
end Strs

def pathOf (l : List (Int × Bool)) : Str := l.foldl (fun p cu => jnText p (piece cu)) (Str.ofString "")
def plainAt (l : List (Int × Bool)) (i : Nat) : Str := npText (pathOf (l.take i))
def lenT (x : Str) : Int := if x = Str.ofString "." then 0 else cntC x.cps.toList + 1
def cntT (x : Str) : Int := cntL (Txt.split x (Str.ofString "/"))
def lensTo (l : List (Int × Bool)) (i : Nat) : List Int := (List.range (i + 1)).map fun j => lenT (plainAt l j)
def cntsTo (l : List (Int × Bool)) (i : Nat) : List Int := (List.range (i + 1)).map fun j => cntT (plainAt l j)
theorem pathOf_take {l : List (Int × Bool)} {i : Nat} {cu : Int × Bool} (h : l[i]? = some cu) : pathOf (l.take (i + 1)) = jnText (pathOf (l.take i)) (piece cu) := by
  unfold pathOf
  rw [List.take_add_one, h]; simp
theorem lensTo_succ (l : List (Int × Bool)) (i : Nat) : lensTo l (i + 1) = lensTo l i ++ [lenT (plainAt l (i + 1))] := by unfold lensTo; rw [List.range_succ, List.map_append]; rfl
theorem cntsTo_succ (l : List (Int × Bool)) (i : Nat) : cntsTo l (i + 1) = cntsTo l i ++ [cntT (plainAt l (i + 1))] := by unfold cntsTo; rw [List.range_succ, List.map_append]; rfl

def RetT3 (h : Heap) (s : Shared) (Q : Value → Shared → Prop) (P : Nat → Obj → Obj → Value → Prop) : Prop := ∀ h' tk' (T D1 D2 : Nat) o1 o2 v, Stays h h' → s.toks ≤ tk' → h.get? T = none → h.get? D1 = none → h.get? D2 = none → T ≠ D1 → T ≠ D2 → D1 ≠ D2 →
  h'.get? T = some { cls := .type "tuple", data := .seq #[.ref D1, .ref D2, v] } → h'.get? D1 = some o1 → h'.get? D2 = some o2 → P tk' o1 o2 v → Q (.ref T) { s with heap := h', toks := tk' }

/-- an answer that is a str, with a fact about it -/
def RetSP (h : Heap) (s : Shared) (Q : Value → Shared → Prop) (x : Str) (P : Prop) : Prop := P → RetS h s Q x
theorem retSP {h₀ : Heap} {L : Addr} {m : Str → Option Value} {news : List (Addr × Obj)} {s : Shared} {Q : Value → Shared → Prop} {x : Str} {P : Prop} (F : Fr h₀ L s.heap m) (N : News h₀ L s.heap news)
   (k : P → ∀ (h' : Heap) (tk' t' : Nat), Fr h₀ L h' m → News h₀ L h' news → s.toks ≤ tk' → 0 < t' → t' < tk' → Q (.str x t') { s with heap := h', toks := tk' }) : RetSP s.heap s Q x P := fun p => retS F N (k p)
theorem retSP2 {h₀ : Heap} {L : Addr} {m : Str → Option Value} {news : List (Addr × Obj)} {s : Shared} {Q : Value → Shared → Prop} {x : Str} {P R : Prop} (F : Fr h₀ L s.heap m) (N : News h₀ L s.heap news)
   (k : ∀ (h' : Heap) (tk' t' : Nat), Fr h₀ L h' m → News h₀ L h' news → s.toks ≤ tk' → 0 < t' → t' < tk' → P → R → Q (.str x t') { s with heap := h', toks := tk' }) : RetSP s.heap s Q x (P ∧ R) := fun p => retS F N fun h' tk' t' F' N' q1 q2 q3 => k h' tk' t' F' N' q1 q2 q3 p.1 p.2
theorem kw38 : True := by
  k_with "my ret" => ((refine' retSP ?rF ?rN ?_; (case rF => k_asm); (case rN => k_asm); intro _ _ _ _ _ _ q9 p9 r9; k_sweep; (try dsimp only at q9 ⊢); revert q9 p9 r9; intro _ _ _))
  trivial
theorem kw39 : True := by
  k_with "my ret" => ((refine' retSP2 ?rF ?rN ?_; (case rF => k_asm); (case rN => k_asm); intro _ _ _ _ _ q9 p9 r9 a9 b9; k_sweep; (try dsimp only at q9 ⊢); revert q9 p9 r9 a9 b9; intro _ _ _ _ _))
  trivial
section
variable {w : World} {dp un : Nat} {fr : Option (List Env)} {gd : Option (List Code)} {s : Shared} {Q : Value → Shared → Prop} {E : Value → Shared → Prop} {x y : Str} {t u : Nat}
theorem c_nameL {x : Int} (W : Wd w s.heap) (hdep : dp < 900) (hun : un < 8000) (hpos : 0 < s.toks) (hx : 0 ≤ x) (hx2 : x ≤ 4294967296) (hret : RetSP s.heap s Q (lawName x) ((lawName x).length ≤ 3)) :
   wpAny (model PP w) (Ar dp fr gd un) (call (.ref 164) [.int x t]) Q E s := c_name W hdep hun hpos hx hx2 (hret (lawName_ok x).1.len)
theorem c_normpathL (W : Wd w s.heap) (hdep : dp < 880) (hun : un < 7800) (hpos : 0 < s.toks) (ht : 0 < t) (ht2 : t < s.toks) (hlen : x.length ≤ 1000) (hx0 : (tl x).head? ≠ some 47)
   (hret : RetSP s.heap s Q (npText x) ((npText x).length ≤ 1003002)) :
   wpAny (model PP w) (Ar dp fr gd un) (call (.ref 129) [.str x t]) Q E s := c_normpath W hdep hun hpos ht ht2 hlen (slice_head hx0) (hret (np_len hlen))
theorem c_joinL (W : Wd w s.heap) (hdep : dp < 880) (hun : un < 7800) (hpos : 0 < s.toks) (ht : 0 < t) (ht2 : t < s.toks) (hu : 0 < u) (hu2 : u < s.toks) (hlen : x.length ≤ 1000) (hlen2 : y.length ≤ 1000) (hx0 : (tl x).head? ≠ some 47) (hy0 : (tl y).head? ≠ some 47)
   (hret : RetSP s.heap s Q (jnText x y) ((jnText x y).length ≤ x.length + y.length + 1 ∧ (tl (jnText x y)).head? ≠ some 47)) :
   wpAny (model PP w) (Ar dp fr gd un) (call (.ref 115) [.str x t, .str y u]) Q E s := c_join W hdep hun hpos ht ht2 hu hu2 hlen hlen2 (starts_head hy0) (hret ⟨jn_len x y, jn_head hx0 hy0⟩)
theorem c_lengthL (W : Wd w s.heap) (hdep : dp < 890) (hun : un < 7900) (hpos : 0 < s.toks) (hret : RetI s.heap s Q (lenT x)) :
   wpAny (model PP w) (Ar dp fr gd un) (call (.ref 171) [.str x t]) Q E s := c_length W hdep hun hpos hret
theorem c_countLT {D : Addr} {lc : List (Str × Tok)} {B u : Nat} (e : lc.map (·.1) = Txt.split x (Str.ofString "/"))
   (W : Wd w s.heap) (hdep : dp < 900) (hun : un < 8000) (hpos : 0 < s.toks) (hl : s.heap.IsList D (strValues lc).toArray) (hlc : ∀ p ∈ lc, TokIn B p.2) (hB : B ≤ u) (hu : 0 < u) (hu2 : u < s.toks) (hret : RetI s.heap s Q (cntT x)) :
   wpAny (model PP w) (Ar dp fr gd un) (call (.ref 157) [.ref D, .str (Str.ofString "..") u]) Q E s := c_countL W hdep hun hpos hl hlc hB hu hu2 (by rw [e]; exact hret)
end
theorem kw40 : True := by
  k_with "call ref" => (( (k_dflt (refine' c_nameL ?cw ?cd ?cu ?ct (by walk_at "my lin") (by walk_at "my lin") ?_)); walk_at "my sides"; walk_at "my ret"))
  trivial
theorem kw41 : True := by
  k_with "call ref" => (( (k_dflt (refine' c_normpathL ?cw ?cd ?cu ?ct (by walk_at "my lin") (by ((try dsimp only); walk_at "my lin")) (by first | assumption | omega) (by assumption) ?_)); walk_at "my sides"; walk_at "my ret"))
  trivial
theorem kw42 : True := by
  k_with "call ref" => (( (k_dflt (refine' c_joinL ?cw ?cd ?cu ?ct (by walk_at "my lin") (by ((try dsimp only); walk_at "my lin")) (by walk_at "my lin") (by ((try dsimp only); walk_at "my lin")) (by first | assumption | omega) (by first | assumption | omega) (by assumption) (by assumption) ?_)); walk_at "my sides"; walk_at "my ret"))
  trivial
theorem kw43 : True := by
  k_with "call ref" => (( (k_dflt (refine' c_lengthL ?cw ?cd ?cu ?ct ?_)); walk_at "my sides"; walk_at "my ret"))
  trivial
theorem kw44 : True := by
  k_with "call ref" => (( (k_dflt (refine' c_countLT (by assumption) ?cw ?cd ?cu ?ct ?cl (by assumption) (by ((try dsimp only); walk_at "my lin")) (by ((try dsimp only); walk_at "my lin")) (by ((try dsimp only); walk_at "my lin")) ?_)); (case cl => is_list); walk_at "my sides"; walk_at "my ret"))
  trivial
section Menus
variable {prog : Program} {w : World} {A : Around} {E : Value → Shared → Prop} {s : Shared} {h₀ : Heap} {L D : Addr} {news : List (Addr × Obj)} {n : Nat}
theorem item_pre3 {t1 t2 t3 : Nat} {value slice : PySem.Expr} {c : Int} {u : Tok} {Q : Value → Shared → Prop} (N : News h₀ L s.heap news) (hm : (D, PySem.W.listOf #[.str (Str.ofString "") t1, .str (Str.ofString "./") t2, .str (Str.ofString ".//") t3] n) ∈ news)
    (htk : ∀ p ∈ [(Str.ofString "", t1), (Str.ofString "./", t2), (Str.ofString ".//", t3)], TokIn s.toks p.2) (h : ∀ t : Nat, 0 < t → t < s.toks → Q (.str (pre3 c) t) s)
    (hs : subscripted slice false (.ref D) (.int (c.fmod 3) u) = operate [.ref D, .int (c.fmod 3) u] (getItem (.ref D) (.int (c.fmod 3) u))) :
    wpAny (model prog w) A (subscriptTail value slice (.ref D) (.int (c.fmod 3) u)) Q E s :=
  item_menu [(Str.ofString "", t1), (Str.ofString "./", t2), (Str.ofString ".//", t3)] N hm (Int.fmod_nonneg_of_pos c (by decide)) (Int.fmod_lt_of_pos c (by decide)) (Nat.le_of_ble_eq_true rfl) htk h hs
theorem item_post5 {t1 t2 t3 t4 t5 : Nat} {value slice : PySem.Expr} {c : Int} {u : Tok} {Q : Value → Shared → Prop} (N : News h₀ L s.heap news) (hm : (D, PySem.W.listOf #[.str (Str.ofString "") t1, .str (Str.ofString "/") t2, .str (Str.ofString "//") t3, .str (Str.ofString "/./") t4, .str (Str.ofString "/.") t5] n) ∈ news)
    (htk : ∀ p ∈ [(Str.ofString "", t1), (Str.ofString "/", t2), (Str.ofString "//", t3), (Str.ofString "/./", t4), (Str.ofString "/.", t5)], TokIn s.toks p.2) (h : ∀ t : Nat, 0 < t → t < s.toks → Q (.str (post5 c) t) s)
    (hs : subscripted slice false (.ref D) (.int (c.fmod 5) u) = operate [.ref D, .int (c.fmod 5) u] (getItem (.ref D) (.int (c.fmod 5) u))) :
    wpAny (model prog w) A (subscriptTail value slice (.ref D) (.int (c.fmod 5) u)) Q E s :=
  item_menu [(Str.ofString "", t1), (Str.ofString "/", t2), (Str.ofString "//", t3), (Str.ofString "/./", t4), (Str.ofString "/.", t5)] N hm (Int.fmod_nonneg_of_pos c (by decide)) (Int.fmod_lt_of_pos c (by decide)) (Nat.le_of_ble_eq_true rfl) htk h hs
end Menus
theorem kw45 : True := by
  k_with "subscriptTail List cons BinOp ref int" => (((with_reducible show wpAny _ _ (subscriptTail _ _ _ (Value.int (Int.fmod _ 3) _)) _ _ _); k_dflt (refine' item_pre3 ?kN ?km ?kt ?_ ?ks); (case kN => k_asm); (case km => k_mem); (case ks => with_unfolding_all rfl); (case kt => walk_at "my toks"); intro _ _ r9; (try dsimp only at r9); revert r9; intro _))
  trivial
theorem kw46 : True := by
  k_with "subscriptTail List cons BinOp ref int" => (((with_reducible show wpAny _ _ (subscriptTail _ _ _ (Value.int (Int.fmod _ 5) _)) _ _ _); k_dflt (refine' item_post5 ?kN ?km ?kt ?_ ?ks); (case kN => k_asm); (case km => k_mem); (case ks => with_unfolding_all rfl); (case kt => walk_at "my toks"); intro _ _ r9; (try dsimp only at r9); revert r9; intro _))
  trivial
theorem pathOf_ok (l : List (Int × Bool)) : (pathOf l).length ≤ 10 * l.length ∧ (tl (pathOf l)).head? ≠ some 47 := by
  have main : ∀ (l : List (Int × Bool)) (p : Str), (tl p).head? ≠ some 47 → (l.foldl (fun p cu => jnText p (piece cu)) p).length ≤ p.length + 10 * l.length ∧ (tl (l.foldl (fun p cu => jnText p (piece cu)) p)).head? ≠ some 47 := by
    intro l
    induction l with
    | nil => intro p hp; exact ⟨by simp, hp⟩
    | cons cu l ih =>
      intro p hp
      have h1 := ih (jnText p (piece cu)) (jn_head hp (piece_head cu))
      have h2 := jn_len p (piece cu)
      have h3 : (piece cu).length ≤ 9 := by
        unfold piece
        rw [Str.length_append, Str.length_append]
        have := pre3_len cu.1
        have := post5_len cu.1
        have := (stepName_ok cu.1 cu.2).len
        omega
      rw [List.foldl_cons, List.length_cons]
      exact ⟨by omega, h1.2⟩
  have := main l (Str.ofString "") (by decide +kernel)
  have e : (Str.ofString "").length = 0 := by decide +kernel
  rw [e, Nat.zero_add] at this
  exact this
theorem lookup2 {a b : Str} {u v : Value} (y : Str) : List.lookup y [(a, u), (b, v)].reverse = if y = b then some v else if y = a then some u else none := by
  show (match y == b with | true => some v | false => (match y == a with | true => some u | false => none)) = _
  by_cases h1 : y = b
  · simp [h1]
  · have e1 : (y == b) = false := by simpa using h1
    by_cases h2 : y = a
    · rw [e1, if_neg h1, if_pos h2]; simp [h2]
    · have e2 : (y == a) = false := by simpa using h2
      rw [e1, e2]; simp [h1, h2]
theorem news_sub {h₀ h : Heap} {L : Addr} {n1 n2 : List (Addr × Obj)} (N : News h₀ L h n1) (hs : ∀ p ∈ n2, p ∈ n1) : News h₀ L h n2 := fun p hp => N p (hs p hp)
/-- a step whose ways meet in one str -/
theorem via_str {M : Model} {A : Around} {E : Value → Shared → Prop} {s : Shared} {Q : Value → Shared → Prop} {h₀ : Heap} {L : Addr} {m : Str → Option Value} {news : List (Addr × Obj)} {tree : Sem Value} (x : Str) (F : Fr h₀ L s.heap m) (N : News h₀ L s.heap news)
   (h1 : ∀ Q' : Value → Shared → Prop, (∀ (h' : Heap) (tk' t' : Nat), Fr h₀ L h' m → News h₀ L h' news → s.toks ≤ tk' → 0 < t' → t' < tk' → Q' (.str x t') { s with heap := h', toks := tk' }) → wpAny M A tree Q' E s)
   (h2 : ∀ (h' : Heap) (tk' t' : Nat), Fr h₀ L h' m → News h₀ L h' news → s.toks ≤ tk' → 0 < t' → t' < tk' → Q (.str x t') { s with heap := h', toks := tk' }) : wpAny M A tree Q E s := h1 Q h2
def NoStop : Prop := True
theorem kw47 : True := by
  k_with "eval IfExp" => (((fail_if_success (have ns9 : NoStop := by with_reducible assumption)); refine Stop.out ?_))
  trivial
theorem kw48 : True := by
  k_with "call type:zip" => (refine Stop.out ?_)
  trivial
structure FSt where
  path : Str
  tp : Nat
  plain : Str
  tq : Nat
  nm : Option Value
  ls : List Value
  n1 : Nat
  cs : List Value
  n2 : Nat

def fFrm (L1 L2 Dc Du : Addr) (a : FSt) (z : Str) : Option Value :=
  if z = Str.ofString "plain" then some (.str a.plain a.tq) else if z = Str.ofString "path" then some (.str a.path a.tp) else if z = Str.ofString "name" then a.nm else
  if z = Str.ofString "counts" then some (.ref L2) else if z = Str.ofString "lengths" then some (.ref L1) else
  if z = Str.ofString "ups" then some (.ref Du) else if z = Str.ofString "codes" then some (.ref Dc) else none

theorem c_fronts {w : World} {dp un : Nat} {fr : Option (List Env)} {gd : Option (List Code)} {s : Shared} {Q : Value → Shared → Prop} {E : Value → Shared → Prop} {Dc Du : Addr} {vs₁ : List Value} {codes : List Int} {ups : List Bool}
   (W : Wd w s.heap) (hdep : dp < 870) (hun : un < 7700) (hpos : 0 < s.toks) (hl1 : s.heap.IsList Dc vs₁.toArray) (hI : IntsAre vs₁ codes) (hl2 : s.heap.IsList Du (ups.map Value.bool).toArray)
   (hc : ∀ c ∈ codes, 0 ≤ c ∧ c ≤ 4294967296) (hlen : codes.length ≤ 6) (hlu : ups.length = codes.length)
   (hret : RetT3 s.heap s Q fun tk o1 o2 v => ∃ vs1 n1 vs2 n2 t, o1 = PySem.W.listOf vs1.toArray n1 ∧ IntsAre vs1 (lensTo (codes.zip ups) codes.length) ∧ o2 = PySem.W.listOf vs2.toArray n2 ∧ IntsAre vs2 (cntsTo (codes.zip ups) codes.length) ∧ v = .str (plainAt (codes.zip ups) codes.length) t ∧ TokIn tk t) :
   wpAny (model PP w) (Ar dp fr gd un) (call (.ref 178) [.ref Dc, .ref Du]) Q E s := by
  have W' := W
  obtain ⟨X, mean, mg, mb, T⟩ := W'
  refine' enter (K := hd.heap_39 _) (binds := [(Str.ofString "codes", .ref Dc), (Str.ofString "ups", .ref Du)]) X T ?a ?b ?c ?d ?e ?k ?k1 ?k2 ?k3 ?k4
  walk_at "my enter"
  intro L h₁ F N
  have hx0 : (tl (Str.ofString "")).head? ≠ some 47 := by decide +kernel
  have hx1 : (Str.ofString "").length ≤ 1000 := by decide
  k_steps
  rename_i hA P0 hB tkB tB qB pB rB hC hD tkD tD qD L1 hE l1 hF Ds lc hG kG eG xG yG zG lG hH tkH tH qH L2 hI1 lI hJ F' N'
  refine Stop.mk ?_
  refine for_restP ?_ (fun _ => rfl)
  have e0 : npText (Str.ofString "") = plainAt (codes.zip ups) 0 := rfl
  k_steps
  refine Stop.mk ?_
  have N'' : News s.heap L hJ [(L2, PySem.W.listOf [Value.int (cntT (npText (Str.ofString ""))) tH].toArray 0), (L1, PySem.W.listOf [Value.int (lenT (npText (Str.ofString ""))) tD].toArray 0)] := news_sub N' (by simp)
  clear N'
  have hL1K : @LT.lt Nat _ L1 hJ.objs.size := Heap.lt_size (N'' _ (.tail _ (.head _))).1
  have hL2K : @LT.lt Nat _ L2 hJ.objs.size := Heap.lt_size (N'' _ (.head _)).1
  have hL12 : @LT.lt Nat _ L1 L2 := lI.2
  refine zip_go (L := L) (fFrm L1 L2 Dc Du) (fun a : FSt => [(L2, PySem.W.listOf a.cs.toArray a.n2), (L1, PySem.W.listOf a.ls.toArray a.n1)])
    (fun B i a => (a.path = pathOf ((codes.zip ups).take i) ∧ TokIn B a.tp) ∧ (a.plain = plainAt (codes.zip ups) i ∧ TokIn B a.tq) ∧ IntsAre a.ls (lensTo (codes.zip ups) i) ∧ IntsAre a.cs (cntsTo (codes.zip ups) i))
    (FSt.mk (Str.ofString "") (s.toks + 2) (npText (Str.ofString "")) tB none [Value.int (lenT (npText (Str.ofString ""))) tD] 0 [Value.int (cntT (npText (Str.ofString ""))) tH] 0)
    rfl (fun tk tk' i a hk h => ⟨⟨h.1.1, h.1.2.1, Nat.lt_of_lt_of_le h.1.2.2 hk⟩, ⟨h.2.1.1, h.2.1.2.1, Nat.lt_of_lt_of_le h.2.1.2.2 hk⟩, h.2.2⟩) rfl rfl rfl rfl hl1 hl2 F' N'' ?_ ?_ rfl ?_ ?_
  · refine ⟨⟨rfl, ?_⟩, ⟨rfl, pB, ?_⟩, .cons _ _ .nil, .cons _ _ .nil⟩
    · exact ⟨Nat.succ_pos _, by dsimp only [List.length_cons, List.length_nil] at *; walk_at "my lin"⟩
    · dsimp only; walk_at "my lin"
  · intro z h1 h2
    dsimp only [fFrm]
    rw [lookup2]
    by_cases z1 : z = Str.ofString "counts"
    · subst z1; rfl
    by_cases z2 : z = Str.ofString "lengths"
    · subst z2; rfl
    by_cases z3 : z = Str.ofString "plain"
    · subst z3; rfl
    by_cases z4 : z = Str.ofString "path"
    · subst z4; rfl
    by_cases z5 : z = Str.ofString "name"
    · subst z5; rfl
    simp only [if_neg z1, if_neg z2, if_neg z3, if_neg z4, if_neg z5]
  · rintro i v0 v1 ⟨path, tp, plain, tq, nm, ls, n1, cs, n2⟩ b1 b2 b3 b4 b5 o1 o2 o3 o4 o5 h tk htk hv0 hv1 ⟨⟨hpa, htp1, htp2⟩, ⟨hpl, htq1, htq2⟩, hls, hcs⟩ hbs ne1 ne2 ne3 ne4 ne5 F₁ N₁
    dsimp only at hpa htp1 htp2 hpl htq1 htq2 hls hcs htk
    clear hbs
    replace ne1 : AllNe b1 [(L2, PySem.W.listOf cs.toArray n2), (L1, PySem.W.listOf ls.toArray n1)] := ne1
    replace ne2 : AllNe b2 [(L2, PySem.W.listOf cs.toArray n2), (L1, PySem.W.listOf ls.toArray n1)] := ne2
    replace ne3 : AllNe b3 [(L2, PySem.W.listOf cs.toArray n2), (L1, PySem.W.listOf ls.toArray n1)] := ne3
    replace ne4 : AllNe b4 [(L2, PySem.W.listOf cs.toArray n2), (L1, PySem.W.listOf ls.toArray n1)] := ne4
    replace ne5 : AllNe b5 [(L2, PySem.W.listOf cs.toArray n2), (L1, PySem.W.listOf ls.toArray n1)] := ne5
    dsimp only [AllNe] at ne1 ne2 ne3 ne4 ne5
    clear F' N''
    have hil : i < codes.length := by
      have := (List.getElem?_eq_some_iff.mp hv0).1
      rw [IntsAre.length hI] at this; exact this
    obtain ⟨tc, rfl⟩ := IntsAre.int_at hI i v0 hv0
    have hci : codes[i]? = some (codes.getD i 0) := by simp [List.getD, hil]
    have hcb := hc _ (List.mem_of_getElem? hci)
    generalize codes.getD i 0 = c at hci hcb F₁
    obtain ⟨hc0, hc1⟩ := hcb
    rw [List.getElem?_map] at hv1
    cases hb : ups[i]? with
    | none => rw [hb] at hv1; cases hv1
    | some b =>
    rw [hb] at hv1
    obtain rfl := (Option.some.inj hv1).symm
    have hz : (codes.zip ups)[i]? = some (c, b) := List.getElem?_zip_eq_some.mpr ⟨hci, hb⟩
    have hpt := pathOf_take hz
    have hpo := pathOf_ok ((codes.zip ups).take i)
    have hi6 : i ≤ 6 := Nat.le_trans (Nat.le_of_lt hil) hlen
    have hlt : ((codes.zip ups).take i).length ≤ 6 := Nat.le_trans (List.length_take_le _ _) hi6
    rw [← hpa] at hpt hpo
    obtain ⟨hpo1, hpo2⟩ := hpo
    have hpo3 : path.length ≤ 60 := Nat.le_trans hpo1 (Nat.mul_le_mul_left 10 hlt)
    have hpo4 : path.length ≤ 1000 := leN1 hpo3 rfl
    have g1 := pre3_len c
    have g2 := post5_len c
    have hph := piece_head (c, b)
    have hll : ls.length ≤ 10 := by rw [IntsAre.length hls, lensTo, List.length_map, List.length_range]; exact leN1 (Nat.succ_le_succ hi6) rfl
    have hcl : cs.length ≤ 10 := by rw [IntsAre.length hcs, cntsTo, List.length_map, List.length_range]; exact leN1 (Nat.succ_le_succ hi6) rfl
    dsimp only [fFrm] at F₁
    dsimp only at N₁
    replace hph : (tl (pre3 c ++ stepName c b ++ post5 c)).head? ≠ some 47 := hph
    replace hpt : pathOf (List.take (i + 1) (codes.zip ups)) = jnText path (pre3 c ++ stepName c b ++ post5 c) := hpt
    have g3 := (stepName_ok c b).len
    k_steps
    rename Fr _ _ _ _ => F₂
    rename News _ _ _ _ => N₂
    refine Stop.mk ?_
    refine via_str (stepName c b) F₂ N₂ ?_ ?_
    · intro Q' hQ'
      clear hpt hph g3
      have ns : NoStop := trivial
      cases b
      · k_steps
        have e : lawName c = stepName c false := rfl
        rw [e]
        exact hQ' _ _ _ (by assumption) (by assumption) (by assumption) (by assumption) (by assumption)
      · k_steps
        have e : Str.ofString ".." = stepName c true := rfl
        rw [e]
        exact hQ' _ _ _ (by assumption) (by assumption) (Nat.le_succ _) (by ((try dsimp only); walk_at "my lin")) (Nat.lt_succ_self _)
    · intro hz tkz tz F₃ N₃ qz pz rz
      clear F₂ N₂
      dsimp only at qz ⊢
      generalize stepName c b = nx at hph hpt g3 F₃ ⊢
      have g4 : (pre3 c ++ nx).length ≤ 6 := by rw [Str.length_append]; exact Nat.add_le_add g1 g3
      have g5 : (pre3 c ++ nx ++ post5 c).length ≤ 9 := by rw [Str.length_append]; exact Nat.add_le_add g4 g2
      have g6 : (pre3 c ++ nx ++ post5 c).length ≤ 1000 := leN1 g5 rfl
      have g7 : (jnText path (pre3 c ++ nx ++ post5 c)).length ≤ 1000 := Nat.le_trans (jn_len path _) (leN1 (Nat.add_le_add_right (Nat.add_le_add hpo3 g5) 1) rfl)
      k_steps
      rename_i tkj tj qj pj rj Pja Pjb hj3 Pn hn3 tkn tn qn pn rn hh2 hh3 tkl tln ql hh1 D9 lc9 h91 k9 e9 x9 y9 z9 l9 h9 tkc tcn qc hz' Fz Nz
      have epl : plainAt (codes.zip ups) (i + 1) = npText (jnText path (pre3 c ++ nx ++ post5 c)) := by show npText _ = npText _; rw [hpt]
      simp only [List.push_toArray] at Nz
      refine turnZN (FSt.mk (jnText path (pre3 c ++ nx ++ post5 c)) tj (npText (jnText path (pre3 c ++ nx ++ post5 c))) tn (some (Value.str nx tz)) (ls ++ [Value.int (lenT (npText (jnText path (pre3 c ++ nx ++ post5 c)))) tln]) (n1 + 1) (cs ++ [Value.int (cntT (npText (jnText path (pre3 c ++ nx ++ post5 c)))) tcn]) (n2 + 1)) Fz
        (news_sub Nz fun p hp => List.mem_cons_of_mem _ (List.mem_cons_of_mem _ (List.mem_cons_of_mem _ hp))) ⟨⟨hpt.symm, pj, ?_⟩, ⟨epl.symm, pn, ?_⟩, ?_, ?_⟩ ?_ (notin_allNe ⟨by k_ne, by k_ne, trivial⟩ ⟨by k_ne, by k_ne, trivial⟩ ⟨by k_ne, by k_ne, trivial⟩ ⟨by k_ne, by k_ne, trivial⟩ ⟨by k_ne, by k_ne, trivial⟩)
      · (try dsimp only); walk_at "my lin"
      · (try dsimp only); walk_at "my lin"
      · rw [lensTo_succ, epl]; exact IntsAre.append hls (.cons _ _ .nil)
      · rw [cntsTo_succ, epl]; exact IntsAre.append hcs (.cons _ _ .nil)
      · intro z h1 h2
        dsimp only [fFrm]
        by_cases z1 : z = Str.ofString "plain"
        · simp only [if_pos z1]
        by_cases z2 : z = Str.ofString "path"
        · simp only [if_neg z1, if_pos z2]
        by_cases z3 : z = Str.ofString "name"
        · simp only [if_neg z1, if_neg z2, if_pos z3]
        simp only [if_neg z1, if_neg z2, if_neg z3, if_neg h1, if_neg h2]
  · intro a u u' h tk htk hinv F₁ N₁
    obtain ⟨-, ⟨hpl, htq⟩, hls, hcs⟩ := hinv
    have hmin : min vs₁.length (ups.map Value.bool).length = codes.length := by rw [IntsAre.length hI, List.length_map, hlu, Nat.min_self]
    rw [hmin] at hpl hls hcs
    dsimp only [fFrm] at F₁
    clear F' N''
    k_steps
    rename_i D' hh' Fz Nz ll
    intro hk
    have m1 : ∀ p ∈ [(L2, PySem.W.listOf a.cs.toArray a.n2), (L1, PySem.W.listOf a.ls.toArray a.n1)], @Ne Nat D' p.1 := by
      intro p hp
      simp only [List.mem_cons, List.not_mem_nil, or_false] at hp
      rcases hp with rfl | rfl
      · exact Nat.ne_of_gt ll.1
      · exact Nat.ne_of_gt ll.2
    exact hret _ _ D' L1 L2 _ _ _ (Fr.keep Fz) hk (News.fresh Nz (.head _)) (News.fresh Nz (.tail _ (.tail _ (.head _)))) (News.fresh Nz (.tail _ (.head _))) (m1 _ (.tail _ (.head _))) (m1 _ (.head _)) (Nat.ne_of_lt hL12)
      (News.get Nz (.head _)) (News.get Nz (.tail _ (.tail _ (.head _)))) (News.get Nz (.tail _ (.head _))) ⟨a.ls, a.n1, a.cs, a.n2, a.tq, rfl, hls, rfl, hcs, by rw [hpl], htq⟩

theorem kwreset_a : True := by
  k_with_none
  k_with "my lt" => ((first | with_reducible assumption | with_reducible exact Nat.zero_lt_of_lt (by with_reducible assumption) | with_reducible exact Nat.succ_pos _ | with_reducible exact lth 0 (by with_reducible assumption) | with_reducible exact lth 1 (by with_reducible assumption) | with_reducible exact lth 2 (by with_reducible assumption) | with_reducible exact lth 3 (by with_reducible assumption) | with_reducible exact lth 4 (by with_reducible assumption) | with_reducible exact lth 5 (by with_reducible assumption) | with_reducible exact lth 6 (by with_reducible assumption) | with_reducible exact lth 7 (by with_reducible assumption) | with_reducible exact lth 8 (by with_reducible assumption) | with_reducible exact lth 9 (by with_reducible assumption) | with_reducible exact lth 10 (by with_reducible assumption) | with_reducible exact lth 11 (by with_reducible assumption) | with_reducible exact lth 12 (by with_reducible assumption) | with_reducible exact lta 1 (by with_reducible assumption) | with_reducible exact lta 2 (by with_reducible assumption) | with_reducible exact lta 3 (by with_reducible assumption) | with_reducible exact lta 4 (by with_reducible assumption) | with_reducible exact lta 5 (by with_reducible assumption) | with_reducible exact lta 6 (by with_reducible assumption) | with_reducible exact lta 7 (by with_reducible assumption) | with_reducible exact lta 8 (by with_reducible assumption) | with_reducible exact lta 9 (by with_reducible assumption) | with_reducible exact lta 10 (by with_reducible assumption) | with_reducible exact lta 11 (by with_reducible assumption) | with_reducible exact lta 12 (by with_reducible assumption) | with_reducible exact lta 13 (by with_reducible assumption) | with_reducible exact lta 14 (by with_reducible assumption) | with_reducible exact lta 15 (by with_reducible assumption) | with_reducible exact lta 16 (by with_reducible assumption) | with_reducible exact lta 17 (by with_reducible assumption) | with_reducible exact lta 18 (by with_reducible assumption) | with_reducible exact lta 19 (by with_reducible assumption) | with_reducible exact lta 20 (by with_reducible assumption) | with_reducible exact lta 21 (by with_reducible assumption) | with_reducible exact lts 0 | with_reducible exact lts 1 | with_reducible exact lts 2 | with_reducible exact lts 3 | with_reducible exact lts 4 | with_reducible exact lts 5 | with_reducible exact lts 6 | with_reducible exact lts 7 | with_reducible exact lts 8 | with_reducible exact lts 9 | with_reducible exact lts 10 | with_reducible exact lts 11 | with_reducible exact lts 12 | with_reducible exact ltp 0 (by with_reducible assumption) | with_reducible exact ltp 1 (by with_reducible assumption) | with_reducible exact ltp 2 (by with_reducible assumption) | with_reducible exact ltp 3 (by with_reducible assumption) | with_reducible exact ltp 4 (by with_reducible assumption) | with_reducible exact ltp 5 (by with_reducible assumption) | with_reducible exact ltp 6 (by with_reducible assumption) | with_reducible exact ltp 7 (by with_reducible assumption) | with_reducible exact ltp 8 (by with_reducible assumption) | with_reducible exact ltp 9 (by with_reducible assumption) | with_reducible exact ltp 10 (by with_reducible assumption) | with_reducible exact ltp 11 (by with_reducible assumption) | with_reducible exact ltp 12 (by with_reducible assumption) | ((first | with_reducible refine ltk 22 ?_ | with_reducible refine ltk 21 ?_ | with_reducible refine ltk 20 ?_ | with_reducible refine ltk 19 ?_ | with_reducible refine ltk 18 ?_ | with_reducible refine ltk 17 ?_ | with_reducible refine ltk 16 ?_ | with_reducible refine ltk 15 ?_ | with_reducible refine ltk 14 ?_ | with_reducible refine ltk 13 ?_ | with_reducible refine ltk 12 ?_ | with_reducible refine ltk 11 ?_ | with_reducible refine ltk 10 ?_ | with_reducible refine ltk 9 ?_ | with_reducible refine ltk 8 ?_ | with_reducible refine ltk 7 ?_ | with_reducible refine ltk 6 ?_ | with_reducible refine ltk 5 ?_ | with_reducible refine ltk 4 ?_ | with_reducible refine ltk 3 ?_ | with_reducible refine ltk 2 ?_ | with_reducible refine ltk 1 ?_ | skip); first | with_reducible assumption | ((first | with_reducible refine ltc 22 (by with_reducible assumption) ?_ | with_reducible refine ltc 21 (by with_reducible assumption) ?_ | with_reducible refine ltc 20 (by with_reducible assumption) ?_ | with_reducible refine ltc 19 (by with_reducible assumption) ?_ | with_reducible refine ltc 18 (by with_reducible assumption) ?_ | with_reducible refine ltc 17 (by with_reducible assumption) ?_ | with_reducible refine ltc 16 (by with_reducible assumption) ?_ | with_reducible refine ltc 15 (by with_reducible assumption) ?_ | with_reducible refine ltc 14 (by with_reducible assumption) ?_ | with_reducible refine ltc 13 (by with_reducible assumption) ?_ | with_reducible refine ltc 12 (by with_reducible assumption) ?_ | with_reducible refine ltc 11 (by with_reducible assumption) ?_ | with_reducible refine ltc 10 (by with_reducible assumption) ?_ | with_reducible refine ltc 9 (by with_reducible assumption) ?_ | with_reducible refine ltc 8 (by with_reducible assumption) ?_ | with_reducible refine ltc 7 (by with_reducible assumption) ?_ | with_reducible refine ltc 6 (by with_reducible assumption) ?_ | with_reducible refine ltc 5 (by with_reducible assumption) ?_ | with_reducible refine ltc 4 (by with_reducible assumption) ?_ | with_reducible refine ltc 3 (by with_reducible assumption) ?_ | with_reducible refine ltc 2 (by with_reducible assumption) ?_ | with_reducible refine ltc 1 (by with_reducible assumption) ?_ | with_reducible refine lt0 (by with_reducible assumption) ?_); walk_at "my lt"))))
  k_with "my le" => ((first | with_reducible assumption | with_reducible exact Nat.le_refl _ | with_reducible exact Nat.le_of_lt (by with_reducible assumption) | with_reducible exact leN1 (by with_reducible assumption) rfl | with_reducible exact leN2 (by with_reducible assumption) (by with_reducible assumption) rfl | with_reducible exact leh 1 (by with_reducible assumption) | with_reducible exact leh 2 (by with_reducible assumption) | with_reducible exact leh 3 (by with_reducible assumption) | with_reducible exact leh 4 (by with_reducible assumption) | with_reducible exact leh 5 (by with_reducible assumption) | with_reducible exact leh 6 (by with_reducible assumption) | with_reducible exact leh 7 (by with_reducible assumption) | with_reducible exact leh 8 (by with_reducible assumption) | with_reducible exact leh 9 (by with_reducible assumption) | with_reducible exact leh 10 (by with_reducible assumption) | with_reducible exact leh 11 (by with_reducible assumption) | with_reducible exact leh 12 (by with_reducible assumption) | with_reducible exact lea 1 (by with_reducible assumption) | with_reducible exact lea 2 (by with_reducible assumption) | with_reducible exact lea 3 (by with_reducible assumption) | with_reducible exact lea 4 (by with_reducible assumption) | with_reducible exact lea 5 (by with_reducible assumption) | with_reducible exact lea 6 (by with_reducible assumption) | with_reducible exact lea 7 (by with_reducible assumption) | with_reducible exact lea 8 (by with_reducible assumption) | with_reducible exact lea 9 (by with_reducible assumption) | with_reducible exact lea 10 (by with_reducible assumption) | with_reducible exact lea 11 (by with_reducible assumption) | with_reducible exact lea 12 (by with_reducible assumption) | with_reducible exact lea 13 (by with_reducible assumption) | with_reducible exact lea 14 (by with_reducible assumption) | with_reducible exact lea 15 (by with_reducible assumption) | with_reducible exact lea 16 (by with_reducible assumption) | with_reducible exact lea 17 (by with_reducible assumption) | with_reducible exact lea 18 (by with_reducible assumption) | with_reducible exact lea 19 (by with_reducible assumption) | with_reducible exact lea 20 (by with_reducible assumption) | with_reducible exact lea 21 (by with_reducible assumption) | with_reducible exact les 1 | with_reducible exact les 2 | with_reducible exact les 3 | with_reducible exact les 4 | with_reducible exact les 5 | with_reducible exact les 6 | with_reducible exact les 7 | with_reducible exact les 8 | with_reducible exact les 9 | with_reducible exact les 10 | with_reducible exact les 11 | with_reducible exact les 12 | ((first | with_reducible refine lek 22 ?_ | with_reducible refine lek 21 ?_ | with_reducible refine lek 20 ?_ | with_reducible refine lek 19 ?_ | with_reducible refine lek 18 ?_ | with_reducible refine lek 17 ?_ | with_reducible refine lek 16 ?_ | with_reducible refine lek 15 ?_ | with_reducible refine lek 14 ?_ | with_reducible refine lek 13 ?_ | with_reducible refine lek 12 ?_ | with_reducible refine lek 11 ?_ | with_reducible refine lek 10 ?_ | with_reducible refine lek 9 ?_ | with_reducible refine lek 8 ?_ | with_reducible refine lek 7 ?_ | with_reducible refine lek 6 ?_ | with_reducible refine lek 5 ?_ | with_reducible refine lek 4 ?_ | with_reducible refine lek 3 ?_ | with_reducible refine lek 2 ?_ | with_reducible refine lek 1 ?_ | skip); first | with_reducible assumption | ((first | with_reducible refine lec 22 (by with_reducible assumption) ?_ | with_reducible refine lec 21 (by with_reducible assumption) ?_ | with_reducible refine lec 20 (by with_reducible assumption) ?_ | with_reducible refine lec 19 (by with_reducible assumption) ?_ | with_reducible refine lec 18 (by with_reducible assumption) ?_ | with_reducible refine lec 17 (by with_reducible assumption) ?_ | with_reducible refine lec 16 (by with_reducible assumption) ?_ | with_reducible refine lec 15 (by with_reducible assumption) ?_ | with_reducible refine lec 14 (by with_reducible assumption) ?_ | with_reducible refine lec 13 (by with_reducible assumption) ?_ | with_reducible refine lec 12 (by with_reducible assumption) ?_ | with_reducible refine lec 11 (by with_reducible assumption) ?_ | with_reducible refine lec 10 (by with_reducible assumption) ?_ | with_reducible refine lec 9 (by with_reducible assumption) ?_ | with_reducible refine lec 8 (by with_reducible assumption) ?_ | with_reducible refine lec 7 (by with_reducible assumption) ?_ | with_reducible refine lec 6 (by with_reducible assumption) ?_ | with_reducible refine lec 5 (by with_reducible assumption) ?_ | with_reducible refine lec 4 (by with_reducible assumption) ?_ | with_reducible refine lec 3 (by with_reducible assumption) ?_ | with_reducible refine lec 2 (by with_reducible assumption) ?_ | with_reducible refine lec 1 (by with_reducible assumption) ?_ | with_reducible refine le0 (by with_reducible assumption) ?_); walk_at "my le"))))
  k_with "my ne" => ((first | with_reducible assumption | with_reducible exact Ne.symm (by with_reducible assumption) | with_reducible exact Nat.ne_of_lt (by with_reducible assumption) | with_reducible exact Nat.ne_of_gt (by with_reducible assumption) | with_reducible exact And.right (by with_reducible assumption) | with_reducible exact Ne.symm (And.right (by with_reducible assumption)) | with_reducible exact Nat.ne_of_lt (And.right (by with_reducible assumption)) | with_reducible exact Nat.ne_of_gt (And.right (by with_reducible assumption)) | with_reducible exact And.right (And.right (by with_reducible assumption)) | with_reducible exact Ne.symm (And.right (And.right (by with_reducible assumption))) | with_reducible exact Nat.ne_of_lt (And.right (And.right (by with_reducible assumption))) | with_reducible exact Nat.ne_of_gt (And.right (And.right (by with_reducible assumption))) | with_reducible exact And.right (And.right (And.right (by with_reducible assumption))) | with_reducible exact Ne.symm (And.right (And.right (And.right (by with_reducible assumption)))) | with_reducible exact Nat.ne_of_lt (And.right (And.right (And.right (by with_reducible assumption)))) | with_reducible exact Nat.ne_of_gt (And.right (And.right (And.right (by with_reducible assumption)))) | with_reducible exact And.right (And.right (And.right (And.right (by with_reducible assumption)))) | with_reducible exact Ne.symm (And.right (And.right (And.right (And.right (by with_reducible assumption))))) | with_reducible exact Nat.ne_of_lt (And.right (And.right (And.right (And.right (by with_reducible assumption))))) | with_reducible exact Nat.ne_of_gt (And.right (And.right (And.right (And.right (by with_reducible assumption))))) | with_reducible exact And.right (And.right (And.right (And.right (And.right (by with_reducible assumption))))) | with_reducible exact Ne.symm (And.right (And.right (And.right (And.right (And.right (by with_reducible assumption)))))) | with_reducible exact Nat.ne_of_lt (And.right (And.right (And.right (And.right (And.right (by with_reducible assumption)))))) | with_reducible exact Nat.ne_of_gt (And.right (And.right (And.right (And.right (And.right (by with_reducible assumption)))))) | with_reducible exact And.right (And.right (And.right (And.right (And.right (And.right (by with_reducible assumption)))))) | with_reducible exact Ne.symm (And.right (And.right (And.right (And.right (And.right (And.right (by with_reducible assumption))))))) | with_reducible exact Nat.ne_of_lt (And.right (And.right (And.right (And.right (And.right (And.right (by with_reducible assumption))))))) | with_reducible exact Nat.ne_of_gt (And.right (And.right (And.right (And.right (And.right (And.right (by with_reducible assumption))))))) | with_reducible exact And.right (And.right (And.right (And.right (And.right (And.right (And.right (by with_reducible assumption))))))) | with_reducible exact Ne.symm (And.right (And.right (And.right (And.right (And.right (And.right (And.right (by with_reducible assumption)))))))) | with_reducible exact Nat.ne_of_lt (And.right (And.right (And.right (And.right (And.right (And.right (And.right (by with_reducible assumption)))))))) | with_reducible exact Nat.ne_of_gt (And.right (And.right (And.right (And.right (And.right (And.right (And.right (by with_reducible assumption)))))))) | with_reducible exact And.right (And.right (And.right (And.right (And.right (And.right (And.right (And.right (by with_reducible assumption)))))))) | with_reducible exact Ne.symm (And.right (And.right (And.right (And.right (And.right (And.right (And.right (And.right (by with_reducible assumption))))))))) | with_reducible exact Nat.ne_of_lt (And.right (And.right (And.right (And.right (And.right (And.right (And.right (And.right (by with_reducible assumption))))))))) | with_reducible exact Nat.ne_of_gt (And.right (And.right (And.right (And.right (And.right (And.right (And.right (And.right (by with_reducible assumption))))))))) | with_reducible exact And.right (And.right (And.right (And.right (And.right (And.right (And.right (And.right (And.right (by with_reducible assumption))))))))) | with_reducible exact Ne.symm (And.right (And.right (And.right (And.right (And.right (And.right (And.right (And.right (And.right (by with_reducible assumption)))))))))) | with_reducible exact Nat.ne_of_lt (And.right (And.right (And.right (And.right (And.right (And.right (And.right (And.right (And.right (by with_reducible assumption)))))))))) | with_reducible exact Nat.ne_of_gt (And.right (And.right (And.right (And.right (And.right (And.right (And.right (And.right (And.right (by with_reducible assumption)))))))))) | with_reducible exact And.left (by with_reducible assumption) | with_reducible exact Ne.symm (And.left (by with_reducible assumption)) | with_reducible exact Nat.ne_of_lt (And.left (by with_reducible assumption)) | with_reducible exact Nat.ne_of_gt (And.left (by with_reducible assumption)) | with_reducible exact And.left (And.right (by with_reducible assumption)) | with_reducible exact Ne.symm (And.left (And.right (by with_reducible assumption))) | with_reducible exact Nat.ne_of_lt (And.left (And.right (by with_reducible assumption))) | with_reducible exact Nat.ne_of_gt (And.left (And.right (by with_reducible assumption))) | with_reducible exact And.left (And.right (And.right (by with_reducible assumption))) | with_reducible exact Ne.symm (And.left (And.right (And.right (by with_reducible assumption)))) | with_reducible exact Nat.ne_of_lt (And.left (And.right (And.right (by with_reducible assumption)))) | with_reducible exact Nat.ne_of_gt (And.left (And.right (And.right (by with_reducible assumption)))) | with_reducible exact And.left (And.right (And.right (And.right (by with_reducible assumption)))) | with_reducible exact Ne.symm (And.left (And.right (And.right (And.right (by with_reducible assumption))))) | with_reducible exact Nat.ne_of_lt (And.left (And.right (And.right (And.right (by with_reducible assumption))))) | with_reducible exact Nat.ne_of_gt (And.left (And.right (And.right (And.right (by with_reducible assumption))))) | with_reducible exact And.left (And.right (And.right (And.right (And.right (by with_reducible assumption))))) | with_reducible exact Ne.symm (And.left (And.right (And.right (And.right (And.right (by with_reducible assumption)))))) | with_reducible exact Nat.ne_of_lt (And.left (And.right (And.right (And.right (And.right (by with_reducible assumption)))))) | with_reducible exact Nat.ne_of_gt (And.left (And.right (And.right (And.right (And.right (by with_reducible assumption)))))) | with_reducible exact And.left (And.right (And.right (And.right (And.right (And.right (by with_reducible assumption)))))) | with_reducible exact Ne.symm (And.left (And.right (And.right (And.right (And.right (And.right (by with_reducible assumption))))))) | with_reducible exact Nat.ne_of_lt (And.left (And.right (And.right (And.right (And.right (And.right (by with_reducible assumption))))))) | with_reducible exact Nat.ne_of_gt (And.left (And.right (And.right (And.right (And.right (And.right (by with_reducible assumption))))))) | with_reducible exact And.left (And.right (And.right (And.right (And.right (And.right (And.right (by with_reducible assumption))))))) | with_reducible exact Ne.symm (And.left (And.right (And.right (And.right (And.right (And.right (And.right (by with_reducible assumption)))))))) | with_reducible exact Nat.ne_of_lt (And.left (And.right (And.right (And.right (And.right (And.right (And.right (by with_reducible assumption)))))))) | with_reducible exact Nat.ne_of_gt (And.left (And.right (And.right (And.right (And.right (And.right (And.right (by with_reducible assumption)))))))) | with_reducible exact And.left (And.right (And.right (And.right (And.right (And.right (And.right (And.right (by with_reducible assumption)))))))) | with_reducible exact Ne.symm (And.left (And.right (And.right (And.right (And.right (And.right (And.right (And.right (by with_reducible assumption))))))))) | with_reducible exact Nat.ne_of_lt (And.left (And.right (And.right (And.right (And.right (And.right (And.right (And.right (by with_reducible assumption))))))))) | with_reducible exact Nat.ne_of_gt (And.left (And.right (And.right (And.right (And.right (And.right (And.right (And.right (by with_reducible assumption))))))))) | with_reducible exact And.left (And.right (And.right (And.right (And.right (And.right (And.right (And.right (And.right (by with_reducible assumption))))))))) | with_reducible exact Ne.symm (And.left (And.right (And.right (And.right (And.right (And.right (And.right (And.right (And.right (by with_reducible assumption)))))))))) | with_reducible exact Nat.ne_of_lt (And.left (And.right (And.right (And.right (And.right (And.right (And.right (And.right (And.right (by with_reducible assumption)))))))))) | with_reducible exact Nat.ne_of_gt (And.left (And.right (And.right (And.right (And.right (And.right (And.right (And.right (And.right (by with_reducible assumption)))))))))) | with_reducible exact And.right (And.left (by with_reducible assumption)) | with_reducible exact Ne.symm (And.right (And.left (by with_reducible assumption))) | with_reducible exact Nat.ne_of_lt (And.right (And.left (by with_reducible assumption))) | with_reducible exact Nat.ne_of_gt (And.right (And.left (by with_reducible assumption))) | with_reducible exact And.right (And.right (And.left (by with_reducible assumption))) | with_reducible exact Ne.symm (And.right (And.right (And.left (by with_reducible assumption)))) | with_reducible exact Nat.ne_of_lt (And.right (And.right (And.left (by with_reducible assumption)))) | with_reducible exact Nat.ne_of_gt (And.right (And.right (And.left (by with_reducible assumption)))) | with_reducible exact And.right (And.right (And.right (And.left (by with_reducible assumption)))) | with_reducible exact Ne.symm (And.right (And.right (And.right (And.left (by with_reducible assumption))))) | with_reducible exact Nat.ne_of_lt (And.right (And.right (And.right (And.left (by with_reducible assumption))))) | with_reducible exact Nat.ne_of_gt (And.right (And.right (And.right (And.left (by with_reducible assumption))))) | with_reducible exact And.left (And.left (by with_reducible assumption)) | with_reducible exact Ne.symm (And.left (And.left (by with_reducible assumption))) | with_reducible exact Nat.ne_of_lt (And.left (And.left (by with_reducible assumption))) | with_reducible exact Nat.ne_of_gt (And.left (And.left (by with_reducible assumption))) | with_reducible exact And.left (And.right (And.left (by with_reducible assumption))) | with_reducible exact Ne.symm (And.left (And.right (And.left (by with_reducible assumption)))) | with_reducible exact Nat.ne_of_lt (And.left (And.right (And.left (by with_reducible assumption)))) | with_reducible exact Nat.ne_of_gt (And.left (And.right (And.left (by with_reducible assumption)))) | with_reducible exact And.left (And.right (And.right (And.left (by with_reducible assumption)))) | with_reducible exact Ne.symm (And.left (And.right (And.right (And.left (by with_reducible assumption))))) | with_reducible exact Nat.ne_of_lt (And.left (And.right (And.right (And.left (by with_reducible assumption))))) | with_reducible exact Nat.ne_of_gt (And.left (And.right (And.right (And.left (by with_reducible assumption))))) | with_reducible exact And.left (And.right (And.right (And.right (And.left (by with_reducible assumption))))) | with_reducible exact Ne.symm (And.left (And.right (And.right (And.right (And.left (by with_reducible assumption)))))) | with_reducible exact Nat.ne_of_lt (And.left (And.right (And.right (And.right (And.left (by with_reducible assumption)))))) | with_reducible exact Nat.ne_of_gt (And.left (And.right (And.right (And.right (And.left (by with_reducible assumption)))))) | omega))
  k_with "my lin" => ((first | (with_reducible refine ltM ?_; walk_at "my lt") | (with_reducible refine leM ?_; walk_at "my le") | omega))
  k_with "my enter" => (( (case a => exact Nat.lt_trans (by with_reducible assumption) (by decide)); (case b => k_is); (case c => k_is); (case d => exact BindsTo.of_eq rfl); (case e => exact locs rfl); (case k1 => rfl); (case k2 => rfl); (case k3 => rfl); (case k4 => decide)))
  k_with "my sides" => (( (case cw => exact Wd.keeps (by assumption) (Fr.keep (by assumption))); (case cd => ((try dsimp only [Ar, Around.deeper]); first | exact Nat.lt_of_lt_of_le (Nat.add_lt_add_right (by assumption) 1) (by decide) | omega)); (case cu => ((try dsimp only [Ar, Around.deeper]); first | exact Nat.lt_of_lt_of_le (Nat.add_lt_add_right (by assumption) 3) (by decide) | omega)); (case ct => ((try dsimp only); walk_at "my lin"))))
  k_with "my sides0" => (( (case cw => exact Wd.keeps (by assumption) (Fr.keep (by assumption))); (case cd => ((try dsimp only [Ar, Around.deeper]); first | exact Nat.lt_of_lt_of_le (Nat.add_lt_add_right (by assumption) 1) (by decide) | omega)); (case cu => ((try dsimp only [Ar, Around.deeper]); first | exact Nat.lt_of_lt_of_le (Nat.add_lt_add_right (by assumption) 3) (by decide) | omega))))
  k_with "my ret" => (first | (refine' retS ?rF ?rN ?_; (case rF => k_asm); (case rN => k_asm); intro _ _ _ _ _ q9 p9 r9; k_sweep; (try dsimp only at q9 ⊢); revert q9 p9 r9; intro _ _ _) | (refine' retI ?rF ?rN ?_; (case rF => k_asm); (case rN => k_asm); intro _ _ _ _ _ q9; k_sweep; (try dsimp only at q9 ⊢); revert q9; intro _) | (refine' retV ?rF ?rN ?_; (case rF => k_asm); (case rN => k_asm); intro _ _ _ _ q9; k_sweep; (try dsimp only at q9 ⊢); revert q9; intro _) | (refine' retO ?rF ?rN ?_; (case rF => k_asm); (case rN => k_asm); intro _ _ _ _ P9 F9 N9 l9 q9; k_sweep; (try (obtain ⟨u1, u2, e9, v1, v2, v3, v4⟩ := P9; subst e9)); simp only [AllNe, and_true, true_and] at l9; (try dsimp only at q9 ⊢)))
  k_with "execs cons" => (((with_reducible refine wpAny_execs_cons ?_); try dsimp only))
  k_with "execs nil" => (((with_reducible refine wpAny_execs_nil ?_); try dsimp only))
  k_with "call builtin:issubclass" => ((refine' issub_N ?k1 ?k2 ?_; (case k1 => k_asm); (case k2 => k_mem)))
  k_with "execs cons For" => (refine Stop.out ?_)
  k_with "truthy ref" => ((k_dflt (first | (refine' tr_nil ?kN ?km ?_; (case kN => k_asm); (case km => k_mem)) | (refine' tr_snoc ?kN ?km ?kz ?_; (case kN => k_asm); (case km => k_mem); (case kz => assumption)) | (refine' tr_any ?kN ?km ?kz ?_ ?_; (case kN => k_asm); (case km => k_mem); (case kz => assumption); all_goals (first | (intro e9; subst e9) | (intro _ _ _ e9 _; subst e9; (rename News _ _ _ _ => N9); rw [strValues_snoc] at N9))))))
  k_with "subscriptTail" => ((k_dflt (refine' item_last ?kN ?km ?kz ?_ ?ks; (case kN => k_asm); (case km => k_mem); (case kz => assumption); (case ks => with_unfolding_all rfl))))
  k_with "call builtin:list.pop" => ((k_dflt (refine' pop_last ?kF ?kN ?kU ?kz ?_; (case kF => k_asm); (case kN => k_asm); (case kU => k_upd); (case kz => assumption); intro _ _ _; k_sweep)))
  k_with "call builtin:str.join" => ((k_dflt (refine' join_mine ?kN ?km ?ka ?kn ?kp ?kt ?kb ?_; (case kN => k_asm); (case km => k_mem); (case ka => assumption); (case kn => assumption); (case kp => ((try dsimp only); walk_at "my lin")); (case kt => assumption); (case kb => ((try dsimp only); omega)); intro _ _ _ _ r9 q9; (try dsimp only at q9 r9 ⊢); revert r9 q9; intro _ _)))
  k_with "call builtin:str.split" => ((k_dflt (refine' split_mine ?kF ?kN ?kp ?kq ?ks ?_; (case kF => k_asm); (case kN => k_asm); (case kp => walk_at "my lin"); (case kq => ((try dsimp only); walk_at "my lin")); (case ks => ((try dsimp only); omega)); intro _ _ _ _ _ x9 y9 z9 F9 N9 l9; k_sweep; (try dsimp only at x9 y9 l9 ⊢); simp only [AllLt, and_true, true_and] at l9; first | (revert x9 y9 z9 F9 N9 l9; intro _ _ _ _ _ _) | (revert x9 y9 z9 F9 N9; intro _ _ _ _ _))))
  k_with "binaryOp Add str str" => ((k_dflt (refine' add_tok ?kt ?ku ?kp ?kq ?_ ?kz; (case kt => walk_at "my lin"); (case ku => walk_at "my lin"); (case kp => ((try dsimp only); walk_at "my lin")); (case kq => ((try dsimp only); walk_at "my lin")); (case kz => size_fits); intro _ _ _ r9 q9 l9; (try dsimp only at q9 r9 ⊢); revert r9 q9 l9; intro _ _ _)))
  k_with "inplaceOp Add str str" => ((k_dflt (refine' iadd_tok ?kt ?ku ?kp ?kq ?_ ?kz; (case kt => walk_at "my lin"); (case ku => walk_at "my lin"); (case kp => ((try dsimp only); walk_at "my lin")); (case kq => ((try dsimp only); walk_at "my lin")); (case kz => size_fits); intro _ _ _ r9 q9 l9; (try dsimp only at q9 r9 ⊢); revert r9 q9 l9; intro _ _ _)))
  k_with "truthy str" => ((refine SBL.truthy (by (have e0 : (PySem.Str.ofString "").length = 0 := by rfl); simp only [Str.length_append, e0]; omega) ?_))
  k_with "my enter2" => (( (case a => exact Nat.lt_trans (by with_reducible assumption) (by decide)); (case b => k_is); (case c => k_is); (case k1 => rfl); (case k2 => rfl); (case k3 => rfl); (case k4 => decide)))
  k_with "subscriptTail Name Slice str ref" => (((with_reducible show wpAny _ _ (subscriptTail _ (Expr.Slice none (some _) none _) _ _) _ _ _); (refine wpAny_with_toks (Nat.le_refl _) ?_); (refine' slice_strN_ns (hsz := ?hsz) (s := ⟨_, _, _, _, _⟩) ?kF ?kN ?_); (case kF => k_asm); (case kN => k_asm); (case hsz => size_fits); intro _ _ _ _ _ q9; (try dsimp only at q9 ⊢); revert q9; intro _))
  k_with "my toks" => (first | exact List.forall_mem_nil _ | (refine' List.forall_mem_cons.mpr ⟨?ka, ?kb⟩; (case ka => (constructor <;> ((try dsimp only); walk_at "my lin"))); (case kb => walk_at "my toks")))
  k_with "subscriptTail List cons BinOp ref int" => ((k_dflt (refine' item_menu [(PySem.Str.ofString "a", _), (PySem.Str.ofString "b", _), (PySem.Str.ofString "ab", _), (PySem.Str.ofString "a.", _), (PySem.Str.ofString "...", _), (PySem.Str.ofString ".b", _), (⟨#[_]⟩, _)] ?kN ?km ?k0 ?kk ?kl ?kt ?_ ?ks); (case kN => k_asm); (case km => k_mem); (case k0 => first | assumption | omega); (case kk => first | assumption | ((try simp only [List.length_cons, List.length_nil]); omega)); (case kl => exact Nat.le_of_ble_eq_true rfl); (case ks => with_unfolding_all rfl); (case kt => walk_at "my toks"); intro _ _ r9; (try dsimp only at r9); revert r9; intro _))
  k_with "call ref" => (( (k_dflt (refine' c_fspath ?cw ?cd ?cu ?ct ?_)); walk_at "my sides"; walk_at "my ret"))
  k_with "call ref" => (( (k_dflt (refine' c_get_sep ?cw ?cd ?cu ?ct ?_)); walk_at "my sides"; walk_at "my ret"))
  k_with "call ref" => (( (k_dflt (refine' c_splitroot ?cw ?cd ?cu ?ct (by first | assumption | omega) (by assumption) ?_)); walk_at "my sides"; walk_at "my ret"))
  k_with "call ref" => (( (k_dflt (refine' c_normpath ?cw ?cd ?cu ?ct (by walk_at "my lin") (by ((try dsimp only); walk_at "my lin")) (by first | assumption | omega) (by assumption) ?_)); walk_at "my sides"; walk_at "my ret"))
  k_with "call ref" => (( (k_dflt (refine' c_join ?cw ?cd ?cu ?ct (by walk_at "my lin") (by ((try dsimp only); walk_at "my lin")) (by walk_at "my lin") (by ((try dsimp only); walk_at "my lin")) (by first | assumption | omega) (by first | assumption | omega) (by assumption) ?_)); walk_at "my sides"; walk_at "my ret"))
  k_with "call ref" => (( (k_dflt (refine' c_lt ?cw ?cd ?cu ?_)); walk_at "my sides0"; walk_at "my ret"))
  k_with "call ref" => (( (k_dflt (refine' c_sub ?cw ?cd ?cu ?_)); walk_at "my sides0"; walk_at "my ret"))
  k_with "call ref" => (( (k_dflt (refine' c_mul ?cw ?cd ?cu (by walk_at "my lin") (by walk_at "my lin") ?_)); walk_at "my sides0"; walk_at "my ret"))
  k_with "compareOp Is str str" => ((k_dflt (refine' is_str (Frag.In.keeps (by assumption) (Fr.keep (by assumption))) ?ku ?kv ?kn ?_; (case ku => omega); (case kv => omega); (case kn => omega); intro _ _)))
  k_with "call ref" => (( (k_dflt (refine' c_countS ?cw ?cd ?cu ?ct (by walk_at "my lin") (by ((try dsimp only); walk_at "my lin")) ?_)); walk_at "my sides"; walk_at "my ret"))
  k_with "call ref" => (( (k_dflt (refine' c_countL ?cw ?cd ?cu ?ct ?cl (by assumption) (by ((try dsimp only); walk_at "my lin")) (by ((try dsimp only); walk_at "my lin")) (by ((try dsimp only); walk_at "my lin")) ?_)); walk_at "my sides"; walk_at "my ret"))
  k_with "call ref" => (( (k_dflt (refine' c_name ?cw ?cd ?cu ?ct (by walk_at "my lin") (by walk_at "my lin") ?_)); walk_at "my sides"; walk_at "my ret"))
  k_with "call ref" => (( (k_dflt (refine' c_length ?cw ?cd ?cu ?ct ?_)); walk_at "my sides"; walk_at "my ret"))
  trivial
def leastL : List Int → Int → List Int
  | [], _ => []
  | x :: r, m => min x ((leastL r m).headD m) :: leastL r m
def stepM (p : Int × List Int) (x : Int) : Int × List Int := (if x < p.1 then x else p.1, p.2 ++ [if x < p.1 then x else p.1])
theorem stepM_take {l : List Int} {i : Nat} {x : Int} {p : Int × List Int} (h : l[i]? = some x) : (l.take (i + 1)).foldl stepM p = stepM ((l.take i).foldl stepM p) x := by
  rw [List.take_add_one, h]; simp
theorem stepM_least (m : Int) : ∀ ls : List Int, ls.reverse.foldl stepM (m, []) = ((leastL ls m).headD m, (leastL ls m).reverse)
  | [] => rfl
  | x :: r => by
    rw [List.reverse_cons, List.foldl_append, stepM_least m r]
    have e : (if x < (leastL r m).headD m then x else (leastL r m).headD m) = min x ((leastL r m).headD m) := by
      rw [Int.min_def]; split <;> split <;> omega
    simp only [List.foldl_cons, List.foldl_nil, stepM, e, leastL, List.headD_cons, List.reverse_cons]
theorem news_sub9 {h₀ h : Heap} {L : Addr} {n1 n2 : List (Addr × Obj)} (N : News h₀ L h n1) (hs : ∀ p ∈ n2, p ∈ n1) : News h₀ L h n2 := fun p hp => N p (hs p hp)
theorem c_least {w : World} {dp un : Nat} {fr : Option (List Env)} {gd : Option (List Code)} {s : Shared} {Q : Value → Shared → Prop} {E : Value → Shared → Prop} {D : Addr} {vs : List Value} {ls : List Int} {mo : Int} {t : Nat}
   (W : Wd w s.heap) (hdep : dp < 890) (hun : un < 7900) (hpos : 0 < s.toks) (hl : s.heap.IsList D vs.toArray) (hI : IntsAre vs ls) (hlen : ls.length ≤ 10)
   (hret : RetO s.heap s Q fun tk o => ∃ vs' n, o = PySem.W.listOf vs'.toArray n ∧ IntsAre vs' (leastL ls mo)) :
   wpAny (model PP w) (Ar dp fr gd un) (call (.ref 185) [.ref D, .int mo t]) Q E s := by
  have W' := W
  obtain ⟨X, mean, mg, mb, T⟩ := W'
  refine' enter (K := hd.heap_39 _) (binds := [(Str.ofString "lengths", .ref D), (Str.ofString "most", .int mo t)]) X T ?a ?b ?c ?d ?e ?k ?k1 ?k2 ?k3 ?k4
  walk_at "my enter"
  intro L h₁ F N
  have hvl : vs.length ≤ 10 := by rw [IntsAre.length hI]; exact hlen
  k_steps
  refine Stop.mk ?_
  refine for_restT ?_ (fun _ => rfl)
  k_steps
  rename_i l' h2 l1 h3 D' ws h4 F' N' hI' hC' ll
  have hw10 : ws.length ≤ 10 := by rw [IntsAre.length hI', hC']; exact hlen
  have hlD : @Ne Nat l' D' := Nat.ne_of_lt ll
  have N'' : News s.heap L h4 [(l', PySem.W.listOf ([] : List Value).toArray 0), (D', PySem.W.listOf ws.toArray 0)] := news_sub9 N' (by simp)
  clear N'
  refine iterT_list1 (L := L) (σ := Int × Nat × List Value × Nat) (Str.ofString "most") (fun a => .int a.1 a.2.1) (fun a => [(l', PySem.W.listOf a.2.2.1.toArray a.2.2.2)])
    (fun B i a => a.1 = ((ls.reverse.take i).foldl stepM (mo, [])).1 ∧ IntsAre a.2.2.1 ((ls.reverse.take i).foldl stepM (mo, [])).2) (mo, t, [], 0) rfl rfl rfl rfl
      (fun tk tk' i a hk h => h) (vs := ws) (News.isList N'' (.tail _ (.head _))) (Ne.symm (N'' _ (.tail _ (.head _))).2.1) (.inr ⟨_, .head _⟩) F' N'' ⟨rfl, .nil⟩ rfl rfl ?_ ?_
  · rintro i v ⟨a, ta, items, n⟩ I io h tk htk hv ⟨hi1, hi2⟩ hne F₁ N₁
    dsimp only at htk hi1 hi2 F₁ N₁
    simp only [AllNe, and_true, List.cons_append, List.nil_append] at hne N₁
    clear F' N''
    have hil : i < ws.length := (List.getElem?_eq_some_iff.mp hv).1
    obtain ⟨tc, rfl⟩ := IntsAre.int_at hI' i v hv
    have hxi : ls.reverse[i]? = some (ls.reverse.getD i 0) := by
      have : i < ls.reverse.length := by rw [← IntsAre.length hI']; exact hil
      simp only [List.getD, List.getElem?_eq_getElem this, Option.getD_some]
    generalize ls.reverse.getD i 0 = x at hxi F₁
    have hst := stepM_take (p := (mo, [])) hxi
    have hit : items.length ≤ 100 := by
      have e1 := IntsAre.length hi2
      have e2 : ∀ (l : List Int) (p : Int × List Int), (l.foldl stepM p).2.length = p.2.length + l.length := by
        intro l
        induction l with
        | nil => intro p; rfl
        | cons y l ih => intro p; rw [List.foldl_cons, ih]; simp [stepM]; omega
      rw [e2] at e1
      simp only [List.length_nil, List.length_take] at e1
      omega
    k_steps
    all_goals (rename Fr _ _ _ _ => Fz; rename News _ _ _ _ => Nz; simp only [List.push_toArray] at Nz)
    · have hc : x < a := by assumption
      refine turnTN (x, tc, items ++ [Value.int x tc], n + 1) Fz Nz ⟨?_, ?_⟩ (fun z hz => ?_) ⟨hne.1, hne.2, trivial⟩
      · dsimp only; rw [hst]; simp only [stepM]; rw [← hi1, if_pos hc]
      · dsimp only; rw [hst]; simp only [stepM]; rw [← hi1, if_pos hc]; exact IntsAre.append hi2 (.cons _ _ .nil)
      · by_cases hp : z = Str.ofString "most" <;> simp [hp, hz]
    · have hc : ¬ x < a := by assumption
      refine turnTN (a, ta, items ++ [Value.int a ta], n + 1) Fz Nz ⟨?_, ?_⟩ (fun z hz => if_neg hz) ⟨hne.1, hne.2, trivial⟩
      · dsimp only; rw [hst]; simp only [stepM]; rw [← hi1, if_neg hc]
      · dsimp only; rw [hst]; simp only [stepM]; rw [← hi1, if_neg hc]; exact IntsAre.append hi2 (.cons _ _ .nil)
  · rintro ⟨a, ta, items, n⟩ u h tk htk ⟨hi1, hi2⟩ F₁ N₁
    dsimp only at htk hi2 F₁ N₁
    simp only [List.cons_append, List.nil_append] at N₁
    clear F' N''
    rw [List.take_of_length_le (by rw [IntsAre.length hI']; exact Nat.le_refl _), stepM_least] at hi2
    dsimp only at hi2
    have hit : items.length ≤ 100 := by
      have e2 : ∀ l : List Int, (leastL l mo).length = l.length := by
        intro l; induction l with
        | nil => rfl
        | cons y l ih => simp [leastL, ih]
      rw [IntsAre.length hi2, List.length_reverse, e2]; omega
    k_steps
    rename_i D2 ws2 h2' Fz Nz hI2 hC2 ll2
    rw [List.reverse_reverse] at hI2
    exact fun hk => hret _ _ D2 _ (Fr.keep Fz) hk (News.fresh Nz (.head _)) (News.get Nz (.head _)) ⟨ws2, 0, rfl, hI2⟩

theorem kwreset_b : True := by
  k_with_none
  k_with "my lt" => ((first | with_reducible assumption | with_reducible exact Nat.zero_lt_of_lt (by with_reducible assumption) | with_reducible exact Nat.succ_pos _ | with_reducible exact lth 0 (by with_reducible assumption) | with_reducible exact lth 1 (by with_reducible assumption) | with_reducible exact lth 2 (by with_reducible assumption) | with_reducible exact lth 3 (by with_reducible assumption) | with_reducible exact lth 4 (by with_reducible assumption) | with_reducible exact lth 5 (by with_reducible assumption) | with_reducible exact lth 6 (by with_reducible assumption) | with_reducible exact lth 7 (by with_reducible assumption) | with_reducible exact lth 8 (by with_reducible assumption) | with_reducible exact lth 9 (by with_reducible assumption) | with_reducible exact lth 10 (by with_reducible assumption) | with_reducible exact lth 11 (by with_reducible assumption) | with_reducible exact lth 12 (by with_reducible assumption) | with_reducible exact lta 1 (by with_reducible assumption) | with_reducible exact lta 2 (by with_reducible assumption) | with_reducible exact lta 3 (by with_reducible assumption) | with_reducible exact lta 4 (by with_reducible assumption) | with_reducible exact lta 5 (by with_reducible assumption) | with_reducible exact lta 6 (by with_reducible assumption) | with_reducible exact lta 7 (by with_reducible assumption) | with_reducible exact lta 8 (by with_reducible assumption) | with_reducible exact lta 9 (by with_reducible assumption) | with_reducible exact lta 10 (by with_reducible assumption) | with_reducible exact lta 11 (by with_reducible assumption) | with_reducible exact lta 12 (by with_reducible assumption) | with_reducible exact lta 13 (by with_reducible assumption) | with_reducible exact lta 14 (by with_reducible assumption) | with_reducible exact lta 15 (by with_reducible assumption) | with_reducible exact lta 16 (by with_reducible assumption) | with_reducible exact lta 17 (by with_reducible assumption) | with_reducible exact lta 18 (by with_reducible assumption) | with_reducible exact lta 19 (by with_reducible assumption) | with_reducible exact lta 20 (by with_reducible assumption) | with_reducible exact lta 21 (by with_reducible assumption) | with_reducible exact lts 0 | with_reducible exact lts 1 | with_reducible exact lts 2 | with_reducible exact lts 3 | with_reducible exact lts 4 | with_reducible exact lts 5 | with_reducible exact lts 6 | with_reducible exact lts 7 | with_reducible exact lts 8 | with_reducible exact lts 9 | with_reducible exact lts 10 | with_reducible exact lts 11 | with_reducible exact lts 12 | with_reducible exact ltp 0 (by with_reducible assumption) | with_reducible exact ltp 1 (by with_reducible assumption) | with_reducible exact ltp 2 (by with_reducible assumption) | with_reducible exact ltp 3 (by with_reducible assumption) | with_reducible exact ltp 4 (by with_reducible assumption) | with_reducible exact ltp 5 (by with_reducible assumption) | with_reducible exact ltp 6 (by with_reducible assumption) | with_reducible exact ltp 7 (by with_reducible assumption) | with_reducible exact ltp 8 (by with_reducible assumption) | with_reducible exact ltp 9 (by with_reducible assumption) | with_reducible exact ltp 10 (by with_reducible assumption) | with_reducible exact ltp 11 (by with_reducible assumption) | with_reducible exact ltp 12 (by with_reducible assumption) | ((first | with_reducible refine ltk 22 ?_ | with_reducible refine ltk 21 ?_ | with_reducible refine ltk 20 ?_ | with_reducible refine ltk 19 ?_ | with_reducible refine ltk 18 ?_ | with_reducible refine ltk 17 ?_ | with_reducible refine ltk 16 ?_ | with_reducible refine ltk 15 ?_ | with_reducible refine ltk 14 ?_ | with_reducible refine ltk 13 ?_ | with_reducible refine ltk 12 ?_ | with_reducible refine ltk 11 ?_ | with_reducible refine ltk 10 ?_ | with_reducible refine ltk 9 ?_ | with_reducible refine ltk 8 ?_ | with_reducible refine ltk 7 ?_ | with_reducible refine ltk 6 ?_ | with_reducible refine ltk 5 ?_ | with_reducible refine ltk 4 ?_ | with_reducible refine ltk 3 ?_ | with_reducible refine ltk 2 ?_ | with_reducible refine ltk 1 ?_ | skip); first | with_reducible assumption | ((first | with_reducible refine ltc 22 (by with_reducible assumption) ?_ | with_reducible refine ltc 21 (by with_reducible assumption) ?_ | with_reducible refine ltc 20 (by with_reducible assumption) ?_ | with_reducible refine ltc 19 (by with_reducible assumption) ?_ | with_reducible refine ltc 18 (by with_reducible assumption) ?_ | with_reducible refine ltc 17 (by with_reducible assumption) ?_ | with_reducible refine ltc 16 (by with_reducible assumption) ?_ | with_reducible refine ltc 15 (by with_reducible assumption) ?_ | with_reducible refine ltc 14 (by with_reducible assumption) ?_ | with_reducible refine ltc 13 (by with_reducible assumption) ?_ | with_reducible refine ltc 12 (by with_reducible assumption) ?_ | with_reducible refine ltc 11 (by with_reducible assumption) ?_ | with_reducible refine ltc 10 (by with_reducible assumption) ?_ | with_reducible refine ltc 9 (by with_reducible assumption) ?_ | with_reducible refine ltc 8 (by with_reducible assumption) ?_ | with_reducible refine ltc 7 (by with_reducible assumption) ?_ | with_reducible refine ltc 6 (by with_reducible assumption) ?_ | with_reducible refine ltc 5 (by with_reducible assumption) ?_ | with_reducible refine ltc 4 (by with_reducible assumption) ?_ | with_reducible refine ltc 3 (by with_reducible assumption) ?_ | with_reducible refine ltc 2 (by with_reducible assumption) ?_ | with_reducible refine ltc 1 (by with_reducible assumption) ?_ | with_reducible refine lt0 (by with_reducible assumption) ?_); walk_at "my lt"))))
  k_with "my le" => ((first | with_reducible assumption | with_reducible exact Nat.le_refl _ | with_reducible exact Nat.le_of_lt (by with_reducible assumption) | with_reducible exact leN1 (by with_reducible assumption) rfl | with_reducible exact leN2 (by with_reducible assumption) (by with_reducible assumption) rfl | with_reducible exact leh 1 (by with_reducible assumption) | with_reducible exact leh 2 (by with_reducible assumption) | with_reducible exact leh 3 (by with_reducible assumption) | with_reducible exact leh 4 (by with_reducible assumption) | with_reducible exact leh 5 (by with_reducible assumption) | with_reducible exact leh 6 (by with_reducible assumption) | with_reducible exact leh 7 (by with_reducible assumption) | with_reducible exact leh 8 (by with_reducible assumption) | with_reducible exact leh 9 (by with_reducible assumption) | with_reducible exact leh 10 (by with_reducible assumption) | with_reducible exact leh 11 (by with_reducible assumption) | with_reducible exact leh 12 (by with_reducible assumption) | with_reducible exact lea 1 (by with_reducible assumption) | with_reducible exact lea 2 (by with_reducible assumption) | with_reducible exact lea 3 (by with_reducible assumption) | with_reducible exact lea 4 (by with_reducible assumption) | with_reducible exact lea 5 (by with_reducible assumption) | with_reducible exact lea 6 (by with_reducible assumption) | with_reducible exact lea 7 (by with_reducible assumption) | with_reducible exact lea 8 (by with_reducible assumption) | with_reducible exact lea 9 (by with_reducible assumption) | with_reducible exact lea 10 (by with_reducible assumption) | with_reducible exact lea 11 (by with_reducible assumption) | with_reducible exact lea 12 (by with_reducible assumption) | with_reducible exact lea 13 (by with_reducible assumption) | with_reducible exact lea 14 (by with_reducible assumption) | with_reducible exact lea 15 (by with_reducible assumption) | with_reducible exact lea 16 (by with_reducible assumption) | with_reducible exact lea 17 (by with_reducible assumption) | with_reducible exact lea 18 (by with_reducible assumption) | with_reducible exact lea 19 (by with_reducible assumption) | with_reducible exact lea 20 (by with_reducible assumption) | with_reducible exact lea 21 (by with_reducible assumption) | with_reducible exact les 1 | with_reducible exact les 2 | with_reducible exact les 3 | with_reducible exact les 4 | with_reducible exact les 5 | with_reducible exact les 6 | with_reducible exact les 7 | with_reducible exact les 8 | with_reducible exact les 9 | with_reducible exact les 10 | with_reducible exact les 11 | with_reducible exact les 12 | ((first | with_reducible refine lek 22 ?_ | with_reducible refine lek 21 ?_ | with_reducible refine lek 20 ?_ | with_reducible refine lek 19 ?_ | with_reducible refine lek 18 ?_ | with_reducible refine lek 17 ?_ | with_reducible refine lek 16 ?_ | with_reducible refine lek 15 ?_ | with_reducible refine lek 14 ?_ | with_reducible refine lek 13 ?_ | with_reducible refine lek 12 ?_ | with_reducible refine lek 11 ?_ | with_reducible refine lek 10 ?_ | with_reducible refine lek 9 ?_ | with_reducible refine lek 8 ?_ | with_reducible refine lek 7 ?_ | with_reducible refine lek 6 ?_ | with_reducible refine lek 5 ?_ | with_reducible refine lek 4 ?_ | with_reducible refine lek 3 ?_ | with_reducible refine lek 2 ?_ | with_reducible refine lek 1 ?_ | skip); first | with_reducible assumption | ((first | with_reducible refine lec 22 (by with_reducible assumption) ?_ | with_reducible refine lec 21 (by with_reducible assumption) ?_ | with_reducible refine lec 20 (by with_reducible assumption) ?_ | with_reducible refine lec 19 (by with_reducible assumption) ?_ | with_reducible refine lec 18 (by with_reducible assumption) ?_ | with_reducible refine lec 17 (by with_reducible assumption) ?_ | with_reducible refine lec 16 (by with_reducible assumption) ?_ | with_reducible refine lec 15 (by with_reducible assumption) ?_ | with_reducible refine lec 14 (by with_reducible assumption) ?_ | with_reducible refine lec 13 (by with_reducible assumption) ?_ | with_reducible refine lec 12 (by with_reducible assumption) ?_ | with_reducible refine lec 11 (by with_reducible assumption) ?_ | with_reducible refine lec 10 (by with_reducible assumption) ?_ | with_reducible refine lec 9 (by with_reducible assumption) ?_ | with_reducible refine lec 8 (by with_reducible assumption) ?_ | with_reducible refine lec 7 (by with_reducible assumption) ?_ | with_reducible refine lec 6 (by with_reducible assumption) ?_ | with_reducible refine lec 5 (by with_reducible assumption) ?_ | with_reducible refine lec 4 (by with_reducible assumption) ?_ | with_reducible refine lec 3 (by with_reducible assumption) ?_ | with_reducible refine lec 2 (by with_reducible assumption) ?_ | with_reducible refine lec 1 (by with_reducible assumption) ?_ | with_reducible refine le0 (by with_reducible assumption) ?_); walk_at "my le"))))
  k_with "my ne" => ((first | with_reducible assumption | with_reducible exact Ne.symm (by with_reducible assumption) | with_reducible exact Nat.ne_of_lt (by with_reducible assumption) | with_reducible exact Nat.ne_of_gt (by with_reducible assumption) | with_reducible exact And.right (by with_reducible assumption) | with_reducible exact Ne.symm (And.right (by with_reducible assumption)) | with_reducible exact Nat.ne_of_lt (And.right (by with_reducible assumption)) | with_reducible exact Nat.ne_of_gt (And.right (by with_reducible assumption)) | with_reducible exact And.right (And.right (by with_reducible assumption)) | with_reducible exact Ne.symm (And.right (And.right (by with_reducible assumption))) | with_reducible exact Nat.ne_of_lt (And.right (And.right (by with_reducible assumption))) | with_reducible exact Nat.ne_of_gt (And.right (And.right (by with_reducible assumption))) | with_reducible exact And.right (And.right (And.right (by with_reducible assumption))) | with_reducible exact Ne.symm (And.right (And.right (And.right (by with_reducible assumption)))) | with_reducible exact Nat.ne_of_lt (And.right (And.right (And.right (by with_reducible assumption)))) | with_reducible exact Nat.ne_of_gt (And.right (And.right (And.right (by with_reducible assumption)))) | with_reducible exact And.right (And.right (And.right (And.right (by with_reducible assumption)))) | with_reducible exact Ne.symm (And.right (And.right (And.right (And.right (by with_reducible assumption))))) | with_reducible exact Nat.ne_of_lt (And.right (And.right (And.right (And.right (by with_reducible assumption))))) | with_reducible exact Nat.ne_of_gt (And.right (And.right (And.right (And.right (by with_reducible assumption))))) | with_reducible exact And.right (And.right (And.right (And.right (And.right (by with_reducible assumption))))) | with_reducible exact Ne.symm (And.right (And.right (And.right (And.right (And.right (by with_reducible assumption)))))) | with_reducible exact Nat.ne_of_lt (And.right (And.right (And.right (And.right (And.right (by with_reducible assumption)))))) | with_reducible exact Nat.ne_of_gt (And.right (And.right (And.right (And.right (And.right (by with_reducible assumption)))))) | with_reducible exact And.right (And.right (And.right (And.right (And.right (And.right (by with_reducible assumption)))))) | with_reducible exact Ne.symm (And.right (And.right (And.right (And.right (And.right (And.right (by with_reducible assumption))))))) | with_reducible exact Nat.ne_of_lt (And.right (And.right (And.right (And.right (And.right (And.right (by with_reducible assumption))))))) | with_reducible exact Nat.ne_of_gt (And.right (And.right (And.right (And.right (And.right (And.right (by with_reducible assumption))))))) | with_reducible exact And.right (And.right (And.right (And.right (And.right (And.right (And.right (by with_reducible assumption))))))) | with_reducible exact Ne.symm (And.right (And.right (And.right (And.right (And.right (And.right (And.right (by with_reducible assumption)))))))) | with_reducible exact Nat.ne_of_lt (And.right (And.right (And.right (And.right (And.right (And.right (And.right (by with_reducible assumption)))))))) | with_reducible exact Nat.ne_of_gt (And.right (And.right (And.right (And.right (And.right (And.right (And.right (by with_reducible assumption)))))))) | with_reducible exact And.right (And.right (And.right (And.right (And.right (And.right (And.right (And.right (by with_reducible assumption)))))))) | with_reducible exact Ne.symm (And.right (And.right (And.right (And.right (And.right (And.right (And.right (And.right (by with_reducible assumption))))))))) | with_reducible exact Nat.ne_of_lt (And.right (And.right (And.right (And.right (And.right (And.right (And.right (And.right (by with_reducible assumption))))))))) | with_reducible exact Nat.ne_of_gt (And.right (And.right (And.right (And.right (And.right (And.right (And.right (And.right (by with_reducible assumption))))))))) | with_reducible exact And.right (And.right (And.right (And.right (And.right (And.right (And.right (And.right (And.right (by with_reducible assumption))))))))) | with_reducible exact Ne.symm (And.right (And.right (And.right (And.right (And.right (And.right (And.right (And.right (And.right (by with_reducible assumption)))))))))) | with_reducible exact Nat.ne_of_lt (And.right (And.right (And.right (And.right (And.right (And.right (And.right (And.right (And.right (by with_reducible assumption)))))))))) | with_reducible exact Nat.ne_of_gt (And.right (And.right (And.right (And.right (And.right (And.right (And.right (And.right (And.right (by with_reducible assumption)))))))))) | with_reducible exact And.left (by with_reducible assumption) | with_reducible exact Ne.symm (And.left (by with_reducible assumption)) | with_reducible exact Nat.ne_of_lt (And.left (by with_reducible assumption)) | with_reducible exact Nat.ne_of_gt (And.left (by with_reducible assumption)) | with_reducible exact And.left (And.right (by with_reducible assumption)) | with_reducible exact Ne.symm (And.left (And.right (by with_reducible assumption))) | with_reducible exact Nat.ne_of_lt (And.left (And.right (by with_reducible assumption))) | with_reducible exact Nat.ne_of_gt (And.left (And.right (by with_reducible assumption))) | with_reducible exact And.left (And.right (And.right (by with_reducible assumption))) | with_reducible exact Ne.symm (And.left (And.right (And.right (by with_reducible assumption)))) | with_reducible exact Nat.ne_of_lt (And.left (And.right (And.right (by with_reducible assumption)))) | with_reducible exact Nat.ne_of_gt (And.left (And.right (And.right (by with_reducible assumption)))) | with_reducible exact And.left (And.right (And.right (And.right (by with_reducible assumption)))) | with_reducible exact Ne.symm (And.left (And.right (And.right (And.right (by with_reducible assumption))))) | with_reducible exact Nat.ne_of_lt (And.left (And.right (And.right (And.right (by with_reducible assumption))))) | with_reducible exact Nat.ne_of_gt (And.left (And.right (And.right (And.right (by with_reducible assumption))))) | with_reducible exact And.left (And.right (And.right (And.right (And.right (by with_reducible assumption))))) | with_reducible exact Ne.symm (And.left (And.right (And.right (And.right (And.right (by with_reducible assumption)))))) | with_reducible exact Nat.ne_of_lt (And.left (And.right (And.right (And.right (And.right (by with_reducible assumption)))))) | with_reducible exact Nat.ne_of_gt (And.left (And.right (And.right (And.right (And.right (by with_reducible assumption)))))) | with_reducible exact And.left (And.right (And.right (And.right (And.right (And.right (by with_reducible assumption)))))) | with_reducible exact Ne.symm (And.left (And.right (And.right (And.right (And.right (And.right (by with_reducible assumption))))))) | with_reducible exact Nat.ne_of_lt (And.left (And.right (And.right (And.right (And.right (And.right (by with_reducible assumption))))))) | with_reducible exact Nat.ne_of_gt (And.left (And.right (And.right (And.right (And.right (And.right (by with_reducible assumption))))))) | with_reducible exact And.left (And.right (And.right (And.right (And.right (And.right (And.right (by with_reducible assumption))))))) | with_reducible exact Ne.symm (And.left (And.right (And.right (And.right (And.right (And.right (And.right (by with_reducible assumption)))))))) | with_reducible exact Nat.ne_of_lt (And.left (And.right (And.right (And.right (And.right (And.right (And.right (by with_reducible assumption)))))))) | with_reducible exact Nat.ne_of_gt (And.left (And.right (And.right (And.right (And.right (And.right (And.right (by with_reducible assumption)))))))) | with_reducible exact And.left (And.right (And.right (And.right (And.right (And.right (And.right (And.right (by with_reducible assumption)))))))) | with_reducible exact Ne.symm (And.left (And.right (And.right (And.right (And.right (And.right (And.right (And.right (by with_reducible assumption))))))))) | with_reducible exact Nat.ne_of_lt (And.left (And.right (And.right (And.right (And.right (And.right (And.right (And.right (by with_reducible assumption))))))))) | with_reducible exact Nat.ne_of_gt (And.left (And.right (And.right (And.right (And.right (And.right (And.right (And.right (by with_reducible assumption))))))))) | with_reducible exact And.left (And.right (And.right (And.right (And.right (And.right (And.right (And.right (And.right (by with_reducible assumption))))))))) | with_reducible exact Ne.symm (And.left (And.right (And.right (And.right (And.right (And.right (And.right (And.right (And.right (by with_reducible assumption)))))))))) | with_reducible exact Nat.ne_of_lt (And.left (And.right (And.right (And.right (And.right (And.right (And.right (And.right (And.right (by with_reducible assumption)))))))))) | with_reducible exact Nat.ne_of_gt (And.left (And.right (And.right (And.right (And.right (And.right (And.right (And.right (And.right (by with_reducible assumption)))))))))) | with_reducible exact And.right (And.left (by with_reducible assumption)) | with_reducible exact Ne.symm (And.right (And.left (by with_reducible assumption))) | with_reducible exact Nat.ne_of_lt (And.right (And.left (by with_reducible assumption))) | with_reducible exact Nat.ne_of_gt (And.right (And.left (by with_reducible assumption))) | with_reducible exact And.right (And.right (And.left (by with_reducible assumption))) | with_reducible exact Ne.symm (And.right (And.right (And.left (by with_reducible assumption)))) | with_reducible exact Nat.ne_of_lt (And.right (And.right (And.left (by with_reducible assumption)))) | with_reducible exact Nat.ne_of_gt (And.right (And.right (And.left (by with_reducible assumption)))) | with_reducible exact And.right (And.right (And.right (And.left (by with_reducible assumption)))) | with_reducible exact Ne.symm (And.right (And.right (And.right (And.left (by with_reducible assumption))))) | with_reducible exact Nat.ne_of_lt (And.right (And.right (And.right (And.left (by with_reducible assumption))))) | with_reducible exact Nat.ne_of_gt (And.right (And.right (And.right (And.left (by with_reducible assumption))))) | with_reducible exact And.left (And.left (by with_reducible assumption)) | with_reducible exact Ne.symm (And.left (And.left (by with_reducible assumption))) | with_reducible exact Nat.ne_of_lt (And.left (And.left (by with_reducible assumption))) | with_reducible exact Nat.ne_of_gt (And.left (And.left (by with_reducible assumption))) | with_reducible exact And.left (And.right (And.left (by with_reducible assumption))) | with_reducible exact Ne.symm (And.left (And.right (And.left (by with_reducible assumption)))) | with_reducible exact Nat.ne_of_lt (And.left (And.right (And.left (by with_reducible assumption)))) | with_reducible exact Nat.ne_of_gt (And.left (And.right (And.left (by with_reducible assumption)))) | with_reducible exact And.left (And.right (And.right (And.left (by with_reducible assumption)))) | with_reducible exact Ne.symm (And.left (And.right (And.right (And.left (by with_reducible assumption))))) | with_reducible exact Nat.ne_of_lt (And.left (And.right (And.right (And.left (by with_reducible assumption))))) | with_reducible exact Nat.ne_of_gt (And.left (And.right (And.right (And.left (by with_reducible assumption))))) | with_reducible exact And.left (And.right (And.right (And.right (And.left (by with_reducible assumption))))) | with_reducible exact Ne.symm (And.left (And.right (And.right (And.right (And.left (by with_reducible assumption)))))) | with_reducible exact Nat.ne_of_lt (And.left (And.right (And.right (And.right (And.left (by with_reducible assumption)))))) | with_reducible exact Nat.ne_of_gt (And.left (And.right (And.right (And.right (And.left (by with_reducible assumption)))))) | omega))
  k_with "my lin" => ((first | (with_reducible refine ltM ?_; walk_at "my lt") | (with_reducible refine leM ?_; walk_at "my le") | omega))
  k_with "my enter" => (( (case a => exact Nat.lt_trans (by with_reducible assumption) (by decide)); (case b => k_is); (case c => k_is); (case d => exact BindsTo.of_eq rfl); (case e => exact locs rfl); (case k1 => rfl); (case k2 => rfl); (case k3 => rfl); (case k4 => decide)))
  k_with "my sides" => (( (case cw => exact Wd.keeps (by assumption) (Fr.keep (by assumption))); (case cd => ((try dsimp only [Ar, Around.deeper]); first | exact Nat.lt_of_lt_of_le (Nat.add_lt_add_right (by assumption) 1) (by decide) | omega)); (case cu => ((try dsimp only [Ar, Around.deeper]); first | exact Nat.lt_of_lt_of_le (Nat.add_lt_add_right (by assumption) 3) (by decide) | omega)); (case ct => ((try dsimp only); walk_at "my lin"))))
  k_with "my sides0" => (( (case cw => exact Wd.keeps (by assumption) (Fr.keep (by assumption))); (case cd => ((try dsimp only [Ar, Around.deeper]); first | exact Nat.lt_of_lt_of_le (Nat.add_lt_add_right (by assumption) 1) (by decide) | omega)); (case cu => ((try dsimp only [Ar, Around.deeper]); first | exact Nat.lt_of_lt_of_le (Nat.add_lt_add_right (by assumption) 3) (by decide) | omega))))
  k_with "my ret" => (first | (refine' retS ?rF ?rN ?_; (case rF => k_asm); (case rN => k_asm); intro _ _ _ _ _ q9 p9 r9; k_sweep; (try dsimp only at q9 ⊢); revert q9 p9 r9; intro _ _ _) | (refine' retI ?rF ?rN ?_; (case rF => k_asm); (case rN => k_asm); intro _ _ _ _ _ q9; k_sweep; (try dsimp only at q9 ⊢); revert q9; intro _) | (refine' retV ?rF ?rN ?_; (case rF => k_asm); (case rN => k_asm); intro _ _ _ _ q9; k_sweep; (try dsimp only at q9 ⊢); revert q9; intro _) | (refine' retO ?rF ?rN ?_; (case rF => k_asm); (case rN => k_asm); intro _ _ _ _ P9 F9 N9 l9 q9; k_sweep; (try (obtain ⟨u1, u2, e9, v1, v2, v3, v4⟩ := P9; subst e9)); simp only [AllNe, and_true, true_and] at l9; (try dsimp only at q9 ⊢)))
  k_with "execs cons" => (((with_reducible refine wpAny_execs_cons ?_); try dsimp only))
  k_with "execs nil" => (((with_reducible refine wpAny_execs_nil ?_); try dsimp only))
  k_with "call builtin:issubclass" => ((refine' issub_N ?k1 ?k2 ?_; (case k1 => k_asm); (case k2 => k_mem)))
  k_with "execs cons For" => (refine Stop.out ?_)
  k_with "truthy ref" => ((k_dflt (first | (refine' tr_nil ?kN ?km ?_; (case kN => k_asm); (case km => k_mem)) | (refine' tr_snoc ?kN ?km ?kz ?_; (case kN => k_asm); (case km => k_mem); (case kz => assumption)) | (refine' tr_any ?kN ?km ?kz ?_ ?_; (case kN => k_asm); (case km => k_mem); (case kz => assumption); all_goals (first | (intro e9; subst e9) | (intro _ _ _ e9 _; subst e9; (rename News _ _ _ _ => N9); rw [strValues_snoc] at N9))))))
  k_with "subscriptTail" => ((k_dflt (refine' item_last ?kN ?km ?kz ?_ ?ks; (case kN => k_asm); (case km => k_mem); (case kz => assumption); (case ks => with_unfolding_all rfl))))
  k_with "call builtin:list.pop" => ((k_dflt (refine' pop_last ?kF ?kN ?kU ?kz ?_; (case kF => k_asm); (case kN => k_asm); (case kU => k_upd); (case kz => assumption); intro _ _ _; k_sweep)))
  k_with "call builtin:str.join" => ((k_dflt (refine' join_mine ?kN ?km ?ka ?kn ?kp ?kt ?kb ?_; (case kN => k_asm); (case km => k_mem); (case ka => assumption); (case kn => assumption); (case kp => ((try dsimp only); walk_at "my lin")); (case kt => assumption); (case kb => ((try dsimp only); omega)); intro _ _ _ _ r9 q9; (try dsimp only at q9 r9 ⊢); revert r9 q9; intro _ _)))
  k_with "call builtin:str.split" => ((k_dflt (refine' split_mine ?kF ?kN ?kp ?kq ?ks ?_; (case kF => k_asm); (case kN => k_asm); (case kp => walk_at "my lin"); (case kq => ((try dsimp only); walk_at "my lin")); (case ks => ((try dsimp only); omega)); intro _ _ _ _ _ x9 y9 z9 F9 N9 l9; k_sweep; (try dsimp only at x9 y9 l9 ⊢); simp only [AllLt, and_true, true_and] at l9; first | (revert x9 y9 z9 F9 N9 l9; intro _ _ _ _ _ _) | (revert x9 y9 z9 F9 N9; intro _ _ _ _ _))))
  k_with "binaryOp Add str str" => ((k_dflt (refine' add_tok ?kt ?ku ?kp ?kq ?_ ?kz; (case kt => walk_at "my lin"); (case ku => walk_at "my lin"); (case kp => ((try dsimp only); walk_at "my lin")); (case kq => ((try dsimp only); walk_at "my lin")); (case kz => size_fits); intro _ _ _ r9 q9 l9; (try dsimp only at q9 r9 ⊢); revert r9 q9 l9; intro _ _ _)))
  k_with "inplaceOp Add str str" => ((k_dflt (refine' iadd_tok ?kt ?ku ?kp ?kq ?_ ?kz; (case kt => walk_at "my lin"); (case ku => walk_at "my lin"); (case kp => ((try dsimp only); walk_at "my lin")); (case kq => ((try dsimp only); walk_at "my lin")); (case kz => size_fits); intro _ _ _ r9 q9 l9; (try dsimp only at q9 r9 ⊢); revert r9 q9 l9; intro _ _ _)))
  k_with "truthy str" => ((refine SBL.truthy (by (have e0 : (PySem.Str.ofString "").length = 0 := by rfl); simp only [Str.length_append, e0]; omega) ?_))
  k_with "my enter2" => (( (case a => exact Nat.lt_trans (by with_reducible assumption) (by decide)); (case b => k_is); (case c => k_is); (case k1 => rfl); (case k2 => rfl); (case k3 => rfl); (case k4 => decide)))
  k_with "subscriptTail Name Slice str ref" => (((with_reducible show wpAny _ _ (subscriptTail _ (Expr.Slice none (some _) none _) _ _) _ _ _); (refine wpAny_with_toks (Nat.le_refl _) ?_); (refine' slice_strN_ns (hsz := ?hsz) (s := ⟨_, _, _, _, _⟩) ?kF ?kN ?_); (case kF => k_asm); (case kN => k_asm); (case hsz => size_fits); intro _ _ _ _ _ q9; (try dsimp only at q9 ⊢); revert q9; intro _))
  k_with "my toks" => (first | exact List.forall_mem_nil _ | (refine' List.forall_mem_cons.mpr ⟨?ka, ?kb⟩; (case ka => (constructor <;> ((try dsimp only); walk_at "my lin"))); (case kb => walk_at "my toks")))
  k_with "subscriptTail List cons BinOp ref int" => ((k_dflt (refine' item_menu [(PySem.Str.ofString "a", _), (PySem.Str.ofString "b", _), (PySem.Str.ofString "ab", _), (PySem.Str.ofString "a.", _), (PySem.Str.ofString "...", _), (PySem.Str.ofString ".b", _), (⟨#[_]⟩, _)] ?kN ?km ?k0 ?kk ?kl ?kt ?_ ?ks); (case kN => k_asm); (case km => k_mem); (case k0 => first | assumption | omega); (case kk => first | assumption | ((try simp only [List.length_cons, List.length_nil]); omega)); (case kl => exact Nat.le_of_ble_eq_true rfl); (case ks => with_unfolding_all rfl); (case kt => walk_at "my toks"); intro _ _ r9; (try dsimp only at r9); revert r9; intro _))
  k_with "call ref" => (( (k_dflt (refine' c_fspath ?cw ?cd ?cu ?ct ?_)); walk_at "my sides"; walk_at "my ret"))
  k_with "call ref" => (( (k_dflt (refine' c_get_sep ?cw ?cd ?cu ?ct ?_)); walk_at "my sides"; walk_at "my ret"))
  k_with "call ref" => (( (k_dflt (refine' c_splitroot ?cw ?cd ?cu ?ct (by first | assumption | omega) (by assumption) ?_)); walk_at "my sides"; walk_at "my ret"))
  k_with "call ref" => (( (k_dflt (refine' c_normpath ?cw ?cd ?cu ?ct (by walk_at "my lin") (by ((try dsimp only); walk_at "my lin")) (by first | assumption | omega) (by assumption) ?_)); walk_at "my sides"; walk_at "my ret"))
  k_with "call ref" => (( (k_dflt (refine' c_join ?cw ?cd ?cu ?ct (by walk_at "my lin") (by ((try dsimp only); walk_at "my lin")) (by walk_at "my lin") (by ((try dsimp only); walk_at "my lin")) (by first | assumption | omega) (by first | assumption | omega) (by assumption) ?_)); walk_at "my sides"; walk_at "my ret"))
  k_with "call ref" => (( (k_dflt (refine' c_lt ?cw ?cd ?cu ?_)); walk_at "my sides0"; walk_at "my ret"))
  k_with "call ref" => (( (k_dflt (refine' c_sub ?cw ?cd ?cu ?_)); walk_at "my sides0"; walk_at "my ret"))
  k_with "call ref" => (( (k_dflt (refine' c_mul ?cw ?cd ?cu (by walk_at "my lin") (by walk_at "my lin") ?_)); walk_at "my sides0"; walk_at "my ret"))
  k_with "compareOp Is str str" => ((k_dflt (refine' is_str (Frag.In.keeps (by assumption) (Fr.keep (by assumption))) ?ku ?kv ?kn ?_; (case ku => omega); (case kv => omega); (case kn => omega); intro _ _)))
  k_with "call ref" => (( (k_dflt (refine' c_countS ?cw ?cd ?cu ?ct (by walk_at "my lin") (by ((try dsimp only); walk_at "my lin")) ?_)); walk_at "my sides"; walk_at "my ret"))
  k_with "call ref" => (( (k_dflt (refine' c_countL ?cw ?cd ?cu ?ct ?cl (by assumption) (by ((try dsimp only); walk_at "my lin")) (by ((try dsimp only); walk_at "my lin")) (by ((try dsimp only); walk_at "my lin")) ?_)); walk_at "my sides"; walk_at "my ret"))
  k_with "call ref" => (( (k_dflt (refine' c_name ?cw ?cd ?cu ?ct (by walk_at "my lin") (by walk_at "my lin") ?_)); walk_at "my sides"; walk_at "my ret"))
  k_with "call ref" => (( (k_dflt (refine' c_length ?cw ?cd ?cu ?ct ?_)); walk_at "my sides"; walk_at "my ret"))
  trivial
def aboveL (ls cs : List Int) : List Int := List.zipWith (fun l c => 2 * c - l) ls cs
def backL (ls cs : List Int) : List Bool := (List.range ((aboveL ls cs).length - 1)).map fun k => decide ((aboveL ls cs).getD k 0 < (aboveL ls cs).getD (k + 1) 0)
theorem kw49 : True := by
  k_with "exec Assign cons ListComp" => (refine Stop.out ?_)
  trivial
theorem kw50 : True := by
  k_with "call type:zip" => (refine Stop.out ?_)
  trivial
theorem kw51 : True := by
  k_with "eval ListComp" => (refine Stop.out ?_)
  trivial
theorem kw52 : True := by
  k_with "CompSrc" => (refine Stop.out ?_)
  trivial
theorem c_back {w : World} {dp un : Nat} {fr : Option (List Env)} {gd : Option (List Code)} {s : Shared} {Q : Value → Shared → Prop} {E : Value → Shared → Prop} {D1 D2 : Addr} {vs₁ vs₂ : List Value} {ls cs : List Int}
   (W : Wd w s.heap) (hdep : dp < 880) (hun : un < 7800) (hpos : 0 < s.toks) (hl1 : s.heap.IsList D1 vs₁.toArray) (hI1 : IntsAre vs₁ ls) (hl2 : s.heap.IsList D2 vs₂.toArray) (hI2 : IntsAre vs₂ cs)
   (hlen : ls.length ≤ 10) (hlc : cs.length = ls.length) (h1 : 1 ≤ ls.length) (hcb : ∀ c ∈ cs, -1000 ≤ c ∧ c ≤ 1000)
   (hret : RetO s.heap s Q fun tk o => ∃ n, o = PySem.W.listOf ((backL ls cs).map Value.bool).toArray n) :
   wpAny (model PP w) (Ar dp fr gd un) (call (.ref 190) [.ref D1, .ref D2]) Q E s := by
  have W' := W
  obtain ⟨X, mean, mg, mb, T⟩ := W'
  refine' enterC (K := hd.heap_39 _) (binds := [(Str.ofString "lengths", .ref D1), (Str.ofString "counts", .ref D2)]) X T ?a ?b ?c ?d ?e ?e2 ?k ?k1 ?k2 ?k3
  (case a => exact Nat.lt_trans (by with_reducible assumption) (by decide))
  (case b => k_is)
  (case c => k_is)
  (case d => exact BindsTo.of_eq rfl)
  (case e => exact rfl)
  (case e2 => decide +kernel)
  (case k1 => rfl)
  (case k2 => rfl)
  (case k3 => rfl)
  intro L h₁ tk cells htk F N Y
  k_cells Y
  rename_i oc dc
  replace F : Fr s.heap L h₁ (fun y => if y = Str.ofString "counts" then some (.ref D2) else if y = Str.ofString "lengths" then some (.ref D1) else none) := F
  replace dc : oc.data = .cell none := dc
  have hLen : @LT.lt Nat _ L (L + 1) := Nat.lt_succ_self L
  k_steps
  refine wpAny_Assign_Name ?_ (by with_unfolding_all rfl)
  refine ListComp_open (cl := []) (by with_unfolding_all rfl) rfl (by decide) ?_ (fun _ => rfl)
  k_steps
  refine Stop.mk ?_
  rename Fr _ _ _ _ => F1
  rename News _ _ _ _ => N1
  have hcl : (aboveL ls cs).length = ls.length := by simp [aboveL, hlc]
  refine zip_comp (fun i y => ∃ t, y = .int ((aboveL ls cs).getD i 0) t) rfl hl1 hl2 ?_ ?z1 rfl rfl rfl ?z2 F1 N1 ?_ ?_
  case z1 => decide
  case z2 => decide
  · rw [sizeLine_eq, IntsAre.length hI1]; exact Nat.le_trans (Nat.min_le_left _ _) (leN1 hlen rfl)
  · intro i v0 v1 C oC D m₂ ys b1 b2 b3 b4 b5 o1 o2 o3 o4 o5 h tk' hv0 hv1 hC hm1 hm2 F2 N2
    have hil : i < ls.length := by rw [← IntsAre.length hI1]; exact (List.getElem?_eq_some_iff.mp hv0).1
    obtain ⟨t1, rfl⟩ := IntsAre.int_at hI1 i v0 hv0
    obtain ⟨t2, rfl⟩ := IntsAre.int_at hI2 i v1 hv1
    have e : (aboveL ls cs).getD i 0 = 2 * cs.getD i 0 - ls.getD i 0 := by
      simp only [aboveL, List.getD, List.getElem?_zipWith]
      rw [List.getElem?_eq_getElem hil, List.getElem?_eq_getElem (hlc ▸ hil)]
      rfl
    rw [e]
    have hb := hcb (cs.getD i 0) (by simp only [List.getD]; rw [List.getElem?_eq_getElem (hlc ▸ hil)]; exact List.getElem_mem _)
    generalize cs.getD i 0 = c at *
    generalize ls.getD i 0 = l at *
    obtain ⟨hb1, hb2⟩ := hb
    clear F1 N1
    k_steps
    exact ⟨_, _, rfl, by assumption, by assumption, _, rfl⟩
  · intro D C h tk' m' ys F2 N2 lD hn hCL hCD hC0 hCn hyl hyR
    refine ⟨m', hn, fun h'' hs'' => ?_⟩
    have F3 := F2.change hs'' hCL hC0
    have N3 : News s.heap L h'' [(D, LCg.lst ys), (L + 1, oc)] := fun p hp => ⟨hs''.extBut _ _ (by
      rcases List.mem_cons.mp hp with rfl | hp
      · exact Ne.symm hCD
      · exact hCn p hp) (N2 p hp).1, (N2 p hp).2⟩
    have hlD : @LT.lt Nat _ (L + 1) D := lD.1
    have hyI : IntsAre ys (aboveL ls cs) := ints_of_at _ _ (by rw [hyl, hcl, IntsAre.length hI1, IntsAre.length hI2, hlc, Nat.min_self]) hyR
    have hyl' : ys.length = ls.length := by rw [hyl, IntsAre.length hI1, IntsAre.length hI2, hlc, Nat.min_self]
    clear F1 N1 F2 N2 lD hn hCL hCD hC0 hCn
    dsimp only
    replace N3 : News s.heap L h'' [(D, PySem.W.listOf ys.toArray ys.length), (L + 1, oc)] := N3
    k_steps
    rename_i hC4 oC4 F4 N4 dC4
    refine Stop.mk ?_
    refine LCg.ListComp_U (cl := [(Str.ofString "above", L + 1)]) F4 (by with_unfolding_all rfl) ?z1 rfl ?z2 rfl ?_ (fun _ => rfl)
    case z1 => decide
    case z2 => decide
    k_steps
    rename_i h5 tk5 t5 u5 v5 hr5 F5 N5 st5
    refine Stop.mk ?_
    have ha : (aboveL ls cs).length ≤ 16777216 := hcl ▸ leN1 hlen rfl
    have hrs : Builtin.Range.rangeSize 0 (((aboveL ls cs).length : Int) - 1) 1 = (((aboveL ls cs).length - 1 : Nat) : Int) := rs_pred _
    refine LCg.CompSrc.range rfl F5 N5 hr5 (small_one (by decide) (by decide) (s62 ha).1.1 (s62 ha).1.2) hrs (Nat.le_trans (Nat.sub_le _ _) ha) fun g => comp_rest (fun i y => y = .bool (decide ((aboveL ls cs).getD i 0 < (aboveL ls cs).getD (i + 1) 0))) ?_ ?_
    · rintro i v I oI C oC D' m₂ zs h tk'' E' hi ⟨t, rfl⟩ hC hx F6 N6 off ne
      rw [Int.zero_add] at hx
      simp only [LCg.Off3, and_true] at off
      clear F5 N5 hr5 st5
      have hi1 : (i : Int) + 1 < (aboveL ls cs).length := Int.ofNat_lt.mpr (Nat.add_lt_of_lt_sub hi)
      have hi2 : (i : Int) < (aboveL ls cs).length := Int.ofNat_lt.mpr (Nat.lt_of_lt_of_le hi (Nat.sub_le _ _))
      obtain ⟨hi3, hi4, hi5⟩ := i63 (Nat.le_trans (Nat.le_of_lt (Nat.lt_of_lt_of_le hi (Nat.sub_le _ _))) ha)
      k_steps
      have e1 : ((i : Int) + 1).toNat = i + 1 := rfl
      exact ⟨rfl, by rw [Int.toNat_natCast, e1]⟩
    · intro zs hz1 hz2 D' h' tk' F6 N6 o1
      have ez : zs = (backL ls cs).map Value.bool := by
        apply List.ext_getElem?
        intro j
        by_cases hj : j < zs.length
        · have e1 := hz2 j _ (List.getElem?_eq_getElem hj)
          rw [List.getElem?_eq_getElem hj, e1]
          rw [hz1] at hj
          simp [backL, List.getElem?_range hj]
        · rw [List.getElem?_eq_none (Nat.not_lt.mp hj), List.getElem?_eq_none]
          simp only [backL, List.length_map, List.length_range, ← hz1]
          exact Nat.not_lt.mp hj
      have N7 : News s.heap L h' [(D', PySem.W.listOf ((backL ls cs).map Value.bool).toArray zs.length), (D, PySem.W.listOf ys.toArray ys.length), (L + 1, oC4)] := by rw [← ez]; exact N6
      exact fun hk => hret _ _ D' _ (Fr.keep F6) hk (News.fresh N7 (.head _)) (News.get N7 (.head _)) ⟨_, rfl⟩

theorem kwreset_c : True := by
  k_with_none
  k_with "my lt" => ((first | with_reducible assumption | with_reducible exact Nat.zero_lt_of_lt (by with_reducible assumption) | with_reducible exact Nat.succ_pos _ | with_reducible exact lth 0 (by with_reducible assumption) | with_reducible exact lth 1 (by with_reducible assumption) | with_reducible exact lth 2 (by with_reducible assumption) | with_reducible exact lth 3 (by with_reducible assumption) | with_reducible exact lth 4 (by with_reducible assumption) | with_reducible exact lth 5 (by with_reducible assumption) | with_reducible exact lth 6 (by with_reducible assumption) | with_reducible exact lth 7 (by with_reducible assumption) | with_reducible exact lth 8 (by with_reducible assumption) | with_reducible exact lth 9 (by with_reducible assumption) | with_reducible exact lth 10 (by with_reducible assumption) | with_reducible exact lth 11 (by with_reducible assumption) | with_reducible exact lth 12 (by with_reducible assumption) | with_reducible exact lta 1 (by with_reducible assumption) | with_reducible exact lta 2 (by with_reducible assumption) | with_reducible exact lta 3 (by with_reducible assumption) | with_reducible exact lta 4 (by with_reducible assumption) | with_reducible exact lta 5 (by with_reducible assumption) | with_reducible exact lta 6 (by with_reducible assumption) | with_reducible exact lta 7 (by with_reducible assumption) | with_reducible exact lta 8 (by with_reducible assumption) | with_reducible exact lta 9 (by with_reducible assumption) | with_reducible exact lta 10 (by with_reducible assumption) | with_reducible exact lta 11 (by with_reducible assumption) | with_reducible exact lta 12 (by with_reducible assumption) | with_reducible exact lta 13 (by with_reducible assumption) | with_reducible exact lta 14 (by with_reducible assumption) | with_reducible exact lta 15 (by with_reducible assumption) | with_reducible exact lta 16 (by with_reducible assumption) | with_reducible exact lta 17 (by with_reducible assumption) | with_reducible exact lta 18 (by with_reducible assumption) | with_reducible exact lta 19 (by with_reducible assumption) | with_reducible exact lta 20 (by with_reducible assumption) | with_reducible exact lta 21 (by with_reducible assumption) | with_reducible exact lts 0 | with_reducible exact lts 1 | with_reducible exact lts 2 | with_reducible exact lts 3 | with_reducible exact lts 4 | with_reducible exact lts 5 | with_reducible exact lts 6 | with_reducible exact lts 7 | with_reducible exact lts 8 | with_reducible exact lts 9 | with_reducible exact lts 10 | with_reducible exact lts 11 | with_reducible exact lts 12 | with_reducible exact ltp 0 (by with_reducible assumption) | with_reducible exact ltp 1 (by with_reducible assumption) | with_reducible exact ltp 2 (by with_reducible assumption) | with_reducible exact ltp 3 (by with_reducible assumption) | with_reducible exact ltp 4 (by with_reducible assumption) | with_reducible exact ltp 5 (by with_reducible assumption) | with_reducible exact ltp 6 (by with_reducible assumption) | with_reducible exact ltp 7 (by with_reducible assumption) | with_reducible exact ltp 8 (by with_reducible assumption) | with_reducible exact ltp 9 (by with_reducible assumption) | with_reducible exact ltp 10 (by with_reducible assumption) | with_reducible exact ltp 11 (by with_reducible assumption) | with_reducible exact ltp 12 (by with_reducible assumption) | ((first | with_reducible refine ltk 22 ?_ | with_reducible refine ltk 21 ?_ | with_reducible refine ltk 20 ?_ | with_reducible refine ltk 19 ?_ | with_reducible refine ltk 18 ?_ | with_reducible refine ltk 17 ?_ | with_reducible refine ltk 16 ?_ | with_reducible refine ltk 15 ?_ | with_reducible refine ltk 14 ?_ | with_reducible refine ltk 13 ?_ | with_reducible refine ltk 12 ?_ | with_reducible refine ltk 11 ?_ | with_reducible refine ltk 10 ?_ | with_reducible refine ltk 9 ?_ | with_reducible refine ltk 8 ?_ | with_reducible refine ltk 7 ?_ | with_reducible refine ltk 6 ?_ | with_reducible refine ltk 5 ?_ | with_reducible refine ltk 4 ?_ | with_reducible refine ltk 3 ?_ | with_reducible refine ltk 2 ?_ | with_reducible refine ltk 1 ?_ | skip); first | with_reducible assumption | ((first | with_reducible refine ltc 22 (by with_reducible assumption) ?_ | with_reducible refine ltc 21 (by with_reducible assumption) ?_ | with_reducible refine ltc 20 (by with_reducible assumption) ?_ | with_reducible refine ltc 19 (by with_reducible assumption) ?_ | with_reducible refine ltc 18 (by with_reducible assumption) ?_ | with_reducible refine ltc 17 (by with_reducible assumption) ?_ | with_reducible refine ltc 16 (by with_reducible assumption) ?_ | with_reducible refine ltc 15 (by with_reducible assumption) ?_ | with_reducible refine ltc 14 (by with_reducible assumption) ?_ | with_reducible refine ltc 13 (by with_reducible assumption) ?_ | with_reducible refine ltc 12 (by with_reducible assumption) ?_ | with_reducible refine ltc 11 (by with_reducible assumption) ?_ | with_reducible refine ltc 10 (by with_reducible assumption) ?_ | with_reducible refine ltc 9 (by with_reducible assumption) ?_ | with_reducible refine ltc 8 (by with_reducible assumption) ?_ | with_reducible refine ltc 7 (by with_reducible assumption) ?_ | with_reducible refine ltc 6 (by with_reducible assumption) ?_ | with_reducible refine ltc 5 (by with_reducible assumption) ?_ | with_reducible refine ltc 4 (by with_reducible assumption) ?_ | with_reducible refine ltc 3 (by with_reducible assumption) ?_ | with_reducible refine ltc 2 (by with_reducible assumption) ?_ | with_reducible refine ltc 1 (by with_reducible assumption) ?_ | with_reducible refine lt0 (by with_reducible assumption) ?_); walk_at "my lt"))))
  k_with "my le" => ((first | with_reducible assumption | with_reducible exact Nat.le_refl _ | with_reducible exact Nat.le_of_lt (by with_reducible assumption) | with_reducible exact leN1 (by with_reducible assumption) rfl | with_reducible exact leN2 (by with_reducible assumption) (by with_reducible assumption) rfl | with_reducible exact leh 1 (by with_reducible assumption) | with_reducible exact leh 2 (by with_reducible assumption) | with_reducible exact leh 3 (by with_reducible assumption) | with_reducible exact leh 4 (by with_reducible assumption) | with_reducible exact leh 5 (by with_reducible assumption) | with_reducible exact leh 6 (by with_reducible assumption) | with_reducible exact leh 7 (by with_reducible assumption) | with_reducible exact leh 8 (by with_reducible assumption) | with_reducible exact leh 9 (by with_reducible assumption) | with_reducible exact leh 10 (by with_reducible assumption) | with_reducible exact leh 11 (by with_reducible assumption) | with_reducible exact leh 12 (by with_reducible assumption) | with_reducible exact lea 1 (by with_reducible assumption) | with_reducible exact lea 2 (by with_reducible assumption) | with_reducible exact lea 3 (by with_reducible assumption) | with_reducible exact lea 4 (by with_reducible assumption) | with_reducible exact lea 5 (by with_reducible assumption) | with_reducible exact lea 6 (by with_reducible assumption) | with_reducible exact lea 7 (by with_reducible assumption) | with_reducible exact lea 8 (by with_reducible assumption) | with_reducible exact lea 9 (by with_reducible assumption) | with_reducible exact lea 10 (by with_reducible assumption) | with_reducible exact lea 11 (by with_reducible assumption) | with_reducible exact lea 12 (by with_reducible assumption) | with_reducible exact lea 13 (by with_reducible assumption) | with_reducible exact lea 14 (by with_reducible assumption) | with_reducible exact lea 15 (by with_reducible assumption) | with_reducible exact lea 16 (by with_reducible assumption) | with_reducible exact lea 17 (by with_reducible assumption) | with_reducible exact lea 18 (by with_reducible assumption) | with_reducible exact lea 19 (by with_reducible assumption) | with_reducible exact lea 20 (by with_reducible assumption) | with_reducible exact lea 21 (by with_reducible assumption) | with_reducible exact les 1 | with_reducible exact les 2 | with_reducible exact les 3 | with_reducible exact les 4 | with_reducible exact les 5 | with_reducible exact les 6 | with_reducible exact les 7 | with_reducible exact les 8 | with_reducible exact les 9 | with_reducible exact les 10 | with_reducible exact les 11 | with_reducible exact les 12 | ((first | with_reducible refine lek 22 ?_ | with_reducible refine lek 21 ?_ | with_reducible refine lek 20 ?_ | with_reducible refine lek 19 ?_ | with_reducible refine lek 18 ?_ | with_reducible refine lek 17 ?_ | with_reducible refine lek 16 ?_ | with_reducible refine lek 15 ?_ | with_reducible refine lek 14 ?_ | with_reducible refine lek 13 ?_ | with_reducible refine lek 12 ?_ | with_reducible refine lek 11 ?_ | with_reducible refine lek 10 ?_ | with_reducible refine lek 9 ?_ | with_reducible refine lek 8 ?_ | with_reducible refine lek 7 ?_ | with_reducible refine lek 6 ?_ | with_reducible refine lek 5 ?_ | with_reducible refine lek 4 ?_ | with_reducible refine lek 3 ?_ | with_reducible refine lek 2 ?_ | with_reducible refine lek 1 ?_ | skip); first | with_reducible assumption | ((first | with_reducible refine lec 22 (by with_reducible assumption) ?_ | with_reducible refine lec 21 (by with_reducible assumption) ?_ | with_reducible refine lec 20 (by with_reducible assumption) ?_ | with_reducible refine lec 19 (by with_reducible assumption) ?_ | with_reducible refine lec 18 (by with_reducible assumption) ?_ | with_reducible refine lec 17 (by with_reducible assumption) ?_ | with_reducible refine lec 16 (by with_reducible assumption) ?_ | with_reducible refine lec 15 (by with_reducible assumption) ?_ | with_reducible refine lec 14 (by with_reducible assumption) ?_ | with_reducible refine lec 13 (by with_reducible assumption) ?_ | with_reducible refine lec 12 (by with_reducible assumption) ?_ | with_reducible refine lec 11 (by with_reducible assumption) ?_ | with_reducible refine lec 10 (by with_reducible assumption) ?_ | with_reducible refine lec 9 (by with_reducible assumption) ?_ | with_reducible refine lec 8 (by with_reducible assumption) ?_ | with_reducible refine lec 7 (by with_reducible assumption) ?_ | with_reducible refine lec 6 (by with_reducible assumption) ?_ | with_reducible refine lec 5 (by with_reducible assumption) ?_ | with_reducible refine lec 4 (by with_reducible assumption) ?_ | with_reducible refine lec 3 (by with_reducible assumption) ?_ | with_reducible refine lec 2 (by with_reducible assumption) ?_ | with_reducible refine lec 1 (by with_reducible assumption) ?_ | with_reducible refine le0 (by with_reducible assumption) ?_); walk_at "my le"))))
  k_with "my ne" => ((first | with_reducible assumption | with_reducible exact Ne.symm (by with_reducible assumption) | with_reducible exact Nat.ne_of_lt (by with_reducible assumption) | with_reducible exact Nat.ne_of_gt (by with_reducible assumption) | with_reducible exact And.right (by with_reducible assumption) | with_reducible exact Ne.symm (And.right (by with_reducible assumption)) | with_reducible exact Nat.ne_of_lt (And.right (by with_reducible assumption)) | with_reducible exact Nat.ne_of_gt (And.right (by with_reducible assumption)) | with_reducible exact And.right (And.right (by with_reducible assumption)) | with_reducible exact Ne.symm (And.right (And.right (by with_reducible assumption))) | with_reducible exact Nat.ne_of_lt (And.right (And.right (by with_reducible assumption))) | with_reducible exact Nat.ne_of_gt (And.right (And.right (by with_reducible assumption))) | with_reducible exact And.right (And.right (And.right (by with_reducible assumption))) | with_reducible exact Ne.symm (And.right (And.right (And.right (by with_reducible assumption)))) | with_reducible exact Nat.ne_of_lt (And.right (And.right (And.right (by with_reducible assumption)))) | with_reducible exact Nat.ne_of_gt (And.right (And.right (And.right (by with_reducible assumption)))) | with_reducible exact And.right (And.right (And.right (And.right (by with_reducible assumption)))) | with_reducible exact Ne.symm (And.right (And.right (And.right (And.right (by with_reducible assumption))))) | with_reducible exact Nat.ne_of_lt (And.right (And.right (And.right (And.right (by with_reducible assumption))))) | with_reducible exact Nat.ne_of_gt (And.right (And.right (And.right (And.right (by with_reducible assumption))))) | with_reducible exact And.right (And.right (And.right (And.right (And.right (by with_reducible assumption))))) | with_reducible exact Ne.symm (And.right (And.right (And.right (And.right (And.right (by with_reducible assumption)))))) | with_reducible exact Nat.ne_of_lt (And.right (And.right (And.right (And.right (And.right (by with_reducible assumption)))))) | with_reducible exact Nat.ne_of_gt (And.right (And.right (And.right (And.right (And.right (by with_reducible assumption)))))) | with_reducible exact And.right (And.right (And.right (And.right (And.right (And.right (by with_reducible assumption)))))) | with_reducible exact Ne.symm (And.right (And.right (And.right (And.right (And.right (And.right (by with_reducible assumption))))))) | with_reducible exact Nat.ne_of_lt (And.right (And.right (And.right (And.right (And.right (And.right (by with_reducible assumption))))))) | with_reducible exact Nat.ne_of_gt (And.right (And.right (And.right (And.right (And.right (And.right (by with_reducible assumption))))))) | with_reducible exact And.right (And.right (And.right (And.right (And.right (And.right (And.right (by with_reducible assumption))))))) | with_reducible exact Ne.symm (And.right (And.right (And.right (And.right (And.right (And.right (And.right (by with_reducible assumption)))))))) | with_reducible exact Nat.ne_of_lt (And.right (And.right (And.right (And.right (And.right (And.right (And.right (by with_reducible assumption)))))))) | with_reducible exact Nat.ne_of_gt (And.right (And.right (And.right (And.right (And.right (And.right (And.right (by with_reducible assumption)))))))) | with_reducible exact And.right (And.right (And.right (And.right (And.right (And.right (And.right (And.right (by with_reducible assumption)))))))) | with_reducible exact Ne.symm (And.right (And.right (And.right (And.right (And.right (And.right (And.right (And.right (by with_reducible assumption))))))))) | with_reducible exact Nat.ne_of_lt (And.right (And.right (And.right (And.right (And.right (And.right (And.right (And.right (by with_reducible assumption))))))))) | with_reducible exact Nat.ne_of_gt (And.right (And.right (And.right (And.right (And.right (And.right (And.right (And.right (by with_reducible assumption))))))))) | with_reducible exact And.right (And.right (And.right (And.right (And.right (And.right (And.right (And.right (And.right (by with_reducible assumption))))))))) | with_reducible exact Ne.symm (And.right (And.right (And.right (And.right (And.right (And.right (And.right (And.right (And.right (by with_reducible assumption)))))))))) | with_reducible exact Nat.ne_of_lt (And.right (And.right (And.right (And.right (And.right (And.right (And.right (And.right (And.right (by with_reducible assumption)))))))))) | with_reducible exact Nat.ne_of_gt (And.right (And.right (And.right (And.right (And.right (And.right (And.right (And.right (And.right (by with_reducible assumption)))))))))) | with_reducible exact And.left (by with_reducible assumption) | with_reducible exact Ne.symm (And.left (by with_reducible assumption)) | with_reducible exact Nat.ne_of_lt (And.left (by with_reducible assumption)) | with_reducible exact Nat.ne_of_gt (And.left (by with_reducible assumption)) | with_reducible exact And.left (And.right (by with_reducible assumption)) | with_reducible exact Ne.symm (And.left (And.right (by with_reducible assumption))) | with_reducible exact Nat.ne_of_lt (And.left (And.right (by with_reducible assumption))) | with_reducible exact Nat.ne_of_gt (And.left (And.right (by with_reducible assumption))) | with_reducible exact And.left (And.right (And.right (by with_reducible assumption))) | with_reducible exact Ne.symm (And.left (And.right (And.right (by with_reducible assumption)))) | with_reducible exact Nat.ne_of_lt (And.left (And.right (And.right (by with_reducible assumption)))) | with_reducible exact Nat.ne_of_gt (And.left (And.right (And.right (by with_reducible assumption)))) | with_reducible exact And.left (And.right (And.right (And.right (by with_reducible assumption)))) | with_reducible exact Ne.symm (And.left (And.right (And.right (And.right (by with_reducible assumption))))) | with_reducible exact Nat.ne_of_lt (And.left (And.right (And.right (And.right (by with_reducible assumption))))) | with_reducible exact Nat.ne_of_gt (And.left (And.right (And.right (And.right (by with_reducible assumption))))) | with_reducible exact And.left (And.right (And.right (And.right (And.right (by with_reducible assumption))))) | with_reducible exact Ne.symm (And.left (And.right (And.right (And.right (And.right (by with_reducible assumption)))))) | with_reducible exact Nat.ne_of_lt (And.left (And.right (And.right (And.right (And.right (by with_reducible assumption)))))) | with_reducible exact Nat.ne_of_gt (And.left (And.right (And.right (And.right (And.right (by with_reducible assumption)))))) | with_reducible exact And.left (And.right (And.right (And.right (And.right (And.right (by with_reducible assumption)))))) | with_reducible exact Ne.symm (And.left (And.right (And.right (And.right (And.right (And.right (by with_reducible assumption))))))) | with_reducible exact Nat.ne_of_lt (And.left (And.right (And.right (And.right (And.right (And.right (by with_reducible assumption))))))) | with_reducible exact Nat.ne_of_gt (And.left (And.right (And.right (And.right (And.right (And.right (by with_reducible assumption))))))) | with_reducible exact And.left (And.right (And.right (And.right (And.right (And.right (And.right (by with_reducible assumption))))))) | with_reducible exact Ne.symm (And.left (And.right (And.right (And.right (And.right (And.right (And.right (by with_reducible assumption)))))))) | with_reducible exact Nat.ne_of_lt (And.left (And.right (And.right (And.right (And.right (And.right (And.right (by with_reducible assumption)))))))) | with_reducible exact Nat.ne_of_gt (And.left (And.right (And.right (And.right (And.right (And.right (And.right (by with_reducible assumption)))))))) | with_reducible exact And.left (And.right (And.right (And.right (And.right (And.right (And.right (And.right (by with_reducible assumption)))))))) | with_reducible exact Ne.symm (And.left (And.right (And.right (And.right (And.right (And.right (And.right (And.right (by with_reducible assumption))))))))) | with_reducible exact Nat.ne_of_lt (And.left (And.right (And.right (And.right (And.right (And.right (And.right (And.right (by with_reducible assumption))))))))) | with_reducible exact Nat.ne_of_gt (And.left (And.right (And.right (And.right (And.right (And.right (And.right (And.right (by with_reducible assumption))))))))) | with_reducible exact And.left (And.right (And.right (And.right (And.right (And.right (And.right (And.right (And.right (by with_reducible assumption))))))))) | with_reducible exact Ne.symm (And.left (And.right (And.right (And.right (And.right (And.right (And.right (And.right (And.right (by with_reducible assumption)))))))))) | with_reducible exact Nat.ne_of_lt (And.left (And.right (And.right (And.right (And.right (And.right (And.right (And.right (And.right (by with_reducible assumption)))))))))) | with_reducible exact Nat.ne_of_gt (And.left (And.right (And.right (And.right (And.right (And.right (And.right (And.right (And.right (by with_reducible assumption)))))))))) | with_reducible exact And.right (And.left (by with_reducible assumption)) | with_reducible exact Ne.symm (And.right (And.left (by with_reducible assumption))) | with_reducible exact Nat.ne_of_lt (And.right (And.left (by with_reducible assumption))) | with_reducible exact Nat.ne_of_gt (And.right (And.left (by with_reducible assumption))) | with_reducible exact And.right (And.right (And.left (by with_reducible assumption))) | with_reducible exact Ne.symm (And.right (And.right (And.left (by with_reducible assumption)))) | with_reducible exact Nat.ne_of_lt (And.right (And.right (And.left (by with_reducible assumption)))) | with_reducible exact Nat.ne_of_gt (And.right (And.right (And.left (by with_reducible assumption)))) | with_reducible exact And.right (And.right (And.right (And.left (by with_reducible assumption)))) | with_reducible exact Ne.symm (And.right (And.right (And.right (And.left (by with_reducible assumption))))) | with_reducible exact Nat.ne_of_lt (And.right (And.right (And.right (And.left (by with_reducible assumption))))) | with_reducible exact Nat.ne_of_gt (And.right (And.right (And.right (And.left (by with_reducible assumption))))) | with_reducible exact And.left (And.left (by with_reducible assumption)) | with_reducible exact Ne.symm (And.left (And.left (by with_reducible assumption))) | with_reducible exact Nat.ne_of_lt (And.left (And.left (by with_reducible assumption))) | with_reducible exact Nat.ne_of_gt (And.left (And.left (by with_reducible assumption))) | with_reducible exact And.left (And.right (And.left (by with_reducible assumption))) | with_reducible exact Ne.symm (And.left (And.right (And.left (by with_reducible assumption)))) | with_reducible exact Nat.ne_of_lt (And.left (And.right (And.left (by with_reducible assumption)))) | with_reducible exact Nat.ne_of_gt (And.left (And.right (And.left (by with_reducible assumption)))) | with_reducible exact And.left (And.right (And.right (And.left (by with_reducible assumption)))) | with_reducible exact Ne.symm (And.left (And.right (And.right (And.left (by with_reducible assumption))))) | with_reducible exact Nat.ne_of_lt (And.left (And.right (And.right (And.left (by with_reducible assumption))))) | with_reducible exact Nat.ne_of_gt (And.left (And.right (And.right (And.left (by with_reducible assumption))))) | with_reducible exact And.left (And.right (And.right (And.right (And.left (by with_reducible assumption))))) | with_reducible exact Ne.symm (And.left (And.right (And.right (And.right (And.left (by with_reducible assumption)))))) | with_reducible exact Nat.ne_of_lt (And.left (And.right (And.right (And.right (And.left (by with_reducible assumption)))))) | with_reducible exact Nat.ne_of_gt (And.left (And.right (And.right (And.right (And.left (by with_reducible assumption)))))) | omega))
  k_with "my lin" => ((first | (with_reducible refine ltM ?_; walk_at "my lt") | (with_reducible refine leM ?_; walk_at "my le") | omega))
  k_with "my enter" => (( (case a => exact Nat.lt_trans (by with_reducible assumption) (by decide)); (case b => k_is); (case c => k_is); (case d => exact BindsTo.of_eq rfl); (case e => exact locs rfl); (case k1 => rfl); (case k2 => rfl); (case k3 => rfl); (case k4 => decide)))
  k_with "my sides" => (( (case cw => exact Wd.keeps (by assumption) (Fr.keep (by assumption))); (case cd => ((try dsimp only [Ar, Around.deeper]); first | exact Nat.lt_of_lt_of_le (Nat.add_lt_add_right (by assumption) 1) (by decide) | omega)); (case cu => ((try dsimp only [Ar, Around.deeper]); first | exact Nat.lt_of_lt_of_le (Nat.add_lt_add_right (by assumption) 3) (by decide) | omega)); (case ct => ((try dsimp only); walk_at "my lin"))))
  k_with "my sides0" => (( (case cw => exact Wd.keeps (by assumption) (Fr.keep (by assumption))); (case cd => ((try dsimp only [Ar, Around.deeper]); first | exact Nat.lt_of_lt_of_le (Nat.add_lt_add_right (by assumption) 1) (by decide) | omega)); (case cu => ((try dsimp only [Ar, Around.deeper]); first | exact Nat.lt_of_lt_of_le (Nat.add_lt_add_right (by assumption) 3) (by decide) | omega))))
  k_with "my ret" => (first | (refine' retS ?rF ?rN ?_; (case rF => k_asm); (case rN => k_asm); intro _ _ _ _ _ q9 p9 r9; k_sweep; (try dsimp only at q9 ⊢); revert q9 p9 r9; intro _ _ _) | (refine' retI ?rF ?rN ?_; (case rF => k_asm); (case rN => k_asm); intro _ _ _ _ _ q9; k_sweep; (try dsimp only at q9 ⊢); revert q9; intro _) | (refine' retV ?rF ?rN ?_; (case rF => k_asm); (case rN => k_asm); intro _ _ _ _ q9; k_sweep; (try dsimp only at q9 ⊢); revert q9; intro _) | (refine' retO ?rF ?rN ?_; (case rF => k_asm); (case rN => k_asm); intro _ _ _ _ P9 F9 N9 l9 q9; k_sweep; (try (obtain ⟨u1, u2, e9, v1, v2, v3, v4⟩ := P9; subst e9)); simp only [AllNe, and_true, true_and] at l9; (try dsimp only at q9 ⊢)))
  k_with "execs cons" => (((with_reducible refine wpAny_execs_cons ?_); try dsimp only))
  k_with "execs nil" => (((with_reducible refine wpAny_execs_nil ?_); try dsimp only))
  k_with "call builtin:issubclass" => ((refine' issub_N ?k1 ?k2 ?_; (case k1 => k_asm); (case k2 => k_mem)))
  k_with "execs cons For" => (refine Stop.out ?_)
  k_with "truthy ref" => ((k_dflt (first | (refine' tr_nil ?kN ?km ?_; (case kN => k_asm); (case km => k_mem)) | (refine' tr_snoc ?kN ?km ?kz ?_; (case kN => k_asm); (case km => k_mem); (case kz => assumption)) | (refine' tr_any ?kN ?km ?kz ?_ ?_; (case kN => k_asm); (case km => k_mem); (case kz => assumption); all_goals (first | (intro e9; subst e9) | (intro _ _ _ e9 _; subst e9; (rename News _ _ _ _ => N9); rw [strValues_snoc] at N9))))))
  k_with "subscriptTail" => ((k_dflt (refine' item_last ?kN ?km ?kz ?_ ?ks; (case kN => k_asm); (case km => k_mem); (case kz => assumption); (case ks => with_unfolding_all rfl))))
  k_with "call builtin:list.pop" => ((k_dflt (refine' pop_last ?kF ?kN ?kU ?kz ?_; (case kF => k_asm); (case kN => k_asm); (case kU => k_upd); (case kz => assumption); intro _ _ _; k_sweep)))
  k_with "call builtin:str.join" => ((k_dflt (refine' join_mine ?kN ?km ?ka ?kn ?kp ?kt ?kb ?_; (case kN => k_asm); (case km => k_mem); (case ka => assumption); (case kn => assumption); (case kp => ((try dsimp only); walk_at "my lin")); (case kt => assumption); (case kb => ((try dsimp only); omega)); intro _ _ _ _ r9 q9; (try dsimp only at q9 r9 ⊢); revert r9 q9; intro _ _)))
  k_with "call builtin:str.split" => ((k_dflt (refine' split_mine ?kF ?kN ?kp ?kq ?ks ?_; (case kF => k_asm); (case kN => k_asm); (case kp => walk_at "my lin"); (case kq => ((try dsimp only); walk_at "my lin")); (case ks => ((try dsimp only); omega)); intro _ _ _ _ _ x9 y9 z9 F9 N9 l9; k_sweep; (try dsimp only at x9 y9 l9 ⊢); simp only [AllLt, and_true, true_and] at l9; first | (revert x9 y9 z9 F9 N9 l9; intro _ _ _ _ _ _) | (revert x9 y9 z9 F9 N9; intro _ _ _ _ _))))
  k_with "binaryOp Add str str" => ((k_dflt (refine' add_tok ?kt ?ku ?kp ?kq ?_ ?kz; (case kt => walk_at "my lin"); (case ku => walk_at "my lin"); (case kp => ((try dsimp only); walk_at "my lin")); (case kq => ((try dsimp only); walk_at "my lin")); (case kz => size_fits); intro _ _ _ r9 q9 l9; (try dsimp only at q9 r9 ⊢); revert r9 q9 l9; intro _ _ _)))
  k_with "inplaceOp Add str str" => ((k_dflt (refine' iadd_tok ?kt ?ku ?kp ?kq ?_ ?kz; (case kt => walk_at "my lin"); (case ku => walk_at "my lin"); (case kp => ((try dsimp only); walk_at "my lin")); (case kq => ((try dsimp only); walk_at "my lin")); (case kz => size_fits); intro _ _ _ r9 q9 l9; (try dsimp only at q9 r9 ⊢); revert r9 q9 l9; intro _ _ _)))
  k_with "truthy str" => ((refine SBL.truthy (by (have e0 : (PySem.Str.ofString "").length = 0 := by rfl); simp only [Str.length_append, e0]; omega) ?_))
  k_with "my enter2" => (( (case a => exact Nat.lt_trans (by with_reducible assumption) (by decide)); (case b => k_is); (case c => k_is); (case k1 => rfl); (case k2 => rfl); (case k3 => rfl); (case k4 => decide)))
  k_with "subscriptTail Name Slice str ref" => (((with_reducible show wpAny _ _ (subscriptTail _ (Expr.Slice none (some _) none _) _ _) _ _ _); (refine wpAny_with_toks (Nat.le_refl _) ?_); (refine' slice_strN_ns (hsz := ?hsz) (s := ⟨_, _, _, _, _⟩) ?kF ?kN ?_); (case kF => k_asm); (case kN => k_asm); (case hsz => size_fits); intro _ _ _ _ _ q9; (try dsimp only at q9 ⊢); revert q9; intro _))
  k_with "my toks" => (first | exact List.forall_mem_nil _ | (refine' List.forall_mem_cons.mpr ⟨?ka, ?kb⟩; (case ka => (constructor <;> ((try dsimp only); walk_at "my lin"))); (case kb => walk_at "my toks")))
  k_with "subscriptTail List cons BinOp ref int" => ((k_dflt (refine' item_menu [(PySem.Str.ofString "a", _), (PySem.Str.ofString "b", _), (PySem.Str.ofString "ab", _), (PySem.Str.ofString "a.", _), (PySem.Str.ofString "...", _), (PySem.Str.ofString ".b", _), (⟨#[_]⟩, _)] ?kN ?km ?k0 ?kk ?kl ?kt ?_ ?ks); (case kN => k_asm); (case km => k_mem); (case k0 => first | assumption | omega); (case kk => first | assumption | ((try simp only [List.length_cons, List.length_nil]); omega)); (case kl => exact Nat.le_of_ble_eq_true rfl); (case ks => with_unfolding_all rfl); (case kt => walk_at "my toks"); intro _ _ r9; (try dsimp only at r9); revert r9; intro _))
  k_with "call ref" => (( (k_dflt (refine' c_fspath ?cw ?cd ?cu ?ct ?_)); walk_at "my sides"; walk_at "my ret"))
  k_with "call ref" => (( (k_dflt (refine' c_get_sep ?cw ?cd ?cu ?ct ?_)); walk_at "my sides"; walk_at "my ret"))
  k_with "call ref" => (( (k_dflt (refine' c_splitroot ?cw ?cd ?cu ?ct (by first | assumption | omega) (by assumption) ?_)); walk_at "my sides"; walk_at "my ret"))
  k_with "call ref" => (( (k_dflt (refine' c_normpath ?cw ?cd ?cu ?ct (by walk_at "my lin") (by ((try dsimp only); walk_at "my lin")) (by first | assumption | omega) (by assumption) ?_)); walk_at "my sides"; walk_at "my ret"))
  k_with "call ref" => (( (k_dflt (refine' c_join ?cw ?cd ?cu ?ct (by walk_at "my lin") (by ((try dsimp only); walk_at "my lin")) (by walk_at "my lin") (by ((try dsimp only); walk_at "my lin")) (by first | assumption | omega) (by first | assumption | omega) (by assumption) ?_)); walk_at "my sides"; walk_at "my ret"))
  k_with "call ref" => (( (k_dflt (refine' c_lt ?cw ?cd ?cu ?_)); walk_at "my sides0"; walk_at "my ret"))
  k_with "call ref" => (( (k_dflt (refine' c_sub ?cw ?cd ?cu ?_)); walk_at "my sides0"; walk_at "my ret"))
  k_with "call ref" => (( (k_dflt (refine' c_mul ?cw ?cd ?cu (by walk_at "my lin") (by walk_at "my lin") ?_)); walk_at "my sides0"; walk_at "my ret"))
  k_with "compareOp Is str str" => ((k_dflt (refine' is_str (Frag.In.keeps (by assumption) (Fr.keep (by assumption))) ?ku ?kv ?kn ?_; (case ku => omega); (case kv => omega); (case kn => omega); intro _ _)))
  k_with "call ref" => (( (k_dflt (refine' c_countS ?cw ?cd ?cu ?ct (by walk_at "my lin") (by ((try dsimp only); walk_at "my lin")) ?_)); walk_at "my sides"; walk_at "my ret"))
  k_with "call ref" => (( (k_dflt (refine' c_countL ?cw ?cd ?cu ?ct ?cl (by assumption) (by ((try dsimp only); walk_at "my lin")) (by ((try dsimp only); walk_at "my lin")) (by ((try dsimp only); walk_at "my lin")) ?_)); walk_at "my sides"; walk_at "my ret"))
  k_with "call ref" => (( (k_dflt (refine' c_name ?cw ?cd ?cu ?ct (by walk_at "my lin") (by walk_at "my lin") ?_)); walk_at "my sides"; walk_at "my ret"))
  k_with "call ref" => (( (k_dflt (refine' c_length ?cw ?cd ?cu ?ct ?_)); walk_at "my sides"; walk_at "my ret"))
  trivial
def lastF (codes : List Int) (ups : List Bool) (ls : List Int) : Nat → Int → Option Str
  | 0, _ => none
  | k + 1, p => if ls.getD (k + 1) 0 = ls.getD k 0 + 1 ∧ p = ls.getD k 0 then some (stepName (codes.getD k 0) (ups.getD k false)) else lastF codes ups ls k p
theorem kw53 : True := by
  k_with "eval ListComp" => (refine Stop.out ?_)
  trivial
theorem kw54 : True := by
  k_with "CompSrc" => (refine Stop.out ?_)
  trivial
/-- a step whose ways meet in one str -/
theorem via_str2 {M : Model} {A : Around} {E : Value → Shared → Prop} {s : Shared} {Q : Value → Shared → Prop} {h₀ : Heap} {L : Addr} {m : Str → Option Value} {news : List (Addr × Obj)} {tree : Sem Value} (x : Str) (F : Fr h₀ L s.heap m) (N : News h₀ L s.heap news)
   (h1 : ∀ Q' : Value → Shared → Prop, (∀ (h' : Heap) (tk' t' : Nat), Fr h₀ L h' m → News h₀ L h' news → s.toks ≤ tk' → 0 < t' → t' < tk' → Q' (.str x t') { s with heap := h', toks := tk' }) → wpAny M A tree Q' E s)
   (h2 : ∀ (h' : Heap) (tk' t' : Nat), Fr h₀ L h' m → News h₀ L h' news → s.toks ≤ tk' → 0 < t' → t' < tk' → Q (.str x t') { s with heap := h', toks := tk' }) : wpAny M A tree Q E s := h1 Q h2
def NoStop2 : Prop := True
theorem kw55 : True := by
  k_with "eval IfExp" => (((fail_if_success (have ns9 : NoStop2 := by with_reducible assumption)); refine Stop.out ?_))
  trivial
theorem kw56 : True := by
  k_with "subscriptTail Name Name ref int" => ((k_dflt (refine' item_bools ?kF ?kl ?k0 ?kk ?kb ?_ ?ks; (case kl => with_reducible assumption); (case kF => k_asm); (case k0 => first | with_reducible assumption | omega); (case kk => with_reducible assumption); (case kb => first | with_reducible assumption | omega); (case ks => with_unfolding_all rfl))))
  trivial
theorem kw57 : True := by
  k_with "setItem ref int" => ((k_dflt (refine' my_set ?kF ?kN ?kU ?kd ?kz ?_; (case kF => k_asm); (case kN => k_asm); (case kU => k_updF); (case kd => with_reducible assumption); (case kz => first | with_reducible assumption | omega); intro _ _ _ _ _; k_sweep)))
  trivial
theorem kw58 : True := by
  k_with "subscriptTail Name Name ref int" => ((k_dflt (refine' my_get ?kN ?km ?kd ?kv ?_ ?ks; (case kN => k_asm); (case km => k_mem); (case kd => with_reducible assumption); (case kv => with_reducible assumption); (case ks => with_unfolding_all rfl))))
  trivial
theorem strs_of_at : ∀ (ps : List Str) (ys : List Value), ys.length = ps.length → (∀ (i : Nat) (y : Value), ys[i]? = some y → ∃ (nm : Str) (t : Tok), ps[i]? = some nm ∧ y = Value.str nm t) → ∃ l : List (Str × Tok), strValues l = ys ∧ l.map (·.1) = ps
  | [], [], _, _ => ⟨[], rfl, rfl⟩
  | n :: l, y :: ys, hl, h => by
    obtain ⟨nm, t, e1, e2⟩ := h 0 y rfl
    obtain ⟨r, e3, e4⟩ := strs_of_at l ys (by simpa using hl) fun i z hz => h (i + 1) z (by simpa using hz)
    have e1' : n = nm := Option.some.inj e1
    exact ⟨(n, t) :: r, by rw [e2, ← e3, e1']; rfl, by rw [← e4]; rfl⟩
theorem c_last {w : World} {dp un : Nat} {fr : Option (List Env)} {gd : Option (List Code)} {s : Shared} {Q : Value → Shared → Prop} {E : Value → Shared → Prop} {Dc Du Dl : Addr} {vs₁ vs₃ : List Value} {codes ls : List Int} {ups : List Bool} (pieces : List Str)
   (W : Wd w s.heap) (hdep : dp < 870) (hun : un < 7700) (hpos : 0 < s.toks) (hl1 : s.heap.IsList Dc vs₁.toArray) (hI : IntsAre vs₁ codes) (hl2 : s.heap.IsList Du (ups.map Value.bool).toArray) (hl3 : s.heap.IsList Dl vs₃.toArray) (hI3 : IntsAre vs₃ ls)
   (hc : ∀ c ∈ codes, 0 ≤ c ∧ c ≤ 4294967296) (hlen : codes.length ≤ 6) (hlu : ups.length = codes.length) (hll : ls.length = codes.length + 1) (hlb : ∀ c ∈ ls, 0 ≤ c ∧ c ≤ 1000)
   (hpl : (pieces.length : Int) = ls.getD codes.length 0) (hps : ∀ (p : Nat) nm, pieces[p]? = some nm → lastF codes ups ls codes.length (p : Int) = some nm)
   (hret : RetO s.heap s Q fun tk o => ∃ l n, o = PySem.W.listOf (strValues l).toArray n ∧ l.map (·.1) = if pieces = [] then [Str.ofString "."] else pieces) :
   wpAny (model PP w) (Ar dp fr gd un) (call (.ref 195) [.ref Dc, .ref Du, .ref Dl]) Q E s := by
  have W' := W
  obtain ⟨X, mean, mg, mb, T⟩ := W'
  refine' enterC (K := hd.heap_39 _) (binds := [(Str.ofString "codes", .ref Dc), (Str.ofString "ups", .ref Du), (Str.ofString "lengths", .ref Dl)]) X T ?a ?b ?c ?d ?e ?e2 ?k ?k1 ?k2 ?k3
  (case a => exact Nat.lt_trans (by with_reducible assumption) (by decide))
  (case b => k_is)
  (case c => k_is)
  (case d => exact BindsTo.of_eq rfl)
  (case e => exact rfl)
  (case e2 => decide +kernel)
  (case k1 => rfl)
  (case k2 => rfl)
  (case k3 => rfl)
  intro L h₁ tk cells htk F N Y
  k_cells Y
  rename_i oc dc
  replace F : Fr s.heap L h₁ (fun y => if y = Str.ofString "lengths" then some (.ref Dl) else if y = Str.ofString "ups" then some (.ref Du) else if y = Str.ofString "codes" then some (.ref Dc) else none) := F
  replace dc : oc.data = .cell none := dc
  have hLen : @LT.lt Nat _ L (L + 1) := Nat.lt_succ_self L
  k_steps
  refine Stop.mk ?_
  refine for_restT ?_ (fun _ => rfl)
  refine wpAny_with_toks (Nat.le_refl _) ?_
  k_steps
  rename_i d hA o0 lo0 hs0 fs0 hi0 fi0 hdl hB oc2 F1 N1 dc2 hC tk2 t5 u5 v5 hr5 F5 N5 st5 htk2
  have htk3 : 0 < tk2 := by (try dsimp only at htk2); walk_at "my lin"
  refine iterT_range (L := L) (n := codes.length) (σ := Obj × List (Int × Value)) (fun _ z => if z = Str.ofString "lengths" then some (.ref Dl) else if z = Str.ofString "ups" then some (.ref Du) else if z = Str.ofString "codes" then some (.ref Dc) else none)
    (fun a => [(d, a.1), (L + 1, oc2)])
    (fun B i a => a.1.IsDictOf (intKind PP w) a.2 ∧ a.2.length ≤ i ∧ ∀ p nm, lastF codes ups ls i p = some nm → ∃ t, valueAt a.2 p = some (.str nm t)) (o0, []) rfl rfl rfl rfl
    (fun tk tk' i a hk h => h) hr5 rfl (leN1 hlen rfl) F5 N5 ⟨hi0, Nat.zero_le _, fun p nm e => by cases e⟩ (fun _ _ => rfl) rfl ?_ ?_
  · rintro i tv I io h tk4 htk4 hin ⟨o, kvs⟩ ⟨hi1, hi2, hi3⟩ hne hIle F₁ N₁
    dsimp only at htk4 hi1 hi2 hi3 N₁ hIle
    simp only [AllNe, and_true] at hne
    clear F1 F5 N5 hr5 st5
    have g1 : (i : Int).toNat = i := Int.toNat_natCast i
    have hcb := hc (codes.getD i 0) (by simp only [List.getD]; rw [List.getElem?_eq_getElem hin]; exact List.getElem_mem _)
    obtain ⟨hcb1, hcb2⟩ := hcb
    have hub : ups[(i : Int).toNat]? = some (ups.getD i false) := by rw [g1]; simp only [List.getD]; rw [List.getElem?_eq_getElem (hlu ▸ hin)]; rfl
    have hcb3 : 0 ≤ codes.getD (i : Int).toNat 0 := by rw [g1]; exact hcb1
    have hcb4 : codes.getD (i : Int).toNat 0 ≤ 4294967296 := by rw [g1]; exact hcb2
    generalize hbb : ups.getD i false = bb at hub
    have e3 : ((i : Int) + 1).toNat = i + 1 := rfl
    have hi00 : (0 : Int) ≤ i := Int.natCast_nonneg i
    have hic : (i : Int) < codes.length := Int.ofNat_lt.mpr hin
    have hil2 : (i : Int) + 1 < ls.length := by rw [hll]; exact Int.ofNat_lt.mpr (Nat.succ_lt_succ hin)
    have hil : (i : Int) < ls.length := Int.lt_trans (Int.lt_succ _) hil2
    have hi6 : i ≤ 6 := Nat.le_trans (Nat.le_of_lt hin) hlen
    obtain ⟨hi63, hi64, hi65⟩ := i63 (leN1 hi6 rfl)
    have hkv : kvs.length ≤ 1000 := Nat.le_trans hi2 (leN1 hi6 rfl)
    have hub6 : ups.length ≤ 1000 := hlu ▸ leN1 hlen rfl
    k_steps
    · rename_i t7 t8 hcond
      rw [g1, e3] at hcond
      refine Stop.mk ?_
      refine via_str2 (stepName (codes.getD i 0) bb) F₁ N₁ ?_ ?_
      · intro Q' hQ'
        have ns : NoStop2 := trivial
        clear hbb
        cases bb
        · k_steps
          have e : lawName (codes.getD (i : Int).toNat 0) = stepName (codes.getD i 0) false := by rw [g1]; rfl
          rw [e]
          exact hQ' _ _ _ (by assumption) (by assumption) (by assumption) (by assumption) (by assumption)
        · k_steps
          have e : Str.ofString ".." = stepName (codes.getD i 0) true := rfl
          rw [e]
          exact hQ' _ _ _ (by assumption) (by assumption) (Nat.le_succ _) (by ((try dsimp only); walk_at "my lin")) (Nat.lt_succ_self _)
      · intro hz tkz tz F₃ N₃ qz pz rz
        dsimp only at qz ⊢
        k_steps
        rename_i t9 h9 o9 F9 N9 d9
        rw [g1] at d9
        refine turnTN (o9, stored kvs (ls.getD i 0) (Value.str (stepName (codes.getD i 0) bb) tz)) F9 N9 ⟨d9, Nat.le_trans (stored_length_le _ _ _) (Nat.succ_le_succ hi2), fun p nm e => ?_⟩ (fun z hz => if_neg hz) ⟨hne.1, hne.2, trivial⟩
        dsimp only
        rw [valueAt_stored]
        rw [lastF, hbb] at e
        by_cases hp : p = ls.getD i 0
        · rw [if_pos ⟨hcond, hp⟩] at e
          rw [if_pos hp]
          exact ⟨tz, by rw [Option.some.inj e]⟩
        · rw [if_neg (fun q => hp q.2)] at e
          rw [if_neg hp]
          exact hi3 p nm e
    · rename_i t7 t8 hcond
      rw [g1, e3] at hcond
      exact turnTN (o, kvs) F₁ N₁ ⟨hi1, Nat.le_succ_of_le hi2, fun p nm e => hi3 p nm (by rw [lastF, if_neg (fun q => hcond q.1)] at e; exact e)⟩ (fun z hz => if_neg hz) ⟨hne.1, hne.2, trivial⟩
  · rintro ⟨o, kvs⟩ u h tk4 htk4 ⟨hi1, hi2, hi3⟩ F₁ N₁
    dsimp only at htk4 hi1 hi2 hi3 N₁
    clear F1 F5 N5 hr5 st5
    k_steps
    refine Stop.mk ?_
    have ns : NoStop2 := trivial
    obtain ⟨elast, hneg⟩ := neg1 hll
    k_steps
    · rename_i t9 hcond
      rw [elast, ← hpl] at hcond
      refine Stop.mk ?_
      clear ns
      refine LCg.ListComp_U (cl := [(Str.ofString "last", L + 1)]) F₁ (by with_unfolding_all rfl) ?z1 rfl ?z2 rfl ?_ (fun _ => rfl)
      case z1 => decide
      case z2 => decide
      k_steps
      rename_i t10 h5 tk5 t5 u5 v5 hr5 F5 N5 st5
      refine Stop.mk ?_
      rw [elast, ← hpl] at hr5
      have hpl6 : pieces.length ≤ 1000 := by
        have := hlb (ls.getD codes.length 0) (by
          have hh : codes.length < ls.length := Nat.lt_of_lt_of_eq (Nat.lt_succ_self _) hll.symm
          simp only [List.getD]; rw [List.getElem?_eq_getElem hh]; exact List.getElem_mem _)
        omega
      have hrs : Builtin.Range.rangeSize 0 (pieces.length : Int) 1 = ((pieces.length : Nat) : Int) := rs_nat _
      have hpz : pieces.length ≤ 16777216 := leN1 hpl6 rfl
      refine LCg.CompSrc.range rfl F5 N5 hr5 (small_one (by decide) (by decide) (s62 hpz).2.1 (s62 hpz).2.2) hrs hpz fun g => comp_rest (fun i y => ∃ nm t, pieces[i]? = some nm ∧ y = Value.str nm t) ?_ ?_
      · rintro i v I oI C oC D' m₂ zs h tk'' E' hi ⟨t, rfl⟩ hC hx F6 N6 off ne
        rw [Int.zero_add] at hx
        simp only [LCg.Off3, and_true] at off
        obtain ⟨nm, hnm⟩ : ∃ nm, pieces[i]? = some nm := ⟨_, List.getElem?_eq_getElem hi⟩
        obtain ⟨tn, htn⟩ := hi3 _ _ (hps i nm hnm)
        clear F5 N5 hr5 st5
        k_steps
        exact ⟨rfl, nm, tn, hnm, rfl⟩
      · intro zs hz1 hz2 D' h' tk' F6 N6 o1
        obtain ⟨l, rfl, hl⟩ := strs_of_at pieces zs hz1 hz2
        have hpe : pieces ≠ [] := fun q => by rw [q] at hcond; exact absurd hcond (by decide)
        exact fun hk => hret _ _ D' _ (Fr.keep F6) hk (News.fresh N6 (.head _)) (News.get N6 (.head _)) ⟨l, _, rfl, by rw [if_neg hpe, hl]⟩
    · rename_i t9 hcond l' h' F6 N6 ll
      rw [elast, ← hpl] at hcond
      have hpe : pieces = [] := List.eq_nil_of_length_eq_zero (by walk_at "my lin")
      exact fun hk => hret _ _ l' _ (Fr.keep F6) hk (News.fresh N6 (.head _)) (News.get N6 (.head _)) ⟨[(Str.ofString ".", _)], _, rfl, by rw [if_pos hpe]; rfl⟩

theorem kwreset_d : True := by
  k_with_none
  k_with "my lt" => ((first | with_reducible assumption | with_reducible exact Nat.zero_lt_of_lt (by with_reducible assumption) | with_reducible exact Nat.succ_pos _ | with_reducible exact lth 0 (by with_reducible assumption) | with_reducible exact lth 1 (by with_reducible assumption) | with_reducible exact lth 2 (by with_reducible assumption) | with_reducible exact lth 3 (by with_reducible assumption) | with_reducible exact lth 4 (by with_reducible assumption) | with_reducible exact lth 5 (by with_reducible assumption) | with_reducible exact lth 6 (by with_reducible assumption) | with_reducible exact lth 7 (by with_reducible assumption) | with_reducible exact lth 8 (by with_reducible assumption) | with_reducible exact lth 9 (by with_reducible assumption) | with_reducible exact lth 10 (by with_reducible assumption) | with_reducible exact lth 11 (by with_reducible assumption) | with_reducible exact lth 12 (by with_reducible assumption) | with_reducible exact lta 1 (by with_reducible assumption) | with_reducible exact lta 2 (by with_reducible assumption) | with_reducible exact lta 3 (by with_reducible assumption) | with_reducible exact lta 4 (by with_reducible assumption) | with_reducible exact lta 5 (by with_reducible assumption) | with_reducible exact lta 6 (by with_reducible assumption) | with_reducible exact lta 7 (by with_reducible assumption) | with_reducible exact lta 8 (by with_reducible assumption) | with_reducible exact lta 9 (by with_reducible assumption) | with_reducible exact lta 10 (by with_reducible assumption) | with_reducible exact lta 11 (by with_reducible assumption) | with_reducible exact lta 12 (by with_reducible assumption) | with_reducible exact lta 13 (by with_reducible assumption) | with_reducible exact lta 14 (by with_reducible assumption) | with_reducible exact lta 15 (by with_reducible assumption) | with_reducible exact lta 16 (by with_reducible assumption) | with_reducible exact lta 17 (by with_reducible assumption) | with_reducible exact lta 18 (by with_reducible assumption) | with_reducible exact lta 19 (by with_reducible assumption) | with_reducible exact lta 20 (by with_reducible assumption) | with_reducible exact lta 21 (by with_reducible assumption) | with_reducible exact lts 0 | with_reducible exact lts 1 | with_reducible exact lts 2 | with_reducible exact lts 3 | with_reducible exact lts 4 | with_reducible exact lts 5 | with_reducible exact lts 6 | with_reducible exact lts 7 | with_reducible exact lts 8 | with_reducible exact lts 9 | with_reducible exact lts 10 | with_reducible exact lts 11 | with_reducible exact lts 12 | with_reducible exact ltp 0 (by with_reducible assumption) | with_reducible exact ltp 1 (by with_reducible assumption) | with_reducible exact ltp 2 (by with_reducible assumption) | with_reducible exact ltp 3 (by with_reducible assumption) | with_reducible exact ltp 4 (by with_reducible assumption) | with_reducible exact ltp 5 (by with_reducible assumption) | with_reducible exact ltp 6 (by with_reducible assumption) | with_reducible exact ltp 7 (by with_reducible assumption) | with_reducible exact ltp 8 (by with_reducible assumption) | with_reducible exact ltp 9 (by with_reducible assumption) | with_reducible exact ltp 10 (by with_reducible assumption) | with_reducible exact ltp 11 (by with_reducible assumption) | with_reducible exact ltp 12 (by with_reducible assumption) | ((first | with_reducible refine ltk 22 ?_ | with_reducible refine ltk 21 ?_ | with_reducible refine ltk 20 ?_ | with_reducible refine ltk 19 ?_ | with_reducible refine ltk 18 ?_ | with_reducible refine ltk 17 ?_ | with_reducible refine ltk 16 ?_ | with_reducible refine ltk 15 ?_ | with_reducible refine ltk 14 ?_ | with_reducible refine ltk 13 ?_ | with_reducible refine ltk 12 ?_ | with_reducible refine ltk 11 ?_ | with_reducible refine ltk 10 ?_ | with_reducible refine ltk 9 ?_ | with_reducible refine ltk 8 ?_ | with_reducible refine ltk 7 ?_ | with_reducible refine ltk 6 ?_ | with_reducible refine ltk 5 ?_ | with_reducible refine ltk 4 ?_ | with_reducible refine ltk 3 ?_ | with_reducible refine ltk 2 ?_ | with_reducible refine ltk 1 ?_ | skip); first | with_reducible assumption | ((first | with_reducible refine ltc 22 (by with_reducible assumption) ?_ | with_reducible refine ltc 21 (by with_reducible assumption) ?_ | with_reducible refine ltc 20 (by with_reducible assumption) ?_ | with_reducible refine ltc 19 (by with_reducible assumption) ?_ | with_reducible refine ltc 18 (by with_reducible assumption) ?_ | with_reducible refine ltc 17 (by with_reducible assumption) ?_ | with_reducible refine ltc 16 (by with_reducible assumption) ?_ | with_reducible refine ltc 15 (by with_reducible assumption) ?_ | with_reducible refine ltc 14 (by with_reducible assumption) ?_ | with_reducible refine ltc 13 (by with_reducible assumption) ?_ | with_reducible refine ltc 12 (by with_reducible assumption) ?_ | with_reducible refine ltc 11 (by with_reducible assumption) ?_ | with_reducible refine ltc 10 (by with_reducible assumption) ?_ | with_reducible refine ltc 9 (by with_reducible assumption) ?_ | with_reducible refine ltc 8 (by with_reducible assumption) ?_ | with_reducible refine ltc 7 (by with_reducible assumption) ?_ | with_reducible refine ltc 6 (by with_reducible assumption) ?_ | with_reducible refine ltc 5 (by with_reducible assumption) ?_ | with_reducible refine ltc 4 (by with_reducible assumption) ?_ | with_reducible refine ltc 3 (by with_reducible assumption) ?_ | with_reducible refine ltc 2 (by with_reducible assumption) ?_ | with_reducible refine ltc 1 (by with_reducible assumption) ?_ | with_reducible refine lt0 (by with_reducible assumption) ?_); walk_at "my lt"))))
  k_with "my le" => ((first | with_reducible assumption | with_reducible exact Nat.le_refl _ | with_reducible exact Nat.le_of_lt (by with_reducible assumption) | with_reducible exact leN1 (by with_reducible assumption) rfl | with_reducible exact leN2 (by with_reducible assumption) (by with_reducible assumption) rfl | with_reducible exact leh 1 (by with_reducible assumption) | with_reducible exact leh 2 (by with_reducible assumption) | with_reducible exact leh 3 (by with_reducible assumption) | with_reducible exact leh 4 (by with_reducible assumption) | with_reducible exact leh 5 (by with_reducible assumption) | with_reducible exact leh 6 (by with_reducible assumption) | with_reducible exact leh 7 (by with_reducible assumption) | with_reducible exact leh 8 (by with_reducible assumption) | with_reducible exact leh 9 (by with_reducible assumption) | with_reducible exact leh 10 (by with_reducible assumption) | with_reducible exact leh 11 (by with_reducible assumption) | with_reducible exact leh 12 (by with_reducible assumption) | with_reducible exact lea 1 (by with_reducible assumption) | with_reducible exact lea 2 (by with_reducible assumption) | with_reducible exact lea 3 (by with_reducible assumption) | with_reducible exact lea 4 (by with_reducible assumption) | with_reducible exact lea 5 (by with_reducible assumption) | with_reducible exact lea 6 (by with_reducible assumption) | with_reducible exact lea 7 (by with_reducible assumption) | with_reducible exact lea 8 (by with_reducible assumption) | with_reducible exact lea 9 (by with_reducible assumption) | with_reducible exact lea 10 (by with_reducible assumption) | with_reducible exact lea 11 (by with_reducible assumption) | with_reducible exact lea 12 (by with_reducible assumption) | with_reducible exact lea 13 (by with_reducible assumption) | with_reducible exact lea 14 (by with_reducible assumption) | with_reducible exact lea 15 (by with_reducible assumption) | with_reducible exact lea 16 (by with_reducible assumption) | with_reducible exact lea 17 (by with_reducible assumption) | with_reducible exact lea 18 (by with_reducible assumption) | with_reducible exact lea 19 (by with_reducible assumption) | with_reducible exact lea 20 (by with_reducible assumption) | with_reducible exact lea 21 (by with_reducible assumption) | with_reducible exact les 1 | with_reducible exact les 2 | with_reducible exact les 3 | with_reducible exact les 4 | with_reducible exact les 5 | with_reducible exact les 6 | with_reducible exact les 7 | with_reducible exact les 8 | with_reducible exact les 9 | with_reducible exact les 10 | with_reducible exact les 11 | with_reducible exact les 12 | ((first | with_reducible refine lek 22 ?_ | with_reducible refine lek 21 ?_ | with_reducible refine lek 20 ?_ | with_reducible refine lek 19 ?_ | with_reducible refine lek 18 ?_ | with_reducible refine lek 17 ?_ | with_reducible refine lek 16 ?_ | with_reducible refine lek 15 ?_ | with_reducible refine lek 14 ?_ | with_reducible refine lek 13 ?_ | with_reducible refine lek 12 ?_ | with_reducible refine lek 11 ?_ | with_reducible refine lek 10 ?_ | with_reducible refine lek 9 ?_ | with_reducible refine lek 8 ?_ | with_reducible refine lek 7 ?_ | with_reducible refine lek 6 ?_ | with_reducible refine lek 5 ?_ | with_reducible refine lek 4 ?_ | with_reducible refine lek 3 ?_ | with_reducible refine lek 2 ?_ | with_reducible refine lek 1 ?_ | skip); first | with_reducible assumption | ((first | with_reducible refine lec 22 (by with_reducible assumption) ?_ | with_reducible refine lec 21 (by with_reducible assumption) ?_ | with_reducible refine lec 20 (by with_reducible assumption) ?_ | with_reducible refine lec 19 (by with_reducible assumption) ?_ | with_reducible refine lec 18 (by with_reducible assumption) ?_ | with_reducible refine lec 17 (by with_reducible assumption) ?_ | with_reducible refine lec 16 (by with_reducible assumption) ?_ | with_reducible refine lec 15 (by with_reducible assumption) ?_ | with_reducible refine lec 14 (by with_reducible assumption) ?_ | with_reducible refine lec 13 (by with_reducible assumption) ?_ | with_reducible refine lec 12 (by with_reducible assumption) ?_ | with_reducible refine lec 11 (by with_reducible assumption) ?_ | with_reducible refine lec 10 (by with_reducible assumption) ?_ | with_reducible refine lec 9 (by with_reducible assumption) ?_ | with_reducible refine lec 8 (by with_reducible assumption) ?_ | with_reducible refine lec 7 (by with_reducible assumption) ?_ | with_reducible refine lec 6 (by with_reducible assumption) ?_ | with_reducible refine lec 5 (by with_reducible assumption) ?_ | with_reducible refine lec 4 (by with_reducible assumption) ?_ | with_reducible refine lec 3 (by with_reducible assumption) ?_ | with_reducible refine lec 2 (by with_reducible assumption) ?_ | with_reducible refine lec 1 (by with_reducible assumption) ?_ | with_reducible refine le0 (by with_reducible assumption) ?_); walk_at "my le"))))
  k_with "my ne" => ((first | with_reducible assumption | with_reducible exact Ne.symm (by with_reducible assumption) | with_reducible exact Nat.ne_of_lt (by with_reducible assumption) | with_reducible exact Nat.ne_of_gt (by with_reducible assumption) | with_reducible exact And.right (by with_reducible assumption) | with_reducible exact Ne.symm (And.right (by with_reducible assumption)) | with_reducible exact Nat.ne_of_lt (And.right (by with_reducible assumption)) | with_reducible exact Nat.ne_of_gt (And.right (by with_reducible assumption)) | with_reducible exact And.right (And.right (by with_reducible assumption)) | with_reducible exact Ne.symm (And.right (And.right (by with_reducible assumption))) | with_reducible exact Nat.ne_of_lt (And.right (And.right (by with_reducible assumption))) | with_reducible exact Nat.ne_of_gt (And.right (And.right (by with_reducible assumption))) | with_reducible exact And.right (And.right (And.right (by with_reducible assumption))) | with_reducible exact Ne.symm (And.right (And.right (And.right (by with_reducible assumption)))) | with_reducible exact Nat.ne_of_lt (And.right (And.right (And.right (by with_reducible assumption)))) | with_reducible exact Nat.ne_of_gt (And.right (And.right (And.right (by with_reducible assumption)))) | with_reducible exact And.right (And.right (And.right (And.right (by with_reducible assumption)))) | with_reducible exact Ne.symm (And.right (And.right (And.right (And.right (by with_reducible assumption))))) | with_reducible exact Nat.ne_of_lt (And.right (And.right (And.right (And.right (by with_reducible assumption))))) | with_reducible exact Nat.ne_of_gt (And.right (And.right (And.right (And.right (by with_reducible assumption))))) | with_reducible exact And.right (And.right (And.right (And.right (And.right (by with_reducible assumption))))) | with_reducible exact Ne.symm (And.right (And.right (And.right (And.right (And.right (by with_reducible assumption)))))) | with_reducible exact Nat.ne_of_lt (And.right (And.right (And.right (And.right (And.right (by with_reducible assumption)))))) | with_reducible exact Nat.ne_of_gt (And.right (And.right (And.right (And.right (And.right (by with_reducible assumption)))))) | with_reducible exact And.right (And.right (And.right (And.right (And.right (And.right (by with_reducible assumption)))))) | with_reducible exact Ne.symm (And.right (And.right (And.right (And.right (And.right (And.right (by with_reducible assumption))))))) | with_reducible exact Nat.ne_of_lt (And.right (And.right (And.right (And.right (And.right (And.right (by with_reducible assumption))))))) | with_reducible exact Nat.ne_of_gt (And.right (And.right (And.right (And.right (And.right (And.right (by with_reducible assumption))))))) | with_reducible exact And.right (And.right (And.right (And.right (And.right (And.right (And.right (by with_reducible assumption))))))) | with_reducible exact Ne.symm (And.right (And.right (And.right (And.right (And.right (And.right (And.right (by with_reducible assumption)))))))) | with_reducible exact Nat.ne_of_lt (And.right (And.right (And.right (And.right (And.right (And.right (And.right (by with_reducible assumption)))))))) | with_reducible exact Nat.ne_of_gt (And.right (And.right (And.right (And.right (And.right (And.right (And.right (by with_reducible assumption)))))))) | with_reducible exact And.right (And.right (And.right (And.right (And.right (And.right (And.right (And.right (by with_reducible assumption)))))))) | with_reducible exact Ne.symm (And.right (And.right (And.right (And.right (And.right (And.right (And.right (And.right (by with_reducible assumption))))))))) | with_reducible exact Nat.ne_of_lt (And.right (And.right (And.right (And.right (And.right (And.right (And.right (And.right (by with_reducible assumption))))))))) | with_reducible exact Nat.ne_of_gt (And.right (And.right (And.right (And.right (And.right (And.right (And.right (And.right (by with_reducible assumption))))))))) | with_reducible exact And.right (And.right (And.right (And.right (And.right (And.right (And.right (And.right (And.right (by with_reducible assumption))))))))) | with_reducible exact Ne.symm (And.right (And.right (And.right (And.right (And.right (And.right (And.right (And.right (And.right (by with_reducible assumption)))))))))) | with_reducible exact Nat.ne_of_lt (And.right (And.right (And.right (And.right (And.right (And.right (And.right (And.right (And.right (by with_reducible assumption)))))))))) | with_reducible exact Nat.ne_of_gt (And.right (And.right (And.right (And.right (And.right (And.right (And.right (And.right (And.right (by with_reducible assumption)))))))))) | with_reducible exact And.left (by with_reducible assumption) | with_reducible exact Ne.symm (And.left (by with_reducible assumption)) | with_reducible exact Nat.ne_of_lt (And.left (by with_reducible assumption)) | with_reducible exact Nat.ne_of_gt (And.left (by with_reducible assumption)) | with_reducible exact And.left (And.right (by with_reducible assumption)) | with_reducible exact Ne.symm (And.left (And.right (by with_reducible assumption))) | with_reducible exact Nat.ne_of_lt (And.left (And.right (by with_reducible assumption))) | with_reducible exact Nat.ne_of_gt (And.left (And.right (by with_reducible assumption))) | with_reducible exact And.left (And.right (And.right (by with_reducible assumption))) | with_reducible exact Ne.symm (And.left (And.right (And.right (by with_reducible assumption)))) | with_reducible exact Nat.ne_of_lt (And.left (And.right (And.right (by with_reducible assumption)))) | with_reducible exact Nat.ne_of_gt (And.left (And.right (And.right (by with_reducible assumption)))) | with_reducible exact And.left (And.right (And.right (And.right (by with_reducible assumption)))) | with_reducible exact Ne.symm (And.left (And.right (And.right (And.right (by with_reducible assumption))))) | with_reducible exact Nat.ne_of_lt (And.left (And.right (And.right (And.right (by with_reducible assumption))))) | with_reducible exact Nat.ne_of_gt (And.left (And.right (And.right (And.right (by with_reducible assumption))))) | with_reducible exact And.left (And.right (And.right (And.right (And.right (by with_reducible assumption))))) | with_reducible exact Ne.symm (And.left (And.right (And.right (And.right (And.right (by with_reducible assumption)))))) | with_reducible exact Nat.ne_of_lt (And.left (And.right (And.right (And.right (And.right (by with_reducible assumption)))))) | with_reducible exact Nat.ne_of_gt (And.left (And.right (And.right (And.right (And.right (by with_reducible assumption)))))) | with_reducible exact And.left (And.right (And.right (And.right (And.right (And.right (by with_reducible assumption)))))) | with_reducible exact Ne.symm (And.left (And.right (And.right (And.right (And.right (And.right (by with_reducible assumption))))))) | with_reducible exact Nat.ne_of_lt (And.left (And.right (And.right (And.right (And.right (And.right (by with_reducible assumption))))))) | with_reducible exact Nat.ne_of_gt (And.left (And.right (And.right (And.right (And.right (And.right (by with_reducible assumption))))))) | with_reducible exact And.left (And.right (And.right (And.right (And.right (And.right (And.right (by with_reducible assumption))))))) | with_reducible exact Ne.symm (And.left (And.right (And.right (And.right (And.right (And.right (And.right (by with_reducible assumption)))))))) | with_reducible exact Nat.ne_of_lt (And.left (And.right (And.right (And.right (And.right (And.right (And.right (by with_reducible assumption)))))))) | with_reducible exact Nat.ne_of_gt (And.left (And.right (And.right (And.right (And.right (And.right (And.right (by with_reducible assumption)))))))) | with_reducible exact And.left (And.right (And.right (And.right (And.right (And.right (And.right (And.right (by with_reducible assumption)))))))) | with_reducible exact Ne.symm (And.left (And.right (And.right (And.right (And.right (And.right (And.right (And.right (by with_reducible assumption))))))))) | with_reducible exact Nat.ne_of_lt (And.left (And.right (And.right (And.right (And.right (And.right (And.right (And.right (by with_reducible assumption))))))))) | with_reducible exact Nat.ne_of_gt (And.left (And.right (And.right (And.right (And.right (And.right (And.right (And.right (by with_reducible assumption))))))))) | with_reducible exact And.left (And.right (And.right (And.right (And.right (And.right (And.right (And.right (And.right (by with_reducible assumption))))))))) | with_reducible exact Ne.symm (And.left (And.right (And.right (And.right (And.right (And.right (And.right (And.right (And.right (by with_reducible assumption)))))))))) | with_reducible exact Nat.ne_of_lt (And.left (And.right (And.right (And.right (And.right (And.right (And.right (And.right (And.right (by with_reducible assumption)))))))))) | with_reducible exact Nat.ne_of_gt (And.left (And.right (And.right (And.right (And.right (And.right (And.right (And.right (And.right (by with_reducible assumption)))))))))) | with_reducible exact And.right (And.left (by with_reducible assumption)) | with_reducible exact Ne.symm (And.right (And.left (by with_reducible assumption))) | with_reducible exact Nat.ne_of_lt (And.right (And.left (by with_reducible assumption))) | with_reducible exact Nat.ne_of_gt (And.right (And.left (by with_reducible assumption))) | with_reducible exact And.right (And.right (And.left (by with_reducible assumption))) | with_reducible exact Ne.symm (And.right (And.right (And.left (by with_reducible assumption)))) | with_reducible exact Nat.ne_of_lt (And.right (And.right (And.left (by with_reducible assumption)))) | with_reducible exact Nat.ne_of_gt (And.right (And.right (And.left (by with_reducible assumption)))) | with_reducible exact And.right (And.right (And.right (And.left (by with_reducible assumption)))) | with_reducible exact Ne.symm (And.right (And.right (And.right (And.left (by with_reducible assumption))))) | with_reducible exact Nat.ne_of_lt (And.right (And.right (And.right (And.left (by with_reducible assumption))))) | with_reducible exact Nat.ne_of_gt (And.right (And.right (And.right (And.left (by with_reducible assumption))))) | with_reducible exact And.left (And.left (by with_reducible assumption)) | with_reducible exact Ne.symm (And.left (And.left (by with_reducible assumption))) | with_reducible exact Nat.ne_of_lt (And.left (And.left (by with_reducible assumption))) | with_reducible exact Nat.ne_of_gt (And.left (And.left (by with_reducible assumption))) | with_reducible exact And.left (And.right (And.left (by with_reducible assumption))) | with_reducible exact Ne.symm (And.left (And.right (And.left (by with_reducible assumption)))) | with_reducible exact Nat.ne_of_lt (And.left (And.right (And.left (by with_reducible assumption)))) | with_reducible exact Nat.ne_of_gt (And.left (And.right (And.left (by with_reducible assumption)))) | with_reducible exact And.left (And.right (And.right (And.left (by with_reducible assumption)))) | with_reducible exact Ne.symm (And.left (And.right (And.right (And.left (by with_reducible assumption))))) | with_reducible exact Nat.ne_of_lt (And.left (And.right (And.right (And.left (by with_reducible assumption))))) | with_reducible exact Nat.ne_of_gt (And.left (And.right (And.right (And.left (by with_reducible assumption))))) | with_reducible exact And.left (And.right (And.right (And.right (And.left (by with_reducible assumption))))) | with_reducible exact Ne.symm (And.left (And.right (And.right (And.right (And.left (by with_reducible assumption)))))) | with_reducible exact Nat.ne_of_lt (And.left (And.right (And.right (And.right (And.left (by with_reducible assumption)))))) | with_reducible exact Nat.ne_of_gt (And.left (And.right (And.right (And.right (And.left (by with_reducible assumption)))))) | omega))
  k_with "my lin" => ((first | (with_reducible refine ltM ?_; walk_at "my lt") | (with_reducible refine leM ?_; walk_at "my le") | omega))
  k_with "my enter" => (( (case a => exact Nat.lt_trans (by with_reducible assumption) (by decide)); (case b => k_is); (case c => k_is); (case d => exact BindsTo.of_eq rfl); (case e => exact locs rfl); (case k1 => rfl); (case k2 => rfl); (case k3 => rfl); (case k4 => decide)))
  k_with "my sides" => (( (case cw => exact Wd.keeps (by assumption) (Fr.keep (by assumption))); (case cd => ((try dsimp only [Ar, Around.deeper]); first | exact Nat.lt_of_lt_of_le (Nat.add_lt_add_right (by assumption) 1) (by decide) | omega)); (case cu => ((try dsimp only [Ar, Around.deeper]); first | exact Nat.lt_of_lt_of_le (Nat.add_lt_add_right (by assumption) 3) (by decide) | omega)); (case ct => ((try dsimp only); walk_at "my lin"))))
  k_with "my sides0" => (( (case cw => exact Wd.keeps (by assumption) (Fr.keep (by assumption))); (case cd => ((try dsimp only [Ar, Around.deeper]); first | exact Nat.lt_of_lt_of_le (Nat.add_lt_add_right (by assumption) 1) (by decide) | omega)); (case cu => ((try dsimp only [Ar, Around.deeper]); first | exact Nat.lt_of_lt_of_le (Nat.add_lt_add_right (by assumption) 3) (by decide) | omega))))
  k_with "my ret" => (first | (refine' retS ?rF ?rN ?_; (case rF => k_asm); (case rN => k_asm); intro _ _ _ _ _ q9 p9 r9; k_sweep; (try dsimp only at q9 ⊢); revert q9 p9 r9; intro _ _ _) | (refine' retI ?rF ?rN ?_; (case rF => k_asm); (case rN => k_asm); intro _ _ _ _ _ q9; k_sweep; (try dsimp only at q9 ⊢); revert q9; intro _) | (refine' retV ?rF ?rN ?_; (case rF => k_asm); (case rN => k_asm); intro _ _ _ _ q9; k_sweep; (try dsimp only at q9 ⊢); revert q9; intro _) | (refine' retO ?rF ?rN ?_; (case rF => k_asm); (case rN => k_asm); intro _ _ _ _ P9 F9 N9 l9 q9; k_sweep; (try (obtain ⟨u1, u2, e9, v1, v2, v3, v4⟩ := P9; subst e9)); simp only [AllNe, and_true, true_and] at l9; (try dsimp only at q9 ⊢)))
  k_with "execs cons" => (((with_reducible refine wpAny_execs_cons ?_); try dsimp only))
  k_with "execs nil" => (((with_reducible refine wpAny_execs_nil ?_); try dsimp only))
  k_with "call builtin:issubclass" => ((refine' issub_N ?k1 ?k2 ?_; (case k1 => k_asm); (case k2 => k_mem)))
  k_with "execs cons For" => (refine Stop.out ?_)
  k_with "truthy ref" => ((k_dflt (first | (refine' tr_nil ?kN ?km ?_; (case kN => k_asm); (case km => k_mem)) | (refine' tr_snoc ?kN ?km ?kz ?_; (case kN => k_asm); (case km => k_mem); (case kz => assumption)) | (refine' tr_any ?kN ?km ?kz ?_ ?_; (case kN => k_asm); (case km => k_mem); (case kz => assumption); all_goals (first | (intro e9; subst e9) | (intro _ _ _ e9 _; subst e9; (rename News _ _ _ _ => N9); rw [strValues_snoc] at N9))))))
  k_with "subscriptTail" => ((k_dflt (refine' item_last ?kN ?km ?kz ?_ ?ks; (case kN => k_asm); (case km => k_mem); (case kz => assumption); (case ks => with_unfolding_all rfl))))
  k_with "call builtin:list.pop" => ((k_dflt (refine' pop_last ?kF ?kN ?kU ?kz ?_; (case kF => k_asm); (case kN => k_asm); (case kU => k_upd); (case kz => assumption); intro _ _ _; k_sweep)))
  k_with "call builtin:str.join" => ((k_dflt (refine' join_mine ?kN ?km ?ka ?kn ?kp ?kt ?kb ?_; (case kN => k_asm); (case km => k_mem); (case ka => assumption); (case kn => assumption); (case kp => ((try dsimp only); walk_at "my lin")); (case kt => assumption); (case kb => ((try dsimp only); omega)); intro _ _ _ _ r9 q9; (try dsimp only at q9 r9 ⊢); revert r9 q9; intro _ _)))
  k_with "call builtin:str.split" => ((k_dflt (refine' split_mine ?kF ?kN ?kp ?kq ?ks ?_; (case kF => k_asm); (case kN => k_asm); (case kp => walk_at "my lin"); (case kq => ((try dsimp only); walk_at "my lin")); (case ks => ((try dsimp only); omega)); intro _ _ _ _ _ x9 y9 z9 F9 N9 l9; k_sweep; (try dsimp only at x9 y9 l9 ⊢); simp only [AllLt, and_true, true_and] at l9; first | (revert x9 y9 z9 F9 N9 l9; intro _ _ _ _ _ _) | (revert x9 y9 z9 F9 N9; intro _ _ _ _ _))))
  k_with "binaryOp Add str str" => ((k_dflt (refine' add_tok ?kt ?ku ?kp ?kq ?_ ?kz; (case kt => walk_at "my lin"); (case ku => walk_at "my lin"); (case kp => ((try dsimp only); walk_at "my lin")); (case kq => ((try dsimp only); walk_at "my lin")); (case kz => size_fits); intro _ _ _ r9 q9 l9; (try dsimp only at q9 r9 ⊢); revert r9 q9 l9; intro _ _ _)))
  k_with "inplaceOp Add str str" => ((k_dflt (refine' iadd_tok ?kt ?ku ?kp ?kq ?_ ?kz; (case kt => walk_at "my lin"); (case ku => walk_at "my lin"); (case kp => ((try dsimp only); walk_at "my lin")); (case kq => ((try dsimp only); walk_at "my lin")); (case kz => size_fits); intro _ _ _ r9 q9 l9; (try dsimp only at q9 r9 ⊢); revert r9 q9 l9; intro _ _ _)))
  k_with "truthy str" => ((refine SBL.truthy (by (have e0 : (PySem.Str.ofString "").length = 0 := by rfl); simp only [Str.length_append, e0]; omega) ?_))
  k_with "my enter2" => (( (case a => exact Nat.lt_trans (by with_reducible assumption) (by decide)); (case b => k_is); (case c => k_is); (case k1 => rfl); (case k2 => rfl); (case k3 => rfl); (case k4 => decide)))
  k_with "subscriptTail Name Slice str ref" => (((with_reducible show wpAny _ _ (subscriptTail _ (Expr.Slice none (some _) none _) _ _) _ _ _); (refine wpAny_with_toks (Nat.le_refl _) ?_); (refine' slice_strN_ns (hsz := ?hsz) (s := ⟨_, _, _, _, _⟩) ?kF ?kN ?_); (case kF => k_asm); (case kN => k_asm); (case hsz => size_fits); intro _ _ _ _ _ q9; (try dsimp only at q9 ⊢); revert q9; intro _))
  k_with "my toks" => (first | exact List.forall_mem_nil _ | (refine' List.forall_mem_cons.mpr ⟨?ka, ?kb⟩; (case ka => (constructor <;> ((try dsimp only); walk_at "my lin"))); (case kb => walk_at "my toks")))
  k_with "subscriptTail List cons BinOp ref int" => ((k_dflt (refine' item_menu [(PySem.Str.ofString "a", _), (PySem.Str.ofString "b", _), (PySem.Str.ofString "ab", _), (PySem.Str.ofString "a.", _), (PySem.Str.ofString "...", _), (PySem.Str.ofString ".b", _), (⟨#[_]⟩, _)] ?kN ?km ?k0 ?kk ?kl ?kt ?_ ?ks); (case kN => k_asm); (case km => k_mem); (case k0 => first | assumption | omega); (case kk => first | assumption | ((try simp only [List.length_cons, List.length_nil]); omega)); (case kl => exact Nat.le_of_ble_eq_true rfl); (case ks => with_unfolding_all rfl); (case kt => walk_at "my toks"); intro _ _ r9; (try dsimp only at r9); revert r9; intro _))
  k_with "call ref" => (( (k_dflt (refine' c_fspath ?cw ?cd ?cu ?ct ?_)); walk_at "my sides"; walk_at "my ret"))
  k_with "call ref" => (( (k_dflt (refine' c_get_sep ?cw ?cd ?cu ?ct ?_)); walk_at "my sides"; walk_at "my ret"))
  k_with "call ref" => (( (k_dflt (refine' c_splitroot ?cw ?cd ?cu ?ct (by first | assumption | omega) (by assumption) ?_)); walk_at "my sides"; walk_at "my ret"))
  k_with "call ref" => (( (k_dflt (refine' c_normpath ?cw ?cd ?cu ?ct (by walk_at "my lin") (by ((try dsimp only); walk_at "my lin")) (by first | assumption | omega) (by assumption) ?_)); walk_at "my sides"; walk_at "my ret"))
  k_with "call ref" => (( (k_dflt (refine' c_join ?cw ?cd ?cu ?ct (by walk_at "my lin") (by ((try dsimp only); walk_at "my lin")) (by walk_at "my lin") (by ((try dsimp only); walk_at "my lin")) (by first | assumption | omega) (by first | assumption | omega) (by assumption) ?_)); walk_at "my sides"; walk_at "my ret"))
  k_with "call ref" => (( (k_dflt (refine' c_lt ?cw ?cd ?cu ?_)); walk_at "my sides0"; walk_at "my ret"))
  k_with "call ref" => (( (k_dflt (refine' c_sub ?cw ?cd ?cu ?_)); walk_at "my sides0"; walk_at "my ret"))
  k_with "call ref" => (( (k_dflt (refine' c_mul ?cw ?cd ?cu (by walk_at "my lin") (by walk_at "my lin") ?_)); walk_at "my sides0"; walk_at "my ret"))
  k_with "compareOp Is str str" => ((k_dflt (refine' is_str (Frag.In.keeps (by assumption) (Fr.keep (by assumption))) ?ku ?kv ?kn ?_; (case ku => omega); (case kv => omega); (case kn => omega); intro _ _)))
  k_with "call ref" => (( (k_dflt (refine' c_countS ?cw ?cd ?cu ?ct (by walk_at "my lin") (by ((try dsimp only); walk_at "my lin")) ?_)); walk_at "my sides"; walk_at "my ret"))
  k_with "call ref" => (( (k_dflt (refine' c_countL ?cw ?cd ?cu ?ct ?cl (by assumption) (by ((try dsimp only); walk_at "my lin")) (by ((try dsimp only); walk_at "my lin")) (by ((try dsimp only); walk_at "my lin")) ?_)); walk_at "my sides"; walk_at "my ret"))
  k_with "call ref" => (( (k_dflt (refine' c_name ?cw ?cd ?cu ?ct (by walk_at "my lin") (by walk_at "my lin") ?_)); walk_at "my sides"; walk_at "my ret"))
  k_with "call ref" => (( (k_dflt (refine' c_length ?cw ?cd ?cu ?ct ?_)); walk_at "my sides"; walk_at "my ret"))
  trivial
section Fin
/-- the steps that lie on the stack after k steps -/
def ix (bs : List Bool) : Nat → List Nat
  | 0 => []
  | k + 1 => if bs.getD k false = true then (if ((ix bs k).getLast?.all fun j => bs.getD j false) = true then ix bs k ++ [k] else (ix bs k).dropLast) else ix bs k ++ [k]
def lensB (bs : List Bool) (n : Nat) : List Int := (List.range (n + 1)).map fun k => ((ix bs k).length : Int)
def cntsB (bs : List Bool) (n : Nat) : List Int := (List.range (n + 1)).map fun k => (((ix bs k).filter fun j => bs.getD j false).length : Int)
def lastIx (ls : List Int) : Nat → Int → Option Nat
  | 0, _ => none
  | k + 1, p => if ls.getD (k + 1) 0 = ls.getD k 0 + 1 ∧ p = ls.getD k 0 then some k else lastIx ls k p
def rowFrom (x : Int) : List Bool → List Int
  | [] => []
  | q :: r => let y := x + (if x = 0 ∨ q = true then 1 else -1); y :: rowFrom y r
def rowB (qs : List Bool) : List Int := 0 :: rowFrom 0 qs
def rowK (qs : List Bool) : Nat → List Int
  | 0 => [0]
  | k + 1 => rowK qs k ++ [(rowK qs k).getD k 0 + (if (rowK qs k).getD k 0 = 0 ∨ qs.getD k false = true then 1 else -1)]
theorem rowK_len (qs : List Bool) : ∀ k, (rowK qs k).length = k + 1
  | 0 => rfl
  | k + 1 => by rw [rowK, List.length_append, rowK_len qs k]; rfl
def lists : Nat → List (List Bool)
  | 0 => [[]]
  | n + 1 => (lists n).map (true :: ·) ++ (lists n).map (false :: ·)
theorem mem_lists : ∀ bs : List Bool, bs ∈ lists bs.length
  | [] => .head _
  | true :: r => List.mem_append_left _ (List.mem_map_of_mem (mem_lists r))
  | false :: r => List.mem_append_right _ (List.mem_map_of_mem (mem_lists r))
def good1 (n : Nat) (bs : List Bool) : Bool :=
  decide (leastL (lensB bs n) ((cntsB bs n).getD n 0) = cntsB bs n) && decide (backL (lensB bs n) (cntsB bs n) = bs) && ((List.range (ix bs n).length).all fun p => decide (lastIx (lensB bs n) n (p : Int) = (ix bs n)[p]?))
def good2 (n : Nat) (qs : List Bool) : Bool :=
  (List.range ((rowB qs).getD n 0 + 1).toNat).all fun m => decide ((backL (rowB qs) (leastL (rowB qs) (m : Int))).length = n) &&
    decide (lensB (backL (rowB qs) (leastL (rowB qs) (m : Int))) n = rowB qs) && decide (cntsB (backL (rowB qs) (leastL (rowB qs) (m : Int))) n = leastL (rowB qs) (m : Int))
def good3 (n : Nat) (qs : List Bool) : Bool := decide (rowK qs n = rowB qs) && decide (0 ≤ (rowB qs).getD n 0) && (rowB qs).all fun c => decide (0 ≤ c) && decide (c ≤ 1000)
theorem all_good3 : ((List.range 7).all fun n => (lists n).all (good3 n)) = true := by decide +kernel
theorem all_good1 : ((List.range 7).all fun n => (lists n).all (good1 n)) = true := by decide +kernel
theorem all_good2 : ((List.range 7).all fun n => (lists n).all (good2 n)) = true := by decide +kernel
end Fin

section Split
/-- the pieces between the slashes -/
def spl : List Nat → List (List Nat)
  | [] => [[]]
  | c :: r => if c = 47 then [] :: spl r else match spl r with | h :: t => (c :: h) :: t | [] => [[c]]
theorem spl_ne : ∀ a : List Nat, spl a ≠ []
  | [] => by simp [spl]
  | c :: r => by
    unfold spl
    split
    · simp
    · split <;> simp
theorem spl_app : ∀ a b : List Nat, spl (a ++ 47 :: b) = spl a ++ spl b
  | [], b => by simp [spl]
  | c :: r, b => by
    rw [List.cons_append, spl, spl]
    by_cases h : c = 47
    · rw [if_pos h, if_pos h, spl_app r b]; rfl
    · rw [if_neg h, if_neg h, spl_app r b]
      cases hr : spl r with
      | nil => exact absurd hr (spl_ne r)
      | cons x t => rfl
theorem spl_free : ∀ a : List Nat, 47 ∉ a → spl a = [a]
  | [], _ => rfl
  | c :: r, h => by
    have hc : ¬ c = 47 := fun e => h (by rw [e]; exact List.mem_cons_self)
    rw [spl, if_neg hc, spl_free r fun q => h (.tail _ q)]
theorem spl_count : ∀ a : List Nat, (spl a).length = (a.filter (· == 47)).length + 1
  | [] => rfl
  | c :: r => by
    rw [spl]
    by_cases h : c = 47
    · rw [if_pos h, List.length_cons, spl_count r]; simp [h]
    · rw [if_neg h]
      have := spl_count r
      cases hr : spl r with
      | nil => exact absurd hr (spl_ne r)
      | cons x t => rw [hr] at this; simp [h] at this ⊢; exact this
theorem spl_join : ∀ ps : List Str, ps ≠ [] → (∀ p ∈ ps, 47 ∉ tl p) → spl (tl (Str.join (Str.ofString "/") ps)) = ps.map tl
  | [], h, _ => absurd rfl h
  | [p], _, h => spl_free _ (h p (.head _))
  | p :: q :: r, _, h => by
    have e : Str.join (Str.ofString "/") (p :: q :: r) = p ++ Str.ofString "/" ++ Str.join (Str.ofString "/") (q :: r) := rfl
    rw [e, tl_append, tl_append, tl_slash, List.append_assoc, List.singleton_append, spl_app, spl_free _ (h p (.head _)), spl_join (q :: r) (List.cons_ne_nil _ _) fun x hx => h x (.tail _ hx)]
    rfl
theorem split_ne (x : Str) : Txt.split x (Str.ofString "/") ≠ [] := by
  unfold Txt.split
  split
  · simp
  · split
    · simp
    · rw [StrLaws.partsBetween_eq]
      obtain ⟨p, r, e⟩ := StrLaws.partsFrom_ne x (Str.ofString "/").length 0 (Builtin.Str.occurrences x (Str.ofString "/") 0 x.length (x.length + 1))
      rw [e]; simp
theorem split_spl (x : Str) : (Txt.split x (Str.ofString "/")).map tl = spl (tl x) := by
  have h := spl_join (Txt.split x (Str.ofString "/")) (split_ne x) (fun p hp => by rw [slash_eq] at hp; exact StrLaws.split_free x 47 p hp)
  rw [StrLaws.join_split] at h
  exact h.symm
theorem map_tl_inj : ∀ {a b : List Str}, a.map tl = b.map tl → a = b
  | [], [], _ => rfl
  | [], _ :: _, h => by simp at h
  | _ :: _, [], h => by simp at h
  | x :: a, y :: b, h => by
    simp only [List.map_cons, List.cons.injEq] at h
    rw [tl_inj h.1, map_tl_inj h.2]

def kp (c : List Nat) : Bool := !(c == []) && !(c == [46])
def fl (a : List Nat) : List (List Nat) := (spl a).filter kp
theorem fl_app (a b : List Nat) : fl (a ++ 47 :: b) = fl a ++ fl b := by unfold fl; rw [spl_app, List.filter_append]
theorem fl_end (a : List Nat) : fl (a ++ [47]) = fl a := by rw [fl_app]; show fl a ++ [] = fl a; rw [List.append_nil]
theorem fl_name {n : Str} (h : NameOk n) : fl (tl n) = [tl n] := by
  unfold fl
  rw [spl_free _ h.free]
  have h1 : tl n ≠ [] := h.pos
  have h2 : tl n ≠ [46] := fun e => h.dot (tl_inj (e.trans (by decide +kernel)))
  simp [kp, h1, h2]
theorem fl_piece (cu : Int × Bool) : fl (tl (piece cu)) = [tl (stepName cu.1 cu.2)] := by
  have hn := stepName_ok cu.1 cu.2
  unfold piece
  generalize stepName cu.1 cu.2 = n at hn
  have hm : ∀ q : Str, (q = Str.ofString "" ∨ q = Str.ofString "/" ∨ q = Str.ofString "//" ∨ q = Str.ofString "/./" ∨ q = Str.ofString "/.") → fl (tl n ++ tl q) = [tl n] := by
    intro q hq
    rcases hq with e | e | e | e | e
    · rw [e, tl_nil, List.append_nil, fl_name hn]
    · rw [e, tl_slash, fl_end, fl_name hn]
    · rw [e, show tl (Str.ofString "//") = 47 :: [47] from by decide +kernel, fl_app, fl_name hn]; rfl
    · rw [e, show tl (Str.ofString "/./") = 47 :: [46, 47] from by decide +kernel, fl_app, fl_name hn]; rfl
    · rw [e, show tl (Str.ofString "/.") = 47 :: [46] from by decide +kernel, fl_app, fl_name hn]; rfl
  have hq := hm _ (post5_cases cu.1)
  rw [tl_append, tl_append, List.append_assoc]
  rcases pre3_cases cu.1 with e | e | e
  · rw [e, tl_nil, List.nil_append, hq]
  · rw [e, show tl (Str.ofString "./") = [46, 47] from by decide +kernel]
    have : fl ([46] ++ 47 :: (tl n ++ tl (post5 cu.1))) = fl [46] ++ fl (tl n ++ tl (post5 cu.1)) := fl_app [46] _
    rw [hq] at this
    exact this
  · rw [e, show tl (Str.ofString ".//") = [46, 47, 47] from by decide +kernel]
    have h1 : fl ([46] ++ 47 :: (47 :: (tl n ++ tl (post5 cu.1)))) = fl [46] ++ fl (47 :: (tl n ++ tl (post5 cu.1))) := fl_app [46] _
    have h2 : fl (47 :: (tl n ++ tl (post5 cu.1))) = fl [] ++ fl (tl n ++ tl (post5 cu.1)) := fl_app [] _
    rw [h2, hq] at h1
    exact h1
theorem fl_join (x y : Str) : fl (tl (jnText x y)) = fl (tl x) ++ fl (tl y) := by
  unfold jnText
  by_cases h0 : x.length = 0
  · rw [if_pos h0]
    have : tl x = [] := List.eq_nil_of_length_eq_zero (by rw [tl_length]; exact h0)
    rw [this]; rfl
  · rw [if_neg h0]
    by_cases h1 : Txt.endswith x (Str.ofString "/") = true
    · rw [if_pos h1]
      obtain ⟨x', rfl⟩ := ends_slash.mp h1
      rw [tl_append, tl_append, tl_slash, List.append_assoc, List.singleton_append, fl_app, fl_end]
    · rw [if_neg h1, tl_append, tl_append, tl_slash, List.singleton_append, fl_app]
def nm (cu : Int × Bool) : Str := stepName cu.1 cu.2
theorem fl_path (l : List (Int × Bool)) : fl (tl (pathOf l)) = l.map fun cu => tl (nm cu) := by
  have key : ∀ (l : List (Int × Bool)) (p : Str), fl (tl (l.foldl (fun p cu => jnText p (piece cu)) p)) = fl (tl p) ++ l.map fun cu => tl (nm cu) := by
    intro l
    induction l with
    | nil => intro p; simp
    | cons cu l ih => intro p; rw [List.foldl_cons, ih, fl_join, fl_piece]; simp [nm]
  have := key l (Str.ofString "")
  rw [tl_nil] at this
  exact this
def keepS (c : Str) : Bool := kp (tl c)
theorem np_filter : ∀ (cs acc : List Str), cs.foldl npStep acc = (cs.filter keepS).foldl npStep acc
  | [], _ => rfl
  | c :: cs, acc => by
    by_cases h : keepS c = true
    · rw [List.filter_cons_of_pos h, List.foldl_cons, List.foldl_cons, np_filter cs]
    · rw [List.filter_cons_of_neg h, List.foldl_cons]
      have : npStep acc c = acc := by
        unfold npStep
        rw [if_pos]
        unfold keepS kp at h
        simp only [Bool.and_eq_true, Bool.not_eq_true', not_and, beq_eq_false_iff_ne] at h
        by_cases h1 : tl c = []
        · exact .inl (tl_inj (h1.trans tl_nil.symm))
        · have h2 : tl c = [46] := by simpa using h h1
          exact .inr (tl_inj (h2.trans (by decide +kernel)))
      rw [this, np_filter cs]
theorem map_filter_tl : ∀ cs : List Str, (cs.filter keepS).map tl = (cs.map tl).filter kp
  | [] => rfl
  | c :: cs => by
    by_cases h : keepS c = true
    · have h' : kp (tl c) = true := h
      rw [List.filter_cons_of_pos h, List.map_cons, List.map_cons, List.filter_cons_of_pos h', map_filter_tl cs]
    · have h' : ¬ kp (tl c) = true := h
      rw [List.filter_cons_of_neg h, List.map_cons, List.filter_cons_of_neg h', map_filter_tl cs]
def stackOf (l : List (Int × Bool)) : List Str := (l.map nm).foldl npStep []
theorem np_path (l : List (Int × Bool)) : npFold (Txt.split (pathOf l) (Str.ofString "/")) = stackOf l := by
  unfold npFold stackOf
  rw [np_filter]
  congr 1
  apply map_tl_inj
  rw [map_filter_tl, split_spl]
  have := fl_path l
  unfold fl at this
  rw [this, List.map_map]
  rfl
theorem stack_ok (l : List (Int × Bool)) : ∀ p ∈ stackOf l, ∃ cu ∈ l, p = nm cu := by
  intro p hp
  rcases npFold_mem_aux _ _ p hp with h | h
  · cases h
  · obtain ⟨cu, hm, e⟩ := List.mem_map.mp h
    exact ⟨cu, hm, e.symm⟩
theorem stack_name (l : List (Int × Bool)) : ∀ p ∈ stackOf l, NameOk p := fun p hp => by
  obtain ⟨cu, _, e⟩ := stack_ok l p hp
  rw [e]; exact stepName_ok _ _
theorem split_plain (l : List (Int × Bool)) : Txt.split (npText (pathOf l)) (Str.ofString "/") = (if stackOf l = [] then [Str.ofString "."] else stackOf l) ∧ lenT (npText (pathOf l)) = ((stackOf l).length : Int) := by
  unfold npText
  rw [np_path]
  unfold Txt.join
  rw [StrLaws.glued_eq_join]
  by_cases h : stackOf l = []
  · rw [h, if_pos (show (Str.join (Str.ofString "/") []).length = 0 from rfl), if_pos rfl]
    exact ⟨by decide +kernel, by decide +kernel⟩
  · have hs := spl_join (stackOf l) h fun p hp => (stack_name l p hp).free
    have hlen : ¬ (Str.join (Str.ofString "/") (stackOf l)).length = 0 := fun e => by
      have : tl (Str.join (Str.ofString "/") (stackOf l)) = [] := List.eq_nil_of_length_eq_zero e
      rw [this] at hs
      have hm : ([] : List Nat) ∈ (stackOf l).map tl := by rw [← hs]; exact .head _
      obtain ⟨p, hp, e2⟩ := List.mem_map.mp hm
      exact (stack_name l p hp).pos e2
    rw [if_neg hlen, if_neg h]
    refine ⟨map_tl_inj (by rw [split_spl]; exact hs), ?_⟩
    unfold lenT
    have hd : ¬ Str.join (Str.ofString "/") (stackOf l) = Str.ofString "." := fun e => by
      rw [e] at hs
      have e1 : spl (tl (Str.ofString ".")) = [tl (Str.ofString ".")] := by decide +kernel
      rw [e1] at hs
      have hm : tl (Str.ofString ".") ∈ (stackOf l).map tl := by rw [← hs]; exact .head _
      obtain ⟨p, hp, e2⟩ := List.mem_map.mp hm
      exact (stack_name l p hp).dot (tl_inj e2)
    rw [if_neg hd]
    have hc := spl_count (tl (Str.join (Str.ofString "/") (stackOf l)))
    rw [hs, List.length_map] at hc
    unfold cntC
    show (((tl (Str.join (Str.ofString "/") (stackOf l))).filter (· == 47)).length : Int) + 1 = _
    omega
theorem cntT_plain (l : List (Int × Bool)) : cntT (npText (pathOf l)) = (((stackOf l).filter (· == Str.ofString "..")).length : Int) := by
  unfold cntT cntL
  rw [(split_plain l).1]
  by_cases h : stackOf l = []
  · rw [if_pos h, h]; decide +kernel
  · rw [if_neg h]
end Split

section Plain
theorem dd_eq (c : Int) (b : Bool) : (stepName c b == Str.ofString "..") = b := by
  cases b
  · exact beq_eq_false_iff_ne.mpr (lawName_ok c).2
  · exact beq_self_eq_true _
theorem ix_lt (bs : List Bool) : ∀ k, ∀ j ∈ ix bs k, j < k
  | 0, _, h => by cases h
  | k + 1, j, h => by
    have ih := ix_lt bs k
    unfold ix at h
    split at h
    · split at h
      · rcases List.mem_append.mp h with h | h
        · exact Nat.lt_succ_of_lt (ih j h)
        · rw [List.mem_singleton.mp h]; exact Nat.lt_succ_self _
      · exact Nat.lt_succ_of_lt (ih j (List.dropLast_subset _ h))
    · rcases List.mem_append.mp h with h | h
      · exact Nat.lt_succ_of_lt (ih j h)
      · rw [List.mem_singleton.mp h]; exact Nat.lt_succ_self _
def nmAt (codes : List Int) (ups : List Bool) (j : Nat) : Str := stepName (codes.getD j 0) (ups.getD j false)
theorem np_name {n : Str} (h : NameOk n) (acc : List Str) : npStep acc n = if n ≠ Str.ofString ".." ∨ acc = [] ∨ acc.getLast? = some (Str.ofString "..") then acc ++ [n] else acc.dropLast := by
  unfold npStep
  rw [if_neg]
  rintro (e | e)
  · exact h.pos (by rw [e]; exact tl_nil)
  · exact h.dot e
theorem stack_ix {codes : List Int} {ups : List Bool} (hl : ups.length = codes.length) : ∀ k, k ≤ codes.length → stackOf ((codes.zip ups).take k) = (ix ups k).map (nmAt codes ups)
  | 0, _ => by rw [List.take_zero]; rfl
  | k + 1, hk => by
    have ih := stack_ix hl k (Nat.le_of_succ_le hk)
    have hz : (codes.zip ups)[k]? = some (codes.getD k 0, ups.getD k false) := by
      refine List.getElem?_zip_eq_some.mpr ⟨?_, ?_⟩
      · simp only [List.getD]; rw [List.getElem?_eq_getElem hk]; rfl
      · simp only [List.getD]; rw [List.getElem?_eq_getElem (hl ▸ hk)]; rfl
    have e1 : stackOf ((codes.zip ups).take (k + 1)) = npStep (stackOf ((codes.zip ups).take k)) (nmAt codes ups k) := by
      unfold stackOf
      rw [List.take_add_one, hz, List.map_append, List.foldl_append]
      rfl
    have hbe : (nmAt codes ups k == Str.ofString "..") = ups.getD k false := dd_eq _ _
    rw [e1, np_name (n := nmAt codes ups k) (stepName_ok _ _), ih]
    show _ = List.map (nmAt codes ups) (if ups.getD k false = true then (if ((ix ups k).getLast?.all fun j => ups.getD j false) = true then ix ups k ++ [k] else (ix ups k).dropLast) else ix ups k ++ [k])
    cases hb : ups.getD k false
    · rw [hb] at hbe
      rw [if_pos (.inl (beq_eq_false_iff_ne.mp hbe)), if_neg (by decide)]
      simp
    · rw [hb] at hbe
      rw [if_pos rfl]
      have hne : ¬ nmAt codes ups k ≠ Str.ofString ".." := fun q => q (beq_iff_eq.mp hbe)
      cases hg : (ix ups k).getLast? with
      | none =>
        have : ix ups k = [] := List.getLast?_eq_none_iff.mp hg
        rw [this, if_pos (.inr (.inl rfl))]
        simp
      | some j =>
        have hne2 : ¬ (ix ups k).map (nmAt codes ups) = [] := fun q => by
          rw [List.map_eq_nil_iff.mp q] at hg; cases hg
        have hgm : ((ix ups k).map (nmAt codes ups)).getLast? = some (nmAt codes ups j) := by rw [List.getLast?_map, hg]; rfl
        have hje : (nmAt codes ups j == Str.ofString "..") = ups.getD j false := dd_eq _ _
        rw [hgm]
        simp only [Option.all_some]
        by_cases hj : ups.getD j false = true
        · rw [hj] at hje
          rw [if_pos (.inr (.inr (by rw [beq_iff_eq.mp hje]))), if_pos hj]
          simp
        · rw [Bool.not_eq_true] at hj
          rw [hj] at hje
          rw [if_neg (fun q => q.elim hne fun q => q.elim hne2 fun q => beq_eq_false_iff_ne.mp hje (Option.some.inj q)), if_neg (by rw [hj]; decide), List.map_dropLast]
theorem lens_eq {codes : List Int} {ups : List Bool} (hl : ups.length = codes.length) : lensTo (codes.zip ups) codes.length = lensB ups codes.length := by
  unfold lensTo lensB
  refine List.map_congr_left fun j hj => ?_
  have hj' : j ≤ codes.length := Nat.le_of_lt_succ (List.mem_range.mp hj)
  unfold plainAt
  rw [(split_plain _).2, stack_ix hl j hj', List.length_map]
theorem filt_len (p : Str → Bool) (q : Nat → Bool) (f : Nat → Str) : ∀ l : List Nat, (∀ j ∈ l, p (f j) = q j) → ((l.map f).filter p).length = (l.filter q).length
  | [], _ => rfl
  | x :: l, h => by
    have h1 := h x (.head _)
    have h2 := filt_len p q f l fun j hj => h j (.tail _ hj)
    rw [List.map_cons, List.filter_cons, List.filter_cons, h1]
    cases q x <;> simp [h2]
theorem cnts_eq {codes : List Int} {ups : List Bool} (hl : ups.length = codes.length) : cntsTo (codes.zip ups) codes.length = cntsB ups codes.length := by
  unfold cntsTo cntsB
  refine List.map_congr_left fun j hj => ?_
  have hj' : j ≤ codes.length := Nat.le_of_lt_succ (List.mem_range.mp hj)
  unfold plainAt
  rw [cntT_plain, stack_ix hl j hj', filt_len _ (fun j => ups.getD j false) _ _ fun i _ => dd_eq _ _]
theorem good1_of {ups : List Bool} (h : ups.length ≤ 6) : good1 ups.length ups = true := by
  have := List.all_eq_true.mp all_good1 ups.length (List.mem_range.mpr (by omega))
  exact List.all_eq_true.mp this ups (mem_lists ups)
theorem good2_of {qs : List Bool} (h : qs.length ≤ 6) : good2 qs.length qs = true := by
  have := List.all_eq_true.mp all_good2 qs.length (List.mem_range.mpr (by omega))
  exact List.all_eq_true.mp this qs (mem_lists qs)
theorem law1 {codes : List Int} {ups : List Bool} (hl : ups.length = codes.length) (h6 : codes.length ≤ 6) :
    leastL (lensTo (codes.zip ups) codes.length) ((cntsTo (codes.zip ups) codes.length).getD codes.length 0) = cntsTo (codes.zip ups) codes.length ∧
    backL (lensTo (codes.zip ups) codes.length) (cntsTo (codes.zip ups) codes.length) = ups := by
  have h := good1_of (ups := ups) (by omega)
  unfold good1 at h
  rw [hl] at h
  simp only [Bool.and_eq_true, decide_eq_true_eq] at h
  rw [lens_eq hl, cnts_eq hl]
  exact ⟨h.1.1, h.1.2⟩
theorem lastF_ix (codes : List Int) (ups : List Bool) (ls : List Int) (p : Int) : ∀ k, lastF codes ups ls k p = (lastIx ls k p).map (nmAt codes ups)
  | 0 => rfl
  | k + 1 => by
    unfold lastF lastIx
    split
    · rfl
    · exact lastF_ix codes ups ls p k
theorem law2 {codes : List Int} {ups : List Bool} (hl : ups.length = codes.length) (h6 : codes.length ≤ 6) :
    Txt.split (plainAt (codes.zip ups) codes.length) (Str.ofString "/") = (if stackOf (codes.zip ups) = [] then [Str.ofString "."] else stackOf (codes.zip ups)) ∧
    ((stackOf (codes.zip ups)).length : Int) = (lensTo (codes.zip ups) codes.length).getD codes.length 0 ∧
    (∀ (p : Nat) nm, (stackOf (codes.zip ups))[p]? = some nm → lastF codes ups (lensTo (codes.zip ups) codes.length) codes.length (p : Int) = some nm) := by
  have htk : (codes.zip ups).take codes.length = codes.zip ups := List.take_of_length_le (by rw [List.length_zip]; omega)
  have hst := stack_ix hl codes.length (Nat.le_refl _)
  rw [htk] at hst
  refine ⟨?_, ?_, fun p nm hp => ?_⟩
  · unfold plainAt; rw [htk]; exact (split_plain _).1
  · rw [lens_eq hl, hst, List.length_map]
    simp [lensB, List.getD]
  · have h := good1_of (ups := ups) (by omega)
    unfold good1 at h
    rw [hl] at h
    simp only [Bool.and_eq_true, decide_eq_true_eq] at h
    rw [hst, List.getElem?_map] at hp
    have hlt : p < (ix ups codes.length).length := by
      cases hq : (ix ups codes.length)[p]? with
      | none => rw [hq] at hp; cases hp
      | some j => exact (List.getElem?_eq_some_iff.mp hq).1
    have := List.all_eq_true.mp h.2 p (List.mem_range.mpr hlt)
    rw [decide_eq_true_eq] at this
    rw [lastF_ix, lens_eq hl, this, hp]
theorem law3 {codes : List Int} {qs : List Bool} (hl : qs.length = codes.length) (h6 : codes.length ≤ 6) {m : Nat} (hm : (m : Int) ≤ (rowB qs).getD codes.length 0) :
    (backL (rowB qs) (leastL (rowB qs) (m : Int))).length = codes.length ∧
    lensTo (codes.zip (backL (rowB qs) (leastL (rowB qs) (m : Int)))) codes.length = rowB qs ∧
    cntsTo (codes.zip (backL (rowB qs) (leastL (rowB qs) (m : Int)))) codes.length = leastL (rowB qs) (m : Int) := by
  have h := good2_of (qs := qs) (by omega)
  unfold good2 at h
  rw [hl] at h
  have := List.all_eq_true.mp h m (List.mem_range.mpr (by omega))
  simp only [Bool.and_eq_true, decide_eq_true_eq] at this
  obtain ⟨⟨h1, h2⟩, h3⟩ := this
  exact ⟨h1, by rw [lens_eq h1, h2], by rw [cnts_eq h1, h3]⟩
theorem good3_of {qs : List Bool} (h : qs.length ≤ 6) : rowK qs qs.length = rowB qs ∧ 0 ≤ (rowB qs).getD qs.length 0 ∧ ∀ c ∈ rowB qs, 0 ≤ c ∧ c ≤ 1000 := by
  have := List.all_eq_true.mp all_good3 qs.length (List.mem_range.mpr (by omega))
  have := List.all_eq_true.mp this qs (mem_lists qs)
  unfold good3 at this
  simp only [Bool.and_eq_true, decide_eq_true_eq] at this
  refine ⟨this.1.1, this.1.2, fun c hc => ?_⟩
  have q := List.all_eq_true.mp this.2 c hc
  simp only [Bool.and_eq_true, decide_eq_true_eq] at q
  exact q
end Plain

section LawRets
variable {h₀ : Heap} {L : Addr} {m : Str → Option Value} {news : List (Addr × Obj)} {s : Shared} {Q : Value → Shared → Prop}
theorem retIL {l : List Int} (F : Fr h₀ L s.heap m) (N : News h₀ L s.heap news)
   (k : ∀ (h' : Heap) (tk' : Nat) (D : Addr) (vs : List Value) (n : Nat), IntsAre vs l → Fr h₀ L h' m → News h₀ L h' ((D, PySem.W.listOf vs.toArray n) :: news) → s.toks ≤ tk' → Q (.ref D) { s with heap := h', toks := tk' }) :
   RetO s.heap s Q fun tk o => ∃ vs' n, o = PySem.W.listOf vs'.toArray n ∧ IntsAre vs' l := fun h' tk' D o st tk hn ho hp => by
  obtain ⟨vs, n, rfl, hi⟩ := hp
  exact k h' tk' D vs n hi (st.fr F) (news_one F N st hn ho).1 tk
theorem retBL {bs : List Bool} (F : Fr h₀ L s.heap m) (N : News h₀ L s.heap news)
   (k : ∀ (h' : Heap) (tk' : Nat) (D : Addr) (n : Nat), Fr h₀ L h' m → News h₀ L h' ((D, PySem.W.listOf (bs.map Value.bool).toArray n) :: news) → s.toks ≤ tk' → Q (.ref D) { s with heap := h', toks := tk' }) :
   RetO s.heap s Q fun tk o => ∃ n, o = PySem.W.listOf (bs.map Value.bool).toArray n := fun h' tk' D o st tk hn ho hp => by
  obtain ⟨n, rfl⟩ := hp
  exact k h' tk' D n (st.fr F) (news_one F N st hn ho).1 tk
theorem retSL {ps : List Str} (F : Fr h₀ L s.heap m) (N : News h₀ L s.heap news)
   (k : ∀ (h' : Heap) (tk' : Nat) (D : Addr) (l : List (Str × Tok)) (n : Nat), l.map (·.1) = ps → Fr h₀ L h' m → News h₀ L h' ((D, PySem.W.listOf (strValues l).toArray n) :: news) → s.toks ≤ tk' → Q (.ref D) { s with heap := h', toks := tk' }) :
   RetO s.heap s Q fun tk o => ∃ l n, o = PySem.W.listOf (strValues l).toArray n ∧ l.map (·.1) = ps := fun h' tk' D o st tk hn ho hp => by
  obtain ⟨l, n, rfl, hi⟩ := hp
  exact k h' tk' D l n hi (st.fr F) (news_one F N st hn ho).1 tk
theorem retT3 {l1 l2 : List Int} {x : Str} (F : Fr h₀ L s.heap m) (N : News h₀ L s.heap news)
   (k : ∀ (h' : Heap) (tk' : Nat) (T D1 D2 : Addr) (vs1 vs2 : List Value) (n1 n2 t : Nat), IntsAre vs1 l1 → IntsAre vs2 l2 → Fr h₀ L h' m →
     News h₀ L h' ((T, ({ cls := .type "tuple", data := .seq #[.ref D1, .ref D2, .str x t] } : Obj)) :: (D1, PySem.W.listOf vs1.toArray n1) :: (D2, PySem.W.listOf vs2.toArray n2) :: news) → s.toks ≤ tk' → 0 < t → t < tk' → Q (.ref T) { s with heap := h', toks := tk' }) :
   RetT3 s.heap s Q fun tk o1 o2 v => ∃ vs1 n1 vs2 n2 t, o1 = PySem.W.listOf vs1.toArray n1 ∧ IntsAre vs1 l1 ∧ o2 = PySem.W.listOf vs2.toArray n2 ∧ IntsAre vs2 l2 ∧ v = .str x t ∧ TokIn tk t :=
  fun h' tk' T D1 D2 o1 o2 v st tk hT h1 h2 _ _ _ gT g1 g2 hp => by
    obtain ⟨vs1, n1, vs2, n2, t, rfl, hi1, rfl, hi2, rfl, ht1, ht2⟩ := hp
    have a2 := (news_one F N st h2 g2).1
    have one : ∀ D o, s.heap.get? D = none → h'.get? D = some o → D ≠ L ∧ h₀.get? D = none := fun D o hn ho => by
      have := (news_one F N st hn ho).1 _ (.head _)
      exact this.2
    refine k h' tk' T D1 D2 vs1 vs2 n1 n2 t hi1 hi2 (st.fr F) (fun p hp => ?_) tk ht1 ht2
    rcases List.mem_cons.mp hp with rfl | hp
    · exact ⟨gT, one _ _ hT gT⟩
    rcases List.mem_cons.mp hp with rfl | hp
    · exact ⟨g1, one _ _ h1 g1⟩
    · exact a2 p hp
end LawRets
section LawCmp
open PyProof.V PySem.SeqAt PySem.Spec
variable {prog : Program} {w : World} {A : Around} {E : Value → Shared → Prop} {s : Shared} {a b : Addr} {Q : Value → Shared → Prop}
theorem ne_ints_eq {vs us : List Value} {ns ms : List Int} (hl : s.heap.IsList a vs.toArray) (hi : IntsAre vs ns) (hl' : s.heap.IsList b us.toArray) (hi' : IntsAre us ms) (hu : A.units + 64 < cLine) (e : ns = ms) (h : Q (.bool false) s) :
    wpAny (model prog w) A (compareOp .NotEq (.ref a) (.ref b)) Q E s := ne_intsK hl hi hl' hi' hu (by rw [decide_eq_true e]; exact h)
theorem bools_reads {h : Heap} : ∀ bs : List Bool, ReadsAll h (bs.map Value.bool) (bs.map PyData.bool) []
  | [] => .nil
  | b :: r => by have := ReadsAll.cons (Reads.bool (h := h) b) (bools_reads (h := h) r); simpa using this
theorem bools_lay : ∀ bs : List Bool, PyData.canLayAll0 (bs.map PyData.bool) = true ∧ PyData.depthAll (bs.map PyData.bool) ≤ 1 ∧ noMixAll (bs.map PyData.bool) (bs.map PyData.bool) = true ∧ PySem.Spec.sameAll (bs.map PyData.bool) (bs.map PyData.bool) = true
  | [] => by simp [PyData.canLayAll0, PyData.depthAll, noMixAll, PySem.Spec.sameAll]
  | b :: r => by
    obtain ⟨h1, h2, h3, h4⟩ := bools_lay r
    simp only [List.map_cons]
    refine ⟨by simp [PyData.canLayAll0, PyData.canLay0, h1], by simp only [PyData.depthAll, PyData.depth]; omega, by simp [noMixAll, noMix, h3], by simp [PySem.Spec.sameAll, PySem.Spec.same, h4]⟩
theorem ne_bools_eq {bs cs : List Bool} (hl : s.heap.IsList a (bs.map Value.bool).toArray) (hl' : s.heap.IsList b (cs.map Value.bool).toArray) (hu : A.units + 64 < cLine) (e : bs = cs) (h : Q (.bool false) s) :
    wpAny (model prog w) A (compareOp .NotEq (.ref a) (.ref b)) Q E s := by
  subst e
  obtain ⟨h1, h2, h3, h4⟩ := bools_lay bs
  have sh : shaped (.list (bs.map PyData.bool)) = true := by
    show (PyData.canLay0 (.list (bs.map PyData.bool)) && decide (PyData.depth (.list (bs.map PyData.bool)) ≤ 64)) = true
    rw [Bool.and_eq_true]
    exact ⟨by simp only [PyData.canLay0]; exact h1, decide_eq_true (by simp only [PyData.depth]; omega)⟩
  obtain ⟨o, ho, hc, n, hd⟩ := hl
  obtain ⟨o', ho', hc', n', hd'⟩ := hl'
  refine ne_dataH_same (Reads.list ho hc hd (by simpa using bools_reads bs)) (Reads.list ho' hc' hd' (by simpa using bools_reads bs)) sh sh hu (by simp only [noMix]; exact h3) ?_
  simp only [PySem.Spec.same]
  rw [h4]; exact h
theorem strs_reads {h : Heap} : ∀ l : List (Str × Tok), ReadsAll h (strValues l) ((l.map (·.1)).map PyData.str) []
  | [] => .nil
  | (x, t) :: r => by have := ReadsAll.cons (Reads.str (h := h) x t) (strs_reads (h := h) r); exact this
theorem strs_lay : ∀ ps : List Str, (∀ p ∈ ps, (PyData.str p).canLay0 = true) → PyData.canLayAll0 (ps.map PyData.str) = true ∧ PyData.depthAll (ps.map PyData.str) ≤ 1 ∧ noMixAll (ps.map PyData.str) (ps.map PyData.str) = true ∧ PySem.Spec.sameAll (ps.map PyData.str) (ps.map PyData.str) = true
  | [], _ => by simp [PyData.canLayAll0, PyData.depthAll, noMixAll, PySem.Spec.sameAll]
  | b :: r, hp => by
    obtain ⟨h1, h2, h3, h4⟩ := strs_lay r fun p hm => hp p (.tail _ hm)
    have hb := hp b (.head _)
    simp only [List.map_cons]
    refine ⟨by simp only [PyData.canLayAll0, Bool.and_eq_true]; exact ⟨hb, h1⟩, by simp only [PyData.depthAll, PyData.depth]; omega, by simp [noMixAll, noMix, h3], by simp [PySem.Spec.sameAll, PySem.Spec.same, h4]⟩
theorem ne_strs_eq {l l' : List (Str × Tok)} (hl : s.heap.IsList a (strValues l).toArray) (hl' : s.heap.IsList b (strValues l').toArray) (hu : A.units + 64 < cLine) (e : l.map (·.1) = l'.map (·.1)) (hok : ∀ p ∈ l.map (·.1), (PyData.str p).canLay0 = true) (h : Q (.bool false) s) :
    wpAny (model prog w) A (compareOp .NotEq (.ref a) (.ref b)) Q E s := by
  obtain ⟨h1, h2, h3, h4⟩ := strs_lay _ hok
  have sh : shaped (.list ((l.map (·.1)).map PyData.str)) = true := by
    show (PyData.canLay0 (.list ((l.map (·.1)).map PyData.str)) && decide (PyData.depth (.list ((l.map (·.1)).map PyData.str)) ≤ 64)) = true
    rw [Bool.and_eq_true]
    exact ⟨by simp only [PyData.canLay0]; exact h1, decide_eq_true (by simp only [PyData.depth]; omega)⟩
  obtain ⟨o, ho, hc, n, hd⟩ := hl
  obtain ⟨o', ho', hc', n', hd'⟩ := hl'
  refine ne_dataH_same (Reads.list ho hc hd (by rw [List.toList_toArray]; exact strs_reads l)) (Reads.list ho' hc' hd' (by rw [List.toList_toArray, e]; exact strs_reads l')) sh sh hu (by simp only [noMix]; exact h3) ?_
  simp only [PySem.Spec.same]
  rw [h4]; exact h
theorem ne_strs_eq3 {l l' : List (Str × Tok)} {ps qs : List Str} (hl : s.heap.IsList a (strValues l).toArray) (hl' : s.heap.IsList b (strValues l').toArray) (hu : A.units + 64 < cLine) (e1 : l.map (·.1) = ps) (e2 : l'.map (·.1) = qs) (e3 : ps = qs) (hok : ∀ p ∈ ps, (PyData.str p).canLay0 = true) (h : Q (.bool false) s) :
    wpAny (model prog w) A (compareOp .NotEq (.ref a) (.ref b)) Q E s := ne_strs_eq hl hl' hu (e1.trans (e3.trans e2.symm)) (by rw [e1]; exact hok) h
end LawCmp
theorem step_lay (c : Int) (b : Bool) : (PyData.str (stepName c b)).canLay0 = true := by
  have dd : (PyData.str (Str.ofString "..")).canLay0 = true := by decide +kernel
  cases b
  · show (PyData.str (lawName c)).canLay0 = true
    unfold lawName
    split
    · decide +kernel
    · rcases rawName_mem c with e | e
      · exact (by decide +kernel : ∀ x ∈ six, (PyData.str x).canLay0 = true) _ e
      · have g0 := Int.fmod_nonneg_of_pos (c.fdiv 7) (show (0:Int) < 55295 by decide)
        have g1 := Int.fmod_lt_of_pos (c.fdiv 7) (show (0:Int) < 55295 by decide)
        rw [e]
        generalize (c.fdiv 7).fmod 55295 = q at g0 g1
        simp only [PyData.canLay0]
        have : (1 + q).toNat < 1114112 := by clear e; omega
        simp [PyData.strOk, this]
  · exact dd

theorem toN {r : Int} (h : 0 ≤ r ∧ r ≤ 1000) : r + 1 = ((r + 1).toNat : Int) ∧ (r + 1).toNat ≤ 100000 := by omega
theorem toNlt {r : Int} {i : Nat} (h : i < (r + 1).toNat) : (i : Int) ≤ r := by omega
section ItemM
variable {prog : Program} {w : World} {A : Around} {E : Value → Shared → Prop} {s : Shared} {h₀ : Heap} {L D : Addr} {news : List (Addr × Obj)}
theorem item_m1 {cs : List Int} {vc : List Value} {n k : Nat} {value slice : PySem.Expr} {u : Tok} {Q : Value → Shared → Prop} (N : News h₀ L s.heap news) (hm : (D, PySem.W.listOf vc.toArray k) ∈ news) (hI : IntsAre vc cs) (hl : cs.length = n + 1) (hn : n ≤ 1000)
    (h : ∀ t, Q (.int (cs.getD n 0) t) s) (hs : subscripted slice false (.ref D) (.int (-1) u) = operate [.ref D, .int (-1) u] (getItem (.ref D) (.int (-1) u))) :
    wpAny (model prog w) A (subscriptTail value slice (.ref D) (.int (-1) u)) Q E s := by
  have hL : s.heap.IsList D vc.toArray := ⟨_, (N _ hm).1, rfl, _, rfl⟩
  have hlen : vc.length = n + 1 := (IntsAre.length hI).trans hl
  have hlt : n < vc.length := Nat.lt_of_lt_of_eq (Nat.lt_succ_self n) hlen.symm
  obtain ⟨t, ht⟩ := IntsAre.int_at hI n _ (List.getElem?_eq_getElem hlt)
  refine tail_any hL.typeIs slot_list_getitem.lookup (wpAny_getItem_list_neg hL (by decide) (by simp; omega) (by decide) ?_ (h t)) hs
  have e : ((-1 : Int) + (vc.toArray.size : Int)).toNat = n := (neg1 hlen).1
  rw [e]
  simp [hlt, ht]
end ItemM
theorem lens_bd {codes : List Int} {ups : List Bool} (hl : ups.length = codes.length) (h6 : codes.length ≤ 6) : (lensTo (codes.zip ups) codes.length).length = codes.length + 1 ∧ (cntsTo (codes.zip ups) codes.length).length = codes.length + 1 ∧
    (∀ c ∈ lensTo (codes.zip ups) codes.length, 0 ≤ c ∧ c ≤ 1000) ∧ (∀ c ∈ cntsTo (codes.zip ups) codes.length, -1000 ≤ c ∧ c ≤ 1000) := by
  rw [lens_eq hl, cnts_eq hl]
  have hix : ∀ k, (ix ups k).length ≤ k := by
    intro k
    induction k with
    | zero => exact Nat.le_refl _
    | succ k ih =>
      unfold ix
      split
      · split
        · simp; omega
        · simp; omega
      · simp; omega
  refine ⟨by simp [lensB], by simp [cntsB], fun c hc => ?_, fun c hc => ?_⟩
  · obtain ⟨k, hk, rfl⟩ := List.mem_map.mp hc
    have := hix k
    have hk' := List.mem_range.mp hk
    exact ⟨by omega, by omega⟩
  · obtain ⟨k, hk, rfl⟩ := List.mem_map.mp hc
    have := hix k
    have h2 := List.length_filter_le (fun j => ups.getD j false) (ix ups k)
    have hk' := List.mem_range.mp hk
    exact ⟨by omega, by omega⟩
theorem pieces_ok {codes : List Int} {ups : List Bool} (hl : ups.length = codes.length) (h6 : codes.length ≤ 6) : ∀ p ∈ Txt.split (plainAt (codes.zip ups) codes.length) (Str.ofString "/"), (PyData.str p).canLay0 = true := by
  intro p hp
  rw [(law2 hl h6).1] at hp
  split at hp
  · rw [List.mem_singleton.mp hp]; decide +kernel
  · obtain ⟨cu, _, e⟩ := stack_ok _ p hp
    rw [e]; exact step_lay _ _
theorem plain_len {codes : List Int} {ups : List Bool} (hl : ups.length = codes.length) (h6 : codes.length ≤ 6) : (plainAt (codes.zip ups) codes.length).length ≤ 1003002 := by
  unfold plainAt
  refine np_len ?_
  have h1 := (pathOf_ok ((codes.zip ups).take codes.length)).1
  have h2 : ((codes.zip ups).take codes.length).length ≤ 6 := by rw [List.length_take]; omega
  omega

theorem kw59 : True := by
  k_with "my sides" => (( (case cw => exact Wd.keeps (by assumption) (Fr.keep (by assumption))); (case cd => k_dflt decide); (case cu => k_dflt decide); (case ct => ((try dsimp only); walk_at "my lin"))))
  trivial
theorem kw60 : True := by
  k_with "eval ListComp" => (refine Stop.out ?_)
  trivial
theorem kw61 : True := by
  k_with "exec Assign cons ListComp" => (refine Stop.out ?_)
  trivial
theorem kw62 : True := by
  k_with "CompSrc" => (refine Stop.out ?_)
  trivial
theorem kw63 : True := by
  k_with "my ret" => (first | (refine' retT3 ?rF ?rN ?_; (case rF => k_asm); (case rN => k_asm); intro _ _ _ _ _ _ _ _ _ _ _ _ _ _ q9 p9 r9; k_sweep; (try dsimp only at q9 ⊢); revert q9 p9 r9; intro _ _ _) | (refine' retIL ?rF ?rN ?_; (case rF => k_asm); (case rN => k_asm); intro _ _ _ _ _ _ _ _ q9; k_sweep; (try dsimp only at q9 ⊢); revert q9; intro _) | (refine' retBL ?rF ?rN ?_; (case rF => k_asm); (case rN => k_asm); intro _ _ _ _ _ _ q9; k_sweep; (try dsimp only at q9 ⊢); revert q9; intro _) | (refine' retSL ?rF ?rN ?_; (case rF => k_asm); (case rN => k_asm); intro _ _ _ _ _ _ _ _ q9; k_sweep; (try dsimp only at q9 ⊢); revert q9; intro _))
  trivial
theorem kw64 : True := by
  k_with "my list" => ((k_dflt (exact News.isList (by k_asm) (by k_mem))))
  trivial
theorem kw65 : True := by
  k_with "call ref" => (( (k_dflt (refine' c_fronts ?cw ?cd ?cu ?ct ?cl1 ?ci ?cl2 ?cc ?cn ?cm ?_)); (case cl1 => walk_at "my list"); (case ci => with_reducible assumption); (case cl2 => walk_at "my list"); (case cc => with_reducible assumption); (case cn => with_reducible assumption); (case cm => with_reducible assumption); walk_at "my sides"; walk_at "my ret"))
  trivial
theorem kw66 : True := by
  k_with "call ref" => (( (k_dflt (refine' c_least ?cw ?cd ?cu ?ct ?cl1 ?ci ?cn ?_)); (case cl1 => walk_at "my list"); (case ci => with_reducible assumption); (case cn => with_reducible assumption); walk_at "my sides"; walk_at "my ret"))
  trivial
theorem kw67 : True := by
  k_with "call ref" => (( (k_dflt (refine' c_back ?cw ?cd ?cu ?ct ?cl1 ?ci ?cl2 ?ci2 ?cn ?cm ?c1 ?cb ?_)); (case cl1 => walk_at "my list"); (case ci => with_reducible assumption); (case cl2 => walk_at "my list"); (case ci2 => with_reducible assumption); (case cn => with_reducible assumption); (case cm => with_reducible assumption); (case c1 => with_reducible assumption); (case cb => with_reducible assumption); walk_at "my sides"; walk_at "my ret"))
  trivial
def NoStop3 : Prop := True
theorem kw68 : True := by
  k_with "eval IfExp" => (((fail_if_success (have ns9 : NoStop3 := by with_reducible assumption)); refine Stop.out ?_))
  trivial
/-- a step whose ways meet in a new list of ints -/
theorem via_ints {M : Model} {A : Around} {E : Value → Shared → Prop} {s : Shared} {Q : Value → Shared → Prop} {h₀ : Heap} {L : Addr} {m : Str → Option Value} {news : List (Addr × Obj)} {tree : Sem Value} (P : List Int → Prop) (F : Fr h₀ L s.heap m) (N : News h₀ L s.heap news)
   (h1 : ∀ Q' : Value → Shared → Prop, (∀ (h' : Heap) (tk' : Nat) (D : Addr) (vs : List Value) (n : Nat) (l : List Int), IntsAre vs l → P l → Fr h₀ L h' m → News h₀ L h' ((D, PySem.W.listOf vs.toArray n) :: news) → s.toks ≤ tk' → Q' (.ref D) { s with heap := h', toks := tk' }) → wpAny M A tree Q' E s)
   (h2 : ∀ (h' : Heap) (tk' : Nat) (D : Addr) (vs : List Value) (n : Nat) (l : List Int), IntsAre vs l → P l → Fr h₀ L h' m → News h₀ L h' ((D, PySem.W.listOf vs.toArray n) :: news) → s.toks ≤ tk' → Q (.ref D) { s with heap := h', toks := tk' }) : wpAny M A tree Q E s := h1 Q h2
theorem ints_any (P : Int → Prop) : ∀ ys : List Value, (∀ (i : Nat) (y : Value), ys[i]? = some y → ∃ (v : Int) (t : Tok), y = Value.int v t ∧ P v) → ∃ l : List Int, IntsAre ys l ∧ (∀ x ∈ l, P x) ∧ l.length = ys.length
  | [], _ => ⟨[], .nil, (fun x h => by cases h), rfl⟩
  | y :: ys, h => by
    obtain ⟨v, t, e, hp⟩ := h 0 y rfl
    obtain ⟨l, h1, h2, h3⟩ := ints_any P ys fun i z hz => h (i + 1) z (by simpa using hz)
    exact ⟨v :: l, by rw [e]; exact .cons _ _ h1, fun x hx => (List.mem_cons.mp hx).elim (fun q => q ▸ hp) (h2 x), by simp [h3]⟩
theorem lookup1 {a : Str} {u : Value} (y : Str) : List.lookup y [(a, u)].reverse = if y = a then some u else none := by
  show (match y == a with | true => some u | false => none) = _
  by_cases h1 : y = a
  · simp [h1]
  · have e1 : (y == a) = false := by simpa using h1
    rw [e1]; simp [h1]
theorem kw69 : True := by
  k_with "subscriptTail Name UnaryOp ref int" => ((k_dflt (refine' item_m1 ?kN ?km ?kI ?kl ?kn ?_ ?ks; (case kN => k_asm); (case km => k_mem); (case kI => with_reducible assumption); (case kl => with_reducible assumption); (case kn => omega); (case ks => with_unfolding_all rfl); intro _)))
  trivial
theorem kw70 : True := by
  k_with "compareOp NotEq ref ref" => (( (k_dflt (refine' ne_strs_eq3 ?k1 ?k3 ?k5 ?e1 ?e2 ?e3 ?ko ?_)); (case k1 => walk_at "my list"); (case k3 => walk_at "my list"); (case k5 => units_room); (case e1 => with_reducible assumption); (case e2 => with_reducible assumption); (case e3 => with_reducible assumption); (case ko => with_reducible assumption)))
  trivial
theorem kw71 : True := by
  k_with "compareOp NotEq ref ref" => (( (k_dflt (refine' ne_bools_eq ?k1 ?k3 ?k5 ?ke ?_)); (case k1 => walk_at "my list"); (case k3 => walk_at "my list"); (case k5 => units_room); (case ke => with_reducible assumption)))
  trivial
theorem kw72 : True := by
  k_with "compareOp NotEq ref ref" => (( (k_dflt (refine' ne_ints_eq ?k1 ?k2 ?k3 ?k4 ?k5 ?ke ?_)); (case k1 => walk_at "my list"); (case k2 => with_reducible assumption); (case k3 => walk_at "my list"); (case k4 => with_reducible assumption); (case k5 => units_room); (case ke => first | with_reducible assumption | (exact Eq.symm (by with_reducible assumption)))))
  trivial
theorem kw73 : True := by
  k_with "call ref" => (( (k_dflt (refine' c_last _ ?cw ?cd ?cu ?ct ?cl1 ?ci ?cl2 ?cl3 ?ci3 ?cc ?cn ?cm ?c1 ?cb ?cp ?cq ?_)); (case cl1 => walk_at "my list"); (case ci => with_reducible assumption); (case cl2 => walk_at "my list"); (case cl3 => walk_at "my list"); (case ci3 => with_reducible assumption); (case cc => with_reducible assumption); (case cn => with_reducible assumption); (case cm => with_reducible assumption); (case c1 => with_reducible assumption); (case cb => with_reducible assumption); (case cp => with_reducible assumption); (case cq => with_reducible assumption); walk_at "my sides"; walk_at "my ret"))
  trivial
def NoSub : Prop := True
theorem kw74 : True := by
  k_with "subscriptTail Name UnaryOp ref int" => (((fail_if_success (have ns9 : NoSub := by with_reducible assumption)); refine Stop.out ?_))
  trivial
def lFrm (Dr DC DL Du Dc Dn D : Addr) (p : Value) (z : Str) : Option Value :=
  if z = Str.ofString "row" then some (Value.ref Dr) else if z = Str.ofString "plain" then some p else if z = Str.ofString "counts" then some (Value.ref DC) else if z = Str.ofString "lengths" then some (Value.ref DL) else
  if z = Str.ofString "ups" then some (Value.ref Du) else if z = Str.ofString "codes" then some (Value.ref Dc) else if z = Str.ofString "numbers" then some (Value.ref Dn) else if z = Str.ofString "script" then some (Value.ref D) else none
def mFrm (u : Option Value) (Dr Du Dc Dn D : Addr) (a : Option Value × Option Value × Option Value × Option Value) (z : Str) : Option Value :=
  if z = Str.ofString "due" then a.1 else if z = Str.ofString "plain" then a.2.1 else if z = Str.ofString "counts" then a.2.2.1 else if z = Str.ofString "lengths" then a.2.2.2 else
  if z = Str.ofString "x" then u else if z = Str.ofString "row" then some (Value.ref Dr) else
  if z = Str.ofString "ups" then some (Value.ref Du) else if z = Str.ofString "codes" then some (Value.ref Dc) else if z = Str.ofString "numbers" then some (Value.ref Dn) else if z = Str.ofString "script" then some (Value.ref D) else none
theorem law_holds : PySem.Challenge.rw_pd0130_01.Holds := hd (by
  k_go0
  (all_goals try k_fold)
  rename_i w s₀ s₁ mg mb G Y fa o pm doc kV ho hg KX X V GL T B TE TW w9 w8 M w7 w6 hcd ns hs hlay0 hL1 hr1 hl2 w4 w3 D vs w0 hL ra w1 r0 hI hr hcn hcn2 K0 hD h₁ F N0
  have W : Wd w s₁.heap := ⟨KX, _, _, _, T⟩
  clear G Y X V GL B TE TW M hcd hs hlay0 hL1 hr1 hl2 ra w1 r0 hr hD hcn2
  replace F : Fr s₁.heap s₁.heap.objs.size h₁ (fun y => if y = Str.ofString "script" then some (Value.ref D) else none) := by
    have e : (fun y => List.lookup y [(Str.ofString "script", Value.ref D)].reverse) = fun y => if y = Str.ofString "script" then some (Value.ref D) else none := funext lookup1
    rw [← e]; exact F
  have hk1 : [(Str.ofString "script", Value.ref D)].length = 1 := rfl
  k_steps
  refine Stop.mk ?_
  refine via_ints (fun l => l.length ≤ 6 ∧ ∀ x ∈ l, 0 ≤ x ∧ x < 4294967296) F N0 ?_ ?_
  · intro Q' hQ'
    have ns3 : NoStop3 := trivial
    k_steps
    · rename_i l1 h2 hh1 hcond l2 h3 F1 N1 hh2
      exact hQ' _ _ l2 [Value.int 2 _, Value.int 13 _, Value.int 0 _, Value.int 35 _, Value.int 6 _] 0 [2, 13, 0, 35, 6] (.cons _ _ (.cons _ _ (.cons _ _ (.cons _ _ (.cons _ _ .nil))))) (by decide) F1
        (fun p hp => N1 p (by rw [List.mem_singleton.mp hp]; exact List.Mem.head _)) (by (try dsimp only); walk_at "my lin")
    · rename_i l1 h2 F1 N1 hh1 hcond
      refine Stop.mk ?_
      refine wpAny_with_toks (n := s₁.toks + 1) (by (try dsimp only); walk_at "my lin") ?_
      refine LCg.ListComp_U (cl := []) F1 (by with_unfolding_all rfl) ?z1 rfl ?z2 rfl ?_ (fun _ => rfl)
      case z1 => decide
      case z2 => decide
      k_steps
      rename_i D' ws h3 F2 N2 hI2 hC2 hL2 ll
      refine Stop.mk ?_
      have hw6 : ws.length ≤ 6 := by rw [IntsAre.length hI2, hC2]; omega
      refine LCg.CompSrc.ledger rfl F2 N2 (.head _) (by rw [sizeLine_eq]; simp; omega) fun g => comp_rest (fun i y => ∃ v t, y = Value.int v t ∧ (0 ≤ v ∧ v < 4294967296)) ?_ ?_
      · intro i v I oI C oC D2 m₂ zs h tk'' E' hi hv hC hx F6 N6 off ne
        obtain ⟨t, rfl⟩ := IntsAre.int_at hI2 i v (by simpa using hv)
        clear hv F2 N2
        generalize (List.take 6 ns).getD i 0 = x at hx
        simp only [LCg.Off3, and_true] at off
        k_steps
        have e32 : (2 : Int) ^ Int.toNat 32 = 4294967296 := by decide
        exact ⟨rfl, _, _, rfl, by rw [e32]; exact ⟨Int.fmod_nonneg_of_pos x (by decide), Int.fmod_lt_of_pos x (by decide)⟩⟩
      · intro zs hz1 hz2 D2 h' tk' F6 N6 o1 htk'
        obtain ⟨l, g1, g2, g3⟩ := ints_any _ zs hz2
        exact hQ' _ _ D2 zs zs.length l g1 ⟨by simp at hz1; omega, g2⟩ F6 (fun p hp => N6 p (by rw [List.mem_singleton.mp hp]; exact List.Mem.head _)) (by (try dsimp only at htk' ⊢); walk_at "my lin")
  · intro h2 tk2 Dn vn n2 nums hIn hPn F1 N1 htk2
    obtain ⟨hn6, hnb⟩ := hPn
    have htk2' : s₁.toks + 1 ≤ tk2 := by (try dsimp only at htk2); omega
    have hvn : vn.length = nums.length := IntsAre.length hIn
    clear F N0 htk2
    k_steps
    rename_i h3 F2 N2
    refine Stop.mk ?_
    refine wpAny_with_toks (n := s₁.toks + 1) (by (try dsimp only); walk_at "my lin") ?_
    refine LCg.Assign_ListComp_U (cl := []) F2 rfl (by with_unfolding_all rfl) (by with_unfolding_all rfl) ?z1 rfl ?z2 rfl rfl rfl ?_ (fun _ => rfl)
    case z1 => decide
    case z2 => decide
    k_steps
    refine Stop.mk ?_
    refine LCg.CompSrc.ledger rfl F2 N2 (.head _) (by rw [sizeLine_eq]; simp; omega) fun g => comp_rest (fun i y => ∃ t, y = Value.int ((nums.getD i 0).fdiv 8) t) ?t1 ?_
    case t1 =>
      intro i v I oI C oC D2 m₂ zs h tk'' E' hi hv hC hx F6 N6 off ne
      obtain ⟨t, rfl⟩ := IntsAre.int_at hIn i v (by simpa using hv)
      clear hv F2 N2
      generalize nums.getD i 0 = x at hx
      simp only [LCg.Off3, and_true] at off
      k_steps
      exact ⟨rfl, _, rfl⟩
    intro zc hz1 hz2 Dc h5 tk5 F5 N5 o5 htk5
    have hzl : zc.length = nums.length := by simpa [hvn] using hz1
    have hIc : IntsAre zc (nums.map fun x => x.fdiv 8) := ints_of_at _ _ (by simp [hzl]) fun i y hy => by
      have hi : i < nums.length := by rw [← hzl]; exact (List.getElem?_eq_some_iff.mp hy).1
      rw [getD_mapK _ _ _ hi]; exact hz2 i y hy
    clear hz1 hz2 o5 F2 N2
    replace N5 : News s₁.heap s₁.heap.objs.size h5 [(Dc, PySem.W.listOf zc.toArray zc.length), (Dn, PySem.W.listOf vn.toArray n2)] := N5
    replace htk5 : s₁.toks + 1 ≤ tk5 := htk5
    dsimp only
    obtain ⟨codes, hcodes⟩ : ∃ c, c = nums.map fun x => x.fdiv 8 := ⟨_, rfl⟩
    rw [← hcodes] at hIc
    k_steps
    refine Stop.mk ?_
    refine wpAny_with_toks (n := s₁.toks + 1) (by (try dsimp only); walk_at "my lin") ?_
    refine LCg.Assign_ListComp_U (cl := []) F5 rfl (by with_unfolding_all rfl) (by with_unfolding_all rfl) ?z1 rfl ?z2 rfl rfl rfl ?_ (fun _ => rfl)
    case z1 => decide
    case z2 => decide
    k_steps
    refine Stop.mk ?_
    refine LCg.CompSrc.ledger rfl F5 N5 (.tail _ (.head _)) (by rw [sizeLine_eq]; simp; omega) fun g => comp_rest (fun i y => y = Value.bool (decide ((nums.getD i 0).fmod 4 < 2))) ?t1 ?_
    case t1 =>
      intro i v I oI C oC D2 m₂ zs h tk'' E' hi hv hC hx F6 N6 off ne
      obtain ⟨t, rfl⟩ := IntsAre.int_at hIn i v (by simpa using hv)
      clear hv F5 N5
      generalize nums.getD i 0 = x at hx
      simp only [LCg.Off3, and_true] at off
      k_steps
      exact ⟨rfl, rfl⟩
    intro zu hz1 hz2 Du h6 tk6 F6 N6 o6 htk6
    replace htk6 : s₁.toks + 1 ≤ tk6 := htk6
    obtain ⟨ups, hups⟩ : ∃ u, u = nums.map fun x => decide (x.fmod 4 < 2) := ⟨_, rfl⟩
    have hzu : zu = ups.map Value.bool := by
      apply List.ext_getElem?
      intro j
      have hzul : zu.length = nums.length := by simpa [hvn] using hz1
      by_cases hj : j < nums.length
      · have hj' : j < zu.length := by rw [hzul]; exact hj
        have e1 := hz2 j _ (List.getElem?_eq_getElem hj')
        rw [List.getElem?_eq_getElem hj', e1, hups]
        simp only [List.getD, List.map_map, List.getElem?_map, List.getElem?_eq_getElem hj]
        rfl
      · rw [List.getElem?_eq_none (by walk_at "my lin"), List.getElem?_eq_none (by rw [hups]; simp; omega)]
    replace N6 : News s₁.heap s₁.heap.objs.size h6 [(Du, PySem.W.listOf (ups.map Value.bool).toArray zu.length), (Dc, PySem.W.listOf zc.toArray zc.length), (Dn, PySem.W.listOf vn.toArray n2)] := by rw [← hzu]; exact N6
    dsimp only at F6 ⊢
    have hcl : codes.length = nums.length := by rw [hcodes]; simp
    have hul : ups.length = codes.length := by rw [hcl, hups]; simp
    have hc6 : codes.length ≤ 6 := by walk_at "my lin"
    have hcb : ∀ c ∈ codes, 0 ≤ c ∧ c ≤ 4294967296 := fun c hc => by
      rw [hcodes] at hc
      obtain ⟨x, hx, rfl⟩ := List.mem_map.mp hc
      obtain ⟨b1, b2⟩ := hnb x hx
      rw [Int.fdiv_eq_ediv_of_nonneg x (by decide)]
      omega
    clear hz1 hz2 hzu o6 F5 N5 hcodes hups htk5
    k_steps
    rename_i h9 tk9 T9 DL DC vl vc nl nc tp hIl hIv qtk ptk rtk h10 h11 h12 h13 F7 N7
    refine Stop.mk ?_
    obtain ⟨hlaw1, hlaw1b⟩ := law1 hul hc6
    obtain ⟨hlaw2a, hlaw2b, hlaw2c⟩ := law2 hul hc6
    obtain ⟨hll, hlv, hbl, hbv⟩ := lens_bd hul hc6
    have hpo := pieces_ok hul hc6
    have hplen := plain_len hul hc6
    generalize lensTo (codes.zip ups) codes.length = ls at *
    generalize cntsTo (codes.zip ups) codes.length = cs at *
    generalize plainAt (codes.zip ups) codes.length = pl at *
    generalize stackOf (codes.zip ups) = pieces at *
    have hll10 : ls.length ≤ 10 := by rw [hll]; exact leN1 (Nat.succ_le_succ hc6) rfl
    have hlv2 : cs.length = ls.length := hlv.trans hll.symm
    have hll1 : 1 ≤ ls.length := by rw [hll]; exact Nat.succ_le_succ (Nat.zero_le _)
    have nsub : NoSub := trivial
    k_steps
    rename_i t11 h14 tk14 D14 v14 n14 i14 q14 h15 tk15 D15 n15 q15 D16 lc16 h16 k16 e16 x16 y16 z16 l16 h17 tk17 D17 l17 n17 e17 q17 Dr h18 hDr h19 F8 N8
    have N9 : News s₁.heap s₁.heap.objs.size h19 [(Dr, PySem.W.listOf [Value.int 0 tk17].toArray 0), (Du, PySem.W.listOf (ups.map Value.bool).toArray zu.length), (Dc, PySem.W.listOf zc.toArray zc.length), (Dn, PySem.W.listOf vn.toArray n2)] := news_sub N8 (by simp)
    have hDr1 : @LT.lt Nat _ Du Dr := by walk_at "my lin"
    have hDr2 : @LT.lt Nat _ Dc Dr := by walk_at "my lin"
    have hDr3 : @LT.lt Nat _ Dn Dr := by walk_at "my lin"
    have htk17 : s₁.toks + 1 ≤ tk17 := by (try dsimp only at q17 y16 q15 q14); walk_at "my lin"
    clear N8 hDr l16 z16 x16 e16 e17 i14 hIl hIv hbl hbv hlaw1 hlaw1b hpo hplen hlaw2a hlaw2b hlaw2c hll10 hlv2 hll1 ptk rtk q17 y16 q15 q14 qtk hll hlv
    obtain ⟨qs, hqs⟩ : ∃ q, q = nums.map fun x => decide ((x.fdiv 4).fmod 2 = 0) := ⟨_, rfl⟩
    have hql : qs.length = codes.length := by rw [hcl, hqs]; simp
    refine Stop.mk ?_
    refine for_restT ?_ (fun _ => rfl)
    k_steps
    refine iterT_list (L := s₁.heap.objs.size) (σ := List Value × Nat) (fun _ => lFrm Dr DC DL Du Dc Dn D (Value.str pl tp)) (fun a => [(Dr, PySem.W.listOf a.1.toArray a.2), (Du, PySem.W.listOf (ups.map Value.bool).toArray zu.length), (Dc, PySem.W.listOf zc.toArray zc.length), (Dn, PySem.W.listOf vn.toArray n2)])
      (fun B i a => IntsAre a.1 (rowK qs i)) ([Value.int 0 tk17], 0) rfl rfl rfl rfl (fun tk tk' i a hk h => h) (vs := vn)
      (News.isList N9 (.tail _ (.tail _ (.tail _ (.head _))))) (Ne.symm (N9 _ (.tail _ (.tail _ (.tail _ (.head _))))).2.1) (.inr ⟨_, fun _ _ _ _ => .tail _ (.tail _ (.tail _ (.head _)))⟩) F8 N9 (.cons _ _ .nil) (fun _ _ => rfl) rfl ?_ ?_
    · rintro i v ⟨items, n⟩ I io h tk htk hv hinv hne F₁ N₁
      dsimp only [lFrm] at htk hinv F₁ N₁
      simp only [AllNe, and_true] at hne
      have hil : i < nums.length := by rw [← hvn]; exact (List.getElem?_eq_some_iff.mp hv).1
      obtain ⟨tc, rfl⟩ := IntsAre.int_at hIn i v hv
      have hqi : qs.getD i false = decide (((nums.getD i 0).fdiv 4).fmod 2 = 0) := by
        rw [hqs]; simp only [List.getD, List.getElem?_map, List.getElem?_eq_getElem hil]; rfl
      generalize nums.getD i 0 = x at hqi F₁
      have hrl := rowK_len qs i
      have hrk : rowK qs (i + 1) = rowK qs i ++ [(rowK qs i).getD i 0 + (if (rowK qs i).getD i 0 = 0 ∨ qs.getD i false = true then 1 else -1)] := rfl
      have hil6 : i ≤ 6 := by walk_at "my lin"
      have hil2 : i ≤ 1000 := leN1 hil6 rfl
      have hit : items.length ≤ 100 := by rw [IntsAre.length hinv, hrl]; exact leN1 (Nat.succ_le_succ hil6) rfl
      rw [hqi] at hrk
      generalize rowK qs i = rk at hinv hrl hrk
      have ns3 : NoStop3 := trivial
      clear F8 N9 hv hqi
      k_steps
      all_goals (rename Fr _ _ _ _ => Fz; rename News _ _ _ _ => Nz; simp only [List.push_toArray] at Nz)
      all_goals (refine turnTN (items ++ [Value.int _ _], n + 1) Fz Nz ?_ (fun z hz => if_neg hz) ⟨hne.1, hne.2.1, hne.2.2.1, hne.2.2.2, trivial⟩)
      all_goals (dsimp only; rw [hrk])
      all_goals (first
        | rw [if_pos (Or.inl (by assumption))]
        | rw [if_pos (Or.inr (decide_eq_true (by assumption)))]
        | rw [if_neg (fun q => q.elim (by assumption) (fun q => absurd (of_decide_eq_true q) (by assumption)))])
      all_goals exact IntsAre.append hinv (.cons _ _ .nil)
    · rintro ⟨items, n⟩ u h20 tk20 htk20 hinv F10 N10
      dsimp only [lFrm] at htk20 hinv F10 N10
      have hqc : vn.length = qs.length := hvn.trans (hcl.symm.trans hql.symm)
      obtain ⟨g1, g2, g3⟩ := good3_of (qs := qs) (by rw [hql]; exact hc6)
      have hrl := rowK_len qs qs.length
      rw [hqc, g1] at hinv
      rw [g1, hql] at hrl
      rw [hql] at g2
      have hlaw3 := fun (m : Nat) (hm : (m : Int) ≤ (rowB qs).getD codes.length 0) => law3 (codes := codes) hql hc6 hm
      generalize rowB qs = row at hinv g2 g3 hrl hlaw3
      clear F8 N9 g1
      dsimp only
      k_steps
      refine Stop.mk ?_
      refine for_restT ?_ (fun _ => rfl)
      refine wpAny_with_toks (n := s₁.toks + 1) (by (try dsimp only); walk_at "my lin") ?_
      k_steps
      rename_i t30 h21 tk21 r1 r2 r3 hr F11 N11 st11 htk21
      replace htk21 : s₁.toks + 1 ≤ tk21 := htk21
      have hlt : codes.length < row.length := Nat.lt_of_lt_of_eq (Nat.lt_succ_self _) hrl.symm
      have hmem : row.getD codes.length 0 ∈ row := by simp only [List.getD]; rw [List.getElem?_eq_getElem hlt]; exact List.getElem_mem _
      have hrb := g3 _ hmem
      have hrow10 : row.length ≤ 10 := by rw [hrl]; exact leN1 (Nat.succ_le_succ hc6) rfl
      have hrow1 : 1 ≤ row.length := by rw [hrl]; exact Nat.succ_le_succ (Nat.zero_le _)
      refine iterT_range (L := s₁.heap.objs.size) (n := (row.getD codes.length 0 + 1).toNat) (σ := Option Value × Option Value × Option Value × Option Value) (mFrm u Dr Du Dc Dn D)
        (fun _ => [(Dr, PySem.W.listOf items.toArray n), (Du, PySem.W.listOf (ups.map Value.bool).toArray zu.length), (Dc, PySem.W.listOf zc.toArray zc.length), (Dn, PySem.W.listOf vn.toArray n2)])
        (fun B i a => True) (none, some (Value.str pl tp), some (Value.ref DC), some (Value.ref DL)) rfl rfl rfl rfl (fun tk tk' i a hk h => h) hr (toN hrb).1 (toN hrb).2 F11 N11 trivial ?_ rfl ?_ ?_
      · intro z hz
        dsimp only [mFrm]
        by_cases z1 : z = Str.ofString "due"
        · subst z1; rfl
        by_cases z2 : z = Str.ofString "plain"
        · subst z2; rfl
        by_cases z3 : z = Str.ofString "counts"
        · subst z3; rfl
        by_cases z4 : z = Str.ofString "lengths"
        · subst z4; rfl
        simp only [if_neg z1, if_neg z2, if_neg z3, if_neg z4]
      · rintro i tv I io h tk htk hin a - hne hIle F₁ N₁
        dsimp only [mFrm] at htk F₁ N₁ hIle
        simp only [AllNe, and_true] at hne
        obtain ⟨q1, q2, q3⟩ := hlaw3 i (toNlt hin)
        obtain ⟨b1, b2, b3, b4⟩ := lens_bd q1 hc6
        rw [q3] at b4 b2
        have b5 : (leastL row (i : Int)).length = row.length := b2.trans hrl.symm
        clear b1 b3 F11 N11 hr st11 hlaw3
        k_steps
        rename_i Dd vd nd id9 qd hx hy tkb Db nb qb hc9 tkc Tc Dl2 Dc2 vl2 vc2 nl2 nc2 tp2 il2 ic2 qc pc rc h30 h31 h32 h33 Fz Nz
        have Nz2 : News s₁.heap s₁.heap.objs.size h33 [(I, io), (Dr, PySem.W.listOf items.toArray n), (Du, PySem.W.listOf (ups.map Value.bool).toArray zu.length), (Dc, PySem.W.listOf zc.toArray zc.length), (Dn, PySem.W.listOf vn.toArray n2)] :=
          fun p hp => Nz p (.tail _ (.tail _ (.tail _ (.tail _ (.tail _ hp)))))
        refine turnTN (some (Value.ref Dd), some (Value.str (plainAt (codes.zip (backL row (leastL row (i : Int)))) codes.length) tp2), some (Value.ref Dc2), some (Value.ref Dl2)) Fz Nz2 trivial ?_ ⟨hne.1, hne.2.1, hne.2.2.1, hne.2.2.2, trivial⟩
        intro z hz
        dsimp only [mFrm]
        by_cases z1 : z = Str.ofString "due"
        · subst z1; rfl
        by_cases z2 : z = Str.ofString "plain"
        · subst z2; rfl
        by_cases z3 : z = Str.ofString "counts"
        · subst z3; rfl
        by_cases z4 : z = Str.ofString "lengths"
        · subst z4; rfl
        simp only [if_neg z1, if_neg z2, if_neg z3, if_neg z4, if_neg hz]
      · intro a u2 h tk htk _ F12 N12
        clear F11 N11 hr st11 hlaw3
        dsimp only [mFrm] at F12 N12
        dsimp only
        k_steps)

end Mine
theorem PySem.Challenge.cw_pd0130_01_holds : PySem.Challenge.rw_pd0130_01.Holds :=
  Mine.law_holds
