import PyProof.Rows.All
import Wide.All
import OpenK.AllK
import Wide.FinOn
import PySem.Challenge.RW_xj0024_01
set_option Elab.async false
set_option compiler.extract_closed false
namespace Mine
open PySem PySem.W PyProof.Rows PySem.Calls PySem.Spec
/- part Head -/
section
open PySem PySem.W PyProof.Rows
set_option maxRecDepth 100000
set_option maxHeartbeats 8000000
section
local macro_rules | `(tactic| o_head $_) => `(tactic| skip)
/-- the written part alone: k_head makes its constant; the head itself is proved in lawT -/
theorem pre (h : PySem.Challenge.rw_xj0024_01.row.Holds) : PySem.Challenge.rw_xj0024_01.row.Holds := by
  k_head
  exact h
end
end
/- part Base -/
section
open PySem PySem.W PyProof.Rows PySem.Calls PySem.Spec
set_option maxRecDepth 100000
set_option maxHeartbeats 8000000
theorem rmz {d a R : Nat} (h : d + a < R) : d < R := Nat.lt_of_le_of_lt (Nat.le_add_right _ _) h
theorem rm0 {d a b R : Nat} (h : d + a < R) (e : b ≤ a) : d + b < R := Nat.lt_of_le_of_lt (Nat.add_le_add_left e _) h
theorem rmA {d a b c R : Nat} (h : d + a < R) (e : c + b ≤ a) : d + c + b < R := Nat.add_assoc d c b ▸ rm0 h e
theorem rmB {d a b c f R : Nat} (h : d + a < R) (e : c + (f + b) ≤ a) : d + c + f + b < R := (by rw [Nat.add_assoc d c f, Nat.add_assoc d, Nat.add_assoc c]; exact rm0 h e)
theorem o12 {x : Nat} : x + 1 ≠ x + 1 + 1 := Nat.ne_of_lt (Nat.lt_succ_self _)
theorem o13 {x : Nat} : x + 1 ≠ x + 1 + 1 + 1 := by omega
theorem lt1 {c L : Nat} (h : c < L) : c ≠ L + 1 := by omega
theorem lt2 {c L : Nat} (h : c < L) : c ≠ L + 1 + 1 := by omega
theorem lt3 {c L : Nat} (h : c < L) : c ≠ L + 1 + 1 + 1 := by omega
theorem absLe {n a b : Int} {B : Nat} (h : a ≤ n ∧ n ≤ b) (e : -(B : Int) < a ∧ b < B) : n.natAbs < B := by omega
theorem absLt {n a b : Int} {B : Nat} (h : a ≤ n ∧ n < b) (e : -(B : Int) < a ∧ b ≤ B) : n.natAbs < B := by omega
/-- what stands in h at an address that is not of l stands in h' -/
def Keep (l : List Addr) (h h' : Heap) : Prop := ∀ b o, h.get? b = some o → b ∉ l → h'.get? b = some o
section
variable {prog : Program} {w : World} {A₀ A : Around} {s : Shared} {base h₀ : Heap} {outer : List Env} {L : Addr} {m mg mb : Str → Option Value} {env : Env} {news : List (Addr × Obj)} {K : Frag}
  {p : Program} {loose : List Str} {mean : ExcName → Option Value}
  {R : Result → Shared → Prop} {name qual : Str} {params : Arguments} {body : List Stmt} {scope : Scope} {dV kV doc pm cdv ct oc : Value} {an od : Option Addr} {osl : Array (Option Value)} {f : Addr} {args : Args} {binds : List (Str × Value)}

theorem leaveF {g : Heap} {v : Value} {s' : Shared} {l : List Addr} (hg : ∀ b o, s.heap.get? b = some o → b ∉ l → g.get? b = some o)
    (h : LeaveK h₀ L m g (fun r s'' => Keep l s.heap s''.heap → R r s'') v s') : LeaveK h₀ L m g R v s' := by
  obtain ⟨L', m', news', F', N', k⟩ := h
  exact ⟨L', m', news', F', N', fun a b => k a b fun c o e hc => F'.keep _ _ (hg c o e hc)⟩

theorem code_defF {outer : List Env} (B : Below A₀ base outer h₀) (F : Fr h₀ L s.heap m) (X₀ : K.In h₀) (N : News h₀ L s.heap news) (T : Top p loose mean mg mb h₀) (hA : A.frames = some (env :: outer)) (hf : env.frame = some L) (hke : env.scope.kind = .function)
    (ho : K.lookup f = some ⟨oc, od, .func (fnOf name qual params body scope dV kV doc pm an cdv ct), osl⟩) (hcd : codeIn K cdv qual = true) (hroom : A.depth < recursionLimit)
    (hbind : BindsTo s (fnOf name qual params body scope dV kV doc pm an cdv ct) args binds) (hloc : ∀ y ∈ binds, scope.names.lookup y.1 = some .local)
    (h : ∀ g L' h₁, Fr h₀ L g m → Fr g L' h₁ (fun y => binds.reverse.lookup y) → News g L' h₁ news → Below A base (env :: outer) g → K.In g → Top p loose mean mg mb g → Keep (news.map (·.1)) s.heap g →
      wpAny (model prog w) (A.deeper (envOf qual scope L' f cdv)) (execs body (envOf qual scope L' f cdv))
        (fun fl s' => LeaveK h₀ L m g (fun r s'' => Keep (news.map (·.1)) s.heap s''.heap → R r s'') (match fl with | .ret v => v | _ => .none) s')
        (fun e s' => wpAny (model prog w) (A.deeper (envOf qual scope L' f cdv)) (leaving (envOf qual scope L' f cdv) e) (fun _ s'' => R (.error e) s'') (fun e' s'' => R (.error e') s'') s')
        { s with heap := h₁, toks := s.toks + binds.length })
    (hco : scope.isCoroutine = false) (hgen : scope.isGenerator = false) (hk : scope.kind = .function)
    (hcell : ∀ x ∈ scope.names, x.2 ≠ .cell) : codeAny (model prog w) A (.call (.ref f) args) R s := by
  obtain ⟨FG, BG, st, lv⟩ := groundX (R := R) B F N hA hf hke
  refine codeAny_call_def (fd := fnOf name qual params body scope dV kV doc pm an cdv ct) (body := body) (binds := binds) hroom ((X₀.keeps F.keep) _ _ ho) rfl (T.nolimit.keeps F.keep) (codeRec_of (X₀.keeps F.keep) hcd) rfl hbind hcell hloc (fun h₁ hns hk₁ => ?_) hco hgen hk
  refine wpAny_mono (h _ s.heap.objs.size h₁ FG ⟨hns, fun b o e => hk₁ b o (of_hideAll _ e), Nat.le_of_eq (hideAll_size _ _)⟩
    (fun p hp => ⟨hk₁ _ _ (N p hp).1, Nat.ne_of_lt (Heap.lt_size (N p hp).1), hideAll_none _ (List.mem_map_of_mem hp)⟩) BG (X₀.keeps st) (T.keeps st) (fun b o e hb => hideAll_get _ e hb)) (fun fl s' hl => ?_) fun _ _ y => y
  exact lv _ _ (leaveF (l := news.map (·.1)) (fun b o e hb => hideAll_get _ e hb) hl)

theorem code_defCF {outer : List Env} (B : Below A₀ base outer h₀) (F : Fr h₀ L s.heap m) (X₀ : K.In h₀) (N : News h₀ L s.heap news) (T : Top p loose mean mg mb h₀) (hA : A.frames = some (env :: outer)) (hf : env.frame = some L) (hke : env.scope.kind = .function)
    (ho : K.lookup f = some ⟨oc, od, .func (fnOf name qual params body scope dV kV doc pm an cdv ct), osl⟩) (hcd : codeIn K cdv qual = true) (hroom : A.depth < recursionLimit)
    (hbind : BindsTo s (fnOf name qual params body scope dV kV doc pm an cdv ct) args binds) (hkind : (binds.all fun y => scope.names.lookup y.1 == some .local || scope.names.lookup y.1 == some .cell) = true)
    (hnd : ((cellsFrom 0 scope.names []).map (·.1)).Nodup)
    (h : ∀ g L' h₁ tk cells, Keep (news.map (·.1)) s.heap g → Fr h₀ L g m → Fr g L' h₁ (bindL (envOfC qual scope L' f cdv).kindOf binds fun _ => none) → News g L' h₁ (cells ++ news) →
      CellsAre (bindC (envOfC qual scope L' f cdv).kindOf binds fun _ => none) (cellsFrom (L' + 1) scope.names []) cells → Below A base (env :: outer) g → K.In g → Top p loose mean mg mb g → (∀ p ∈ news, p.1 < L') →
      wpAny (model prog w) (A.deeper (envOfC qual scope L' f cdv)) (execs body (envOfC qual scope L' f cdv))
        (fun fl s' => LeaveK h₀ L m g (fun r s'' => Keep (news.map (·.1)) s.heap s''.heap → R r s'') (match fl with | .ret v => v | _ => .none) s')
        (fun e s' => wpAny (model prog w) (A.deeper (envOfC qual scope L' f cdv)) (leaving (envOfC qual scope L' f cdv) e) (fun _ s'' => R (.error e) s'') (fun e' s'' => R (.error e') s'') s')
        { s with heap := h₁, toks := tk })
    (hco : scope.isCoroutine = false) (hgen : scope.isGenerator = false) (hk : scope.kind = .function) : codeAny (model prog w) A (.call (.ref f) args) R s := by
  obtain ⟨FG, BG, st, lv⟩ := groundX (R := R) B F N hA hf hke
  refine codeAny_call_function hroom ((X₀.keeps F.keep) _ _ ho) rfl hco hgen rfl (codeRec_of (X₀.keeps F.keep) hcd) (hbind _ _ _ _ ?_)
  refine wpAny_newFunctionEnv_cells hk (kindsX hkind _) fun env' he s' x => ?_
  subst he
  refine ⟨(T.nolimit.keeps F.keep).keeps x.toInCall.keep, codeAny_func ?_⟩
  obtain ⟨h₁, tk, rfl, _⟩ := x.done
  have hk₁ := x.toInCall.keep
  obtain ⟨cells, NC, Y⟩ := Cl.news (h₀ := s.heap) (Nat.le_refl _) fun n c hm => ⟨x.cell n c (lookup_of_mem_nodup (cellsFrom_names scope.names 0 (s.heap.objs.size + 1) [] [] rfl ▸ hnd) hm), x.above n c hm⟩
  refine wpAny_mono (h _ s.heap.objs.size h₁ tk cells (fun b o e hb => hideAll_get _ e hb) FG ⟨x.toInCall.ns, fun b o e => hk₁ b o (of_hideAll _ e), Nat.le_of_eq (hideAll_size _ _)⟩ (fun p hp => ?_) Y BG (X₀.keeps st) (T.keeps st) (fun p hp => Heap.lt_size (N p hp).1)) (fun fl s' hl => ?_) fun _ _ y => y
  · rcases List.mem_append.mp hp with hp | hp
    · refine ⟨(NC p hp).1, (NC p hp).2.1, ?_⟩
      cases q : (hideAll s.heap (news.map (·.1))).get? p.1 with
      | none => rfl
      | some o => have := of_hideAll _ q; rw [(NC p hp).2.2] at this; cases this
    · exact ⟨hk₁ _ _ (N p hp).1, Nat.ne_of_lt (Heap.lt_size (N p hp).1), hideAll_none _ (List.mem_map_of_mem hp)⟩
  · exact lv _ _ (leaveF (l := news.map (·.1)) (fun b o e hb => hideAll_get _ e hb) hl)
end

theorem Keep.refl (l : List Addr) (h : Heap) : Keep l h h := fun _ _ e _ => e
theorem new_of {g h h' : Heap} {L' : Addr} {l : List Addr} {led' : List (Addr × Obj)} (hg : Keep l h g) (N : News g L' h' led') : ∀ p ∈ led', h.get? p.1 = none ∨ p.1 ∈ l := fun p hp => by
  cases q : h.get? p.1 with
  | none => exact .inl rfl
  | some o =>
    by_cases hl : p.1 ∈ l
    · exact .inr hl
    · have := hg _ _ q hl
      rw [(N p hp).2.2] at this; cases this
/-- a contract: the call of the def at f on vs, upon the ledger led, gives back what Post says; what is not of led stands -/
def CtrF (w : World) (f : Addr) (d u : Nat) (vs : List Value) (led : List (Addr × Obj)) (Pre : Heap → Prop) (Post : List (Addr × Obj) → Value → Prop) : Prop :=
  ∀ (p : Program) (loose : List Str) (mean : ExcName → Option Value) (mg mb : Str → Option Value) (dp un : Nat) (gd : Option (List Code)) (cn : Str) (cs : Scope) (a : Addr) (ccd : Value) (cl : List (Str × Addr)) (outer : List Env) (A₀ : Around) (base h₀ : Heap) (L : Addr) (m : Str → Option Value) (s : Shared)
    (Q E : Value → Shared → Prop),
    Below A₀ base outer h₀ → Fr h₀ L s.heap m → (Mine.pre.heap_1 w.params).In h₀ → News h₀ L s.heap led → Top p loose mean mg mb h₀ → cs.kind = .function → Pre s.heap → dp + d < recursionLimit → un + u < cLine →
    (∀ r led' h' tk', Fr h₀ L h' m → News h₀ L h' led' → (∀ p ∈ led', s.heap.get? p.1 = none ∨ p.1 ∈ led.map (·.1)) → Keep (led.map (·.1)) s.heap h' → Post led' r → Q r { s with heap := h', toks := tk' }) →
    wpAny (model PySem.Challenge.rw_xj0024_01.row.prog w) (ktrTop dp un gd cn cs L a ccd cl outer) (call (.ref f) vs) Q E s

theorem news_rest {h₀ h h' : Heap} {L : Addr} {l : List Addr} {led' rest : List (Addr × Obj)} (N : News h₀ L h rest) (hr : ∀ p ∈ rest, p.1 ∉ l) (hk : Keep l h h') (N' : News h₀ L h' led') : News h₀ L h' (led' ++ rest) := fun p hp => by
  rcases List.mem_append.mp hp with hp | hp
  · exact N' p hp
  · exact ⟨hk _ _ (N p hp).1 (hr p hp), (N p hp).2⟩
theorem ne_rest {h₀ h : Heap} {L : Addr} {l : List Addr} {led' rest : List (Addr × Obj)} (N : News h₀ L h rest) (hr : ∀ p ∈ rest, p.1 ∉ l) (hn : ∀ p ∈ led', h.get? p.1 = none ∨ p.1 ∈ l) : ∀ p ∈ led', ∀ q ∈ rest, p.1 ≠ q.1 := fun p hp q hq e => by
  rcases hn p hp with h1 | h1
  · rw [e, (N q hq).1] at h1; cases h1
  · exact hr q hq (e ▸ h1)
theorem ctr_use {w : World} {f : Addr} {d u : Nat} {vs : List Value} {Pre : Heap → Prop} {Post : List (Addr × Obj) → Value → Prop} (C : CtrF w f d u vs [] Pre Post)
    {p : Program} {loose : List Str} {mean : ExcName → Option Value} {mg mb : Str → Option Value} {dp un : Nat} {gd : Option (List Code)} {cn : Str} {cs : Scope} {a : Addr} {ccd : Value} {cl : List (Str × Addr)} {outer : List Env} {A₀ : Around} {base h₀ : Heap} {L : Addr} {m : Str → Option Value} {s : Shared}
    {Q E : Value → Shared → Prop} {news : List (Addr × Obj)} (B : Below A₀ base outer h₀) (F : Fr h₀ L s.heap m) (X : (Mine.pre.heap_1 w.params).In h₀) (N : News h₀ L s.heap news) (T : Top p loose mean mg mb h₀) (hk : cs.kind = .function) (hp : Pre s.heap) (hd' : dp + d < recursionLimit) (hu : un + u < cLine)
    (ret : ∀ r led' h' tk', Fr h₀ L h' m → News h₀ L h' (led' ++ news) → (∀ p ∈ led', ∀ q ∈ news, p.1 ≠ q.1) → Post led' r → Q r { s with heap := h', toks := tk' }) :
    wpAny (model PySem.Challenge.rw_xj0024_01.row.prog w) (ktrTop dp un gd cn cs L a ccd cl outer) (call (.ref f) vs) Q E s :=
  C _ _ _ _ _ _ _ _ _ _ _ _ _ _ _ _ _ _ _ _ _ _ B F X News.nil T hk hp hd' hu fun r led' h' tk' F' N' hn hk' hP => ret r led' h' tk' F' (news_rest N (fun _ _ => List.not_mem_nil) hk' N') (ne_rest N (fun _ _ => List.not_mem_nil) hn) hP
end
/- part Q1 -/
section
open PySem PySem.W PyProof.Rows PySem.Calls PySem.Spec
set_option maxRecDepth 100000
set_option maxHeartbeats 8000000
/-- the text of these signs -/
def tx (l : List Nat) : Str := ⟨l.toArray⟩
theorem tx_len (l : List Nat) : (tx l).length = l.length := by simp [tx, Str.length]
theorem tx_app (a b : List Nat) : tx a ++ tx b = tx (a ++ b) := by
  apply Str.ext'
  simp [tx, Str.cps_append]
theorem tx_cps (x : Str) : tx x.cps.toList = x := by cases x; simp [tx]
theorem tx_inj {a b : List Nat} : tx a = tx b ↔ a = b := by
  constructor
  · intro h
    have := congrArg (fun s : Str => s.cps.toList) h
    simpa [tx] using this
  · rintro rfl; rfl
theorem tx_list (l : List Nat) : (tx l).cps.toList = l := by simp [tx]
theorem q_mark : Str.ofString "\"" = tx [34] := by decide +kernel
theorem q_257 : Str.ofString "257" = tx [50, 53, 55] := by decide +kernel
theorem q_bq : Str.ofString " \"" = tx [32, 34] := by decide +kernel
theorem q_nil : Str.ofString "" = tx [] := by decide +kernel
theorem tx_item (l : List Nat) (i : Int) (h0 : 0 ≤ i) (h1 : i < l.length) : Txt.item (tx l) i = tx [l.getD i.toNat 0] := by
  rw [PyProof.Rows.item_at (n := i.toNat) h0 (by rw [tx_len]; exact h1) rfl]
  simp [tx]
theorem tx_item_get (l : List Nat) (i : Nat) (h1 : i < l.length) : Txt.item (tx l) (i : Int) = tx [l[i]] := by
  rw [tx_item l i (by omega) (by omega)]
  simp [List.getD_eq_getElem?_getD, h1]
/-- what a reply's reader tells of the signs behind its opening mark -/
def told : List Nat → List Nat
  | [] => []
  | 34 :: 34 :: r => 34 :: told r
  | 34 :: _ => []
  | c :: r => c :: told r
theorem told_nil : told [] = [] := by simp [told]
theorem told_one : told [34] = [] := by simp [told]
theorem told_two (r : List Nat) : told (34 :: 34 :: r) = 34 :: told r := by simp [told]
theorem told_stop (c : Nat) (r : List Nat) (h : c ≠ 34) : told (34 :: c :: r) = [] := by
  unfold told; split <;> simp_all
theorem told_cons (c : Nat) (r : List Nat) (h : c ≠ 34) : told (c :: r) = c :: told r := by
  conv => lhs; unfold told
  split <;> simp_all
theorem slice3 (l : List Nat) (j : Int) (h0 : 0 ≤ j) (h2 : j ≤ l.length) : Txt.slice (tx l) none (some j) = tx (l.take j.toNat) := by
  have h := PyProof.Rows.slice_closes_toL (x := tx l) (j := j) h0 (by rw [tx_len]; exact h2)
  have := beq_iff_eq.mp h
  rw [this]; simp [tx]
theorem slice35 (l : List Nat) (i j : Int) (h0 : 0 ≤ i) (h1 : i ≤ j) (h2 : j ≤ l.length) : Txt.slice (tx l) (some i) (some j) = tx ((l.drop i.toNat).take (j - i).toNat) := by
  have h := PyProof.Rows.slice_closesL (x := tx l) (i := i) (j := j) h0 h1 (by rw [tx_len]; exact h2)
  have := beq_iff_eq.mp h
  rw [this]; simp [tx]
end
/- part T1 -/
section
open PySem PySem.W PyProof.Rows PySem.Calls PySem.Spec PySem.StrLaws
set_option maxRecDepth 100000
set_option maxHeartbeats 8000000
/-- every c is r -/
def rep (c : Nat) (r : List Nat) (l : List Nat) : List Nat := l.flatMap fun k => if k = c then r else [k]
theorem rep_append (c : Nat) (r a b : List Nat) : rep c r (a ++ b) = rep c r a ++ rep c r b := by simp [rep, List.flatMap_append]
theorem rep_free (c : Nat) (r : List Nat) : ∀ l : List Nat, c ∉ l → rep c r l = l
  | [], _ => rfl
  | k :: t, h => by
    have h1 : ¬ k = c := fun e => h (e ▸ List.mem_cons_self ..)
    have h2 : c ∉ t := fun m => h (List.mem_cons_of_mem _ m)
    have ih := rep_free c r t h2
    simp only [rep] at ih
    simp only [rep, List.flatMap_cons, if_neg h1, ih]
    rfl
theorem rep_one (c : Nat) (r : List Nat) : rep c r [c] = r := by simp [rep]
theorem rep_join (c : Nat) (r : List Nat) : ∀ parts : List Str, (∀ p ∈ parts, c ∉ p.cps.toList) → rep c r (Str.join ⟨#[c]⟩ parts).cps.toList = (Str.join (tx r) parts).cps.toList
  | [], _ => rfl
  | [p], h => rep_free c r _ (h p (List.mem_singleton.mpr rfl))
  | p :: q :: t, h => by
    have ih := rep_join c r (q :: t) fun a ha => h a (List.mem_cons_of_mem _ ha)
    show rep c r (p ++ ⟨#[c]⟩ ++ Str.join ⟨#[c]⟩ (q :: t)).cps.toList = (p ++ tx r ++ Str.join (tx r) (q :: t)).cps.toList
    simp only [Str.cps_append, Array.toList_append]
    rw [rep_append, rep_append, ih, rep_free c r _ (h p (List.mem_cons_self ..))]
    show p.cps.toList ++ rep c r [c] ++ _ = _
    rw [rep_one]
    simp [tx]
theorem replace_tx (l : List Nat) (c : Nat) (r : List Nat) : Txt.replace (tx l) (tx [c]) (tx r) = tx (rep c r l) := by
  have e : tx [c] = ⟨#[c]⟩ := rfl
  rw [e, StrLaws.replace_one, ← tx_cps (Str.join _ _), ← rep_join c r _ (split_free (tx l) c), join_split, tx_list]
theorem occ_none_tx (l : List Nat) (c : Nat) (h : (Builtin.Str.occurrences (tx l) (tx [c]) 0 (tx l).length 1).isEmpty = true) : c ∉ l := by
  have := StrLaws.found_one (tx l) c
  have e : (⟨#[c]⟩ : Str) = tx [c] := rfl
  rw [e, h, tx_list] at this
  simpa using this
section
variable {M : Model} {A : Around} {E : Value → Shared → Prop} {env : Env}
/-- a statement, the count of tokens known to be no nought -/
theorem execs_cons_T {st : Stmt} {rest : List Stmt} {Q : Flow → Shared → Prop} {hp : Heap} {gens : Array GenState} {drawn : Drawn} {X : Nat} {os : OsState} (hX : 1 ≤ X)
    (h : ∀ tk, 1 ≤ tk → wpAny M A (exec st env) (fun f s' => 1 ≤ s'.toks → match f with | .next => wpAny M A (execs rest env) Q E s' | f => Q f s') E ⟨hp, gens, drawn, tk, os⟩) :
    wpAny M A (execs (st :: rest) env) Q E ⟨hp, gens, drawn, X, os⟩ := by
  refine wpAny_execs_cons (wpAny_with_toks (n := 1) hX ?_)
  exact wpAny_mono (h X hX) (fun _ _ x => x) (fun _ _ x _ => x)
end
end
/- part T2 -/
section
open PySem PySem.W PyProof.Rows PySem.Calls PySem.Spec PySem.StrLaws
set_option maxRecDepth 100000
set_option maxHeartbeats 8000000
abbrev Tab := List (Nat × List Nat)
/-- what a table writes of one sign -/
def escT (T : Tab) (k : Nat) : List Nat := match T.lookup k with | some r => r | none => [k]
def escL (T : Tab) (l : List Nat) : List Nat := l.flatMap (escT T)
def tabOk (T : Tab) (c : Nat) : Bool := T.all fun p => p.1 != c && !p.2.contains c
theorem escL_nil (l : List Nat) : escL [] l = l := by
  induction l with
  | nil => rfl
  | cons k r ih => rw [escL] at ih ⊢; rw [List.flatMap_cons, ih]; rfl
theorem lookup_mem {T : Tab} {k : Nat} {r : List Nat} (h : T.lookup k = some r) : (k, r) ∈ T := by
  induction T with
  | nil => cases h
  | cons p t ih =>
    obtain ⟨a, b⟩ := p
    rw [List.lookup_cons] at h
    cases e : k == a with
    | true => rw [e] at h; cases h; rw [eq_of_beq e]; exact .head _
    | false => rw [e] at h; exact .tail _ (ih h)
theorem escT_snoc {T : Tab} {c : Nat} {r : List Nat} (h : tabOk T c = true) (k : Nat) : rep c r (escT T k) = escT (T ++ [(c, r)]) k := by
  have hall := List.all_eq_true.mp h
  unfold escT
  rw [List.lookup_append]
  cases e : T.lookup k with
  | some q =>
    have := hall _ (lookup_mem e)
    simp only [Bool.and_eq_true, Bool.not_eq_true', bne_iff_ne, ne_eq] at this
    refine rep_free c r q fun hm => ?_
    have h2 := this.2
    rw [List.contains_eq_mem] at h2
    simp [hm] at h2
  | none =>
    simp only [Option.none_or, List.lookup_cons, List.lookup_nil]
    cases e2 : k == c with
    | true => rw [eq_of_beq e2]; exact rep_one c r
    | false =>
      have : k ≠ c := by simpa using e2
      simp [rep, this]
theorem escL_snoc {T : Tab} {c : Nat} {r : List Nat} (h : tabOk T c = true) (l : List Nat) : rep c r (escL T l) = escL (T ++ [(c, r)]) l := by
  induction l with
  | nil => rfl
  | cons k t ih =>
    simp only [escL, List.flatMap_cons] at ih ⊢
    rw [rep_append, ih, escT_snoc h]
theorem escL_len {T : Tab} (h : (T.all fun p => decide (p.2.length ≤ 6)) = true) (l : List Nat) : (escL T l).length ≤ 6 * l.length := by
  induction l with
  | nil => simp [escL]
  | cons k t ih =>
    have hk : (escT T k).length ≤ 6 := by
      unfold escT
      cases e : T.lookup k with
      | some q => have := List.all_eq_true.mp h _ (lookup_mem e); simpa using this
      | none => simp
    simp only [escL, List.flatMap_cons, List.length_append, List.length_cons] at ih ⊢
    omega
theorem escL_append (T : Tab) (a b : List Nat) : escL T (a ++ b) = escL T a ++ escL T b := by simp [escL]
def tab0 : Tab := [(38, [38, 97, 109, 112, 59]), (60, [38, 108, 116, 59]), (62, [38, 103, 116, 59]), (34, [38, 113, 117, 111, 116, 59]), (13, [38, 35, 49, 51, 59]), (10, [38, 35, 49, 48, 59]), (9, [38, 35, 48, 57, 59])]
def tab1 : Tab := [(38, [38, 97, 109, 112, 59]), (62, [38, 103, 116, 59]), (34, [38, 113, 117, 111, 116, 59])]
def tab2 : Tab := [(38, [38, 97, 109, 112, 59]), (60, [38, 108, 116, 59]), (34, [38, 113, 117, 111, 116, 59]), (9, [38, 35, 120, 57, 59]), (10, [38, 35, 120, 65, 59]), (13, [38, 35, 120, 68, 59])]
def tabs (h : Int) : Tab := if h = 0 then tab0 else if h = 1 then tab1 else tab2
theorem step_replace {T : Tab} {c : Nat} {r l : List Nat} (h : tabOk T c = true) {y z : Str} (hy : y = tx [c]) (hz : z = tx r) : Txt.replace (tx (escL T l)) y z = tx (escL (T ++ [(c, r)]) l) := by
  rw [hy, hz, replace_tx, escL_snoc h]
theorem step_none {T : Tab} {c : Nat} {r l : List Nat} (h : tabOk T c = true) {y : Str} (hy : y = tx [c]) (ho : (Builtin.Str.occurrences (tx (escL T l)) y 0 (tx (escL T l)).length 1).isEmpty = true) : tx (escL T l) = tx (escL (T ++ [(c, r)]) l) := by
  rw [hy] at ho
  rw [← escL_snoc h, rep_free c r _ (occ_none_tx _ _ ho)]
section
variable {M : Model} {A : Around} {E : Value → Shared → Prop} {env : Env} {g : Heap} {L : Addr} {m : Str → Option Value}
def EscPost (g : Heap) (L : Addr) (m : Str → Option Value) (v : Str) (gens : Array GenState) (drawn : Drawn) (os : OsState) (f : Flow) (s' : Shared) : Prop :=
  f = .next ∧ ∃ t h' tk, s' = ⟨h', gens, drawn, tk, os⟩ ∧ Fr g L h' (fun y => if y = Str.ofString "text" then some (.str v t) else m y)
theorem esc_cut {st : Stmt} {Q : Flow → Shared → Prop} {hp : Heap} {gens : Array GenState} {drawn : Drawn} {tk0 : Nat} {os : OsState} (F₀ : Fr g L hp m) (v : Str)
    (h : wpAny M A (exec st env) (EscPost g L m v gens drawn os) E ⟨hp, gens, drawn, tk0, os⟩)
    (k : ∀ t h' tk, Fr g L h' (fun y => if y = Str.ofString "text" then some (.str v t) else m y) → Q .next ⟨h', gens, drawn, tk, os⟩) :
    wpAny M A (exec st env) Q E ⟨hp, gens, drawn, tk0, os⟩ :=
  wpAny_mono h (by rintro _ _ ⟨rfl, t, h', tk, rfl, F⟩; exact k t h' tk F) (fun _ _ x => x)
theorem escPost_same {v v' : Str} {t : Tok} {h' : Heap} {gens : Array GenState} {drawn : Drawn} {tk : Nat} {os : OsState} (hm : m (Str.ofString "text") = some (.str v' t)) (e : v' = v) (F : Fr g L h' m) : EscPost g L m v gens drawn os .next ⟨h', gens, drawn, tk, os⟩ := by
  refine ⟨rfl, t, h', tk, rfl, ?_⟩
  have : (fun y => if y = Str.ofString "text" then some (.str v t) else m y) = m := by
    funext y
    by_cases hy : y = Str.ofString "text"
    · rw [if_pos hy, hy, hm, e]
    · rw [if_neg hy]
  rw [this]; exact F
theorem escPost_new {v v' : Str} {t : Tok} {h' : Heap} {gens : Array GenState} {drawn : Drawn} {tk : Nat} {os : OsState} (e : v' = v) (F : Fr g L h' (fun y => if y = Str.ofString "text" then some (.str v' t) else m y)) : EscPost g L m v gens drawn os .next ⟨h', gens, drawn, tk, os⟩ := by
  subst e
  exact ⟨rfl, t, h', tk, rfl, F⟩
end
end
local macro_rules | `(tactic| walk_at "M!enterP") => `(tactic| (refine' code_def ?k1 ?k2 ?k3 ?k4 ?k5 ?kA ?kF ?kK ?k6 ?k7 ?k8 ?k9 ?kB ?_ ?c2 ?c3 ?c4 ?c5; (case kA => exact rfl); (case kF => exact rfl); (case kK => first | exact rfl | assumption); (case k1 => k_asm); (case k2 => k_asm); (case k3 => k_asm); (case k4 => k_asm); (case k5 => k_asm); (case k6 => k_is); (case k7 => k_is); (case k8 => ktr_room); (case k9 => exact BindsTo.of_eq rfl); (case c5 => decide); (case kB => exact locs rfl); (case c2 => exact rfl); (case c3 => exact rfl); (case c4 => exact rfl); k_whole; intro g' L' h' FG' F' N' B' X' T'; (try dsimp only); (try k_lift B'); (try k_fold)))
local macro_rules | `(tactic| walk_at "F!enterP") => `(tactic| (refine' code_defF ?k1 ?k2 ?k3 ?k4 ?k5 ?kA ?kF ?kK ?k6 ?k7 ?k8 ?k9 ?kB ?_ ?c2 ?c3 ?c4 ?c5; (case kA => exact rfl); (case kF => exact rfl); (case kK => first | exact rfl | assumption); (case k1 => k_asm); (case k2 => k_asm); (case k3 => k_asm); (case k4 => k_asm); (case k5 => k_asm); (case k6 => k_is); (case k7 => k_is); (case k8 => ktr_room); (case k9 => exact BindsTo.of_eq rfl); (case c5 => decide); (case kB => exact locs rfl); (case c2 => exact rfl); (case c3 => exact rfl); (case c4 => exact rfl); k_whole; intro g' L' h' FG' F' N' B' X' T' KG'; (try dsimp only); (try k_lift B'); (try k_fold)))
local macro_rules | `(tactic| walk_at "F!enterC") => `(tactic| (refine' code_defCF ?k1 ?k2 ?k3 ?k4 ?k5 ?kA ?kF ?kK ?k6 ?k7 ?k8 ?k9 ?kB ?kD ?_ ?c2 ?c3 ?c4; (case kA => exact rfl); (case kF => exact rfl); (case kK => first | exact rfl | assumption); (case k1 => k_asm); (case k2 => k_asm); (case k3 => k_asm); (case k4 => k_asm); (case k5 => k_asm); (case k6 => k_is); (case k7 => k_is); (case k8 => ktr_room); (case k9 => exact BindsTo.of_eq rfl); (case kB => exact rfl); (case kD => decide +kernel); (case c2 => exact rfl); (case c3 => exact rfl); (case c4 => exact rfl); k_whole; intro g' L' h' tk' cells' KG' FG' F' N' Y' B' X' T' l1; (try k_lt l1); k_cells Y'; (try simp only [List.cons_append, List.nil_append] at N'); (try dsimp only); (try k_lift B'); (try k_fold)))
local macro_rules | `(tactic| walk_at "F!enter") => `(tactic| first | k_dflt (walk_at "F!enterP") | k_dflt (walk_at "F!enterC"))
/- part Z1 -/
section
open PySem PySem.W PyProof.Rows PySem.Calls PySem.Spec
set_option maxRecDepth 100000
set_option maxHeartbeats 8000000

/-- n quotation marks -/
def qs (n : Nat) : List Nat := List.replicate n 34
theorem qs_len (n : Nat) : (qs n).length = n := by simp [qs]
theorem qs_succ (n : Nat) : qs (n + 1) = 34 :: qs n := List.replicate_succ
theorem qs_add (a b : Nat) : qs (a + b) = qs a ++ qs b := by simp [qs, List.replicate_append_replicate]
theorem foldl_cat : ∀ (l : List (Array Nat)) (a : Array Nat), (l.foldl (· ++ ·) a).toList = a.toList ++ (l.map (·.toList)).flatten
  | [], a => by simp
  | x :: r, a => by rw [List.foldl_cons, foldl_cat r (a ++ x)]; simp
theorem mul_qs (n : Nat) (k : Int) : Txt.mul (tx (qs n)) k = tx (qs (n * k.toNat)) := by
  apply Str.ext'
  unfold Txt.mul
  split
  · rename_i h
    rw [show k.toNat = 0 by omega, Nat.mul_zero]; rfl
  · split
    · rename_i h h2
      simp only [Bool.or_eq_true, beq_iff_eq, tx_len, qs_len] at h2
      rcases h2 with h2 | h2
      · rw [h2]; simp
      · rw [h2, Nat.zero_mul]
    · rename_i h h2
      have e : ∀ j : Nat, (List.replicate j (qs n)).flatten = qs (n * j) := by
        intro j
        induction j with
        | zero => rfl
        | succ j ih => rw [List.replicate_succ, List.flatten_cons, ih, ← qs_add]; congr 1; rw [Nat.mul_succ]; omega
      apply Array.ext'
      show (List.foldl (fun a b : Array Nat => a ++ b) #[] _).toList = _
      rw [foldl_cat]
      simp only [tx, List.map_replicate, Array.toList_empty, List.nil_append]
      exact e k.toNat
theorem mark_qs : Str.ofString "\"" = tx (qs 1) := q_mark
theorem mul_mark (k : Int) : Txt.mul (Str.ofString "\"") k = tx (qs k.toNat) := by rw [mark_qs, mul_qs, Nat.one_mul]
theorem two_marks : Str.ofString "\"\"" = tx (qs 2) := by decide +kernel
theorem told_even : ∀ (m : Nat) (r : List Nat), told (qs (2 * m) ++ r) = qs m ++ told r
  | 0, r => rfl
  | m + 1, r => by
    rw [show 2 * (m + 1) = 2 * m + 1 + 1 by omega, qs_succ, qs_succ, qs_succ, List.cons_append, List.cons_append, told_two, told_even m r]; rfl
theorem told_odd (m : Nat) {c : Nat} (r : List Nat) (h : c ≠ 34) : told (qs (2 * m + 1) ++ c :: r) = qs m := by
  rw [show qs (2 * m + 1) = qs (2 * m) ++ [34] from qs_add (2 * m) 1, List.append_assoc, told_even]
  show _ ++ told (34 :: c :: r) = _
  rw [told_stop c r h, List.append_nil]
theorem told_clean : ∀ (p r : List Nat), (∀ c ∈ p, c ≠ 34) → told (p ++ r) = p ++ told r
  | [], r, _ => rfl
  | c :: p, r, h => by
    rw [List.cons_append, told_cons _ _ (h c (.head _)), told_clean p r fun d hd => h d (.tail _ hd)]; rfl
/-- what stands behind the page in turn i -/
def tail3 (i : Nat) : List Nat := if i % 3 = 0 then [] else if i % 3 = 1 then [34] else [34, 32, 105, 115, 32, 34, 105, 116, 34]
theorem told_tail (i : Nat) : told (tail3 i) = [] := by
  unfold tail3
  split
  · rfl
  · split <;> rfl
theorem tail3_len (i : Nat) : (tail3 i).length ≤ 9 := by unfold tail3; split <;> (try split) <;> decide
/-- no mark is left by a hand -/
theorem esc_clean (h : Int) (l : List Nat) : ∀ c ∈ escL (tabs h) l, c ≠ 34 := by
  have key : ∀ k, ∀ c ∈ escT (tabs h) k, c ≠ 34 := by
    intro k c hc
    have hs : (tabs h).all (fun p => !p.2.contains 34) = true ∧ (tabs h).lookup 34 = some [38, 113, 117, 111, 116, 59] := by
      unfold tabs; split
      · decide
      · split <;> decide
    unfold escT at hc
    cases e : (tabs h).lookup k with
    | some r =>
      rw [e] at hc
      have h1 := List.all_eq_true.mp hs.1 _ (lookup_mem e)
      rintro rfl
      have : r.contains 34 = true := by rw [List.contains_eq_mem]; simpa using hc
      simp [this] at h1
      exact h1 hc
    | none =>
      rw [e] at hc
      rintro rfl
      rw [← List.mem_singleton.mp hc, hs.2] at e
      cases e
  intro c hc
  obtain ⟨k, _, hk⟩ := List.mem_flatMap.mp hc
  exact key k c hk
theorem esc_pos (h : Int) (l : List Nat) (hl : l ≠ []) : escL (tabs h) l ≠ [] := by
  cases l with
  | nil => exact absurd rfl hl
  | cons k r =>
    have : escT (tabs h) k ≠ [] := by
      unfold escT
      cases e : (tabs h).lookup k with
      | some q =>
        have hs : (tabs h).all (fun p => !p.2.isEmpty) = true := by
          unfold tabs; split
          · decide
          · split <;> decide
        have := List.all_eq_true.mp hs _ (lookup_mem e)
        intro h0
        dsimp only at h0
        subst h0
        simp at this
      | none => exact List.cons_ne_nil _ _
    rw [escL, List.flatMap_cons]
    exact fun e => this (List.append_eq_nil_iff.mp e).1
/-- the page after j odd turns -/
def pageN (h : Int) (sg : Nat) : Nat → List Nat
  | 0 => escL (tabs h) [sg]
  | j + 1 => escL (tabs h) (pageN h sg j)
theorem page_clean (h : Int) (sg j : Nat) : ∀ c ∈ pageN h sg j, c ≠ 34 := by
  cases j <;> exact esc_clean h _
theorem page_pos (h : Int) (sg : Nat) : ∀ j, pageN h sg j ≠ []
  | 0 => esc_pos h _ (List.cons_ne_nil _ _)
  | j + 1 => esc_pos h _ (page_pos h sg j)
theorem tabs_small (h : Int) : ((tabs h).all fun p => decide (p.2.length ≤ 6)) = true := by
  unfold tabs; split
  · decide
  · split <;> decide
theorem page_len (h : Int) (sg : Nat) : ∀ j, (pageN h sg j).length ≤ 6 ^ (j + 1)
  | 0 => by have := escL_len (tabs_small h) [sg]; simpa [pageN] using this
  | j + 1 => by
    have h1 := escL_len (tabs_small h) (pageN h sg j)
    have h2 := page_len h sg j
    rw [Nat.pow_succ]
    show (escL _ _).length ≤ _
    omega
theorem page_len4 (h : Int) (sg j : Nat) (hj : j ≤ 4) : (pageN h sg j).length ≤ 7776 := by
  have h1 := page_len h sg j
  have h2 : 6 ^ (j + 1) ≤ 6 ^ 5 := Nat.pow_le_pow_right (by decide) (by omega)
  have h3 : 6 ^ 5 = 7776 := by decide
  omega
def stepT (n : Nat) : Nat := if n % 2 = 1 then (3 * n + 1) / 2 else n / 2
def orbit : Nat → Nat → Nat
  | 0, n => n
  | i + 1, n => stepT (orbit i n)
def odds : Nat → Nat → Nat
  | 0, _ => 0
  | i + 1, n => odds i n + orbit i n % 2
theorem odds_le : ∀ i n, odds i n ≤ i
  | 0, _ => Nat.le_refl _
  | i + 1, n => by have := odds_le i n; have := Nat.mod_lt (orbit i n) (show 0 < 2 by decide); simp only [odds]; omega
theorem orbit_small : ∀ i ≤ 4, ∀ n < 16, orbit i n ≤ 80 := by decide
def rowL (i n : Nat) : List Int := (List.range i).map fun j => ((orbit j n % 2 : Nat) : Int)
def sizL (i n : Nat) : List Int := (List.range i).map fun j => ((orbit (j + 1) n : Nat) : Int)
theorem rowL_succ (i n : Nat) : rowL (i + 1) n = rowL i n ++ [((orbit i n % 2 : Nat) : Int)] := by simp [rowL, List.range_succ]
theorem sizL_succ (i n : Nat) : sizL (i + 1) n = sizL i n ++ [((orbit (i + 1) n : Nat) : Int)] := by simp [sizL, List.range_succ]
/-- what is told of a run and a page -/
theorem told_run_odd (h : Int) (sg j i m : Nat) : told (qs (2 * m + 1) ++ (pageN h sg j ++ tail3 i)) = qs m := by
  cases e : pageN h sg j with
  | nil => exact absurd e (page_pos h sg j)
  | cons c r => exact told_odd m _ (page_clean h sg j c (e ▸ .head _))
theorem told_run_even (h : Int) (sg j i m : Nat) : told (qs (2 * m) ++ (pageN h sg j ++ tail3 i)) = qs m ++ pageN h sg j := by
  rw [told_even, told_clean _ _ (page_clean h sg j), told_tail, List.append_nil]
theorem run_page_ne (h : Int) (sg j m k : Nat) : qs m ++ pageN h sg j ≠ qs k := by
  intro e
  cases e2 : pageN h sg j with
  | nil => exact absurd e2 (page_pos h sg j)
  | cons c r =>
    have : c ∈ qs k := by rw [← e, e2]; simp
    have h1 := List.eq_of_mem_replicate this
    exact page_clean h sg j c (e2 ▸ .head _) h1
end
/- part M2 -/
section
open PySem PySem.W PyProof.Rows PySem.Calls PySem.Spec
set_option maxRecDepth 100000
set_option maxHeartbeats 8000000

def pw (k j i : Nat) : Int := 2 ^ (k - j) * 3 ^ odds j i
def wholeN (k : Nat) (R : Int) (i j : Nat) : Int := R * pw k j i + (orbit j i : Int)
theorem pw_even {k j i m : Nat} (hj : j < k) (h : orbit j i = 2 * m) : pw k j i = 2 * pw k (j + 1) i ∧ odds (j + 1) i = odds j i ∧ orbit (j + 1) i = m := by
  have ho : odds (j + 1) i = odds j i := by simp only [odds, h]; omega
  have hs : orbit (j + 1) i = m := by simp only [orbit, stepT, h]; rw [if_neg (by omega)]; omega
  refine ⟨?_, ho, hs⟩
  unfold pw
  rw [ho, show k - j = (k - (j + 1)) + 1 by omega, Int.pow_succ]
  rw [Int.mul_comm (2 ^ (k - (j + 1))) 2, Int.mul_assoc]
theorem pw_odd {k j i m : Nat} (hj : j < k) (h : orbit j i = 2 * m + 1) : ∃ p : Int, pw k j i = 2 * p ∧ pw k (j + 1) i = 3 * p ∧ odds (j + 1) i = odds j i + 1 ∧ orbit (j + 1) i = 3 * m + 2 := by
  have ho : odds (j + 1) i = odds j i + 1 := by simp only [odds, h]; omega
  have hs : orbit (j + 1) i = 3 * m + 2 := by simp only [orbit, stepT, h]; rw [if_pos (by omega)]; omega
  refine ⟨2 ^ (k - (j + 1)) * 3 ^ odds j i, ?_, ?_, ho, hs⟩
  · unfold pw
    rw [show k - j = (k - (j + 1)) + 1 by omega, Int.pow_succ, Int.mul_comm (2 ^ (k - (j + 1))) 2, Int.mul_assoc]
  · unfold pw
    rw [ho, Int.pow_succ, ← Int.mul_assoc, Int.mul_comm _ 3]
theorem whole_even {k j i m : Nat} {R : Int} (hj : j < k) (h : orbit j i = 2 * m) : (wholeN k R i j).fmod 2 = 0 ∧ (wholeN k R i j).fdiv 2 = wholeN k R i (j + 1) := by
  obtain ⟨hp, ho, hs⟩ := pw_even hj h
  unfold wholeN
  rw [hp, hs, h, Int.mul_left_comm]
  generalize R * pw k (j + 1) i = X
  rw [Int.fmod_eq_emod_of_nonneg _ (by decide), Int.fdiv_eq_ediv_of_nonneg _ (by decide)]
  omega
theorem whole_odd {k j i m : Nat} {R : Int} (hj : j < k) (h : orbit j i = 2 * m + 1) : (wholeN k R i j).fmod 2 = 1 ∧ wholeN k R i j + (wholeN k R i j + 1).fdiv 2 = wholeN k R i (j + 1) := by
  obtain ⟨p, hp, hq, ho, hs⟩ := pw_odd hj h
  unfold wholeN
  rw [hp, hq, hs, h, Int.mul_left_comm, Int.mul_left_comm R 3]
  generalize R * p = X
  rw [Int.fmod_eq_emod_of_nonneg _ (by decide), Int.fdiv_eq_ediv_of_nonneg _ (by decide)]
  omega
theorem size_val {k j i : Nat} {R T : Int} (hj : j < k) (hT : T = (odds (j + 1) i : Int)) : wholeN k R i (j + 1) - 2 ^ (((k : Int) - (j : Int) - 1)).toNat * 3 ^ T.toNat * R = (orbit (j + 1) i : Int) := by
  have e1 : (((k : Int) - (j : Int) - 1)).toNat = k - (j + 1) := by omega
  have e2 : T.toNat = odds (j + 1) i := by omega
  rw [e1, e2]
  unfold wholeN pw
  rw [Int.mul_comm (2 ^ (k - (j + 1)) * 3 ^ odds (j + 1) i) R]
  omega
theorem whole_zero (k : Nat) (R : Int) (i : Nat) : wholeN k R i 0 = R * 2 ^ k + (i : Int) := by simp [wholeN, pw, odds, orbit]
theorem whole_end (k : Nat) (R : Int) (i : Nat) : wholeN k R i k = R * 3 ^ odds k i + (orbit k i : Int) := by simp [wholeN, pw]
/-- Terras: what is left is less than 3 to the odd turns -/
theorem orbit_lt : ∀ k ≤ 4, 2 ≤ k → ∀ i < 2 ^ k, orbit k i < 3 ^ odds k i := by decide
theorem end_div {k i : Nat} {R : Int} (hk : 2 ≤ k ∧ k ≤ 4) (hi : i < 2 ^ k) : wholeN k R i k / 3 ^ odds k i = R ∧ wholeN k R i k % 3 ^ odds k i = (orbit k i : Int) := by
  have hlt := orbit_lt k hk.2 hk.1 i hi
  have hpos : (0 : Int) < 3 ^ odds k i := Int.pow_pos (by decide)
  have hlt' : (orbit k i : Int) < 3 ^ odds k i := by exact_mod_cast hlt
  rw [whole_end]
  constructor
  · rw [Int.add_comm, Int.add_mul_ediv_right _ _ (by omega), Int.ediv_eq_zero_of_lt (by omega) hlt']; omega
  · rw [Int.add_comm, Int.add_mul_emod_self_right, Int.emod_eq_of_lt (by omega) hlt']
end
/- part K1 -/
section
open PySem PySem.W PyProof.Rows PySem.Calls PySem.Spec
set_option maxRecDepth 100000
set_option maxHeartbeats 8000000

section
variable {prog : Program} {w : World} {A₀ A : Around} {s : Shared} {base h₀ g₀ : Heap} {outer : List Env} {env : Env} {L : Addr} {m : Str → Option Value} {news : List (Addr × Obj)} {K : Frag} {p : Program} {loose : List Str} {mean : ExcName → Option Value} {mg mb : Str → Option Value}
    {R : Result → Shared → Prop} {name qual : Str} {params : Arguments} {body : List Stmt} {scope : Scope} {dV kV doc pm cdv ct oc : Value} {an od : Option Addr} {osl : Array (Option Value)} {f : Addr} {args : Args} {binds : List (Str × Value)}
theorem memX {env : Env} {L b : Addr} (hf : env.frame = some L) (hm : b ∈ (env :: outer).filterMap (·.frame)) : b = L ∨ b ∈ outer.filterMap (·.frame) := by
  obtain ⟨e2, he, hb⟩ := List.mem_filterMap.mp hm
  rcases List.mem_cons.mp he with rfl | he
  · exact .inl (by rw [hf] at hb; exact (Option.some.inj hb).symm)
  · exact .inr (List.mem_filterMap.mpr ⟨e2, he, hb⟩)
theorem enterX (B : Below A₀ base outer h₀) (F : Fr h₀ L s.heap m) (N : News h₀ L s.heap news) (hA : A.frames = some (env :: outer)) (hf : env.frame = some L) (hke : env.scope.kind = .function) :
    ∃ oL es ep, (hideAll s.heap (news.map (·.1))).get? L = some oL ∧ oL.data = .dict es ep ∧ (∀ h', h'.get? L = some oL → Heap.Ns h' L m) ∧ (∀ (sl : Array (Option Value)) h', h'.get? L = some { oL with slots := sl } → Heap.Ns h' L m) ∧
      h₀.StaysIn (hideAll s.heap (news.map (·.1))) ∧ Below A base (env :: outer) (hideAll s.heap (news.map (·.1))) := by
  obtain ⟨FG, BG, st, lv⟩ := groundX (R := fun _ _ => True) B F N hA hf hke
  obtain ⟨oL, es, ep, hL, hLd, hLk, hLf⟩ := F.ns
  have nL : L ∉ news.map (·.1) := fun q => by
    obtain ⟨p, hp, e⟩ := List.mem_map.mp q
    exact (N p hp).2.1 e
  have hLg := hideAll_get (news.map (·.1)) hL nL
  exact ⟨oL, es, ep, hLg, hLd, fun h' e => ⟨oL, es, ep, e, hLd, hLk, hLf⟩, fun sl h' e => ⟨_, es, ep, e, hLd, hLk, hLf⟩, st, BG⟩
theorem leftX {g : Heap} {oL : Obj} {fl : Value} {s' : Shared} (F : Fr h₀ L s.heap m) (hf : env.frame = some L) (hLg : g.get? L = some oL) (hNs : ∀ (sl : Array (Option Value)) h', h'.get? L = some { oL with slots := sl } → Heap.Ns h' L m) (st : h₀.StaysIn g)
    (hl : LeaveS0 ([env].filterMap (·.frame)) h₀ L m g R fl s') : R (.ok (.ret fl)) s' := by
  obtain ⟨g', L', m', news', T', F', N', k⟩ := hl
  have nL₀ : h₀.get? L = none := kts_self F
  obtain ⟨sl, hs⟩ := T'.up hLg
  refine k ⟨hNs sl _ (F'.keep _ _ hs), fun b o e => F'.keep b o (T'.other b o (st b o e) (fun q => by
    rcases memX hf q with z | z
    · rw [z, nL₀] at e
      cases e
    · simp at z)), F.above⟩ fun p hp => ⟨(N' p hp).1, fun q => ?_, ?_⟩
  · have := (N' p hp).2.2; rw [q, hs] at this; cases this
  · cases q : h₀.get? p.1 with
    | none => rfl
    | some o =>
      obtain ⟨sl', hs'⟩ := T'.up (st _ _ q)
      have := (N' p hp).2.2
      rw [hs'] at this
      cases this
theorem code_defX0 (B : Below A₀ base [] h₀) (F : Fr h₀ L s.heap m) (X₀ : K.In h₀) (N : News h₀ L s.heap news) (T : Top p loose mean mg mb h₀) (hA : A.frames = some [env]) (hf : env.frame = some L) (hke : env.scope.kind = .function)
    (ho : K.lookup f = some ⟨oc, od, .func (fnOf name qual params body scope dV kV doc pm an cdv ct), osl⟩) (hcd : codeIn K cdv qual = true) (hroom : A.depth < recursionLimit)
    (hbind : BindsTo s (fnOf name qual params body scope dV kV doc pm an cdv ct) args binds) (hloc : ∀ y ∈ binds, scope.names.lookup y.1 = some .local)
    (h : ∀ g L' h₁, Fr h₀ L g m → Fr g L' h₁ (fun y => binds.reverse.lookup y) → News g L' h₁ news → Below A base [env] g → K.In g → Top p loose mean mg mb g → KtsDicts ([env].filterMap (·.frame)) g →
      wpAny (model prog w) (A.deeper (envOf qual scope L' f cdv)) (execs body (envOf qual scope L' f cdv))
        (fun fl s' => LeaveS0 ([env].filterMap (·.frame)) h₀ L m g R (match fl with | .ret v => v | _ => .none) s')
        (fun e s' => wpAny (model prog w) (A.deeper (envOf qual scope L' f cdv)) (leaving (envOf qual scope L' f cdv) e) (fun _ s'' => R (.error e) s'') (fun e' s'' => R (.error e') s'') s')
        { s with heap := h₁, toks := s.toks + binds.length })
    (hco : scope.isCoroutine = false) (hgen : scope.isGenerator = false) (hk : scope.kind = .function)
    (hcell : ∀ x ∈ scope.names, x.2 ≠ .cell) : codeAny (model prog w) A (.call (.ref f) args) R s := by
  have X := X₀.keeps F.keep
  refine codeAny_call_def (fd := fnOf name qual params body scope dV kV doc pm an cdv ct) (body := body) (binds := binds) hroom (X _ _ ho) rfl (T.nolimit.keeps F.keep) (codeRec_of X hcd) rfl hbind hcell hloc (fun h₁ hns hk₁ => ?_) hco hgen hk
  obtain ⟨oL, es, ep, hLg, hLd, hN, hNs, st, B₂⟩ := enterX B F N hA hf hke
  refine wpAny_mono (h _ s.heap.objs.size h₁ ⟨hN _ hLg, st, F.above⟩ ⟨hns, fun b o e => hk₁ b o (of_hideAll _ e), Nat.le_of_eq (hideAll_size _ _)⟩
    (fun p hp => ⟨hk₁ _ _ (N p hp).1, Nat.ne_of_lt (Heap.lt_size (N p hp).1), hideAll_none _ (List.mem_map_of_mem hp)⟩) B₂ (X₀.keeps st) (T.keeps st) (fun b hb => by
      rcases memX hf hb with rfl | z
      · exact ⟨oL, es, ep, hLg, hLd⟩
      · simp at z)) (fun fl s' hl => leftX F hf hLg hNs st hl) fun _ _ y => y
theorem code_defXC0 (B : Below A₀ base [] h₀) (F : Fr h₀ L s.heap m) (X₀ : K.In h₀) (N : News h₀ L s.heap news) (T : Top p loose mean mg mb h₀) (hA : A.frames = some [env]) (hf : env.frame = some L) (hke : env.scope.kind = .function)
    (ho : K.lookup f = some ⟨oc, od, .func (fnOf name qual params body scope dV kV doc pm an cdv ct), osl⟩) (hcd : codeIn K cdv qual = true) (hroom : A.depth < recursionLimit)
    (hbind : BindsTo s (fnOf name qual params body scope dV kV doc pm an cdv ct) args binds) (hkind : (binds.all fun y => scope.names.lookup y.1 == some .local || scope.names.lookup y.1 == some .cell) = true)
    (hnd : ((cellsFrom 0 scope.names []).map (·.1)).Nodup)
    (h : ∀ g L' h₁ tk cells, Fr h₀ L g m → Fr g L' h₁ (bindL (envOfC qual scope L' f cdv).kindOf binds fun _ => none) → News g L' h₁ (cells ++ news) →
      CellsAre (bindC (envOfC qual scope L' f cdv).kindOf binds fun _ => none) (cellsFrom (L' + 1) scope.names []) cells → Below A base [env] g → K.In g → Top p loose mean mg mb g → KtsDicts ([env].filterMap (·.frame)) g → (∀ p ∈ news, p.1 < L') →
      wpAny (model prog w) (A.deeper (envOfC qual scope L' f cdv)) (execs body (envOfC qual scope L' f cdv))
        (fun fl s' => LeaveS0 ([env].filterMap (·.frame)) h₀ L m g R (match fl with | .ret v => v | _ => .none) s')
        (fun e s' => wpAny (model prog w) (A.deeper (envOfC qual scope L' f cdv)) (leaving (envOfC qual scope L' f cdv) e) (fun _ s'' => R (.error e) s'') (fun e' s'' => R (.error e') s'') s')
        { s with heap := h₁, toks := tk })
    (hco : scope.isCoroutine = false) (hgen : scope.isGenerator = false) (hk : scope.kind = .function) : codeAny (model prog w) A (.call (.ref f) args) R s := by
  obtain ⟨oL, es, ep, hLg, hLd, hN, hNs, st, B₂⟩ := enterX B F N hA hf hke
  refine codeAny_call_function hroom ((X₀.keeps F.keep) _ _ ho) rfl hco hgen rfl (codeRec_of (X₀.keeps F.keep) hcd) (hbind _ _ _ _ ?_)
  refine wpAny_newFunctionEnv_cells hk (kindsX hkind _) fun env' he s' x => ?_
  subst he
  refine ⟨(T.nolimit.keeps F.keep).keeps x.toInCall.keep, codeAny_func ?_⟩
  obtain ⟨h₁, tk, rfl, _⟩ := x.done
  have hk₁ := x.toInCall.keep
  obtain ⟨cells, NC, Y⟩ := Cl.news (h₀ := s.heap) (Nat.le_refl _) fun n c hm => ⟨x.cell n c (lookup_of_mem_nodup (cellsFrom_names scope.names 0 (s.heap.objs.size + 1) [] [] rfl ▸ hnd) hm), x.above n c hm⟩
  refine wpAny_mono (h _ s.heap.objs.size h₁ tk cells ⟨hN _ hLg, st, F.above⟩ ⟨x.toInCall.ns, fun b o e => hk₁ b o (of_hideAll _ e), Nat.le_of_eq (hideAll_size _ _)⟩ (fun p hp => ?_) Y B₂ (X₀.keeps st) (T.keeps st) (fun b hb => by
      rcases memX hf hb with rfl | z
      · exact ⟨oL, es, ep, hLg, hLd⟩
      · simp at z) (fun p hp => Heap.lt_size (N p hp).1)) (fun fl s' hl => leftX F hf hLg hNs st hl) fun _ _ y => y
  rcases List.mem_append.mp hp with hp | hp
  · refine ⟨(NC p hp).1, (NC p hp).2.1, ?_⟩
    cases q : (hideAll s.heap (news.map (·.1))).get? p.1 with
    | none => rfl
    | some o => have := of_hideAll _ q; rw [(NC p hp).2.2] at this; cases this
  · exact ⟨hk₁ _ _ (N p hp).1, Nat.ne_of_lt (Heap.lt_size (N p hp).1), hideAll_none _ (List.mem_map_of_mem hp)⟩
end
end
/- part K2 -/
section
open PySem PySem.W PyProof.Rows PySem.Calls PySem.Spec
set_option maxRecDepth 100000
set_option maxHeartbeats 8000000

section
variable {A₀ : Around} {base g G B h₅ : Heap} {outer : List Env} {env : Env} {L : Addr} {m : Str → Option Value}
/-- the ground below a frame, after slots of the frames on the stack have changed -/
theorem groundY (hf : env.frame = some L) (K : Below A₀ base outer g) (F : Fr g L G m) (hBG : ∀ b o, G.get? b = some o → b ∉ (env :: outer).filterMap (·.frame) → B.get? b = some o) (hBh : B.StaysIn h₅) (hsm : G.UpToSlots h₅) :
    ∃ g', KtsTurn (outer.filterMap (·.frame)) g g' ∧ Fr g' L h₅ m ∧ Below A₀ base outer g' := by
  have off : ∀ b o, g.get? b = some o → b ∉ outer.filterMap (·.frame) → b ∉ (env :: outer).filterMap (·.frame) := fun b o e nm hm => by
    rcases memX hf hm with z | z
    · rw [z, kts_self F] at e; cases e
    · exact nm z
  have there : ∀ b ∈ outer.filterMap (·.frame), ∃ o, g.get? b = some o := fun b hb => let ⟨_, o, ho, _⟩ := K.frames.mem hb; ⟨o, ho⟩
  have slot : ∀ b o, g.get? b = some o → b ∈ outer.filterMap (·.frame) → ∃ sl, h₅.get? b = some { o with slots := sl } := fun b o e hm => by
    obtain ⟨_, o', ho', hd⟩ := K.frames.mem hm
    rw [e] at ho'; cases ho'
    exact hsm b o (F.keep b o e) hd
  obtain ⟨T, S⟩ := kts_turn_at there (fun b o e nm => hBh b o (hBG b o (F.keep b o e) (off b o e nm))) slot
  have nb : ∀ b o, base.get? b = some o → b ∉ outer.filterMap (·.frame) := fun b o e hm => by rw [(K.frames.mem hm).1] at e; cases e
  refine ⟨_, T, ⟨hsm.ns F.ns, S, by rw [T.size]; exact F.above⟩, K.stack, fun b o e => T.other b o (K.stays b o e) (nb b o e), K.frames.of_keeps fun b o e _ => ?_⟩
  exact let ⟨sl, hs⟩ := T.up e; ⟨_, hs, rfl⟩
theorem freshY {b : Addr} (hf : env.frame = some L) (F : Fr g L G m) (hBG : ∀ b o, G.get? b = some o → b ∉ (env :: outer).filterMap (·.frame) → B.get? b = some o) (hb : B.get? b = none)
    (hnf : ∀ o, g.get? b = some o → b ∈ outer.filterMap (·.frame) → False) : g.get? b = none := by
  cases q : g.get? b with
  | none => rfl
  | some o =>
    refine (hnf o q ?_).elim
    refine Classical.byContradiction fun hm => ?_
    have := hBG b o (F.keep b o q) (fun hm' => (memX hf hm').elim (fun z => by rw [z, kts_self F] at q; cases q) hm)
    rw [hb] at this; cases this
end
section
variable {prog : Program} {w : World} {A₀ : Around} {E : Value → Shared → Prop} {s' : Shared} {base g g₀ G : Heap} {outer : List Env} {L a e t C : Addr} {m : Str → Option Value} {name : Str} {scope : Scope} {cd : Value} {cl : List (Str × Addr)}
  {vs : List Value} {n : Str} {b₀ : Stmt} {suite : List Stmt} {pos np : Pos} {rest : List ExceptHandler} {Q : Flow → Shared → Prop} {news : List (Addr × Obj)} {KF : Frag}
  {p : Program} {loose : List Str} {mean : ExcName → Option Value} {mg mb : Str → Option Value} {x : Str}
/-- an own exception, caught by its own class and named, in a frame with cells -/
theorem caughtX (R : RaisedS base G (envX name scope L a cd cl :: outer) e (.ref C) t vs news s'.heap) (F : Fr g L G m) (K : Below A₀ base outer g) (hsm : G.UpToSlots s'.heap) (XB : KF.In base) (TB : Top p loose mean mg mb base)
    (D : KtsDicts (outer.filterMap (·.frame)) g) (T0 : KtsTurn (outer.filterMap (·.frame)) g₀ g)
    (ex : nsIn KF mainGlobals x = some (some (.ref C))) (q : ktsIn KF C "BaseException" = true)
    (k : ∀ h' g' news₂ tk, KtsTurn (outer.filterMap (·.frame)) g₀ g' → Fr g' L h' (fun y => if y = n then some (.ref e) else m y) → News g' L h' news₂ → Got news₂ e t (.ref C) vs → News g' L h' news → Below A₀ base outer g' → KF.In g' → Top p loose mean mg mb g' → KtsDicts (outer.filterMap (·.frame)) g' →
      wpAny (model prog w) ((A₀.deeper (envX name scope L a cd cl)).mark (some (.ref e))) (execs (b₀ :: suite) (envX name scope L a cd cl))
        (fun f s₄ => wpAny (model prog w) (A₀.deeper (envX name scope L a cd cl)) (do bindName (envX name scope L a cd cl) n .none; unbindBehindTheSuite (envX name scope L a cd cl) n pos) (fun _ s₅ => Q f s₅) E s₄)
        (AsSuiteRaised (model prog w) ((A₀.deeper (envX name scope L a cd cl)).mark (some (.ref e))) (envX name scope L a cd cl) n pos (notedBy (model prog w) ((A₀.deeper (envX name scope L a cd cl)).mark (some (.ref e))) (envX name scope L a cd cl) (cameBackBy (model prog w) (A₀.deeper (envX name scope L a cd cl)) (envX name scope L a cd cl) E)))
        { s' with heap := h', toks := tk })
    (hk : scope.kind = .function := by rfl) (hlo : (envX name scope L a cd cl).kindOf n = some .local := by rfl) (hx : (envX name scope L a cd cl).kindOf x = some .globalImplicit := by rfl) (hd : (x == ("__debug__" : Str)) = false := by decide) :
    wpAny (model prog w) (A₀.deeper (envX name scope L a cd cl)) (noteFrame (.ref e) (envX name scope L a cd cl))
      (fun _ s₂ => wpAny (model prog w) (A₀.deeper (envX name scope L a cd cl)) (setFlight (.ref e) none) (fun _ s₃ =>
        wpAny (model prog w) (A₀.deeper (envX name scope L a cd cl)) (handleBy (.ref e) (envX name scope L a cd cl) (.ExceptHandler (some (.Name x np)) (some n) (b₀ :: suite) pos :: rest)) Q E s₃) E s₂) E s' := by
  have hfr : (envX name scope L a cd cl).frame = some L := rfl
  obtain ⟨⟨B, hB, hBG, hl, hfl, hnew⟩, htup⟩ := R
  have hL : B.get? L = none := by
    obtain ⟨_, ⟨L', _, hf, hn', _⟩, _⟩ := hfl.2.2.1
    obtain rfl : L = L' := Option.some.inj hf
    exact hn'
  refine wpAny_looks_onW (Around.frames_deeper K.stack) rfl hfl fun h₄ held₄ sm₄ => wpAny_landsW held₄ fun h₅ held sm₅ => ?_
  have up₅ := sm₄.trans sm₅
  obtain ⟨g₅, T₅, F₅, K₅⟩ := groundY hfr K F hBG held.1 (hsm.trans up₅)
  have X₅ : KF.In g₅ := XB.keeps K₅.stays
  obtain ⟨ob, hob, hobc⟩ := held.there
  obtain ⟨nm, qn, N, bs, bm, hdct, sn, sub, ab, col, dd, k0, k1, k2, k3, k5, newId, hC, hbase, _⟩ := kts_cls X₅ q
  refine wpAny_handleBy_cons (codeAny_handlers_test (nameX_K F₅ X₅ (topRead_of (TB.keeps K₅.stays) : TopRead p loose mg mb g₅) ex ?_ hk hx hd)) (by intro z; cases z)
  refine wpAny_excMatches_sub_self (F₅.keep _ _ hC) hob hobc hbase (codeAny_handlers_suite_as (lands_againW held fun h₆ fl₆ sm₆ => ?_))
  have up₆ := (hsm.trans up₅).trans sm₆
  obtain ⟨g₆, T₆, F₆, K₆⟩ := groundY hfr K F hBG fl₆.1 up₆
  obtain ⟨oe, ws, hoe, hoec, hoed, hoe0⟩ := fl₆.first
  obtain ⟨ot, nt, hot, hotc, hotd⟩ := (htup.of_slots up₅).of_slots sm₆
  have ne₆ : g₆.get? e = none := T₆.none_ _ (freshY hfr F hBG fl₆.2.1 fun o ho mm => by
    obtain ⟨_, o', ho', hd'⟩ := K.frames.mem mm
    rw [ho] at ho'; cases ho'
    obtain ⟨sl, hs⟩ := up₆ _ _ (F.keep _ _ ho) hd'
    rw [hoe] at hs; cases hs
    exact hd' _ hoed)
  have nt₆ : g₆.get? t = none := T₆.none_ _ (freshY hfr F hBG hnew fun o ho mm => by
    obtain ⟨o', es, n', ho', hd'⟩ := D _ mm
    rw [ho] at ho'; cases ho'
    obtain ⟨sl, hs⟩ := up₆ _ _ (F.keep _ _ ho) (fun vs z => by rw [hd'] at z; cases z)
    rw [hot] at hs; cases hs
    have z := hd'.symm.trans hotd
    cases z)
  have N₆ := News.more F₆ (News.more F₆ News.nil hot (fun es n z => by rw [hotd] at z; cases z) nt₆) hoe (fun es n z => by rw [hoed] at z; cases z) ne₆
  have Nl : News g₆ L h₆ news := fun r hr => ⟨fl₆.1 _ _ (hl r hr).1, (fun z => by have := (hl r hr).1; rw [z, hL] at this; cases this), T₆.none_ _ (kts_none F.keep (hl r hr).2.1)⟩
  refine storeX_L F₆ (news := _ ++ news) (fun r hr => (List.mem_append.mp hr).elim (N₆ r) (Nl r)) (fun h₇ F₇ N₇ => ?_) hk hlo
  exact k h₇ g₆ _ _ (T0.trans T₆) F₇ (fun r hr => N₇ r (List.mem_append_left _ hr)) ⟨oe, ot, ws, nt, .head _, .tail _ (.head _), hoec, hoed, hoe0, hotc, hotd⟩ (fun r hr => N₇ r (List.mem_append_right _ hr)) K₆ (XB.keeps K₆.stays) (TB.keeps K₆.stays) (D.turn T₆)
end
end
/- part L0 -/
section
open PySem PySem.W PyProof.Rows PySem.Calls PySem.Spec PyProof.V
set_option maxRecDepth 100000
set_option maxHeartbeats 8000000
/-- what holds between the turns of a loop: the ledger, the frame's names and P at the turn's number -/
def KsN {σ : Type} (Led : σ → List (Addr × Obj)) (ps : σ → List (Str × Value)) (x : Str) (stored : List Str) (m₀ : Str → Option Value) (P : Nat → σ → Prop) (i : Nat) (m : Str → Option Value) (nx : List (Addr × Obj)) : Prop :=
  ∃ c : σ, nx = Led c ∧ (∀ p ∈ ps c, m p.1 = some p.2) ∧ (∀ z, z ≠ x → (∀ p ∈ ps c, z ≠ p.1) → stored.contains z = false → m z = m₀ z) ∧ P i c
section
variable {prog : Program} {w : World} {A : Around} {E : Value → Shared → Prop} {s : Shared} {env : Env} {h₀ : Heap} {x : Str} {body : List Stmt} {Q : Flow → Shared → Prop}
theorem loopN {σ : Type} {I : Addr} {fp wr : List Addr} {n : Nat} {PV : Nat → Value → Prop} {St : Nat → Heap → Prop} {m₀ : Str → Option Value} (Led : σ → List (Addr × Obj)) (ps : σ → List (Str × Value)) (stored : List Str) (P : Nat → σ → Prop) (c₀ : σ)
    (W : Walks prog w A I fp wr n PV St) (hLf : env.locals ∉ fp) (hwr : ∀ b ∈ wr, h₀.get? b = none) (hnw : ∀ p ∈ Led c₀, p.1 ∉ wr) (hfp : ∀ q ∈ Led c₀, q.1 ∉ fp) (hst : St 0 s.heap) (F : Fr h₀ env.locals s.heap m₀) (N : News h₀ env.locals s.heap (Led c₀)) (hk : ∀ p ∈ ps c₀, m₀ p.1 = some p.2) (hp : P 0 c₀)
    (turn : ∀ (c : σ) i v (u : Str → Option Value) h tk own, i < n → PV i v → OwnOff own ((Led c₀).map (·.1)) → P i c →
      Fr h₀ env.locals h (fun y => if y = x then some v else kstB (fun z => if stored.contains z then u z else m₀ z) (ps c) y) → News h₀ env.locals h (Led c ++ own) →
      wpAny (model prog w) A (execs body env) (InvPostN h₀ env.locals (KsN Led ps x stored m₀ P (i + 1)) own ((Led c₀).map (·.1)) { s with heap := h, toks := tk } Q) E { s with heap := h, toks := tk })
    (done : ∀ (c : σ) (u : Str → Option Value) h tk, P n c → Fr h₀ env.locals h (fun y => if y = x then u y else kstB (fun z => if stored.contains z then u z else m₀ z) (ps c) y) → News h₀ env.locals h (Led c) → Q .next { s with heap := h, toks := tk }) :
    LoopAtV prog w A h₀ env x body Q E (.ref I) s := by
  refine loop_invN (fun i m nx => KsN Led ps x stored m₀ P i m nx) W hLf hwr hnw hfp hst F N ⟨c₀, rfl, hk, fun _ _ _ _ => rfl, hp⟩ ?_ ?_
  · rintro i v m₁ nx h tk own hi hv _ hoff ⟨c, rfl, h1, h2, hp'⟩ F₁ N₁
    exact turn c i v m₁ h tk own hi hv hoff hp' (kst_fr h1 h2 F₁) N₁
  · rintro m₁ nx h tk ⟨c, rfl, h1, h2, hp'⟩ F₁ N₁
    exact done c m₁ h tk hp' (kst_frOut h1 h2 F₁) N₁
theorem loopN_end {σ : Type} {Led : σ → List (Addr × Obj)} {ps : σ → List (Str × Value)} {stored : List Str} {m₀ : Str → Option Value} {P : Nat → σ → Prop} {i : Nat} (c : σ) {L : Addr} {m' : Str → Option Value} {own news' : List (Addr × Obj)} {adr : List Addr} {s₁ : Shared} {h' : Heap} {tk : Nat}
    (F : Fr h₀ L h' m') (N : News h₀ L h' news') (hn : ∀ p ∈ Led c, p ∈ news') (ho : ∀ p ∈ own, p ∈ news') (ha : (Led c).map (·.1) = adr) (hk : ∀ p ∈ ps c, m' p.1 = some p.2) (hr : ∀ z, z ≠ x → (∀ p ∈ ps c, z ≠ p.1) → stored.contains z = false → m' z = m₀ z) (hp : P i c) :
    InvEndN h₀ L (KsN Led ps x stored m₀ P i) own adr s₁ { s₁ with heap := h', toks := tk } :=
  InvEndN.intro F N ⟨c, rfl, hk, hr, hp⟩ ha hn ho
/-- a loop over a range by ones -/
theorem iter_rangeN {σ : Type} {r : Addr} {a₀ b₀ : Int} {t₀ u₀ v₀ : Tok} {n : Nat} {m₀ : Str → Option Value} (Led : σ → List (Addr × Obj)) (ps : σ → List (Str × Value)) (stored : List Str) (P : Nat → σ → Prop) (c₀ : σ)
    (hh : A.handled = none) (hr : IsRange s.heap r a₀ b₀ 1 t₀ u₀ v₀) (hsmall : Builtin.Range.small a₀ b₀ 1 = true) (hn : Builtin.Range.rangeSize a₀ b₀ 1 = (n : Int)) (F : Fr h₀ env.locals s.heap m₀) (N : News h₀ env.locals s.heap (Led c₀)) (hk : ∀ p ∈ ps c₀, m₀ p.1 = some p.2) (hp : P 0 c₀)
    (turn : ∀ (c : σ) (i : Nat) t (u : Str → Option Value) h tk own, i < n → OwnOff own ((Led c₀).map (·.1)) → P i c →
      Fr h₀ env.locals h (fun y => if y = x then some (.int (a₀ + i) t) else kstB (fun z => if stored.contains z then u z else m₀ z) (ps c) y) → News h₀ env.locals h (Led c ++ own) →
      wpAny (model prog w) A (execs body env) (InvPostN h₀ env.locals (KsN Led ps x stored m₀ P (i + 1)) own ((Led c₀).map (·.1)) { s with heap := h, toks := tk } Q) E { s with heap := h, toks := tk })
    (done : ∀ (c : σ) (u : Str → Option Value) h tk, P n c → Fr h₀ env.locals h (fun y => if y = x then u y else kstB (fun z => if stored.contains z then u z else m₀ z) (ps c) y) → News h₀ env.locals h (Led c) → Q .next { s with heap := h, toks := tk }) :
    wpAny (model prog w) A (pyIter (.ref r)) (fun it s₂ => LoopAtV prog w A h₀ env x body Q E it s₂) E s := by
  refine wpAny_pyIter_range hr hsmall ?_
  have W : Walks prog w A s.heap.objs.size [s.heap.objs.size] [s.heap.objs.size] n (fun i v => i < n ∧ ∃ t, v = .int (a₀ + i * 1) t)
      (fun i h => IsRangeIter h s.heap.objs.size (a₀ + (i : Nat) * 1) ((n : Int) - (i : Nat)) 1) := (Walks.range hh _ a₀ 1 n).bound
  refine loopN Led ps stored P c₀ W ?_ ?_ ?_ ?_ (by show IsRangeIter _ _ _ _ _; rw [hn]; simpa using Heap.get?_push_size _ rfl) (F.push _) (fun p hp => ⟨Heap.get?_push_of_some _ (N p hp).1, (N p hp).2⟩) hk hp ?_ ?_
  · intro hm
    exact absurd F.ns.lt ((List.mem_singleton.mp hm) ▸ Nat.lt_irrefl _)
  · intro b hb
    rw [List.mem_singleton.mp hb]
    exact next_is_new F
  · intro p hp hI
    exact absurd (Heap.lt_size (N p hp).1) ((List.mem_singleton.mp hI) ▸ Nat.lt_irrefl _)
  · intro p hp hI
    exact absurd (Heap.lt_size (N p hp).1) ((List.mem_singleton.mp hI) ▸ Nat.lt_irrefl _)
  · rintro c i v u h tk own hi ⟨_, t, rfl⟩ hoff hp' F₁ N₁
    rw [show a₀ + (i : Int) * 1 = a₀ + (i : Int) by omega] at F₁
    exact turn c i t u h tk own hi hoff hp' F₁ N₁
  · exact done
/-- a loop over a list of ints, from behind -/
theorem iter_revN {σ : Type} {I l : Addr} {vs : List Value} {ns : List Int} {m₀ : Str → Option Value} (Led : σ → List (Addr × Obj)) (ps : σ → List (Str × Value)) (stored : List Str) (P : Nat → σ → Prop) (c₀ : σ)
    (hh : A.handled = none) (hit : s.heap.IsRevIter I l ((vs.toArray.size : Int) - 1)) (hl : s.heap.IsList l vs.toArray) (hi : IntsAre vs ns) (hIl : l ≠ I) (hIL : env.locals ≠ I) (hlL : env.locals ≠ l) (hI0 : h₀.get? I = none)
    (hfp : ∀ q ∈ Led c₀, q.1 ≠ I ∧ q.1 ≠ l) (F : Fr h₀ env.locals s.heap m₀) (N : News h₀ env.locals s.heap (Led c₀)) (hk : ∀ p ∈ ps c₀, m₀ p.1 = some p.2) (hp : P 0 c₀)
    (turn : ∀ (c : σ) (i : Nat) t (u : Str → Option Value) h tk own, i < ns.length → OwnOff own ((Led c₀).map (·.1)) → P i c →
      Fr h₀ env.locals h (fun y => if y = x then some (.int (ns.getD (ns.length - 1 - i) 0) t) else kstB (fun z => if stored.contains z then u z else m₀ z) (ps c) y) → News h₀ env.locals h (Led c ++ own) →
      wpAny (model prog w) A (execs body env) (InvPostN h₀ env.locals (KsN Led ps x stored m₀ P (i + 1)) own ((Led c₀).map (·.1)) { s with heap := h, toks := tk } Q) E { s with heap := h, toks := tk })
    (done : ∀ (c : σ) (u : Str → Option Value) h tk, P ns.length c → Fr h₀ env.locals h (fun y => if y = x then u y else kstB (fun z => if stored.contains z then u z else m₀ z) (ps c) y) → News h₀ env.locals h (Led c) → Q .next { s with heap := h, toks := tk }) :
    wpAny (model prog w) A (pyIter (.ref I)) (fun it s₂ => LoopAtV prog w A h₀ env x body Q E it s₂) E s := by
  refine wpAny_pyIter_revIter hit ?_
  have W := Walks.listRev (prog := prog) (w := w) hh I l hIl vs.toArray
  have hlen : vs.toArray.size = ns.length := by simp [hi.length]
  rw [hlen] at W hit
  refine loopN Led ps stored P c₀ W ?_ ?_ ?_ ?_ ⟨Nat.zero_le _, by simpa using hit, hl⟩ F N hk hp ?_ ?_
  · intro hm
    rcases List.mem_cons.mp hm with e | hm
    · exact hIL e
    · exact hlL (List.mem_singleton.mp hm)
  · intro b hb
    rw [List.mem_singleton.mp hb]
    exact hI0
  · intro p hp hm
    exact (hfp p hp).1 (List.mem_singleton.mp hm)
  · intro p hp hm
    rcases List.mem_cons.mp hm with e | hm
    · exact (hfp p hp).1 e
    · exact (hfp p hp).2 (List.mem_singleton.mp hm)
  · rintro c i v u h tk own hi' hv hoff hp' F₁ N₁
    have hj : ns.length - 1 - i < ns.length := by omega
    obtain ⟨t, ht⟩ := hi.get (ns.length - 1 - i) ns[ns.length - 1 - i] (by simp [hj])
    have hv2 : v = .int ns[ns.length - 1 - i] t := by
      have : vs[ns.length - 1 - i]? = some v := by simpa using hv
      rw [ht] at this; exact (Option.some.inj this).symm
    subst hv2
    have e : ns.getD (ns.length - 1 - i) 0 = ns[ns.length - 1 - i] := by rw [List.getD_eq_getElem?_getD, List.getElem?_eq_getElem hj]; rfl
    rw [← e] at F₁
    exact turn c i t u h tk own hi' hoff hp' F₁ N₁
  · exact done
end
/-- a contract's use upon a part of the ledger -/
theorem ctr_useL {w : World} {f : Addr} {d u : Nat} {vs : List Value} {led : List (Addr × Obj)} {Pre : Heap → Prop} {Post : List (Addr × Obj) → Value → Prop} (C : CtrF w f d u vs led Pre Post)
    {p : Program} {loose : List Str} {mean : ExcName → Option Value} {mg mb : Str → Option Value} {dp un : Nat} {gd : Option (List Code)} {cn : Str} {cs : Scope} {a : Addr} {ccd : Value} {cl : List (Str × Addr)} {outer : List Env} {A₀ : Around} {base h₀ : Heap} {L : Addr} {m : Str → Option Value} {s : Shared}
    {Q E : Value → Shared → Prop} {news : List (Addr × Obj)} (rest : List (Addr × Obj)) (B : Below A₀ base outer h₀) (F : Fr h₀ L s.heap m) (X : (Mine.pre.heap_1 w.params).In h₀) (N : News h₀ L s.heap news) (T : Top p loose mean mg mb h₀) (hk : cs.kind = .function) (hl : ∀ p ∈ led, p ∈ news) (hr : ∀ p ∈ rest, p ∈ news) (hne : ∀ p ∈ rest, ∀ q ∈ led, p.1 ≠ q.1) (hp : Pre s.heap) (hd' : dp + d < recursionLimit) (hu : un + u < cLine)
    (ret : ∀ r led' h' tk', Fr h₀ L h' m → News h₀ L h' (led' ++ rest) → (∀ p ∈ led', ∀ q ∈ rest, p.1 ≠ q.1) → Post led' r → Q r { s with heap := h', toks := tk' }) :
    wpAny (model PySem.Challenge.rw_xj0024_01.row.prog w) (ktrTop dp un gd cn cs L a ccd cl outer) (call (.ref f) vs) Q E s := by
  have hr' : ∀ p ∈ rest, p.1 ∉ led.map (·.1) := fun p hp hm => by
    obtain ⟨q, hq, e⟩ := List.mem_map.mp hm
    exact hne p hp q hq e.symm
  exact C _ _ _ _ _ _ _ _ _ _ _ _ _ _ _ _ _ _ _ _ _ _ B F X (kst_newsOf N hl) T hk hp hd' hu fun r led' h' tk' F' N' hn hk' hP => ret r led' h' tk' F' (news_rest (kst_newsOf N hr) hr' hk' N') (ne_rest (kst_newsOf N hr) hr' hn) hP
/-- d is no address of l -/
def AllNe (d : Nat) : List (Addr × Obj) → Prop
  | [] => True
  | p :: r => @Ne Nat d p.1 ∧ AllNe d r
theorem allNe_of {d : Addr} : ∀ {l : List (Addr × Obj)}, (∀ q ∈ l, d ≠ q.1) → AllNe d l
  | [], _ => trivial
  | _ :: _, h => ⟨h _ (.head _), allNe_of fun q hq => h q (.tail _ hq)⟩
theorem ne_all {led' rest : List (Addr × Obj)} {p : Addr × Obj} (h : ∀ p ∈ led', ∀ q ∈ rest, p.1 ≠ q.1) (hp : p ∈ led') : AllNe p.1 rest := allNe_of (h p hp)
end
/- part K3 -/
section
open PySem PySem.W PyProof.Rows PySem.Calls PySem.Spec
set_option maxRecDepth 100000
set_option maxHeartbeats 8000000

section
variable {prog : Program} {w : World} {A : Around} {E : Value → Shared → Prop} {s : Shared} {h₀ : Heap} {L : Addr} {m : Str → Option Value} {news rest : List (Addr × Obj)}
/-- an iterator of a list, before its i-th item -/
def IsIt (o : Obj) (l : Addr) (i : Nat) : Prop := o.cls = .type "list_iterator" ∧ o.data = .fields #[.ref l, .int i 0]
theorem it_make {l : Addr} {its : Array Value} {k : Nat} {Q : Value → Shared → Prop} (F : Fr h₀ L s.heap m) (N : News h₀ L s.heap news) (hm : (l, listOf its k) ∈ news)
    (h : ∀ I oI h', IsIt oI l 0 → Fr h₀ L h' m → News h₀ L h' ((I, oI) :: news) → AllNe I news → Q (.ref I) { s with heap := h' }) : wpAny (model prog w) A (pyIter (.ref l)) Q E s := by
  refine wpAny_pyIter_list (News.isList N hm) (h _ { cls := .type "list_iterator", data := .fields #[.ref l, .int 0 0] } _ ⟨rfl, rfl⟩ (F.push _) ?_ ?_)
  · intro p hp
    rcases List.mem_cons.mp hp with rfl | hp
    · exact ⟨Heap.get?_push_size _ rfl, Nat.ne_of_gt F.ns.lt, next_is_new F⟩
    · exact ⟨Heap.get?_push_of_some _ (N p hp).1, (N p hp).2⟩
  · exact allNe_of fun p hp => Nat.ne_of_gt (Heap.lt_size (N p hp).1)
theorem AllNe.mem {I : Addr} {l : List (Addr × Obj)} (h : AllNe I l) : ∀ p ∈ l, I ≠ p.1 := by
  induction l with
  | nil => intro p hp; exact absurd hp List.not_mem_nil
  | cons q r ih =>
    intro p hp
    rcases List.mem_cons.mp hp with e | hp
    · rw [e]; exact h.1
    · exact ih h.2 p hp
theorem it_next {I l : Addr} {oI : Obj} {its : Array Value} {k i : Nat} {x : Value} {Q : Option Value → Shared → Prop} (F : Fr h₀ L s.heap m) (N : News h₀ L s.heap news) (hI : (I, oI) ∈ news) (hs : ∀ p ∈ rest, p ∈ news) (hit : IsIt oI l i) (hl : (l, listOf its k) ∈ rest) (hne : AllNe I rest) (hx : its.toList[i]? = some x)
    (h : ∀ oI' h', IsIt oI' l (i + 1) → Fr h₀ L h' m → News h₀ L h' ((I, oI') :: rest) → Q (some x) { s with heap := h' }) : wpAny (model prog w) A (pyNext (.ref I)) Q E s := by
  have hII := N _ hI
  refine wpAny_pyNext_list_item ⟨oI, hII.1, hit.1, hit.2⟩ (News.isList N (hs _ hl)) (by simpa using hx) fun h' hit' hsb => ?_
  obtain ⟨oI', e', c', d'⟩ := hit'
  refine h oI' h' ⟨c', d'⟩ ⟨F.ns.sameBut hsb (Ne.symm hII.2.1), fun b ob e => (hsb.2 b (fun q => ?_)).trans (F.keep b ob e), F.above⟩ ?_
  · subst q
    rw [hII.2.2] at e; cases e
  · intro p hp
    rcases List.mem_cons.mp hp with rfl | hp
    · exact ⟨e', hII.2⟩
    · exact ⟨(hsb.2 _ (Ne.symm (AllNe.mem hne p hp))).trans (N p (hs p hp)).1, (N p (hs p hp)).2⟩
theorem it_end {I l : Addr} {oI : Obj} {its : Array Value} {k i : Nat} {Q : Option Value → Shared → Prop} (hh : A.handled = none) (F : Fr h₀ L s.heap m) (N : News h₀ L s.heap news) (hI : (I, oI) ∈ news) (hs : ∀ p ∈ rest, p ∈ news) (hit : IsIt oI l i) (hl : (l, listOf its k) ∈ rest) (hne : AllNe I rest) (hx : its.toList[i]? = none)
    (h : ∀ h', Fr h₀ L h' m → News h₀ L h' rest → Q none { s with heap := h' }) : wpAny (model prog w) A (pyNext (.ref I)) Q E s := by
  have hII := N _ hI
  refine wpAny_pyNext_list_end hh ⟨oI, hII.1, hit.1, hit.2⟩ (News.isList N (hs _ hl)) (by simpa using hx) fun h' hx' => h h' ⟨F.ns.extBut hx' (Ne.symm hII.2.1), fun b ob e => hx' b ob (fun q => ?_) (F.keep b ob e), F.above⟩ fun p hp => ⟨hx' _ _ (Ne.symm (AllNe.mem hne p hp)) (N p (hs p hp)).1, (N p (hs p hp)).2⟩
  subst q
  rw [hII.2.2] at e; cases e
end
end
/- part K4 -/
section
open PySem PySem.W PyProof.Rows PySem.Calls PySem.Spec
set_option maxRecDepth 100000
set_option maxHeartbeats 8000000

open Builtin Builtin.Str Builtin.BaseException Builtin.Exceptions
section
variable {prog : Program} {w : World} {A : Around} {E : Value → Shared → Prop} {s : Shared} {K : Frag} {C e t0 : Addr} {m : Str} {u : Tok}
/-- an own exception with one text as its arguments -/
def OwnExc (h : Heap) (C e t0 : Addr) (m : Str) (u : Tok) : Prop := (∃ o vs, h.get? e = some o ∧ o.cls = .ref C ∧ o.data = .fields vs ∧ vs[0]? = some (.ref t0)) ∧ h.TupAt t0 [.str m u]
theorem own_args {M : Model} {Q : Value × List Value → Shared → Prop} (x : OwnExc s.heap C e t0 m u) (hq : Q (.ref t0, [.str m u]) s) : wpAny M A (bexcArgs (.ref e)) Q E s := by
  obtain ⟨⟨o, vs, ho, _, hd, h0⟩, ot, k, hto, _, htd⟩ := x
  unfold bexcArgs
  refine wpAny_bind (wpAny_field ho hd h0 (wpAny_bind (wpAny_seqItems hto htd ?_)))
  exact wpAny_pure hq
theorem own_check {M : Model} {Q : Unit → Shared → Prop} (X : K.In s.heap) (q : ktsIn K C "BaseException" = true) (x : OwnExc s.heap C e t0 m u) (hq : Q () s) : wpAny M A (checkBuiltinCall "BaseException.__str__" ⟨[.ref e], []⟩) Q E s := by
  obtain ⟨h, gs, d, t, os⟩ := s
  obtain ⟨⟨o, vs, ho, hc, hd, h0⟩, _⟩ := x
  obtain ⟨nm, qn, N, bs, bm, hdct, sn, sub, ab, col, dd, k0, k1, k2, k3, k5, newId, hC, hbase, _⟩ := kts_cls X q
  have hk : builtinKind "BaseException.__str__" = some .slot := by decide +kernel
  have hsplit : splitId "BaseException.__str__" = some ("BaseException", "__str__") := by decide +kernel
  have hcB : (Value.ref C :: bm).contains (.type "BaseException") = true := by rw [List.contains_cons, hbase]; simp
  have ha := F.args_bexc_str (.ref e)
  simp only [checkBuiltinCall, hk, hsplit]
  refine wpAny_bind ?_
  unfold isInstance
  repeat (first | (with_reducible refine wpAny_loadPart_at ho ?_; rw [hc]) | (with_reducible refine wpAny_isSubtype_exc hC ?_; rw [hcB]) | wp_step)
  exact hq
theorem own_bexcStr {Q : Value → Shared → Prop} (X : K.In s.heap) (q : ktsIn K C "BaseException" = true) (x : OwnExc s.heap C e t0 m u) (hq : Q (.str m u) s) :
    wpAny (model prog w) A (call (.builtin "BaseException.__str__") [.ref e]) Q E s := by
  refine wpAny_call (codeAny_call_builtin (F.excStr_Exception.str).plain F.entry_bexc_str (own_check X q x ?_))
  unfold Builtin.«BaseException.__str__»
  repeat (first | with_reducible refine own_args x ?_ | wp_step)
  exact hq
theorem own_strOf {Q : Value → Shared → Prop} (hu : A.units < cLine) (X : K.In s.heap) (q : ktsIn K C "BaseException" = true) (hs : findIn K (.ref C) "__str__" = some (some (.builtin "BaseException.__str__"))) (x : OwnExc s.heap C e t0 m u) (hq : Q (.str m u) s) :
    wpAny (model prog w) A (PySem.Builtin.Str.strOf (.ref e)) Q E s := by
  have x' := x
  obtain ⟨⟨o, vs, ho, hc, hd, h0⟩, _⟩ := x'
  have ty : Looks (model prog w) s.heap (typeOf (.ref e)) (.ref C) := hc ▸ (Looks.ld ho).andThen .now
  unfold PySem.Builtin.Str.strOf
  rw [show isExactStr (.ref e) = false from rfl]
  refine wpAny_bind (m := cRoomFor _ _) (wpAny_cRoomFor hu ?_)
  refine wpAny_bind (m := callSpecial? (.ref e) (Str.ofString "__str__")) ?_
  refine wpAny_bind (wpAny_bind (ty.here ((looks_findIn X hs).here (wpAny_holding (wpAny_bind (wpAny_of_eq ((F.excStr_Exception.str).bind _) (wpAny_bind (wpAny_mono (own_bexcStr X q x (Q := fun v s' => v = .str m u ∧ s' = s) ⟨rfl, rfl⟩) (fun v s' h => ?_) fun _ _ z => z))))))))
  obtain ⟨rfl, rfl⟩ := h
  exact wpAny_pure (wpAny_pure hq)
theorem str_ownExc {Q : Value → Shared → Prop} (hu : A.units + 2 < cLine) (X : K.In s.heap) (q : ktsIn K C "BaseException" = true) (hs : findIn K (.ref C) "__str__" = some (some (.builtin "BaseException.__str__"))) (x : OwnExc s.heap C e t0 m u) (hq : Q (.str m u) s) :
    wpAny (model prog w) A (call (.type "str") [.ref e]) Q E s :=
  callType_new F.called_str (by decide) (F.typeCall_str_1 _) (F.newCall_str_1 _) (fun obj => F.args_object_init_2 obj _) F.entry_str_new
    (meets_str_new (S := fun A' R s' => A'.units + 1 < cLine ∧ K.In s'.heap ∧ OwnExc s'.heap C e t0 m u ∧ R (.ok (.ret (.str m u))) s')
      fun _ _ A' _ _ hq => own_strOf (A := A'.in1) hq.1 hq.2.1 q hs hq.2.2.1 hq.2.2.2)
    ⟨(show A.units + 1 + 1 < cLine from hu), X, x, typeIs_str _ _ _, hq⟩
end
end
/- part K5 -/
section
open PySem PySem.W PyProof.Rows PySem.Calls PySem.Spec
set_option maxRecDepth 100000
set_option maxHeartbeats 8000000

section
variable {M : Model} {A : Around} {E : Value → Shared → Prop} {s : Shared} {name : Str} {scope : Scope} {L a : Addr} {cd : Value} {cl : List (Str × Addr)} {h₀ : Heap} {m : Str → Option Value} {news : List (Addr × Obj)}
/-- behind a suite its name goes, in a frame with cells -/
theorem goesX {n : Str} {pos : Pos} {Q : Unit → Shared → Prop} (F : Fr h₀ L s.heap m) (N : News h₀ L s.heap news)
    (h : ∀ h' v, Fr h₀ L h' (fun x => if x = n then v else m x) → News h₀ L h' news → Q () { s with heap := h', toks := s.toks + 1 })
    (hk : scope.kind = .function := by rfl) (hl : (envX name scope L a cd cl).kindOf n = some .local := by rfl) :
    wpAny M A (do bindName (envX name scope L a cd cl) n .none; unbindBehindTheSuite (envX name scope L a cd cl) n pos) Q E s :=
  wpAny_nameGoes_keeps hl F.ns (by show (scope.kind == .class || (scope.kind == .module && L != mainGlobals)) = false; rw [hk]; rfl) fun h' v hn hs => h h' v (F.set hn hs) (N.set hs)
end
end
local macro_rules | `(tactic| walk_at "CJ!") => `(tactic| with_reducible first | assumption | (apply And.left; (iterate 14 (first | done | assumption | apply And.right)); done) | ((iterate 14 (first | done | assumption | apply And.right)); done))
local macro_rules | `(tactic| walk_at "OM!") => `(tactic| with_reducible first | assumption | exact rmz (by assumption) | exact rm0 (by assumption) (by decide) | exact rmA (by assumption) (by decide) | exact rmB (by assumption) (by decide) | (show @Ne Nat _ _; first | exact o12 | exact o13 | exact lt3 (by walk_at "CJ!") | exact lt2 (by walk_at "CJ!") | exact lt1 (by walk_at "CJ!") | exact Nat.ne_of_gt (by walk_at "CJ!") | (symm; first | exact o12 | exact o13 | exact lt3 (by walk_at "CJ!") | exact lt2 (by walk_at "CJ!") | exact lt1 (by walk_at "CJ!") | exact Nat.ne_of_gt (by walk_at "CJ!"))) | exact Nat.le_trans (by assumption) (by decide) | exact Nat.le_trans (by assumption) (by assumption) | exact And.left (by assumption) | exact And.right (by assumption) | exact Int.le_of_lt (by assumption) | exact Int.ne_of_gt (by assumption) | exact Int.natCast_nonneg _ | exact absLe (by assumption) (by decide) | exact absLt (by assumption) (by decide) | exact Int.add_comm _ _ | decide | (show False; contradiction))
local macro_rules | `(tactic| walk_at "X!enterP") => `(tactic| (refine' code_defX0 ?k1 ?k2 ?k3 ?k4 ?k5 ?kA ?kF ?kK ?k6 ?k7 ?k8 ?k9 ?kB ?_ ?c2 ?c3 ?c4 ?c5; (case kA => exact rfl); (case kF => exact rfl); (case kK => first | exact rfl | assumption); (case k1 => k_asm); (case k2 => k_asm); (case k3 => k_asm); (case k4 => k_asm); (case k5 => k_asm); (case k6 => k_is); (case k7 => k_is); (case k8 => ktr_room); (case k9 => exact BindsTo.of_eq rfl); (case c5 => decide); (case kB => exact locs rfl); (case c2 => exact rfl); (case c3 => exact rfl); (case c4 => exact rfl); k_whole; intro g' L' h' FG' F' N' B' X' T' D'; (try dsimp only); (try k_lift B'); (try k_fold)))
local macro_rules | `(tactic| walk_at "X!enterC") => `(tactic| (refine' code_defXC0 ?k1 ?k2 ?k3 ?k4 ?k5 ?kA ?kF ?kK ?k6 ?k7 ?k8 ?k9 ?kB ?kD ?_ ?c2 ?c3 ?c4; (case kA => exact rfl); (case kF => exact rfl); (case kK => first | exact rfl | assumption); (case k1 => k_asm); (case k2 => k_asm); (case k3 => k_asm); (case k4 => k_asm); (case k5 => k_asm); (case k6 => k_is); (case k7 => k_is); (case k8 => ktr_room); (case k9 => exact BindsTo.of_eq rfl); (case kB => exact rfl); (case kD => decide +kernel); (case c2 => exact rfl); (case c3 => exact rfl); (case c4 => exact rfl); k_whole; intro g' L' h' tk' cells' FG' F' N' Y' B' X' T' D' l1; (try k_lt l1); k_cells Y'; (try simp only [List.cons_append, List.nil_append] at N'); (try dsimp only); (try k_lift B'); (try k_fold)))
/- part E0 -/
section
open PySem PySem.W PyProof.Rows PySem.Calls PySem.Spec
set_option maxRecDepth 100000
set_option maxHeartbeats 8000000
theorem quiet_E0 {M : Model} {A : Around} {E : Value → Shared → Prop} {Q : Flow → Shared → Prop} {env : Env} {s : Shared} (h : wpAny M A (execs [] env) Q E s) : wpAny M A (execs [] env) Q E s := by
  w_top off
  k_with_none
  first | (walk1; fail) | exact h
local macro_rules | `(tactic| omega) => `(tactic| walk_at "OM!")
local macro_rules | `(tactic| k_ne) => `(tactic| (refine neN ?_; (try dsimp only); first | (walk_at "CJ!") | exact Nat.ne_of_gt (by walk_at "CJ!") | exact Nat.ne_of_lt (by walk_at "CJ!") | exact Ne.symm (by walk_at "CJ!")))

local macro_rules | `(tactic| walk_at "EscPost") => `(tactic| k_extra "EP!")
local macro_rules | `(tactic| walk_at "call builtin:str.replace") => `(tactic| k_extra "RP!")
local macro_rules | `(tactic| walk_at "eval Name") => `(tactic| k_extra "NM!")
local macro_rules | `(tactic| walk_at "storeName") => `(tactic| k_extra "SN!")
theorem rp_rule {prog : Program} {w : World} {A : Around} {E : Value → Shared → Prop} {s : Shared} {x y z : Str} {t : Tok} {u v : Nat} {Q : Value → Shared → Prop} (hu : 1 ≤ u) (huv : u < v) (hyz : (y == z) = false) (hx : x.length ≤ 1048576) (hz : z.length ≤ 14)
    (hq : ∀ t' k, Q (.str (Txt.replace x y z) t') { s with toks := k }) : wpAny (model prog w) A (call (.builtin "str.replace") [.str x t, .str y u, .str z v]) Q E s :=
  SC.replaceW (Nat.pos_iff_ne_zero.mp hu) (Nat.pos_iff_ne_zero.mp (Nat.lt_of_le_of_lt (Nat.zero_le _) huv)) (Nat.ne_of_lt huv) hyz hx hz hq
def scE : Scope := { kind := .function, names := [(Str.ofString "text", .local), (Str.ofString "TypeError", .globalImplicit), (Str.ofString "AttributeError", .globalImplicit), (Str.ofString "_raise_serialization_error", .globalImplicit)], isGenerator := false, isCoroutine := false }
local macro_rules | `(tactic| walk_at "eval Call Attribute") => `(tactic| k_extra "MC!")
theorem mc_eq (env : Env) (p5 p6 p7 p8 p9 : Pos) (cs rs : Str) (hpos : (p6.endLine == p9.line) = true) :
    eval (((Expr.Name (Str.ofString "text") p5).Attribute (Str.ofString "replace") p6).Call [.Constant (.str cs) 0 p7, .Constant (.str rs) 0 p8] [] p9) env = (do
      let ov ← eval (.Name (Str.ofString "text") p5) env
      standAt p6.atName
      let (f, first) ← holding [ov] (getMethod ov (Str.ofString "replace") (do return (← importBound (.Name (Str.ofString "text") p5) env).getD true))
      callWith p9 f first (backTo p9 (starEach [.Constant (.str cs) 0 p7, .Constant (.str rs) 0 p8] env)) []) := by
  have hp : methodCallPos true (.Name (Str.ofString "text") p5) env p6 p9 = pure p9 := by
    unfold methodCallPos
    rw [hpos]; rfl
  have e : ∀ ov : Value, methodCall (.Name (Str.ofString "text") p5) (Str.ofString "replace") p6 p9 env ov 2 (backTo p9 (starEach [.Constant (.str cs) 0 p7, .Constant (.str rs) 0 p8] env)) [] = (do
      let (f, first) ← holding [ov] (getMethod ov (Str.ofString "replace") (do return (← importBound (.Name (Str.ofString "text") p5) env).getD true))
      callWith p9 f first (backTo p9 (starEach [.Constant (.str cs) 0 p7, .Constant (.str rs) 0 p8] env)) []) := by
    intro ov
    unfold methodCall
    rw [show methodCallForm 2 (backTo p9 (starEach [.Constant (.str cs) 0 p7, .Constant (.str rs) 0 p8] env)) [] = true from rfl, hp]
    rfl
  show (do
      let ov ← eval (.Name (Str.ofString "text") p5) env
      standAt p6.atName
      methodCall (.Name (Str.ofString "text") p5) (Str.ofString "replace") p6 p9 env ov 2 (backTo p9 (starEach [.Constant (.str cs) 0 p7, .Constant (.str rs) 0 p8] env)) []) = _
  simp only [e]
theorem esc_if {prog : Program} {w : World} {A : Around} {E : Value → Shared → Prop} {g hp : Heap} {L f : Addr} {cd : Value} {q : Str} {sc : Scope} {m : Str → Option Value} {gens : Array GenState} {drawn : Drawn} {tk0 : Nat} {os : OsState} {T : Tab} {c : Nat} {r l : List Nat} {cs rs : Str} {t : Tok} {p1 p2 p3 p4 p5 p6 p7 p8 p9 p10 p11 : Pos}
    (es : sc = scE)
    (F : Fr g L hp m) (hm : m (Str.ofString "text") = some (.str (tx (escL T l)) t)) (hx : (tx (escL T l)).length ≤ 60000)
    (hT : tabOk T c = true) (hc : cs = tx [c]) (hr : rs = tx r) (hpos : (p6.endLine == p9.line) = true) (hr14 : rs.length ≤ 14) (hcr : (cs == rs) = false) :
    wpAny (model prog w) A (exec (.If ((Expr.Constant (.str cs) 0 p1).Compare [.In] [.Name (Str.ofString "text") p2] p3) [.Assign [.Name (Str.ofString "text") p4] (((Expr.Name (Str.ofString "text") p5).Attribute (Str.ofString "replace") p6).Call [.Constant (.str cs) 0 p7, .Constant (.str rs) 0 p8] [] p9) p10] [] p11) (envOf q sc L f cd)) (EscPost g L m (tx (escL (T ++ [(c, r)]) l)) gens drawn os) E ⟨hp, gens, drawn, tk0, os⟩ := by
  unfold scE at es
  subst es
  have N : News g L hp [] := News.nil
  k_with "MC!" => (k_dflt (refine MethodCall_ ?_ (mc_eq _ _ _ _ _ _ _ _ hpos)))
  k_with "NM!" => (k_dflt (refine' nameX_L ?f1 hm ?_ rfl rfl rfl; (case f1 => assumption)))
  k_with "SN!" => (k_dflt (refine' storeX_L ?f1 ?n1 ?_ rfl rfl; (case f1 => assumption); (case n1 => exact News.nil)); intro h' F' N')
  k_with "RP!" => (refine rp_rule (by assumption) (by first | exact Nat.lt_succ_self _ | (dsimp only; omega)) hcr (by omega) hr14 ?_; intro t9 k9)
  k_with "EP!" => (first
    | (refine escPost_new (?_ : Txt.replace (tx (escL T l)) cs rs = _) (by assumption); exact step_replace hT hc hr)
    | (refine escPost_same hm ?_ (by assumption); exact step_none hT hc (by assumption)))
  k_steps
  all_goals trace_state
end
/- part E1 -/
section
open PySem PySem.W PyProof.Rows PySem.Calls PySem.Spec PySem.StrLaws
set_option maxRecDepth 100000
set_option maxHeartbeats 8000000
theorem quiet_E1 {M : Model} {A : Around} {E : Value → Shared → Prop} {Q : Flow → Shared → Prop} {env : Env} {s : Shared} (h : wpAny M A (execs [] env) Q E s) : wpAny M A (execs [] env) Q E s := by
  w_top off
  k_with_none
  first | (walk1; fail) | exact h
local macro_rules | `(tactic| omega) => `(tactic| walk_at "OM!")
local macro_rules | `(tactic| k_ne) => `(tactic| (refine neN ?_; (try dsimp only); first | (walk_at "CJ!") | exact Nat.ne_of_gt (by walk_at "CJ!") | exact Nat.ne_of_lt (by walk_at "CJ!") | exact Ne.symm (by walk_at "CJ!")))

local macro_rules | `(tactic| walk_at "exec If") => `(tactic| k_extra "IF!")
theorem News.of_nil {g h : Heap} {L : Addr} {m : Str → Option Value} (_ : Fr g L h m) : News g L h [] := News.nil
theorem text_is {g h : Heap} {L : Addr} {m : Str → Option Value} (_ : Fr g L h m) {v : Str} (h : ∃ t, m (Str.ofString "text") = some (.str v t)) : ∃ t, m (Str.ofString "text") = some (.str v t) := h
theorem esc_short (l : List Nat) (T : Tab) (h : (T.all fun p => decide (p.2.length ≤ 6)) = true) (hl : l.length ≤ 10000) : (tx (escL T l)).length ≤ 60000 := by
  rw [tx_len]
  have := escL_len h l
  omega
theorem ctr_esc0 (w : World) (l : List Nat) (tk0 : Tok) (hl : l.length ≤ 10000) : CtrF w 95 1 8 [.str (tx (escL [] l)) tk0] [] (fun _ => True) (fun _ r => ∃ t, r = .str (tx (escL tab0 l)) t) := by
  unfold CtrF
  k_fill
  intro p loose mean mg mb dp un gd cn cs a ccd cl outer A₀ base h₀ L m s Q E B F X N T hk hpre hd' hu hret
  refine wpAny_call ?_
  walk_at "F!enter"
  k_with "IF!" => (
    rename Fr _ _ _ _ => lF'
    first
    | (have hM := text_is lF' (v := tx (escL [] l)) ⟨_, by with_unfolding_all rfl⟩; obtain ⟨tM, hM⟩ := hM; have hZ := esc_short l [] (by decide) hl; k_dflt (refine esc_cut lF' (tx (escL (tab0.take 1) l)) (esc_if (T := []) (c := 38) (r := [38, 97, 109, 112, 59]) rfl lF' hM hZ (by decide) (by decide +kernel) (by decide +kernel) rfl (by decide +kernel) (by decide +kernel)) ?_); intro t' h' tk' F'; have N' := News.of_nil F')
    | (have hM := text_is lF' (v := tx (escL (tab0.take 1) l)) ⟨_, by with_unfolding_all rfl⟩; obtain ⟨tM, hM⟩ := hM; have hZ := esc_short l (tab0.take 1) (by decide) hl; k_dflt (refine esc_cut lF' (tx (escL (tab0.take 2) l)) (esc_if (T := (tab0.take 1)) (c := 60) (r := [38, 108, 116, 59]) rfl lF' hM hZ (by decide) (by decide +kernel) (by decide +kernel) rfl (by decide +kernel) (by decide +kernel)) ?_); intro t' h' tk' F'; have N' := News.of_nil F')
    | (have hM := text_is lF' (v := tx (escL (tab0.take 2) l)) ⟨_, by with_unfolding_all rfl⟩; obtain ⟨tM, hM⟩ := hM; have hZ := esc_short l (tab0.take 2) (by decide) hl; k_dflt (refine esc_cut lF' (tx (escL (tab0.take 3) l)) (esc_if (T := (tab0.take 2)) (c := 62) (r := [38, 103, 116, 59]) rfl lF' hM hZ (by decide) (by decide +kernel) (by decide +kernel) rfl (by decide +kernel) (by decide +kernel)) ?_); intro t' h' tk' F'; have N' := News.of_nil F')
    | (have hM := text_is lF' (v := tx (escL (tab0.take 3) l)) ⟨_, by with_unfolding_all rfl⟩; obtain ⟨tM, hM⟩ := hM; have hZ := esc_short l (tab0.take 3) (by decide) hl; k_dflt (refine esc_cut lF' (tx (escL (tab0.take 4) l)) (esc_if (T := (tab0.take 3)) (c := 34) (r := [38, 113, 117, 111, 116, 59]) rfl lF' hM hZ (by decide) (by decide +kernel) (by decide +kernel) rfl (by decide +kernel) (by decide +kernel)) ?_); intro t' h' tk' F'; have N' := News.of_nil F')
    | (have hM := text_is lF' (v := tx (escL (tab0.take 4) l)) ⟨_, by with_unfolding_all rfl⟩; obtain ⟨tM, hM⟩ := hM; have hZ := esc_short l (tab0.take 4) (by decide) hl; k_dflt (refine esc_cut lF' (tx (escL (tab0.take 5) l)) (esc_if (T := (tab0.take 4)) (c := 13) (r := [38, 35, 49, 51, 59]) rfl lF' hM hZ (by decide) (by decide +kernel) (by decide +kernel) rfl (by decide +kernel) (by decide +kernel)) ?_); intro t' h' tk' F'; have N' := News.of_nil F')
    | (have hM := text_is lF' (v := tx (escL (tab0.take 5) l)) ⟨_, by with_unfolding_all rfl⟩; obtain ⟨tM, hM⟩ := hM; have hZ := esc_short l (tab0.take 5) (by decide) hl; k_dflt (refine esc_cut lF' (tx (escL (tab0.take 6) l)) (esc_if (T := (tab0.take 5)) (c := 10) (r := [38, 35, 49, 48, 59]) rfl lF' hM hZ (by decide) (by decide +kernel) (by decide +kernel) rfl (by decide +kernel) (by decide +kernel)) ?_); intro t' h' tk' F'; have N' := News.of_nil F')
    | (have hM := text_is lF' (v := tx (escL (tab0.take 6) l)) ⟨_, by with_unfolding_all rfl⟩; obtain ⟨tM, hM⟩ := hM; have hZ := esc_short l (tab0.take 6) (by decide) hl; k_dflt (refine esc_cut lF' (tx (escL (tab0.take 7) l)) (esc_if (T := (tab0.take 6)) (c := 9) (r := [38, 35, 48, 57, 59]) rfl lF' hM hZ (by decide) (by decide +kernel) (by decide +kernel) rfl (by decide +kernel) (by decide +kernel)) ?_); intro t' h' tk' F'; have N' := News.of_nil F'))
  k_steps
  all_goals first
    | (refine hret _ [] _ _ ?_ News.nil (fun _ h => nomatch h) ?_ ⟨_, rfl⟩ <;> assumption)
    | trace_state
theorem ctr_esc1 (w : World) (l : List Nat) (tk0 : Tok) (hl : l.length ≤ 10000) : CtrF w 102 1 8 [.str (tx (escL [] l)) tk0] [] (fun _ => True) (fun _ r => ∃ t, r = .str (tx (escL tab1 l)) t) := by
  unfold CtrF
  k_fill
  intro p loose mean mg mb dp un gd cn cs a ccd cl outer A₀ base h₀ L m s Q E B F X N T hk hpre hd' hu hret
  refine wpAny_call ?_
  walk_at "F!enter"
  k_with "IF!" => (
    rename Fr _ _ _ _ => lF'
    first
    | (have hM := text_is lF' (v := tx (escL [] l)) ⟨_, by with_unfolding_all rfl⟩; obtain ⟨tM, hM⟩ := hM; have hZ := esc_short l [] (by decide) hl; k_dflt (refine esc_cut lF' (tx (escL (tab1.take 1) l)) (esc_if (T := []) (c := 38) (r := [38, 97, 109, 112, 59]) rfl lF' hM hZ (by decide) (by decide +kernel) (by decide +kernel) rfl (by decide +kernel) (by decide +kernel)) ?_); intro t' h' tk' F'; have N' := News.of_nil F')
    | (have hM := text_is lF' (v := tx (escL (tab1.take 1) l)) ⟨_, by with_unfolding_all rfl⟩; obtain ⟨tM, hM⟩ := hM; have hZ := esc_short l (tab1.take 1) (by decide) hl; k_dflt (refine esc_cut lF' (tx (escL (tab1.take 2) l)) (esc_if (T := (tab1.take 1)) (c := 62) (r := [38, 103, 116, 59]) rfl lF' hM hZ (by decide) (by decide +kernel) (by decide +kernel) rfl (by decide +kernel) (by decide +kernel)) ?_); intro t' h' tk' F'; have N' := News.of_nil F')
    | (have hM := text_is lF' (v := tx (escL (tab1.take 2) l)) ⟨_, by with_unfolding_all rfl⟩; obtain ⟨tM, hM⟩ := hM; have hZ := esc_short l (tab1.take 2) (by decide) hl; k_dflt (refine esc_cut lF' (tx (escL (tab1.take 3) l)) (esc_if (T := (tab1.take 2)) (c := 34) (r := [38, 113, 117, 111, 116, 59]) rfl lF' hM hZ (by decide) (by decide +kernel) (by decide +kernel) rfl (by decide +kernel) (by decide +kernel)) ?_); intro t' h' tk' F'; have N' := News.of_nil F'))
  k_steps
  all_goals first
    | (refine hret _ [] _ _ ?_ News.nil (fun _ h => nomatch h) ?_ ⟨_, rfl⟩ <;> assumption)
    | trace_state
theorem ctr_esc2 (w : World) (l : List Nat) (tk0 : Tok) (hl : l.length ≤ 10000) : CtrF w 109 1 8 [.str (tx (escL [] l)) tk0] [] (fun _ => True) (fun _ r => ∃ t, r = .str (tx (escL tab2 l)) t) := by
  unfold CtrF
  k_fill
  intro p loose mean mg mb dp un gd cn cs a ccd cl outer A₀ base h₀ L m s Q E B F X N T hk hpre hd' hu hret
  refine wpAny_call ?_
  walk_at "F!enter"
  k_with "IF!" => (
    rename Fr _ _ _ _ => lF'
    first
    | (have hM := text_is lF' (v := tx (escL [] l)) ⟨_, by with_unfolding_all rfl⟩; obtain ⟨tM, hM⟩ := hM; have hZ := esc_short l [] (by decide) hl; k_dflt (refine esc_cut lF' (tx (escL (tab2.take 1) l)) (esc_if (T := []) (c := 38) (r := [38, 97, 109, 112, 59]) rfl lF' hM hZ (by decide) (by decide +kernel) (by decide +kernel) rfl (by decide +kernel) (by decide +kernel)) ?_); intro t' h' tk' F'; have N' := News.of_nil F')
    | (have hM := text_is lF' (v := tx (escL (tab2.take 1) l)) ⟨_, by with_unfolding_all rfl⟩; obtain ⟨tM, hM⟩ := hM; have hZ := esc_short l (tab2.take 1) (by decide) hl; k_dflt (refine esc_cut lF' (tx (escL (tab2.take 2) l)) (esc_if (T := (tab2.take 1)) (c := 60) (r := [38, 108, 116, 59]) rfl lF' hM hZ (by decide) (by decide +kernel) (by decide +kernel) rfl (by decide +kernel) (by decide +kernel)) ?_); intro t' h' tk' F'; have N' := News.of_nil F')
    | (have hM := text_is lF' (v := tx (escL (tab2.take 2) l)) ⟨_, by with_unfolding_all rfl⟩; obtain ⟨tM, hM⟩ := hM; have hZ := esc_short l (tab2.take 2) (by decide) hl; k_dflt (refine esc_cut lF' (tx (escL (tab2.take 3) l)) (esc_if (T := (tab2.take 2)) (c := 34) (r := [38, 113, 117, 111, 116, 59]) rfl lF' hM hZ (by decide) (by decide +kernel) (by decide +kernel) rfl (by decide +kernel) (by decide +kernel)) ?_); intro t' h' tk' F'; have N' := News.of_nil F')
    | (have hM := text_is lF' (v := tx (escL (tab2.take 3) l)) ⟨_, by with_unfolding_all rfl⟩; obtain ⟨tM, hM⟩ := hM; have hZ := esc_short l (tab2.take 3) (by decide) hl; k_dflt (refine esc_cut lF' (tx (escL (tab2.take 4) l)) (esc_if (T := (tab2.take 3)) (c := 9) (r := [38, 35, 120, 57, 59]) rfl lF' hM hZ (by decide) (by decide +kernel) (by decide +kernel) rfl (by decide +kernel) (by decide +kernel)) ?_); intro t' h' tk' F'; have N' := News.of_nil F')
    | (have hM := text_is lF' (v := tx (escL (tab2.take 4) l)) ⟨_, by with_unfolding_all rfl⟩; obtain ⟨tM, hM⟩ := hM; have hZ := esc_short l (tab2.take 4) (by decide) hl; k_dflt (refine esc_cut lF' (tx (escL (tab2.take 5) l)) (esc_if (T := (tab2.take 4)) (c := 10) (r := [38, 35, 120, 65, 59]) rfl lF' hM hZ (by decide) (by decide +kernel) (by decide +kernel) rfl (by decide +kernel) (by decide +kernel)) ?_); intro t' h' tk' F'; have N' := News.of_nil F')
    | (have hM := text_is lF' (v := tx (escL (tab2.take 5) l)) ⟨_, by with_unfolding_all rfl⟩; obtain ⟨tM, hM⟩ := hM; have hZ := esc_short l (tab2.take 5) (by decide) hl; k_dflt (refine esc_cut lF' (tx (escL (tab2.take 6) l)) (esc_if (T := (tab2.take 5)) (c := 13) (r := [38, 35, 120, 68, 59]) rfl lF' hM hZ (by decide) (by decide +kernel) (by decide +kernel) rfl (by decide +kernel) (by decide +kernel)) ?_); intro t' h' tk' F'; have N' := News.of_nil F'))
  k_steps
  all_goals first
    | (refine hret _ [] _ _ ?_ News.nil (fun _ h => nomatch h) ?_ ⟨_, rfl⟩ <;> assumption)
    | trace_state
end
/- part TB -/
section
open PySem PySem.W PyProof.Rows PySem.Calls PySem.Spec
set_option maxRecDepth 100000
set_option maxHeartbeats 8000000
theorem quiet_TB {M : Model} {A : Around} {E : Value → Shared → Prop} {Q : Flow → Shared → Prop} {env : Env} {s : Shared} (h : wpAny M A (execs [] env) Q E s) : wpAny M A (execs [] env) Q E s := by
  w_top off
  k_with_none
  first | (walk1; fail) | exact h
local macro_rules | `(tactic| omega) => `(tactic| walk_at "OM!")
local macro_rules | `(tactic| k_ne) => `(tactic| (refine neN ?_; (try dsimp only); first | (walk_at "CJ!") | exact Nat.ne_of_gt (by walk_at "CJ!") | exact Nat.ne_of_lt (by walk_at "CJ!") | exact Ne.symm (by walk_at "CJ!")))

def lawTab (h : Int) : Tab := if h = 0 then [(38, [38, 97, 109, 112, 59]), (60, [38, 108, 116, 59]), (62, [38, 103, 116, 59]), (34, [38, 113, 117, 111, 116, 59]), (9, [38, 35, 48, 57, 59]), (10, [38, 35, 49, 48, 59]), (13, [38, 35, 49, 51, 59])] else if h = 1 then [(38, [38, 97, 109, 112, 59]), (62, [38, 103, 116, 59]), (34, [38, 113, 117, 111, 116, 59])] else [(38, [38, 97, 109, 112, 59]), (60, [38, 108, 116, 59]), (34, [38, 113, 117, 111, 116, 59]), (9, [38, 35, 120, 57, 59]), (10, [38, 35, 120, 65, 59]), (13, [38, 35, 120, 68, 59])]
def tabD (T : Tab) : List (PyData × PyData) := T.map fun p => (PyData.str (tx [p.1]), PyData.str (tx p.2))
theorem ls_0 : Str.ofString "\t" = tx [9] := by decide +kernel
theorem ls_1 : Str.ofString "\n" = tx [10] := by decide +kernel
theorem ls_2 : Str.ofString "\r" = tx [13] := by decide +kernel
theorem ls_3 : Str.ofString "\"" = tx [34] := by decide +kernel
theorem ls_4 : Str.ofString "&" = tx [38] := by decide +kernel
theorem ls_5 : Str.ofString "&#09;" = tx [38, 35, 48, 57, 59] := by decide +kernel
theorem ls_6 : Str.ofString "&#10;" = tx [38, 35, 49, 48, 59] := by decide +kernel
theorem ls_7 : Str.ofString "&#13;" = tx [38, 35, 49, 51, 59] := by decide +kernel
theorem ls_8 : Str.ofString "&#x9;" = tx [38, 35, 120, 57, 59] := by decide +kernel
theorem ls_9 : Str.ofString "&#xA;" = tx [38, 35, 120, 65, 59] := by decide +kernel
theorem ls_10 : Str.ofString "&#xD;" = tx [38, 35, 120, 68, 59] := by decide +kernel
theorem ls_11 : Str.ofString "&amp;" = tx [38, 97, 109, 112, 59] := by decide +kernel
theorem ls_12 : Str.ofString "&gt;" = tx [38, 103, 116, 59] := by decide +kernel
theorem ls_13 : Str.ofString "&lt;" = tx [38, 108, 116, 59] := by decide +kernel
theorem ls_14 : Str.ofString "&quot;" = tx [38, 113, 117, 111, 116, 59] := by decide +kernel
theorem ls_15 : Str.ofString "<" = tx [60] := by decide +kernel
theorem ls_16 : Str.ofString ">" = tx [62] := by decide +kernel
theorem tabD_0 : tabD (lawTab 0) = [(.str (Str.ofString "&"), .str (Str.ofString "&amp;")), (.str (Str.ofString "<"), .str (Str.ofString "&lt;")), (.str (Str.ofString ">"), .str (Str.ofString "&gt;")), (.str (Str.ofString "\""), .str (Str.ofString "&quot;")), (.str (Str.ofString "\t"), .str (Str.ofString "&#09;")), (.str (Str.ofString "\n"), .str (Str.ofString "&#10;")), (.str (Str.ofString "\r"), .str (Str.ofString "&#13;"))] := by
  rw [ls_4, ls_11, ls_15, ls_13, ls_16, ls_12, ls_3, ls_14, ls_0, ls_5, ls_1, ls_6, ls_2, ls_7]
  simp only [tabD, lawTab, if_true, if_pos, List.map_cons, List.map_nil, Int.reduceEq, if_false]
theorem tabD_1 : tabD (lawTab 1) = [(.str (Str.ofString "&"), .str (Str.ofString "&amp;")), (.str (Str.ofString ">"), .str (Str.ofString "&gt;")), (.str (Str.ofString "\""), .str (Str.ofString "&quot;"))] := by
  rw [ls_4, ls_11, ls_16, ls_12, ls_3, ls_14]
  simp only [tabD, lawTab, if_true, if_pos, List.map_cons, List.map_nil, Int.reduceEq, if_false]
theorem tabD_2 : tabD (lawTab 2) = [(.str (Str.ofString "&"), .str (Str.ofString "&amp;")), (.str (Str.ofString "<"), .str (Str.ofString "&lt;")), (.str (Str.ofString "\""), .str (Str.ofString "&quot;")), (.str (Str.ofString "\t"), .str (Str.ofString "&#x9;")), (.str (Str.ofString "\n"), .str (Str.ofString "&#xA;")), (.str (Str.ofString "\r"), .str (Str.ofString "&#xD;"))] := by
  rw [ls_4, ls_11, ls_15, ls_13, ls_3, ls_14, ls_0, ls_8, ls_1, ls_9, ls_2, ls_10]
  simp only [tabD, lawTab, if_true, if_pos, List.map_cons, List.map_nil, Int.reduceEq, if_false]
theorem lawTab_2 {h : Int} (a : h ≠ 0) (b : h ≠ 1) : lawTab h = lawTab 2 := by simp [lawTab, a, b]
theorem tabD_e0 {c : Int} (h : c = 0) : tabD (lawTab c) = [(.str (Str.ofString "&"), .str (Str.ofString "&amp;")), (.str (Str.ofString "<"), .str (Str.ofString "&lt;")), (.str (Str.ofString ">"), .str (Str.ofString "&gt;")), (.str (Str.ofString "\""), .str (Str.ofString "&quot;")), (.str (Str.ofString "\t"), .str (Str.ofString "&#09;")), (.str (Str.ofString "\n"), .str (Str.ofString "&#10;")), (.str (Str.ofString "\r"), .str (Str.ofString "&#13;"))] := by rw [h]; exact tabD_0
theorem tabD_e1 {c : Int} (h : c = 1) : tabD (lawTab c) = [(.str (Str.ofString "&"), .str (Str.ofString "&amp;")), (.str (Str.ofString ">"), .str (Str.ofString "&gt;")), (.str (Str.ofString "\""), .str (Str.ofString "&quot;"))] := by rw [h]; exact tabD_1
theorem tabD_e2 {c : Int} (h : c ≠ 0) (h1 : c ≠ 1) : tabD (lawTab c) = [(.str (Str.ofString "&"), .str (Str.ofString "&amp;")), (.str (Str.ofString "<"), .str (Str.ofString "&lt;")), (.str (Str.ofString "\""), .str (Str.ofString "&quot;")), (.str (Str.ofString "\t"), .str (Str.ofString "&#x9;")), (.str (Str.ofString "\n"), .str (Str.ofString "&#xA;")), (.str (Str.ofString "\r"), .str (Str.ofString "&#xD;"))] := by rw [lawTab_2 h h1]; exact tabD_2
theorem ctr_table (w : World) (c : Int) (tc : Tok) (hc : 0 ≤ c ∧ c < 3) : CtrF w 123 2 20 [.int c tc] [] (fun _ => True)
    (fun led r => ∃ D o kvs, r = .ref D ∧ led = [(D, o)] ∧ (D == sysModules) = false ∧ o.IsDictOf (strKind PySem.Challenge.rw_xj0024_01.row.prog w) kvs ∧ PyProof.V.FlatPairs PyData.str kvs (tabD (lawTab c))) := by
  unfold CtrF
  k_fill
  intro p loose mean mg mb dp un gd cn cs a ccd cl outer A₀ base h₀ L m s Q E B F X N T hk hpre hd' hu hret
  refine wpAny_call ?_
  have fin : ∀ (D : Addr) o kvs h' tk' g L' V, Obj.IsDictOf (strKind PySem.Challenge.rw_xj0024_01.row.prog w) o kvs → PyProof.V.FlatPairs PyData.str kvs V → V = tabD (lawTab c) → (D == sysModules) = false → Fr h₀ L h' m → News h₀ L h' [(D, o)] → Keep [] s.heap h' → Keep [] s.heap g → News g L' h' [(D, o)] → Q (.ref D) { s with heap := h', toks := tk' } :=
    fun D o kvs h' tk' g L' V h1 h2 h3 h4 h5 h6 h7 h8 h9 => hret _ _ _ _ h5 h6 (new_of h8 h9) h7 ⟨D, o, kvs, rfl, rfl, h4, h1, h3 ▸ h2⟩
  walk_at "F!enter"
  rename Keep _ _ _ => KG0
  k_steps
  all_goals (refine fin _ _ _ _ _ _ _ _ (by assumption) (by assumption) ?_ (by assumption) (by assumption) (by assumption) (by assumption) KG0 (by assumption))
  · exact Eq.trans rfl (tabD_e0 (by assumption)).symm
  · exact Eq.trans rfl (tabD_e1 (by assumption)).symm
  · exact Eq.trans rfl (tabD_e2 (by assumption) (by assumption)).symm
end
/- part S0 -/
section
open PySem PySem.W PyProof.Rows PySem.Calls PySem.Spec
set_option maxRecDepth 100000
set_option maxHeartbeats 8000000

theorem join_tx (f : Nat → List Nat) (l : List Nat) : Txt.join (Str.ofString "") (l.map fun k => tx (f k)) = tx (l.flatMap f) := by
  show Builtin.Str.glued _ _ = _
  rw [StrLaws.glued_eq_join, q_nil]
  have key : ∀ l : List Nat, Str.join (tx []) (l.map fun k => tx (f k)) = tx (l.flatMap f) := by
    intro l
    induction l with
    | nil => rfl
    | cons k r ih =>
      cases r with
      | nil => simp [Str.join]
      | cons k2 r2 =>
        have e : Str.join (tx []) ((k :: k2 :: r2).map fun k => tx (f k)) = tx (f k) ++ tx [] ++ Str.join (tx []) ((k2 :: r2).map fun k => tx (f k)) := rfl
        rw [e, ih, tx_app, tx_app, List.append_nil]
        rfl
  exact key l
theorem look_tab (T : Tab) (k : Nat) : (PySem.Spec.lookup (PyData.str (tx [k])) (tabD T)).getD (PyData.str (tx [k])) = PyData.str (tx (escT T k)) := by
  induction T with
  | nil => rfl
  | cons p r ih =>
    obtain ⟨c, x⟩ := p
    simp only [tabD, List.map_cons, PySem.Spec.lookup, PyProof.V.same_str, escT, List.lookup_cons] at ih ⊢
    by_cases h : k = c
    · subst h; simp
    · have h1 : ¬ tx [c] = tx [k] := by rw [tx_inj]; simp; omega
      have h2 : (k == c) = false := by simpa using h
      simp only [h1, decide_false, h2]
      exact ih
theorem escT_len {T : Tab} (h : (T.all fun p => decide (p.2.length ≤ 6)) = true) (k : Nat) : (escT T k).length ≤ 6 := by
  have := escL_len h [k]
  simpa [escL] using this
theorem sum_len {T : Tab} (h : (T.all fun p => decide (p.2.length ≤ 6)) = true) (l : List Nat) : ((l.map fun k => tx (escT T k)).map (·.length)).sum + (l.map fun k => tx (escT T k)).length ≤ 7 * l.length := by
  induction l with
  | nil => simp
  | cons k r ih =>
    simp only [List.map_cons, List.sum_cons, List.length_cons, tx_len] at ih ⊢
    have := escT_len h k
    omega
theorem lawTab_small (h : Int) : ((lawTab h).all fun p => decide (p.2.length ≤ 6)) = true := by
  unfold lawTab; split <;> (try split) <;> decide
theorem lookup_perm7 {h : Int} (k : Nat) : escT (lawTab h) k = escT (tabs h) k := by
  have e : ∀ (a c : Nat), (a == c) = decide (a = c) := fun a c => by by_cases h : a = c <;> simp [h]
  have key : (lawTab h).lookup k = (tabs h).lookup k := by
    by_cases a : h = 0
    · subst a
      simp only [lawTab, tabs, if_true, tab0, List.lookup_cons, List.lookup_nil, e]
      by_cases h1 : k = 9
      · subst h1; rfl
      by_cases h2 : k = 10
      · subst h2; rfl
      by_cases h3 : k = 13
      · subst h3; rfl
      simp only [h1, h2, h3, decide_false]
    · by_cases b : h = 1
      · subst b; rfl
      · simp only [lawTab, tabs, a, b, if_false, tab2]
  unfold escT
  rw [key]
theorem escL_tabs (h : Int) (l : List Nat) : escL (lawTab h) l = escL (tabs h) l := by
  unfold escL
  have : escT (lawTab h) = escT (tabs h) := funext fun k => lookup_perm7 k
  rw [this]
end
/- part M0 -/
section
open PySem PySem.W PyProof.Rows PySem.Calls PySem.Spec
set_option maxRecDepth 100000
set_option maxHeartbeats 8000000

/-- the end of a turn over the script: three cells again -/
def CellEnd (h₀ : Heap) (L aC : Addr) (m : Str → Option Value) (own rest : List (Addr × Obj)) (s : Shared) (f : Flow) (s' : Shared) : Prop :=
  f = .next ∧ ∃ h' tk vs ns k u v, s' = { s with heap := h', toks := tk } ∧ Fr h₀ L h' (fun y => if y = Str.ofString "x" then v else if y = Str.ofString "place" then u else m y) ∧ News h₀ L h' (own ++ (aC, W.listOf (List.toArray vs) k) :: rest) ∧ IntsAre vs ns ∧ ns.length = 3
theorem CellEnd.intro {h₀ h' : Heap} {L aC : Addr} {m : Str → Option Value} {own rest news : List (Addr × Obj)} {s : Shared} {tk k : Nat} {vs : List Value} {ns : List Int} {u v : Option Value} (F : Fr h₀ L h' (fun y => if y = Str.ofString "x" then v else if y = Str.ofString "place" then u else m y)) (N : News h₀ L h' news)
    (hc : (aC, W.listOf (List.toArray vs) k) ∈ news) (ho : ∀ p ∈ own, p ∈ news) (hr : ∀ p ∈ rest, p ∈ news) (hi : IntsAre vs ns) (hl : ns.length = 3) : CellEnd h₀ L aC m own rest s .next { s with heap := h', toks := tk } :=
  ⟨rfl, h', tk, vs, ns, k, u, v, rfl, F, fun p hp => N p ((List.mem_append.mp hp).elim (ho p) fun h => (List.mem_cons.mp h).elim (fun e => e ▸ hc) (hr p)), hi, hl⟩
theorem enum_cells {prog : Program} {w : World} {A : Around} {E : Value → Shared → Prop} {h₀ : Heap} {L aC : Addr} {as : List Int} {xv : Value} {s : Shared} {m : Str → Option Value} {rest : List (Addr × Obj)} {a b c : Int} {ta tb tc : Tok} {k0 : Nat} {env : Env} {body : List Stmt} {Q : Flow → Shared → Prop}
    (S : PairSrcL prog w A E h₀ L ItemKind.int as xv s m ((aC, W.listOf #[.int a ta, .int b tb, .int c tc] k0) :: rest)) (e : env.locals = L)
    (turn : ∀ (i : Nat) (x : Int) t tx' vs ns k h tk own, (∀ p ∈ own, ∀ q ∈ (aC, W.listOf #[.int a ta, .int b tb, .int c tc] k0) :: rest, p.1 ≠ q.1) → IntsAre vs ns → ns.length = 3 →
      Fr h₀ L h (fun y => if y = Str.ofString "x" then some (.int x tx') else if y = Str.ofString "place" then some (.int i t) else m y) → News h₀ L h ((aC, W.listOf (List.toArray vs) k) :: (rest ++ own)) →
      wpAny (model prog w) A (execs body env) (CellEnd h₀ L aC m own rest { s with heap := h, toks := tk }) E { s with heap := h, toks := tk })
    (done : ∀ vs ns k h tk u v, IntsAre vs ns → ns.length = 3 → Fr h₀ L h (fun y => if y = Str.ofString "x" then v else if y = Str.ofString "place" then u else m y) → News h₀ L h ((aC, W.listOf (List.toArray vs) k) :: rest) → Q .next { s with heap := h, toks := tk }) :
    wpAny (model prog w) A (pyIter xv) (fun it s₂ => PairAt3 prog w A h₀ env (Str.ofString "place") (Str.ofString "x") body Q E it s₂) E s := by
  have e0 : ∀ m' : Str → Option Value, (∀ z, z ≠ Str.ofString "place" → z ≠ Str.ofString "x" → m' z = m z) → ∀ u v, (fun y => if y = Str.ofString "x" then v else if y = Str.ofString "place" then u else m' y) = (fun y => if y = Str.ofString "x" then v else if y = Str.ofString "place" then u else m y) := by
    intro m' hm u v
    funext y
    by_cases h1 : y = Str.ofString "x"
    · simp [h1]
    · by_cases h2 : y = Str.ofString "place"
      · simp [h2]
      · simp only [h1, h2, if_false]; exact hm y h2 h1
  refine S.at env e _ _ body Q (fun _ m' nx => ∃ vs ns k, IntsAre vs ns ∧ ns.length = 3 ∧ nx = (aC, W.listOf (List.toArray vs) k) :: rest ∧ ∀ z, z ≠ Str.ofString "place" → z ≠ Str.ofString "x" → m' z = m z) ?_ ?_ ?_
  · exact ⟨[.int a ta, .int b tb, .int c tc], [a, b, c], k0, .cons _ _ (.cons _ _ (.cons _ _ .nil)), rfl, rfl, fun _ _ _ => rfl⟩
  · rintro i x t v m₁ news₁ s₁ own ⟨h, tk, rfl⟩ hx hk ⟨vs, ns, k, hi, hl, rfl, hm⟩ hadr hoff F N
    obtain ⟨tx', rfl⟩ := ItemKind.int_is hk
    rw [e] at F N
    rw [e0 m₁ hm] at F
    refine wpAny_mono (turn i x t tx' vs ns k h tk own hoff hi hl F (fun p hp => N p (by simp only [List.mem_cons, List.mem_append] at hp ⊢; rcases hp with h | h | h <;> simp [h]))) ?_ fun _ _ h => h
    rintro f s' ⟨rfl, h', tk', vs', ns', k', u, v, rfl, F', N', hi', hl'⟩
    rw [e]
    exact LoopStep3.next (LoopStep2.intro (news₂ := (aC, W.listOf (List.toArray vs') k') :: rest) F' N' rfl ⟨vs', ns', k', hi', hl', rfl, fun z h1 h2 => by simp [h1, h2]⟩)
  · rintro h' tk m' news' F N _ ⟨vs, ns, k, hi, hl, rfl, hm⟩
    rw [e] at F N
    have F' : Fr h₀ L h' (fun y => if y = Str.ofString "x" then m' (Str.ofString "x") else if y = Str.ofString "place" then m' (Str.ofString "place") else m y) := by
      rw [← e0 m' hm]
      have : (fun y => if y = Str.ofString "x" then m' (Str.ofString "x") else if y = Str.ofString "place" then m' (Str.ofString "place") else m' y) = m' := by
        funext y
        by_cases h1 : y = Str.ofString "x"
        · simp [h1]
        · by_cases h2 : y = Str.ofString "place"
          · rw [if_neg h1, if_pos h2, h2]
          · simp [h1, h2]
      rw [this]; exact F
    exact done vs ns k h' tk _ _ hi hl F' N
theorem three_of {vs : List Value} {ns : List Int} (hi : IntsAre vs ns) (hl : ns.length = 3) : ∃ a b c ta tb tc, vs = [.int a ta, .int b tb, .int c tc] ∧ ns = [a, b, c] := by
  cases hi with
  | nil => simp at hl
  | cons a ta r => cases r with
    | nil => simp at hl
    | cons b tb r => cases r with
      | nil => simp at hl
      | cons c tc r => cases r with
        | nil => exact ⟨a, b, c, ta, tb, tc, rfl, rfl⟩
        | cons _ _ _ => simp at hl
theorem mod3 (a : Int) : 0 ≤ a.fmod 3 ∧ a.fmod 3 < 3 := by rw [Int.fmod_eq_emod_of_nonneg _ (by decide)]; omega
section
variable {prog : Program} {w : World} {A : Around} {E : Value → Shared → Prop} {s : Shared} {h₀ : Heap} {L l : Addr} {news : List (Addr × Obj)} {value slice : Expr} {a b c : Int} {ta tb tc u : Tok} {kk : Nat} {Q : Value → Shared → Prop}
theorem cells_list (N : News h₀ L s.heap news) (hm : (l, W.listOf (List.toArray [.int a ta, .int b tb, .int c tc]) kk) ∈ news) : s.heap.IsList l (List.toArray [.int a ta, .int b tb, .int c tc]) := News.isList N hm
theorem cell_0 (N : News h₀ L s.heap news) (hm : (l, W.listOf (List.toArray [.int a ta, .int b tb, .int c tc]) kk) ∈ news) (h : ∀ t, Q (.int a t) s)
    (hs : subscripted slice false (.ref l) (.int 0 u) = operate [.ref l, .int 0 u] (getItem (.ref l) (.int 0 u)) := by with_unfolding_all rfl) (hg : ∀ r, letTemporaryGo value (.ref l) r = pure () := by intro _; with_unfolding_all rfl) : wpAny (model prog w) A (subscriptTail value slice (.ref l) (.int 0 u)) Q E s :=
  item_list_ints (cells_list N hm) (.cons _ _ (.cons _ _ (.cons _ _ .nil))) (by decide) (by simp) (by simp) (fun t => h t) hs hg
theorem cell_1 (N : News h₀ L s.heap news) (hm : (l, W.listOf (List.toArray [.int a ta, .int b tb, .int c tc]) kk) ∈ news) (h : ∀ t, Q (.int b t) s)
    (hs : subscripted slice false (.ref l) (.int 1 u) = operate [.ref l, .int 1 u] (getItem (.ref l) (.int 1 u)) := by with_unfolding_all rfl) (hg : ∀ r, letTemporaryGo value (.ref l) r = pure () := by intro _; with_unfolding_all rfl) : wpAny (model prog w) A (subscriptTail value slice (.ref l) (.int 1 u)) Q E s :=
  item_list_ints (cells_list N hm) (.cons _ _ (.cons _ _ (.cons _ _ .nil))) (by decide) (by simp) (by simp) (fun t => h t) hs hg
theorem cell_2 (N : News h₀ L s.heap news) (hm : (l, W.listOf (List.toArray [.int a ta, .int b tb, .int c tc]) kk) ∈ news) (h : ∀ t, Q (.int c t) s)
    (hs : subscripted slice false (.ref l) (.int 2 u) = operate [.ref l, .int 2 u] (getItem (.ref l) (.int 2 u)) := by with_unfolding_all rfl) (hg : ∀ r, letTemporaryGo value (.ref l) r = pure () := by intro _; with_unfolding_all rfl) : wpAny (model prog w) A (subscriptTail value slice (.ref l) (.int 2 u)) Q E s :=
  item_list_ints (cells_list N hm) (.cons _ _ (.cons _ _ (.cons _ _ .nil))) (by decide) (by simp) (by simp) (fun t => h t) hs hg
end
theorem ints_set {vs : List Value} {ns : List Int} (h : IntsAre vs ns) (b : Int) (t : Tok) : ∀ k : Nat, IntsAre (vs.set k (.int b t)) (ns.set k b) := by
  induction h with
  | nil => intro k; exact .nil
  | cons a u r ih => intro k; cases k with
    | zero => exact .cons b t r
    | succ k => exact .cons a u (ih k)
theorem set_ints {prog : Program} {w : World} {A : Around} {E : Value → Shared → Prop} {s : Shared} {h₀ : Heap} {L D : Addr} {m : Str → Option Value} {news news' : List (Addr × Obj)} {vs : List Value} {ns : List Int} {n : Nat} {k b : Int} {t tb : Tok} {Q : Unit → Shared → Prop}
    (F : Fr h₀ L s.heap m) (N : News h₀ L s.heap news) (U : Upd D (W.listOf vs.toArray n) (W.listOf (List.toArray (vs.set k.toNat (.int b tb))) n) news news') (hi : IntsAre vs ns) (h0 : 0 ≤ k) (h1 : k < ns.length) (hfit : k < 2 ^ 63)
    (h : ∀ h', Fr h₀ L h' m → News h₀ L h' news' → Q () { s with heap := h' }) : wpAny (model prog w) A (setItem (.ref D) (.int k t) (.int b tb)) Q E s := by
  obtain ⟨pre, post, rfl, rfl, a, b'⟩ := U.split
  have z := N (D, W.listOf vs.toArray n) (List.mem_append.mpr (.inr (.head _)))
  have hl : vs.length = ns.length := hi.length
  have hs : vs.toArray.size = ns.length := by rw [List.size_toArray]; exact hl
  refine ki_setAt z.1 h0 hfit (by omega) (h _ (F.change (Heap.SameBut.update ..) z.2.1 z.2.2) (ki_turn _ N a b' ?_ ?_))
  · show vs.toArray.setIfInBounds k.toNat (.int b tb) = (vs.set k.toNat (.int b tb)).toArray
    apply Array.toList_inj.mp
    simp
  · simp
end
/- part P1 -/
section
open PySem PySem.W PyProof.Rows PySem.Calls PySem.Spec
set_option maxRecDepth 100000
set_option maxHeartbeats 8000000
theorem quiet_P1 {M : Model} {A : Around} {E : Value → Shared → Prop} {Q : Flow → Shared → Prop} {env : Env} {s : Shared} (h : wpAny M A (execs [] env) Q E s) : wpAny M A (execs [] env) Q E s := by
  w_top off
  k_with_none
  first | (walk1; fail) | exact h
local macro_rules | `(tactic| omega) => `(tactic| walk_at "OM!")
local macro_rules | `(tactic| k_ne) => `(tactic| (refine neN ?_; (try dsimp only); first | (walk_at "CJ!") | exact Nat.ne_of_gt (by walk_at "CJ!") | exact Nat.ne_of_lt (by walk_at "CJ!") | exact Ne.symm (by walk_at "CJ!")))
local macro_rules | `(tactic| walk_at "exec While Compare cons nil") => `(tactic| k_extra "W!")
local macro_rules | `(tactic| walk_at "KswEnd") => `(tactic| k_extra "KE!")
abbrev head257 : List Nat := [50, 53, 55, 32, 34]
abbrev PS := Int × Str × Tok × Tok
def PInv (l : List Nat) (c : PS) : Prop := 5 ≤ c.1 ∧ c.1 ≤ l.length ∧ (c.2.1.length : Int) ≤ c.1 ∧ ∃ a, c.2.1 = tx a ∧ told (l.drop 5) = a ++ told (l.drop c.1.toNat)
section
variable {l : List Nat} {c : PS}
theorem pinv_start (h : 5 ≤ l.length) (t1 t2 : Tok) : PInv l (5, Str.ofString "", t1, t2) := by
  refine ⟨Int.le_refl _, by show (5 : Int) ≤ l.length; omega, ?_, [], q_nil, by simp⟩
  show ((Str.ofString "").length : Int) ≤ 5
  rw [q_nil, tx_len]; decide
theorem pinv_at (h : PInv l c) (hlt : c.1 < l.length) : ∃ ch, Txt.item (tx l) c.1 = tx [ch] ∧ l.drop c.1.toNat = ch :: l.drop (c.1 + 1).toNat := by
  obtain ⟨h5, _⟩ := h
  have hi : c.1.toNat < l.length := by omega
  refine ⟨l[c.1.toNat], ?_, ?_⟩
  · have := tx_item_get l c.1.toNat hi
    rwa [show ((c.1.toNat : Nat) : Int) = c.1 by omega] at this
  · rw [show (c.1 + 1).toNat = c.1.toNat + 1 by omega]
    exact List.drop_eq_getElem_cons hi
theorem item_eq34 {ch : Nat} (h : (tx [ch] == Str.ofString "\"") = true) : ch = 34 := by
  rw [q_mark] at h
  have := tx_inj.mp (beq_iff_eq.mp h)
  simpa using this
theorem item_ne34 {ch : Nat} (h : (tx [ch] == Str.ofString "\"") = false) : ch ≠ 34 := by
  rintro rfl
  rw [q_mark] at h
  simp at h
theorem pinv_end (h : PInv l c) (hlt : ¬ c.1 < (tx l).length) : c.2.1 = tx (told (l.drop 5)) := by
  simp only [tx_len] at *
  obtain ⟨h5, h1, _, a, ha, ht⟩ := h
  rw [ht, ha, List.drop_eq_nil_of_le (by omega), told_nil, List.append_nil]
theorem pinv_brk1 (h : PInv l c) (hlt : c.1 < (tx l).length) (he : (Txt.item (tx l) c.1 == Str.ofString "\"") = true) (hge : ((tx l).length : Int) ≤ c.1 + 1) : c.2.1 = tx (told (l.drop 5)) := by
  simp only [tx_len] at *
  obtain ⟨ch, e1, e2⟩ := pinv_at h hlt
  rw [e1] at he
  have := item_eq34 he
  subst this
  obtain ⟨h5, h1, _, a, ha, ht⟩ := h
  rw [ht, ha, e2, List.drop_eq_nil_of_le (by omega), told_one, List.append_nil]
theorem pinv_brk2 (h : PInv l c) (hlt : c.1 < (tx l).length) (he : (Txt.item (tx l) c.1 == Str.ofString "\"") = true) (hge : ¬ ((tx l).length : Int) ≤ c.1 + 1)
    (he' : (Txt.item (tx l) (c.1 + 1) != Str.ofString "\"") = true) : c.2.1 = tx (told (l.drop 5)) := by
  simp only [tx_len] at *
  obtain ⟨ch, e1, e2⟩ := pinv_at h hlt
  rw [e1] at he
  have := item_eq34 he
  subst this
  obtain ⟨h5, h1, _, a, ha, ht⟩ := h
  have hi : (c.1 + 1).toNat < l.length := by omega
  have e3 := tx_item_get l (c.1 + 1).toNat hi
  rw [show (((c.1 + 1).toNat : Nat) : Int) = c.1 + 1 by omega] at e3
  rw [e3] at he'
  rw [ht, ha, e2, List.drop_eq_getElem_cons hi, told_stop _ _ (item_ne34 (by simpa [bne] using he')), List.append_nil]
theorem pinv_two (h : PInv l c) (hlt : c.1 < (tx l).length) (he : (Txt.item (tx l) c.1 == Str.ofString "\"") = true) (hge : ¬ ((tx l).length : Int) ≤ c.1 + 1)
    (he' : (Txt.item (tx l) (c.1 + 1) != Str.ofString "\"") = false) (t1 t2 : Tok) : PInv l (c.1 + 1 + 1, c.2.1 ++ Txt.item (tx l) c.1, t1, t2) := by
  simp only [tx_len] at *
  obtain ⟨ch, e1, e2⟩ := pinv_at h hlt
  rw [e1] at he
  have := item_eq34 he
  subst this
  obtain ⟨h5, h1, h2, a, ha, ht⟩ := h
  have hi : (c.1 + 1).toNat < l.length := by omega
  have e3 := tx_item_get l (c.1 + 1).toNat hi
  rw [show (((c.1 + 1).toNat : Nat) : Int) = c.1 + 1 by omega] at e3
  rw [e3] at he'
  have e4 : l[(c.1 + 1).toNat] = 34 := item_eq34 (by simpa [bne] using he')
  refine ⟨by show 5 ≤ c.1 + 1 + 1; omega, by show c.1 + 1 + 1 ≤ l.length; omega, ?_, a ++ [34], ?_, ?_⟩
  · show ((c.2.1 ++ Txt.item (tx l) c.1).length : Int) ≤ c.1 + 1 + 1
    rw [e1, ha, tx_app, tx_len]
    rw [ha, tx_len] at h2
    simp only [List.length_append, List.length_cons, List.length_nil]
    omega
  · show c.2.1 ++ Txt.item (tx l) c.1 = _
    rw [e1, ha, tx_app]
  · show _ = _ ++ told (l.drop (c.1 + 1 + 1).toNat)
    rw [ht, e2, List.drop_eq_getElem_cons hi, e4, told_two]
    rw [show (c.1 + 1 + 1).toNat = (c.1 + 1).toNat + 1 by omega]
    simp
theorem pinv_one (h : PInv l c) (hlt : c.1 < (tx l).length) (he : (Txt.item (tx l) c.1 == Str.ofString "\"") = false) (t1 t2 : Tok) : PInv l (c.1 + 1, c.2.1 ++ Txt.item (tx l) c.1, t1, t2) := by
  simp only [tx_len] at *
  obtain ⟨ch, e1, e2⟩ := pinv_at h hlt
  rw [e1] at he
  obtain ⟨h5, h1, h2, a, ha, ht⟩ := h
  refine ⟨by show 5 ≤ c.1 + 1; omega, by show c.1 + 1 ≤ l.length; omega, ?_, a ++ [ch], ?_, ?_⟩
  · show ((c.2.1 ++ Txt.item (tx l) c.1).length : Int) ≤ c.1 + 1
    rw [e1, ha, tx_app, tx_len]
    rw [ha, tx_len] at h2
    simp only [List.length_append, List.length_cons, List.length_nil]
    omega
  · show c.2.1 ++ Txt.item (tx l) c.1 = _
    rw [e1, ha, tx_app]
  · show _ = _ ++ told (l.drop (c.1 + 1).toNat)
    rw [ht, e2, told_cons _ _ (item_ne34 he)]
    simp
theorem pinv_bounds (h : PInv l c) : 5 ≤ c.1 ∧ c.1 ≤ (tx l).length ∧ (c.2.1.length : Int) ≤ c.1 := by obtain ⟨h5, h1, h2, _⟩ := h; rw [tx_len]; omega
theorem pinv_len (h : PInv l c) : c.2.1.length ≤ l.length := by obtain ⟨h5, h1, h2, _⟩ := h; omega
end
theorem hs3 (l y : List Nat) (hl : l = head257 ++ y) : ¬ (Txt.slice (tx l) none (some 3) != Str.ofString "257") = true := by
  subst hl
  rw [slice3 _ 3 (by omega) (by simp only [List.length_append, List.length_cons, List.length_nil]; omega), q_257]
  simp
theorem hs35 (l y : List Nat) (hl : l = head257 ++ y) : ¬ (Txt.slice (tx l) (some 3) (some 5) != Str.ofString " \"") = true := by
  subst hl
  rw [slice35 _ 3 5 (by omega) (by omega) (by simp only [List.length_append, List.length_cons, List.length_nil]; omega), q_bq]
  simp
theorem ctr_parse257 (w : World) (y l : List Nat) (tk0 : Tok) (hl : l = head257 ++ y) (hx : l.length ≤ 100000) : CtrF w 46 1 8 [.str (tx l) tk0] [] (fun _ => True) (fun _ r => ∃ t, r = .str (tx (told y)) t) := by
  unfold CtrF
  k_fill
  intro p loose mean mg mb dp un gd cn cs a ccd cl outer A₀ base h₀ L m s Q E B F X N T hk hpre hd' hu hret
  refine wpAny_call ?_
  have hlen := tx_len l
  have h5 : 5 ≤ l.length := by rw [hl]; simp
  have hy : l.drop 5 = y := by rw [hl]; rfl
  have hxx : (tx l).length ≤ 100000 := by omega
  have hret' : ∀ (r : Str) t h' tk', r = tx (told (l.drop 5)) → Fr h₀ L h' m → Keep [] s.heap h' → Q (.str r t) { s with heap := h', toks := tk' } :=
    fun r t h' tk' e F hK => hret (.str r t) [] h' tk' F News.nil (fun _ h => nomatch h) hK ⟨t, by rw [e, hy]⟩
  walk_at "F!enter"
  k_with "W!" => (
    rename Fr _ _ _ _ => lF'
    rename News _ _ _ _ => lN'
    refine' ksw_while (σ := PS) (fun c => []) (fun c => [(Str.ofString "i", .int c.1 c.2.2.1), (Str.ofString "dirname", .str c.2.1 c.2.2.2)]) (fun c => True) [Str.ofString "c"] (fun c => PInv l c) (fun c => (l.length - c.1).toNat) (5, Str.ofString "", ?t1, ?t2) lF' lN' trivial ?kk ?kp ?_
    (case kk => kst_all)
    (case kp => exact pinv_start h5 _ _)
    (intro c u h tk _ hI F' N'; have hB := pinv_bounds hI; dsimp only [kstB] at F'))
  k_with "KE!" => (
    rename News _ _ _ _ => nE'
    first
    | (refine ksw_end (_, _, _, _) (by assumption) nE' (by kst_in) trivial (by kst_all) (by ksw_same) (pinv_two hI (by assumption) (by assumption) (by assumption) (by assumption) _ _) (by dsimp only; omega))
    | (refine ksw_end (_, _, _, _) (by assumption) nE' (by kst_in) trivial (by kst_all) (by ksw_same) (pinv_one hI (by assumption) (by assumption) _ _) (by dsimp only; omega)))
  k_steps
  all_goals first
    | exact absurd (by assumption) (hs3 l y hl)
    | exact absurd (by assumption) (hs35 l y hl)
    | exact hret' _ _ _ _ (pinv_brk2 hI (by assumption) (by assumption) (by assumption) (by assumption)) (by assumption) (by assumption)
    | exact hret' _ _ _ _ (pinv_brk1 hI (by assumption) (by assumption) (by assumption)) (by assumption) (by assumption)
    | exact hret' _ _ _ _ (pinv_end hI (by assumption)) (by assumption) (by assumption)
end
/- part I0 -/
section
open PySem PySem.W PyProof.Rows PySem.Calls PySem.Spec
/-- the k figures of x, n bits each, the lowest first -/
def digs (n : Nat) : Nat → Int → List Int
  | 0, _ => []
  | k + 1, x => x % 2 ^ n :: digs n k (x / 2 ^ n)
theorem digs_length (n : Nat) : ∀ k x, (digs n k x).length = k
  | 0, _ => rfl
  | k + 1, x => by rw [digs, List.length_cons, digs_length n k]
theorem pow_pos2 (n : Nat) : (0 : Int) < 2 ^ n := by exact_mod_cast Nat.two_pow_pos n
theorem digs_mod (n : Nat) : ∀ k (x : Int), digs n k (x % 2 ^ (n * k)) = digs n k x
  | 0, _ => rfl
  | k + 1, x => by
    have e : (2 : Int) ^ (n * (k + 1)) = 2 ^ n * 2 ^ (n * k) := by rw [Nat.mul_succ, Nat.add_comm, Int.pow_add]
    rw [digs, digs, e]
    have h1 : x % (2 ^ n * 2 ^ (n * k)) % 2 ^ n = x % 2 ^ n := Int.emod_emod_of_dvd x (Int.dvd_mul_right _ _)
    have h2 : x % (2 ^ n * 2 ^ (n * k)) / 2 ^ n = x / 2 ^ n % 2 ^ (n * k) := by
      have := Int.emod_add_mul_ediv x (2 ^ n * 2 ^ (n * k))
      have h3 : x = x % (2 ^ n * 2 ^ (n * k)) + 2 ^ n * (2 ^ (n * k) * (x / (2 ^ n * 2 ^ (n * k)))) := by rw [← Int.mul_assoc]; omega
      have h0 : (2 : Int) ^ n ≠ 0 := by have := pow_pos2 n; omega
      have h4 : x / 2 ^ n = x % (2 ^ n * 2 ^ (n * k)) / 2 ^ n + 2 ^ (n * k) * (x / (2 ^ n * 2 ^ (n * k))) := by
        conv => lhs; rw [h3]
        rw [Int.add_mul_ediv_left _ _ h0]
      rw [h4, Int.add_mul_emod_self_left]
      refine (Int.emod_eq_of_lt ?_ ?_).symm
      · exact Int.ediv_nonneg (Int.emod_nonneg _ (by have := pow_pos2 n; have := pow_pos2 (n * k); have := Int.mul_pos (pow_pos2 n) (pow_pos2 (n * k)); omega)) (by have := pow_pos2 n; omega)
      · refine Int.ediv_lt_of_lt_mul (pow_pos2 n) ?_
        rw [Int.mul_comm]
        exact Int.emod_lt_of_pos _ (Int.mul_pos (pow_pos2 (n * k)) (pow_pos2 n))
    rw [h1, h2, digs_mod n k]
theorem digs_append (n : Nat) : ∀ a b (x : Int), digs n (a + b) x = digs n a x ++ digs n b (x / 2 ^ (n * a))
  | 0, b, x => by simp [digs]
  | a + 1, b, x => by
    rw [show a + 1 + b = (a + b) + 1 by omega, digs, digs, digs_append n a b, List.cons_append]
    congr 2
    rw [Int.ediv_ediv_of_nonneg (by have := pow_pos2 n; omega), ← Int.pow_add, Nat.mul_succ, Nat.add_comm]
theorem digs_one (n : Nat) {x : Int} (h0 : 0 ≤ x) (h : x < 2 ^ n) : digs n 1 x = [x] := by
  rw [digs, digs, Int.emod_eq_of_lt h0 h]
/-- a list with ds laid from place i on -/
def fill (ns : List Int) (i : Nat) (ds : List Int) : List Int := ns.take i ++ ds ++ ns.drop (i + ds.length)
theorem fill_length {ns ds : List Int} {i : Nat} (h : i + ds.length ≤ ns.length) : (fill ns i ds).length = ns.length := by
  simp only [fill, List.length_append, List.length_take, List.length_drop]; omega
theorem fill_fill {ns a b : List Int} {i : Nat} (h : i + a.length + b.length ≤ ns.length) : fill (fill ns i a) (i + a.length) b = fill ns i (a ++ b) := by
  simp only [fill, List.length_append]
  have e1 : (ns.take i ++ a ++ ns.drop (i + a.length)).take (i + a.length) = ns.take i ++ a := by
    rw [List.take_append_of_le_length (by simp; omega), List.take_of_length_le (by simp; omega)]
  have e2 : (ns.take i ++ a ++ ns.drop (i + a.length)).drop (i + a.length + b.length) = ns.drop (i + a.length + b.length) := by
    rw [List.drop_append, List.drop_eq_nil_of_le (by simp; omega), List.nil_append, List.drop_drop]
    congr 1
    simp only [List.length_append, List.length_take]
    omega
  rw [e1, e2, List.append_assoc, List.append_assoc, List.append_assoc, List.append_assoc, ← List.append_assoc a b, Nat.add_assoc]
  simp
theorem fill_set {ns : List Int} {i : Nat} {x : Int} (h : i < ns.length) : ns.set i x = fill ns i [x] := by
  rw [fill, List.set_eq_take_append_cons_drop, if_pos h]
  simp
theorem and_high (x s : Nat) : x &&& (x / 2 ^ s * 2 ^ s) = x / 2 ^ s * 2 ^ s := by
  apply Nat.eq_of_testBit_eq
  intro i
  rw [Nat.testBit_and, ← Nat.shiftLeft_eq, Nat.testBit_shiftLeft, ← Nat.shiftRight_eq_div_pow, Nat.testBit_shiftRight]
  by_cases h : s ≤ i
  · simp [h]
  · simp [h]
theorem xor_high {x : Int} (s : Nat) (h0 : 0 ≤ x) : Builtin.bitXor x (x.fdiv (2 ^ s) * 2 ^ s) = x % 2 ^ s := by
  obtain ⟨m, rfl⟩ := Int.eq_ofNat_of_zero_le h0
  have hd : ((m : Int)).fdiv (2 ^ s) = ((m / 2 ^ s : Nat) : Int) := by
    rw [Int.fdiv_eq_ediv_of_nonneg _ (by have := pow_pos2 s; omega)]
    norm_cast
  have hy : ((m : Int)).fdiv (2 ^ s) * 2 ^ s = ((m / 2 ^ s * 2 ^ s : Nat) : Int) := by rw [hd]; norm_cast
  rw [bitXor_and, hy]
  have ha : Builtin.bitAnd (m : Int) ((m / 2 ^ s * 2 ^ s : Nat) : Int) = ((m / 2 ^ s * 2 ^ s : Nat) : Int) := by
    unfold Builtin.bitAnd
    simp only [Int.natCast_nonneg, decide_true, Int.toNat_natCast]
    rw [and_high]
  rw [ha]
  have := Nat.div_add_mod m (2 ^ s)
  have h2 : ((m % 2 ^ s : Nat) : Int) = (m : Int) % 2 ^ s := by norm_cast
  rw [← h2]
  have h3 : m / 2 ^ s * 2 ^ s = 2 ^ s * (m / 2 ^ s) := Nat.mul_comm _ _
  omega
end
/- part N0 -/
section
open PySem PySem.W PyProof.Rows PySem.Calls PySem.Spec
set_option maxRecDepth 100000
set_option maxHeartbeats 8000000
def stAt (l : List Stmt) (i : Nat) : Stmt := l.getD i (.Pass ⟨0, 0, 0, 0⟩)
def bodyOf : Stmt → List Stmt
  | .FunctionDef _ _ b _ _ _ _ _ _ _ => b
  | _ => []
def argsOf : Stmt → Arguments
  | .FunctionDef _ a _ _ _ _ _ _ _ _ => a
  | _ => { posonlyargs := [], args := [], vararg := none, kwonlyargs := [], kw_defaults := [], kwarg := none, defaults := [] }
def scopeOf (s₀ : Scope) : Stmt → Scope
  | .FunctionDef _ _ _ _ _ _ s _ _ _ => s
  | _ => s₀
def topB : List Stmt := PySem.Challenge.pw_xj0024_01.main.body
/-- the def that stands in the body of _int2digits -/
def inI : Stmt := stAt (bodyOf (stAt topB 8)) 1
/-- the def that stands in the body of _digits2int -/
def inD : Stmt := stAt (bodyOf (stAt topB 9)) 0
def bI : List Stmt := bodyOf inI
def aI : Arguments := argsOf inI
def sI : Scope := scopeOf PySem.Challenge.pw_xj0024_01.main.scope inI
def bD : List Stmt := bodyOf inD
def aD : Arguments := argsOf inD
def sD : Scope := scopeOf PySem.Challenge.pw_xj0024_01.main.scope inD
theorem halves {k k1 k2 len : Nat} {Lo Hi : Int} (hHi : Hi = Lo + (k : Int)) (hk1 : 1 ≤ k) (hLo : 0 ≤ Lo) (hHn : Hi ≤ (len : Int)) (hns : len ≤ 40) (e1 : k1 = k / 2) (e2 : k2 = k - k1) :
    k = k1 + k2 ∧ k1 ≤ k ∧ k2 ≤ k ∧ (Lo + Hi) / 2 = Lo + (k1 : Int) ∧ (Lo + (k1 : Int)).toNat = Lo.toNat + k1 ∧ Lo.toNat + k1 ≤ len ∧ Lo.toNat + k1 + k2 ≤ len ∧ (Lo + (k1 : Int) - Lo).natAbs < 2 ^ 100 ∧ Lo < 2 ^ 63 ∧ Lo < (len : Int) ∧ 1 ≤ k2 ∧ k1 < k ∧ Hi = Lo + (k1 : Int) + (k2 : Int) ∧ Lo + (k1 : Int) ≤ (len : Int) ∧ 0 ≤ Lo + (k1 : Int) ∧ Lo.toNat < len ∧ k1 ≤ k2 ∧ k2 ≤ k1 + 1 := by
  have h1 : k1 ≤ k2 ∧ k2 ≤ k1 + 1 ∧ k = k1 + k2 := by omega
  clear e1 e2
  obtain ⟨a, b, rfl⟩ := h1
  subst hHi
  refine ⟨rfl, ?_, ?_, ?_, ?_, ?_, ?_, ?_, ?_, ?_, ?_, ?_, ?_, ?_, ?_, ?_, a, b⟩ <;> omega
theorem two {k k1 k2 dp un : Nat} {Lo Hi : Int} (hHi : Hi = Lo + (k : Int)) (hne : Lo + 1 ≠ Hi) (hk : k = k1 + k2) (a : k1 ≤ k2) (b : k2 ≤ k1 + 1) (hk1 : 1 ≤ k) (hd : dp + k < 1000) (hu : un + 8 * k < 9900) :
    1 ≤ k1 ∧ k2 < k ∧ dp + 1 + k1 < 1000 ∧ dp + 1 + k2 < 1000 ∧ un + 3 + 8 * k1 < 9900 ∧ un + 3 + 8 * k2 < 9900 := by
  subst hk hHi
  have h1 : 1 ≤ k1 := by omega
  clear hne b hk1
  exact ⟨h1, by omega, by omega, by omega, by omega, by omega⟩
end
local macro_rules | `(tactic| walk_at "N!enter") => `(tactic| (refine' code_nest ?k1 ?k2 ?k3 ?k4 ?k5 ?kA ?kF ?kK ?k6 ?k7 ?k8 ?k9 ?kB ?_ ?c2 ?c3 ?c4 ?c5; (case kA => exact rfl); (case kF => exact rfl); (case kK => first | exact rfl | assumption); (case k1 => k_asm); (case k2 => k_asm); (case k3 => k_asm); (case k4 => k_asm); (case k5 => k_asm); (case k6 => k_mem); (case k7 => exact codeRec_news (by k_asm) (by k_mem) (by assumption) (by assumption)); (case k8 => ktr_room); (case k9 => exact BindsTo.of_eq rfl); (case c5 => decide); (case kB => exact locs rfl); (case c2 => exact rfl); (case c3 => exact rfl); (case c4 => exact rfl); k_whole; intro g' L' h' FG' F' N' B' X' T'; (try dsimp only); (try k_lift B'); (try k_fold)))
/- part N1 -/
section
open PySem PySem.W PyProof.Rows PySem.Calls PySem.Spec
set_option maxRecDepth 100000
set_option maxHeartbeats 8000000
theorem quiet_N1 {M : Model} {A : Around} {E : Value → Shared → Prop} {Q : Flow → Shared → Prop} {env : Env} {s : Shared} (h : wpAny M A (execs [] env) Q E s) : wpAny M A (execs [] env) Q E s := by
  w_top off
  k_with_none
  first | (walk1; fail) | exact h
local macro_rules | `(tactic| omega) => `(tactic| walk_at "OM!")
local macro_rules | `(tactic| k_ne) => `(tactic| (refine neN ?_; (try dsimp only); first | (walk_at "CJ!") | exact Nat.ne_of_gt (by walk_at "CJ!") | exact Nat.ne_of_lt (by walk_at "CJ!") | exact Ne.symm (by walk_at "CJ!")))

local macro_rules | `(tactic| walk_at "call ref") => `(tactic| k_extra "IN!")
local macro_rules | `(tactic| walk_at "binaryOp RShift int int") => `(tactic| k_extra "SR!")
local macro_rules | `(tactic| walk_at "binaryOp LShift int int") => `(tactic| k_extra "SL!")
local macro_rules | `(tactic| walk_at "binaryOp BitXor int int") => `(tactic| k_extra "SX!")
local macro_rules | `(tactic| walk_at "binaryOp Mult int int") => `(tactic| k_extra "SM!")
abbrev cloI (cN cA cI : Addr) : List (Str × Addr) := [(Str.ofString "n", cN), (Str.ofString "inner", cI), (Str.ofString "a_digits", cA)]
abbrev ledI (ql : Str) (b : List Stmt) (sc : Scope) (clos : List (Str × Addr)) (doc pm ct : Value) (fI cc : Addr) (oc : Obj) (D : Addr) (vs : List Value) (cA : Addr) (oA : Obj) (cI : Addr) (oI : Obj) (cN : Addr) (oN pT : Obj) : List (Addr × Obj) :=
  [(fI, fnMade (Str.ofString "inner") ql aI b sc clos doc pm cc ct), (cc, oc), (D, listOf vs.toArray 0), (cA, oA), (cI, oI), (cN, oN), (62, pT)]
/-- what a call of inner upon k places does -/
def InnerI (w : World) (ql : Str) (b : List Stmt) (sc : Scope) (clos : List (Str × Addr)) (doc pm ct : Value) (fI cc : Addr) (oc : Obj) (D cA : Addr) (oA : Obj) (cI : Addr) (oI : Obj) (cN : Addr) (oN pT : Obj) (n : Int) (k : Nat) : Prop :=
  ∀ (x Lo Hi : Int) (t1 t2 t3 : Tok) (vs : List Value) (ns : List Int) (p : Program) (loose : List Str) (mean : ExcName → Option Value) (mg mb : Str → Option Value) (dp un : Nat) (gd : Option (List Code)) (cn : Str) (cs : Scope) (a : Addr) (ccd : Value) (cl : List (Str × Addr)) (outer : List Env) (A₀ : Around) (base h₀ : Heap) (L : Addr) (m : Str → Option Value) (s : Shared)
    (Q E : Value → Shared → Prop),
    Hi = Lo + k → 1 ≤ k → 0 ≤ Lo → Hi ≤ ns.length → ns.length ≤ 40 → IntsAre vs ns → 0 ≤ x → x < 2 ^ (n.toNat * k) → n.toNat * k ≤ 64 →
    Below A₀ base outer h₀ → Fr h₀ L s.heap m → (Mine.pre.heap_1 w.params).In h₀ → News h₀ L s.heap (ledI ql b sc clos doc pm ct fI cc oc D vs cA oA cI oI cN oN pT) → Top p loose mean mg mb h₀ → cs.kind = .function → dp + k < recursionLimit → un + 8 * k < cLine →
    (∀ vs' h' tk', Fr h₀ L h' m → News h₀ L h' (ledI ql b sc clos doc pm ct fI cc oc D vs' cA oA cI oI cN oN pT) → IntsAre vs' (fill ns Lo.toNat (digs n.toNat k x)) → Q .none { s with heap := h', toks := tk' }) →
    wpAny (model PySem.Challenge.rw_xj0024_01.row.prog w) (ktrTop dp un gd cn cs L a ccd cl outer) (call (.ref fI) [.int x t1, .int Lo t2, .int Hi t3]) Q E s
theorem innerI_use {w : World} {ql : Str} {b : List Stmt} {sc : Scope} {clos : List (Str × Addr)} {doc pm ct : Value} {fI cc : Addr} {oc : Obj} {D cA : Addr} {oA : Obj} {cI : Addr} {oI : Obj} {cN : Addr} {oN pT : Obj} {n : Int} {k : Nat} (C : InnerI w ql b sc clos doc pm ct fI cc oc D cA oA cI oI cN oN pT n k)
    {x Lo Hi : Int} {t1 t2 t3 : Tok} {vs : List Value} {ns : List Int} {p : Program} {loose : List Str} {mean : ExcName → Option Value} {mg mb : Str → Option Value} {dp un : Nat} {gd : Option (List Code)} {cn : Str} {cs : Scope} {a : Addr} {ccd : Value} {cl : List (Str × Addr)} {outer : List Env} {A₀ : Around} {base h₀ : Heap} {L : Addr} {m : Str → Option Value} {s : Shared}
    {Q E : Value → Shared → Prop} (B : Below A₀ base outer h₀) (F : Fr h₀ L s.heap m) (X : (Mine.pre.heap_1 w.params).In h₀) (N : News h₀ L s.heap (ledI ql b sc clos doc pm ct fI cc oc D vs cA oA cI oI cN oN pT)) (T : Top p loose mean mg mb h₀) (hk : cs.kind = .function)
    (hHi : Hi = Lo + k) (hk1 : 1 ≤ k) (hLo : 0 ≤ Lo) (hHn : Hi ≤ ns.length) (hns : ns.length ≤ 40) (hi : IntsAre vs ns) (hx0 : 0 ≤ x) (hx : x < 2 ^ (n.toNat * k)) (hnk : n.toNat * k ≤ 64) (hd' : dp + k < recursionLimit) (hu : un + 8 * k < cLine)
    (ret : ∀ vs' h' tk', Fr h₀ L h' m → News h₀ L h' (ledI ql b sc clos doc pm ct fI cc oc D vs' cA oA cI oI cN oN pT) → IntsAre vs' (fill ns Lo.toNat (digs n.toNat k x)) → Q .none { s with heap := h', toks := tk' }) :
    wpAny (model PySem.Challenge.rw_xj0024_01.row.prog w) (ktrTop dp un gd cn cs L a ccd cl outer) (call (.ref fI) [.int x t1, .int Lo t2, .int Hi t3]) Q E s :=
  C _ _ _ _ _ _ _ _ _ _ _ _ _ _ _ _ _ _ _ _ _ _ _ _ _ _ _ _ _ _ hHi hk1 hLo hHn hns hi hx0 hx hnk B F X N T hk hd' hu ret
section
variable {prog : Program} {w : World} {A : Around} {E Q : Value → Shared → Prop} {s : Shared} {a b n v : Int} {t u : Tok}
theorem shr_to (hn : 0 ≤ n) (hv : a.fdiv (2 ^ n.toNat) = v) (h : Q (.int v s.toks) { s with toks := s.toks + 1 }) : wpAny (model prog w) A (binaryOp .RShift (.int a t) (.int n u)) Q E s := rshift_int hn (by rw [hv]; exact h)
theorem shl_to (hn : 0 ≤ n) (hn2 : n ≤ 1000000) (ha : a.natAbs < 2 ^ 64) (hv : a * 2 ^ n.toNat = v) (h : Q (.int v s.toks) { s with toks := s.toks + 1 }) : wpAny (model prog w) A (binaryOp .LShift (.int a t) (.int n u)) Q E s := lshift_int_small hn hn2 ha (by rw [hv]; exact h)
theorem xor_to (hv : Builtin.bitXor a b = v) (h : Q (.int v s.toks) { s with toks := s.toks + 1 }) : wpAny (model prog w) A (binaryOp .BitXor (.int a t) (.int b u)) Q E s := xor_int (by rw [hv]; exact h)
theorem mul_to (ha : a.natAbs < 2 ^ 100) (hb : b.natAbs < 2 ^ 100) (hv : a * b = v) (h : Q (.int v s.toks) { s with toks := s.toks + 1 }) : wpAny (model prog w) A (binaryOp .Mult (.int a t) (.int b u)) Q E s := mul_int (by rw [hv]; exact h) (IntMulOk.of_le (intBits_le_iff.mpr ha) (intBits_le_iff.mpr hb) (by decide))
end
theorem pow_mono2 {a b : Nat} (h : a ≤ b) : (2 : Int) ^ a ≤ 2 ^ b := by exact_mod_cast Nat.pow_le_pow_right (by omega) h
local macro_rules | `(tactic| k_ne) => `(tactic| k_extra "KN!")
theorem innerI_step (w : World) (ql : Str) (b : List Stmt) (sc : Scope) (eb : b = bI) (es : sc = sI) (clos : List (Str × Addr)) (doc pm ct : Value) (fI cc : Nat) (oc : Obj) (D cA : Nat) (oA : Obj) (cI : Nat) (oI : Obj) (cN : Nat) (oN pT : Obj) (n : Int) (tn : Tok) (fs : Array Value) (tq : Tok)
    (hclos : clos = cloI cN cA cI) (hA : oA.data = .cell (some (.ref D))) (hI : oI.data = .cell (some (.ref fI))) (hN : oN.data = .cell (some (.int n tn))) (hoc : oc.data = .fields fs) (hfs : fs[1]? = some (.str ql tq))
    (hne : D ≠ fI ∧ D ≠ cc ∧ D ≠ cA ∧ D ≠ cI ∧ D ≠ cN ∧ D ≠ 62) (hn : 1 ≤ n ∧ n ≤ 7) (k : Nat) (IH : ∀ k', k' < k → InnerI w ql b sc clos doc pm ct fI cc oc D cA oA cI oI cN oN pT n k') :
    InnerI w ql b sc clos doc pm ct fI cc oc D cA oA cI oI cN oN pT n k := by
  conv at eb => rhs; whnf
  conv at es => rhs; whnf
  subst eb es hclos
  unfold InnerI
  k_fill
  intro x Lo Hi t1 t2 t3 vs ns p loose mean mg mb dp un gd cn cs a ccd cl outer A₀ base h₀ L m s Q E hHi hk1 hLo hHn hns hints hx0 hx hnk B F X N T hk hd' hu hret
  have C66 := codeHd_of_K (c := 66) (P := 62) X (by kernel_rfl)
  obtain ⟨k1, e1⟩ : ∃ k1, k1 = k / 2 := ⟨_, rfl⟩
  obtain ⟨k2, e2⟩ : ∃ k2, k2 = k - k1 := ⟨_, rfl⟩
  obtain ⟨hk12, f1, f2, f3, f4, f5, f6, f7, f8, f9, f10, f11, f12, f13, f14, f15, f16, f17⟩ := halves hHi hk1 hLo hHn hns e1 e2
  have hkb : k1 ≤ k2 ∧ k2 ≤ k1 + 1 := ⟨f16, f17⟩
  clear e1 e2
  obtain ⟨S, eS⟩ : ∃ S, S = n.toNat * k1 := ⟨_, rfl⟩
  have hS : S ≤ 64 := by
    have : n.toNat * k1 ≤ n.toNat * k := Nat.mul_le_mul_left _ (by omega)
    omega
  obtain ⟨up, eu⟩ : ∃ up, up = x / 2 ^ S := ⟨_, rfl⟩
  obtain ⟨low, el⟩ : ∃ low, low = x % 2 ^ S := ⟨_, rfl⟩
  have hmid : (Lo + Hi).fdiv (2 ^ Int.toNat 1) = Lo + (k1 : Int) := by
    rw [show (2 : Int) ^ Int.toNat 1 = 2 from rfl, Int.fdiv_eq_ediv_of_nonneg _ (by omega)]
    omega
  have hmul : (Lo + (k1 : Int) - Lo) * n = (S : Int) := by
    rw [show Lo + (k1 : Int) - Lo = k1 by omega, eS, Int.natCast_mul, Int.mul_comm]
    congr 1
    omega
  have hup : x.fdiv (2 ^ (S : Int).toNat) = up := by
    rw [eu, Int.toNat_natCast, Int.fdiv_eq_ediv_of_nonneg _ (by have := pow_pos2 S; omega)]
  have hxS : x < 2 ^ 64 := Int.lt_of_lt_of_le hx (pow_mono2 hnk)
  have hup0 : 0 ≤ up := by rw [eu]; exact Int.ediv_nonneg hx0 (by have := pow_pos2 S; omega)
  have hupx : up ≤ x := by rw [eu]; exact Int.ediv_le_self _ hx0
  have hxor : Builtin.bitXor x (up * 2 ^ S) = low := by
    have := xor_high S hx0
    rw [Int.fdiv_eq_ediv_of_nonneg _ (by have := pow_pos2 S; omega), ← eu, ← el] at this
    exact this
  have hlow0 : 0 ≤ low := by rw [el]; exact Int.emod_nonneg _ (by have := pow_pos2 S; omega)
  have hlow : low < 2 ^ (n.toNat * k1) := by rw [el, ← eS]; exact Int.emod_lt_of_pos _ (pow_pos2 S)
  have hupk : up < 2 ^ (n.toNat * k2) := by
    rw [eu]
    refine Int.ediv_lt_of_lt_mul (pow_pos2 S) ?_
    rw [← Int.pow_add, eS, ← Nat.mul_add, Nat.add_comm, ← hk12]
    exact hx
  have hnk1 : n.toNat * k1 ≤ 64 := by omega
  have hnk2 : n.toNat * k2 ≤ 64 := by
    have : n.toNat * k2 ≤ n.toNat * k := Nat.mul_le_mul_left _ (by omega)
    omega
  have hd1 : digs n.toNat k1 low = digs n.toNat k1 x := by rw [el, eS]; exact digs_mod _ _ _
  have hdk : digs n.toNat k x = digs n.toNat k1 low ++ digs n.toNat k2 up := by rw [hd1, hk12, digs_append, eu, eS]
  refine wpAny_call ?_
  walk_at "N!enter"
  k_with "KN!" => (refine neN ?_; (try dsimp only); with_reducible first
    | exact hne.1 | exact hne.2.1 | exact hne.2.2.1 | exact hne.2.2.2.1 | exact hne.2.2.2.2.1 | exact hne.2.2.2.2.2
    | exact Ne.symm hne.1 | exact Ne.symm hne.2.1 | exact Ne.symm hne.2.2.1 | exact Ne.symm hne.2.2.2.1 | exact Ne.symm hne.2.2.2.2.1 | exact Ne.symm hne.2.2.2.2.2)
  k_with "SR!" => (first
    | (refine shr_to (v := Lo + (k1 : Int)) (by decide) hmid ?_)
    | (refine shr_to (v := up) (by omega) hup ?_))
  k_with "SM!" => (refine mul_to (v := (S : Int)) (by omega) (by omega) hmul ?_)
  k_with "SL!" => (refine shl_to (v := up * 2 ^ S) (by omega) (by omega) (by omega) (by rw [Int.toNat_natCast]) ?_)
  k_with "SX!" => (refine xor_to hxor ?_)
  k_with "IN!" => ((try (obtain ⟨g1, g2, g3, g4, g5, g6⟩ := two hHi (by assumption) hk12 f16 f17 hk1 hd' hu)); first
    | (refine' innerI_use (ns := ns) (IH k1 ?z1) ?B ?F ?X ?N ?T ?hk rfl ?h1 hLo ?h2 hns hints hlow0 hlow hnk1 ?h3 ?h4 ?_
       (case z1 => omega)
       (case B => k_asm)
       (case F => k_asm)
       (case X => k_asm)
       (case N => k_asm)
       (case T => k_asm)
       (case hk => exact rfl)
       (case h1 => omega)
       (case h2 => omega)
       (case h3 => ktr_room)
       (case h4 => ktr_units)
       (intro vs1 h1 tk1 F1 N1 hi1))
    | (refine' innerI_use (ns := fill ns Lo.toNat (digs n.toNat k1 low)) (IH k2 ?z1) ?B ?F ?X ?N ?T ?hk ?h0 ?h1 ?h5 ?h2 ?h6 hi1 hup0 hupk hnk2 ?h3 ?h4 ?_
       (case z1 => omega)
       (case B => k_asm)
       (case F => k_asm)
       (case X => k_asm)
       (case N => k_asm)
       (case T => k_asm)
       (case hk => exact rfl)
       (case h0 => omega)
       (case h1 => omega)
       (case h5 => omega)
       (case h2 => (rw [fill_length (by rw [digs_length]; omega)]; omega))
       (case h6 => (rw [fill_length (by rw [digs_length]; omega)]; omega))
       (case h3 => ktr_room)
       (case h4 => ktr_units)
       (intro vs2 h2 tk2 F2 N2 hi2)))
  k_steps
  all_goals first
    | (refine hret _ _ _ (by k_asm) (by k_asm) ?_
       have hk : k = 1 := by omega
       rw [hk, digs_one _ hx0 (by rw [hk, Nat.mul_one] at hx; exact hx), ← fill_set (by omega)]
       assumption)
    | (refine hret _ _ _ (by k_asm) (by k_asm) ?_
       rw [hdk, ← fill_fill (by rw [digs_length, digs_length]; omega), digs_length]
       rw [show (Lo + (k1 : Int)).toNat = Lo.toNat + k1 by omega] at hi2
       exact hi2)
end
/- part N2 -/
section
open PySem PySem.W PyProof.Rows PySem.Calls PySem.Spec
set_option maxRecDepth 100000
set_option maxHeartbeats 8000000
theorem quiet_N2 {M : Model} {A : Around} {E : Value → Shared → Prop} {Q : Flow → Shared → Prop} {env : Env} {s : Shared} (h : wpAny M A (execs [] env) Q E s) : wpAny M A (execs [] env) Q E s := by
  w_top off
  k_with_none
  first | (walk1; fail) | exact h
/-- the number that figures of n bits make, the lowest first -/
def undigs (n : Nat) : List Int → Int
  | [] => 0
  | d :: r => d + 2 ^ n * undigs n r
theorem undigs_append (n : Nat) : ∀ a b : List Int, undigs n (a ++ b) = undigs n a + 2 ^ (n * a.length) * undigs n b
  | [], b => by simp [undigs]
  | d :: r, b => by
    rw [List.cons_append, undigs, undigs, undigs_append n r b, List.length_cons, Nat.mul_succ, Nat.add_comm (n * r.length), Int.pow_add, Int.mul_add, Int.mul_assoc]
    omega
theorem undigs_bounds (n : Nat) : ∀ l : List Int, (∀ d ∈ l, 0 ≤ d ∧ d < 2 ^ n) → 0 ≤ undigs n l ∧ undigs n l < 2 ^ (n * l.length)
  | [], _ => by simp [undigs]
  | d :: r, h => by
    have ⟨i1, i2⟩ := undigs_bounds n r fun e he => h e (.tail _ he)
    have ⟨d1, d2⟩ := h d (.head _)
    have hp := pow_pos2 n
    rw [undigs, List.length_cons, Nat.mul_succ, Nat.add_comm (n * r.length), Int.pow_add]
    have m1 : 0 ≤ 2 ^ n * undigs n r := Int.mul_nonneg (by omega) i1
    have m2 : 2 ^ n * (undigs n r + 1) ≤ 2 ^ n * 2 ^ (n * r.length) := Int.mul_le_mul_of_nonneg_left (by omega) (by omega)
    rw [Int.mul_add] at m2
    omega
local macro_rules | `(tactic| omega) => `(tactic| walk_at "OM!")
local macro_rules | `(tactic| k_ne) => `(tactic| (refine neN ?_; (try dsimp only); first | (walk_at "CJ!") | exact Nat.ne_of_gt (by walk_at "CJ!") | exact Nat.ne_of_lt (by walk_at "CJ!") | exact Ne.symm (by walk_at "CJ!")))

local macro_rules | `(tactic| walk_at "call ref") => `(tactic| k_extra "IN!")
local macro_rules | `(tactic| walk_at "binaryOp RShift int int") => `(tactic| k_extra "SR!")
local macro_rules | `(tactic| walk_at "binaryOp LShift int int") => `(tactic| k_extra "SL!")
local macro_rules | `(tactic| walk_at "binaryOp Mult int int") => `(tactic| k_extra "SM!")
abbrev cloD (cN cA cI : Addr) : List (Str × Addr) := [(Str.ofString "n", cN), (Str.ofString "inner", cI), (Str.ofString "digits", cA)]
abbrev ledD (ql : Str) (b : List Stmt) (sc : Scope) (clos : List (Str × Addr)) (doc pm ct : Value) (fI cc : Addr) (oc : Obj) (cA : Addr) (oA : Obj) (cI : Addr) (oI : Obj) (cN : Addr) (oN pT : Obj) : List (Addr × Obj) :=
  [(fI, fnMade (Str.ofString "inner") ql aD b sc clos doc pm cc ct), (cc, oc), (cA, oA), (cI, oI), (cN, oN), (69, pT)]
def InnerD (w : World) (ql : Str) (b : List Stmt) (sc : Scope) (clos : List (Str × Addr)) (doc pm ct : Value) (fI cc : Addr) (oc : Obj) (cA : Addr) (oA : Obj) (cI : Addr) (oI : Obj) (cN : Addr) (oN pT : Obj) (D : Addr) (vs : List Value) (ns : List Int) (n : Int) (k : Nat) : Prop :=
  ∀ (Lo Hi : Int) (t2 t3 : Tok) (p : Program) (loose : List Str) (mean : ExcName → Option Value) (mg mb : Str → Option Value) (dp un : Nat) (gd : Option (List Code)) (cn : Str) (cs : Scope) (a : Addr) (ccd : Value) (cl : List (Str × Addr)) (outer : List Env) (A₀ : Around) (base h₀ : Heap) (L : Addr) (m : Str → Option Value) (s : Shared)
    (Q E : Value → Shared → Prop),
    Hi = Lo + k → 1 ≤ k → 0 ≤ Lo → Hi ≤ ns.length → h₀.IsList D vs.toArray → n.toNat * k ≤ 64 →
    Below A₀ base outer h₀ → Fr h₀ L s.heap m → (Mine.pre.heap_1 w.params).In h₀ → News h₀ L s.heap (ledD ql b sc clos doc pm ct fI cc oc cA oA cI oI cN oN pT) → Top p loose mean mg mb h₀ → cs.kind = .function → dp + k < recursionLimit → un + 8 * k < cLine →
    (∀ t h' tk', Fr h₀ L h' m → News h₀ L h' (ledD ql b sc clos doc pm ct fI cc oc cA oA cI oI cN oN pT) → Q (.int (undigs n.toNat ((ns.drop Lo.toNat).take k)) t) { s with heap := h', toks := tk' }) →
    wpAny (model PySem.Challenge.rw_xj0024_01.row.prog w) (ktrTop dp un gd cn cs L a ccd cl outer) (call (.ref fI) [.int Lo t2, .int Hi t3]) Q E s
theorem innerD_use {w : World} {ql : Str} {b : List Stmt} {sc : Scope} {clos : List (Str × Addr)} {doc pm ct : Value} {fI cc : Addr} {oc : Obj} {cA : Addr} {oA : Obj} {cI : Addr} {oI : Obj} {cN : Addr} {oN pT : Obj} {D : Addr} {vs : List Value} {ns : List Int} {n : Int} {k : Nat} (C : InnerD w ql b sc clos doc pm ct fI cc oc cA oA cI oI cN oN pT D vs ns n k)
    {Lo Hi : Int} {t2 t3 : Tok} {p : Program} {loose : List Str} {mean : ExcName → Option Value} {mg mb : Str → Option Value} {dp un : Nat} {gd : Option (List Code)} {cn : Str} {cs : Scope} {a : Addr} {ccd : Value} {cl : List (Str × Addr)} {outer : List Env} {A₀ : Around} {base h₀ : Heap} {L : Addr} {m : Str → Option Value} {s : Shared}
    {Q E : Value → Shared → Prop} (B : Below A₀ base outer h₀) (F : Fr h₀ L s.heap m) (X : (Mine.pre.heap_1 w.params).In h₀) (N : News h₀ L s.heap (ledD ql b sc clos doc pm ct fI cc oc cA oA cI oI cN oN pT)) (T : Top p loose mean mg mb h₀) (hk : cs.kind = .function)
    (hHi : Hi = Lo + k) (hk1 : 1 ≤ k) (hLo : 0 ≤ Lo) (hHn : Hi ≤ ns.length) (hl : h₀.IsList D vs.toArray) (hnk : n.toNat * k ≤ 64) (hd' : dp + k < recursionLimit) (hu : un + 8 * k < cLine)
    (ret : ∀ t h' tk', Fr h₀ L h' m → News h₀ L h' (ledD ql b sc clos doc pm ct fI cc oc cA oA cI oI cN oN pT) → Q (.int (undigs n.toNat ((ns.drop Lo.toNat).take k)) t) { s with heap := h', toks := tk' }) :
    wpAny (model PySem.Challenge.rw_xj0024_01.row.prog w) (ktrTop dp un gd cn cs L a ccd cl outer) (call (.ref fI) [.int Lo t2, .int Hi t3]) Q E s :=
  C _ _ _ _ _ _ _ _ _ _ _ _ _ _ _ _ _ _ _ _ _ _ _ _ _ _ hHi hk1 hLo hHn hl hnk B F X N T hk hd' hu ret
theorem innerD_step (w : World) (ql : Str) (b : List Stmt) (sc : Scope) (eb : b = bD) (es : sc = sD) (clos : List (Str × Addr)) (doc pm ct : Value) (fI cc : Nat) (oc : Obj) (cA : Nat) (oA : Obj) (cI : Nat) (oI : Obj) (cN : Nat) (oN pT : Obj) (D : Nat) (vs : List Value) (ns : List Int) (n : Int) (tn : Tok) (fs : Array Value) (tq : Tok)
    (hclos : clos = cloD cN cA cI) (hA : oA.data = .cell (some (.ref D))) (hI : oI.data = .cell (some (.ref fI))) (hN : oN.data = .cell (some (.int n tn))) (hoc : oc.data = .fields fs) (hfs : fs[1]? = some (.str ql tq))
    (hints : IntsAre vs ns) (hns : ns.length ≤ 40) (hdig : ∀ d ∈ ns, 0 ≤ d ∧ d < 2 ^ n.toNat) (hn : 1 ≤ n ∧ n ≤ 7) (k : Nat) (IH : ∀ k', k' < k → InnerD w ql b sc clos doc pm ct fI cc oc cA oA cI oI cN oN pT D vs ns n k') :
    InnerD w ql b sc clos doc pm ct fI cc oc cA oA cI oI cN oN pT D vs ns n k := by
  conv at eb => rhs; whnf
  conv at es => rhs; whnf
  subst eb es hclos
  unfold InnerD
  k_fill
  intro Lo Hi t2 t3 p loose mean mg mb dp un gd cn cs a ccd cl outer A₀ base h₀ L m s Q E hHi hk1 hLo hHn hl hnk B F X N T hk hd' hu hret
  have C73 := codeHd_of_K (c := 73) (P := 69) X (by kernel_rfl)
  obtain ⟨k1, e1⟩ : ∃ k1, k1 = k / 2 := ⟨_, rfl⟩
  obtain ⟨k2, e2⟩ : ∃ k2, k2 = k - k1 := ⟨_, rfl⟩
  obtain ⟨hk12, f1, f2, f3, f4, f5, f6, f7, f8, f9, f10, f11, f12, f13, f14, f15, f16, f17⟩ := halves hHi hk1 hLo hHn hns e1 e2
  have hkb : k1 ≤ k2 ∧ k2 ≤ k1 + 1 := ⟨f16, f17⟩
  clear e1 e2
  obtain ⟨S, eS⟩ : ∃ S, S = n.toNat * k1 := ⟨_, rfl⟩
  have hS : S ≤ 64 := by
    have : n.toNat * k1 ≤ n.toNat * k := Nat.mul_le_mul_left _ (by omega)
    omega
  have hmid : (Lo + Hi).fdiv (2 ^ Int.toNat 1) = Lo + (k1 : Int) := by
    rw [show (2 : Int) ^ Int.toNat 1 = 2 from rfl, Int.fdiv_eq_ediv_of_nonneg _ (by omega)]
    omega
  have hmul : (Lo + (k1 : Int) - Lo) * n = (S : Int) := by
    rw [show Lo + (k1 : Int) - Lo = k1 by omega, eS, Int.natCast_mul, Int.mul_comm]
    congr 1
    omega
  have hnk1 : n.toNat * k1 ≤ 64 := by omega
  have hnk2 : n.toNat * k2 ≤ 64 := by
    have : n.toNat * k2 ≤ n.toNat * k := Nat.mul_le_mul_left _ (by omega)
    omega
  obtain ⟨up, eu⟩ : ∃ up, up = undigs n.toNat ((ns.drop (Lo + (k1 : Int)).toNat).take k2) := ⟨_, rfl⟩
  have hup : 0 ≤ up ∧ up < 2 ^ 64 := by
    have h := undigs_bounds n.toNat ((ns.drop (Lo + (k1 : Int)).toNat).take k2) fun d hd => hdig d (List.mem_of_mem_drop (List.mem_of_mem_take hd))
    rw [← eu] at h
    have h2 : ((ns.drop (Lo + (k1 : Int)).toNat).take k2).length = k2 := by rw [List.length_take, List.length_drop]; omega
    rw [h2] at h
    exact ⟨h.1, Int.lt_of_lt_of_le h.2 (pow_mono2 hnk2)⟩
  have hsum : undigs n.toNat ((ns.drop Lo.toNat).take k) = up * 2 ^ S + undigs n.toNat ((ns.drop Lo.toNat).take k1) := by
    have h1 : (ns.drop Lo.toNat).take k = (ns.drop Lo.toNat).take k1 ++ (ns.drop (Lo + (k1 : Int)).toNat).take k2 := by
      rw [show (Lo + (k1 : Int)).toNat = Lo.toNat + k1 by omega, ← List.drop_drop, hk12, List.take_add]
    have h2 : ((ns.drop Lo.toNat).take k1).length = k1 := by rw [List.length_take, List.length_drop]; omega
    rw [h1, undigs_append, h2, ← eu, eS, Int.mul_comm up]
    omega
  have hone : Lo + 1 = Hi → undigs n.toNat ((ns.drop Lo.toNat).take k) = ns.getD Lo.toNat 0 := fun h => by
    have hk : k = 1 := by omega
    have hlt : Lo.toNat < ns.length := by omega
    rw [hk, List.drop_eq_getElem_cons hlt, List.getD_eq_getElem?_getD, List.getElem?_eq_getElem hlt, List.take_succ_cons, List.take_zero, undigs, undigs]
    simp
  refine wpAny_call ?_
  walk_at "N!enter"
  have hlg := stays_list (Fr.keep (by assumption : Fr h₀ L _ m)) hl
  k_with "SR!" => (refine shr_to (v := Lo + (k1 : Int)) (by decide) hmid ?_)
  k_with "SM!" => (refine mul_to (v := (S : Int)) (by omega) (by omega) hmul ?_)
  k_with "SL!" => (refine shl_to (v := up * 2 ^ S) (by omega) (by omega) (by omega) (by rw [Int.toNat_natCast]) ?_)
  k_with "IN!" => ((try (obtain ⟨g1, g2, g3, g4, g5, g6⟩ := two hHi (by assumption) hk12 f16 f17 hk1 hd' hu)); first
    | (refine' innerD_use (k := k2) (Lo := Lo + (k1 : Int)) (IH k2 ?z1) ?B ?F ?X ?N ?T ?hk ?h0 ?h1 ?h5 ?h2 ?hl hnk2 ?h3 ?h4 ?_
       (case z1 => omega)
       (case B => k_asm)
       (case F => k_asm)
       (case X => k_asm)
       (case N => k_asm)
       (case T => k_asm)
       (case hk => exact rfl)
       (case h0 => omega)
       (case h1 => omega)
       (case h5 => omega)
       (case h2 => omega)
       (case hl => assumption)
       (case h3 => ktr_room)
       (case h4 => ktr_units)
       (rw [← eu]; intro tv1 h1 tk1 F1 N1))
    | (refine' innerD_use (k := k1) (Lo := Lo) (IH k1 ?z1) ?B ?F ?X ?N ?T ?hk ?h0 ?h1 hLo ?h2 ?hl hnk1 ?h3 ?h4 ?_
       (case z1 => omega)
       (case B => k_asm)
       (case F => k_asm)
       (case X => k_asm)
       (case N => k_asm)
       (case T => k_asm)
       (case hk => exact rfl)
       (case h0 => omega)
       (case h1 => omega)
       (case h2 => omega)
       (case hl => assumption)
       (case h3 => ktr_room)
       (case h4 => ktr_units)
       (intro tv2 h2 tk2 F2 N2)))
  k_steps
  all_goals first
    | (rw [← hone (by assumption)]; exact hret _ _ _ (by k_asm) (by k_asm))
    | (rw [← hsum]; exact hret _ _ _ (by k_asm) (by k_asm))
end
/- part I1 -/
section
open PySem PySem.W PyProof.Rows PySem.Calls PySem.Spec
set_option maxRecDepth 100000
set_option maxHeartbeats 8000000
theorem quiet_I1 {M : Model} {A : Around} {E : Value → Shared → Prop} {Q : Flow → Shared → Prop} {env : Env} {s : Shared} (h : wpAny M A (execs [] env) Q E s) : wpAny M A (execs [] env) Q E s := by
  w_top off
  k_with_none
  first | (walk1; fail) | exact h
theorem innerI_all (w : World) (ql : Str) (clos : List (Str × Addr)) (doc pm ct : Value) (fI cc : Nat) (oc : Obj) (D cA : Nat) (oA : Obj) (cI : Nat) (oI : Obj) (cN : Nat) (oN pT : Obj) (n : Int) (tn : Tok) (fs : Array Value) (tq : Tok)
    (hclos : clos = cloI cN cA cI) (hA : oA.data = .cell (some (.ref D))) (hI : oI.data = .cell (some (.ref fI))) (hN : oN.data = .cell (some (.int n tn))) (hoc : oc.data = .fields fs) (hfs : fs[1]? = some (.str ql tq))
    (hne : D ≠ fI ∧ D ≠ cc ∧ D ≠ cA ∧ D ≠ cI ∧ D ≠ cN ∧ D ≠ 62) (hn : 1 ≤ n ∧ n ≤ 7) (k : Nat) : InnerI w ql bI sI clos doc pm ct fI cc oc D cA oA cI oI cN oN pT n k := by
  induction k using Nat.strongRecOn with
  | ind k ih => exact innerI_step w ql bI sI rfl rfl clos doc pm ct fI cc oc D cA oA cI oI cN oN pT n tn fs tq hclos hA hI hN hoc hfs hne hn k ih
theorem innerI_start {w : World} {ql : Str} {clos : List (Str × Addr)} {doc pm ct : Value} {fI cc : Nat} {oc : Obj} {D cA : Nat} {oA : Obj} {cI : Nat} {oI : Obj} {cN : Nat} {oN pT : Obj} {n : Int} {tn : Tok} {fs : Array Value} {tq : Tok} {k : Nat}
    {x Lo Hi : Int} {t1 t2 t3 : Tok} {vs : List Value} {ns : List Int} {p : Program} {loose : List Str} {mean : ExcName → Option Value} {mg mb : Str → Option Value} {dp un : Nat} {gd : Option (List Code)} {cn : Str} {cs : Scope} {a : Addr} {ccd : Value} {cl : List (Str × Addr)} {outer : List Env} {A₀ : Around} {base h₀ : Heap} {L : Addr} {m : Str → Option Value} {s : Shared}
    {Q E : Value → Shared → Prop} {news : List (Addr × Obj)} (B : Below A₀ base outer h₀) (F : Fr h₀ L s.heap m) (X : (Mine.pre.heap_1 w.params).In h₀) (N : News h₀ L s.heap news) (T : Top p loose mean mg mb h₀) (hk : cs.kind = .function)
    (m1 : (fI, fnMade (Str.ofString "inner") ql aI bI sI clos doc pm cc ct) ∈ news) (hclos : clos = cloI cN cA cI) (mA : (cA, oA) ∈ news) (hA : oA.data = .cell (some (.ref D))) (mI : (cI, oI) ∈ news) (hI : oI.data = .cell (some (.ref fI))) (mN : (cN, oN) ∈ news) (hN : oN.data = .cell (some (.int n tn)))
    (mc : (cc, oc) ∈ news) (hoc : oc.data = .fields fs) (hfs : fs[1]? = some (.str ql tq)) (mD : (D, listOf vs.toArray 0) ∈ news) (mT : (62, pT) ∈ news) (hne : D ≠ fI ∧ D ≠ cc ∧ D ≠ cA ∧ D ≠ cI ∧ D ≠ cN ∧ D ≠ 62) (hn : 1 ≤ n ∧ n ≤ 7)
    (hHi : Hi = Lo + k) (hk1 : 1 ≤ k) (hLo : 0 ≤ Lo) (hHn : Hi ≤ ns.length) (hns : ns.length ≤ 40) (hi : IntsAre vs ns) (hx0 : 0 ≤ x) (hx : x < 2 ^ (n.toNat * k)) (hnk : n.toNat * k ≤ 64) (hd' : dp + k < recursionLimit) (hu : un + 8 * k < cLine)
    (ret : ∀ vs' h' tk', Fr h₀ L h' m → News h₀ L h' (ledI ql bI sI clos doc pm ct fI cc oc D vs' cA oA cI oI cN oN pT) → IntsAre vs' (fill ns Lo.toNat (digs n.toNat k x)) → Q .none { s with heap := h', toks := tk' }) :
    wpAny (model PySem.Challenge.rw_xj0024_01.row.prog w) (ktrTop dp un gd cn cs L a ccd cl outer) (call (.ref fI) [.int x t1, .int Lo t2, .int Hi t3]) Q E s :=
  innerI_use (innerI_all w ql clos doc pm ct fI cc oc D cA oA cI oI cN oN pT n tn fs tq hclos hA hI hN hoc hfs hne hn k) B F X
    (kst_newsOf N (by intro p hp; simp only [List.mem_cons, List.not_mem_nil, or_false] at hp; rcases hp with rfl | rfl | rfl | rfl | rfl | rfl | rfl <;> assumption)) T hk hHi hk1 hLo hHn hns hi hx0 hx hnk hd' hu ret
theorem news3 {h₀ h : Heap} {L : Addr} {news : List (Addr × Obj)} {p1 p2 p3 : Addr × Obj} (N : News h₀ L h news) (m1 : p1 ∈ news) (m2 : p2 ∈ news) (m3 : p3 ∈ news) : News h₀ L h [p1, p2, p3] :=
  kst_newsOf N (by intro p hp; simp only [List.mem_cons, List.not_mem_nil, or_false] at hp; rcases hp with rfl | rfl | rfl <;> assumption)
def posOf : Stmt → Pos
  | .FunctionDef _ _ _ _ _ _ _ _ _ p => p
  | _ => ⟨0, 0, 0, 0⟩
abbrev tI (cc : Addr) : Obj := tabObj #[rawInt (posOf inI).line, rawInt (posOf inI).col, .ref cc]
def sc8 : Scope := scopeOf PySem.Challenge.pw_xj0024_01.main.scope (stAt topB 8)
def qnI : Str := qualnameIn (envOfC (Str.ofString "_int2digits") sc8 0 67 (.ref 66)) (Str.ofString "inner") (Str.ofString "inner")
theorem digs_zero (n : Nat) : ∀ k, digs n k 0 = List.replicate k 0
  | 0 => rfl
  | k + 1 => by rw [digs, List.replicate_succ, Int.zero_emod, Int.zero_ediv, digs_zero n k]
theorem ints_rep (k : Nat) (t : Tok) : IntsAre (List.replicate k (.int 0 t)) (List.replicate k 0) := by
  induction k with
  | zero => exact .nil
  | succ k ih => exact .cons _ _ ih
theorem fill_all {k : Nat} {ds : List Int} (h : ds.length = k) : fill (List.replicate k 0) 0 ds = ds := by
  simp [fill, h]
local macro_rules | `(tactic| omega) => `(tactic| walk_at "OM!")
local macro_rules | `(tactic| k_ne) => `(tactic| (refine neN ?_; (try dsimp only); first | (walk_at "CJ!") | exact Nat.ne_of_gt (by walk_at "CJ!") | exact Nat.ne_of_lt (by walk_at "CJ!") | exact Ne.symm (by walk_at "CJ!")))

local macro_rules | `(tactic| walk_at "binaryOp Mult ref int") => `(tactic| k_extra "ML!")
local macro_rules | `(tactic| walk_at "call builtin:len") => `(tactic| k_extra "LN!")
local macro_rules | `(tactic| walk_at "call ref") => `(tactic| k_extra "IN!")
theorem bits_31 {a : Int} (h0 : 0 ≤ a) (h : a < 8589934592) : Builtin.Int.intBits a ≤ 33 := intBits_le_iff.mpr (by omega)
theorem rep_flat (k : Nat) (v : Value) : (List.replicate k [v]).flatten = List.replicate k v := by simp
theorem count_dec : ∀ b : Nat, b < 34 → ∀ m : Nat, m < 8 → 1 ≤ m → ((b : Int) + (m : Int) - 1).fdiv (m : Int) = (((b + m - 1) / m : Nat) : Int) ∧ (b + m - 1) / m ≤ 33 ∧ b ≤ m * ((b + m - 1) / m) ∧ m * ((b + m - 1) / m) ≤ 64 ∧ (b = 0 → (b + m - 1) / m = 0) := by decide +kernel
theorem count_le {b : Nat} {n : Int} (hb : b ≤ 33) (hn : 1 ≤ n ∧ n ≤ 7) : ∃ K : Nat, ((b : Int) + n - 1).fdiv n = K ∧ K ≤ 33 ∧ b ≤ n.toNat * K ∧ n.toNat * K ≤ 64 ∧ (b = 0 → K = 0) := by
  obtain ⟨m, rfl⟩ : ∃ m : Nat, n = (m : Int) := ⟨n.toNat, by omega⟩
  have h := count_dec b (Nat.lt_succ_of_le hb) m (by omega) (by omega)
  rw [Int.toNat_natCast]
  exact ⟨_, h⟩
/-- how many figures of n bits a number has -/
def figs (a n : Int) : Nat := (((Builtin.Int.intBits a : Int) + n - 1).fdiv n).toNat
theorem ctr_i2dF (w : World) (a n : Int) (ta tn : Tok) (ha : 0 ≤ a ∧ a < 8589934592) (hn : 1 ≤ n ∧ n ≤ 7) : CtrF w 67 40 400 [.int a ta, .int n tn] [(62, tabObj #[])] (fun _ => True)
    (fun led' r => ∃ l vs cc oc fs tq, r = .ref l ∧ IntsAre vs (digs n.toNat (figs a n) a) ∧ oc.data = .fields fs ∧ fs[1]? = some (.str qnI tq) ∧ led' = [(cc, oc), (l, listOf vs.toArray 0), (62, tI cc)]) := by
  unfold CtrF
  k_fill
  intro p loose mean mg mb dp un gd cn cs A ccd cl outer A₀ base h₀ L m s Q E B F X N T hk hpre hd' hu hret
  have hbits := bits_31 ha.1 ha.2
  obtain ⟨K, hK, hK31, hbK, hnK, hK0⟩ := count_le hbits hn
  have hfig : figs a n = K := by rw [figs, hK, Int.toNat_natCast]
  rw [hfig] at hret
  have hlt : a < 2 ^ (n.toNat * K) := by
    have h1 := intBits_le_iff.mp hbK
    have h2 : ((2 ^ (n.toNat * K) : Nat) : Int) = 2 ^ (n.toNat * K) := by norm_cast
    omega
  have hbz : Builtin.Int.intBits a = 0 → a = 0 := fun h => by
    have h1 := intBits_le_iff.mp (Nat.le_of_eq h)
    omega
  refine wpAny_call ?_
  walk_at "F!enter"
  rename Keep _ _ _ => KG0
  have C66' := codeHd_of_K (c := 66) (P := 62) (by assumption : (Mine.pre.heap_1 w.params).In _) (by kernel_rfl)
  k_with "ML!" => (
    refine' KMa.mul (ws := List.replicate K (Value.int 0 _)) ?F ?N ?l ?lo ?hi ?z ?e ?_
    (case F => k_asm)
    (case N => k_asm)
    (case l => is_list)
    (case lo => omega)
    (case hi => omega)
    (case z => (simp only [List.length_cons, List.length_nil]; omega))
    (case e => (rw [hK, Int.toNat_natCast]; exact rep_flat _ _))
    (intro D' h' F' N' l1; (try k_lt l1); (try k_sweep)))
  k_with "LN!" => (
    refine' kun_lenL (k := (K : Int)) ?k1 ?k2 ?k3 ?_
    (case k1 => exact News.isList (by k_asm) (by k_mem))
    (case k2 => simp)
    (case k3 => omega))
  k_with "IN!" => (
    refine' innerI_start (k := K) (ns := List.replicate K 0) ?B ?F ?X ?N ?T ?hk ?m1 ?hc ?mA ?hA ?mI ?hI ?mN ?hN ?mc ?ho ?hf ?mD ?mT ?ne hn ?g1 ?g2 ?g3 ?g4 ?g5 ?g6 ha.1 ?g7 hnK ?g8 ?g9 ?_
    (case B => k_asm)
    (case F => k_asm)
    (case X => k_asm)
    (case N => k_asm)
    (case T => k_asm)
    (case hk => exact rfl)
    (case m1 => k_mem)
    (case hc => exact rfl)
    (case mA => k_mem)
    (case hA => assumption)
    (case mI => k_mem)
    (case hI => assumption)
    (case mN => k_mem)
    (case hN => assumption)
    (case mc => k_mem)
    (case ho => assumption)
    (case hf => assumption)
    (case mD => k_mem)
    (case mT => k_mem)
    (case ne => exact ⟨by omega, by omega, by omega, by omega, by omega, by omega⟩)
    (case g1 => omega)
    (case g2 => (rcases Nat.eq_zero_or_pos K with h0 | h0; (exfalso; rw [h0] at hbK; have hz := hbz (by omega); omega); exact h0))
    (case g3 => omega)
    (case g4 => (rw [List.length_replicate]; omega))
    (case g5 => (rw [List.length_replicate]; omega))
    (case g6 => exact ints_rep _ _)
    (case g7 => exact hlt)
    (case g8 => ktr_room)
    (case g9 => ktr_units)
    (intro vs1 h1 tk1 F1 N1 hi1))
  k_steps
  · have hv : IntsAre vs1 (digs n.toNat K a) := by rw [← fill_all (k := K) (digs_length _ _ _)]; exact hi1
    refine' hret _ _ _ _ ?F ?N ?W ?K ⟨_, vs1, _, _, _, _, rfl, hv, ?O, ?S, rfl⟩
    (case O => assumption)
    (case S => assumption)
    (case F => assumption)
    (case N => (refine' news3 ?n0 ?n1 ?n2 ?n3; (case n0 => assumption); (case n1 => k_mem); (case n2 => k_mem); (case n3 => k_mem)))
    (case W => (refine' new_of KG0 (news3 ?n0 ?n1 ?n2 ?n3); (case n0 => assumption); (case n1 => k_mem); (case n2 => k_mem); (case n3 => k_mem)))
    (case K => assumption)
  · have ha0 : a = 0 := by assumption
    refine' hret _ _ _ _ ?F ?N ?W ?K ⟨_, List.replicate K (.int 0 _), _, _, _, _, rfl, ?I, ?O, ?S, rfl⟩
    (case I => (rw [ha0, digs_zero]; exact ints_rep _ _))
    (case O => assumption)
    (case S => assumption)
    (case F => assumption)
    (case N => (refine' news3 ?n0 ?n1 ?n2 ?n3; (case n0 => assumption); (case n1 => k_mem); (case n2 => k_mem); (case n3 => k_mem)))
    (case W => (refine' new_of KG0 (news3 ?n0 ?n1 ?n2 ?n3); (case n0 => assumption); (case n1 => k_mem); (case n2 => k_mem); (case n3 => k_mem)))
    (case K => assumption)
theorem ctr_i2dH (w : World) (cc : Nat) (oc : Obj) (fs : Array Value) (tq : Tok) (hoc : oc.data = .fields fs) (hfs : fs[1]? = some (.str qnI tq)) (hcc : cc ≠ 62) (a n : Int) (ta tn : Tok) (ha : 0 ≤ a ∧ a < 8589934592) (hn : 1 ≤ n ∧ n ≤ 7) : CtrF w 67 40 400 [.int a ta, .int n tn] [(62, tI cc), (cc, oc)] (fun _ => True)
    (fun led' r => ∃ l vs, r = .ref l ∧ IntsAre vs (digs n.toNat (figs a n) a) ∧ led' = [(l, listOf vs.toArray 0), (62, tI cc), (cc, oc)]) := by
  unfold CtrF
  k_fill
  intro p loose mean mg mb dp un gd cn cs A ccd cl outer A₀ base h₀ L m s Q E B F X N T hk hpre hd' hu hret
  have hbits := bits_31 ha.1 ha.2
  obtain ⟨K, hK, hK31, hbK, hnK, hK0⟩ := count_le hbits hn
  have hfig : figs a n = K := by rw [figs, hK, Int.toNat_natCast]
  rw [hfig] at hret
  have hlt : a < 2 ^ (n.toNat * K) := by
    have h1 := intBits_le_iff.mp hbK
    have h2 : ((2 ^ (n.toNat * K) : Nat) : Int) = 2 ^ (n.toNat * K) := by norm_cast
    omega
  have hbz : Builtin.Int.intBits a = 0 → a = 0 := fun h => by
    have h1 := intBits_le_iff.mp (Nat.le_of_eq h)
    omega
  refine wpAny_call ?_
  walk_at "F!enter"
  rename Keep _ _ _ => KG0
  have C66' := codeHd_of_K (c := 66) (P := 62) (by assumption : (Mine.pre.heap_1 w.params).In _) (by kernel_rfl)
  k_with "ML!" => (
    refine' KMa.mul (ws := List.replicate K (Value.int 0 _)) ?F ?N ?l ?lo ?hi ?z ?e ?_
    (case F => k_asm)
    (case N => k_asm)
    (case l => is_list)
    (case lo => omega)
    (case hi => omega)
    (case z => (simp only [List.length_cons, List.length_nil]; omega))
    (case e => (rw [hK, Int.toNat_natCast]; exact rep_flat _ _))
    (intro D' h' F' N' l1; (try k_lt l1); (try k_sweep)))
  k_with "LN!" => (
    refine' kun_lenL (k := (K : Int)) ?k1 ?k2 ?k3 ?_
    (case k1 => exact News.isList (by k_asm) (by k_mem))
    (case k2 => simp)
    (case k3 => omega))
  k_with "IN!" => (
    refine' innerI_start (k := K) (ns := List.replicate K 0) ?B ?F ?X ?N ?T ?hk ?m1 ?hc ?mA ?hA ?mI ?hI ?mN ?hN ?mc ?ho ?hf ?mD ?mT ?ne hn ?g1 ?g2 ?g3 ?g4 ?g5 ?g6 ha.1 ?g7 hnK ?g8 ?g9 ?_
    (case B => k_asm)
    (case F => k_asm)
    (case X => k_asm)
    (case N => k_asm)
    (case T => k_asm)
    (case hk => exact rfl)
    (case m1 => k_mem)
    (case hc => exact rfl)
    (case mA => k_mem)
    (case hA => assumption)
    (case mI => k_mem)
    (case hI => assumption)
    (case mN => k_mem)
    (case hN => assumption)
    (case mc => k_mem)
    (case ho => assumption)
    (case hf => assumption)
    (case mD => k_mem)
    (case mT => k_mem)
    (case ne => exact ⟨by omega, by omega, by omega, by omega, by omega, by omega⟩)
    (case g1 => omega)
    (case g2 => (rcases Nat.eq_zero_or_pos K with h0 | h0; (exfalso; rw [h0] at hbK; have hz := hbz (by omega); omega); exact h0))
    (case g3 => omega)
    (case g4 => (rw [List.length_replicate]; omega))
    (case g5 => (rw [List.length_replicate]; omega))
    (case g6 => exact ints_rep _ _)
    (case g7 => exact hlt)
    (case g8 => ktr_room)
    (case g9 => ktr_units)
    (intro vs1 h1 tk1 F1 N1 hi1))
  k_steps
  · have hv : IntsAre vs1 (digs n.toNat K a) := by rw [← fill_all (k := K) (digs_length _ _ _)]; exact hi1
    refine' hret _ _ _ _ ?F ?N ?W ?K ⟨_, vs1, rfl, hv, rfl⟩
    (case F => assumption)
    (case N => (refine' news3 ?n0 ?n1 ?n2 ?n3; (case n0 => assumption); (case n1 => k_mem); (case n2 => k_mem); (case n3 => k_mem)))
    (case W => (refine' new_of KG0 (news3 ?n0 ?n1 ?n2 ?n3); (case n0 => assumption); (case n1 => k_mem); (case n2 => k_mem); (case n3 => k_mem)))
    (case K => assumption)
  · have ha0 : a = 0 := by assumption
    refine' hret _ _ _ _ ?F ?N ?W ?K ⟨_, List.replicate K (.int 0 _), rfl, ?I, rfl⟩
    (case I => (rw [ha0, digs_zero]; exact ints_rep _ _))
    (case F => assumption)
    (case N => (refine' news3 ?n0 ?n1 ?n2 ?n3; (case n0 => assumption); (case n1 => k_mem); (case n2 => k_mem); (case n3 => k_mem)))
    (case W => (refine' new_of KG0 (news3 ?n0 ?n1 ?n2 ?n3); (case n0 => assumption); (case n1 => k_mem); (case n2 => k_mem); (case n3 => k_mem)))
    (case K => assumption)
end
/- part I2 -/
section
open PySem PySem.W PyProof.Rows PySem.Calls PySem.Spec
set_option maxRecDepth 100000
set_option maxHeartbeats 8000000
theorem quiet_I2 {M : Model} {A : Around} {E : Value → Shared → Prop} {Q : Flow → Shared → Prop} {env : Env} {s : Shared} (h : wpAny M A (execs [] env) Q E s) : wpAny M A (execs [] env) Q E s := by
  w_top off
  k_with_none
  first | (walk1; fail) | exact h
theorem innerD_all (w : World) (ql : Str) (clos : List (Str × Addr)) (doc pm ct : Value) (fI cc : Nat) (oc : Obj) (cA : Nat) (oA : Obj) (cI : Nat) (oI : Obj) (cN : Nat) (oN pT : Obj) (D : Nat) (vs : List Value) (ns : List Int) (n : Int) (tn : Tok) (fs : Array Value) (tq : Tok)
    (hclos : clos = cloD cN cA cI) (hA : oA.data = .cell (some (.ref D))) (hI : oI.data = .cell (some (.ref fI))) (hN : oN.data = .cell (some (.int n tn))) (hoc : oc.data = .fields fs) (hfs : fs[1]? = some (.str ql tq))
    (hints : IntsAre vs ns) (hns : ns.length ≤ 40) (hdig : ∀ d ∈ ns, 0 ≤ d ∧ d < 2 ^ n.toNat) (hn : 1 ≤ n ∧ n ≤ 7) (k : Nat) : InnerD w ql bD sD clos doc pm ct fI cc oc cA oA cI oI cN oN pT D vs ns n k := by
  induction k using Nat.strongRecOn with
  | ind k ih => exact innerD_step w ql bD sD rfl rfl clos doc pm ct fI cc oc cA oA cI oI cN oN pT D vs ns n tn fs tq hclos hA hI hN hoc hfs hints hns hdig hn k ih
theorem innerD_start {w : World} {ql : Str} {clos : List (Str × Addr)} {doc pm ct : Value} {fI cc : Nat} {oc : Obj} {cA : Nat} {oA : Obj} {cI : Nat} {oI : Obj} {cN : Nat} {oN pT : Obj} {D : Nat} {vs : List Value} {ns : List Int} {n : Int} {tn : Tok} {fs : Array Value} {tq : Tok} {k : Nat}
    {Lo Hi : Int} {t2 t3 : Tok} {p : Program} {loose : List Str} {mean : ExcName → Option Value} {mg mb : Str → Option Value} {dp un : Nat} {gd : Option (List Code)} {cn : Str} {cs : Scope} {a : Addr} {ccd : Value} {cl : List (Str × Addr)} {outer : List Env} {A₀ : Around} {base h₀ : Heap} {L : Addr} {m : Str → Option Value} {s : Shared}
    {Q E : Value → Shared → Prop} {news : List (Addr × Obj)} (B : Below A₀ base outer h₀) (F : Fr h₀ L s.heap m) (X : (Mine.pre.heap_1 w.params).In h₀) (N : News h₀ L s.heap news) (T : Top p loose mean mg mb h₀) (hk : cs.kind = .function)
    (m1 : (fI, fnMade (Str.ofString "inner") ql aD bD sD clos doc pm cc ct) ∈ news) (hclos : clos = cloD cN cA cI) (mA : (cA, oA) ∈ news) (hA : oA.data = .cell (some (.ref D))) (mI : (cI, oI) ∈ news) (hI : oI.data = .cell (some (.ref fI))) (mN : (cN, oN) ∈ news) (hN : oN.data = .cell (some (.int n tn)))
    (mc : (cc, oc) ∈ news) (hoc : oc.data = .fields fs) (hfs : fs[1]? = some (.str ql tq)) (mT : (69, pT) ∈ news) (hn : 1 ≤ n ∧ n ≤ 7)
    (hints : IntsAre vs ns) (hns : ns.length ≤ 40) (hdig : ∀ d ∈ ns, 0 ≤ d ∧ d < 2 ^ n.toNat)
    (hHi : Hi = Lo + k) (hk1 : 1 ≤ k) (hLo : 0 ≤ Lo) (hHn : Hi ≤ ns.length) (hl : h₀.IsList D vs.toArray) (hnk : n.toNat * k ≤ 64) (hd' : dp + k < recursionLimit) (hu : un + 8 * k < cLine)
    (ret : ∀ t h' tk', Fr h₀ L h' m → News h₀ L h' (ledD ql bD sD clos doc pm ct fI cc oc cA oA cI oI cN oN pT) → Q (.int (undigs n.toNat ((ns.drop Lo.toNat).take k)) t) { s with heap := h', toks := tk' }) :
    wpAny (model PySem.Challenge.rw_xj0024_01.row.prog w) (ktrTop dp un gd cn cs L a ccd cl outer) (call (.ref fI) [.int Lo t2, .int Hi t3]) Q E s :=
  innerD_use (innerD_all w ql clos doc pm ct fI cc oc cA oA cI oI cN oN pT D vs ns n tn fs tq hclos hA hI hN hoc hfs hints hns hdig hn k) B F X
    (kst_newsOf N (by intro p hp; simp only [List.mem_cons, List.not_mem_nil, or_false] at hp; rcases hp with rfl | rfl | rfl | rfl | rfl | rfl <;> assumption)) T hk hHi hk1 hLo hHn hl hnk hd' hu ret
abbrev tD (cc : Addr) : Obj := tabObj #[rawInt (posOf inD).line, rawInt (posOf inD).col, .ref cc]
def sc9 : Scope := scopeOf PySem.Challenge.pw_xj0024_01.main.scope (stAt topB 9)
def qnD : Str := qualnameIn (envOfC (Str.ofString "_digits2int") sc9 0 74 (.ref 73)) (Str.ofString "inner") (Str.ofString "inner")
theorem news2 {h₀ h : Heap} {L : Addr} {news : List (Addr × Obj)} {p1 p2 : Addr × Obj} (N : News h₀ L h news) (m1 : p1 ∈ news) (m2 : p2 ∈ news) : News h₀ L h [p1, p2] :=
  kst_newsOf N (by intro p hp; simp only [List.mem_cons, List.not_mem_nil, or_false] at hp; rcases hp with rfl | rfl <;> assumption)
theorem list_keep {l : List Addr} {g h : Heap} {D : Addr} {items : Array Value} (k : Keep l h g) (hn : D ∉ l) (x : h.IsList D items) : g.IsList D items := let ⟨o, ho, r⟩ := x; ⟨o, k D o ho hn, r⟩
local macro_rules | `(tactic| omega) => `(tactic| walk_at "OM!")
local macro_rules | `(tactic| k_ne) => `(tactic| (refine neN ?_; (try dsimp only); first | (walk_at "CJ!") | exact Nat.ne_of_gt (by walk_at "CJ!") | exact Nat.ne_of_lt (by walk_at "CJ!") | exact Ne.symm (by walk_at "CJ!")))

local macro_rules | `(tactic| walk_at "call builtin:len") => `(tactic| k_extra "LN!")
local macro_rules | `(tactic| walk_at "call ref") => `(tactic| k_extra "IN!")
theorem ctr_d2iF (w : World) (D : Nat) (vs : List Value) (ns : List Int) (n : Int) (tn : Tok) (hI : IntsAre vs ns) (hlen : ns.length ≤ 40) (hb : ∀ d ∈ ns, 0 ≤ d ∧ d < 2 ^ n.toNat) (hn : 1 ≤ n ∧ n ≤ 7) (hnk : n.toNat * ns.length ≤ 64) (hD : D ∉ ([69] : List Nat)) : CtrF w 74 50 500 [.ref D, .int n tn] [(69, tabObj #[])] (fun h => h.IsList D vs.toArray)
    (fun led' r => ∃ t cc oc fs tq, r = .int (undigs n.toNat ns) t ∧ oc.data = .fields fs ∧ fs[1]? = some (.str qnD tq) ∧ led' = [(cc, oc), (69, tD cc)]) := by
  unfold CtrF
  k_fill
  intro p loose mean mg mb dp un gd cn cs A ccd cl outer A₀ base h₀ L m s Q E B F X N T hk hpre hd' hu hret
  refine wpAny_call ?_
  walk_at "F!enter"
  rename Keep _ _ _ => KG0
  have hlg := list_keep KG0 hD hpre
  have C73' := codeHd_of_K (c := 73) (P := 69) (by assumption : (Mine.pre.heap_1 w.params).In _) (by kernel_rfl)
  have hvl := hI.length
  k_with "LN!" => (
    refine' kun_lenL (k := (ns.length : Int)) ?k1 ?k2 ?k3 ?_
    (case k1 => is_list)
    (case k2 => (rw [List.size_toArray]; omega))
    (case k3 => omega))
  k_with "IN!" => (
    refine' innerD_start (k := ns.length) (ns := ns) ?B ?F ?X ?N ?T ?hk ?m1 ?hc ?mA ?hA ?mI ?hI ?mN ?hN ?mc ?ho ?hf ?mT hn hI hlen hb ?g1 ?g2 ?g3 ?g4 ?g5 hnk ?g8 ?g9 ?_
    (case B => k_asm)
    (case F => k_asm)
    (case X => k_asm)
    (case N => k_asm)
    (case T => k_asm)
    (case hk => exact rfl)
    (case m1 => k_mem)
    (case hc => exact rfl)
    (case mA => k_mem)
    (case hA => assumption)
    (case mI => k_mem)
    (case hI => assumption)
    (case mN => k_mem)
    (case hN => assumption)
    (case mc => k_mem)
    (case ho => assumption)
    (case hf => assumption)
    (case mT => k_mem)
    (case g1 => omega)
    (case g2 => omega)
    (case g3 => omega)
    (case g4 => omega)
    (case g5 => assumption)
    (case g8 => ktr_room)
    (case g9 => ktr_units)
    (intro tv1 h1 tk1 F1 N1))
  k_steps
  · have e1 : (ns.drop (Int.toNat 0)).take ns.length = ns := by rw [show Int.toNat 0 = 0 from rfl, List.drop_zero, List.take_length]
    rw [e1]
    refine' hret _ _ _ _ ?F ?N ?W ?K ⟨_, _, _, _, _, rfl, ?O, ?S, rfl⟩
    (case O => assumption)
    (case S => assumption)
    (case F => assumption)
    (case N => (refine' news2 ?n0 ?n1 ?n2; (case n0 => assumption); (case n1 => k_mem); (case n2 => k_mem)))
    (case W => (refine' new_of KG0 (news2 ?n0 ?n1 ?n2); (case n0 => assumption); (case n1 => k_mem); (case n2 => k_mem)))
    (case K => assumption)
  · have e1 : (0 : Int) = undigs n.toNat ns := by rw [List.eq_nil_of_length_eq_zero (l := ns) (by omega)]; rfl
    rw [e1]
    refine' hret _ _ _ _ ?F ?N ?W ?K ⟨_, _, _, _, _, rfl, ?O, ?S, rfl⟩
    (case O => assumption)
    (case S => assumption)
    (case F => assumption)
    (case N => (refine' news2 ?n0 ?n1 ?n2; (case n0 => assumption); (case n1 => k_mem); (case n2 => k_mem)))
    (case W => (refine' new_of KG0 (news2 ?n0 ?n1 ?n2); (case n0 => assumption); (case n1 => k_mem); (case n2 => k_mem)))
    (case K => assumption)
theorem ctr_d2iH (w : World) (cc : Nat) (oc : Obj) (fs : Array Value) (tq : Tok) (hoc : oc.data = .fields fs) (hfs : fs[1]? = some (.str qnD tq)) (D : Nat) (vs : List Value) (ns : List Int) (n : Int) (tn : Tok) (hI : IntsAre vs ns) (hlen : ns.length ≤ 40) (hb : ∀ d ∈ ns, 0 ≤ d ∧ d < 2 ^ n.toNat) (hn : 1 ≤ n ∧ n ≤ 7) (hnk : n.toNat * ns.length ≤ 64) (hD : D ∉ ([69, cc] : List Nat)) : CtrF w 74 50 500 [.ref D, .int n tn] [(69, tD cc), (cc, oc)] (fun h => h.IsList D vs.toArray)
    (fun led' r => ∃ t, r = .int (undigs n.toNat ns) t ∧ led' = [(69, tD cc), (cc, oc)]) := by
  unfold CtrF
  k_fill
  intro p loose mean mg mb dp un gd cn cs A ccd cl outer A₀ base h₀ L m s Q E B F X N T hk hpre hd' hu hret
  refine wpAny_call ?_
  walk_at "F!enter"
  rename Keep _ _ _ => KG0
  have hlg := list_keep KG0 hD hpre
  have C73' := codeHd_of_K (c := 73) (P := 69) (by assumption : (Mine.pre.heap_1 w.params).In _) (by kernel_rfl)
  have hvl := hI.length
  k_with "LN!" => (
    refine' kun_lenL (k := (ns.length : Int)) ?k1 ?k2 ?k3 ?_
    (case k1 => is_list)
    (case k2 => (rw [List.size_toArray]; omega))
    (case k3 => omega))
  k_with "IN!" => (
    refine' innerD_start (k := ns.length) (ns := ns) ?B ?F ?X ?N ?T ?hk ?m1 ?hc ?mA ?hA ?mI ?hI ?mN ?hN ?mc ?ho ?hf ?mT hn hI hlen hb ?g1 ?g2 ?g3 ?g4 ?g5 hnk ?g8 ?g9 ?_
    (case B => k_asm)
    (case F => k_asm)
    (case X => k_asm)
    (case N => k_asm)
    (case T => k_asm)
    (case hk => exact rfl)
    (case m1 => k_mem)
    (case hc => exact rfl)
    (case mA => k_mem)
    (case hA => assumption)
    (case mI => k_mem)
    (case hI => assumption)
    (case mN => k_mem)
    (case hN => assumption)
    (case mc => k_mem)
    (case ho => assumption)
    (case hf => assumption)
    (case mT => k_mem)
    (case g1 => omega)
    (case g2 => omega)
    (case g3 => omega)
    (case g4 => omega)
    (case g5 => assumption)
    (case g8 => ktr_room)
    (case g9 => ktr_units)
    (intro tv1 h1 tk1 F1 N1))
  k_steps
  · have e1 : (ns.drop (Int.toNat 0)).take ns.length = ns := by rw [show Int.toNat 0 = 0 from rfl, List.drop_zero, List.take_length]
    rw [e1]
    refine' hret _ _ _ _ ?F ?N ?W ?K ⟨_, rfl, rfl⟩
    (case F => assumption)
    (case N => (refine' news2 ?n0 ?n1 ?n2; (case n0 => assumption); (case n1 => k_mem); (case n2 => k_mem)))
    (case W => (refine' new_of KG0 (news2 ?n0 ?n1 ?n2); (case n0 => assumption); (case n1 => k_mem); (case n2 => k_mem)))
    (case K => assumption)
  · have e1 : (0 : Int) = undigs n.toNat ns := by rw [List.eq_nil_of_length_eq_zero (l := ns) (by omega)]; rfl
    rw [e1]
    refine' hret _ _ _ _ ?F ?N ?W ?K ⟨_, rfl, rfl⟩
    (case F => assumption)
    (case N => (refine' news2 ?n0 ?n1 ?n2; (case n0 => assumption); (case n1 => k_mem); (case n2 => k_mem)))
    (case W => (refine' new_of KG0 (news2 ?n0 ?n1 ?n2); (case n0 => assumption); (case n1 => k_mem); (case n2 => k_mem)))
    (case K => assumption)
end
/- part D1 -/
section
open PySem PySem.W PyProof.Rows PySem.Calls PySem.Spec
set_option maxRecDepth 100000
set_option maxHeartbeats 8000000
theorem quiet_D1 {M : Model} {A : Around} {E : Value → Shared → Prop} {Q : Flow → Shared → Prop} {env : Env} {s : Shared} (h : wpAny M A (execs [] env) Q E s) : wpAny M A (execs [] env) Q E s := by
  w_top off
  k_with_none
  first | (walk1; fail) | exact h
local macro_rules | `(tactic| omega) => `(tactic| walk_at "OM!")
local macro_rules | `(tactic| k_ne) => `(tactic| (refine neN ?_; (try dsimp only); first | (walk_at "CJ!") | exact Nat.ne_of_gt (by walk_at "CJ!") | exact Nat.ne_of_lt (by walk_at "CJ!") | exact Ne.symm (by walk_at "CJ!")))

abbrev pairObj (v1 v2 : Value) (n : Nat) : Obj := { cls := .type "tuple", data := .seq #[v1, v2] n }
theorem bits_small {a : Int} (h0 : 0 ≤ a) (h : a < 16384) : Builtin.Int.intBits a ≤ 14 := intBits_le_iff.mpr (by omega)
theorem ctr_d2n (w : World) (a b n : Int) (ta tb tn : Tok) (ha : 0 ≤ a ∧ a < 16384) (hb : 1 ≤ b ∧ b ≤ 81) (hn : 1 ≤ n ∧ n ≤ 7) : CtrF w 53 1 8 [.int a ta, .int b tb, .int n tn] [] (fun _ => True)
    (fun led' r => ∃ D t1 t2 k, r = .ref D ∧ led' = [(D, pairObj (.int (a.fdiv b) t1) (.int (a.fmod b) t2) k)]) := by
  unfold CtrF
  k_fill
  intro p loose mean mg mb dp un gd cn cs a ccd cl outer A₀ base h₀ L m s Q E B F X N T hk hpre hd' hu hret
  have hbits := bits_small ha.1 ha.2
  refine wpAny_call ?_
  walk_at "F!enter"
  rename Keep _ _ _ => KG0
  k_steps
  all_goals (refine' hret _ _ _ _ ?F ?N ?W ?K ?P; (case F => assumption); (case N => assumption); (case W => exact new_of KG0 (by assumption)); (case K => assumption); (case P => exact ⟨_, _, _, _, rfl, rfl⟩))
end
/- part V0 -/
section
open PySem PySem.W PyProof.Rows PySem.Calls PySem.Spec
set_option maxRecDepth 100000
set_option maxHeartbeats 8000000

theorem quiet_V0 {M : Model} {A : Around} {E : Value → Shared → Prop} {Q : Flow → Shared → Prop} {env : Env} {s : Shared} (h : wpAny M A (execs [] env) Q E s) : wpAny M A (execs [] env) Q E s := by
  w_top off
  k_with_none
  first | (walk1; fail) | exact h
local macro_rules | `(tactic| walk_at "call ref") => `(tactic| k_extra "IN!")
local macro_rules | `(tactic| walk_at "pyIter ref") => `(tactic| k_extra "R!")
local macro_rules | `(tactic| walk_at "InvEndN") => `(tactic| k_extra "RE!")
local macro_rules | `(tactic| walk_at "binaryOp LShift int int") => `(tactic| k_extra "SL!")
theorem bits_b {b : Int} (hb : 1 ≤ b ∧ b ≤ 81) : 1 ≤ (Builtin.Int.intBits b : Int) ∧ (Builtin.Int.intBits b : Int) ≤ 7 := by
  have h1 : Builtin.Int.intBits b ≤ 7 := intBits_le_iff.mpr (by omega)
  have h2 : ¬ Builtin.Int.intBits b ≤ 0 := fun h => by have := intBits_le_iff.mp h; omega
  omega
theorem ints_snoc : ∀ {vs : List Value} {ns : List Int}, IntsAre vs ns → ∀ (q : Int) (t : Tok), IntsAre (vs ++ [.int q t]) (ns ++ [q])
  | _, _, .nil, q, t => .cons q t .nil
  | _, _, .cons i t' h, q, t => .cons i t' (ints_snoc h q t)
theorem ints_rev : ∀ {vs : List Value} {ns : List Int}, IntsAre vs ns → IntsAre vs.reverse ns.reverse
  | _, _, .nil => .nil
  | _, _, .cons i t' h => by rw [List.reverse_cons, List.reverse_cons]; exact ints_snoc (ints_rev h) i t'
theorem news_ne {h₀ h : Heap} {L a b : Addr} {news : List (Addr × Obj)} {o1 o2 : Obj} (N : News h₀ L h news) (m1 : (a, o1) ∈ news) (m2 : (b, o2) ∈ news) (h' : o1.data ≠ o2.data) : a ≠ b := by
  rintro rfl
  exact h' (congrArg Obj.data (Option.some.inj ((N _ m1).1.symm.trans (N _ m2).1)))
theorem news5 {h₀ h : Heap} {L : Addr} {news : List (Addr × Obj)} {p1 p2 p3 p4 p5 : Addr × Obj} (N : News h₀ L h news) (m1 : p1 ∈ news) (m2 : p2 ∈ news) (m3 : p3 ∈ news) (m4 : p4 ∈ news) (m5 : p5 ∈ news) : News h₀ L h [p1, p2, p3, p4, p5] :=
  kst_newsOf N (by intro p hp; simp only [List.mem_cons, List.not_mem_nil, or_false] at hp; rcases hp with rfl | rfl | rfl | rfl | rfl <;> assumption)
structure DS where
  r : Int
  t : Tok
  vs : List Value
  ns : List Int
  k : Nat
/-- what the long division knows behind i figures -/
structure DInv (a b : Int) (n K i : Nat) (c : DS) : Prop where
  rem : c.r = a / 2 ^ (n * (K - i)) % b
  its : IntsAre c.vs c.ns
  len : c.ns.length = i
  dig : ∀ d ∈ c.ns, 0 ≤ d ∧ d < 2 ^ n
  quo : undigs n c.ns.reverse = a / 2 ^ (n * (K - i)) / b
theorem digs_get (n : Nat) : ∀ (K : Nat) (a : Int) (j : Nat), j < K → (digs n K a).getD j 0 = a / 2 ^ (n * j) % 2 ^ n
  | 0, _, _, h => absurd h (Nat.not_lt_zero _)
  | K + 1, a, 0, _ => by simp [digs]
  | K + 1, a, j + 1, h => by
    rw [digs, List.getD_cons_succ, digs_get n K _ j (by omega), Int.ediv_ediv_of_nonneg (by have := pow_pos2 n; omega), ← Int.pow_add, Nat.mul_succ, Nat.add_comm]
theorem dinv_start {a b : Int} {n K : Nat} (h0 : 0 ≤ a) (h : a < 2 ^ (n * K)) (t : Tok) : DInv a b n K 0 ⟨0, t, [], [], 0⟩ where
  rem := by show 0 = _; rw [Nat.sub_zero, Int.ediv_eq_zero_of_lt h0 h]; simp
  its := .nil
  len := rfl
  dig := fun _ h => nomatch h
  quo := by show undigs n [] = _; rw [Nat.sub_zero, Int.ediv_eq_zero_of_lt h0 h]; simp [undigs]
theorem dinv_bounds {a b : Int} {n K i : Nat} {c : DS} (hb : 1 ≤ b ∧ b ≤ 81) (I : DInv a b n K i c) : 0 ≤ c.r ∧ c.r < b := by
  rw [I.rem]
  exact ⟨Int.emod_nonneg _ (by omega), Int.emod_lt_of_pos _ (by omega)⟩
theorem dinv_step {a b : Int} {n K i : Nat} {c : DS} (hb : 1 ≤ b ∧ b ≤ 81) (hi : i < K) (I : DInv a b n K i c) (q r : Int) (v : Value) (t : Tok) (k' : Nat) (hv : ∃ t, v = .int q t)
    (hq : q = (c.r * 2 ^ n + (digs n K a).getD (K - 1 - i) 0).fdiv b) (hr : r = (c.r * 2 ^ n + (digs n K a).getD (K - 1 - i) 0).fmod b) : DInv a b n K (i + 1) ⟨r, t, c.vs ++ [v], c.ns ++ [q], k'⟩ := by
  obtain ⟨tv, rfl⟩ := hv
  have hp := pow_pos2 n
  have eK : n * (K - i) = n + n * (K - (i + 1)) := by rw [show K - i = (K - (i + 1)) + 1 by omega, Nat.mul_succ, Nat.add_comm]
  have hd : (digs n K a).getD (K - 1 - i) 0 = a / 2 ^ (n * (K - (i + 1))) % 2 ^ n := by rw [digs_get n K a _ (by omega), show K - 1 - i = K - (i + 1) by omega]
  obtain ⟨V, eV⟩ : ∃ V, V = a / 2 ^ (n * (K - (i + 1))) := ⟨_, rfl⟩
  have hV : a / 2 ^ (n * (K - i)) = V / 2 ^ n := by
    rw [eK, Nat.add_comm, Int.pow_add, eV, Int.ediv_ediv_of_nonneg (by have := pow_pos2 (n * (K - (i + 1))); omega)]
  rw [hd, ← eV] at hq hr
  rw [Int.fdiv_eq_ediv_of_nonneg _ (by omega)] at hq
  rw [Int.fmod_eq_emod_of_nonneg _ (by omega)] at hr
  have hrem : c.r = V / 2 ^ n % b := by rw [I.rem, hV]
  have hquo : undigs n c.ns.reverse = V / 2 ^ n / b := by rw [I.quo, hV]
  obtain ⟨U, eU⟩ : ∃ U, U = V / 2 ^ n := ⟨_, rfl⟩
  rw [← eU] at hrem hquo
  have hVU : V = 2 ^ n * U + V % 2 ^ n := by rw [eU]; exact (Int.mul_ediv_add_emod V _).symm
  have hUb : U = b * (U / b) + U % b := (Int.mul_ediv_add_emod U b).symm
  obtain ⟨W, eW⟩ : ∃ W, W = U / b := ⟨_, rfl⟩
  obtain ⟨Z, eZ⟩ : ∃ Z, Z = c.r * 2 ^ n + V % 2 ^ n := ⟨_, rfl⟩
  rw [← eZ] at hq hr
  have hZ : V = b * (2 ^ n * W) + Z := by
    have h1 : 2 ^ n * U = 2 ^ n * (b * W) + 2 ^ n * c.r := by rw [← Int.mul_add, hrem, eW, ← hUb]
    have h2 : 2 ^ n * (b * W) = b * (2 ^ n * W) := by rw [Int.mul_left_comm]
    have h3 : c.r * 2 ^ n = 2 ^ n * c.r := Int.mul_comm _ _
    omega
  have hb0 : b ≠ 0 := by omega
  have hr0 : 0 ≤ c.r ∧ c.r < b := by rw [hrem]; exact ⟨Int.emod_nonneg _ hb0, Int.emod_lt_of_pos _ (by omega)⟩
  have hm0 : 0 ≤ V % 2 ^ n ∧ V % 2 ^ n < 2 ^ n := ⟨Int.emod_nonneg _ (by omega), Int.emod_lt_of_pos _ hp⟩
  have hZ0 : 0 ≤ Z := by
    have : 0 ≤ c.r * 2 ^ n := Int.mul_nonneg hr0.1 (by omega)
    omega
  have hZb : Z < 2 ^ n * b := by
    have h1 : (c.r + 1) * 2 ^ n ≤ b * 2 ^ n := Int.mul_le_mul_of_nonneg_right (by omega) (by omega)
    rw [Int.add_mul] at h1
    have h2 : b * 2 ^ n = 2 ^ n * b := Int.mul_comm _ _
    omega
  refine ⟨?_, ?_, ?_, ?_, ?_⟩
  · show r = _
    rw [← eV, hr, hZ, Int.mul_add_emod_self_left]
  · exact ints_snoc I.its q tv
  · show (c.ns ++ [q]).length = i + 1
    rw [List.length_append, I.len]; rfl
  · intro d hd
    rcases List.mem_append.mp hd with h | h
    · exact I.dig d h
    · rw [List.mem_singleton.mp h, hq]
      exact ⟨Int.ediv_nonneg hZ0 (by omega), Int.ediv_lt_of_lt_mul (by omega) hZb⟩
  · show undigs n (c.ns ++ [q]).reverse = _
    rw [List.reverse_append, List.reverse_singleton, List.singleton_append, undigs, hquo, ← eV, hq, ← eW]
    rw [show V / b = Z / b + 2 ^ n * W by rw [hZ, Int.add_comm, Int.add_mul_ediv_left _ _ hb0]]
end
/- part L0b -/
section
open PySem PySem.W PyProof.Rows PySem.Calls PySem.Spec
set_option maxRecDepth 100000
set_option maxHeartbeats 8000000

section
variable {prog : Program} {w : World} {A : Around} {E : Value → Shared → Prop} {s : Shared}
theorem str_eq_is {Q : Value → Shared → Prop} {x y : Str} {t u : Tok} (e : x = y) (h : Q (.bool true) s) : wpAny (model prog w) A (compareOp .Eq (.str x t) (.str y u)) Q E s :=
  P.eq_str (by rw [e]; simpa using h)
theorem str_eq_not {Q : Value → Shared → Prop} {x y : Str} {t u : Tok} (e : x ≠ y) (h : Q (.bool false) s) : wpAny (model prog w) A (compareOp .Eq (.str x t) (.str y u)) Q E s :=
  P.eq_str (by
    have : (x.cps.toList == y.cps.toList) = false := by
      cases c : (x.cps.toList == y.cps.toList) with
      | false => rfl
      | true => exact absurd (Str.ext' (Array.toList_inj.mp (beq_iff_eq.mp c))) e
    rw [this]; exact h)
theorem str_ne_not {Q : Value → Shared → Prop} {x y : Str} {t u : Tok} (e : x = y) (h : Q (.bool false) s) : wpAny (model prog w) A (compareOp .NotEq (.str x t) (.str y u)) Q E s :=
  P.ne_str (by rw [e]; simpa using h)
theorem tail_get (i : Nat) : [Str.ofString "", Str.ofString "\"", Str.ofString "\" is \"it\""].getD ((0 + (i : Int)).fmod 3).toNat Str.empty = tx (tail3 i) := by
  rw [show ((0 + (i : Int)).fmod 3).toNat = i % 3 by rw [Int.fmod_eq_emod_of_nonneg _ (by decide)]; omega]
  unfold tail3
  have h3 : i % 3 = 0 ∨ i % 3 = 1 ∨ i % 3 = 2 := by omega
  rcases h3 with e | e | e <;> rw [e] <;> decide +kernel
theorem tail_item {value slice : Expr} {Q : Value → Shared → Prop} {l : Addr} {a b c u : Tok} {i : Nat} (hl : s.heap.IsList l #[.str (Str.ofString "") a, .str (Str.ofString "\"") b, .str (Str.ofString "\" is \"it\"") c]) (h : ∀ t', Q (.str (tx (tail3 i)) t') s)
    (hs : subscripted slice false (.ref l) (.int ((0 + (i : Int)).fmod 3) u) = operate [.ref l, .int ((0 + (i : Int)).fmod 3) u] (getItem (.ref l) (.int ((0 + (i : Int)).fmod 3) u)) := by with_unfolding_all rfl) :
    wpAny (model prog w) A (subscriptTail value slice (.ref l) (.int ((0 + (i : Int)).fmod 3) u)) Q E s :=
  PySem.W.KTb.item_list (vs := [.str (Str.ofString "") a, .str (Str.ofString "\"") b, .str (Str.ofString "\" is \"it\"") c]) (ws := [Str.ofString "", Str.ofString "\"", Str.ofString "\" is \"it\""]) hl (.cons _ _ (.cons _ _ (.cons _ _ .nil)))
    (by rw [Int.fmod_eq_emod_of_nonneg _ (by decide)]; omega) (by rw [Int.fmod_eq_emod_of_nonneg _ (by decide)]; simp only [List.length_cons, List.length_nil]; omega) (by rw [Int.fmod_eq_emod_of_nonneg _ (by decide)]; omega) (fun t' _ => by rw [tail_get]; exact h t') hs
end
structure LS where
  run : Str
  page : Str
  t1 : Tok
  t2 : Tok
  vr : List Value
  kr : Nat
  vz : List Value
  kz : Nat
structure LInv (h : Int) (sg n i : Nat) (c : LS) : Prop where
  run : c.run = tx (qs (orbit i n))
  page : c.page = tx (pageN h sg (odds i n))
  row : IntsAre c.vr (rowL i n)
  siz : IntsAre c.vz (sizL i n)
theorem linv_start {h : Int} {sg n : Nat} {x y : Str} (hx : x = tx (qs n)) (hy : y = tx (pageN h sg 0)) (t1 t2 : Tok) : LInv h sg n 0 ⟨x, y, t1, t2, [], 0, [], 0⟩ := ⟨hx, hy, .nil, .nil⟩
theorem mul3_qs (m : Nat) : Txt.mul (tx (qs m)) 3 ++ Str.ofString "\"\"" = tx (qs (3 * m + 2)) := by
  rw [mul_qs, two_marks, tx_app, ← qs_add, show m * (3 : Int).toNat + 2 = 3 * m + 2 by rw [show (3 : Int).toNat = 3 from rfl]; omega]
theorem ints_push {vs : List Value} {ns : List Int} {v : Int} {t : Tok} (h : IntsAre vs ns) : IntsAre (vs ++ [.int v t]) (ns ++ [v]) := IntsAre.append h (.cons v t .nil)
theorem linv_odd {h : Int} {sg n i m : Nat} {vr vz : List Value} (hN : orbit i n = 2 * m + 1) (i3 : IntsAre vr (rowL i n)) (i4 : IntsAre vz (sizL i n)) (t1 t2 t3 t4 : Tok) (k1 k2 : Nat) :
    LInv h sg n (i + 1) ⟨Txt.mul (tx (qs m)) 3 ++ Str.ofString "\"\"", tx (escL (tabs h) (pageN h sg (odds i n))), t1, t2, vr ++ [.int 1 t3], k1, vz ++ [.int (((Txt.mul (tx (qs m)) 3).length + (Str.ofString "\"\"").length : Nat) : Int) t4], k2⟩ := by
  have hs : orbit (i + 1) n = 3 * m + 2 := by
    show stepT (orbit i n) = _
    unfold stepT
    rw [hN, if_pos (by omega)]; omega
  have ho : odds (i + 1) n = odds i n + 1 := by
    show odds i n + orbit i n % 2 = _
    rw [hN]; omega
  refine ⟨?_, ?_, ?_, ?_⟩
  · show Txt.mul (tx (qs m)) 3 ++ Str.ofString "\"\"" = _
    rw [mul3_qs, hs]
  · rw [ho]; rfl
  · rw [rowL_succ, show ((orbit i n % 2 : Nat) : Int) = 1 by omega]; exact ints_push i3
  · rw [sizL_succ, hs, mul_qs, two_marks, tx_len, qs_len, tx_len, qs_len, show m * (3 : Int).toNat + 2 = 3 * m + 2 by rw [show (3 : Int).toNat = 3 from rfl]; omega]; exact ints_push i4
theorem mul_sub (m : Nat) (P : List Nat) : Txt.mul (Str.ofString "\"") (((tx (qs m ++ P)).length : Int) - ((tx P).length : Int)) = tx (qs m) := by
  rw [mul_mark, tx_len, tx_len, List.length_append, qs_len]
  congr 2; omega
theorem linv_even {h : Int} {sg n i m : Nat} {vr vz : List Value} {P : List Nat} (hP : P = pageN h sg (odds i n)) (hN : orbit i n = 2 * m) (i3 : IntsAre vr (rowL i n)) (i4 : IntsAre vz (sizL i n)) (t1 t2 t3 t4 : Tok) (k1 k2 : Nat) :
    LInv h sg n (i + 1) ⟨Txt.mul (Str.ofString "\"") (((tx (qs m ++ P)).length : Int) - ((tx P).length : Int)), tx P, t1, t2, vr ++ [.int 0 t3], k1, vz ++ [.int ((Txt.mul (Str.ofString "\"") (((tx (qs m ++ P)).length : Int) - ((tx P).length : Int))).length : Int) t4], k2⟩ := by
  have hs : orbit (i + 1) n = m := by
    show stepT (orbit i n) = _
    unfold stepT
    rw [hN, if_neg (by omega)]; omega
  have ho : odds (i + 1) n = odds i n := by
    show odds i n + orbit i n % 2 = _
    rw [hN]; omega
  refine ⟨?_, ?_, ?_, ?_⟩
  · show Txt.mul (Str.ofString "\"") _ = _
    rw [mul_sub, hs]
  · rw [ho, hP]
  · rw [rowL_succ, show ((orbit i n % 2 : Nat) : Int) = 0 by omega]; exact ints_push i3
  · rw [sizL_succ, hs, mul_sub, tx_len, qs_len]; exact ints_push i4
theorem arg257 (a b c : List Nat) : Str.ofString "257 \"" ++ tx a ++ tx b ++ tx c = tx (head257 ++ (a ++ (b ++ c))) := by
  rw [show Str.ofString "257 \"" = tx head257 by decide +kernel, tx_app, tx_app, tx_app, List.append_assoc, List.append_assoc]
theorem ctr_p_odd (w : World) {h : Int} {sg n i m : Nat} (hN : orbit i n = 2 * m + 1) (ho : orbit i n ≤ 80) (hp : (tx (pageN h sg (odds i n))).length ≤ 7776) (tk : Tok) :
    CtrF w 46 1 8 [.str (Str.ofString "257 \"" ++ tx (qs (orbit i n)) ++ tx (pageN h sg (odds i n)) ++ tx (tail3 i)) tk] [] (fun _ => True) (fun _ r => ∃ t, r = .str (tx (qs m)) t) := by
  have hl := tail3_len i
  rw [tx_len] at hp
  rw [arg257, ← told_run_odd h sg (odds i n) i m, ← hN]
  exact ctr_parse257 w _ _ tk rfl (by simp only [List.length_append, List.length_cons, List.length_nil, qs_len]; omega)
theorem ctr_p_even (w : World) {h : Int} {sg n i m : Nat} (hN : orbit i n = 2 * m) (ho : orbit i n ≤ 80) (hp : (tx (pageN h sg (odds i n))).length ≤ 7776) (tk : Tok) :
    CtrF w 46 1 8 [.str (Str.ofString "257 \"" ++ tx (qs (orbit i n)) ++ tx (pageN h sg (odds i n)) ++ tx (tail3 i)) tk] [] (fun _ => True) (fun _ r => ∃ t, r = .str (tx (qs m ++ pageN h sg (odds i n))) t) := by
  have hl := tail3_len i
  rw [tx_len] at hp
  rw [arg257, ← told_run_even h sg (odds i n) i m, ← hN]
  exact ctr_parse257 w _ _ tk rfl (by simp only [List.length_append, List.length_cons, List.length_nil, qs_len]; omega)
theorem row_len {i n : Nat} {vs : List Value} (h : IntsAre vs (rowL i n)) : vs.length = i := by rw [h.length]; simp [rowL]
theorem siz_len {i n : Nat} {vs : List Value} (h : IntsAre vs (sizL i n)) : vs.length = i := by rw [h.length]; simp [sizL]
end
/- part W1 -/
section
open PySem PySem.W PyProof.Rows PySem.Calls PySem.Spec
set_option maxRecDepth 100000
set_option maxHeartbeats 8000000
theorem quiet_W1 {M : Model} {A : Around} {E : Value → Shared → Prop} {Q : Flow → Shared → Prop} {env : Env} {s : Shared} (h : wpAny M A (execs [] env) Q E s) : wpAny M A (execs [] env) Q E s := by
  w_top off
  k_with_none
  first | (walk1; fail) | exact h
local macro_rules | `(tactic| omega) => `(tactic| walk_at "OM!")
local macro_rules | `(tactic| k_ne) => `(tactic| (refine neN ?_; (try dsimp only); first | (walk_at "CJ!") | exact Nat.ne_of_gt (by walk_at "CJ!") | exact Nat.ne_of_lt (by walk_at "CJ!") | exact Ne.symm (by walk_at "CJ!")))

local macro_rules | `(tactic| walk_at "call ref") => `(tactic| k_extra "IN!")
theorem tabs_one {h : Int} (_ : h ≠ 0) (b : h = 1) : tabs h = tab1 := by subst b; rfl
theorem tabs_two {h : Int} (a : h ≠ 0) (b : h ≠ 1) : tabs h = tab2 := by simp [tabs, a, b]
theorem ctr_written (w : World) (h : Int) (th : Tok) (hh : 0 ≤ h ∧ h < 3) (l : List Nat) (tk0 : Tok) (hl : l.length ≤ 10000) : CtrF w 116 2 20 [.int h th, .str (tx l) tk0] [] (fun _ => True) (fun _ r => ∃ t, r = .str (tx (escL (tabs h) l)) t) := by
  rw [show tx l = tx (escL [] l) by rw [escL_nil]]
  unfold CtrF
  k_fill
  intro p loose mean mg mb dp un gd cn cs a ccd cl outer A₀ base h₀ L m s Q E B F X N T hk hpre hd' hu hret
  refine wpAny_call ?_
  walk_at "F!enter"
  rename Keep _ _ _ => KG0
  k_with "IN!" => (
    first
    | (refine' ctr_use (ctr_esc0 w l _ hl) ?B ?F ?X ?N ?T ?hk trivial ?hd ?hu ?_)
    | (refine' ctr_use (ctr_esc1 w l _ hl) ?B ?F ?X ?N ?T ?hk trivial ?hd ?hu ?_)
    | (refine' ctr_use (ctr_esc2 w l _ hl) ?B ?F ?X ?N ?T ?hk trivial ?hd ?hu ?_)
    (case B => k_asm); (case F => k_asm); (case X => k_asm); (case N => k_asm); (case T => k_asm); (case hk => rfl)
    (case hd => first | ktr_room | omega)
    (case hu => first | ktr_units | omega)
    (rintro r led h9 tk F9 N9 hne ⟨t9, rfl⟩)
    (simp only [List.append_nil] at N9))
  k_steps
  all_goals first
    | exact hret _ [] _ _ (by assumption) News.nil (fun _ h => nomatch h) (by assumption) ⟨_, by (first | (subst_vars; rfl) | (rw [tabs_one (by assumption) (by assumption)]) | (rw [tabs_two (by assumption) (by assumption)]))⟩
    | trace_state
end
/- part L1 -/
section
open PySem PySem.W PyProof.Rows PySem.Calls PySem.Spec
set_option maxRecDepth 100000
set_option maxHeartbeats 8000000
theorem quiet_L1 {M : Model} {A : Around} {E : Value → Shared → Prop} {Q : Flow → Shared → Prop} {env : Env} {s : Shared} (h : wpAny M A (execs [] env) Q E s) : wpAny M A (execs [] env) Q E s := by
  w_top off
  k_with_none
  first | (walk1; fail) | exact h
local macro_rules | `(tactic| omega) => `(tactic| walk_at "OM!")
local macro_rules | `(tactic| k_ne) => `(tactic| (refine neN ?_; (try dsimp only); first | (walk_at "CJ!") | exact Nat.ne_of_gt (by walk_at "CJ!") | exact Nat.ne_of_lt (by walk_at "CJ!") | exact Ne.symm (by walk_at "CJ!")))

local macro_rules | `(tactic| walk_at "call ref") => `(tactic| k_extra "IN!")
local macro_rules | `(tactic| walk_at "pyIter ref") => `(tactic| k_extra "R!")
local macro_rules | `(tactic| walk_at "InvEndN") => `(tactic| k_extra "RE!")
local macro_rules | `(tactic| walk_at "last subscriptTail") => `(tactic| k_extra "ST!")
local macro_rules | `(tactic| walk_at "compareOp Eq str str") => `(tactic| k_extra "EQ!")
local macro_rules | `(tactic| walk_at "compareOp NotEq str str") => `(tactic| k_extra "NE!")
def Hid (p : Prop) : Prop := p
theorem two_ways {N : Nat} (h : N ≤ 80) : ∃ m, m ≤ 40 ∧ (N = 2 * m ∨ N = 2 * m + 1) := ⟨N / 2, by omega, by omega⟩
theorem two_names {g h : Heap} {L z r : Addr} {o1 o2 : Obj} {l : List (Addr × Obj)} (_ : News g L h ((z, o1) :: (r, o2) :: l)) : ∃ a b : Addr, a = z ∧ b = r := ⟨z, r, rfl, rfl⟩
def tup3 (a b c : Value) (k : Nat) : Obj := { cls := .type "tuple", dict := none, data := .seq #[a, b, c] k }
theorem ctr_led (w : World) (h : Int) (sg n k : Nat) (th ts tn tk0 : Tok) (hh : 0 ≤ h ∧ h < 3) (hn : n < 16) (hk4 : Hid (2 ≤ k ∧ k ≤ 4)) : CtrF w 135 4 60 [.int h th, .str (tx [sg]) ts, .int (n : Int) tn, .int (k : Int) tk0] [] (fun _ => True)
    (fun led r => ∃ D R Z vr kr vz kz kt t, r = .ref D ∧ led = [(D, tup3 (.ref R) (.ref Z) (.str (tx (pageN h sg (odds k n))) t) kt), (R, listOf vr.toArray kr), (Z, listOf vz.toArray kz)] ∧ IntsAre vr (rowL k n) ∧ IntsAre vz (sizL k n)) := by
  unfold CtrF
  k_fill
  intro p loose mean mg mb dp un gd cn cs a ccd cl outer A₀ base h₀ L m s Q E B F X N T hk hpre hd' hu hret
  refine wpAny_call ?_
  have fin : ∀ (D R Z : Addr) vr kr vz kz kt t h' tk' g L', IntsAre vr (rowL k n) → IntsAre vz (sizL k n) → Fr h₀ L h' m → News h₀ L h' [(D, tup3 (.ref R) (.ref Z) (.str (tx (pageN h sg (odds k n))) t) kt), (R, listOf vr.toArray kr), (Z, listOf vz.toArray kz)] → Keep [] s.heap h' → Keep [] s.heap g → News g L' h' [(D, tup3 (.ref R) (.ref Z) (.str (tx (pageN h sg (odds k n))) t) kt), (R, listOf vr.toArray kr), (Z, listOf vz.toArray kz)] → Q (.ref D) { s with heap := h', toks := tk' } :=
    fun D R Z vr kr vz kz kt t h' tk' g L' h1 h2 h3 h4 h5 h6 h7 => hret _ _ _ _ h3 h4 (new_of h6 h7) h5 ⟨D, R, Z, vr, kr, vz, kz, kt, t, rfl, rfl, h1, h2⟩
  walk_at "F!enter"
  rename Keep _ _ _ => KG0
  k_with "IN!" => (first
    | ((refine' ctr_use (ctr_written w h _ hh [sg] _ (by simp)) ?B ?F ?X ?N ?T ?hk trivial ?hd ?hu ?_)
       (case B => k_asm); (case F => k_asm); (case X => k_asm); (case N => k_asm); (case T => k_asm); (case hk => rfl)
       (case hd => first | ktr_room | omega)
       (case hu => first | ktr_units | omega)
       (rintro r1 led1 h1 tk1 F1 N1 hne1 ⟨t9, rfl⟩)
       (have N2 := kst_newsOf N1 (fun p hp => List.mem_append_right _ hp); clear N1))
    | ((refine' ctr_use (ctr_written w h _ hh (pageN h sg (odds i n)) _ (by rw [tx_len] at hq2; omega)) ?B ?F ?X ?N ?T ?hk trivial ?hd ?hu ?_)
       (case B => k_asm); (case F => k_asm); (case X => k_asm); (case N => k_asm); (case T => k_asm); (case hk => rfl)
       (case hd => first | ktr_room | omega)
       (case hu => first | ktr_units | omega)
       (rintro r1 led1 h1 tk1 F1 N1 hne1 ⟨t9, rfl⟩)
       (have N2 := kst_newsOf N1 (fun p hp => List.mem_append_right _ hp); clear N1))
    | ((refine' ctr_use (ctr_p_odd w hN ho hq2 _) ?B ?F ?X ?N ?T ?hk trivial ?hd ?hu ?_)
       (case B => k_asm); (case F => k_asm); (case X => k_asm); (case N => k_asm); (case T => k_asm); (case hk => rfl)
       (case hd => first | ktr_room | omega)
       (case hu => first | ktr_units | omega)
       (rintro r1 led1 h1 tk1 F1 N1 hne1 ⟨t9, rfl⟩)
       (have N2 := kst_newsOf N1 (fun p hp => List.mem_append_right _ hp); clear N1))
    | ((refine' ctr_use (ctr_p_even w hN ho hq2 _) ?B ?F ?X ?N ?T ?hk trivial ?hd ?hu ?_)
       (case B => k_asm); (case F => k_asm); (case X => k_asm); (case N => k_asm); (case T => k_asm); (case hk => rfl)
       (case hd => first | ktr_room | omega)
       (case hu => first | ktr_units | omega)
       (rintro r1 led1 h1 tk1 F1 N1 hne1 ⟨t9, rfl⟩)
       (have N2 := kst_newsOf N1 (fun p hp => List.mem_append_right _ hp); clear N1)))
  k_with "R!" => (
    have hk5 : 2 ≤ k ∧ k ≤ 4 := hk4
    rename Fr _ _ _ _ => lF'
    rename News _ _ _ _ => lN'
    obtain ⟨aZ, aR, e1, e2⟩ := two_names lN'
    subst e1
    subst e2

    with_unfolding_all refine' iter_rangeN (n := k) (σ := LS) (fun c => [(aR, listOf c.vr.toArray c.kr), (aZ, listOf c.vz.toArray c.kz)]) (fun c => [(Str.ofString "run", .str c.run c.t1), (Str.ofString "page", .str c.page c.t2)]) [Str.ofString "told"] (fun i c => LInv h sg n i c) ⟨Txt.mul (Str.ofString "\"") n, tx (escL (tabs h) [sg]), ?t0, ?t8, [], 0, [], 0⟩ rfl (by assumption) ?hs ?hn lF' ?kn ?kk ?hp ?turn ?done
    (case hs => exact small_one (by omega) (by omega) (by omega) (by omega))
    (case hn => (rw [show (k : Int) = ((k : Int) - 0).toNat by omega]; exact rangeSize_nat _ _))
    (case kn => exact kst_newsOf lN' (by kst_inAny))
    (case kk => kst_all)
    (case hp => exact linv_start (by rw [mul_mark]; rfl) rfl _ _)
    (case' turn => (intro c i t' u hp9 tk own hi hoff hP F' N'; 
                    obtain ⟨cr, cp, ct1, ct2, vr, kr, vz, kz⟩ := c
                    obtain ⟨i1, i2, i3, i4⟩ := hP
                    dsimp only at i1 i2 i3 i4
                    subst i1 i2
                    have ho : orbit i n ≤ 80 := orbit_small i (by omega) n hn
                    have hq1 : (tx (qs (orbit i n))).length ≤ 80 := by rw [tx_len, qs_len]; exact ho
                    have hq2 : (tx (pageN h sg (odds i n))).length ≤ 7776 := by rw [tx_len]; exact page_len4 _ _ _ (Nat.le_trans (odds_le i n) (by omega))
                    have hv1 : vr.length ≤ 4 := by rw [row_len i3]; omega
                    have hv2 : vz.length ≤ 4 := by rw [siz_len i4]; omega
                    dsimp only [kstB] at F'
                    simp only [List.nil_append, List.cons_append] at N'
                    obtain ⟨m, hm, hN9⟩ := two_ways ho
                    have hm1 : (tx (qs m ++ pageN h sg (odds i n))).length ≤ 7856 := by rw [tx_len, List.length_append, qs_len]; rw [tx_len] at hq2; omega
                    have hm2 : (Txt.mul (Str.ofString "\"") (((tx (qs m ++ pageN h sg (odds i n))).length : Int) - ((tx (pageN h sg (odds i n))).length : Int))).length ≤ 40 := by rw [mul_sub, tx_len, qs_len]; omega
                    have hm3 : (tx (qs m)).length ≤ 40 := by rw [tx_len, qs_len]; omega
                    have hm4 : (Txt.mul (tx (qs m)) 3).length ≤ 120 := by rw [mul_qs, tx_len, qs_len, show (3 : Int).toNat = 3 from rfl]; omega
                    have hm5 : (tx (tail3 i)).length ≤ 9 := by rw [tx_len]; exact tail3_len i
                    rcases hN9 with hN | hN))
    (case' done => (intro c u hp9 tk hP F' N'
                    obtain ⟨cr, cp, ct1, ct2, vr, kr, vz, kz⟩ := c
                    obtain ⟨i1, i2, i3, i4⟩ := hP
                    dsimp only at i1 i2 i3 i4
                    subst i1 i2
                    dsimp only [kstB] at F'; dsimp only at N')))
  k_with "ST!" => (k_dflt ((refine' tail_item ?l ?_); (case l => exact News.isList (by k_asm) (by k_mem)); intro t3; (try dsimp only)))
  k_with "EQ!" => (k_dflt (first
    | (refine str_eq_is (by rw [mul_mark, tx_len, qs_len, Int.toNat_natCast]) ?_)
    | (refine str_eq_not (by rw [mul_mark, Ne, tx_inj]; exact run_page_ne _ _ _ _ _) ?_)))
  k_with "NE!" => (k_dflt (refine str_ne_not (by rw [mul_sub, tx_app]) ?_))
  k_with "RE!" => (
    rename News _ _ _ _ => nE'
    (simp only [List.push_toArray] at nE')
    first
    | (refine loopN_end ⟨_, _, _, _, _, _, _, _⟩ (by assumption) nE' (by kst_in) (by intro p hp; k_ownIn) rfl (by kst_all) (by kst_same) (linv_even rfl hN i3 i4 _ _ _ _ _ _))
    | (refine loopN_end ⟨_, _, _, _, _, _, _, _⟩ (by assumption) nE' (by kst_in) (by intro p hp; k_ownIn) rfl (by kst_all) (by kst_same) (linv_odd hN i3 i4 _ _ _ _ _ _)))
  k_steps
  exact fin _ aR aZ vr kr vz kz _ _ _ _ _ _ i3 i4 (by assumption) (by assumption) (by assumption) KG0 (by assumption)
end
/- part V1 -/
section
open PySem PySem.W PyProof.Rows PySem.Calls PySem.Spec
set_option maxRecDepth 100000
set_option maxHeartbeats 8000000
theorem quiet_V1 {M : Model} {A : Around} {E : Value → Shared → Prop} {Q : Flow → Shared → Prop} {env : Env} {s : Shared} (h : wpAny M A (execs [] env) Q E s) : wpAny M A (execs [] env) Q E s := by
  w_top off
  k_with_none
  first | (walk1; fail) | exact h
local macro_rules | `(tactic| omega) => `(tactic| walk_at "OM!")
local macro_rules | `(tactic| k_ne) => `(tactic| (refine neN ?_; (try dsimp only); first | (walk_at "CJ!") | exact Nat.ne_of_gt (by walk_at "CJ!") | exact Nat.ne_of_lt (by walk_at "CJ!") | exact Ne.symm (by walk_at "CJ!")))

local macro_rules | `(tactic| walk_at "call builtin:list.reverse") => `(tactic| k_extra "RV!")
local macro_rules | `(tactic| walk_at "call ref") => `(tactic| k_extra "IN!")
local macro_rules | `(tactic| walk_at "pyIter ref") => `(tactic| k_extra "R!")
local macro_rules | `(tactic| walk_at "InvEndN") => `(tactic| k_extra "RE!")
local macro_rules | `(tactic| walk_at "binaryOp LShift int int") => `(tactic| k_extra "SL!")
theorem ctr_conv {w : World} {f : Addr} {d u : Nat} {vs : List Value} {led led2 : List (Addr × Obj)} {Pre : Heap → Prop} {Post Post2 : List (Addr × Obj) → Value → Prop} (C : CtrF w f d u vs led Pre Post) (hl : ∀ p ∈ led, p ∈ led2)
    (hp : ∀ (h₀ : Heap) (L : Addr) (h' : Heap) led' r, News h₀ L h' led' → Post led' r → ∃ led'', (∀ p ∈ led'', p ∈ led') ∧ Post2 led'' r) : CtrF w f d u vs led2 Pre Post2 := by
  intro p loose mean mg mb dp un gd cn cs A ccd cl outer A₀ base h₀ L m s Q E B F X N T hk hpre hd' hu hret
  have hm : ∀ {x}, x ∈ led.map (·.1) → x ∈ led2.map (·.1) := fun h => by
    obtain ⟨q, hq, e⟩ := List.mem_map.mp h
    exact e ▸ List.mem_map_of_mem (hl q hq)
  refine C _ _ _ _ _ _ _ _ _ _ _ _ _ _ _ _ _ _ _ _ _ _ B F X (kst_newsOf N hl) T hk hpre hd' hu fun r led' h' tk' F' N' hn hk' hP => ?_
  obtain ⟨led'', hs, hP'⟩ := hp _ _ _ _ _ N' hP
  exact hret r led'' h' tk' F' (kst_newsOf N' hs) (fun p hp => (hn p (hs p hp)).imp_right hm) (fun b o e hb => hk' b o e fun hc => hb (hm hc)) hP'
theorem ctr_dm (w : World) (TI TD : Obj → Nat → Obj → Prop) (oa o1 ob o2 : Obj) (c1 c2 : Nat) (hc69 : c1 ≠ 69) (hd3 : c2 ≠ 62) (hd5 : c2 ≠ c1) (a b : Int) (ta tb : Tok) (ha : 0 ≤ a ∧ a < 8589934592) (hb : 1 ≤ b ∧ b ≤ 81)
    (CI : ∀ (n : Int) tn, 1 ≤ n ∧ n ≤ 7 → CtrF w 67 40 400 [.int a ta, .int n tn] [(62, oa), (c1, o1)] (fun _ => True) (fun led' r => ∃ l vs oa' c' o', r = .ref l ∧ IntsAre vs (digs n.toNat (figs a n) a) ∧ TI oa' c' o' ∧ (62 : Nat) ≠ l ∧ c' ≠ l ∧ led' = [(l, listOf vs.toArray 0), (62, oa'), (c', o')]))
    (CD : ∀ (D : Nat) (vs : List Value) (ns : List Int) (n : Int) (tn : Tok), IntsAre vs ns → ns.length ≤ 40 → (∀ d ∈ ns, 0 ≤ d ∧ d < 2 ^ n.toNat) → 1 ≤ n ∧ n ≤ 7 → n.toNat * ns.length ≤ 64 → D ∉ ([69, c2] : List Nat) → CtrF w 74 50 500 [.ref D, .int n tn] [(69, ob), (c2, o2)] (fun h => h.IsList D vs.toArray) (fun led' r => ∃ t ob' c' o', r = .int (undigs n.toNat ns) t ∧ TD ob' c' o' ∧ led' = [(69, ob'), (c', o')])) :
    CtrF w 81 60 600 [.int a ta, .int b tb] [(62, oa), (c1, o1), (69, ob), (c2, o2)] (fun _ => True)
    (fun led' r => ∃ D t1 t2 k oa' c1' o1' ob' c2' o2', r = .ref D ∧ TI oa' c1' o1' ∧ TD ob' c2' o2' ∧ c1' ≠ 69 ∧ c2' ≠ 62 ∧ c2' ≠ c1' ∧ led' = [(D, pairObj (.int (a / b) t1) (.int (a % b) t2) k), (62, oa'), (c1', o1'), (69, ob'), (c2', o2')]) := by
  unfold CtrF
  k_fill
  intro p loose mean mg mb dp un gd cn cs A ccd cl outer A₀ base h₀ L m s Q E B F X N T hk hpre hd' hu hret
  have hbb := bits_b hb
  obtain ⟨K, hK, hK31, hbK, hnK, hK0⟩ := count_le (bits_31 ha.1 ha.2) hbb
  have hfig : figs a (Builtin.Int.intBits b) = K := by rw [figs, hK, Int.toNat_natCast]
  rw [Int.toNat_natCast] at hbK hnK
  have hlt : a < 2 ^ (Builtin.Int.intBits b * K) := by
    have h1 := intBits_le_iff.mp hbK
    have h2 : ((2 ^ (Builtin.Int.intBits b * K) : Nat) : Int) = 2 ^ (Builtin.Int.intBits b * K) := by norm_cast
    omega
  have hpw : (2 : Int) ^ Builtin.Int.intBits b ≤ 128 := by
    have := pow_mono2 (a := Builtin.Int.intBits b) (b := 7) (by omega)
    omega
  have hpp := pow_pos2 (Builtin.Int.intBits b)
  have hsep : ∀ p ∈ [(69, ob), (c2, o2)], ∀ q ∈ [(62, oa), (c1, o1)], p.1 ≠ q.1 := by
    intro p hp q hq; simp only [List.mem_cons, List.not_mem_nil, or_false] at hp hq
    rcases hp with rfl | rfl <;> rcases hq with rfl | rfl
    · show (69 : Nat) ≠ 62; decide
    · exact hc69.symm
    · exact hd3
    · exact hd5
  refine wpAny_call ?_
  walk_at "F!enter"
  rename Keep _ _ _ => KG0
  k_with "IN!" => (first
    | (refine' ctr_useL (CI (Builtin.Int.intBits b : Int) _ hbb) [(69, ob), (c2, o2)] ?B ?F ?X ?N ?T ?hk ?l1 ?l2 ?l3 trivial ?hd ?hu ?_
       (case B => k_asm)
       (case F => k_asm)
       (case X => k_asm)
       (case N => k_asm)
       (case T => k_asm)
       (case hk => exact rfl)
       (case l1 => kst_inAny)
       (case l2 => kst_inAny)
       (case l3 => exact hsep)
       (case hd => ktr_room)
       (case hu => ktr_units)
       (rintro r1 led1 h1 tk1 F1 N1 hne1 ⟨l1, vs1, oA, cA, oB, rfl, hv1, hTI, h62, hce, rfl⟩
        rw [hfig, Int.toNat_natCast] at hv1
        have h69 : (69 : Nat) ≠ l1 := (hne1 (l1, _) (.head _) _ (.head _)).symm
        have hc2l : c2 ≠ l1 := (hne1 (l1, _) (.head _) (c2, o2) (.tail _ (.head _))).symm
        have hA69 : cA ≠ 69 := hne1 (cA, oB) (.tail _ (.tail _ (.head _))) _ (.head _)
        have hAc2 : cA ≠ c2 := hne1 (cA, oB) (.tail _ (.tail _ (.head _))) (c2, o2) (.tail _ (.head _))
        have hsep2 : ∀ p ∈ [(62, oA), (cA, oB)], ∀ q ∈ [(69, ob), (c2, o2)], p.1 ≠ q.1 := by
          intro p hp q hq; simp only [List.mem_cons, List.not_mem_nil, or_false] at hp hq
          rcases hp with rfl | rfl <;> rcases hq with rfl | rfl
          · show (62 : Nat) ≠ 69; decide
          · exact hd3.symm
          · exact hA69
          · exact hAc2
        simp only [List.cons_append, List.nil_append] at N1))
    | (refine' ctr_use (ctr_d2n w (c.r * 2 ^ Builtin.Int.intBits b + (digs (Builtin.Int.intBits b) K a).getD (K - 1 - i) 0) b (Builtin.Int.intBits b : Int) _ _ _ hX hb hbb) ?B ?F ?X ?N ?T ?hk trivial ?hd ?hu ?_
       (case B => k_asm)
       (case F => k_asm)
       (case X => k_asm)
       (case N => k_asm)
       (case T => k_asm)
       (case hk => exact rfl)
       (case hd => ktr_room)
       (case hu => ktr_units)
       (rintro r2 led2 h2 tk2 F2 N2 hne2 ⟨D2, t21, t22, k2, rfl, rfl⟩
        have hD2 := ne_all hne2 (.head _)
        simp only [AllNe, and_true] at hD2
        simp only [List.cons_append, List.nil_append] at N2))
    | (refine' ctr_useL (CD _ c.vs.reverse c.ns.reverse (Builtin.Int.intBits b : Int) _ (ints_rev hP.its) ?n1 ?n2 hbb ?n3 ?n4) [(62, oA), (cA, oB)] ?B ?F ?X ?N ?T ?hk ?l1 ?l2 ?l3 ?pp ?hd ?hu ?_
       (case n1 => (rw [List.length_reverse, hP.len]; omega))
       (case n2 => (intro d hd; rw [Int.toNat_natCast]; exact hP.dig d (List.mem_reverse.mp hd)))
       (case n3 => (rw [List.length_reverse, hP.len, Int.toNat_natCast]; exact hnK))
       (case n4 => (simp only [List.mem_cons, List.not_mem_nil, or_false, not_or]; exact ⟨by k_ne, by k_ne⟩))
       (case B => k_asm)
       (case F => k_asm)
       (case X => k_asm)
       (case N => k_asm)
       (case T => k_asm)
       (case hk => exact rfl)
       (case l1 => kst_inAny)
       (case l2 => kst_inAny)
       (case l3 => exact hsep2)
       (case pp => exact News.isList (by k_asm) (by k_mem))
       (case hd => ktr_room)
       (case hu => ktr_units)
       (rintro r3 led3 h3 tk3 F3 N3 hne3 ⟨t3, oC, cC, oD, rfl, hTD, rfl⟩
        rw [Int.toNat_natCast, hP.quo, Nat.sub_self, Nat.mul_zero, Int.pow_zero, Int.ediv_one]
        simp only [List.cons_append, List.nil_append] at N3)))
  k_with "RV!" => (
    refine' kl_reverse (its := c.vs.toArray) (l := c.vs.reverse) ?F ?N ?e ?U ?z ?_
    (case F => k_asm)
    (case N => k_asm)
    (case e => rfl)
    (case U => k_upd)
    (case z => (rw [sizeLine_eq, List.toList_toArray]; omega))
    (intro h' F' N'; (try k_sweep)))
  k_with "RE!" => (
    rename News _ _ _ _ => nE'
    (simp only [List.push_toArray] at nE')
    (refine loopN_end ⟨_, _, _, _, _⟩ (by assumption) nE' (by kst_in) (by intro p hp; k_ownIn) rfl (by kst_all) (by kst_same) (dinv_step hb hi hP _ _ _ _ _ ⟨_, rfl⟩ rfl rfl)))
  k_with "SL!" => (refine shl_to (v := c.r * 2 ^ Builtin.Int.intBits b) (by omega) (by omega) (by omega) (by rw [Int.toNat_natCast]) ?_)
  k_with "R!" => (
    rename Fr _ _ _ _ => lF'
    rename News _ _ _ _ => lN'
    have hLL := (lN' _ (by k_mem : (l1, _) ∈ _)).2.1
    have hlen := hv1.length
    rw [digs_length] at hlen
    have hII := lN' (_, revObj l1 (vs1.length - 1)) (by k_mem)
    with_unfolding_all refine' iter_revN (σ := DS) (l := l1) (vs := vs1) (ns := digs (Builtin.Int.intBits b) K a) (fun c => [(_, listOf c.vs.toArray c.k), (62, oA), (cA, oB), (69, ob), (c2, o2)]) (fun c => [(Str.ofString "r", .int c.r c.t)]) [Str.ofString "q_digit"] (fun i c => DInv a b (Builtin.Int.intBits b) K i c) ⟨0, ?t0, [], [], 0⟩ rfl ?hit ?hl hv1 ?z1 ?z2 ?z3 ?z4 ?z5 lF' ?kn ?kk ?hp ?turn ?done
    (case kn => exact kst_newsOf lN' (by kst_inAny))
    (case hit => exact ⟨_, hII.1, rfl, by simp [revObj]⟩)
    (case hl => exact News.isList lN' (by k_mem))
    (case z1 => k_ne)
    (case z2 => exact fun e => hII.2.1 e.symm)
    (case z3 => exact fun e => hLL e.symm)
    (case z4 => exact hII.2.2)
    (case z5 => (intro q hq; simp only [List.mem_cons, List.not_mem_nil, or_false] at hq; rcases hq with rfl | rfl | rfl | rfl | rfl <;> (refine ⟨?_, ?_⟩ <;> first | assumption | k_ne)))
    (case kk => kst_all)
    (case hp => exact dinv_start ha.1 hlt _)
    (case' turn => (intro c i t' u h tk own hi hoff hP F' N'
                    rw [digs_length] at hi F'
                    have hB := dinv_bounds hb hP
                    have hvl : c.vs.length ≤ 33 := by have h1 := hP.its.length; have h2 := hP.len; omega
                    have hG := digs_get (Builtin.Int.intBits b) K a (K - 1 - i) (by omega)
                    have hG0 : 0 ≤ (digs (Builtin.Int.intBits b) K a).getD (K - 1 - i) 0 ∧ (digs (Builtin.Int.intBits b) K a).getD (K - 1 - i) 0 < 2 ^ Builtin.Int.intBits b := by
                      rw [hG]; exact ⟨Int.emod_nonneg _ (by omega), Int.emod_lt_of_pos _ hpp⟩
                    have hX : 0 ≤ c.r * 2 ^ Builtin.Int.intBits b + (digs (Builtin.Int.intBits b) K a).getD (K - 1 - i) 0 ∧ c.r * 2 ^ Builtin.Int.intBits b + (digs (Builtin.Int.intBits b) K a).getD (K - 1 - i) 0 < 16384 := by
                      have m0 : 0 ≤ c.r * 2 ^ Builtin.Int.intBits b := Int.mul_nonneg hB.1 (by omega)
                      have m1 : c.r * 2 ^ Builtin.Int.intBits b ≤ 80 * 128 := Int.mul_le_mul (by omega) hpw (by omega) (by omega)
                      omega
                    dsimp only [kstB] at F'
                    simp only [List.nil_append, List.cons_append] at N'))
    (case' done => (intro c u h tk hP F' N'; rw [digs_length] at hP; have hvl : c.vs.length ≤ 33 := (by have h1 := hP.its.length; have h2 := hP.len; omega); dsimp only [kstB] at F')))
  k_steps
  have hr : c.r = a % b := by rw [hP.rem, Nat.sub_self, Nat.mul_zero, Int.pow_zero, Int.ediv_one]
  obtain ⟨cr, ct, cvs, cns, ck⟩ := c
  dsimp only at hr
  subst hr
  have hd1 : cC ≠ 62 := hne3 (cC, oD) (.tail _ (.head _)) (62, oA) (.head _)
  have hd2 : cC ≠ cA := hne3 (cC, oD) (.tail _ (.head _)) (cA, oB) (.tail _ (.head _))
  refine' hret _ [(_, pairObj (.int (a / b) t3) (.int (a % b) ct) 0), (62, oA), (cA, oB), (69, oC), (cC, oD)] _ _ ?F ?N ?W ?K ⟨_, t3, ct, _, oA, cA, oB, oC, cC, oD, rfl, hTI, hTD, hA69, hd1, hd2, rfl⟩
  (case F => assumption)
  (case N => (refine' news5 ?n0 ?n1 ?n2 ?n3 ?n4 ?n5; (case n0 => assumption); (case n1 => k_mem); (case n2 => k_mem); (case n3 => k_mem); (case n4 => k_mem); (case n5 => k_mem)))
  (case W => (refine' new_of KG0 (news5 ?n0 ?n1 ?n2 ?n3 ?n4 ?n5); (case n0 => assumption); (case n1 => k_mem); (case n2 => k_mem); (case n3 => k_mem); (case n4 => k_mem); (case n5 => k_mem)))
  (case K => assumption)
end
/- part V2 -/
section
open PySem PySem.W PyProof.Rows PySem.Calls PySem.Spec
set_option maxRecDepth 100000
set_option maxHeartbeats 8000000
/-- the table of _int2digits and the code object that it names -/
def TabI (oa : Obj) (c : Nat) (o : Obj) : Prop := oa = tI c ∧ c ≠ 62 ∧ ∃ fs tq, o.data = .fields fs ∧ fs[1]? = some (.str qnI tq)
def TabD (oa : Obj) (c : Nat) (o : Obj) : Prop := oa = tD c ∧ c ≠ 69 ∧ ∃ fs tq, o.data = .fields fs ∧ fs[1]? = some (.str qnD tq)
/-- the two tables as they stand ahead of the next call -/
theorem in2 {α : Type} {a b c : α} {l : List α} (h1 : a ∈ l) (h2 : b ∈ l) (h3 : c ∈ l) : ∀ p ∈ [a, b, c], p ∈ l := by
  intro p hp
  simp only [List.mem_cons, List.not_mem_nil, or_false] at hp
  rcases hp with rfl | rfl | rfl <;> assumption
theorem newsL3 {h₀ h' : Heap} {L l c d : Nat} {k : Nat} {vs : Array Value} {oa oc : Obj} {led : List (Addr × Obj)} {fs : Array Value} (N : News h₀ L h' led) (m1 : (l, listOf vs k) ∈ led) (m2 : (d, oa) ∈ led) (m3 : (c, oc) ∈ led) (ha : oa.data ≠ (listOf vs k).data) (hc : oc.data = .fields fs) : d ≠ l ∧ c ≠ l :=
  ⟨news_ne N m2 m1 ha, news_ne N m3 m1 (by rw [hc]; nofun)⟩
theorem ctr_dmF (w : World) (a b : Int) (ta tb : Tok) (ha : 0 ≤ a ∧ a < 8589934592) (hb : 1 ≤ b ∧ b ≤ 81) : CtrF w 81 60 600 [.int a ta, .int b tb] [(62, tabObj #[]), (69, tabObj #[])] (fun _ => True)
    (fun led' r => ∃ D t1 t2 k c1 o1 fs1 tq1 c2 o2 fs2 tq2, r = .ref D ∧ o1.data = .fields fs1 ∧ fs1[1]? = some (.str qnI tq1) ∧ o2.data = .fields fs2 ∧ fs2[1]? = some (.str qnD tq2) ∧ c1 ≠ 62 ∧ c1 ≠ 69 ∧ c2 ≠ 62 ∧ c2 ≠ 69 ∧ c2 ≠ c1 ∧
      led' = [(D, pairObj (.int (a / b) t1) (.int (a % b) t2) k), (c1, o1), (62, tI c1), (c2, o2), (69, tD c2)]) := by
  have G := ctr_dm w TabI TabD (tabObj #[]) (tabObj #[]) (tabObj #[]) (tabObj #[]) 62 69 (by decide) (by decide) (by decide) a b ta tb ha hb
    (fun n tn hn => ctr_conv (ctr_i2dF w a n ta tn ha hn) (fun p hp => by rw [List.mem_singleton.mp hp]; exact .head _) fun h₀ L h' led' r N hP => by
      obtain ⟨l, vs, cc, oc, fs, tq, hr, hv, ho, hf, hl⟩ := hP
      subst hl
      have hx := newsL3 N (.tail _ (.head _)) (.tail _ (.tail _ (.head _))) (.head _) (by nofun) ho
      have hy : cc ≠ 62 := news_ne N (.head _) (.tail _ (.tail _ (.head _))) (by rw [ho]; intro e; injection e with e; rw [e] at hf; simp [rawInt] at hf)
      exact ⟨_, in2 (.tail _ (.head _)) (.tail _ (.tail _ (.head _))) (.head _), l, vs, tI cc, cc, oc, hr, hv, ⟨rfl, hy, fs, tq, ho, hf⟩, hx.1, hx.2, rfl⟩)
    (fun D vs ns n tn hI hlen hb' hn hnk hD => ctr_conv (ctr_d2iF w D vs ns n tn hI hlen hb' hn hnk (by simpa using hD)) (fun p hp => by rw [List.mem_singleton.mp hp]; exact .head _) fun h₀ L h' led' r N hP => by
      obtain ⟨t, cc, oc, fs, tq, hr, ho, hf, hl⟩ := hP
      subst hl
      have hy : cc ≠ 69 := news_ne N (.head _) (.tail _ (.head _)) (by rw [ho]; intro e; injection e with e; rw [e] at hf; simp [rawInt] at hf)
      exact ⟨_, fun p hp => by simp only [List.mem_cons, List.not_mem_nil, or_false] at hp ⊢; exact hp.symm, t, tD cc, cc, oc, hr, ⟨rfl, hy, fs, tq, ho, hf⟩, rfl⟩)
  refine ctr_conv G ?_ ?_
  · intro p hp
    simp only [List.mem_cons, List.not_mem_nil, or_false] at hp ⊢
    rcases hp with h | h | h | h
    · exact .inl h
    · exact .inl h
    · exact .inr h
    · exact .inr h
  · rintro h₀ L h' led' r N ⟨D, t1, t2, k, oa, c1, o1, ob, c2, o2, hr, ⟨rfl, h1, fs1, tq1, ho1, hf1⟩, ⟨rfl, h2, fs2, tq2, ho2, hf2⟩, h3, h4, h5, rfl⟩
    refine ⟨[(D, pairObj (.int (a / b) t1) (.int (a % b) t2) k), (c1, o1), (62, tI c1), (c2, o2), (69, tD c2)], ?_, D, t1, t2, k, c1, o1, fs1, tq1, c2, o2, fs2, tq2, hr, ho1, hf1, ho2, hf2, h1, h3, h4, h2, h5, rfl⟩
    intro p hp
    simp only [List.mem_cons, List.not_mem_nil, or_false] at hp ⊢
    rcases hp with h | h | h | h | h
    · exact .inl h
    · exact .inr (.inr (.inl h))
    · exact .inr (.inl h)
    · exact .inr (.inr (.inr (.inr h)))
    · exact .inr (.inr (.inr (.inl h)))
theorem ctr_dmH (w : World) (c1 c2 : Nat) (o1 o2 : Obj) (fs1 fs2 : Array Value) (tq1 tq2 : Tok) (ho1 : o1.data = .fields fs1) (hf1 : fs1[1]? = some (.str qnI tq1)) (ho2 : o2.data = .fields fs2) (hf2 : fs2[1]? = some (.str qnD tq2)) (hd1 : c1 ≠ 62) (hc69 : c1 ≠ 69) (hd3 : c2 ≠ 62) (hd4 : c2 ≠ 69) (hd5 : c2 ≠ c1) (a b : Int) (ta tb : Tok) (ha : 0 ≤ a ∧ a < 8589934592) (hb : 1 ≤ b ∧ b ≤ 81) : CtrF w 81 60 600 [.int a ta, .int b tb] [(62, tI c1), (c1, o1), (69, tD c2), (c2, o2)] (fun _ => True)
    (fun led' r => ∃ D t1 t2 k, r = .ref D ∧ led' = [(D, pairObj (.int (a / b) t1) (.int (a % b) t2) k), (62, tI c1), (c1, o1), (69, tD c2), (c2, o2)]) := by
  have G := ctr_dm w (fun oa c o => oa = tI c1 ∧ c = c1 ∧ o = o1) (fun oa c o => oa = tD c2 ∧ c = c2 ∧ o = o2) (tI c1) o1 (tD c2) o2 c1 c2 hc69 hd3 hd5 a b ta tb ha hb
    (fun n tn hn => ctr_conv (ctr_i2dH w c1 o1 fs1 tq1 ho1 hf1 hd1 a n ta tn ha hn) (fun _ h => h) fun h₀ L h' led' r N hP => by
      obtain ⟨l, vs, hr, hv, hl⟩ := hP
      subst hl
      have hx := newsL3 N (.head _) (.tail _ (.head _)) (.tail _ (.tail _ (.head _))) (by nofun) ho1
      exact ⟨_, fun _ h => h, l, vs, tI c1, c1, o1, hr, hv, ⟨rfl, rfl, rfl⟩, hx.1, hx.2, rfl⟩)
    (fun D vs ns n tn hI hlen hb' hn hnk hD => ctr_conv (ctr_d2iH w c2 o2 fs2 tq2 ho2 hf2 D vs ns n tn hI hlen hb' hn hnk hD) (fun _ h => h) fun h₀ L h' led' r N hP => by
      obtain ⟨t, hr, hl⟩ := hP
      exact ⟨led', fun _ h => h, t, tD c2, c2, o2, hr, ⟨rfl, rfl, rfl⟩, hl⟩)
  exact ctr_conv G (fun _ h => h) fun h₀ L h' led' r N hP => by
      obtain ⟨D, t1, t2, k, oa, c, o, ob, c', o', hr, ⟨ea, ec, eo⟩, ⟨eb, ec', eo'⟩, _, _, _, hl⟩ := hP
      subst ea ec eo eb ec' eo'
      exact ⟨led', fun _ h => h, D, t1, t2, k, hr, hl⟩
end
/- part M0b -/
section
open PySem PySem.W PyProof.Rows PySem.Calls PySem.Spec
set_option maxRecDepth 100000
set_option maxHeartbeats 8000000

def SignOf (h : Int) (sg : Nat) : Prop := sg ∈ (lawTab h).map (·.1)
def KeysOfTab (h : Int) (ss : List Str) : Prop := ss.Perm ((lawTab h).map fun p => tx [p.1])
theorem strs_flat : ∀ {vs : List Value} {D : List (PyData × PyData)} {ks : List Str} {C : List Value → Prop}, D.map (·.1) = ks.map PyData.str → (∀ vs, StrsAre vs ks → C vs) → KdlKeysD D C
  | _, [], [], _, _, h => h [] .nil
  | _, [], _ :: _, _, e, _ => by cases e
  | _, _ :: _, [], _, e, _ => by cases e
  | vs, q :: D, k :: ks, C, e, h => by
    intro v hv
    have e' := List.cons.inj e
    rw [show q.1 = PyData.str k from e'.1] at hv
    obtain ⟨t, rfl⟩ := hv.str_inv
    exact strs_flat (vs := vs) (ks := ks) e'.2 fun us hu => h _ (.cons k t hu)
theorem sort_strs_at {prog : Program} {w : World} {A : Around} {E : Value → Shared → Prop} {s : Shared} {h₀ : Heap} {L B : Addr} {m : Str → Option Value} {news : List (Addr × Obj)} {vs : List Value} {ss : List Str} {Q : Value → Shared → Prop}
    (F : Fr h₀ L s.heap m) (N : News h₀ L s.heap ((B, W.listOf vs.toArray 0) :: news)) (hlt : ∀ q ∈ news, q.1 ≠ B) (hS : StrsAre vs ss) (h64 : vs.length < 64)
    (h : ∀ h' vs' ss' e, Fr h₀ L h' m → News h₀ L h' ((B, W.listOf (List.toArray vs') e) :: news) → StrsAre vs' ss' → ss'.Perm ss → Q .none { s with heap := h' }) : wpAny (model prog w) A (call (.builtin "list.sort") [.ref B]) Q E s := by
  have ho : s.heap.get? B = some (seqObj "list" vs.toArray 0) := (N _ (.head _)).1
  refine wpAny_call_entry PyProof.Rows.slot_list_sort ⟨_, ho, rfl⟩ PyProof.Rows.entry_list_sort (list_sort_treeK PyProof.Rows.strKind_oneLt ho hS.keysOf (fun v₁ v₂ rest e => keyKind_strs (by rw [← e]; exact hS)) h64 fun st' hp hs => ⟨.none, rfl, ?_⟩) (PyProof.Rows.args_list_sort _)
  obtain ⟨ss', h1, h2, h3⟩ := sorted_out_str hS hp hs
  obtain ⟨e, he⟩ := sortedHeap_at (out := (arrOf st').map (·.2)) ho
  have keep : ∀ b o, s.heap.get? b = some o → b ≠ B → (sortedHeap s.heap B vs ((arrOf st').map (·.2))).get? b = some o := fun b o q n => (sortedHeap_old n (Heap.lt_size q)).trans q
  have nB : h₀.get? B = none := (N _ (.head _)).2.2
  have nL : B ≠ L := (N _ (.head _)).2.1
  refine h _ _ ss' e ?_ ?_ h1 h2
  · obtain ⟨oL, a1, a2, hoL, a3⟩ := F.ns
    exact ⟨⟨oL, a1, a2, keep _ _ hoL (fun z => nL z.symm), a3⟩, fun b o q => keep _ _ (F.keep b o q) (fun z => by rw [z, nB] at q; cases q), F.above⟩
  · intro p hp
    rcases List.mem_cons.mp hp with rfl | hp
    · exact ⟨he.trans (by rw [Array.toArray_toList]), (N _ (.head _)).2⟩
    · exact ⟨keep _ _ (N p (.tail _ hp)).1 (hlt p hp), (N p (.tail _ hp)).2⟩
theorem flat_len {kvs : List (Str × Value)} {D : List (PyData × PyData)} (h : PyProof.V.FlatPairs PyData.str kvs D) : kvs.length = D.length := h.length.symm
theorem sorted_table {prog : Program} {w : World} {A : Around} {E : Value → Shared → Prop} {s : Shared} {h₀ : Heap} {L d : Addr} {lo : Obj} {m : Str → Option Value} {news : List (Addr × Obj)} {kvs : List (Str × Value)} {h : Int} {Q : Value → Shared → Prop}
    (hh : A.handled = none) (F : Fr h₀ L s.heap m) (N : News h₀ L s.heap news) (hm : (d, lo) ∈ news) (hsm : (d == sysModules) = false) (hD : lo.IsDictOf (PySem.strKind prog w) kvs) (hf : PyProof.V.FlatPairs PyData.str kvs (tabD (lawTab h)))
    (k : ∀ B h' tk vs' ss' e, Fr h₀ L h' m → News h₀ L h' ((B, W.listOf (List.toArray vs') e) :: news) → (∀ q ∈ news, q.1 < B) → StrsAre vs' ss' → KeysOfTab h ss' → Q (.ref B) { s with heap := h', toks := tk }) :
    wpAny (model prog w) A (call (.builtin "sorted") [.ref d]) Q E s := by
  have hl7 : (lawTab h).length ≤ 7 := by unfold lawTab; split <;> (try split) <;> decide
  refine kdu_sortedD (knd := PySem.strKind prog w) (enc := PyData.str) (D := tabD (lawTab h)) (fun _ _ => kdl_flat_str) hh F N ⟨hsm, kvs, Heap.dictOf_iff.mpr ⟨lo, (N _ hm).1, hD⟩, hf⟩ (by simp [tabD]; omega) ?_
  intro B h' tk
  refine strs_flat (vs := []) (ks := (lawTab h).map fun p => tx [p.1]) (by simp [tabD]) ?_
  intro vs hvs F' N' hlt
  refine sort_strs_at F' N' (fun q hq z => ?_) hvs ?_ ?_
  · exact absurd (hlt q hq) (by rw [z]; exact Nat.lt_irrefl _)
  · have := hvs.length
    simp at this
    omega
  · intro h2 vs' ss' e F2 N2 hs hp
    exact k B h2 tk vs' ss' e F2 N2 hlt hs hp
theorem tab_len (h : Int) : 3 ≤ (lawTab h).length ∧ (lawTab h).length ≤ 7 := by unfold lawTab; split <;> (try split) <;> decide
def tabLen (h : Int) : Int := ((lawTab h).length : Int)
theorem tabLen_bd (h : Int) : 3 ≤ tabLen h ∧ tabLen h ≤ 7 := by have := tab_len h; unfold tabLen; omega
theorem sign_item {prog : Program} {w : World} {A : Around} {E : Value → Shared → Prop} {s : Shared} {value slice : Expr} {Q : Value → Shared → Prop} {h₀ : Heap} {L B : Addr} {news : List (Addr × Obj)} {vs' : List Value} {ss' : List Str} {e : Nat} {u : Tok} {k : Int} {h : Int}
    (N : News h₀ L s.heap news) (hm : (B, W.listOf (List.toArray vs') e) ∈ news) (hS : StrsAre vs' ss') (hp : KeysOfTab h ss') (h0 : 0 ≤ k) (h1 : k < tabLen h) (hk : ∀ sg t, SignOf h sg → Q (.str (tx [sg]) t) s)
    (hs : subscripted slice false (.ref B) (.int k u) = operate [.ref B, .int k u] (getItem (.ref B) (.int k u)) := by with_unfolding_all rfl) :
    wpAny (model prog w) A (subscriptTail value slice (.ref B) (.int k u)) Q E s := by
  have hp : ss'.Perm ((lawTab h).map fun p => tx [p.1]) := hp
  have hlen : ss'.length = (lawTab h).length := by rw [hp.length_eq, List.length_map]
  have := tab_len h
  refine PySem.W.KTb.item_list (News.isList N hm) hS h0 (by rw [hlen]; exact h1) (by have := tabLen_bd h; omega) (fun t' hlt => ?_) hs
  have hmem : ss'.getD k.toNat PySem.Str.empty ∈ ss' := by
    rw [List.getD_eq_getElem?_getD, List.getElem?_eq_getElem hlt]
    exact List.getElem_mem hlt
  obtain ⟨p, hpm, he⟩ := List.mem_map.mp (hp.mem_iff.mp hmem)
  rw [← he]
  exact hk p.1 t' (List.mem_map_of_mem hpm)
theorem len_table {prog : Program} {w : World} {A : Around} {E : Value → Shared → Prop} {s : Shared} {h₀ : Heap} {L d : Addr} {lo : Obj} {news : List (Addr × Obj)} {kvs : List (Str × Value)} {h : Int} {Q : Value → Shared → Prop}
    (N : News h₀ L s.heap news) (hm : (d, lo) ∈ news) (hsm : (d == sysModules) = false) (hD : lo.IsDictOf (PySem.strKind prog w) kvs) (hf : PyProof.V.FlatPairs PyData.str kvs (tabD (lawTab h)))
    (k : ∀ t tk, Q (.int (tabLen h) t) { s with toks := tk }) : wpAny (model prog w) A (call (.builtin "len") [.ref d]) Q E s := by
  have := tab_len h
  have hl : (tabD (lawTab h)).length = (lawTab h).length := by simp [tabD]
  refine len_tab (knd := PySem.strKind prog w) (enc := PyData.str) (D := tabD (lawTab h)) ⟨hsm, kvs, Heap.dictOf_iff.mpr ⟨lo, (N _ hm).1, hD⟩, hf⟩ (by rw [hl]; omega) ?_
  rw [hl]
  exact k _ _
theorem turns_of (b : Int) : ∃ k : Nat, 2 + b.fmod 3 = (k : Int) ∧ 2 ≤ k ∧ k ≤ 4 := by
  have := mod3 b
  exact ⟨(2 + b.fmod 3).toNat, by omega, by omega, by omega⟩
theorem idx_ok (c h : Int) : 0 ≤ (c.fdiv 3).fmod (tabLen h) ∧ (c.fdiv 3).fmod (tabLen h) < tabLen h := by
  have := tabLen_bd h
  rw [Int.fmod_eq_emod_of_nonneg _ (by omega)]
  exact ⟨Int.emod_nonneg _ (by omega), Int.emod_lt_of_pos _ (by omega)⟩
theorem tab_ne {x : Int} (h : 3 ≤ x ∧ x ≤ 7) : x ≠ 0 := by omega
theorem add_turns {prog : Program} {w : World} {A : Around} {E : Value → Shared → Prop} {s : Shared} {b k : Int} {t u : Tok} {Q : Value → Shared → Prop} (e : 2 + b = k) (h : Q (.int k s.toks) { s with toks := s.toks + 1 }) : wpAny (model prog w) A (binaryOp .Add (.int 2 t) (.int b u)) Q E s := add_int (by rw [e]; exact h)
section
variable {prog : Program} {w : World} {A : Around} {E : Value → Shared → Prop} {s : Shared} {Q : Value → Shared → Prop} {t u : Tok}
theorem pow_109 (h : Q (.int 1000000000 s.toks) { s with toks := s.toks + 1 }) : wpAny (model prog w) A (binaryOp .Pow (.int 10 t) (.int 9 u)) Q E s :=
  pow_int_small (by decide) (by decide) (by decide) h
theorem pow_2k {k : Nat} (hk : Hid (2 ≤ k ∧ k ≤ 4)) (h : Q (.int (2 ^ k) s.toks) { s with toks := s.toks + 1 }) : wpAny (model prog w) A (binaryOp .Pow (.int 2 t) (.int (k : Int) u)) Q E s :=
  pow_int_small (by omega) (by have : 2 ≤ k ∧ k ≤ 4 := hk; omega) (by decide) (by rw [Int.toNat_natCast]; exact h)
end
theorem modBig (a : Int) : 0 ≤ a.fmod 1000000000 ∧ a.fmod 1000000000 < 1000000000 := by rw [Int.fmod_eq_emod_of_nonneg _ (by decide)]; omega
theorem modBig' (a : Int) : 0 ≤ a.fmod 1000000000 ∧ a.fmod 1000000000 < 8589934592 := by have := modBig a; omega
theorem pow2_bd {k : Nat} (hk : Hid (2 ≤ k ∧ k ≤ 4)) : 1 ≤ (2 : Int) ^ k ∧ (2 : Int) ^ k ≤ 81 := by
  have h : 2 ≤ k ∧ k ≤ 4 := hk
  obtain rfl | rfl | rfl : k = 2 ∨ k = 3 ∨ k = 4 := by omega
  all_goals decide
theorem dm_use {w : World} {d u : Nat} {vs : List Value} {Pre : Heap → Prop} {Post : List (Addr × Obj) → Value → Prop} (C : CtrF w 81 d u vs [(62, tabObj #[]), (69, tabObj #[])] Pre Post)
    {p : Program} {loose : List Str} {mean : ExcName → Option Value} {mg mb : Str → Option Value} {dp un : Nat} {gd : Option (List Code)} {cn : Str} {cs : Scope} {a : Addr} {ccd : Value} {cl : List (Str × Addr)} {outer : List Env} {A₀ : Around} {base h₀ : Heap} {L : Addr} {m : Str → Option Value} {s : Shared}
    {Q E : Value → Shared → Prop} {q1 q2 q3 c1 c2 : Addr × Obj} (B : Below A₀ base outer h₀) (F : Fr h₀ L s.heap m) (X : (Mine.pre.heap_1 w.params).In h₀) (N : News h₀ L s.heap [q1, q2, q3, c1, c2, (62, tabObj #[]), (69, tabObj #[])]) (T : Top p loose mean mg mb h₀) (hk : cs.kind = .function) (hne : (@Ne Nat c1.1 62 ∧ @Ne Nat c1.1 69) ∧ (@Ne Nat c2.1 62 ∧ @Ne Nat c2.1 69)) (hp : Pre s.heap) (hd' : dp + d < recursionLimit) (hu : un + u < cLine)
    (ret : ∀ r led' h' tk', Fr h₀ L h' m → News h₀ L h' (led' ++ [c1, c2]) → (∀ p ∈ led', ∀ q ∈ [c1, c2], p.1 ≠ q.1) → Post led' r → Q r { s with heap := h', toks := tk' }) :
    wpAny (model PySem.Challenge.rw_xj0024_01.row.prog w) (ktrTop dp un gd cn cs L a ccd cl outer) (call (.ref 81) vs) Q E s := by
  refine ctr_useL C [c1, c2] B F X N T hk ?_ ?_ ?_ hp hd' hu ret
  · intro p hp
    simp only [List.mem_cons, List.not_mem_nil, or_false] at hp ⊢
    rcases hp with rfl | rfl <;> simp
  · intro p hp
    simp only [List.mem_cons, List.not_mem_nil, or_false] at hp ⊢
    rcases hp with rfl | rfl <;> simp
  · intro p hp q hq
    simp only [List.mem_cons, List.not_mem_nil, or_false] at hp hq
    rcases hp with rfl | rfl <;> rcases hq with rfl | rfl
    · exact hne.1.1
    · exact hne.1.2
    · exact hne.2.1
    · exact hne.2.2
end
/- part M0c -/
section
open PySem PySem.W PyProof.Rows PySem.Calls PySem.Spec
set_option maxRecDepth 100000
set_option maxHeartbeats 8000000

def pagesL (h : Int) (sg n : Nat) : List Str := (List.range (n + 1)).map fun j => tx (pageN h sg j)
theorem pagesL_len (h : Int) (sg n : Nat) : (pagesL h sg n).length = n + 1 := by simp [pagesL]
theorem pages_get (h : Int) (sg n j : Nat) (hj : j ≤ n) : (pagesL h sg n).getD j Str.empty = tx (pageN h sg j) := by
  unfold pagesL
  rw [List.getD_eq_getElem?_getD, List.getElem?_map, List.getElem?_range (by omega)]
  rfl
structure PgS where
  vr : List Value
  kr : Nat
theorem pages_start (h : Int) (sg : Nat) (t : Tok) : StrsAre [.str (tx (escL (lawTab h) [sg])) t] (pagesL h sg 0) := by
  rw [escL_tabs]
  exact .cons _ _ .nil
theorem strs_snoc9 {vs : List Value} {ss : List Str} (h : StrsAre vs ss) (x : Str) (t : Tok) : StrsAre (vs ++ [.str x t]) (ss ++ [x]) := by
  induction h with
  | nil => exact .cons _ _ .nil
  | cons a u _ ih => exact .cons _ _ ih
theorem pages_push {h : Int} {sg i : Nat} {vr : List Value} (t : Tok) (hs : StrsAre vr (pagesL h sg i)) : StrsAre (vr ++ [.str (tx (escL (lawTab h) (pageN h sg i))) t]) (pagesL h sg (i + 1)) := by
  have e : pagesL h sg (i + 1) = pagesL h sg i ++ [tx (pageN h sg (i + 1))] := by
    unfold pagesL
    rw [List.range_succ, List.map_append]; rfl
  rw [e, escL_tabs]
  exact strs_snoc9 hs _ t
theorem pages_item {prog : Program} {w : World} {A : Around} {E : Value → Shared → Prop} {s : Shared} {value slice : Expr} {Q : Value → Shared → Prop} {h₀ : Heap} {L P : Addr} {news : List (Addr × Obj)} {vr : List Value} {kr n j : Nat} {u : Tok} {k : Int} {h : Int} {sg : Nat}
    (N : News h₀ L s.heap news) (hm : (P, W.listOf (List.toArray vr) kr) ∈ news) (hS : StrsAre vr (pagesL h sg n)) (hj : k = (j : Int)) (hjn : j ≤ n) (hn : n ≤ 10) (hk : ∀ t, Q (.str (tx (pageN h sg j)) t) s)
    (hs : subscripted slice false (.ref P) (.int k u) = operate [.ref P, .int k u] (getItem (.ref P) (.int k u)) := by with_unfolding_all rfl) :
    wpAny (model prog w) A (subscriptTail value slice (.ref P) (.int k u)) Q E s := by
  subst hj
  refine PySem.W.KTb.item_list (News.isList N hm) hS (by omega) (by rw [pagesL_len]; omega) (by omega) (fun t' hlt => ?_) hs
  rw [Int.toNat_natCast, pages_get h sg n j hjn]
  exact hk t'
structure MarkM (n : Nat) : Prop where
theorem tail_of {g h : Heap} {L : Addr} {p : Addr × Obj} {l : List (Addr × Obj)} (_ : News g L h (p :: l)) : ∃ (a : Addr) (r : List (Addr × Obj)), a = p.1 ∧ r = l := ⟨_, l, rfl, rfl⟩
theorem one_len (sg : Nat) : [sg].length ≤ 10000 := by simp
theorem pg_len {h : Int} {sg i k : Nat} (hi : i < k) (hk : Hid (2 ≤ k ∧ k ≤ 4)) : (pageN h sg i).length ≤ 10000 := Nat.le_trans (page_len4 _ _ _ (by have : 2 ≤ k ∧ k ≤ 4 := hk; omega)) (by decide)
theorem locC {qual : Str} {scope : Scope} {L f : Addr} {cd : Value} : (envOfC qual scope L f cd).locals = L := rfl
theorem pages_vlen {h : Int} {sg i : Nat} {vr : List Value} (hs : StrsAre vr (pagesL h sg i)) (hi : i ≤ 4) : vr.length ≤ 5 := by
  have h1 := hs.length
  rw [pagesL_len] at h1
  omega
theorem drop_three {g h : Heap} {L : Addr} {p a b c : Addr × Obj} {r : List (Addr × Obj)} (N : News g L h (p :: a :: b :: c :: r)) : News g L h (p :: r) :=
  kst_newsOf N (fun q hq => (List.mem_cons.mp hq).elim (fun e => e ▸ .head _) fun h => .tail _ (.tail _ (.tail _ (.tail _ h))))
end
/- part C0 -/
section
open PySem PySem.W PyProof.Rows PySem.Calls PySem.Spec PyProof.V PyProof.Rows.LCg
set_option maxRecDepth 100000
set_option maxHeartbeats 8000000
section
variable {prog : Program} {w : World} {A : Around} {E : Value → Shared → Prop} {s : Shared} {h₀ : Heap} {L : Addr} {m : Str → Option Value} {env : Env}
/-- the source of a comprehension over a text's signs -/
def SrcS (prog : Program) (w : World) (A : Around) (h₀ : Heap) (L : Addr) (m : Str → Option Value) (env : Env) (elt : Expr) (x : Str) (scope : Scope) (cl : List (Str × Addr)) (Q : Value → Shared → Prop) (xv : Value) (s₁ : Shared) : Prop :=
  ∃ z t news, xv = .str z t ∧ A.handled = none ∧ Fr h₀ L s₁.heap m ∧ News h₀ L s₁.heap news ∧ z.cps.size ≤ sizeLine ∧
    ∀ g, CompRest prog w A h₀ L m env elt x scope cl { s₁ with heap := g } (fun _ => True) (SignAt z) (FinE h₀ L m { s₁ with heap := g } Q) z.cps.size 0 [] news
theorem strIt_st {I : Addr} {nm : String} {z : Str} {t : Tok} : ∀ i (h h' : Heap) (o : Obj) (nw : List (Addr × Obj)), h.IsStrIter I nm z t i → h.get? I = some o → h'.get? I = some o → (∀ b o, h₀.get? b = some o → h'.get? b = some o) → News h₀ L h' nw → True → h'.IsStrIter I nm z t i :=
  fun i h h' o nw st e e' _ _ _ => by
    obtain ⟨o2, h2, r⟩ := st
    rw [e] at h2; cases h2
    exact ⟨o, e', r⟩
theorem ListComp_S {elt iter : Expr} {x : Str} {px : Pos} {scope : Scope} {cl : List (Str × Addr)} {pos : Pos} {Q : Value → Shared → Prop} (_F₀ : Fr h₀ L s.heap m)
    (hclos : closureFor scope env = pure cl) (hcell : ∀ y ∈ scope.names, y.2 ≠ .cell) (hkind : scope.kind = .function)
    (hnames : ∀ y ∈ scope.names, y.2 = .local → scope.names.lookup y.1 = some .local) (hx : scope.names.lookup x = some .local)
    (h : wpAny (model prog w) A (eval iter env) (SrcS prog w A h₀ L m env elt x scope cl Q) E s)
    (hs : ∀ x, foldedSetIterable iter env x = pure x := by intro _; rfl) :
    wpAny (model prog w) A (eval (.ListComp elt [⟨.Name x px, iter, [], 0⟩] scope pos) env) Q E s := by
  rw [eval_ListComp]
  refine wpAny_comprehension_free (use := none) rfl hs hclos hkind hnames (wpAny_mono h (fun xv s₁ h₁ => ?_) fun _ _ e => e)
  obtain ⟨z, t, news, rfl, hh, F, N, hsz, R⟩ := h₁
  cases ha : z.cps.all (· < 128)
  · refine wpAny_pyIter_wide ha ?_
    refine block_U (Walks.strWide hh s₁.heap.objs.size z t) hsz (fun i h st => by obtain ⟨o, e, _⟩ := st; exact ⟨o, e⟩) strIt_st hcell hkind hx ⟨_, Heap.get?_push_size _ rfl, rfl, rfl⟩ (fun b hb => ?_)
      (F.keeps fun _ _ e => Heap.get?_push_of_some _ e) (N.grown fun _ _ e => Heap.get?_push_of_some _ e) (Nat.ne_of_lt F.ns.lt) (next_is_new F) (fun p hp => Nat.ne_of_lt (Heap.lt_size (N p hp).1)) trivial (R _) ?_
    · rw [List.mem_singleton.mp hb]
      show s₁.heap.objs.size < (s₁.heap.push _).objs.size
      rw [Heap.size_push]; exact Nat.lt_succ_self _
    · intro D C h tk m' ys news' F' N' o1 hn hC₀ hD₀ hCL hDL hCD offC fin
      refine ⟨m', hn, fun h'' hs'' => fin D h'' tk (F'.change hs'' hCL hC₀) (fun p hp => ?_) o1⟩
      refine ⟨hs''.extBut _ _ ?_ (N' p hp).1, (N' p hp).2⟩
      rcases List.mem_cons.mp hp with rfl | hp
      · exact Ne.symm hCD
      · exact offC p hp
  · refine wpAny_pyIter_ascii ha ?_
    refine block_U (Walks.strAscii hh s₁.heap.objs.size z t) hsz (fun i h st => by obtain ⟨o, e, _⟩ := st; exact ⟨o, e⟩) strIt_st hcell hkind hx ⟨_, Heap.get?_push_size _ rfl, rfl, rfl⟩ (fun b hb => ?_)
      (F.keeps fun _ _ e => Heap.get?_push_of_some _ e) (N.grown fun _ _ e => Heap.get?_push_of_some _ e) (Nat.ne_of_lt F.ns.lt) (next_is_new F) (fun p hp => Nat.ne_of_lt (Heap.lt_size (N p hp).1)) trivial (R _) ?_
    · rw [List.mem_singleton.mp hb]
      show s₁.heap.objs.size < (s₁.heap.push _).objs.size
      rw [Heap.size_push]; exact Nat.lt_succ_self _
    · intro D C h tk m' ys news' F' N' o1 hn hC₀ hD₀ hCL hDL hCD offC fin
      refine ⟨m', hn, fun h'' hs'' => fin D h'' tk (F'.change hs'' hCL hC₀) (fun p hp => ?_) o1⟩
      refine ⟨hs''.extBut _ _ ?_ (N' p hp).1, (N' p hp).2⟩
      rcases List.mem_cons.mp hp with rfl | hp
      · exact Ne.symm hCD
      · exact offC p hp
end
end
/- part C1 -/
section
open PySem PySem.W PyProof.Rows PySem.Calls PySem.Spec
set_option maxRecDepth 100000
set_option maxHeartbeats 8000000

section
variable {prog : Program} {w : World} {A : Around} {h₀ : Heap} {L : Addr} {m : Str → Option Value} {env : Env} {elt : Expr} {x : Str} {scope : Scope} {cl : List (Str × Addr)} {s : Shared} {S : List (Addr × Obj) → Prop} {Fin : List Value → List (Addr × Obj) → Prop} {news : List (Addr × Obj)}
def SEl (news : List (Addr × Obj)) (r : Str) (y : Value) (news' : List (Addr × Obj)) : Prop := news' = news ∧ ∃ t : Tok, y = .str r t
theorem strs_snoc {y : Str} {t : Tok} : ∀ {vs : List Value} {ys : List Str}, StrsAre vs ys → StrsAre (vs ++ [.str y t]) (ys ++ [y])
  | _, _, .nil => .cons y t .nil
  | _, _, .cons z u r => .cons z u (strs_snoc r)
theorem rest_text {l : List Nat} (g : Nat → Str)
    (turn : ∀ k t I oI C oC D m₂ ys h tk (E' : Value → Shared → Prop), LCg.NsObj oC m₂ → m₂ x = some (.str (tx [k]) t) → Fr h₀ L h m → News h₀ L h ((I, oI) :: (C, oC) :: (D, LCg.lst ys) :: news) → LCg.Off3 I C D news → ((@Ne Nat I C) ∧ (@Ne Nat I D) ∧ (@Ne Nat C D)) →
      wpAny (model prog w) A (eval elt (compEnvC scope cl C env)) (LCg.CompEnd h₀ L m { s with heap := h, toks := tk } I oI C oC D (LCg.lst ys) S (fun y news' => SEl news (g k) y news')) E' { s with heap := h, toks := tk })
    (fin : ∀ ys, StrsAre ys (l.map g) → Fin ys news) : LCg.CompRest prog w A h₀ L m env elt x scope cl s S (SignAt (tx l)) Fin (tx l).cps.size 0 [] news := by
  have hsz : (tx l).cps.size = l.length := by simp [tx]
  have key : ∀ (j i : Nat) (ys : List Value), i + j = l.length → StrsAre ys ((l.take i).map g) → LCg.CompRest prog w A h₀ L m env elt x scope cl s S (SignAt (tx l)) Fin j i ys news := by
    intro j
    induction j with
    | zero =>
      intro i ys hi hy
      have e : i = l.length := by omega
      subst e
      rw [List.take_length] at hy
      exact LCg.CompRest.zero (fin ys hy)
    | succ j ih =>
      intro i ys hi hy
      refine LCg.CompRest.succ ?_
      intro v I oI C oC D m₂ h tk E' hv hC hx F N off ne
      obtain ⟨k, t, hk, rfl⟩ := hv
      have hk' : l[i]? = some k := by simpa [tx] using hk
      refine wpAny_mono (turn k t I oI C oC D m₂ ys h tk E' hC hx F N off ne) (fun y s₂ hq => ?_) fun _ _ e => e
      obtain ⟨h', tk', nw, e, F', N', off', hS, hn, t', hy'⟩ := hq
      rw [hn] at N' off' hS
      refine ⟨h', tk', news, e, F', N', off', hS, ?_⟩
      rw [hy']
      refine ih (i + 1) _ (by omega) ?_
      rw [List.take_add_one, hk']
      simpa using strs_snoc hy
  rw [hsz]
  exact key l.length 0 [] (by omega) (by simp only [List.take_zero, List.map_nil]; exact .nil)
end
end
/- part S1 -/
section
open PySem PySem.W PyProof.Rows PySem.Calls PySem.Spec
set_option maxRecDepth 100000
set_option maxHeartbeats 8000000
theorem quiet_S1 {M : Model} {A : Around} {E : Value → Shared → Prop} {Q : Flow → Shared → Prop} {env : Env} {s : Shared} (h : wpAny M A (execs [] env) Q E s) : wpAny M A (execs [] env) Q E s := by
  w_top off
  k_with_none
  first | (walk1; fail) | exact h
local macro_rules | `(tactic| omega) => `(tactic| walk_at "OM!")
local macro_rules | `(tactic| k_ne) => `(tactic| (refine neN ?_; (try dsimp only); first | (walk_at "CJ!") | exact Nat.ne_of_gt (by walk_at "CJ!") | exact Nat.ne_of_lt (by walk_at "CJ!") | exact Ne.symm (by walk_at "CJ!")))

local macro_rules | `(tactic| walk_at "call ref") => `(tactic| k_extra "IN!")
local macro_rules | `(tactic| walk_at "eval ListComp") => `(tactic| k_extra "LC!")
local macro_rules | `(tactic| walk_at "SrcS") => `(tactic| k_extra "SRC!")
local macro_rules | `(tactic| walk_at "SEl") => `(tactic| k_extra "SEL!")
local macro_rules | `(tactic| walk_at "call builtin:str.join") => `(tactic| k_extra "JN!")
theorem sel_flat {v : Value} {h : Int} {k : Nat} (hv : PyProof.V.Flat v ((Spec.lookup (PyData.str (tx [k])) (tabD (lawTab h))).getD (PyData.str (tx [k])))) : ∃ t : Tok, v = .str (tx (escT (lawTab h) k)) t := by
  rw [look_tab] at hv
  exact hv.str_inv
theorem ctr_spelled (w : World) (h : Int) (th : Tok) (hh : 0 ≤ h ∧ h < 3) (l : List Nat) (tk0 : Tok) (hl : l.length ≤ 10000) : CtrF w 128 3 40 [.int h th, .str (tx l) tk0] [] (fun _ => True) (fun _ r => ∃ t, r = .str (tx (escL (lawTab h) l)) t) := by
  unfold CtrF
  k_fill
  intro p loose mean mg mb dp un gd cn cs a ccd cl outer A₀ base h₀ L m s Q E B F X N T hk hpre hd' hu hret
  have hsz : (tx l).cps.size ≤ sizeLine := by rw [show (tx l).cps.size = l.length by simp [tx], sizeLine_eq]; omega
  refine wpAny_call ?_
  walk_at "F!enter"
  rename Keep _ _ _ => KG0
  k_with "IN!" => (
    (refine' ctr_use (ctr_table w h _ hh) ?B ?F ?X ?N ?T ?hk trivial ?hd ?hu ?_)
    (case B => k_asm); (case F => k_asm); (case X => k_asm); (case N => k_asm); (case T => k_asm); (case hk => rfl)
    (case hd => first | ktr_room | omega)
    (case hu => first | ktr_units | omega)
    (rintro r led h9 tk F9 N9 hne ⟨D, oD, kvs, rfl, rfl, hsm, hD, hfl⟩)
    (simp only [List.cons_append, List.nil_append] at N9)
    (have hDn := ne_all hne (.head _))
    (simp only [AllNe, and_true] at hDn))
  k_with "LC!" => (k_dflt (refine ListComp_S (by k_asm) (by with_unfolding_all rfl) (by decide) (by rfl) (by decide) (by rfl) ?_))
  k_with "SRC!" => (k_dflt (
    (refine' ⟨_, _, _, rfl, by rfl, by k_asm, by k_asm, hsz, ?_⟩)
    (intro g9)
    (refine' rest_text (fun k => tx (escT (lawTab h) k)) ?turn ?fin)
    (case' turn => (intro k t I oI C oC D' m₂ ys h' tk E' hC' hx' F' N' off' ne'; simp only [LCg.Off3, and_true] at off'))
    (case' fin => intro ys hys)))
  k_with "SEL!" => (k_dflt (exact ⟨rfl, sel_flat (by assumption)⟩))
  k_with "JN!" => (k_dflt ((refine' join_listW (ys := l.map fun k => tx (escT (lawTab h) k)) ?jl ?js (by decide) ?jw ?_); (case jl => exact News.isList (by k_asm) (by k_mem)); (case js => exact hys); (case jw => exact Nat.le_trans (sum_len (lawTab_small h) l) (by omega)); intro tj kj))
  k_steps
  all_goals first
    | exact hret _ [] _ _ (by assumption) News.nil (fun _ h => nomatch h) (by assumption) ⟨_, by rw [join_tx]; rfl⟩
    | trace_state
end
/- part R1 -/
section
open PySem PySem.W PyProof.Rows PySem.Calls PySem.Spec
set_option maxRecDepth 100000
set_option maxHeartbeats 8000000
theorem quiet_R1 {M : Model} {A : Around} {E : Value → Shared → Prop} {Q : Flow → Shared → Prop} {env : Env} {s : Shared} (h : wpAny M A (execs [] env) Q E s) : wpAny M A (execs [] env) Q E s := by
  w_top off
  k_with_none
  first | (walk1; fail) | exact h
local macro_rules | `(tactic| omega) => `(tactic| walk_at "OM!")
local macro_rules | `(tactic| k_ne) => `(tactic| (refine neN ?_; (try dsimp only); first | (walk_at "CJ!") | exact Nat.ne_of_gt (by walk_at "CJ!") | exact Nat.ne_of_lt (by walk_at "CJ!") | exact Ne.symm (by walk_at "CJ!")))

local macro_rules | `(tactic| walk_at "pyIter ref") => `(tactic| k_extra "R!")
local macro_rules | `(tactic| walk_at "InvEndN") => `(tactic| k_extra "RE!")
abbrev RS := Int × Int × Tok × Tok
/-- one place of the row -/
def restStep (c : Int) (k : Nat) (a : Int × Int) : Int × Int := if (c.fdiv (2 ^ k)).fmod 2 = 1 then (3 * a.1 + 2 ^ k, a.2 + 1) else a
def restTo (c : Int) : Nat → Int × Int
  | 0 => (0, 0)
  | k + 1 => restStep c k (restTo c k)
def lawRest (c t : Int) : Int := (-(restTo c t.toNat).1 * 11 ^ (restTo c t.toNat).2.toNat).fmod (2 ^ t.toNat)
theorem restTo_bounds (c : Int) : ∀ k, 0 ≤ (restTo c k).1 ∧ (restTo c k).1 < 4 ^ k ∧ 0 ≤ (restTo c k).2 ∧ (restTo c k).2 ≤ k
  | 0 => by simp [restTo]
  | k + 1 => by
    have ⟨h1, h2, h3, h4⟩ := restTo_bounds c k
    have hp : (2 : Int) ^ k ≤ 4 ^ k := by
      have : (2 : Nat) ^ k ≤ 4 ^ k := Nat.pow_le_pow_left (by omega) k
      exact_mod_cast this
    have hp0 : (0 : Int) < 2 ^ k := by exact_mod_cast Nat.two_pow_pos k
    rw [restTo, restStep]
    split
    · simp only [Int.pow_succ]; omega
    · simp only [Int.pow_succ]; omega
def RInv (c : Int) (k : Nat) (a : RS) : Prop := (a.1, a.2.1) = restTo c k
theorem rinv_bounds {c : Int} {k : Nat} {a : RS} (h : RInv c k a) (hk : k ≤ 4) : 0 ≤ a.1 ∧ a.1 < 256 ∧ 0 ≤ a.2.1 ∧ a.2.1 ≤ 4 := by
  have hb := restTo_bounds c k
  rw [← h] at hb
  dsimp only at hb
  have : (4 : Int) ^ k ≤ 4 ^ 4 := by
    have : (4 : Nat) ^ k ≤ 4 ^ 4 := Nat.pow_le_pow_right (by omega) hk
    exact_mod_cast this
  omega
theorem rinv_yes {c : Int} {pre : List Int} {a : RS} (h : RInv c pre.length a) {k : Int} (hkk : k = 0 + (pre.length : Int)) (t : (c.fdiv (2 ^ k.toNat)).fmod 2 = 1) (t1 t2 : Tok) : RInv c (pre ++ [k]).length (3 * a.1 + 2 ^ k.toNat, a.2.1 + 1, t1, t2) := by
  have hk : k.toNat = pre.length := by omega
  rw [hk] at t
  show _ = restTo c (pre ++ [k]).length
  rw [List.length_append, List.length_singleton, restTo, restStep, if_pos t, ← h, hk]
theorem rinv_no {c : Int} {pre : List Int} {a : RS} (h : RInv c pre.length a) {k : Int} (hkk : k = 0 + (pre.length : Int)) (t : (c.fdiv (2 ^ k.toNat)).fmod 2 ≠ 1) (t1 t2 : Tok) : RInv c (pre ++ [k]).length (a.1, a.2.1, t1, t2) := by
  have hk : k.toNat = pre.length := by omega
  rw [hk] at t
  show _ = restTo c (pre ++ [k]).length
  rw [List.length_append, List.length_singleton, restTo, restStep, if_neg t, ← h]
theorem rinv_end {c t : Int} {a : RS} (h : RInv c t.toNat a) : (-a.1 * 11 ^ a.2.1.toNat).fmod (2 ^ t.toNat) = lawRest c t := by
  unfold lawRest
  rw [← h]
theorem ctr_rest (w : World) (c t : Int) (tc tt : Tok) (hc : 0 ≤ c ∧ c < 16) (ht : 2 ≤ t ∧ t ≤ 4) : CtrF w 154 1 8 [.int c tc, .int t tt] [] (fun _ => True) (fun _ r => ∃ t', r = .int (lawRest c t) t') := by
  unfold CtrF
  k_fill
  intro p loose mean mg mb dp un gd cn cs a ccd cl outer A₀ base h₀ L m s Q E B F X N T hk hpre hd' hu hret
  refine wpAny_call ?_
  walk_at "F!enter"
  k_with "R!" => (
    rename Fr _ _ _ _ => lF'
    rename News _ _ _ _ => lN'
    with_unfolding_all refine' kst_range (σ := RS) (n := (t - 0).toNat) (fun a => []) (fun a => [(Str.ofString "total", .int a.1 a.2.2.1), (Str.ofString "ones", .int a.2.1 a.2.2.2)]) (fun _ => True) [] (fun pre a => RInv c pre.length a) (0, 0, ?t1, ?t2) rfl (by assumption) ?hs ?hn lF' lN' trivial ?kk rfl ?turn ?done
    (case kk => kst_all)
    (case hs => exact small_one (by omega) (by omega) (by omega) (by omega))
    (case hn => exact rangeSize_nat _ _)
    (case' turn => (intro a pre k tk' u h tk own hk hlt _ _ hI F' N'; have hB := rinv_bounds hI (by omega); dsimp only [kstB] at F'; simp only [List.nil_append] at N'))
    (case' done => (intro a u h tk _ hI F' N'; rw [rangeKs_length, Int.sub_zero] at hI; have hB := rinv_bounds hI (by omega); dsimp only [kstB] at F')))
  k_with "RE!" => (
    rename News _ _ _ _ => nE'
    first
    | (refine kst_end (_, _, _, _) (by assumption) nE' (by kst_in) (by intro p hp; k_ownIn) rfl trivial (by kst_all) (by kst_same) (rinv_yes hI hk (by assumption) _ _))
    | (refine kst_end (_, _, _, _) (by assumption) nE' (by kst_in) (by intro p hp; k_ownIn) rfl trivial (by kst_all) (by kst_same) (rinv_no hI hk (by assumption) _ _)))
  k_steps
  all_goals first
    | exact hret _ [] _ _ (by assumption) News.nil (fun _ h => nomatch h) (by assumption) ⟨_, by rw [rinv_end hI]⟩
    | trace_state
end
/- part M3 -/
section
open PySem PySem.W PyProof.Rows PySem.Calls PySem.Spec
set_option maxRecDepth 100000
set_option maxHeartbeats 8000000

def rowsL (k i : Nat) : List Int := (List.range i).map fun n => undigs 1 (rowL k n)
theorem rowsL_succ (k i : Nat) : rowsL k (i + 1) = rowsL k i ++ [undigs 1 (rowL k i)] := by simp [rowsL, List.range_succ]
theorem rest_row : ∀ k ≤ 4, 2 ≤ k → ∀ c < 2 ^ k, (0 ≤ lawRest (c : Nat) (k : Nat) ∧ lawRest (c : Nat) (k : Nat) < 2 ^ k) ∧ (rowsL k (2 ^ k)).getD (lawRest (c : Nat) (k : Nat)).toNat 0 = ((c : Nat) : Int) := by decide +kernel
/-- the run and the page that are kept of the number's own rest -/
def endL (h : Int) (sg k z i : Nat) : List Nat := if z < i then qs (orbit k z) ++ pageN h sg (odds k z) else []
theorem endL_hit (h : Int) (sg k z i : Nat) (hz : i = z) : endL h sg k z (i + 1) = qs (orbit k i) ++ pageN h sg (odds k i) := by unfold endL; subst hz; rw [if_pos (by omega)]
theorem endL_miss (h : Int) (sg k z i : Nat) (hz : i ≠ z) : endL h sg k z (i + 1) = endL h sg k z i := by
  unfold endL
  by_cases c : z < i
  · rw [if_pos c, if_pos (by omega)]
  · rw [if_neg c, if_neg (by omega)]
structure OS where
  e : Str
  te : Tok
  vr : List Value
  kr : Nat
structure OInv (h : Int) (sg k z i : Nat) (c : OS) : Prop where
  rows : IntsAre c.vr (rowsL k i)
  text : c.e = tx (endL h sg k z i)
structure IS where
  W : Int
  tW : Tok
  T : Int
  tT : Tok
  vr : List Value
  kr : Nat
  vz : List Value
  kz : Nat
structure IInv (k : Nat) (R : Int) (i j : Nat) (d : IS) : Prop where
  whole : d.W = wholeN k R i j
  threes : d.T = (odds j i : Int)
  row : IntsAre d.vr (rowL j i)
  siz : IntsAre d.vz (sizL j i)
theorem shaped_led (ns ms : List Int) (x : Str) (hx : PyData.strOk x = true) : SeqAt.shaped (.tuple [.list (ns.map .int), .list (ms.map .int), .str x]) = true := by
  simp [SeqAt.shaped, PyData.canLay0, PyData.canLayAll0, PyData.depth, PyData.depthAll, ke_canLayAll0, ke_depthAll, hx]
theorem eqv_led (ns ms : List Int) (x : Str) : PyData.eqv (.tuple [.list (ns.map .int), .list (ms.map .int), .str x]) (.tuple [.list (ns.map .int), .list (ms.map .int), .str x]) = true := by
  simp [PyData.eqv, PyData.eqvAll, ked_eqvAll]
section
variable {prog : Program} {w : World} {A : Around} {E : Value → Shared → Prop} {s : Shared} {h₀ : Heap} {L : Addr} {news : List (Addr × Obj)} {Q : Value → Shared → Prop}
theorem reads_led {D R Z : Addr} {kt kr kz : Nat} {vr vz : List Value} {ns ms : List Int} {x : Str} {t : Tok} (N : News h₀ L s.heap news) (hD : (D, tup3 (.ref R) (.ref Z) (.str x t) kt) ∈ news) (hR : (R, W.listOf (List.toArray vr) kr) ∈ news) (hZ : (Z, W.listOf (List.toArray vz) kz) ∈ news)
    (i1 : IntsAre vr ns) (i2 : IntsAre vz ms) : ∃ as, PySem.Reads s.heap (.ref D) (.tuple [.list (ns.map .int), .list (ms.map .int), .str x]) as :=
  ⟨_, reads_tuple_at (o := tup3 (.ref R) (.ref Z) (.str x t) kt) (N.get hD) rfl rfl (.cons (reads_newData (News.isList N hR) (ke_carried i1)) (.cons (reads_newData (News.isList N hZ) (ke_carried i2)) (.cons (.str _ _) .nil)))⟩
theorem led_same {D R Z T W9 Z9 : Addr} {kt kr kz ku kw ky : Nat} {vr vz vw vy : List Value} {ns ms : List Int} {x : Str} {t u : Tok} (N : News h₀ L s.heap news)
    (hD : (D, tup3 (.ref R) (.ref Z) (.str x t) kt) ∈ news) (hR : (R, W.listOf (List.toArray vr) kr) ∈ news) (hZ : (Z, W.listOf (List.toArray vz) kz) ∈ news)
    (hT : (T, tup3 (.ref W9) (.ref Z9) (.str x u) ku) ∈ news) (hW : (W9, W.listOf (List.toArray vw) kw) ∈ news) (hY : (Z9, W.listOf (List.toArray vy) ky) ∈ news)
    (i1 : IntsAre vr ns) (i2 : IntsAre vz ms) (i3 : IntsAre vw ns) (i4 : IntsAre vy ms) (hx : PyData.strOk x = true) (hu : A.units + 64 < cLine) (k : Q (.bool false) s) : wpAny (model prog w) A (compareOp .NotEq (.ref D) (.ref T)) Q E s := by
  obtain ⟨as, r1⟩ := reads_led N hD hR hZ i1 i2
  obtain ⟨bs, r2⟩ := reads_led N hT hW hY i3 i4
  exact ne_dataH r1 r2 (shaped_led _ _ _ hx) (shaped_led _ _ _ hx) hu (by rw [eqv_led]; exact k)
theorem pair_same {D T : Addr} {oD oT : Obj} {a b c d : Int} {ta tb tc td : Tok} {kd kt : Nat} (N : News h₀ L s.heap news) (hD : (D, oD) ∈ news) (hT : (T, oT) ∈ news) (cD : oD.cls = .type "tuple") (dD : oD.data = .seq #[.int a ta, .int b tb] kd) (cT : oT.cls = .type "tuple") (dT : oT.data = .seq #[.int c tc, .int d td] kt)
    (e1 : a = c) (e2 : b = d) (hu : A.units + 64 < cLine) (k : Q (.bool false) s) : wpAny (model prog w) A (compareOp .NotEq (.ref D) (.ref T)) Q E s := by
  subst e1 e2
  refine ne_dataH (da := .tuple [.int a, .int b]) (db := .tuple [.int a, .int b]) (reads_tuple_at (N.get hD) cD dD (.cons (.int _ _) (.cons (.int _ _) .nil))) (reads_tuple_at (N.get hT) cT dT (.cons (.int _ _) (.cons (.int _ _) .nil))) ?_ ?_ hu ?_
  · simp [SeqAt.shaped, PyData.canLay0, PyData.canLayAll0, PyData.depth, PyData.depthAll]
  · simp [SeqAt.shaped, PyData.canLay0, PyData.canLayAll0, PyData.depth, PyData.depthAll]
  · have : PyData.eqv (.tuple [.int a, .int b]) (.tuple [.int a, .int b]) = true := by simp [PyData.eqv, PyData.eqvAll]
    rw [this]; exact k
theorem last_size {value slice : Expr} {Z : Addr} {vz : List Value} {kz k i : Nat} {u : Tok} (N : News h₀ L s.heap news) (hm : (Z, W.listOf (List.toArray vz) kz) ∈ news) (hi : IntsAre vz (sizL k i)) (hk : 2 ≤ k ∧ k ≤ 4) (q : ∀ t, Q (.int (orbit k i : Int) t) s)
    (hs : subscripted slice false (.ref Z) (.int (-1) u) = operate [.ref Z, .int (-1) u] (getItem (.ref Z) (.int (-1) u)) := by with_unfolding_all rfl) (hg : ∀ r, letTemporaryGo value (.ref Z) r = pure () := by intro _; with_unfolding_all rfl) : wpAny (model prog w) A (subscriptTail value slice (.ref Z) (.int (-1) u)) Q E s := by
  have hl : (sizL k i).length = k := by simp [sizL]
  refine item_list_ints_neg (News.isList N hm) hi (by omega) (by rw [hl]; omega) (by decide) (fun t => ?_) hs hg
  have e : (sizL k i).getD ((-1 : Int) + ((sizL k i).length : Int)).toNat 0 = (orbit k i : Int) := by
    rw [hl, show ((-1 : Int) + (k : Int)).toNat = k - 1 by omega]
    unfold sizL
    rw [List.getD_eq_getElem?_getD, List.getElem?_map, List.getElem?_range (by omega)]
    simp only [Option.map_some, Option.getD_some]
    rw [show k - 1 + 1 = k by omega]
  rw [e]
  exact q t
theorem pow_2kj {k j : Nat} {t u : Tok} (hj : j < k) (hk : 2 ≤ k ∧ k ≤ 4) (h : Q (.int (2 ^ (((k : Int) - (j : Int) - 1)).toNat) s.toks) { s with toks := s.toks + 1 }) : wpAny (model prog w) A (binaryOp .Pow (.int 2 t) (.int ((k : Int) - (j : Int) - 1) u)) Q E s :=
  pow_int_small (by omega) (by omega) (by decide) h
theorem pow_3 {T : Int} {t u : Tok} (h0 : 0 ≤ T ∧ T ≤ 5) (h : Q (.int (3 ^ T.toNat) s.toks) { s with toks := s.toks + 1 }) : wpAny (model prog w) A (binaryOp .Pow (.int 3 t) (.int T u)) Q E s :=
  pow_int_small (by omega) (by omega) (by decide) h
end
theorem lookup_in {T : Tab} {a : Nat} {r : List Nat} (h : T.lookup a = some r) : (a, r) ∈ T := by
  induction T with
  | nil => cases h
  | cons p T ih =>
    obtain ⟨b, q⟩ := p
    rw [List.lookup_cons] at h
    by_cases e : a == b
    · rw [e] at h
      have hb : a = b := eq_of_beq e
      subst hb
      rw [Option.some.inj h]; exact .head _
    · simp only [Bool.not_eq_true] at e
      rw [e] at h
      exact .tail _ (ih h)
theorem esc_ok {T : Tab} (hT : (T.all fun p => p.2.all fun c => decide (c < 1114112)) = true) {l : List Nat} (hl : ∀ c ∈ l, c < 1114112) : ∀ c ∈ escL T l, c < 1114112 := by
  intro c hc
  unfold escL at hc
  obtain ⟨a, ha, hca⟩ := List.mem_flatMap.mp hc
  unfold escT at hca
  cases q : T.lookup a with
  | none => rw [q] at hca; simp at hca; subst hca; exact hl _ ha
  | some r =>
    rw [q] at hca
    have := List.all_eq_true.mp hT _ (lookup_in q)
    exact of_decide_eq_true (List.all_eq_true.mp this _ (by simpa using hca))
theorem tabs_ok (h : Int) : ((tabs h).all fun p => p.2.all fun c => decide (c < 1114112)) = true := by unfold tabs; split <;> (try split) <;> decide
theorem page_ok {h : Int} {sg : Nat} (hs : sg < 1114112) : ∀ j, ∀ c ∈ pageN h sg j, c < 1114112
  | 0 => esc_ok (tabs_ok h) (by simpa using hs)
  | j + 1 => esc_ok (tabs_ok h) (page_ok hs j)
theorem sign_small {h : Int} {sg : Nat} (hs : SignOf h sg) : sg < 128 := by
  have hs : sg ∈ (lawTab h).map (·.1) := hs
  unfold lawTab at hs
  split at hs
  · simp at hs; omega
  · split at hs
    · simp at hs; omega
    · simp at hs; omega
theorem tx_ok {l : List Nat} (h : ∀ c ∈ l, c < 1114112) : PyData.strOk (tx l) = true := by
  unfold PyData.strOk tx
  simp only [List.all_toArray, List.all_eq_true, decide_eq_true_eq]
  exact h
theorem page_strOk {h : Int} {sg j : Nat} (hs : SignOf h sg) : PyData.strOk (tx (pageN h sg j)) = true := tx_ok (page_ok (Nat.lt_of_lt_of_le (sign_small hs) (by decide)) j)
end
/- part M4 -/
section
open PySem PySem.W PyProof.Rows PySem.Calls PySem.Spec
set_option maxRecDepth 100000
set_option maxHeartbeats 8000000

theorem range_pow (k : Nat) : Builtin.Range.rangeSize 0 ((2 : Int) ^ k) 1 = ((2 ^ k : Nat) : Int) := by
  have e : (2 : Int) ^ k = ((2 ^ k : Nat) : Int) := by rw [Int.natCast_pow]; rfl
  refine (rangeSize_nat 0 _).trans ?_
  rw [e, Int.sub_zero, Int.toNat_natCast]
theorem size_nat (a : Int) (ha : 0 ≤ a) (k : Nat) : ∃ z : Nat, a % 2 ^ k = (z : Int) := ⟨(a % 2 ^ k).toNat, (Int.toNat_of_nonneg (Int.emod_nonneg _ (by have : (0 : Int) < 2 ^ k := Int.pow_pos (by decide); omega))).symm⟩
theorem oinv_start (h : Int) (sg k z : Nat) (t : Tok) : OInv h sg k z 0 ⟨Str.ofString "", t, [], 0⟩ := ⟨.nil, by unfold endL; rw [if_neg (by omega)]; show Str.ofString "" = tx []; decide +kernel⟩
theorem rows_vlen {k i : Nat} {vr : List Value} (h : IntsAre vr (rowsL k i)) (hi : i ≤ 16) : vr.length ≤ 16 := by
  have h1 := h.length
  have h2 : (rowsL k i).length = i := by simp [rowsL]
  omega
theorem tail_two {g h : Heap} {L : Addr} {p q : Addr × Obj} {l : List (Addr × Obj)} (_ : News g L h (p :: q :: l)) : ∃ (a b : Addr) (r : List (Addr × Obj)), a = p.1 ∧ b = q.1 ∧ r = l := ⟨_, _, l, rfl, rfl, rfl⟩
theorem iinv_start {k i : Nat} {R W : Int} (hW : W = R * 2 ^ (k : Int).toNat + (i : Int)) (t1 t2 : Tok) : IInv k R i 0 ⟨W, t1, 0, t2, [], 0, [], 0⟩ := ⟨by rw [hW, whole_zero, Int.toNat_natCast], rfl, .nil, .nil⟩
theorem ints_snoc8 {vs : List Value} {ns : List Int} {v v' : Int} {t : Tok} (h : IntsAre vs ns) (e : v = v') : IntsAre (vs ++ [.int v t]) (ns ++ [v']) := by subst e; exact IntsAre.append h (.cons v t .nil)
theorem iinv_even {k i j m : Nat} {R : Int} {vr vz : List Value} (hj : j < k) (hm : orbit j i = 2 * m) (i3 : IntsAre vr (rowL j i)) (i4 : IntsAre vz (sizL j i)) (t1 t2 t3 t4 : Tok) (k1 k2 : Nat) :
    IInv k R i (j + 1) ⟨(wholeN k R i j).fdiv 2, t1, (odds j i : Int), t2, vr ++ [.int ((wholeN k R i j).fmod 2) t3], k1, vz ++ [.int ((wholeN k R i j).fdiv 2 - 2 ^ (((k : Int) - (j : Int) - 1)).toNat * 3 ^ ((odds j i : Int)).toNat * R) t4], k2⟩ := by
  obtain ⟨_, ho, hs⟩ := pw_even hj hm
  obtain ⟨h1, h2⟩ := whole_even (R := R) hj hm
  refine ⟨h2, by rw [ho], ?_, ?_⟩
  · rw [rowL_succ]; exact ints_snoc8 i3 (by rw [h1]; omega)
  · rw [sizL_succ]; exact ints_snoc8 i4 (by rw [h2]; exact size_val hj (by rw [ho]))
theorem iinv_odd {k i j m : Nat} {R : Int} {vr vz : List Value} (hj : j < k) (hm : orbit j i = 2 * m + 1) (i3 : IntsAre vr (rowL j i)) (i4 : IntsAre vz (sizL j i)) (t1 t2 t3 t4 : Tok) (k1 k2 : Nat) :
    IInv k R i (j + 1) ⟨wholeN k R i j + (wholeN k R i j + 1).fdiv 2, t1, (odds j i : Int) + 1, t2, vr ++ [.int ((wholeN k R i j).fmod 2) t3], k1, vz ++ [.int (wholeN k R i j + (wholeN k R i j + 1).fdiv 2 - 2 ^ (((k : Int) - (j : Int) - 1)).toNat * 3 ^ ((odds j i : Int) + 1).toNat * R) t4], k2⟩ := by
  obtain ⟨_, _, _, ho, hs⟩ := pw_odd hj hm
  obtain ⟨h1, h2⟩ := whole_odd (R := R) hj hm
  have ho' : (odds j i : Int) + 1 = (odds (j + 1) i : Int) := by rw [ho]; rfl
  refine ⟨h2, ho', ?_, ?_⟩
  · rw [rowL_succ]; exact ints_snoc8 i3 (by rw [h1]; omega)
  · rw [sizL_succ]; exact ints_snoc8 i4 (by rw [h2]; exact size_val hj ho')
theorem par (n : Nat) : (∃ m, n = 2 * m) ∨ (∃ m, n = 2 * m + 1) := by
  rcases (show n % 2 = 0 ∨ n % 2 = 1 by omega) with h | h
  · exact .inl ⟨n / 2, by omega⟩
  · exact .inr ⟨n / 2, by omega⟩
theorem i_vlen {k j : Nat} {vr vz : List Value} {i : Nat} (i3 : IntsAre vr (rowL j i)) (i4 : IntsAre vz (sizL j i)) (hj : j ≤ k) (hk : k ≤ 4) : vr.length ≤ 4 ∧ vz.length ≤ 4 := by
  have h1 := i3.length
  have h2 := i4.length
  have h3 : (rowL j i).length = j := by simp [rowL]
  have h4 : (sizL j i).length = j := by simp [sizL]
  omega
theorem hi16 {i k : Nat} (hi : i < 2 ^ k) (hk : Hid (2 ≤ k ∧ k ≤ 4)) : i < 16 := by
  have h : 2 ≤ k ∧ k ≤ 4 := hk
  have : 2 ^ k ≤ 2 ^ 4 := Nat.pow_le_pow_right (by decide) h.2
  omega
theorem whole_bd {a : Int} {k i : Nat} (ha : 0 ≤ a ∧ a < 1000000000) (hk : Hid (2 ≤ k ∧ k ≤ 4)) (hi : i < 16) : 0 ≤ wholeN k (a / 2 ^ k) i k ∧ wholeN k (a / 2 ^ k) i k < 8589934592 := by
  have h : 2 ≤ k ∧ k ≤ 4 := hk
  have hb := orbit_small k h.2 i hi
  rw [whole_end]
  have hp : (3 : Int) ^ odds k i ≤ 3 ^ k := by exact_mod_cast Nat.pow_le_pow_right (show 0 < 3 by decide) (odds_le k i)
  have hp0 : (0 : Int) ≤ 3 ^ odds k i := Int.le_of_lt (Int.pow_pos (by decide))
  have hR : (0 : Int) ≤ a / 2 ^ k := Int.ediv_nonneg ha.1 (Int.le_of_lt (Int.pow_pos (by decide)))
  have h1 := Int.mul_le_mul_of_nonneg_left hp hR
  have h0 := Int.mul_nonneg hR hp0
  generalize a / 2 ^ k * 3 ^ odds k i = X at h0 h1
  generalize orbit k i = N at hb
  clear hp hp0 hR hi hk
  obtain rfl | rfl | rfl : k = 2 ∨ k = 3 ∨ k = 4 := by omega
  all_goals (simp only [Int.reducePow] at h1; omega)
theorem three_bd {k i : Nat} (hk : Hid (2 ≤ k ∧ k ≤ 4)) : 1 ≤ (3 : Int) ^ ((odds k i : Int)).toNat ∧ (3 : Int) ^ ((odds k i : Int)).toNat ≤ 81 := by
  have h : 2 ≤ k ∧ k ≤ 4 := hk
  have ho := odds_le k i
  rw [Int.toNat_natCast]
  have : odds k i = 0 ∨ odds k i = 1 ∨ odds k i = 2 ∨ odds k i = 3 ∨ odds k i = 4 := by omega
  rcases this with e | e | e | e | e <;> rw [e] <;> decide
theorem end_div' {k i : Nat} {R : Int} (hk : Hid (2 ≤ k ∧ k ≤ 4)) (hi : i < 2 ^ k) : wholeN k R i k / 3 ^ ((odds k i : Int)).toNat = R ∧ wholeN k R i k % 3 ^ ((odds k i : Int)).toNat = (orbit k i : Int) := by
  rw [Int.toNat_natCast]
  exact end_div hk hi
theorem row_dig {k i : Nat} : ∀ d ∈ rowL k i, 0 ≤ d ∧ d < 2 ^ (1 : Int).toNat := by
  intro d hd
  unfold rowL at hd
  obtain ⟨j, _, rfl⟩ := List.mem_map.mp hd
  have := Nat.mod_lt (orbit j i) (show 0 < 2 by decide)
  have e : (2 : Int) ^ (1 : Int).toNat = 2 := by decide
  rw [e]; omega
theorem row_len9 (k i : Nat) : (rowL k i).length = k := by simp [rowL]
end
/- part M5 -/
section
open PySem PySem.W PyProof.Rows PySem.Calls PySem.Spec
set_option maxRecDepth 100000
set_option maxHeartbeats 8000000

theorem bits_small8 {a : Int} (h : a.natAbs < 18446744073709551616) : Builtin.Int.intBits a ≤ 64 := intBits_le_iff.mpr (by omega)
theorem rounds_bd {a : Int} {k : Nat} (ha : 0 ≤ a ∧ a < 1000000000) (hk : Hid (2 ≤ k ∧ k ≤ 4)) : (a / 2 ^ k).natAbs < 2 ^ 64 := by
  have h : 2 ≤ k ∧ k ≤ 4 := hk
  obtain rfl | rfl | rfl : k = 2 ∨ k = 3 ∨ k = 4 := by omega
  all_goals (simp only [Int.reducePow]; omega)
theorem pow3_bits {T : Int} (h : 0 ≤ T ∧ T ≤ 5) : Builtin.Int.intBits (3 ^ T.toNat) ≤ 64 := by
  refine bits_small8 ?_
  have : T = 0 ∨ T = 1 ∨ T = 2 ∨ T = 3 ∨ T = 4 ∨ T = 5 := by omega
  rcases this with e | e | e | e | e | e <;> rw [e] <;> decide
section
variable {prog : Program} {w : World} {A : Around} {E : Value → Shared → Prop} {s : Shared} {Q : Value → Shared → Prop} {t u : Tok} {a : Int}
theorem fdiv2 (h : Q (.int (a.fdiv 2) s.toks) { s with toks := s.toks + 1 }) : wpAny (model prog w) A (binaryOp .FloorDiv (.int a t) (.int 2 u)) Q E s := floordiv_int (by decide) h (Or.inl (PyProof.noPylong_small (by decide)))
theorem mod2 (h : Q (.int (a.fmod 2) s.toks) { s with toks := s.toks + 1 }) : wpAny (model prog w) A (binaryOp .Mod (.int a t) (.int 2 u)) Q E s := mod_int (by decide) h
theorem shl_k {k : Nat} (ha : a.natAbs < 2 ^ 64) (hk : Hid (2 ≤ k ∧ k ≤ 4)) (h : Q (.int (a * 2 ^ (k : Int).toNat) s.toks) { s with toks := s.toks + 1 }) : wpAny (model prog w) A (binaryOp .LShift (.int a t) (.int (k : Int) u)) Q E s :=
  lshift_int_small (by omega) (by have : 2 ≤ k ∧ k ≤ 4 := hk; omega) ha h
theorem mul3 {T : Int} (hT : 0 ≤ T ∧ T ≤ 5) (h : Q (.int (a * 3 ^ T.toNat) s.toks) { s with toks := s.toks + 1 }) : wpAny (model prog w) A (binaryOp .Mult (.int a t) (.int (3 ^ T.toNat) u)) Q E s := mul_int h (.of_right (pow3_bits hT))
theorem mulR {r : Int} (hr : r.natAbs < 2 ^ 64) (h : Q (.int (a * r) s.toks) { s with toks := s.toks + 1 }) : wpAny (model prog w) A (binaryOp .Mult (.int a t) (.int r u)) Q E s := mul_int h (.of_right (bits_small8 (by simpa using hr)))
end
theorem range_k (k : Nat) : Builtin.Range.rangeSize 0 (k : Int) 1 = ((k : Nat) : Int) := by
  refine (rangeSize_nat 0 _).trans ?_
  rw [Int.sub_zero, Int.toNat_natCast]
theorem unhid {p : Prop} (h : Hid p) : p := h
theorem t5 {o : Nat} (h : o ≤ 4) : 0 ≤ (o : Int) ∧ (o : Int) ≤ 5 := by omega
theorem t5' {o : Nat} (h : o ≤ 4) : 0 ≤ (o : Int) + 1 ∧ (o : Int) + 1 ≤ 5 := by omega
theorem allLt_ne {d : Addr} {l : List (Addr × Obj)} (h : AllLt d l) : ∀ p ∈ l, p.1 ≠ d := by
  induction l with
  | nil => intro p hp; cases hp
  | cons q r ih =>
    intro p hp
    obtain ⟨h1, h2⟩ := h
    rcases List.mem_cons.mp hp with e | hp
    · rw [e]; exact Nat.ne_of_lt h1
    · exact ih h2 p hp
end
/- part M6 -/
section
open PySem PySem.W PyProof.Rows PySem.Calls PySem.Spec
set_option maxRecDepth 100000
set_option maxHeartbeats 8000000

def Off4 (c1 c2 : Nat) (b : Nat) : Prop := (@Ne Nat b 62 ∧ @Ne Nat b c1) ∧ (@Ne Nat b 69 ∧ @Ne Nat b c2)
theorem dm2_use {w : World} {d u : Nat} {vs : List Value} {c1 c2 : Addr} {o1 o2 : Obj} {Pre : Heap → Prop} {Post : List (Addr × Obj) → Value → Prop} (C : CtrF w 81 d u vs [(62, tI c1), (c1, o1), (69, tD c2), (c2, o2)] Pre Post)
    {p : Program} {loose : List Str} {mean : ExcName → Option Value} {mg mb : Str → Option Value} {dp un : Nat} {gd : Option (List Code)} {cn : Str} {cs : Scope} {a : Addr} {ccd : Value} {cl : List (Str × Addr)} {outer : List Env} {A₀ : Around} {base h₀ : Heap} {L : Addr} {m : Str → Option Value} {s : Shared}
    {Q E : Value → Shared → Prop} {x1 x2 x3 x4 pZ pW pR pP pA pB : Addr × Obj} {own : List (Addr × Obj)} (B : Below A₀ base outer h₀) (F : Fr h₀ L s.heap m) (X : (Mine.pre.heap_1 w.params).In h₀) (N : News h₀ L s.heap (x1 :: x2 :: x3 :: x4 :: pZ :: pW :: pR :: pP :: (c1, o1) :: (62, tI c1) :: (c2, o2) :: (69, tD c2) :: pA :: pB :: own)) (T : Top p loose mean mg mb h₀) (hk : cs.kind = .function)
    (hne : Off4 c1 c2 pZ.1 ∧ Off4 c1 c2 pW.1 ∧ Off4 c1 c2 pR.1 ∧ Off4 c1 c2 pP.1 ∧ Off4 c1 c2 pA.1 ∧ Off4 c1 c2 pB.1) (ho : ∀ q ∈ own, Off4 c1 c2 q.1) (hp : Pre s.heap) (hd' : dp + d < recursionLimit) (hu : un + u < cLine)
    (ret : ∀ r led' h' tk', Fr h₀ L h' m → News h₀ L h' (led' ++ (pZ :: pW :: pR :: pP :: pA :: pB :: own)) → (∀ p ∈ led', ∀ q ∈ pZ :: pW :: pR :: pP :: pA :: pB :: own, p.1 ≠ q.1) → Post led' r → Q r { s with heap := h', toks := tk' }) :
    wpAny (model PySem.Challenge.rw_xj0024_01.row.prog w) (ktrTop dp un gd cn cs L a ccd cl outer) (call (.ref 81) vs) Q E s := by
  have all : ∀ q ∈ pZ :: pW :: pR :: pP :: pA :: pB :: own, Off4 c1 c2 q.1 := by
    intro q hq
    simp only [List.mem_cons] at hq
    obtain ⟨h1, h2, h3, h4, h5, h6⟩ := hne
    rcases hq with rfl | rfl | rfl | rfl | rfl | rfl | hq
    · exact h1
    · exact h2
    · exact h3
    · exact h4
    · exact h5
    · exact h6
    · exact ho q hq
  refine ctr_useL C (pZ :: pW :: pR :: pP :: pA :: pB :: own) B F X N T hk ?_ ?_ ?_ hp hd' hu ret
  · intro q hq
    simp only [List.mem_cons, List.not_mem_nil, or_false] at hq ⊢
    rcases hq with rfl | rfl | rfl | rfl <;> simp
  · intro q hq
    simp only [List.mem_cons] at hq ⊢
    rcases hq with h | h | h | h | h | h | h <;> simp [h]
  · intro q hq r hr
    obtain ⟨⟨a1, a2⟩, a3, a4⟩ := all q hq
    simp only [List.mem_cons, List.not_mem_nil, or_false] at hr
    rcases hr with rfl | rfl | rfl | rfl
    · exact a1
    · exact a2
    · exact a3
    · exact a4
theorem off_own {own : List (Addr × Obj)} {adr : List Addr} {c1 c2 : Addr} (h : OwnOff own adr) (h1 : 62 ∈ adr) (h2 : c1 ∈ adr) (h3 : 69 ∈ adr) (h4 : c2 ∈ adr) : ∀ q ∈ own, Off4 c1 c2 q.1 := fun q hq =>
  ⟨⟨OwnOff.ne h h1 q hq, OwnOff.ne h h2 q hq⟩, OwnOff.ne h h3 q hq, OwnOff.ne h h4 q hq⟩
theorem mem_mid {p : Addr × Obj} {a b : List (Addr × Obj)} (l : List (Addr × Obj)) (h : p ∈ l ++ a) : p ∈ l ++ (a ++ b) := by
  rcases List.mem_append.mp h with h | h
  · exact List.mem_append_left _ h
  · exact List.mem_append_right _ (List.mem_append_left _ h)
theorem mem_end {p : Addr × Obj} {a b : List (Addr × Obj)} (l : List (Addr × Obj)) (h : p ∈ b) : p ∈ l ++ (a ++ b) := List.mem_append_right _ (List.mem_append_right _ h)
end
/- part M7 -/
section
open PySem PySem.W PyProof.Rows PySem.Calls PySem.Spec
set_option maxRecDepth 100000
set_option maxHeartbeats 8000000

/-- the end of an inner turn -/
theorem in_end {h₀ h' : Heap} {L aZ aW : Addr} {x : Str} {k i j : Nat} {R : Int} {r r' own : List (Addr × Obj)} {adr : List Addr} {m₀ m' : Str → Option Value} {s₁ : Shared} {tk : Nat} {vz vr : List Value} {kz kr : Nat} {W9 T9 : Int} {tW tT : Tok}
    (F : Fr h₀ L h' m') (N : News h₀ L h' ((aZ, W.listOf (List.toArray vz) kz) :: (aW, W.listOf (List.toArray vr) kr) :: r')) (hr : ∀ p ∈ r, p ∈ r') (ho : ∀ p ∈ own, p ∈ r') (ha : aZ :: aW :: r.map (·.1) = adr)
    (hW : m' (Str.ofString "whole") = some (.int W9 tW)) (hT : m' (Str.ofString "threes") = some (.int T9 tT))
    (hs : ∀ z, z ≠ x → (∀ p ∈ [(Str.ofString "whole", Value.int W9 tW), (Str.ofString "threes", Value.int T9 tT)], z ≠ p.1) → ([] : List Str).contains z = false → m' z = m₀ z)
    (hp : IInv k R i (j + 1) ⟨W9, tW, T9, tT, vr, kr, vz, kz⟩) :
    InvEndN h₀ L (KsN (fun d : IS => (aZ, W.listOf (List.toArray d.vz) d.kz) :: (aW, W.listOf (List.toArray d.vr) d.kr) :: r) (fun d : IS => [(Str.ofString "whole", .int d.W d.tW), (Str.ofString "threes", .int d.T d.tT)]) x [] m₀ (fun j d => IInv k R i j d) (j + 1)) own adr s₁ { s₁ with heap := h', toks := tk } := by
  refine loopN_end ⟨W9, tW, T9, tT, vr, kr, vz, kz⟩ F N ?_ (fun p hp => .tail _ (.tail _ (ho p hp))) ha ?_ hs hp
  · intro p hp
    rcases List.mem_cons.mp hp with rfl | hp
    · exact .head _
    · rcases List.mem_cons.mp hp with rfl | hp
      · exact .tail _ (.head _)
      · exact .tail _ (.tail _ (hr p hp))
  · intro p hp
    rcases List.mem_cons.mp hp with rfl | hp
    · exact hW
    · rcases List.mem_cons.mp hp with rfl | hp
      · exact hT
      · cases hp
section
variable {prog : Program} {w : World} {A : Around} {h₀ : Heap} {L : Addr} {m : Str → Option Value} {env : Env} {elt : Expr} {x : Str} {scope : Scope} {cl : List (Str × Addr)} {s : Shared} {S : List (Addr × Obj) → Prop} {Fin : List Value → List (Addr × Obj) → Prop} {news : List (Addr × Obj)}
def IEl (news : List (Addr × Obj)) (r : Int) (y : Value) (news' : List (Addr × Obj)) : Prop := news' = news ∧ ∃ t : Tok, y = .int r t
def natsI (n : Nat) : List Int := (List.range n).map fun j : Nat => (j : Int)
theorem natsI_succ (n : Nat) : natsI (n + 1) = natsI n ++ [(n : Int)] := by simp [natsI, List.range_succ]
theorem rest_range {n : Nat}
    (turn : ∀ (k : Nat) t I oI C oC D m₂ ys h tk (E' : Value → Shared → Prop), k < n → LCg.NsObj oC m₂ → m₂ x = some (.int (k : Int) t) → Fr h₀ L h m → News h₀ L h ((I, oI) :: (C, oC) :: (D, LCg.lst ys) :: news) → LCg.Off3 I C D news → ((@Ne Nat I C) ∧ (@Ne Nat I D) ∧ (@Ne Nat C D)) →
      wpAny (model prog w) A (eval elt (compEnvC scope cl C env)) (LCg.CompEnd h₀ L m { s with heap := h, toks := tk } I oI C oC D (LCg.lst ys) S (fun y news' => IEl news (k : Int) y news')) E' { s with heap := h, toks := tk })
    (fin : ∀ ys, IntsAre ys (natsI n) → Fin ys news) : LCg.CompRest prog w A h₀ L m env elt x scope cl s S (fun i v => ∃ t, v = .int (0 + (i : Int)) t) Fin n 0 [] news := by
  have key : ∀ (j i : Nat) (ys : List Value), i + j = n → IntsAre ys (natsI i) → LCg.CompRest prog w A h₀ L m env elt x scope cl s S (fun i v => ∃ t, v = .int (0 + (i : Int)) t) Fin j i ys news := by
    intro j
    induction j with
    | zero =>
      intro i ys hi hy
      have e : i = n := by omega
      subst e
      exact LCg.CompRest.zero (fin ys hy)
    | succ j ih =>
      intro i ys hi hy
      refine LCg.CompRest.succ ?_
      intro v I oI C oC D m₂ h tk E' hv hC hx F N off ne
      obtain ⟨t, rfl⟩ := hv
      rw [Int.zero_add] at hx
      refine wpAny_mono (turn i t I oI C oC D m₂ ys h tk E' (by omega) hC hx F N off ne) (fun y s₂ hq => ?_) fun _ _ e => e
      obtain ⟨h', tk', nw, e, F', N', off', hS, hn, t', hy'⟩ := hq
      rw [hn] at N' off' hS
      refine ⟨h', tk', news, e, F', N', off', hS, ?_⟩
      rw [hy']
      refine ih (i + 1) _ (by omega) ?_
      rw [natsI_succ]
      exact IntsAre.append hy (.cons _ _ .nil)
  exact key n 0 [] (by omega) .nil
end
theorem natsI_keys (n : Nat) : rangeKs 0 n = natsI n := by
  unfold natsI rangeKs
  apply List.map_congr_left
  intro j _
  omega
theorem pow_nat (k : Nat) : ((2 ^ k : Nat) : Int) = (2 : Int) ^ k := by rw [Int.natCast_pow]; rfl
section
variable {prog : Program} {w : World} {A : Around} {E : Value → Shared → Prop} {s : Shared} {h₀ : Heap} {L : Addr} {news : List (Addr × Obj)} {m : Str → Option Value}
theorem shaped_ints (ns : List Int) : SeqAt.shaped (.list (ns.map .int)) = true := by
  simp [SeqAt.shaped, PyData.canLay0, PyData.canLayAll0, PyData.depth, PyData.depthAll, ke_canLayAll0, ke_depthAll]
theorem eqv_ints (ns : List Int) : PyData.eqv (.list (ns.map .int)) (.list (ns.map .int)) = true := by
  simp [PyData.eqv, PyData.eqvAll, ked_eqvAll]
theorem ints_same {D T : Addr} {vs us : List Value} {ns : List Int} {kd kt : Nat} {Q : Value → Shared → Prop} (N : News h₀ L s.heap news) (hD : (D, W.listOf (List.toArray vs) kd) ∈ news) (hT : (T, W.listOf (List.toArray us) kt) ∈ news)
    (h1 : IntsAre vs ns) (h2 : IntsAre us ns) (hu : A.units + 64 < cLine) (k : Q (.bool false) s) : wpAny (model prog w) A (compareOp .NotEq (.ref D) (.ref T)) Q E s :=
  ne_dataH (reads_newData (News.isList N hD) (ke_carried h1)) (reads_newData (News.isList N hT) (ke_carried h2)) (shaped_ints _) (shaped_ints _) hu (by rw [eqv_ints]; exact k)
theorem list_range_2k {r : Addr} {k : Nat} {t u v : Tok} {Q : Value → Shared → Prop} (hh : A.handled = none) (F : Fr h₀ L s.heap m) (N : News h₀ L s.heap news) (hr : IsRange s.heap r 0 (2 ^ k) 1 t u v) (hk : Hid (2 ≤ k ∧ k ≤ 4))
    (h : ∀ D us c h' tk, Fr h₀ L h' m → News h₀ L h' ((D, listOf (List.toArray us) c) :: news) → (∀ p ∈ news, p.1 < D) → IntsAre us (natsI (2 ^ k)) → Q (.ref D) { s with heap := h', toks := tk }) :
    wpAny (model prog w) A (call (.type "list") [.ref r]) Q E s := by
  have hb := pow2_bd hk
  have h4 : (2 : Nat) ^ k ≤ 2 ^ 24 := Nat.pow_le_pow_right (by decide) (Nat.le_trans (unhid hk).2 (by decide))
  refine kll_range hh F N hr (small_one (by omega) (by omega) (by omega) (by omega)) (range_pow k) h4 ?_
  intro D us c h' tk F' N' hl hi
  rw [natsI_keys] at hi
  exact h D us c h' tk F' N' hl hi
theorem row_item {value slice : Expr} {l : Addr} {vr : List Value} {kr k c : Nat} {u : Tok} {Q : Value → Shared → Prop} (N : News h₀ L s.heap news) (hm : (l, W.listOf (List.toArray vr) kr) ∈ news) (hi : IntsAre vr (rowsL k (2 ^ k))) (hk : Hid (2 ≤ k ∧ k ≤ 4)) (hc : c < 2 ^ k) (h : ∀ t, Q (.int (c : Int) t) s)
    (hs : subscripted slice false (.ref l) (.int (lawRest (c : Int) (k : Int)) u) = operate [.ref l, .int (lawRest (c : Int) (k : Int)) u] (getItem (.ref l) (.int (lawRest (c : Int) (k : Int)) u)) := by with_unfolding_all rfl) (hg : ∀ r, letTemporaryGo value (.ref l) r = pure () := by intro _; with_unfolding_all rfl) :
    wpAny (model prog w) A (subscriptTail value slice (.ref l) (.int (lawRest (c : Int) (k : Int)) u)) Q E s := by
  obtain ⟨⟨h1, h2⟩, h3⟩ := rest_row k (unhid hk).2 (unhid hk).1 c hc
  have hb := pow2_bd hk
  refine item_list_ints (News.isList N hm) hi h1 ?_ (by omega) (fun t => ?_) hs hg
  · have : (rowsL k (2 ^ k)).length = 2 ^ k := by simp [rowsL]
    rw [this, pow_nat]; exact h2
  · rw [h3]; exact h t
end
theorem two16 {c k : Nat} (hk : Hid (2 ≤ k ∧ k ≤ 4)) (hc : c < 2 ^ k) : 0 ≤ (c : Int) ∧ (c : Int) < 16 := by
  have := hi16 hc hk
  omega
theorem turns24 {k : Nat} (hk : Hid (2 ≤ k ∧ k ≤ 4)) : 2 ≤ (k : Int) ∧ (k : Int) ≤ 4 := by
  have := unhid hk
  omega
/-- the name -/
def nameL (h : Int) (sg : Nat) : List Nat := [32, 34] ++ pageN h sg 0 ++ [92, 34, 39, 32]
theorem name_is (h : Int) (sg : Nat) : Str.ofString " \"" ++ tx (pageN h sg 0) ++ Str.ofString "\\\"' " = tx (nameL h sg) := by
  rw [show Str.ofString " \"" = tx [32, 34] by decide +kernel, show Str.ofString "\\\"' " = tx [92, 34, 39, 32] by decide +kernel, tx_app, tx_app]; rfl
theorem name_rep (l : List Nat) : Txt.replace (tx l) (Str.ofString "\"") (Str.ofString "\"\"") = tx (rep 34 [34, 34] l) := by
  rw [mark_qs, two_marks]; exact replace_tx l 34 [34, 34]
theorem rep_len (l : List Nat) : (rep 34 [34, 34] l).length ≤ 2 * l.length := by
  induction l with
  | nil => simp [rep]
  | cons c r ih =>
    have : rep 34 [34, 34] (c :: r) = (if c = 34 then [34, 34] else [c]) ++ rep 34 [34, 34] r := rfl
    rw [this, List.length_append, List.length_cons]
    split
    · simp; omega
    · simp; omega
theorem told_rep : ∀ l r : List Nat, told (rep 34 [34, 34] l ++ r) = l ++ told r
  | [], r => rfl
  | c :: l, r => by
    have : rep 34 [34, 34] (c :: l) = (if c = 34 then [34, 34] else [c]) ++ rep 34 [34, 34] l := rfl
    rw [this]
    by_cases h : c = 34
    · subst h
      rw [if_pos rfl]
      show told (34 :: 34 :: (rep 34 [34, 34] l ++ r)) = _
      rw [told_two, told_rep l r]; rfl
    · rw [if_neg h]
      show told (c :: (rep 34 [34, 34] l ++ r)) = _
      rw [told_cons _ _ h, told_rep l r]; rfl
def markT : List Nat := [34, 32, 34]
theorem arg_of (l : List Nat) : Str.ofString "257 \"" ++ tx l ++ Str.ofString "\" \"" = tx (head257 ++ (l ++ markT)) := by
  rw [show Str.ofString "257 \"" = tx head257 by decide +kernel, show Str.ofString "\" \"" = tx markT by decide +kernel, tx_app, tx_app, List.append_assoc]
theorem told_markT : told markT = [] := rfl
theorem ctr_p_name (w : World) (h : Int) (sg : Nat) (tk : Tok) : CtrF w 46 1 8 [.str (Str.ofString "257 \"" ++ tx (rep 34 [34, 34] (nameL h sg)) ++ Str.ofString "\" \"") tk] [] (fun _ => True) (fun _ r => ∃ t, r = .str (tx (nameL h sg)) t) := by
  have h1 := rep_len (nameL h sg)
  have h2 := page_len4 h sg 0 (by decide)
  have h3 : (nameL h sg).length = (pageN h sg 0).length + 6 := by simp [nameL]
  have e : told (rep 34 [34, 34] (nameL h sg) ++ markT) = nameL h sg := by rw [told_rep, told_markT, List.append_nil]
  rw [arg_of]
  have C := ctr_parse257 w (rep 34 [34, 34] (nameL h sg) ++ markT) _ tk rfl (by simp only [List.length_append, List.length_cons, List.length_nil, head257, markT]; omega)
  rw [e] at C
  exact C
/-- the text behind the end -/
def restL : List Nat := [38, 60, 39, 62, 9, 13, 10, 38, 60, 39, 62, 9, 13, 10]
theorem rest_is : Txt.mul (Str.ofString "&<'>\t\r\n") 2 = tx restL := by decide +kernel
theorem texts_is (l : List Nat) : tx l ++ Txt.mul (Str.ofString "&<'>\t\r\n") 2 = tx (l ++ restL) := by rw [rest_is, tx_app]
theorem ctr_p_text (w : World) (h : Int) (l : List Nat) (hl : l.length ≤ 10000) (tk : Tok) : CtrF w 46 1 8 [.str (Str.ofString "257 \"" ++ tx (escL (tabs h) l) ++ Str.ofString "\" \"") tk] [] (fun _ => True) (fun _ r => ∃ t, r = .str (tx (escL (tabs h) l)) t) := by
  have h1 := escL_len (tabs_small h) l
  have e : told (escL (tabs h) l ++ markT) = escL (tabs h) l := by rw [told_clean _ _ (esc_clean h l), told_markT, List.append_nil]
  rw [arg_of]
  have C := ctr_parse257 w (escL (tabs h) l ++ markT) _ tk rfl (by simp only [List.length_append, List.length_cons, List.length_nil, head257, markT]; omega)
  rw [e] at C
  exact C
/-- the last run and page -/
def lastL (h : Int) (sg k z : Nat) : List Nat := qs (orbit k z) ++ pageN h sg (odds k z)
theorem end_last {h : Int} {sg k z : Nat} (hz : z < 2 ^ k) : endL h sg k z (2 ^ k) = lastL h sg k z := by unfold endL; rw [if_pos hz]; rfl
theorem last_len {h : Int} {sg k z : Nat} (hk : Hid (2 ≤ k ∧ k ≤ 4)) (hz : z < 2 ^ k) : (lastL h sg k z).length ≤ 7900 := by
  have h1 := orbit_small k (unhid hk).2 z (hi16 hz hk)
  have h2 := page_len4 h sg (odds k z) (Nat.le_trans (odds_le k z) (unhid hk).2)
  unfold lastL
  rw [List.length_append, qs_len]
  omega
theorem sign_page {h : Int} {sg : Nat} (hs0 : SignOf h sg) : ∃ c r, escL (tabs h) [sg] = 38 :: c :: r := by
  have hs : sg ∈ (lawTab h).map (·.1) := hs0
  clear hs0
  rw [← escL_tabs]
  unfold lawTab at hs ⊢
  split at hs
  · rename_i e; subst e
    simp only [List.map_cons, List.map_nil, List.mem_cons, List.not_mem_nil, or_false] at hs
    rcases hs with rfl | rfl | rfl | rfl | rfl | rfl | rfl <;> exact ⟨_, _, rfl⟩
  · rename_i e0
    split at hs
    · rename_i e; subst e
      simp only [List.map_cons, List.map_nil, List.mem_cons, List.not_mem_nil, or_false] at hs
      rcases hs with rfl | rfl | rfl <;> exact ⟨_, _, rfl⟩
    · rename_i e1
      simp only [List.map_cons, List.map_nil, List.mem_cons, List.not_mem_nil, or_false] at hs
      rw [if_neg e0, if_neg e1]
      rcases hs with rfl | rfl | rfl | rfl | rfl | rfl <;> exact ⟨_, _, rfl⟩
theorem esc_amp (h : Int) (l : List Nat) : ∃ c r, escL (tabs h) (38 :: l) = 38 :: c :: r := by
  have : escT (tabs h) 38 = [38, 97, 109, 112, 59] := by
    unfold tabs; split
    · rfl
    · split <;> rfl
  exact ⟨97, _, by rw [escL, List.flatMap_cons, this]; rfl⟩
theorem page_head {h : Int} {sg : Nat} (hs : SignOf h sg) : ∀ j, ∃ c r, pageN h sg j = 38 :: c :: r
  | 0 => sign_page hs
  | j + 1 => by
    obtain ⟨c, r, e⟩ := page_head hs j
    show ∃ c r, escL (tabs h) (pageN h sg j) = _
    rw [e]; exact esc_amp h _
theorem last_two {h : Int} {sg k z : Nat} (hs : SignOf h sg) : 2 ≤ (lastL h sg k z).length := by
  obtain ⟨c, r, e⟩ := page_head hs (odds k z)
  unfold lastL
  rw [e]; simp; omega
theorem last_head {h : Int} {sg k z : Nat} (hs : SignOf h sg) : (lastL h sg k z).head? ≠ some 32 := by
  obtain ⟨c, r, e⟩ := page_head hs (odds k z)
  unfold lastL
  rw [e]
  cases orbit k z with
  | zero => simp [qs]
  | succ n => rw [qs_succ]; simp
theorem text_len {h : Int} {sg k z : Nat} (hk : Hid (2 ≤ k ∧ k ≤ 4)) (hz : z < 2 ^ k) : (lastL h sg k z ++ restL).length ≤ 10000 := by
  have := last_len (h := h) (sg := sg) hk hz
  rw [List.length_append]
  have : restL.length = 14 := rfl
  omega
theorem size_lt {a : Int} {k z : Nat} (hz : a % 2 ^ k = (z : Int)) : z < 2 ^ k := by
  have h := Int.emod_lt_of_pos a (show (0 : Int) < 2 ^ k from Int.pow_pos (by decide))
  rw [hz, ← pow_nat] at h
  omega
theorem ne_self {prog : Program} {w : World} {A : Around} {E : Value → Shared → Prop} {s : Shared} {Q : Value → Shared → Prop} {a b : List Nat} {t u : Tok} (e : a = b) (h : Q (.bool false) s) : wpAny (model prog w) A (compareOp .NotEq (.str (tx a) t) (.str (tx b) u)) Q E s := by
  subst e
  exact P.ne_str (by simp only [bne, BEq.rfl, Bool.not_true]; exact h)
end
/- part M8 -/
section
open PySem PySem.W PyProof.Rows PySem.Calls PySem.Spec
set_option maxRecDepth 100000
set_option maxHeartbeats 8000000

theorem odd_of {k j i : Nat} {R : Int} (hj : j < k) (h : (wholeN k R i j).fmod 2 = 1) : ∃ m, orbit j i = 2 * m + 1 := by
  rcases par (orbit j i) with ⟨m, e⟩ | ⟨m, e⟩
  · have := (whole_even (R := R) hj e).1
    rw [this] at h; cases h
  · exact ⟨m, e⟩
theorem even_of {k j i : Nat} {R : Int} (hj : j < k) (h : (wholeN k R i j).fmod 2 ≠ 1) : ∃ m, orbit j i = 2 * m := by
  rcases par (orbit j i) with ⟨m, e⟩ | ⟨m, e⟩
  · exact ⟨m, e⟩
  · exact absurd (whole_odd (R := R) hj e).1 h
end
/- part M9 -/
section
open PySem PySem.W PyProof.Rows PySem.Calls PySem.Spec
set_option maxRecDepth 100000
set_option maxHeartbeats 8000000

theorem d2_use {w : World} {d u : Nat} {vs : List Value} {c1 c2 : Addr} {o1 o2 : Obj} {Pre : Heap → Prop} {Post : List (Addr × Obj) → Value → Prop} (C : CtrF w 74 d u vs [(69, tD c2), (c2, o2)] Pre Post)
    {p : Program} {loose : List Str} {mean : ExcName → Option Value} {mg mb : Str → Option Value} {dp un : Nat} {gd : Option (List Code)} {cn : Str} {cs : Scope} {a : Addr} {ccd : Value} {cl : List (Str × Addr)} {outer : List Env} {A₀ : Around} {base h₀ : Heap} {L : Addr} {m : Str → Option Value} {s : Shared}
    {Q E : Value → Shared → Prop} {x1 x2 pZ pW pR pP pA pB : Addr × Obj} {own : List (Addr × Obj)} (B : Below A₀ base outer h₀) (F : Fr h₀ L s.heap m) (X : (Mine.pre.heap_1 w.params).In h₀) (N : News h₀ L s.heap (x1 :: x2 :: (62, tI c1) :: (c1, o1) :: (69, tD c2) :: (c2, o2) :: pZ :: pW :: pR :: pP :: pA :: pB :: own)) (T : Top p loose mean mg mb h₀) (hk : cs.kind = .function)
    (hd3 : c2 ≠ 62) (hc69 : c1 ≠ 69) (hd5 : c2 ≠ c1) (hne : Off4 c1 c2 pZ.1 ∧ Off4 c1 c2 pW.1 ∧ Off4 c1 c2 pR.1 ∧ Off4 c1 c2 pP.1 ∧ Off4 c1 c2 pA.1 ∧ Off4 c1 c2 pB.1) (ho : ∀ q ∈ own, Off4 c1 c2 q.1) (hp : Pre s.heap) (hd' : dp + d < recursionLimit) (hu : un + u < cLine)
    (ret : ∀ r led' h' tk', Fr h₀ L h' m → News h₀ L h' (led' ++ ((62, tI c1) :: (c1, o1) :: pZ :: pW :: pR :: pP :: pA :: pB :: own)) → Post led' r → Q r { s with heap := h', toks := tk' }) :
    wpAny (model PySem.Challenge.rw_xj0024_01.row.prog w) (ktrTop dp un gd cn cs L a ccd cl outer) (call (.ref 74) vs) Q E s := by
  have all : ∀ q ∈ pZ :: pW :: pR :: pP :: pA :: pB :: own, Off4 c1 c2 q.1 := by
    intro q hq
    simp only [List.mem_cons] at hq
    obtain ⟨h1, h2, h3, h4, h5, h6⟩ := hne
    rcases hq with rfl | rfl | rfl | rfl | rfl | rfl | hq
    · exact h1
    · exact h2
    · exact h3
    · exact h4
    · exact h5
    · exact h6
    · exact ho q hq
  refine ctr_useL C ((62, tI c1) :: (c1, o1) :: pZ :: pW :: pR :: pP :: pA :: pB :: own) B F X N T hk ?_ ?_ ?_ hp hd' hu (fun r led' h' tk' F' N' _ hP => ret r led' h' tk' F' N' hP)
  · intro q hq
    simp only [List.mem_cons, List.not_mem_nil, or_false] at hq ⊢
    rcases hq with rfl | rfl <;> simp
  · intro q hq
    simp only [List.mem_cons] at hq ⊢
    rcases hq with h | h | h | h | h | h | h | h | h <;> simp [h]
  · intro q hq r hr
    simp only [List.mem_cons, List.not_mem_nil, or_false] at hr
    rcases List.mem_cons.mp hq with rfl | hq
    · rcases hr with rfl | rfl
      · show (62 : Nat) ≠ 69; decide
      · exact Ne.symm hd3
    · rcases List.mem_cons.mp hq with rfl | hq
      · rcases hr with rfl | rfl
        · exact hc69
        · exact Ne.symm hd5
      · obtain ⟨⟨a1, a2⟩, a3, a4⟩ := all q hq
        rcases hr with rfl | rfl
        · exact a3
        · exact a4
theorem oinv_rows {k i : Nat} {vr : List Value} (h : IntsAre vr (rowsL k i)) (t : Tok) : IntsAre (vr ++ [.int (undigs (1 : Int).toNat (rowL k i)) t]) (rowsL k (i + 1)) := by
  rw [rowsL_succ]
  exact IntsAre.append h (.cons _ t .nil)
theorem oinv_miss {h : Int} {sg k z i : Nat} {e : Str} {te : Tok} {vr : List Value} {kr : Nat} {a : Int} (hP : OInv h sg k z i ⟨e, te, vr, kr⟩) (hzN : a % 2 ^ k = (z : Int)) (hz : (i : Int) ≠ a % 2 ^ k) (t : Tok) (kr' : Nat) :
    OInv h sg k z (i + 1) ⟨e, te, vr ++ [.int (undigs (1 : Int).toNat (rowL k i)) t], kr'⟩ := by
  refine ⟨oinv_rows hP.rows t, ?_⟩
  rw [endL_miss h sg k z i (by rw [hzN] at hz; omega)]
  exact hP.text
theorem oinv_hit {h : Int} {sg k z i : Nat} {e : Str} {te : Tok} {vr : List Value} {kr : Nat} {a : Int} (hP : OInv h sg k z i ⟨e, te, vr, kr⟩) (hzN : a % 2 ^ k = (z : Int)) (hz : (i : Int) = a % 2 ^ k) (t te' : Tok) (kr' : Nat) :
    OInv h sg k z (i + 1) ⟨Txt.mul (Str.ofString "\"") (orbit k i : Int) ++ tx (pageN h sg (odds k i)), te', vr ++ [.int (undigs (1 : Int).toNat (rowL k i)) t], kr'⟩ := by
  refine ⟨oinv_rows hP.rows t, ?_⟩
  rw [endL_hit h sg k z i (by rw [hzN] at hz; omega)]
  show Txt.mul (Str.ofString "\"") (orbit k i : Int) ++ tx (pageN h sg (odds k i)) = _
  rw [mul_mark, Int.toNat_natCast, tx_app]
/-- the end of an outer turn -/
theorem out_end {h₀ h' : Heap} {L aR : Addr} {x : Str} {h : Int} {sg k z i : Nat} {c1 c2 : Addr} {o1 o2 : Obj} {pZ pW pP pA pB : Addr × Obj} {own : List (Addr × Obj)} {adr : List Addr} {m₀ m' : Str → Option Value} {s₁ : Shared} {tk : Nat} {vr : List Value} {kr : Nat} {e : Str} {te : Tok} {stored : List Str}
    (F : Fr h₀ L h' m') (N : News h₀ L h' ((69, tD c2) :: (c2, o2) :: (62, tI c1) :: (c1, o1) :: pZ :: pW :: (aR, W.listOf (List.toArray vr) kr) :: pP :: pA :: pB :: own))
    (ha : [aR, pP.1, c1, 62, c2, 69, pA.1, pB.1] = adr) (hE : m' (Str.ofString "end") = some (.str e te))
    (hs : ∀ z, z ≠ x → (∀ p ∈ [(Str.ofString "end", Value.str e te)], z ≠ p.1) → stored.contains z = false → m' z = m₀ z)
    (hp : OInv h sg k z (i + 1) ⟨e, te, vr, kr⟩) :
    InvEndN h₀ L (KsN (fun c : OS => (aR, W.listOf (List.toArray c.vr) c.kr) :: pP :: (c1, o1) :: (62, tI c1) :: (c2, o2) :: (69, tD c2) :: pA :: [pB]) (fun c : OS => [(Str.ofString "end", .str c.e c.te)]) x stored m₀ (fun i c => OInv h sg k z i c) (i + 1)) own adr s₁ { s₁ with heap := h', toks := tk } := by
  refine loopN_end ⟨e, te, vr, kr⟩ F N ?_ (fun p hp => ?_) ha ?_ hs hp
  · intro p hp
    simp only [List.mem_cons, List.not_mem_nil, or_false] at hp ⊢
    rcases hp with h | h | h | h | h | h | h | h <;> simp [h]
  · exact .tail _ (.tail _ (.tail _ (.tail _ (.tail _ (.tail _ (.tail _ (.tail _ (.tail _ (.tail _ hp)))))))))
  · intro p hp
    rw [List.mem_singleton.mp hp]
    exact hE
theorem off4_of {c1 c2 b : Nat} (h1 : @Ne Nat b 62) (h2 : @Ne Nat b c1) (h3 : @Ne Nat b 69) (h4 : @Ne Nat b c2) : Off4 c1 c2 b := ⟨⟨h1, h2⟩, h3, h4⟩
theorem row_le {k : Nat} (hk : Hid (2 ≤ k ∧ k ≤ 4)) (i : Nat) : (rowL k i).length ≤ 40 := by
  have := unhid hk
  rw [row_len9]; omega
theorem row_mul {k : Nat} (hk : Hid (2 ≤ k ∧ k ≤ 4)) (i : Nat) : (1 : Int).toNat * (rowL k i).length ≤ 64 := by
  have := unhid hk
  rw [row_len9, show (1 : Int).toNat = 1 from rfl]; omega
theorem not_in2 {a b c : Nat} (h1 : @Ne Nat a b) (h2 : @Ne Nat a c) : a ∉ ([b, c] : List Nat) := by
  intro h
  rcases List.mem_cons.mp h with e | h
  · exact h1 e
  · exact h2 (List.mem_singleton.mp h)
end
/- part M10 -/
section
open PySem PySem.W PyProof.Rows PySem.Calls PySem.Spec
set_option maxRecDepth 100000
set_option maxHeartbeats 8000000

theorem len_a : (Str.ofString " \"").length = 2 := by decide +kernel
theorem len_b : (Str.ofString "\\\"' ").length = 4 := by decide +kernel
theorem len_c : (Str.ofString "257 \"").length = 5 := by decide +kernel
theorem len_d : (Str.ofString "\" \"").length = 3 := by decide +kernel
theorem len_e : (Txt.mul (Str.ofString "&<'>\t\r\n") 2).length = 14 := by rw [rest_is, tx_len]; rfl
theorem len_run (n : Nat) : (Txt.mul (Str.ofString "\"") (n : Int)).length = n := by rw [mul_mark, tx_len, qs_len, Int.toNat_natCast]
theorem name_len (h : Int) (sg : Nat) : (nameL h sg).length ≤ 8000 := by
  have h2 := page_len4 h sg 0 (by decide)
  have h3 : (nameL h sg).length = (pageN h sg 0).length + 6 := by simp [nameL]
  omega
theorem name_sz (h : Int) (sg : Nat) : (Str.ofString " \"" ++ tx (pageN h sg 0) ++ Str.ofString "\\\"' ").length ≤ 8000 := by
  rw [name_is, tx_len]; exact name_len h sg
theorem twice_sz (h : Int) (sg : Nat) : (Txt.replace (Str.ofString " \"" ++ tx (pageN h sg 0) ++ Str.ofString "\\\"' ") (Str.ofString "\"") (Str.ofString "\"\"")).length ≤ 16000 := by
  have h1 := rep_len (nameL h sg)
  have h2 := name_len h sg
  rw [name_is, name_rep, tx_len]; omega
theorem ctr_q_name (w : World) (h : Int) (sg : Nat) (tk : Tok) : CtrF w 46 1 8 [.str (Str.ofString "257 \"" ++ Txt.replace (Str.ofString " \"" ++ tx (pageN h sg 0) ++ Str.ofString "\\\"' ") (Str.ofString "\"") (Str.ofString "\"\"") ++ Str.ofString "\" \"") tk] [] (fun _ => True) (fun _ r => ∃ t, r = .str (tx (nameL h sg)) t) := by
  rw [name_is, name_rep]
  exact ctr_p_name w h sg tk
theorem rest2_is : Str.ofString "&<'>\t\r\n&<'>\t\r\n" = tx restL := by decide +kernel
theorem ctr_w_text (w : World) (h : Int) (th : Tok) (hh : 0 ≤ h ∧ h < 3) (l : List Nat) (tk0 : Tok) (hl : (l ++ restL).length ≤ 10000) : CtrF w 116 2 20 [.int h th, .str (tx l ++ Str.ofString "&<'>\t\r\n&<'>\t\r\n") tk0] [] (fun _ => True) (fun _ r => ∃ t, r = .str (tx (escL (tabs h) (l ++ restL))) t) := by
  rw [rest2_is, tx_app]
  exact ctr_written w h th hh _ tk0 hl
theorem ctr_s_text (w : World) (h : Int) (th : Tok) (hh : 0 ≤ h ∧ h < 3) (l : List Nat) (tk0 : Tok) (hl : (l ++ restL).length ≤ 10000) : CtrF w 128 3 40 [.int h th, .str (tx l ++ Str.ofString "&<'>\t\r\n&<'>\t\r\n") tk0] [] (fun _ => True) (fun _ r => ∃ t, r = .str (tx (escL (lawTab h) (l ++ restL))) t) := by
  rw [rest2_is, tx_app]
  exact ctr_spelled w h th hh _ tk0 hl
theorem esc_sz (h : Int) (l : List Nat) (hl : l.length ≤ 10000) : (tx (escL (tabs h) l)).length ≤ 60000 := by
  have h1 := escL_len (tabs_small h) l
  rw [tx_len]; omega
theorem two_size {k : Nat} (hk : Hid (2 ≤ k ∧ k ≤ 4)) : 2 ^ k ≤ sizeLine := by
  have h4 : (2 : Nat) ^ k ≤ 2 ^ 4 := Nat.pow_le_pow_right (by decide) (unhid hk).2
  rw [sizeLine_eq]; omega
theorem small_2k {k : Nat} (hk : Hid (2 ≤ k ∧ k ≤ 4)) : Builtin.Range.small 0 ((2 : Int) ^ k) 1 = true := by
  have hb := pow2_bd hk
  exact small_one (by omega) (by omega) (by omega) (by omega)
theorem cat_str {prog : Program} {w : World} {A : Around} {E : Value → Shared → Prop} {s : Shared} {x y : Str} {t u : Tok} {Q : Value → Shared → Prop} (hsz : x.length + y.length ≤ 100000) (h : ∀ t' tk, Q (.str (x ++ y) t') { s with toks := tk }) : wpAny (model prog w) A (binaryOp .Add (.str x t) (.str y u)) Q E s :=
  PyProof.Rows.add_str h (by rw [sizeLine_eq]; omega)
theorem esc_both (h : Int) (l : List Nat) : tx (escL (tabs h) l) = tx (escL (lawTab h) l) := by rw [escL_tabs]
end
/- part M11 -/
section
open PySem PySem.W PyProof.Rows PySem.Calls PySem.Spec
set_option maxRecDepth 100000
set_option maxHeartbeats 8000000
theorem quiet_M11 {M : Model} {A : Around} {E : Value → Shared → Prop} {Q : Flow → Shared → Prop} {env : Env} {s : Shared} (h : wpAny M A (execs [] env) Q E s) : wpAny M A (execs [] env) Q E s := by
  w_top off
  k_with_none
  first | (walk1; fail) | exact h
local macro_rules | `(tactic| omega) => `(tactic| walk_at "OM!")
local macro_rules | `(tactic| k_ne) => `(tactic| (refine neN ?_; (try dsimp only); first | (walk_at "CJ!") | exact Nat.ne_of_gt (by walk_at "CJ!") | exact Nat.ne_of_lt (by walk_at "CJ!") | exact Ne.symm (by walk_at "CJ!")))

/-- what holds behind the inner if: the number and the odd turns after this turn -/
def IfPost (g : Heap) (L : Addr) (m : Str → Option Value) (news : List (Addr × Obj)) (W T : Int) (s : Shared) (f : Flow) (s' : Shared) : Prop :=
  f = .next ∧ ∃ h' tk tW tT, s' = { s with heap := h', toks := tk } ∧ Fr g L h' (fun y => if y = Str.ofString "threes" then some (.int T tT) else if y = Str.ofString "whole" then some (.int W tW) else m y) ∧ News g L h' news
theorem if_cut {M : Model} {A : Around} {E : Value → Shared → Prop} {Q : Flow → Shared → Prop} {env : Env} {st : Stmt} {g : Heap} {L : Addr} {m : Str → Option Value} {news : List (Addr × Obj)} {s : Shared} (_ : Fr g L s.heap m) (_ : News g L s.heap news) (W T : Int)
    (h : wpAny M A (exec st env) (IfPost g L m news W T s) E s)
    (k : ∀ h' tk tW tT, Fr g L h' (fun y => if y = Str.ofString "threes" then some (.int T tT) else if y = Str.ofString "whole" then some (.int W tW) else m y) → News g L h' news → Q .next { s with heap := h', toks := tk }) :
    wpAny M A (exec st env) Q E s :=
  wpAny_mono h (by rintro _ _ ⟨rfl, h', tk, tW, tT, rfl, F, N⟩; exact k h' tk tW tT F N) (fun _ _ x => x)
theorem ifPost_odd {g h' : Heap} {L : Addr} {m : Str → Option Value} {news : List (Addr × Obj)} {W T W' T' : Int} {s : Shared} {tk : Nat} {tW tT : Tok} (eW : W' = W) (eT : T' = T)
    (F : Fr g L h' (fun y => if y = Str.ofString "threes" then some (.int T' tT) else if y = Str.ofString "whole" then some (.int W' tW) else m y)) (N : News g L h' news) : IfPost g L m news W T s .next { s with heap := h', toks := tk } := by
  subst eW eT
  exact ⟨rfl, h', tk, tW, tT, rfl, F, N⟩
theorem ifPost_even {g h' : Heap} {L : Addr} {m : Str → Option Value} {news : List (Addr × Obj)} {W T W' T' : Int} {s : Shared} {tk : Nat} {tW tT : Tok} (eW : W' = W) (eT : T' = T) (hT : m (Str.ofString "threes") = some (.int T' tT))
    (F : Fr g L h' (fun y => if y = Str.ofString "whole" then some (.int W' tW) else m y)) (N : News g L h' news) : IfPost g L m news W T s .next { s with heap := h', toks := tk } := by
  subst eW eT
  refine ⟨rfl, h', tk, tW, tT, rfl, ?_, N⟩
  have : (fun y => if y = Str.ofString "threes" then some (.int T' tT) else if y = Str.ofString "whole" then some (.int W' tW) else m y) = (fun y => if y = Str.ofString "whole" then some (.int W' tW) else m y) := by
    funext y
    by_cases hy : y = Str.ofString "threes"
    · rw [if_pos hy, hy, if_neg (by decide +kernel), hT]
    · rw [if_neg hy]
  rw [this]; exact F
theorem odd_next {k i j : Nat} {R : Int} (hj : j < k) (h : (wholeN k R i j).fmod 2 = 1) : wholeN k R i j + (wholeN k R i j + 1).fdiv 2 = wholeN k R i (j + 1) ∧ (odds j i : Int) + 1 = (odds (j + 1) i : Int) := by
  obtain ⟨m, hm⟩ := odd_of hj h
  obtain ⟨_, _, _, ho, _⟩ := pw_odd hj hm
  exact ⟨(whole_odd hj hm).2, by rw [ho]; rfl⟩
theorem even_next {k i j : Nat} {R : Int} (hj : j < k) (h : (wholeN k R i j).fmod 2 ≠ 1) : (wholeN k R i j).fdiv 2 = wholeN k R i (j + 1) ∧ (odds j i : Int) = (odds (j + 1) i : Int) := by
  obtain ⟨m, hm⟩ := even_of hj h
  exact ⟨(whole_even hj hm).2, by rw [(pw_even hj hm).2.1]⟩
theorem row_bit {k i j : Nat} {R : Int} (hj : j < k) : (wholeN k R i j).fmod 2 = ((orbit j i % 2 : Nat) : Int) := by
  rcases par (orbit j i) with ⟨m, e⟩ | ⟨m, e⟩
  · rw [(whole_even hj e).1, e]; omega
  · rw [(whole_odd hj e).1, e]; omega
theorem iinv_next {k i j : Nat} {R : Int} {vr vz : List Value} (hj : j < k) (i3 : IntsAre vr (rowL j i)) (i4 : IntsAre vz (sizL j i)) (t1 t2 t3 t4 : Tok) (k1 k2 : Nat) :
    IInv k R i (j + 1) ⟨wholeN k R i (j + 1), t1, (odds (j + 1) i : Int), t2, vr ++ [.int ((wholeN k R i j).fmod 2) t3], k1, vz ++ [.int (wholeN k R i (j + 1) - 2 ^ (((k : Int) - (j : Int) - 1)).toNat * 3 ^ ((odds (j + 1) i : Int)).toNat * R) t4], k2⟩ := by
  refine ⟨rfl, rfl, ?_, ?_⟩
  · rw [rowL_succ]; exact ints_snoc8 i3 (row_bit hj)
  · rw [sizL_succ]; exact ints_snoc8 i4 (size_val hj rfl)
theorem odds_lt {k i j : Nat} (hj : j < k) (hk : k ≤ 4) : odds (j + 1) i ≤ 4 := Nat.le_trans (odds_le (j + 1) i) (by omega)
end
/- part K6 -/
section
open PySem PySem.W PyProof.Rows PySem.Calls PySem.Spec
set_option maxRecDepth 100000
set_option maxHeartbeats 8000000

/-- what stands after a loop whose body catches: a ground turned in the slots of the frames below -/
def HPost (A₀ : Around) (base : Heap) (outer : List Env) (K : Frag) (p : Program) (loose : List Str) (mean : ExcName → Option Value) (mg mb : Str → Option Value) (g : Heap) (L : Addr) (news : List (Addr × Obj)) (s : Shared) (f : Flow) (s' : Shared) : Prop :=
  f = .next ∧ ∃ g' h' tk m', s' = { s with heap := h', toks := tk } ∧ KtsTurn (outer.filterMap (·.frame)) g g' ∧ Fr g' L h' m' ∧ News g' L h' news ∧ Below A₀ base outer g' ∧ K.In g' ∧ Top p loose mean mg mb g' ∧ KtsDicts (outer.filterMap (·.frame)) g'
theorem HPost.intro {A₀ : Around} {base g g' h' : Heap} {outer : List Env} {K : Frag} {p : Program} {loose : List Str} {mean : ExcName → Option Value} {mg mb m' : Str → Option Value} {L : Addr} {news news' : List (Addr × Obj)} {s : Shared} {tk : Nat}
    (F : Fr g' L h' m') (N : News g' L h' news') (hs : ∀ q ∈ news, q ∈ news') (B : Below A₀ base outer g') (X : K.In g') (P : Top p loose mean mg mb g') (D : KtsDicts (outer.filterMap (·.frame)) g') (T : KtsTurn (outer.filterMap (·.frame)) g g') :
    HPost A₀ base outer K p loose mean mg mb g L news s .next { s with heap := h', toks := tk } := ⟨rfl, g', h', tk, m', rfl, T, F, fun q hq => N q (hs q hq), B, X, P, D⟩
end
/- part K7 -/
section
open PySem PySem.W PyProof.Rows PySem.Calls PySem.Spec
set_option maxRecDepth 100000
set_option maxHeartbeats 8000000
section
variable {prog : Program} {w : World} {A : Around} {E : Value → Shared → Prop} {s : Shared} {env : Env} {v : Str} {body : List Stmt}
  {A₀ : Around} {base g : Heap} {outer : List Env} {K : Frag} {p : Program} {loose : List Str} {mean : ExcName → Option Value} {mg mb : Str → Option Value} {L al : Addr} {its : Array Value} {k : Nat} {nw : List (Addr × Obj)}
/-- what one turn of a loop over a list is to show, whatever the item -/
def TurnOf (prog : Program) (w : World) (A : Around) (E : Value → Shared → Prop) (s : Shared) (env : Env) (v : Str) (body : List Stmt) (A₀ : Around) (base g : Heap) (outer : List Env) (K : Frag) (p : Program) (loose : List Str) (mean : ExcName → Option Value) (mg mb : Str → Option Value) (L : Addr) (nw : List (Addr × Obj)) (P : Value → Prop) : Prop :=
  ∀ x g' h' tk m' own, P x → KtsTurn (outer.filterMap (·.frame)) g g' → Fr g' L h' m' → News g' L h' (own :: nw) → Below A₀ base outer g' → K.In g' → Top p loose mean mg mb g' → KtsDicts (outer.filterMap (·.frame)) g' →
    wpAny (model prog w) A (storeName env v x) (fun _ s₂ => wpAny (model prog w) A (execs body env) (HPost A₀ base outer K p loose mean mg mb g L (own :: nw) s) E s₂) E { s with heap := h', toks := tk }
theorem it_turns {P : Value → Prop} {nl : List (Addr × Obj)} (hsub : ∀ q ∈ nw, q ∈ nl) (hits : ∀ x ∈ its.toList, P x) (hh : A.handled = none) (hm : (al, listOf its k) ∈ nl) {s₁ : Shared} {h : Heap} {tk : Nat} (hs : s₁ = { s with heap := h, toks := tk }) {m : Str → Option Value}
    (F : Fr g L h m) (N : News g L h nl) (B : Below A₀ base outer g) (X : K.In g) (T : Top p loose mean mg mb g) (D : KtsDicts (outer.filterMap (·.frame)) g) (hz : its.size < 64)
    (turn : TurnOf prog w A E s env v body A₀ base g outer K p loose mean mg mb L nl P) :
    wpAny (model prog w) A (pyIter (.ref al)) (OwitAt prog w A E env v body (HPost A₀ base outer K p loose mean mg mb g L nw s)) E s₁ := by
  subst hs
  refine it_make (s := { s with heap := h, toks := tk }) F N hm ?_
  intro I oI h1 hI F1 N1 hne
  refine OwitAt.intro ?_
  have main : ∀ (rem i fuel : Nat), i + rem = its.size → rem < fuel → ∀ g' h' tk m' oI, IsIt oI al i → KtsTurn (outer.filterMap (·.frame)) g g' → Fr g' L h' m' → News g' L h' ((I, oI) :: nl) → Below A₀ base outer g' → K.In g' → Top p loose mean mg mb g' → KtsDicts (outer.filterMap (·.frame)) g' →
      OwitRest prog w A E env v body (HPost A₀ base outer K p loose mean mg mb g L nw s) I fuel { s with heap := h', toks := tk } := by
    intro rem
    induction rem with
    | zero =>
      intro i fuel hi hf g' h' tk m' oI hI T' F' N' B' X' P' D'
      obtain ⟨f, rfl⟩ : ∃ f, fuel = f + 1 := ⟨fuel - 1, by omega⟩
      refine OwitRest.succ ?_
      refine it_end (s := { s with heap := h', toks := tk }) hh F' N' (.head _) (fun p hp => .tail _ hp) hI hm hne (by simp; omega) ?_
      intro h2 F2 N2
      exact HPost.intro F2 N2 hsub B' X' P' D' T'
    | succ rem ih =>
      intro i fuel hi hf g' h' tk m' oI hI T' F' N' B' X' P' D'
      obtain ⟨f, rfl⟩ : ∃ f, fuel = f + 1 := ⟨fuel - 1, by omega⟩
      refine OwitRest.succ ?_
      have hlt : i < its.toList.length := by simp; omega
      refine it_next (s := { s with heap := h', toks := tk }) (x := its.toList[i]) F' N' (.head _) (fun p hp => .tail _ hp) hI hm hne (List.getElem?_eq_getElem hlt) ?_
      intro oI2 h2 hI2 F2 N2
      refine wpAny_mono (turn _ _ _ _ _ _ (hits _ (List.getElem_mem hlt)) T' F2 N2 B' X' P' D') (fun _ s2 h3 => ?_) (fun _ _ e => e)
      refine wpAny_mono h3 (fun fl s3 h4 => ?_) (fun _ _ e => e)
      obtain ⟨rfl, g5, h5, tk5, m5, rfl, T5, F5, N5, B5, X5, P5, D5⟩ := h4
      exact ih (i + 1) f (by omega) (by omega) _ _ _ _ _ hI2 T5 F5 N5 B5 X5 P5 D5
  exact main its.size 0 64 (by omega) hz _ _ _ _ _ hI KtsTurn.refl F1 N1 B X T D
end
end
/- part H0 -/
section
open PySem PySem.W PyProof.Rows PySem.Calls PySem.Spec
set_option maxRecDepth 100000
set_option maxHeartbeats 8000000

section
variable {prog : Program} {w : World} {A : Around} {E : Value → Shared → Prop} {s : Shared}
theorem str_ne_is {Q : Value → Shared → Prop} {x y : Str} {t u : Tok} (e : x ≠ y) (h : Q (.bool true) s) : wpAny (model prog w) A (compareOp .NotEq (.str x t) (.str y u)) Q E s :=
  P.ne_str (by
    have : (x.cps.toList == y.cps.toList) = false := by
      cases c : (x.cps.toList == y.cps.toList) with
      | false => rfl
      | true => exact absurd (Str.ext' (Array.toList_inj.mp (beq_iff_eq.mp c))) e
    simp only [bne, this, Bool.not_false]; exact h)
end
/-- a reply with another code -/
theorem code_ne {c : Str} (cs : List Nat) (hc : c = tx cs) (l : List Nat) (h3 : 3 ≤ (cs ++ [32, 34]).length) (h : (cs ++ [32, 34]).take 3 ≠ [50, 53, 55]) : Txt.slice (c ++ Str.ofString " \"" ++ tx l) none (some 3) ≠ Str.ofString "257" := by
  rw [hc, q_bq, tx_app, tx_app, slice3 _ 3 (by omega) (by rw [List.length_append]; omega), q_257, Ne, tx_inj]
  rw [show (3 : Int).toNat = 3 from rfl, List.take_append_of_le_length h3]
  exact h
theorem code_157 (l : List Nat) : Txt.slice (Str.ofString "157" ++ Str.ofString " \"" ++ tx l) none (some 3) ≠ Str.ofString "257" := code_ne [49, 53, 55] (by decide +kernel) l (by decide) (by decide)
theorem code_267 (l : List Nat) : Txt.slice (Str.ofString "267" ++ Str.ofString " \"" ++ tx l) none (some 3) ≠ Str.ofString "257" := code_ne [50, 54, 55] (by decide +kernel) l (by decide) (by decide)
theorem code_256 (l : List Nat) : Txt.slice (Str.ofString "256" ++ Str.ofString " \"" ++ tx l) none (some 3) ≠ Str.ofString "257" := code_ne [50, 53, 54] (by decide +kernel) l (by decide) (by decide)
theorem code_25 (l : List Nat) : Txt.slice (Str.ofString "25" ++ Str.ofString " \"" ++ tx l) none (some 3) ≠ Str.ofString "257" := code_ne [50, 53] (by decide +kernel) l (by decide) (by decide)
end
/- part P2 -/
section
open PySem PySem.W PyProof.Rows PySem.Calls PySem.Spec
set_option maxRecDepth 100000
set_option maxHeartbeats 8000000
theorem quiet_P2 {M : Model} {A : Around} {E : Value → Shared → Prop} {Q : Flow → Shared → Prop} {env : Env} {s : Shared} (h : wpAny M A (execs [] env) Q E s) : wpAny M A (execs [] env) Q E s := by
  w_top off
  k_with_none
  first | (walk1; fail) | exact h
local macro_rules | `(tactic| omega) => `(tactic| walk_at "OM!")
local macro_rules | `(tactic| k_ne) => `(tactic| (refine neN ?_; (try dsimp only); first | (walk_at "CJ!") | exact Nat.ne_of_gt (by walk_at "CJ!") | exact Nat.ne_of_lt (by walk_at "CJ!") | exact Ne.symm (by walk_at "CJ!")))

local macro_rules | `(tactic| walk_at "compareOp NotEq str str") => `(tactic| k_extra "NE!")
/-- a reply 257 without a blank and a mark behind the code: nothing is told -/
theorem ctr_parse257_no (w : World) (x : Str) (tk0 : Tok) (h3 : Txt.slice x none (some 3) = Str.ofString "257") (h5 : Txt.slice x (some 3) (some 5) ≠ Str.ofString " \"") (hx : x.length ≤ 100000) :
    CtrF w 46 1 8 [.str x tk0] [] (fun _ => True) (fun _ r => ∃ t, r = .str (Str.ofString "") t) := by
  unfold CtrF
  k_fill
  intro p loose mean mg mb dp un gd cn cs a ccd cl outer A₀ base h₀ L m s Q E B F X N T hk hpre hd' hu hret
  refine wpAny_call ?_
  walk_at "F!enter"
  rename Keep _ _ _ => KG0
  k_with "NE!" => (k_dflt (first | refine str_ne_not h3 ?_ | refine str_ne_is h5 ?_))
  k_steps
  all_goals first
    | exact hret _ [] _ _ (by assumption) News.nil (fun _ h => nomatch h) (by assumption) ⟨_, rfl⟩
    | trace_state
end
/- part H0b -/
section
open PySem PySem.W PyProof.Rows PySem.Calls PySem.Spec
set_option maxRecDepth 100000
set_option maxHeartbeats 8000000

theorem head_is {c : Str} (cs : List Nat) (hc : c = tx ([50, 53, 55] ++ cs)) (l : List Nat) : Txt.slice (c ++ tx l) none (some 3) = Str.ofString "257" := by
  rw [hc, tx_app, slice3 _ 3 (by omega) (by simp only [List.length_append, List.length_cons, List.length_nil]; omega), q_257]
  rfl
theorem mid_ne {c : Str} (cs : List Nat) (hc : c = tx ([50, 53, 55] ++ cs)) (l : List Nat) (h2 : 2 ≤ (cs ++ l).length) (h : (cs ++ l).take 2 ≠ [32, 34]) : Txt.slice (c ++ tx l) (some 3) (some 5) ≠ Str.ofString " \"" := by
  rw [hc, tx_app, slice35 _ 3 5 (by omega) (by omega) (by simp only [List.length_append, List.length_cons, List.length_nil] at h2 ⊢; omega), q_bq, Ne, tx_inj]
  rw [show ((5 : Int) - 3).toNat = 2 from rfl, show (3 : Int).toNat = 3 from rfl, List.append_assoc]
  exact h
theorem no_1a (l : List Nat) : Txt.slice (Str.ofString "257-\"" ++ tx l) none (some 3) = Str.ofString "257" := head_is [45, 34] (by decide +kernel) l
theorem no_1b (l : List Nat) : Txt.slice (Str.ofString "257-\"" ++ tx l) (some 3) (some 5) ≠ Str.ofString " \"" := mid_ne [45, 34] (by decide +kernel) l (by simp) (by simp)
theorem no_2a (l : List Nat) : Txt.slice (Str.ofString "257 '" ++ tx l) none (some 3) = Str.ofString "257" := head_is [32, 39] (by decide +kernel) l
theorem no_2b (l : List Nat) : Txt.slice (Str.ofString "257 '" ++ tx l) (some 3) (some 5) ≠ Str.ofString " \"" := mid_ne [32, 39] (by decide +kernel) l (by simp) (by simp)
theorem no_3a (l : List Nat) : Txt.slice (Str.ofString "257" ++ tx l) none (some 3) = Str.ofString "257" := head_is [] (by decide +kernel) l
theorem no_3b (l : List Nat) (h2 : 2 ≤ l.length) (hz : l.head? ≠ some 32) : Txt.slice (Str.ofString "257" ++ tx l) (some 3) (some 5) ≠ Str.ofString " \"" :=
  mid_ne [] (by decide +kernel) l (by simpa using h2) (by
    cases l with
    | nil => simp
    | cons a r =>
      intro e
      apply hz
      cases r with
      | nil => simp at e
      | cons b r2 => simp at e; simp [e.1])
theorem no_len {c : Str} (hc : c.length ≤ 10) (l : List Nat) (hl : l.length ≤ 8000) : (c ++ tx l).length ≤ 100000 := by rw [Str.length_append, tx_len]; omega
end
/- part H1 -/
section
open PySem PySem.W PyProof.Rows PySem.Calls PySem.Spec
set_option maxRecDepth 100000
set_option maxHeartbeats 8000000
theorem quiet_H1 {M : Model} {A : Around} {E : Value → Shared → Prop} {Q : Flow → Shared → Prop} {env : Env} {s : Shared} (h : wpAny M A (execs [] env) Q E s) : wpAny M A (execs [] env) Q E s := by
  w_top off
  k_with_none
  first | (walk1; fail) | exact h
local macro_rules | `(tactic| omega) => `(tactic| walk_at "OM!")
local macro_rules | `(tactic| k_ne) => `(tactic| (refine neN ?_; (try dsimp only); first | (walk_at "CJ!") | exact Nat.ne_of_gt (by walk_at "CJ!") | exact Nat.ne_of_lt (by walk_at "CJ!") | exact Ne.symm (by walk_at "CJ!")))

local macro_rules | `(tactic| walk_at "call ref") => `(tactic| k_extra "IN!")
local macro_rules | `(tactic| walk_at "noteFrame ref") => `(tactic| k_extra "NF!")
local macro_rules | `(tactic| walk_at "exec For Name List cons nil") => `(tactic| k_extra "FR!")
local macro_rules | `(tactic| walk_at "pyIter ref") => `(tactic| k_extra "PI!")
local macro_rules | `(tactic| walk_at "exec Try") => `(tactic| k_extra "TRY!")
local macro_rules | `(tactic| walk_at "compareOp NotEq str str") => `(tactic| k_extra "NE!")
local macro_rules | `(tactic| walk_at "call type:str") => `(tactic| k_extra "SX!")
theorem own_of {g h : Heap} {L C e t : Addr} {news : List (Addr × Obj)} {m : Str} {u : Tok} (G : Got news e t (.ref C) [.str m u]) (N : News g L h news) : OwnExc h C e t m u := by
  obtain ⟨oe, ot, ws, nt, h1, h2, hc, hd, h0, htc, htd⟩ := G
  exact ⟨⟨oe, ws, N.get h1, hc, hd, h0⟩, ot, nt, N.get h2, htc, htd⟩
local macro_rules | `(tactic| walk_at "bind") => `(tactic| k_extra "GO!")
local macro_rules | `(tactic| walk_at "CompEnd") => `(tactic| k_extra "CE!")
local macro_rules | `(tactic| walk_at "eval ListComp") => `(tactic| k_extra "LC!")
theorem hd_loop {prog : Program} {w : World} {A A₀ : Around} {E : Value → Shared → Prop} {s : Shared} {env : Env} {st : Stmt} {base g : Heap} {outer : List Env} {K : Frag} {p : Program} {loose : List Str} {mean : ExcName → Option Value} {mg mb m : Str → Option Value} {L : Addr} {news : List (Addr × Obj)}
    (_ : Fr g L s.heap m) (_ : News g L s.heap news) (_ : Below A₀ base outer g) (_ : K.In base) (_ : Top p loose mean mg mb base)
    (h : wpAny (model prog w) A (exec st env) (HPost A₀ base outer K p loose mean mg mb g L news s) E s) : wpAny (model prog w) A (exec st env) (HPost A₀ base outer K p loose mean mg mb g L news s) E s := h
local macro_rules | `(tactic| walk_at "HPost") => `(tactic| k_extra "HP!")
/-- a code that is no 257 -/
def HeadC (l : List Nat) (x : Value) : Prop := ∃ (c : Str) (t : Tok), x = .str c t ∧ c.length ≤ 3 ∧ Txt.slice (c ++ Str.ofString " \"" ++ tx l) none (some 3) ≠ Str.ofString "257"
theorem ctr_heads (w : World) (l : List Nat) (t0 : Tok) (hl : l.length ≤ 8000) (h2 : 2 ≤ l.length) (hz : l.head? ≠ some 32) :
  ∀ (p : Program) (loose : List Str) (mean : ExcName → Option Value) (mg mb : Str → Option Value) (dp un : Nat) (gd : Option (List Code)) (cn : Str) (cs : Scope) (a : Addr) (ccd : Value) (cl : List (Str × Addr)) (A₀ : Around) (base h₀ : Heap) (L : Addr) (m : Str → Option Value) (s : Shared) (news : List (Addr × Obj))
    (Q E : Value → Shared → Prop),
    Below A₀ base [] h₀ → Fr h₀ L s.heap m → (Mine.pre.heap_1 w.params).In h₀ → News h₀ L s.heap news → Top p loose mean mg mb h₀ → (Mine.pre.heap_1 w.params).In base → Top p loose mean mg mb base → cs.kind = .function → dp + 4 < recursionLimit → un + 200 < cLine →
    (∀ h' tk', Fr h₀ L h' m → News h₀ L h' news → Q (.bool true) { s with heap := h', toks := tk' }) →
    wpAny (model PySem.Challenge.rw_xj0024_01.row.prog w) (ktrTop dp un gd cn cs L a ccd cl []) (call (.ref 147) [.str (tx l) t0]) Q E s := by
  k_fill
  intro p loose mean mg mb dp un gd cn cs a ccd cl A₀ base h₀ L m s news Q E B F X N T XB TB hk hd' hu hret
  have hlen : (tx l).length ≤ 8000 := by rw [tx_len]; exact hl
  refine wpAny_call ?_
  have fin : ∀ h' tk' a b c d, Fr h₀ L h' m → News h₀ L h' (a :: b :: c :: d :: news) → Q (.bool true) { s with heap := h', toks := tk' } := fun h' tk' a b c d h1 h2 => hret _ _ h1 (kst_newsOf h2 (fun p hp => .tail _ (.tail _ (.tail _ (.tail _ hp)))))
  k_dflt (walk_at "X!enterC")
  k_with "IN!" => (first
    | ((k_dflt (refine' ctr_use (ctr_parse257_no w _ _ ?h3 ?h5 ?h6) ?B ?F ?X ?N ?T ?hk trivial ?hd ?hu ?_))
       (case h3 => with_reducible first | exact no_1a l | exact no_2a l | exact no_3a l)
       (case h5 => with_reducible first | exact no_1b l | exact no_2b l | exact no_3b l h2 hz)
       (case h6 => exact no_len (by decide) l hl)
       (case B => k_asm); (case F => k_asm); (case X => k_asm); (case N => k_asm); (case T => k_asm); (case hk => rfl)
       (case hd => first | ktr_room | omega)
       (case hu => first | ktr_units | omega)
       (rintro r1 led1 h1 tk1 F1 N1 hne1 ⟨t9, rfl⟩)
       (have N2 := kst_newsOf N1 (fun p hp => List.mem_append_right _ hp); clear N1)
       (try dsimp only))
    | (k_dflt (refine wpAny_call ?_; walk_at "M!enterP")))
  k_with "FR!" => (k_dflt (
    rename Fr _ _ _ _ => lF'
    rename News _ _ _ _ => lN'
    rename Below _ _ _ _ => lB'
    refine' wpAny_mono (hd_loop lF' lN' lB' XB TB (owit_for ?loop)) ?aft (fun _ _ e => e)
    (case' aft => (rintro f s9 ⟨rfl, g9, h9, tk9, m9, rfl, T9, F9, N9, B9, X9, P9, D9⟩; (try k_lift B9); (try k_sweep)))))
  k_with "PI!" => (
    ((k_dflt (refine' it_turns (P := HeadC l) ?hsub ?hits ?hh ?hm ?hs ?F ?N ?B ?X ?T ?D ?hz ?turn)))
    ((case N => k_asm))
    ((case hsub => kst_inAny))
    ((case hm => k_mem))
    ((case hits => (intro x hx; have hx' : x ∈ [_, _, _, _] := hx; simp only [List.mem_cons, List.not_mem_nil, or_false] at hx'; rcases hx' with rfl | rfl | rfl | rfl; exact ⟨_, _, rfl, by decide, code_157 l⟩; exact ⟨_, _, rfl, by decide, code_267 l⟩; exact ⟨_, _, rfl, by decide, code_256 l⟩; exact ⟨_, _, rfl, by decide, code_25 l⟩)))
    ((case hh => k_dflt rfl))
    ((case hs => k_dflt rfl))
    ((case F => k_asm))
    ((case B => assumption))
    ((case X => k_asm))
    ((case T => k_asm))
    ((case D => assumption))
    ((case hz => k_dflt (exact (by decide : 4 < 64))))
    ((case' turn => (unfold TurnOf; rintro x g9 h9 tk9 m9 own9 ⟨c9, t9, rfl, hc9, hn9⟩ T9 F9 N9 B9 X9 P9 D9; (try k_lift B9)))))
  k_with "TRY!" => (k_dflt (refine wpAny_Try_except ?_))
  k_with "NE!" => (k_dflt (first | refine str_ne_not rfl ?_ | refine str_ne_is hn9 ?_))
  k_with "SX!" => (k_dflt (refine' str_ownExc ?u ?X ?q ?hs ?x ?_; (case x => exact own_of (by assumption) (by assumption)); (case X => first | k_in | k_asm); (case q => kts_isx); (case hs => k_is); (case u => first | ktr_units | k_units | (dsimp only; omega))))
  k_with "GO!" => (k_dflt (refine goesX (by k_asm) (by k_asm) ?_); intro h9' v9' F9' N9'; (try dsimp only))
  k_with "LC!" => (k_dflt (refine LCg.ListComp_U (F₀ := by k_asm) (by with_unfolding_all rfl) (by decide) (by rfl) (by decide) (by rfl) ?_))
  k_with "CE!" => (
    rename News _ _ _ _ => nC'
    (k_dflt (refine LCg.CompEnd.intro (by k_asm) nC' _ (fun p hp => hp) (by rename _ ∧ _ ∧ LCg.Off3 _ _ _ _ => o3; exact o3) (Or.inr ⟨_, .head _, rfl, _, rfl⟩) ?_)))
  k_with "HP!" => (k_dflt (refine' HPost.intro ?F ?N ?hs ?B ?X ?P ?D ?T; (case F => k_asm); (case N => k_asm); (case hs => kst_inAny); (case B => assumption); (case X => k_asm); (case P => k_asm); (case D => assumption); (case T => first | assumption | exact KtsTurn.refl)))
  k_with "NF!" => (
    (rename RaisedS _ _ _ _ _ _ _ _ _ => rsX)
    (k_dflt (refine' caughtX ?R ?F ?K ?U ?XB ?TB ?D ?T0 ?ex ?q ?_; (case R => assumption); (case F => assumption); (case K => assumption); (case U => assumption); (case XB => assumption); (case TB => assumption); (case D => assumption); (case T0 => first | assumption | exact KtsTurn.refl); (case ex => k_is); (case q => kts_isx); k_whole))
    (intro h' g' n₂ tk' T' F' N₂ G' N' K' X' P' D'; (try k_lift K'); (try k_sweep)))
  k_steps
  exact fin _ _ _ _ _ _ (by assumption) (by assumption)
end
/- part X0 -/
section
open PySem PySem.W PyProof.Rows PySem.Calls PySem.Spec
set_option maxRecDepth 100000
set_option maxHeartbeats 8000000

theorem int_no_contains : typeLookup (.type "int") "__contains__" = pure none := by rw [typeLookup_type, builtinLookup_eq_fast]; kernel_rfl
theorem int_no_iter : typeLookup (.type "int") "__iter__" = pure none := by rw [typeLookup_type, builtinLookup_eq_fast]; kernel_rfl
theorem int_no_getitem : typeLookup (.type "int") "__getitem__" = pure none := by rw [typeLookup_type, builtinLookup_eq_fast]; kernel_rfl
theorem sub_TypeError : isSubtype (.type "TypeError") (.type "TypeError") = pure true := by rw [isSubtype_type]; kernel_rfl
theorem NewExc.on {h h₁ h' : Heap} {e e₁ : Addr} {c c₁ : String} (x : Heap.NewExc h h₁ e₁ c₁) (y : Heap.NewExc h₁ h' e c) : Heap.NewExc h h' e c :=
  ⟨fun b o q => y.keeps b o (x.keeps b o q), kts_none x.keeps y.new, y.there⟩
theorem in_int_raises {prog : Program} {w : World} {A : Around} {E : Value → Shared → Prop} {s : Shared} {x : Str} {u t : Tok} {n : Int} {Q : Value → Shared → Prop} (hh : A.handled = none)
    (h : ∀ h' tk e, Heap.NewExc s.heap h' e "TypeError" → E (.ref e) { s with heap := h', toks := tk }) : wpAny (model prog w) A (compareOp .In (.str x u) (.int n t)) Q E s := by
  show wpAny (model prog w) A (contains (.int n t) (.str x u) >>= fun r => pure (Value.bool r)) Q E s
  refine wpAny_bind ?_
  unfold contains
  refine wpAny_holding ?_
  dsimp only [stdlibNamesSay?]
  refine wpAny_bind (wpAny_specialOf_val rfl int_no_contains ?_)
  rw [if_neg (by decide)]
  unfold callSpecialUnlessNone?
  refine wpAny_bind (wpAny_bind (wpAny_specialOf_val rfl int_no_contains (wpAny_pure ?_)))
  dsimp only
  refine wpAny_bind (wpAny_rule ?_)
  refine wpAny_bind (wpAny_tryCatch ?_)
  unfold pyIter
  refine wpAny_bind (wpAny_specialOf_val rfl int_no_iter ?_)
  dsimp only
  refine wpAny_bind (wpAny_specialOf_val rfl int_no_getitem ?_)
  dsimp only
  refine wpAny_bind (wpAny_rule ?_)
  refine wpAny_bind (wpAny_typeNameOf' (T := "int") rfl (by decide) ?_)
  refine wpAny_raiseTypeError hh (fun h1 tk1 e1 x1 => ?_) ?_
  · obtain ⟨ob, t0, he, hc, hd⟩ := id x1.there
    refine wpAny_bind (wpAny_isInstance ⟨ob, he, hc⟩ sub_TypeError ?_)
    rw [if_pos rfl]
    refine wpAny_bind (wpAny_typeNameOf' (T := "int") rfl (by decide) ?_)
    refine wpAny_raiseTypeError hh (fun h2 tk2 e2 x2 => ?_) ?_
    · exact h h2 tk2 e2 (NewExc.on x1 x2)
    · first | decide +kernel | size_fits | (rw [sizeLine_eq]; decide +kernel)
  · first | decide +kernel | size_fits | (rw [sizeLine_eq]; decide +kernel)
theorem list_no_replace : typeLookup (.type "list") (Str.ofString "replace").toString = pure none := by rw [typeLookup_type, builtinLookup_eq_fast]; kernel_rfl
theorem list_no_getattr : typeLookup (.type "list") "__getattr__" = pure none := by rw [typeLookup_type, builtinLookup_eq_fast]; kernel_rfl
end
/- part X1 -/
section
open PySem PySem.W PyProof.Rows PySem.Calls PySem.Spec
set_option maxRecDepth 100000
set_option maxHeartbeats 8000000

/-- how a heap stands while the frame on top looks at an exception of its own: h is the heap before the raise -/
structure Here (fs : List Addr) (e : Addr) (X : String) (h x : Heap) : Prop where
  keep : ∀ b o, h.get? b = some o → b ∉ fs → x.get? b = some o
  slot : ∀ b o, h.get? b = some o → ∃ sl, x.get? b = some { o with slots := sl }
  exc : ∃ oe vs T oT ts, x.get? e = some oe ∧ oe.cls = .type X ∧ oe.data = .fields vs ∧ vs[1]? = some (.ref T) ∧ vs[2]? = some .none ∧ x.get? T = some oT ∧ oT.data = .fields ts ∧ 3 < ts.size ∧ T ≠ e ∧ h.get? T = none
theorem Here.keeps {fs : List Addr} {e : Addr} {X : String} {h x y : Heap} (H : Here fs e X h x) (k : ∀ b o, x.get? b = some o → y.get? b = some o) : Here fs e X h y := by
  obtain ⟨h1, h2, oe, vs, T, oT, ts, a1, a2, a3, a4, a5, a6, a7, a8, a9, a10⟩ := H
  exact ⟨fun b o q n => k _ _ (h1 b o q n), fun b o q => let ⟨sl, e⟩ := h2 b o q; ⟨sl, k _ _ e⟩, oe, vs, T, oT, ts, k _ _ a1, a2, a3, a4, a5, k _ _ a6, a7, a8, a9, a10⟩
section
variable {M : Model} {A : Around} {E : Value → Shared → Prop} {s : Shared}
theorem here_flight {fs : List Addr} {e : Addr} {X : String} {h : Heap} {Q : Unit → Shared → Prop} (H : Here fs e X h s.heap) (k : ∀ x, Here fs e X h x → Q () { s with heap := x }) : wpAny M A (setFlight (.ref e) none) Q E s := by
  obtain ⟨h1, h2, oe, vs, T, oT, ts, a1, a2, a3, a4, a5, a6, a7, a8, a9, a10⟩ := H
  unfold setFlight
  refine wpAny_bind (wpAny_field a1 a3 a4 ?_)
  rw [if_pos (show (Value.ref T != Value.none) = true from by simp)]
  refine wpAny_setField a6 a7 a8 (k _ ?_)
  have other : ∀ b, b ≠ T → (s.heap.update T (Obj.mapFields (·.setIfInBounds 3 ((none : Option Addr).elim Value.none fun f => rawInt f)))).get? b = s.heap.get? b := fun b hb => Heap.get?_update_other _ _ (Ne.symm hb)
  have nT : ∀ b o, h.get? b = some o → b ≠ T := fun b o q z => by rw [z, a10] at q; cases q
  refine ⟨fun b o q n => (other b (nT b o q)).trans (h1 b o q n), fun b o q => let ⟨sl, z⟩ := h2 b o q; ⟨sl, (other b (nT b o q)).trans z⟩, oe, vs, T, _, _, (other e (Ne.symm a9)).trans a1, a2, a3, a4, a5, Heap.get?_update_self _ a6 (Obj.isFreed_of_fields (Obj.data_mapFields a7 _)), Obj.data_mapFields a7 _, by simp [a8], a9, a10⟩
theorem here_noted {base h : Heap} {env : Env} {outer : List Env} {L e : Addr} {oe : Obj} {vs : Array Value} {X : String} {Q : Unit → Shared → Prop}
    (hfr : A.frames = some (env :: outer)) (hl : s.heap.FunFrames base (env :: outer)) (hf : env.frame = some L)
    (hk : ∀ b o, h.get? b = some o → s.heap.get? b = some o) (hen : h.get? e = none) (he : s.heap.get? e = some oe) (hc : oe.cls = .type X) (hd : oe.data = .fields vs) (h1 : vs[1]? = some .none) (h2 : vs[2]? = some .none)
    (k : ∀ x, Here ((env :: outer).filterMap (·.frame)) e X h x → Q () { s with heap := x }) : wpAny M A (noteFrame (.ref e) env) Q E s := by
  have hsz : 1 < vs.size := (Array.getElem?_eq_some_iff.mp h1).1
  have hene : e ∉ (env :: outer).filterMap (·.frame) := fun hm => by
    obtain ⟨_, o, ho, hnf⟩ := hl.mem hm
    rw [he] at ho; injection ho with ho; subst ho; exact hnf vs hd
  unfold noteFrame
  simp only [hf]
  refine wpAny_bind (wpAny_field he hd h1 ?_)
  rw [if_neg (by decide)]
  refine wpAny_bind (wpAny_frameOf_fun hfr hl hf fun h₁ hs₁ => ?_)
  refine wpAny_bind (wpAny_entryPlaceOf fun pl hpl => ?_)
  unfold EntryCells.newEntry newFields
  refine wpAny_bind (wpAny_newObj_type ?_ (hpl.sizeOk5 _ _ _ _ _))
  have he₁ : h₁.get? e = some oe := (hs₁.2.1 e hene).trans he
  have he₂ := Heap.get?_push_of_some (h := h₁) { cls := .type "traceback", dict := none, data := .fields ([Value.none, .ref L, .none, rawInt L, .none] ++ (if pl.isEmpty then List.replicate 6 Value.none else pl)).toArray } he₁
  refine wpAny_setField he₂ hd hsz (k _ ?_)
  have hTe : h₁.objs.size ≠ e := Nat.ne_of_gt (Heap.lt_size he₁)
  have hd₃ := Obj.data_mapFields hd (·.setIfInBounds 1 (Value.ref h₁.objs.size))
  have he₃ := Heap.get?_update_self (Obj.mapFields (·.setIfInBounds 1 (Value.ref h₁.objs.size))) he₂ (Obj.isFreed_of_fields hd₃)
  have hT₃ := (Heap.get?_update_other (h₁.push { cls := .type "traceback", dict := none, data := .fields ([Value.none, .ref L, .none, rawInt L, .none] ++ (if pl.isEmpty then List.replicate 6 Value.none else pl)).toArray })
    (Obj.mapFields (·.setIfInBounds 1 (Value.ref h₁.objs.size))) (Ne.symm hTe)).trans (Heap.get?_push_size h₁ rfl)
  have nE : ∀ b o, h.get? b = some o → b ≠ e := fun b o q z => by rw [z, hen] at q; cases q
  have up : ∀ b o, b ≠ e → h₁.get? b = some o → ((h₁.push { cls := .type "traceback", dict := none, data := .fields ([Value.none, .ref L, .none, rawInt L, .none] ++ (if pl.isEmpty then List.replicate 6 Value.none else pl)).toArray }).update e (Obj.mapFields (·.setIfInBounds 1 (Value.ref h₁.objs.size)))).get? b = some o :=
    fun b o hbe hb => by
      rw [Heap.get?_update_other _ _ (Ne.symm hbe)]
      exact Heap.get?_push_of_some _ hb
  refine ⟨fun b o q n => up b o (nE b o q) ((hs₁.2.1 b n).trans (hk b o q)), fun b o q => ?_, _, _, h₁.objs.size, _, _, he₃, (Obj.cls_mapFields _ _).trans hc, hd₃, by simp [hsz], by rw [Array.getElem?_setIfInBounds_ne (by decide)]; exact h2, hT₃, rfl, by simp only [List.size_toArray, List.length_append, List.length_cons, List.length_nil] <;> omega, hTe, ?_⟩
  · obtain ⟨sl, z⟩ := hs₁.2.2 b o (hk b o q)
    exact ⟨sl, up b _ (nE b o q) z⟩
  · cases q : h.get? h₁.objs.size with
    | none => rfl
    | some o =>
      obtain ⟨sl, z⟩ := hs₁.2.2 _ o (hk _ o q)
      exact absurd (Heap.lt_size z) (Nat.lt_irrefl _)
end
section
variable {prog : Program} {w : World} {A₀ : Around} {E : Value → Shared → Prop} {s' : Shared} {base g g₀ h : Heap} {outer : List Env} {L a e : Addr} {m : Str → Option Value} {name : Str} {scope : Scope} {cd : Value}
  {b₀ : Stmt} {suite : List Stmt} {pos : Pos} {rest : List ExceptHandler} {Q : Flow → Shared → Prop} {news : List (Addr × Obj)} {KF : Frag} {tt : Expr} {X : String} {oe : Obj} {ws : Array Value}
  {p : Program} {loose : List Str} {mean : ExcName → Option Value} {mg mb : Str → Option Value}
theorem here_ground {x : Heap} (K : Below A₀ base outer g) (F : Fr g L h m) (N : News g L h news) (hen : h.get? e = none) (H : Here ((envOf name scope L a cd :: outer).filterMap (·.frame)) e X h x) :
    ∃ g' oe vs, KtsTurn (outer.filterMap (·.frame)) g g' ∧ Fr g' L x m ∧ Below A₀ base outer g' ∧ News g' L x ((e, oe) :: news) ∧ oe.cls = .type X ∧ oe.data = .fields vs ∧ vs[2]? = some .none := by
  obtain ⟨h1, h2, oe, vs, T, oT, ts, a1, a2, a3, a4, a5, a6, a7, a8, a9, a10⟩ := H
  obtain ⟨g', T', F', K'⟩ := groundY (env := envOf name scope L a cd) (B := hideAll h ((envOf name scope L a cd :: outer).filterMap (·.frame))) (h₅ := x) rfl K F (fun b o q n => hideAll_get _ q n)
    (fun b o q => h1 b o (of_hideAll _ q) (fun hm => by rw [hideAll_none _ hm] at q; cases q)) (fun b o q _ => h2 b o q)
  refine ⟨g', oe, vs, T', F', K', News.more F' (fun q hq => ⟨h1 _ _ (N q hq).1 (fun hm => ?_), (N q hq).2.1, T'.none_ _ (N q hq).2.2⟩) a1 (fun es n z => by rw [a3] at z; cases z) (T'.none_ _ (kts_none F.keep hen)), a2, a3, a5⟩
  rcases kts_mem hm with z | z
  · exact (N q hq).2.1 z
  · obtain ⟨_, o, ho, _⟩ := K.frames.mem z
    rw [(N q hq).2.2] at ho; cases ho
theorem here_caught (K : Below A₀ base outer g) (F : Fr g L h m) (N : News g L h news) (hk : ∀ b o, h.get? b = some o → s'.heap.get? b = some o) (hen : h.get? e = none) (he : s'.heap.get? e = some oe) (hc : oe.cls = .type X) (hd : oe.data = .fields ws) (h1 : ws[1]? = some .none) (h2 : ws[2]? = some .none)
    (XB : KF.In base) (TB : Top p loose mean mg mb base) (D : KtsDicts (outer.filterMap (·.frame)) g) (T0 : KtsTurn (outer.filterMap (·.frame)) g₀ g)
    (T : KtsTest prog w KF p loose mg mb name scope L a cd (.type X) tt true)
    (k : ∀ h' g' oe vs, KtsTurn (outer.filterMap (·.frame)) g₀ g' → Fr g' L h' m → News g' L h' ((e, oe) :: news) → oe.cls = .type X → oe.data = .fields vs → vs[2]? = some .none → Below A₀ base outer g' → KF.In g' → Top p loose mean mg mb g' → KtsDicts (outer.filterMap (·.frame)) g' →
      wpAny (model prog w) ((A₀.deeper (envOf name scope L a cd)).mark (some (.ref e))) (execs (b₀ :: suite) (envOf name scope L a cd)) Q
        (notedBy (model prog w) ((A₀.deeper (envOf name scope L a cd)).mark (some (.ref e))) (envOf name scope L a cd) (cameBackBy (model prog w) (A₀.deeper (envOf name scope L a cd)) (envOf name scope L a cd) E)) { s' with heap := h' })
    (hke : scope.kind = .function := by rfl) :
    wpAny (model prog w) (A₀.deeper (envOf name scope L a cd)) (noteFrame (.ref e) (envOf name scope L a cd))
      (fun _ s₂ => wpAny (model prog w) (A₀.deeper (envOf name scope L a cd)) (setFlight (.ref e) none) (fun _ s₃ =>
        wpAny (model prog w) (A₀.deeper (envOf name scope L a cd)) (handleBy (.ref e) (envOf name scope L a cd) (.ExceptHandler (some tt) none (b₀ :: suite) pos :: rest)) Q E s₃) E s₂) E s' := by
  have K' := K.push (name := name) (a := a) (cd := cd) F hke
  refine here_noted (Around.frames_deeper K.stack) (K'.frames.of_keeps fun b o q _ => ⟨o, hk b o q, rfl⟩) rfl hk hen he hc hd h1 h2 fun x₁ H₁ => ?_
  refine here_flight H₁ fun x₂ H₂ => ?_
  obtain ⟨g₅, oe₅, vs₅, T₅, F₅, K₅, N₅, c₅, d₅, z₅⟩ := here_ground K F N hen H₂
  have LT : Looks (model prog w) x₂ (typeOf (.ref e)) (.type X) := by
    obtain ⟨ob, vs, T, oT, ts, hob, hcc, _⟩ := H₂.exc
    rw [← hcc]
    exact (Looks.ld hob).andThen .now
  refine wpAny_handleBy_cons (codeAny_handlers_test (T _ _ _ _ g₅ e m F₅ (XB.keeps K₅.stays) (topRead_of (TB.keeps K₅.stays)) LT fun h₅ kp => ?_)) (by intro q; cases q)
  refine codeAny_handlers_suite ?_
  refine here_flight (H₂.keeps kp) fun x₃ H₃ => ?_
  obtain ⟨g₆, oe₆, vs₆, T₆, F₆, K₆, N₆, c₆, d₆, z₆⟩ := here_ground K F N hen H₃
  exact k x₃ g₆ oe₆ vs₆ (T0.trans T₆) F₆ N₆ c₆ d₆ z₆ K₆ (XB.keeps K₆.stays) (TB.keeps K₆.stays) (D.turn T₆)
end
end
/- part X2 -/
section
open PySem PySem.W PyProof.Rows PySem.Calls PySem.Spec
set_option maxRecDepth 100000
set_option maxHeartbeats 8000000

structure MadeCtx (h h' : Heap) (e : Addr) (cls : Value) (args : List Value) : Prop where
  keeps : ∀ b o, h.get? b = some o → h'.get? b = some o
  new : h.get? e = none
  there : ∃ t ob ws, h'.get? e = some ob ∧ ob.cls = cls ∧ ob.data = .fields ws ∧ ws[0]? = some (.ref t) ∧ ws[1]? = some .none ∧ h.get? t = none ∧ h'.get? t = some { cls := .type "tuple", data := .seq args.toArray }
theorem entry_unchain : entryFor table "proto.unchain" = some Builtin.«proto.unchain» := entryFor_of_fast (by kernel_rfl)
section
variable {prog : Program} {w : World} {A : Around} {E : Value → Shared → Prop} {s : Shared} {env : Env} {e₁ : Addr} {o₁ : Obj} {vs₁ : Array Value}
theorem wpAny_updateField_at {M : Model} {a : Addr} {o : Obj} {vs : Array Value} {i : Nat} {v : Value} {Q : Unit → Shared → Prop} (ho : s.heap.get? a = some o) (hd : o.data = .fields vs) (hi : i < vs.size)
    (h : Q () { s with heap := s.heap.update a (Obj.mapFields (·.setIfInBounds i v)) }) : wpAny M A (updateField a i v) Q E s := by
  unfold updateField
  refine wpAny_bind (wpAny_load ho ?_)
  rw [hd]
  dsimp only
  rw [if_pos hi]
  exact wpAny_update ho h
theorem raiseNew_ctx {α : Type} {e : Addr} {h : Heap} {cls : String} {args : List Value} {Q : α → Shared → Prop} (hh : A.handled = some (.ref e₁)) (h₁ : h.get? e₁ = some o₁) (d₁ : o₁.data = .fields vs₁) (z₁ : vs₁[2]? = some .none)
    (hm : Heap.MadeExc h s.heap e cls args) (k : ∀ h', MadeCtx h h' e (.type cls) args → E (.ref e) { s with heap := h' }) : wpAny (model prog w) A (raiseNew (.ref e) : Sem α) Q E s := by
  obtain ⟨hp, g, d, tk, os⟩ := s
  obtain ⟨kk, nn, t, he, ht, htt⟩ := hm
  have ne : e₁ ≠ e := fun q => by rw [q, nn] at h₁; cases h₁
  unfold raiseNew
  refine wpAny_bind (wpAny_handled ?_)
  rw [hh]
  dsimp only
  rw [if_pos (show (Value.ref e₁ != Value.ref e) = true from by simp [ne])]
  refine wpAny_bind (wpAny_holding (wpAny_runValue (codeAny_builtin entry_unchain ?_)))
  unfold Builtin.«proto.unchain»
  dsimp only
  refine wpAny_bind (wpAny_field (kk _ _ h₁) d₁ z₁ ?_)
  rw [if_pos (by decide)]
  refine wpAny_bind (wpAny_pure (wpAny_pure ?_))
  dsimp only
  refine wpAny_bind (wpAny_updateField_at he rfl (by simp) (wpAny_throw (k _ ⟨fun b o q => ?_, nn, t, _, _, Heap.get?_update_self _ he (Obj.isFreed_of_fields (Obj.data_mapFields rfl _)), Obj.cls_mapFields _ _, Obj.data_mapFields rfl _, rfl, rfl, ht, ?_⟩)))
  · exact (Heap.get?_update_other _ _ (fun z => by rw [← z, nn] at q; cases q)).trans (kk b o q)
  · refine (Heap.get?_update_other _ _ (fun z => ?_)).trans htt
    rw [← z, he] at htt; cases htt
theorem raise_in_handler {cls newId initId : String} (F : ExcCallFacts cls newId initId) (G : ExcRaiseFacts cls) {x : Str} {np cpos pos : Pos} {e₀ : Expr} {rest : List Expr} {Q : Flow → Shared → Prop} (hh : A.handled = some (.ref e₁))
    (h : wpAny (model prog w) A (eval (.Name x np) env) (fun f s₁ => f = .type cls ∧ wpAny (model prog w) A (spliced (backTo cpos (starEach (e₀ :: rest) env)))
      (fun vs s₂ => vs.length ≤ sizeLine ∧ (∃ o₁ vs₁, s₂.heap.get? e₁ = some o₁ ∧ o₁.data = .fields vs₁ ∧ vs₁[2]? = some .none) ∧ ∀ h' e, MadeCtx s₂.heap h' e (.type cls) vs → E (.ref e) { s₂ with heap := h' }) E s₁) E s)
    (he : starEach (e₀ :: rest) env = (false, eval e₀ env) :: starEach rest env := by rfl) (hplain : (backTo cpos (starEach rest env)).any (·.1) = false := by rfl) :
    wpAny (model prog w) A (exec (.Raise (some (.Call (.Name x np) (e₀ :: rest) [] cpos)) none pos) env) Q E s := by
  have core : wpAny (model prog w) A (eval (.Call (.Name x np) (e₀ :: rest) [] cpos) env) (fun v s₁ => ∃ h₀ e args, v = .ref e ∧ Heap.MadeExc h₀ s₁.heap e cls args ∧ (∃ o₁ vs₁, h₀.get? e₁ = some o₁ ∧ o₁.data = .fields vs₁ ∧ vs₁[2]? = some .none) ∧ ∀ h', MadeCtx h₀ h' e (.type cls) args → E (.ref e) { s₁ with heap := h' }) E s := by
    refine wpAny_Call_ofName (wpAny_mono h (fun f s₁ h₁ => ?_) fun _ _ y => y)
    obtain ⟨rfl, h₁⟩ := h₁
    refine callWith_excType (by rw [he]; show (false || (backTo cpos (starEach rest env)).any (·.1)) = false; rw [hplain]; rfl) ?_
    rw [he] at h₁ ⊢
    refine Calls.evalArgs_plain (wpAny_mono h₁ (fun vs s₂ h₃ => ?_) fun _ _ y => y)
    obtain ⟨hlen, ho, hk⟩ := h₃
    obtain ⟨hp, g, d, tk, os⟩ := s₂
    exact wpAny_call_exc F (hrest := hlen) fun h' e hm => ⟨hp, e, vs, rfl, hm, ho, fun h2 hc => hk h2 e hc⟩
  rw [arm_exec_Raise]
  have stmt : ∀ {x : Sem Value} {s : Shared}, wpAny (model prog w) A x (fun v s₁ => ∃ h₀ e args, v = .ref e ∧ Heap.MadeExc h₀ s₁.heap e cls args ∧ (∃ o₁ vs₁, h₀.get? e₁ = some o₁ ∧ o₁.data = .fields vs₁ ∧ vs₁[2]? = some .none) ∧ ∀ h', MadeCtx h₀ h' e (.type cls) args → E (.ref e) { s₁ with heap := h' }) E s → wpAny (model prog w) A (raiseStmt env (some x) none) Q E s := by
    intro x s h
    unfold raiseStmt
    refine wpAny_bind (wpAny_mono h (fun v s₁ h₁ => ?_) fun _ _ x => x)
    obtain ⟨h₀, e, args, rfl, hm, ⟨o₁, vs₁, ho, hd, hz⟩, hE⟩ := h₁
    obtain ⟨hp, g, d, tk, os⟩ := s₁
    obtain ⟨t, hte, _⟩ := id hm.there
    have hsub := G.isExc
    have hmeta := G.plainMeta
    repeat (first | refine wpAny_loadPart hte ?_ | wp_step)
    exact raiseNew_ctx hh ho hd hz hm hE
  first
    | exact wpAny_bind (wpAny_standAt (stmt (wpAny_bind (wpAny_mono core (fun v s₁ h₁ => wpAny_bind (wpAny_standAt (wpAny_pure h₁))) fun _ _ x => x))))
    | (simp only [evalOpt, Option.map]; exact wpAny_bind (wpAny_standAt (stmt (wpAny_bind (wpAny_mono core (fun v s₁ h₁ => wpAny_bind (wpAny_standAt (wpAny_pure h₁))) fun _ _ x => x)))))
end
end
/- part X3 -/
section
open PySem PySem.W PyProof.Rows PySem.Calls PySem.Spec
set_option maxRecDepth 100000
set_option maxHeartbeats 8000000

section
variable {M : Model} {A : Around} {E : Value → Shared → Prop} {s : Shared}
theorem setFlight_heldW {base : Heap} {l : List Env} {e L : Addr} {cls a0 : Value} {Q : Unit → Shared → Prop} (R : Heap.HeldW base l e cls a0 L s.heap)
    (h : ∀ h', Heap.HeldW base l e cls a0 L h' → s.heap.UpToSlots h' → Q () { s with heap := h' }) : wpAny M A (setFlight (.ref e) (some L)) Q E s := by
  obtain ⟨hkb, hen, hl, oe, vs, T, oT, ts, he, hcls, hd, h1, hnT, hTe, hT, hdT, h3⟩ := R
  have hsz3 : 3 < ts.size := (Array.getElem?_eq_some_iff.mp h3).1
  have other : ∀ b, b ≠ T → (s.heap.update T (Obj.mapFields (·.setIfInBounds 3 ((some L).elim Value.none fun f => rawInt f)))).get? b = s.heap.get? b :=
    fun b hb => Heap.get?_update_other _ _ (Ne.symm hb)
  have noRecord : ∀ b o, s.heap.get? b = some o → (∀ vs, o.data ≠ .fields vs) → b ≠ T := fun b o hb hnf q => by
    rw [q, hT] at hb; injection hb with hb; subst hb; exact hnf ts hdT
  unfold setFlight
  refine wpAny_bind (wpAny_field he hd h1 ?_)
  rw [if_pos (show (Value.ref T != Value.none) = true from by simp)]
  refine wpAny_setField hT hdT hsz3 (h _ ⟨fun b o hbo => (other b fun q => by rw [q, hnT] at hbo; cases hbo).trans (hkb b o hbo), hen,
    hl.of_keeps fun b o hb hnf => ⟨o, (other b (noRecord b o hb hnf)).trans hb, rfl⟩, ?_⟩ fun b o hb hnf => ⟨o.slots, (other b (noRecord b o hb hnf)).trans hb⟩)
  exact ⟨oe, vs, T, _, _, (other e (Ne.symm hTe)).trans he, hcls, hd, h1, hnT, hTe, Heap.get?_update_self _ hT (Obj.isFreed_of_fields (Obj.data_mapFields hdT _)), Obj.data_mapFields hdT _, by simp [hsz3]⟩
end
section
variable {M : Model} {A : Around} {E : Value → Shared → Prop} {s' : Shared} {base g h : Heap} {outer : List Env} {L a e : Addr} {m : Str → Option Value} {name : Str} {scope : Scope} {cd : Value} {Q : Unit → Shared → Prop} {news : List (Addr × Obj)}
theorem leave_ctxS {cls : Value} {vs : List Value} (K : Below A base outer g) (hx : MadeCtx h s'.heap e cls vs) (F : Fr g L h m) (N : News g L h news)
    (hQ : ∀ h' t, RaisedS base g outer e cls t vs news h' → g.UpToSlots h' → Q () { s' with heap := h' }) (hk : scope.kind = .function := by rfl) :
    wpAny M (A.deeper (envOf name scope L a cd)) (leaving (envOf name scope L a cd) (.ref e)) Q E s' := by
  have K' := K.push (name := name) (a := a) (cd := cd) F hk
  have hin : ∀ env ∈ (envOf name scope L a cd :: outer), ∀ b, env.frame = some b → b ∈ (envOf name scope L a cd :: outer).filterMap (·.frame) := fun env he b hb => List.mem_filterMap.mpr ⟨env, he, hb⟩
  have st : base.StaysIn (hideAll h ((envOf name scope L a cd :: outer).filterMap (·.frame))) := fun b o q => hideAll_get _ (K'.stays b o q) fun hm => by
    rw [(K'.frames.mem hm).1] at q; cases q
  have sg : ∀ b o, g.get? b = some o → b ∉ outer.filterMap (·.frame) → (hideAll h ((envOf name scope L a cd :: outer).filterMap (·.frame))).get? b = some o := fun b o q nm => hideAll_get _ (F.keep b o q) fun hm => by
    rcases kts_mem hm with z | z
    · rw [z, kts_self F] at q; cases q
    · exact nm z
  have hl : ∀ q ∈ news, (hideAll h ((envOf name scope L a cd :: outer).filterMap (·.frame))).get? q.1 = some q.2 ∧ g.get? q.1 = none ∧ base.get? q.1 = none := fun q hq => by
    refine ⟨hideAll_get _ (N q hq).1 fun hm => ?_, (N q hq).2.2, fresh_of_stays K.stays (N q hq).2.2⟩
    rcases kts_mem hm with z | z
    · exact (N q hq).2.1 z
    · obtain ⟨_, o, ho, _⟩ := K.frames.mem z
      rw [(N q hq).2.2] at ho; cases ho
  obtain ⟨t, ob, ws, he, hcls, hd, h0, h1, htn, htt⟩ := hx.there
  have hide : ∀ b, h.get? b = none → (hideAll h ((envOf name scope L a cd :: outer).filterMap (·.frame))).get? b = none := fun b hb => by
    cases q : (hideAll h ((envOf name scope L a cd :: outer).filterMap (·.frame))).get? b with
    | none => rfl
    | some o => have := of_hideAll _ q; rw [hb] at this; cases this
  refine wpAny_leaving_firstW (a0 := .ref t) K'.stack ((funFrames_hide K'.frames hin).of_keeps fun b o hb _ => ⟨o, hx.keeps b o hb, rfl⟩) rfl he (fun b o hb => hx.keeps b o (of_hideAll _ hb)) (hide e hx.new) hd h1 h0 fun h' hL => ?_
  obtain ⟨k1, ⟨_, _, k2⟩, k3, k4⟩ := hL
  rw [hcls] at k3
  exact hQ h' t ⟨⟨_, st, sg, hl, ⟨k1, hide e hx.new, k2, k3⟩, hide t htn⟩, Heap.TupAt.of_slots ⟨_, _, htt, rfl, rfl⟩ k4⟩ (((Heap.UpToSlots.of_keeps F.keep).trans (Heap.UpToSlots.of_keeps hx.keeps)).trans k4)
end
section
variable {prog : Program} {w : World} {A₀ : Around} {E : Value → Shared → Prop} {s' : Shared} {base g G : Heap} {outer : List Env} {L a e t : Addr} {name : Str} {scope : Scope} {cd cls : Value} {vs : List Value} {news : List (Addr × Obj)} {x : Option Value}
theorem handler_raises (R : RaisedS base G (envOf name scope L a cd :: outer) e cls t vs news s'.heap) (K : Below A₀ base outer g) (hsm : G.UpToSlots s'.heap)
    (k : ∀ h', RaisedH base G (envOf name scope L a cd :: outer) L e cls t vs news h' → G.UpToSlots h' → E (.ref e) { s' with heap := h' }) :
    wpAny (model prog w) ((A₀.deeper (envOf name scope L a cd)).mark x) (noteFrame (.ref e) (envOf name scope L a cd)) (fun _ s'' => cameBackBy (model prog w) (A₀.deeper (envOf name scope L a cd)) (envOf name scope L a cd) E (.ref e) s'')
      (cameBackBy (model prog w) (A₀.deeper (envOf name scope L a cd)) (envOf name scope L a cd) E) s' := by
  obtain ⟨⟨B, hB, hBG, hl, hfl, hnew⟩, htup⟩ := R
  refine wpAny_looks_onW (Around.frames_deeper K.stack) rfl hfl fun h₄ hheld₄ sm₄ => ?_
  have hh := hheld₄
  obtain ⟨_, _, _, oe, ws, T, oT, ts, he, hc, hd, h1, _⟩ := hh
  show wpAny (model prog w) (A₀.deeper (envOf name scope L a cd)) (do
    if (← field (.ref e) 1) == .none then unsupported "frame.own-activation:exception-without-traceback"
    setFlight (.ref e) (some L)) (fun _ s'' => E (.ref e) s'') E _
  refine wpAny_bind (wpAny_field he hd h1 ?_)
  rw [if_neg (show ¬ ((Value.ref T == Value.none) = true) from by simp)]
  first
    | exact wpAny_bind (wpAny_pure (setFlight_heldW hheld₄ fun h' hh hs => k h' ⟨⟨B, hB, hBG, hl, hh, hnew⟩, (htup.of_slots sm₄).of_slots hs⟩ ((hsm.trans sm₄).trans hs)))
    | exact (setFlight_heldW hheld₄ fun h' hh hs => k h' ⟨⟨B, hB, hBG, hl, hh, hnew⟩, (htup.of_slots sm₄).of_slots hs⟩ ((hsm.trans sm₄).trans hs))
end
theorem turn_back {base g₀ g' h' : Heap} {outer : List Env} {e t : Addr} {cls : Value} {vs : List Value} {news : List (Addr × Obj)} (T : KtsTurn (outer.filterMap (·.frame)) g₀ g') (R : RaisedS base g' outer e cls t vs news h') (U : g'.UpToSlots h') : RaisedS base g₀ outer e cls t vs news h' ∧ g₀.UpToSlots h' := by
  obtain ⟨⟨B, hB, hBG, hl, hfl, hnew⟩, htup⟩ := R
  refine ⟨⟨⟨B, hB, fun b o q n => hBG b o (T.other b o q n) n, fun q hq => ⟨(hl q hq).1, ?_, (hl q hq).2.2⟩, hfl, hnew⟩, htup⟩, Heap.UpToSlots.trans (fun b o q _ => T.up q) U⟩
  cases z : g₀.get? q.1 with
  | none => rfl
  | some o =>
    obtain ⟨sl, z'⟩ := T.up z
    have := (hl q hq).2.1
    rw [z'] at this; cases this
end
local macro_rules | `(tactic| walk_at "X!enterS") => `(tactic| (refine' code_defS ?k1 ?k2 ?k3 ?k4 ?k5 ?XB ?TB ?D ?T0 ?kA ?k6 ?k7 ?k8 ?k9 ?kB ?_ ?cK ?c2 ?c3 ?c4 ?c5; (case kA => exact rfl); (case k2 => k_asm); (case k1 => k_asm); (case XB => assumption); (case TB => assumption); (case D => assumption); (case T0 => first | assumption | exact KtsTurn.refl); (case k3 => k_asm); (case k4 => k_asm); (case k5 => k_asm); (case k6 => k_is); (case k7 => k_is); (case k8 => ktr_room); (case k9 => exact BindsTo.of_eq rfl); (case kB => exact locs rfl); (case cK => exact rfl); (case c2 => exact rfl); (case c3 => exact rfl); (case c4 => exact rfl); (case c5 => decide); k_whole; intro g' L' h' FG' F' N' B' X' T' D'; (try dsimp only); (try k_lift B'); (try k_fold)))
/- part R2 -/
section
open PySem PySem.W PyProof.Rows PySem.Calls PySem.Spec
set_option maxRecDepth 100000
set_option maxHeartbeats 8000000
theorem quiet_R2 {M : Model} {A : Around} {E : Value → Shared → Prop} {Q : Flow → Shared → Prop} {env : Env} {s : Shared} (h : wpAny M A (execs [] env) Q E s) : wpAny M A (execs [] env) Q E s := by
  w_top off
  k_with_none
  first | (walk1; fail) | exact h
local macro_rules | `(tactic| omega) => `(tactic| walk_at "OM!")
local macro_rules | `(tactic| k_ne) => `(tactic| (refine neN ?_; (try dsimp only); first | (walk_at "CJ!") | exact Nat.ne_of_gt (by walk_at "CJ!") | exact Nat.ne_of_lt (by walk_at "CJ!") | exact Ne.symm (by walk_at "CJ!")))

theorem depth_mark9 {A : Around} {v : Option Value} : (A.mark v).depth = A.depth := rfl
local macro_rules | `(tactic| ktr_room) => `(tactic| ((simp only [depth_mark9, depth_deeper, depth_in1]); (try dsimp only [ktrTop]); omega))
local macro_rules | `(tactic| walk_at "call ref") => `(tactic| k_extra "IN!")
local macro_rules | `(tactic| walk_at "compareOp In str int") => `(tactic| k_extra "CI!")
local macro_rules | `(tactic| walk_at "pyReprObj int") => `(tactic| k_extra "RP!")
local macro_rules | `(tactic| walk_at "call builtin:repr") => `(tactic| k_extra "RB!")
local macro_rules | `(tactic| walk_at "joinParts") => `(tactic| k_extra "JP!")
local macro_rules | `(tactic| walk_at "notedBy") => `(tactic| k_extra "NB!")
local macro_rules | `(tactic| walk_at "noteFrame ref") => `(tactic| k_extra "NF!")
local macro_rules | `(tactic| walk_at "exec Raise some none") => `(tactic| k_extra "RS!")
local macro_rules | `(tactic| walk_at "leaving ref") => `(tactic| k_extra "LV!")
theorem log_small {n : Int} (h : 0 ≤ n ∧ n < 1000000000) : n.natAbs.log2 < 1920 := by
  by_cases z : n.natAbs = 0
  · rw [z]; decide
  · exact (Nat.log2_lt z).mpr (Nat.lt_of_lt_of_le (show n.natAbs < 2 ^ 30 by omega) (Nat.pow_le_pow_right (by decide) (by decide)))
theorem msg_fits (x k : Str) (hx : x.length ≤ 4000) (hk : k.length ≤ 10) : (Str.empty ++ Str.ofString "cannot serialize " ++ x ++ Str.ofString " (type " ++ k ++ Str.ofString ")").length ≤ sizeLine := by
  have e1 : (Str.ofString "cannot serialize ").length = 17 := by decide +kernel
  have e2 : (Str.ofString " (type ").length = 7 := by decide +kernel
  have e3 : (Str.ofString ")").length = 1 := by decide +kernel
  have e4 : Str.empty.length = 0 := rfl
  simp only [Str.length_append, e1, e2, e3, e4, sizeLine_eq]
  omega
theorem msg_same (x k : Str) : ((Str.empty ++ Str.ofString "cannot serialize " ++ x ++ Str.ofString " (type " ++ k ++ Str.ofString ")") == (Str.ofString "cannot serialize " ++ x ++ Str.ofString " (type " ++ k ++ Str.ofString ")")) = true := by
  have e : Str.empty ++ Str.ofString "cannot serialize " = Str.ofString "cannot serialize " := by decide +kernel
  rw [e, beq_self_eq_true]
theorem ctr_refuses_int (w : World) (h : Int) (th : Tok) (hh : 0 ≤ h ∧ h < 3) (n : Int) (hn : 0 ≤ n ∧ n < 1000000000) (tn tk0 : Tok) :
  ∀ (p : Program) (loose : List Str) (mean : ExcName → Option Value) (mg mb : Str → Option Value) (dp un : Nat) (gd : Option (List Code)) (cn : Str) (cs : Scope) (a : Addr) (ccd : Value) (cl : List (Str × Addr)) (A₀ : Around) (base h₀ : Heap) (L : Addr) (m : Str → Option Value) (s : Shared) (news : List (Addr × Obj))
    (Q E : Value → Shared → Prop),
    Below A₀ base [] h₀ → Fr h₀ L s.heap m → (Mine.pre.heap_1 w.params).In h₀ → News h₀ L s.heap news → Top p loose mean mg mb h₀ → (Mine.pre.heap_1 w.params).In base → Top p loose mean mg mb base → cs.kind = .function → dp + 6 < recursionLimit → un + 200 < cLine →
    (∀ h' tk', Fr h₀ L h' m → News h₀ L h' news → Q (.bool true) { s with heap := h', toks := tk' }) →
    wpAny (model PySem.Challenge.rw_xj0024_01.row.prog w) (ktrTop dp un gd cn cs L a ccd cl []) (call (.ref 142) [.int h th, .int n tn, .str (Str.ofString "int") tk0]) Q E s := by
  k_fill
  intro p loose mean mg mb dp un gd cn cs a ccd cl A₀ base h₀ L m s news Q E B F X N T XB TB hk hd' hu hret
  refine wpAny_call ?_
  have fin : ∀ b h' tk' l, b = true → Fr h₀ L h' m → News h₀ L h' (l :: news) → Q (.bool b) { s with heap := h', toks := tk' } := fun b h' tk' l hb h1 h2 => by rw [hb]; exact hret _ _ h1 (kst_newsOf h2 (fun p hp => .tail _ hp))
  k_dflt (walk_at "X!enterP")
  k_with "IN!" => (k_dflt (refine wpAny_call ?_; walk_at "X!enterS"))
  k_with "CI!" => (k_dflt (refine in_int_raises rfl ?_); intro hI tkI eI xI; obtain ⟨obI, tI, heI, hcI, hdI⟩ := id xI.there; (try dsimp only))
  k_with "NF!" => (
    (with_reducible show wpAny _ _ (noteFrame (Value.ref eI) _) _ _ _)
    (k_dflt (refine' here_caught ?wK9 ?wF9 ?wN9 xI.keeps xI.new heI hcI hdI rfl rfl ?wXB9 ?wTB9 ?wD9 ?wT09 ?wT9 ?_; (case wK9 => assumption); (case wF9 => assumption); (case wN9 => assumption); (case wXB9 => assumption); (case wTB9 => assumption); (case wD9 => assumption); (case wT09 => first | assumption | exact KtsTurn.refl); (case wT9 => kts_test); k_whole))
    (intro h' g' oX vX T' F' N' cX dX zX K' X' P' D'; (try k_lift K'); (try k_sweep)))
  k_with "NB!" => (k_dflt (rename RaisedS _ _ _ _ _ _ _ _ _ => rsX; refine' handler_raises rsX ?K ?U ?_; (case K => assumption); (case U => assumption); k_whole); intro h' R' U'; (try dsimp only at R' U' ⊢))
  k_with "RP!" => (k_dflt (refine pyReprObj_int (log_small hn) ?_))
  k_with "RB!" => (k_dflt (refine P.repr_of_int (log_small hn) ?_))
  k_with "JP!" => (
    (first | (with_reducible show wpAny _ _ (joinParts _ []) _ _ _) | (with_reducible show wpAny _ _ (joinParts _ (evalEach [] _)) _ _ _))
    (k_dflt (refine joinParts_nil ?_ ?sz); (case sz => exact msg_fits _ _ (Nat.le_trans (PyProof.Rows.int_text_len_1921 (log_small hn)) (by decide)) (by decide +kernel))))
  k_with "RS!" => (k_dflt (refine' raise_in_handler PySem.F.excCall_TypeError PySem.F.excRaise_TypeError rfl ?_; refine' name_B ?F ?X ?P ?ex ?hv ?hn ?_ ?hk ?hx ?hd; (case F => k_asm); (case X => k_asm); (case P => k_asm); (case ex => k_is); (case hv => exact PyProof.Rows.Boot.«TypeError»); (case hn => decide); (case hk => rfl); (case hx => rfl); (case hd => decide); k_whole; refine ⟨rfl, ?_⟩))
  k_with "LV!" => (first
    | (k_dflt (refine' leave_ctxS ?K ?x ?F ?N ?_; (case x => assumption); (case K => k_asm); (case F => k_asm); (case N => k_asm); k_whole); intro h' t' R' U'; (try dsimp only at R' U' ⊢))
    | (k_dflt (rename RaisedH _ _ _ _ _ _ _ _ _ _ => rhX; refine' leave_heldS rhX ?F ?U ?_; (case F => assumption); (case U => assumption); k_whole); intro h' S1 S2 U1; (try dsimp only at S1 U1 ⊢); clear S2 rhX; obtain ⟨S3, U3⟩ := turn_back (by assumption) S1 U1; clear S1 U1))
  k_steps
  all_goals first
    | exact News.get (by assumption) (by k_mem)
    | exact News.get (by assumption) (.head _)
    | exact fin _ _ _ _ (msg_same _ _) (by assumption) (by assumption)
    | trace_state
end
/- part R3a -/
section
open PySem PySem.W PyProof.Rows PySem.Calls PySem.Spec
set_option maxRecDepth 100000
set_option maxHeartbeats 8000000

theorem getAttr_miss_list9 {prog : Program} {w : World} {A : Around} {E : Value → Shared → Prop} {s : Shared} {a : Addr} {o : Obj} {xs : Array Value} {k : Nat} {name : Str} {Q : Value → Shared → Prop}
    (hx : s.heap.get? a = some o) (hc : o.cls = .type "list") (hdat : o.data = .seq xs k) (hd : o.dict = none) (hmiss : typeLookup (.type "list") name = pure none) (hname : (["__module__", "__name__", "__qualname__", "__doc__", "__annotations__"] : List Str).contains name = false) (hA : A.handled = none)
    (h : ∀ h' tk e, Heap.NewAttrErr s.heap h' e (.ref a) name → E (.ref e) { s with heap := h', toks := tk }) (hsz : name.length + 100 ≤ sizeLine := by size_fits) :
    wpAny (model prog w) A (getAttr (.ref a) name) Q E s := by
  obtain ⟨c, dct, dat, sl⟩ := o
  simp only at hc hdat hd
  subst hc hdat hd
  obtain ⟨hp, g, d, tk, os⟩ := s
  have hT : ∀ tk', (⟨hp, g, d, tk', os⟩ : Shared).TypeIs (.ref a) "list" := fun _ => ⟨_, hx, rfl⟩
  have f1 := sub_AttributeError
  have f3 := F.slot_list_getattribute.lookup
  have f4 := F.slot_list_getattribute.bind (.ref a)
  have f5 := am_list_getattr_none
  unfold getAttr getAttrBy
  repeat (any_goals (first | assumption | exact hT _ | ((with_reducible show wpAny _ _ (call (Value.builtin "list.__getattribute__") _ _) _ _ _); refine call_meets F.slot_list_getattribute (hT _) am_entry_list_getattribute (F.args_list_getattribute_2 _ _) (meets_getattribute_miss_list a xs k sl name _ hmiss hname hsz) ⟨hx, hA, fun h' tk' e hx' => ?_⟩) | wp_step))
  obtain ⟨t', u', he⟩ := hx'.there
  show wpAny _ _ (getattributeRaised _ _ _ _ _ _ _) _ _ _
  unfold getattributeRaised
  repeat (any_goals (first | assumption | wp_step))
  exact h _ _ _ hx'
theorem list_no_replace9 : typeLookup (.type "list") (Str.ofString "replace") = pure none := am_miss_of_fast (by kernel_rfl)
theorem getMethod_miss_list9 {prog : Program} {w : World} {A : Around} {E : Value → Shared → Prop} {s : Shared} {a : Addr} {o : Obj} {xs : Array Value} {k : Nat} {name : Str} {pl : Sem Bool} {Q : Value × List Value → Shared → Prop}
    (hx : s.heap.get? a = some o) (hc : o.cls = .type "list") (hdat : o.data = .seq xs k) (hd : o.dict = none) (hmiss : typeLookup (.type "list") name = pure none) (hname : (["__module__", "__name__", "__qualname__", "__doc__", "__annotations__"] : List Str).contains name = false) (hA : A.handled = none)
    (h : ∀ h' tk e, Heap.NewAttrErr s.heap h' e (.ref a) name → E (.ref e) { s with heap := h', toks := tk }) (hsz : name.length + 100 ≤ sizeLine) :
    wpAny (model prog w) A (getMethod (.ref a) name pl) Q E s := by
  have hT : s.TypeIs (.ref a) "list" := ⟨o, hx, hc⟩
  unfold getMethod
  refine wpAny_bind (wpAny_specialOf hT list_getattribute ?_)
  show wpAny _ A (if (Manifest.canonical "list.__getattribute__" != "object.__getattribute__") = true then _ else _) Q E s
  rw [canon_list_getattribute, if_neg Bool.false_ne_true]
  refine wpAny_bind (wpAny_specialOf hT list_getattr_none ?_)
  refine wpAny_bind (wpAny_specialOf hT hmiss ?_)
  exact wpAny_bind (getAttr_miss_list9 hx hc hdat hd hmiss hname hA h hsz)
theorem in_list_one {prog : Program} {w : World} {A : Around} {E : Value → Shared → Prop} {s : Shared} {h₀ : Heap} {L al : Addr} {news : List (Addr × Obj)} {x y : Str} {t u : Tok} {k : Nat} {Q : Value → Shared → Prop} (N : News h₀ L s.heap news) (hm : (al, W.listOf #[.str y u] k) ∈ news)
    (hx : PyData.strOk x = true) (hy : PyData.strOk y = true) (hu : A.units + 64 < cLine) (h1 : x = y → Q (.bool true) s) (h2 : x ≠ y → Q (.bool false) s) : wpAny (model prog w) A (compareOp .In (.str x t) (.ref al)) Q E s := by
  refine kqd_isIn (xs := [.str y u]) (ds := [.str y]) (d := .str x) (n₁ := []) (n₂ := []) N hm rfl rfl (.cons (.str _ _) .nil) (fun _ h => nomatch h) (.str _ _) (fun _ h => nomatch h) (by intro d hd; simp only [List.mem_singleton] at hd; subst hd; exact hy) hx hu ?_
  by_cases e : x = y
  · subst e; simpa using h1 rfl
  · have : ¬ (Dat.str x ∈ [Dat.str y]) := by simp [e]
    simpa [e] using h2 e

def APost (s0 : Shared) (al : Addr) : Value → Shared → Prop := fun e s1 => ∃ h' tk ea, e = .ref ea ∧ s1 = { s0 with heap := h', toks := tk } ∧ Heap.NewAttrErr s0.heap h' ea (.ref al) (Str.ofString "replace")
theorem sign_of {h : Int} {sg : Nat} (hh : 0 ≤ h ∧ h < 3) (hsg : sg ∈ (lawTab h).map (·.1)) : sg = 38 ∨ sg = 60 ∨ sg = 62 ∨ sg = 34 ∨ sg = 9 ∨ sg = 10 ∨ sg = 13 := by
  obtain rfl | rfl | rfl : h = 0 ∨ h = 1 ∨ h = 2 := by omega
  · exact (by decide : ∀ q ∈ (lawTab 0).map (·.1), q = 38 ∨ q = 60 ∨ q = 62 ∨ q = 34 ∨ q = 9 ∨ q = 10 ∨ q = 13) sg hsg
  · exact (by decide : ∀ q ∈ (lawTab 1).map (·.1), q = 38 ∨ q = 60 ∨ q = 62 ∨ q = 34 ∨ q = 9 ∨ q = 10 ∨ q = 13) sg hsg
  · exact (by decide : ∀ q ∈ (lawTab 2).map (·.1), q = 38 ∨ q = 60 ∨ q = 62 ∨ q = 34 ∨ q = 9 ∨ q = 10 ∨ q = 13) sg hsg
theorem sign_show {h : Int} {sg : Nat} (hh : 0 ≤ h ∧ h < 3) (hsg : sg ∈ (lawTab h).map (·.1)) : (PyData.list [.str (tx [sg])]).showable = true ∧ (PyData.list [.str (tx [sg])]).hasDict = false ∧ (PyData.list [.str (tx [sg])]).shown.length ≤ 4000 ∧ PyData.strOk (tx [sg]) = true := by
  rcases sign_of hh hsg with rfl | rfl | rfl | rfl | rfl | rfl | rfl <;> decide +kernel
theorem try_cut {α : Type} {M : Model} {A : Around} {t : Sem α} {Q : α → Shared → Prop} {E : Value → Shared → Prop} {s : Shared} (al : Addr)
    (aft : ∀ hI tkI eI, Heap.NewAttrErr s.heap hI eI (.ref al) (Str.ofString "replace") → E (.ref eI) { s with heap := hI, toks := tkI }) (body : wpAny M A t (fun _ _ => False) (APost s al) s) : wpAny M A t Q E s :=
  wpAny_mono body (fun _ _ h => h.elim) (by rintro _ _ ⟨hI, tkI, eI, rfl, rfl, xI⟩; exact aft _ _ _ xI)
theorem replace_miss {prog : Program} {w : World} {A : Around} {E : Value → Shared → Prop} {s : Shared} {h₀ : Heap} {L al : Addr} {news : List (Addr × Obj)} {xs : Array Value} {k : Nat} {pl : Sem Bool} {Q : Value × List Value → Shared → Prop} (N : News h₀ L s.heap news) (hm : (al, W.listOf xs k) ∈ news) (hA : A.handled = none)
    (h : ∀ h' tk e, Heap.NewAttrErr s.heap h' e (.ref al) (Str.ofString "replace") → E (.ref e) { s with heap := h', toks := tk }) : wpAny (model prog w) A (getMethod (.ref al) (Str.ofString "replace") pl) Q E s :=
  getMethod_miss_list9 (o := W.listOf xs k) (xs := xs) (k := k) (N.get hm) rfl rfl rfl list_no_replace9 (by decide +kernel) hA h (by rw [sizeLine_eq]; decide +kernel)
theorem APost.intro {s0 : Shared} {al ea : Addr} {h' : Heap} {tk tk0 : Nat} (hx : Heap.NewAttrErr s0.heap h' ea (.ref al) (Str.ofString "replace")) : APost { s0 with toks := tk0 } al (.ref ea) { s0 with heap := h', toks := tk } := ⟨h', tk, ea, rfl, rfl, hx⟩
theorem not_sign {h : Int} {sg : Nat} {P : Prop} (hsg : sg ∈ (lawTab h).map (·.1)) (h0 : h = 0) (a : Str.ofString "&" ≠ tx [sg]) (b : Str.ofString "<" ≠ tx [sg]) (c : Str.ofString ">" ≠ tx [sg]) (d : Str.ofString "\"" ≠ tx [sg]) (e : Str.ofString "\r" ≠ tx [sg]) (f : Str.ofString "\n" ≠ tx [sg]) (g : Str.ofString "\t" ≠ tx [sg]) : P := by
  subst h0
  simp [lawTab] at hsg
  rcases hsg with rfl | rfl | rfl | rfl | rfl | rfl | rfl
  · exact absurd (by decide +kernel) a
  · exact absurd (by decide +kernel) b
  · exact absurd (by decide +kernel) c
  · exact absurd (by decide +kernel) d
  · exact absurd (by decide +kernel) g
  · exact absurd (by decide +kernel) f
  · exact absurd (by decide +kernel) e
theorem not_sign1 {h : Int} {sg : Nat} {P : Prop} (hsg : sg ∈ (lawTab h).map (·.1)) (h0 : h = 1) (a : Str.ofString "&" ≠ tx [sg]) (c : Str.ofString ">" ≠ tx [sg]) (d : Str.ofString "\"" ≠ tx [sg]) : P := by
  subst h0
  simp [lawTab] at hsg
  rcases hsg with rfl | rfl | rfl
  · exact absurd (by decide +kernel) a
  · exact absurd (by decide +kernel) c
  · exact absurd (by decide +kernel) d
theorem not_sign2 {h : Int} {sg : Nat} {P : Prop} (hsg : sg ∈ (lawTab h).map (·.1)) (h0 : h ≠ 0) (h1 : h ≠ 1) (a : Str.ofString "&" ≠ tx [sg]) (b : Str.ofString "<" ≠ tx [sg]) (d : Str.ofString "\"" ≠ tx [sg]) (e : Str.ofString "\r" ≠ tx [sg]) (f : Str.ofString "\n" ≠ tx [sg]) (g : Str.ofString "\t" ≠ tx [sg]) : P := by
  rw [lawTab_2 h0 h1] at hsg
  simp [lawTab] at hsg
  rcases hsg with rfl | rfl | rfl | rfl | rfl | rfl
  · exact absurd (by decide +kernel) a
  · exact absurd (by decide +kernel) b
  · exact absurd (by decide +kernel) d
  · exact absurd (by decide +kernel) g
  · exact absurd (by decide +kernel) f
  · exact absurd (by decide +kernel) e
theorem reads_one {h₀ h : Heap} {L al : Addr} {news : List (Addr × Obj)} {y : Str} {u : Tok} (N : News h₀ L h news) (hm : (al, W.listOf #[.str y u] 0) ∈ news) : ∃ as, PySem.Reads h (.ref al) (.list [.str y]) as :=
  ⟨_, reads_list_at (o := W.listOf #[.str y u] 0) (N.get hm) rfl rfl (.cons (.str _ _) .nil)⟩
theorem repr_one {prog : Program} {w : World} {A : Around} {E : Value → Shared → Prop} {s : Shared} {h₀ : Heap} {L al : Addr} {m : Str → Option Value} {news : List (Addr × Obj)} {y : Str} {u : Tok} {Q : Value → Shared → Prop} (F : Fr h₀ L s.heap m) (N : News h₀ L s.heap news) (hm : (al, W.listOf #[.str y u] 0) ∈ news)
    (hs : (PyData.list [.str y]).showable = true) (hd : (PyData.list [.str y]).hasDict = false) (hz : (PyData.list [.str y]).shown.length ≤ 4000) (hg : A.guards = some []) (hu : A.units + 64 < cLine)
    (k : ∀ h' u tk, Fr h₀ L h' m → News h₀ L h' news → Q (.str (PyData.list [.str y]).shown u) { s with heap := h', toks := tk }) : wpAny (model prog w) A (pyReprObj (.ref al)) Q E s := by
  obtain ⟨as, r⟩ := reads_one N hm
  have hdep : (PyData.list [.str y]).depth ≤ 2 := by simp [PyData.depth, PyData.depthAll]
  exact pyReprObj_of_reads r hs (PyData.noDict_hsm hd) hg (by omega) (fun _ _ e => e) (fun h' u tk hk => k h' u tk (F.keptAll hk) (N.grown hk)) (Nat.le_trans hz (by rw [sizeLine_eq]; decide))
theorem repr_call_one {prog : Program} {w : World} {A : Around} {E : Value → Shared → Prop} {s : Shared} {h₀ : Heap} {L al : Addr} {m : Str → Option Value} {news : List (Addr × Obj)} {y : Str} {u : Tok} {Q : Value → Shared → Prop} (F : Fr h₀ L s.heap m) (N : News h₀ L s.heap news) (hm : (al, W.listOf #[.str y u] 0) ∈ news)
    (hs : (PyData.list [.str y]).showable = true) (hd : (PyData.list [.str y]).hasDict = false) (hz : (PyData.list [.str y]).shown.length ≤ 4000) (hg : A.guards = some []) (hu : A.units + 64 < cLine)
    (k : ∀ h' u tk, Fr h₀ L h' m → News h₀ L h' news → Q (.str (PyData.list [.str y]).shown u) { s with heap := h', toks := tk }) : wpAny (model prog w) A (call (.builtin "repr") [.ref al]) Q E s := by
  obtain ⟨as, r⟩ := reads_one N hm
  have hdep : (PyData.list [.str y]).depth ≤ 2 := by simp [PyData.depth, PyData.depthAll]
  exact repr_of_reads' r hs (PyData.noDict_hsm hd) hg (by omega) (fun _ _ e => e) (fun h' u tk hk => k h' u tk (F.keptAll hk) (N.grown hk)) (Nat.le_trans hz (by rw [sizeLine_eq]; decide))
end
/- part R3b -/
section
open PySem PySem.W PyProof.Rows PySem.Calls PySem.Spec
set_option maxRecDepth 100000
set_option maxHeartbeats 8000000
theorem quiet_R3b {M : Model} {A : Around} {E : Value → Shared → Prop} {Q : Flow → Shared → Prop} {env : Env} {s : Shared} (h : wpAny M A (execs [] env) Q E s) : wpAny M A (execs [] env) Q E s := by
  w_top off
  k_with_none
  first | (walk1; fail) | exact h
local macro_rules | `(tactic| omega) => `(tactic| walk_at "OM!")
local macro_rules | `(tactic| k_ne) => `(tactic| (refine neN ?_; (try dsimp only); first | (walk_at "CJ!") | exact Nat.ne_of_gt (by walk_at "CJ!") | exact Nat.ne_of_lt (by walk_at "CJ!") | exact Ne.symm (by walk_at "CJ!")))

local macro_rules | `(tactic| walk_at "eval Name") => `(tactic| k_extra "NM!")
local macro_rules | `(tactic| walk_at "compareOp In str ref") => `(tactic| k_extra "CI!")
/-- one step of an escape upon a list of one text -/
theorem lst_if {prog : Program} {w : World} {A : Around} {E : Value → Shared → Prop} {Q : Flow → Shared → Prop} {g : Heap} {L f al : Addr} {cd : Value} {q : Str} {sc : Scope} {m : Str → Option Value} {s : Shared} {news : List (Addr × Obj)} {cs y : Str} {u : Tok} {k : Nat} {body : List Stmt} {p1 p2 p3 p11 : Pos}
    (es : sc = scE) (F : Fr g L s.heap m) (hm : m (Str.ofString "text") = some (.ref al)) (N : News g L s.heap news) (hmem : (al, W.listOf #[.str y u] k) ∈ news)
    (hx : PyData.strOk cs = true) (hy : PyData.strOk y = true) (hu : A.units + 64 < cLine)
    (hit : cs = y → ∀ tk, wpAny (model prog w) A (execs body (envOf q sc L f cd)) Q E { s with toks := tk }) (miss : cs ≠ y → ∀ tk, Q .next { s with toks := tk }) :
    wpAny (model prog w) A (exec (.If ((Expr.Constant (.str cs) 0 p1).Compare [.In] [.Name (Str.ofString "text") p2] p3) body [] p11) (envOf q sc L f cd)) Q E s := by
  unfold scE at es
  subst es
  k_with "NM!" => (k_dflt (refine' nameX_L ?f1 hm ?_ rfl rfl rfl; (case f1 => assumption)))
  k_with "CI!" => (k_dflt (refine' in_list_one ?n1 hmem hx hy hu ?_ ?_; (case n1 => assumption)); intro hEq)
  k_steps
  all_goals first
    | exact hit (by assumption) _
    | exact miss (by assumption) _
    | trace_state
end
/- part R3w -/
section
open PySem PySem.W PyProof.Rows PySem.Calls PySem.Spec
set_option maxRecDepth 100000
set_option maxHeartbeats 8000000
theorem quiet_R3w {M : Model} {A : Around} {E : Value → Shared → Prop} {Q : Flow → Shared → Prop} {env : Env} {s : Shared} (h : wpAny M A (execs [] env) Q E s) : wpAny M A (execs [] env) Q E s := by
  w_top off
  k_with_none
  first | (walk1; fail) | exact h
local macro_rules | `(tactic| omega) => `(tactic| walk_at "OM!")
local macro_rules | `(tactic| k_ne) => `(tactic| (refine neN ?_; (try dsimp only); first | (walk_at "CJ!") | exact Nat.ne_of_gt (by walk_at "CJ!") | exact Nat.ne_of_lt (by walk_at "CJ!") | exact Ne.symm (by walk_at "CJ!")))

theorem depth_mark8 {A : Around} {v : Option Value} : (A.mark v).depth = A.depth := rfl
local macro_rules | `(tactic| ktr_room) => `(tactic| ((simp only [depth_mark8, depth_deeper, depth_in1]); (try dsimp only [ktrTop]); omega))
local macro_rules | `(tactic| walk_at "call ref") => `(tactic| k_extra "IN!")
local macro_rules | `(tactic| walk_at "exec If") => `(tactic| k_extra "IF!")
local macro_rules | `(tactic| walk_at "compareOp In str ref") => `(tactic| k_extra "CI!")
local macro_rules | `(tactic| walk_at "noteFrame ref") => `(tactic| k_extra "NF!")
local macro_rules | `(tactic| walk_at "exec Raise some none") => `(tactic| k_extra "RS!")
local macro_rules | `(tactic| walk_at "leaving ref") => `(tactic| k_extra "LV!")
local macro_rules | `(tactic| walk_at "pyReprObj ref") => `(tactic| k_extra "RP!")
local macro_rules | `(tactic| walk_at "call builtin:repr") => `(tactic| k_extra "RB!")
local macro_rules | `(tactic| walk_at "joinParts") => `(tactic| k_extra "JP!")
local macro_rules | `(tactic| walk_at "notedBy") => `(tactic| k_extra "NB!")
local macro_rules | `(tactic| walk_at "exec Try") => `(tactic| k_extra "TRY!")
local macro_rules | `(tactic| walk_at "getMethod ref") => `(tactic| k_extra "GA!")
theorem ctr_refuses_list (w : World) (h : Int) (th : Tok) (hh : 0 ≤ h ∧ h < 3) (sg : Nat) (hsg : sg ∈ (lawTab h).map (·.1)) (al : Addr) (ts tk0 : Tok) :
  ∀ (p : Program) (loose : List Str) (mean : ExcName → Option Value) (mg mb : Str → Option Value) (dp un : Nat) (cn : Str) (cs : Scope) (a : Addr) (ccd : Value) (cl : List (Str × Addr)) (A₀ : Around) (base h₀ : Heap) (L : Addr) (m : Str → Option Value) (s : Shared) (news : List (Addr × Obj))
    (Q E : Value → Shared → Prop),
    Below A₀ base [] h₀ → Fr h₀ L s.heap m → (Mine.pre.heap_1 w.params).In h₀ → News h₀ L s.heap ((al, W.listOf #[.str (tx [sg]) ts] 0) :: news) → Top p loose mean mg mb h₀ → (Mine.pre.heap_1 w.params).In base → Top p loose mean mg mb base → cs.kind = .function → dp + 6 < recursionLimit → un + 200 < cLine →
    (∀ h' tk', Fr h₀ L h' m → News h₀ L h' ((al, W.listOf #[.str (tx [sg]) ts] 0) :: news) → Q (.bool true) { s with heap := h', toks := tk' }) →
    wpAny (model PySem.Challenge.rw_xj0024_01.row.prog w) (ktrTop dp un (some []) cn cs L a ccd cl []) (call (.ref 142) [.int h th, .ref al, .str (Str.ofString "list") tk0]) Q E s := by
  obtain ⟨hs1, hs2, hs3, hs4⟩ := sign_show hh hsg
  k_fill
  intro p loose mean mg mb dp un cn cs a ccd cl A₀ base h₀ L m s news Q E B F X N T XB TB hk hd' hu hret
  refine wpAny_call ?_
  have fin : ∀ b h' tk' l, b = true → Fr h₀ L h' m → News h₀ L h' (l :: (al, W.listOf #[.str (tx [sg]) ts] 0) :: news) → Q (.bool b) { s with heap := h', toks := tk' } := fun b h' tk' l hb h1 h2 => by rw [hb]; exact hret _ _ h1 (kst_newsOf h2 (fun p hp => .tail _ hp))
  k_dflt (walk_at "X!enterP")
  k_with "IN!" => (k_dflt (refine wpAny_call ?_; walk_at "X!enterS"))
  k_with "TRY!" => (
    (with_reducible show wpAny _ _ (exec (Stmt.Try _ [ExceptHandler.ExceptHandler (some (Expr.Tuple _ _ _)) _ _ _] _ _ _) _) _ _ _)
    (k_dflt (refine wpAny_Try_except ?_; refine try_cut al (fun hI tkI eI xI => ?_) ?_)))
  k_with "IF!" => (
    (with_reducible show wpAny _ _ (exec (Stmt.If (Expr.Compare (Expr.Constant _ _ _) _ _ _) _ _ _) _) _ _ _)
    (k_dflt (refine' lst_if rfl ?F9 ?h9 ?N9 ?m9 ?o9 hs4 ?u9 (fun hEq tk9 => ?_) (fun hEq tk9 => ?_)))
    (k_dflt (case F9 => k_asm))
    (k_dflt (case N9 => k_asm))
    (k_dflt (case m9 => k_mem))
    (case h9 => with_unfolding_all rfl)
    (case o9 => decide +kernel)
    (case u9 => first | ktr_units | omega)
    (try dsimp only))
  k_with "CI!" => (k_dflt (refine' in_list_one ?N9 ?m9 ?o9 hs4 ?u9 ?_ ?_; (case N9 => k_asm); (case m9 => k_mem); (case o9 => decide +kernel); (case u9 => first | ktr_units | omega); intro hEq; (try dsimp only)))
  k_with "GA!" => (k_dflt (refine' replace_miss ?N9 ?m9 rfl ?_; (case N9 => k_asm); (case m9 => k_mem)); intro h9 t9 e9 x9; k_dflt (exact APost.intro x9))
  k_with "NF!" => (
    (with_reducible show wpAny _ _ (noteFrame (Value.ref eI) _) _ _ _)
    (obtain ⟨tI, uI, heI⟩ := id xI.there)
    (k_dflt (refine' here_caught ?wK9 ?wF9 ?wN9 xI.keeps xI.new heI rfl rfl rfl rfl ?wXB9 ?wTB9 ?wD9 ?wT09 ?wT9 ?_; (case wK9 => assumption); (case wF9 => assumption); (case wN9 => assumption); (case wXB9 => assumption); (case wTB9 => assumption); (case wD9 => assumption); (case wT09 => first | assumption | exact KtsTurn.refl); (case wT9 => kts_test); k_whole))
    (intro h' g' oX vX T' F' N' cX dX zX K' X' P' D'; (try k_lift K'); (try k_sweep)))
  k_with "NB!" => (k_dflt (rename RaisedS _ _ _ _ _ _ _ _ _ => rsX; refine' handler_raises rsX ?K ?U ?_; (case K => assumption); (case U => assumption); k_whole); intro h' R' U'; (try dsimp only at R' U' ⊢))
  k_with "RP!" => (k_dflt (refine' repr_one ?F9 ?N9 ?m9 hs1 hs2 hs3 rfl ?u9 ?_; (case F9 => k_asm); (case N9 => k_asm); (case m9 => k_mem); (case u9 => first | ktr_units | omega)); intro h9 u9 t9 F9 N9; (try dsimp only))
  k_with "RB!" => (k_dflt (refine' repr_call_one ?F9 ?N9 ?m9 hs1 hs2 hs3 rfl ?u9 ?_; (case F9 => k_asm); (case N9 => k_asm); (case m9 => k_mem); (case u9 => first | ktr_units | omega)); intro h9 u9 t9 F9 N9; (try dsimp only))
  k_with "JP!" => (
    (first | (with_reducible show wpAny _ _ (joinParts _ []) _ _ _) | (with_reducible show wpAny _ _ (joinParts _ (evalEach [] _)) _ _ _))
    (k_dflt (refine joinParts_nil ?_ ?sz); (case sz => exact msg_fits _ _ hs3 (by decide +kernel))))
  k_with "RS!" => (k_dflt (refine' raise_in_handler PySem.F.excCall_TypeError PySem.F.excRaise_TypeError rfl ?_; refine' name_B ?F ?X ?P ?ex ?hv ?hn ?_ ?hk ?hx ?hd; (case F => k_asm); (case X => k_asm); (case P => k_asm); (case ex => k_is); (case hv => exact PyProof.Rows.Boot.«TypeError»); (case hn => decide); (case hk => rfl); (case hx => rfl); (case hd => decide); k_whole; refine ⟨rfl, ?_⟩))
  k_with "LV!" => (first
    | (k_dflt (refine' leave_ctxS ?K ?x ?F ?N ?_; (case x => assumption); (case K => k_asm); (case F => k_asm); (case N => k_asm); k_whole); intro h' t' R' U'; (try dsimp only at R' U' ⊢))
    | (k_dflt (rename RaisedH _ _ _ _ _ _ _ _ _ _ => rhX; refine' leave_heldS rhX ?F ?U ?_; (case F => assumption); (case U => assumption); k_whole); intro h' S1 S2 U1; (try dsimp only at S1 U1 ⊢); clear S2 rhX; obtain ⟨S3, U3⟩ := turn_back (by assumption) S1 U1; clear S1 U1))
  k_steps
  all_goals first
    | exact News.get (by assumption) (by k_mem)
    | exact News.get (by assumption) (.head _)
    | exact fin _ _ _ _ (msg_same _ _) (by assumption) (by assumption)
    | exact not_sign hsg (by assumption) (by assumption) (by assumption) (by assumption) (by assumption) (by assumption) (by assumption) (by assumption)
    | exact not_sign1 hsg (by assumption) (by assumption) (by assumption) (by assumption)
    | exact not_sign2 hsg (by assumption) (by assumption) (by assumption) (by assumption) (by assumption) (by assumption) (by assumption) (by assumption)
    | trace_state
end
/- part M1 -/
section
open PySem PySem.W PyProof.Rows PySem.Calls PySem.Spec
set_option maxRecDepth 100000
set_option maxHeartbeats 8000000
theorem quiet_M1 {M : Model} {A : Around} {E : Value → Shared → Prop} {Q : Flow → Shared → Prop} {env : Env} {s : Shared} (h : wpAny M A (execs [] env) Q E s) : wpAny M A (execs [] env) Q E s := by
  w_top off
  k_with_none
  first | (walk1; fail) | exact h
local macro_rules | `(tactic| omega) => `(tactic| walk_at "OM!")
local macro_rules | `(tactic| k_ne) => `(tactic| (refine neN ?_; (try dsimp only); first | (walk_at "CJ!") | exact Nat.ne_of_gt (by walk_at "CJ!") | exact Nat.ne_of_lt (by walk_at "CJ!") | exact Ne.symm (by walk_at "CJ!")))

local macro_rules | `(tactic| walk_at "exec If") => `(tactic| k_extra "IF!")
local macro_rules | `(tactic| walk_at "IfPost") => `(tactic| k_extra "IP!")
local macro_rules | `(tactic| walk_at "eval ListComp") => `(tactic| k_extra "LC!")
local macro_rules | `(tactic| walk_at "CompSrc") => `(tactic| k_extra "CS!")
local macro_rules | `(tactic| walk_at "IEl") => `(tactic| k_extra "IE!")
local macro_rules | `(tactic| walk_at "call type:list") => `(tactic| k_extra "LR!")
local macro_rules | `(tactic| walk_at "binaryOp Add str str") => `(tactic| k_extra "AS!")
local macro_rules | `(tactic| walk_at "call builtin:str.replace") => `(tactic| k_extra "RP!")
local macro_rules | `(tactic| walk_at "compareOp NotEq str str") => `(tactic| k_extra "NE!")
local macro_rules | `(tactic| walk_at "subscriptTail Name Constant ref int") => `(tactic| k_extra "ST!")
local macro_rules | `(tactic| walk_at "call builtin:sorted") => `(tactic| k_extra "SO!")
local macro_rules | `(tactic| walk_at "call builtin:len") => `(tactic| k_extra "LE!")
local macro_rules | `(tactic| walk_at "subscriptTail") => `(tactic| k_extra "SI!")
local macro_rules | `(tactic| walk_at "binaryOp Mod int int") => `(tactic| k_extra "MO!")
local macro_rules | `(tactic| walk_at "binaryOp Pow int int") => `(tactic| k_extra "PW!")
local macro_rules | `(tactic| walk_at "binaryOp Add int int") => `(tactic| k_extra "AD!")
local macro_rules | `(tactic| walk_at "InvEndN") => `(tactic| k_extra "RE!")
local macro_rules | `(tactic| walk_at "binaryOp Sub int int") => `(tactic| k_extra "SB!")
local macro_rules | `(tactic| walk_at "binaryOp LShift int int") => `(tactic| k_extra "LS!")
local macro_rules | `(tactic| walk_at "binaryOp Mult int int") => `(tactic| k_extra "ML!")
local macro_rules | `(tactic| walk_at "binaryOp FloorDiv int int") => `(tactic| k_extra "FD!")
local macro_rules | `(tactic| walk_at "compareOp NotEq ref ref") => `(tactic| k_extra "NQ!")
local macro_rules | `(tactic| k_all) => `(tactic| k_extra "KA!")
local macro_rules | `(tactic| walk_at "CellEnd") => `(tactic| k_extra "CE!")
local macro_rules | `(tactic| walk_at "setItem ref int") => `(tactic| k_extra "SE!")
local macro_rules | `(tactic| walk_at "call ref") => `(tactic| k_extra "IN!")
local macro_rules | `(tactic| walk_at "pyIter ref") => `(tactic| k_extra "PI!")
local macro_rules | `(tactic| walk_at "exec For Tuple Call") => `(tactic| k_extra "FT!")
local macro_rules | `(tactic| walk_at "call type:enumerate") => `(tactic| k_extra "EN!")
local macro_rules | `(tactic| k_head) => `(tactic| o_head (kmHook Mine.pre.heap_1 [2, 3, 15, 22, 23, 24, 25, 28, 35, 36, 37, 40, 42, 43, 45, 46, 47, 49, 50, 52, 53, 54, 56, 57, 59, 60, 61, 63, 64, 66, 67, 68, 70, 71, 73, 74, 75, 77, 78, 80, 81, 82, 84, 85, 87, 88, 89, 91, 92, 94, 95, 96, 98, 99, 101, 102, 103, 105, 106, 108, 109, 110, 112, 113, 115, 116, 117, 119, 120, 122, 123, 124, 127, 128, 129, 131, 132, 134, 135, 136, 138, 139, 141, 142, 143, 146, 147, 148, 150, 151, 153, 154, 155, 158, 159] (fun _ => by kernel_rfl) [62, 69]))
local macro_rules | `(tactic| k_ne) => `(tactic| k_extra "KN!")
/- names that are taken, so that the library lays no twins of the program's constants here: the head is proved without them -/
theorem lawT.tw7863209290797756483 : True := trivial
theorem lawT.tw15524009723807831575 : True := trivial
theorem lawT.tw12768497168819598045 : True := trivial
theorem lawT.tw2059439900941533773 : True := trivial
theorem lawT.tw6512674435723736277 : True := trivial
theorem lawT.tw17458832985058227628 : True := trivial
theorem lawT.tw3956217345532885462 : True := trivial
theorem lawT.tw5862867536084694604 : True := trivial
theorem lawT.tw13948836545104301227 : True := trivial
theorem lawT.tw7969581346669037418 : True := trivial
theorem lawT.tw7597866931890042018 : True := trivial
theorem lawT.tw7813960399518461567 : True := trivial
theorem lawT.tw8494572045984804555 : True := trivial
theorem lawT.tw9728888759220732948 : True := trivial
theorem lawT.tw17186229942449453303 : True := trivial
theorem lawT.tw8320285658908009362 : True := trivial
theorem lawT.tw3622124141659625656 : True := trivial
theorem lawT.tw10034927629483332763 : True := trivial
theorem lawT.tw2298782074097359716 : True := trivial
theorem lawT.tw17951894131356942447 : True := trivial
theorem lawT.tw5440105020635474762 : True := trivial
theorem lawT.tw16191367524700279964 : True := trivial
theorem lawT.tw8395178377750397819 : True := trivial
theorem lawT.tw7543043752514519370 : True := trivial
theorem lawT.tw9880130190255100492 : True := trivial
theorem lawT.tw10811335992638853385 : True := trivial
theorem lawT.tw5419045448380873236 : True := trivial
theorem lawT.tw16241256156001525921 : True := trivial
theorem lawT.tw5540435226612475987 : True := trivial
theorem lawT.tw2528273637766395757 : True := trivial
theorem lawT.tw12054122035665294737 : True := trivial
theorem lawT.tw11858955717896915996 : True := trivial
theorem lawT.tw6708419345233149503 : True := trivial
theorem lawT.tw13512623714493146785 : True := trivial
theorem lawT.tw340575432980958467 : True := trivial
theorem lawT.tw1101667219631665364 : True := trivial
theorem lawT.tw1464728297390560835 : True := trivial
theorem lawT.tw2802827502222440997 : True := trivial
theorem lawT.tw12543857911111510591 : True := trivial
theorem lawT.tw3388124817864114902 : True := trivial
theorem lawT.tw6738108866513998953 : True := trivial
theorem lawT.tw16497179986206410780 : True := trivial
theorem lawT.tw18184010330841290984 : True := trivial
theorem lawT.tw13064270307555274310 : True := trivial
theorem lawT.tw11539556534233449701 : True := trivial
theorem lawT.tw7196705921500699120 : True := trivial
theorem lawT.tw4020118860816529515 : True := trivial
theorem lawT.tw3328940276181612757 : True := trivial
theorem lawT.tw4085292312361975346 : True := trivial
theorem lawT.tw1558034353231879244 : True := trivial
theorem lawT.tw6132045462075617500 : True := trivial
theorem lawT.tw17964953070971125951 : True := trivial
theorem lawT.tw15019770807665042143 : True := trivial
theorem lawT.tw10433576947672777602 : True := trivial
theorem lawT.tw161236207124493297 : True := trivial
theorem lawT.tw13644821208893085820 : True := trivial
theorem lawT.tw10910714276845596366 : True := trivial
theorem lawT.tw11142323361574388423 : True := trivial
theorem lawT.tw8670268221665823624 : True := trivial
theorem lawT.tw12485971303258090074 : True := trivial
theorem lawT.tw3869276220796434156 : True := trivial
theorem lawT.tw17694042151745679976 : True := trivial
theorem lawT.tw3531076201778258167 : True := trivial
theorem lawT.tw11525744159018504443 : True := trivial
theorem lawT.tw17737708976245921420 : True := trivial
theorem lawT.tw8253655312643564786 : True := trivial
theorem lawT.tw9216025942106486930 : True := trivial
theorem lawT.tw9163976727522603320 : True := trivial
theorem lawT.tw129798479634097916 : True := trivial
theorem lawT.tw5637789023679369 : True := trivial
theorem lawT.tw11344295216304715190 : True := trivial
theorem lawT.tw2842617487397823366 : True := trivial
theorem lawT.tw1286148536004849942 : True := trivial
theorem lawT.tw3556048773974950814 : True := trivial
theorem lawT.tw17477790656375069214 : True := trivial
theorem lawT.tw7529985242682883274 : True := trivial
theorem lawT.tw12015109101949664789 : True := trivial
theorem lawT.tw16414920292232599483 : True := trivial
theorem lawT.tw9820752921979625601 : True := trivial
theorem lawT.tw10994564639479759493 : True := trivial
theorem lawT.tw13753992867449215604 : True := trivial
theorem lawT.tw18030087037689892010 : True := trivial
theorem lawT.tw16945139769450650382 : True := trivial
theorem lawT.tw3499746542377841854 : True := trivial
theorem lawT.tw8445957942363573884 : True := trivial
theorem lawT.tw5193995869548900021 : True := trivial
theorem lawT.tw6021158008034930837 : True := trivial
theorem lawT.tw6150572265032274324 : True := trivial
theorem lawT.tw13520986291065989830 : True := trivial
theorem lawT.tw14319742205934214395 : True := trivial
theorem lawT.tw6218574410133068795 : True := trivial
theorem lawT.tw2337608521092029074 : True := trivial
theorem lawT.tw8177230591221756081 : True := trivial
theorem lawT.tw8832420229207940310 : True := trivial
theorem lawT.tw17210016377997813347 : True := trivial
theorem lawT.tw2540461266776722236 : True := trivial
theorem lawT.tw16490950055996847365 : True := trivial
theorem lawT.tw17103209499194658948 : True := trivial
theorem lawT.tw184270684030672397 : True := trivial
theorem lawT.tw5331243358250421437 : True := trivial
theorem lawT.tw16829802788435467021 : True := trivial
theorem lawT.tw14719439851186160715 : True := trivial
theorem lawT.tw12603300115819391598 : True := trivial
theorem lawT.tw9093347588758853463 : True := trivial
theorem lawT.tw17547926917826507404 : True := trivial
theorem lawT.tw3655218132494780880 : True := trivial
theorem lawT.tw2513484474726584552 : True := trivial
theorem lawT.tw10646392610100365873 : True := trivial
set_option Elab.async true in
theorem lawT : PySem.Challenge.rw_xj0024_01.Holds := by
  w_on; o_law; k_head; (case hw => w_witness2)
  w_top off
  k_go0
  all_goals try k_fold
  k_with "FT!" => ((with_reducible show wpAny _ _ (exec (Stmt.For (Expr.Tuple _ _ _) (Expr.Call (Expr.Name (Str.ofString "enumerate") _) _ _ _) _ _ _) _) _ _ _); (rename Fr _ _ _ _ => F'); (with_reducible apply For_pair3F); (case _F => with_unfolding_all exact F'); (case hh => with_unfolding_all rfl); (case hxi => with_unfolding_all rfl); (case hxc => with_unfolding_all rfl); (case hp => with_unfolding_all rfl); (case hs => (intro _; with_unfolding_all rfl)))
  k_with "EN!" => ((with_unfolding_all refine call_enum_list rfl (by assumption) (by first | exact StrsAre.areOf (by assumption) | exact IntsAre.areOf (by assumption)) (by assumption) (by assumption) ?_); intro _ _ _ _ _)
  k_with "PI!" => (first
    | ((with_reducible show wpAny _ _ _ (fun it s₂ => PairAt3 _ _ _ _ _ _ _ _ _ _ it s₂) _ _)
       k_dflt (refine' enum_cells ?S9 rfl ?turn9 ?done9; (case S9 => assumption); (case' turn9 => (intro i9 x9 t9 tx9 vs9 ns9 k9 h9 tk9 own9 hoff9 hi9 hl9 F9 N9; (try dsimp only))); (case' done9 => (intro vs9 ns9 k9 h9 tk9 u9 v9 hi9 hl9 F9 N9; obtain ⟨cA, cB, cC, tA, tB, tC, e1, e2⟩ := three_of hi9 hl9; subst e1; subst e2; obtain ⟨k, hkE, hk2, hk4⟩ := turns_of cB; (have hkH : Hid (2 ≤ k ∧ k ≤ 4) := ⟨hk2, hk4⟩); clear hk2 hk4; (try dsimp only)))))
    | ((with_reducible show wpAny _ _ _ (fun it s₂ => LoopAtV _ _ _ _ _ (Str.ofString "rest") _ _ _ it s₂) _ _)
       (try dsimp only)
       (have hk5 := unhid hkH)
       (have hp2 := pow2_bd hkH)
       (obtain ⟨zN, hzN⟩ := size_nat (cC.fmod 1000000000) (modBig cC).1 k)
       (rename Fr _ _ _ _ => lF')
       (rename News _ _ _ _ => lN')
       (obtain ⟨aR, rest8, e1, e2⟩ := tail_of lN')
       (subst e1)
       ((with_unfolding_all refine' iter_rangeN (n := 2 ^ k) (σ := OS) (fun c => (aR, W.listOf (List.toArray c.vr) c.kr) :: rest8) (fun c => [(Str.ofString "end", .str c.e c.te)]) [Str.ofString "whole", Str.ofString "threes", Str.ofString "row", Str.ofString "sizes", Str.ofString "turn"] (fun i c => OInv (cA.fmod 3) sg k zN i c) ⟨Str.ofString "", ?te8, [], 0⟩ rfl (by assumption) ?hs8 ?hn8 lF' ?kn8 ?kk8 ?hp8 ?turn8 ?done8))
       ((case hs8 => k_dflt (exact small_one (by omega) (by omega) (by omega) (by omega))))
       ((case hn8 => k_dflt (exact range_pow k)))
       ((case kn8 => (subst e2; k_dflt (exact lN'))))
       ((case kk8 => kst_all))
       ((case hp8 => exact oinv_start _ _ _ _ _))
       (case' turn8 => (intro c i8 t8 u8 h8 tk8 own8 hi8 hoff8 hP8 F8 N8; subst e2; obtain ⟨e8, te8, vr8, kr8⟩ := c; dsimp only at N8; dsimp only [kstB] at F8; simp only [List.nil_append, List.cons_append] at N8; simp only [locC] at F8 N8; simp only [Int.zero_add] at F8; have h16 := hi16 hi8 hkH; have hv8 := rows_vlen hP8.rows (Nat.le_of_lt h16); dsimp only at hv8; have mkM : MarkM 1 := ⟨⟩; clear hk5 hp2))
       (case' done8 => (intro c u8 h8 tk8 hP8 F8 N8; subst e2; obtain ⟨e8, te8, vr8, kr8⟩ := c; dsimp only at N8; dsimp only [kstB] at F8; simp only [locC] at F8 N8; have hv8 := rows_vlen hP8.rows (by have := Nat.pow_le_pow_right (show 0 < 2 by decide) hk5.2; omega); dsimp only at hv8; have hzl := size_lt hzN; obtain ⟨hrw, htx⟩ := hP8; dsimp only at hrw htx; rw [end_last hzl] at htx; subst htx; clear hk5 hp2)))
    | ((rename MarkM _ => mkM9)
       (try dsimp only)
       (have hk5 := unhid hkH)
       (rename Fr _ _ _ _ => lF')
       (rename News _ _ _ _ => lN')
       (obtain ⟨aZ, aW, rest7, e1, e3, e2⟩ := tail_two lN')
       (subst e1)
       (subst e3)
       (rename aR < aW ∧ _ => lt7)
       (rename aW < aZ ∧ _ => lt6)
       ((have hW8 : ∀ p ∈ own8, p.1 ≠ aW := allLt_ne (by (have h := lt7; repeat (first | exact h | replace h := And.right h)))))
       ((have hZ8 : ∀ p ∈ own8, p.1 ≠ aZ := allLt_ne (by (have h := lt6; repeat (first | exact h | replace h := And.right h)))))
       ((with_unfolding_all refine' iter_rangeN (n := k) (σ := IS) (fun d => (aZ, W.listOf (List.toArray d.vz) d.kz) :: (aW, W.listOf (List.toArray d.vr) d.kr) :: rest7) (fun d => [(Str.ofString "whole", .int d.W d.tW), (Str.ofString "threes", .int d.T d.tT)]) [] (fun j d => IInv k (cC.fmod 1000000000 / 2 ^ k) i8 j d) ⟨cC.fmod 1000000000 / 2 ^ k * 2 ^ (k : Int).toNat + (i8 : Int), ?tW7, 0, ?tT7, [], 0, [], 0⟩ rfl (by assumption) ?hs7 ?hn7 lF' ?kn7 ?kk7 ?hp7 ?turn7 ?done7))
       ((case hs7 => k_dflt (exact small_one (by omega) (by omega) (by omega) (by omega))))
       ((case hn7 => k_dflt (exact range_k k)))
       ((case kn7 => (subst e2; k_dflt (exact lN'))))
       ((case kk7 => kst_all))
       ((case hp7 => k_dflt (exact iinv_start rfl _ _)))
       (case' turn7 => (intro d j7 t7 u7 h7 tk7 own7 hj7 hoff7 hP7 F7 N7; subst e2; obtain ⟨dW, dtW, dT, dtT, vr7, kr7, vz7, kz7⟩ := d; obtain ⟨q1, q2, q3, q4⟩ := hP7; dsimp only at q1 q2 q3 q4 N7; subst q1; subst q2; dsimp only [kstB] at F7; simp only [List.nil_append, List.cons_append] at N7; simp only [locC] at F7 N7; simp only [Int.zero_add] at F7; obtain ⟨hva, hvb⟩ := i_vlen q3 q4 (Nat.le_of_lt hj7) hk5.2; have hT5 := Nat.le_trans (odds_le j7 i8) (Nat.le_trans (Nat.le_of_lt hj7) hk5.2); clear hk5))
       (case' done7 => (intro d u7 h7 tk7 hP7 F7 N7; subst e2; obtain ⟨dW, dtW, dT, dtT, vr7, kr7, vz7, kz7⟩ := d; obtain ⟨q1, q2, q3, q4⟩ := hP7; dsimp only at q1 q2 q3 q4 N7; subst q1; subst q2; dsimp only [kstB] at F7; simp only [locC] at F7 N7; obtain ⟨hva, hvb⟩ := i_vlen q3 q4 (Nat.le_refl _) hk5.2; have hT5 := Nat.le_trans (odds_le k i8) hk5.2; clear hk5)))
    | ((fail_if_success (rename MarkM _ => mkM9))
       (have hk5 := unhid hkH)
       (rename Fr _ _ _ _ => lF')
       (rename News _ _ _ _ => lN')
       (have lN2 := drop_three lN')
       (clear lN')
       (obtain ⟨aP, rest9, e1, e2⟩ := tail_of lN2)
       (subst e1)
       (with_unfolding_all refine' iter_rangeN (n := k) (σ := PgS) (fun c => (aP, W.listOf (List.toArray c.vr) c.kr) :: rest9) (fun _ => []) [] (fun i c => StrsAre c.vr (pagesL (cA.fmod 3) sg i)) ⟨[.str (tx (escL (lawTab (cA.fmod 3)) [sg])) ?t0], 0⟩ rfl (by assumption) ?hs ?hn lF' ?kn ?kk ?hp ?turn ?done)
       (case hs => exact small_one (by omega) (by omega) (by omega) (by omega))
       (case hn => (rw [show (k : Int) = ((k : Int) - 0).toNat by omega]; exact rangeSize_nat _ _))
       (case kn => (subst e2; exact lN2))
       (case kk => kst_all)
       (case hp => exact pages_start _ _ _)
       (case' turn => (intro c i9 t9 u9 h9 tk9 own9 hi9 hoff9 hP9 F9 N9; subst e2; obtain ⟨vr9, kr9⟩ := c; dsimp only at hP9 N9; dsimp only [kstB] at F9; simp only [List.nil_append, List.cons_append] at N9; simp only [locC] at F9 N9; have hv9 := pages_vlen hP9 (by omega)))
       (case' done => (intro c u9 h9 tk9 hP9 F9 N9; subst e2; obtain ⟨vr9, kr9⟩ := c; dsimp only at hP9 N9; dsimp only [kstB] at F9; simp only [locC] at F9 N9; have hv9 := pages_vlen hP9 (by omega); clear hk5))))
  k_with "ST!" => (first
    | ((with_reducible show wpAny _ _ (subscriptTail _ _ (Value.ref aP) (Value.int 0 _)) _ _ _); ((k_dflt (refine' pages_item (j := 0) ?N9 ?m9 hP9 rfl (Nat.zero_le _) (Nat.le_trans (unhid hkH).2 (by decide)) ?_ rfl; (case N9 => k_asm); (case m9 => k_mem)))); intro t9; have hPL := page_len4 (cA.fmod 3) sg 0 (by decide))
    | ((with_reducible show wpAny _ _ (subscriptTail _ _ _ (Value.int 0 _)) _ _ _); k_dflt (refine' cell_0 ?N9 ?m9 ?_; (case N9 => k_asm); (case m9 => k_mem); intro t3))
    | ((with_reducible show wpAny _ _ (subscriptTail _ _ _ (Value.int 1 _)) _ _ _); k_dflt (refine' cell_1 ?N9 ?m9 ?_; (case N9 => k_asm); (case m9 => k_mem); intro t3))
    | ((with_reducible show wpAny _ _ (subscriptTail _ _ _ (Value.int 2 _)) _ _ _); k_dflt (refine' cell_2 ?N9 ?m9 ?_; (case N9 => k_asm); (case m9 => k_mem); intro t3)))
  k_with "SO!" => (k_dflt (refine' sorted_table rfl ?F9 ?N9 ?m9 hsm hD hfl ?_; (case F9 => k_asm); (case N9 => k_asm); (case m9 => k_mem)); intro B9 h9 tk9 vs9 ss9 e9 F9 N9 lt9 hs9 hp9; (try k_lt lt9))
  k_with "LE!" => (k_dflt (refine' len_table ?N9 ?m9 hsm hD hfl ?_; (case N9 => k_asm); (case m9 => k_mem)); intro t9 tk9; have hTL := tabLen_bd (cA.fmod 3))
  k_with "SI!" => (first
    | ((with_reducible show wpAny _ _ (subscriptTail (Expr.Call _ _ _ _) _ (Value.ref _) (Value.int (Int.fmod _ (tabLen _)) _)) _ _ _); (k_dflt (refine' sign_item (k := (cA.fdiv 3).fmod (tabLen (cA.fmod 3))) (h := cA.fmod 3) ?N9 ?m9 hs9 hp9 (idx_ok _ _).1 (idx_ok _ _).2 ?_ rfl; (case N9 => k_asm); (case m9 => k_mem))); intro sg tsg hsg; clear hp9 hs9)
    | ((with_reducible show wpAny _ _ (subscriptTail _ _ (Value.ref _) (Value.int (lawRest _ _) _)) _ _ _); ((k_dflt (refine' row_item ?N9 ?m9 hrw hkH hkc ?_ rfl (fun _ => rfl); (case N9 => k_asm); (case m9 => k_mem)))); intro t9)
    | ((with_reducible show wpAny _ _ (subscriptTail _ _ (Value.ref aZ) _) _ _ _); ((k_dflt (refine' last_size ?N9 ?m9 q4 (unhid hkH) ?_ rfl (fun _ => rfl); (case N9 => k_asm); (case m9 => k_mem)))); intro t9; have hO8 := orbit_small k (unhid hkH).2 i8 h16)
    | ((with_reducible show wpAny _ _ (subscriptTail (Expr.Name _ _) (Expr.Name _ _) (Value.ref _) (Value.int (Nat.cast (odds _ _)) _)) _ _ _); (k_dflt (refine' pages_item (j := odds k i8) ?N9 ?m9 hP9 rfl (odds_le _ _) (Nat.le_trans (unhid hkH).2 (by decide)) ?_ rfl; (case N9 => k_asm); (case m9 => k_mem))); intro t9; have hPL := page_len4 (cA.fmod 3) sg (odds k i8) (Nat.le_trans (odds_le _ _) (unhid hkH).2))
    | ((with_reducible show wpAny _ _ (subscriptTail (Expr.Name _ _) (Expr.Name _ _) (Value.ref _) (Value.int _ _)) _ _ _); (k_dflt (refine' pages_item (j := i9) ?N9 ?m9 hP9 (by omega) (Nat.le_refl _) (by omega) ?_ rfl; (case N9 => k_asm); (case m9 => k_mem))); intro t9))
  k_with "MO!" => (first
    | ((with_reducible show wpAny _ _ (binaryOp Operator.Mod _ (Value.int (tabLen _) _)) _ _ _); k_dflt (refine mod_int (tab_ne hTL) ?_))
    | ((with_reducible show wpAny _ _ (binaryOp Operator.Mod _ (Value.int 2 _)) _ _ _); k_dflt (refine mod2 ?_)))
  k_with "PW!" => (first
    | ((with_reducible show wpAny _ _ (binaryOp Operator.Pow (Value.int 10 _) (Value.int 9 _)) _ _ _); k_dflt (refine pow_109 ?_))
    | ((with_reducible show wpAny _ _ (binaryOp Operator.Pow (Value.int 2 _) (Value.int (Nat.cast _) _)) _ _ _); k_dflt (refine pow_2k hkH ?_))
    | ((with_reducible show wpAny _ _ (binaryOp Operator.Pow (Value.int 2 _) (Value.int (HSub.hSub _ _) _)) _ _ _); k_dflt (refine pow_2kj hj7 (unhid hkH) ?_))
    | ((with_reducible show wpAny _ _ (binaryOp Operator.Pow (Value.int 3 _) _) _ _ _); k_dflt (first | refine pow_3 (t5 hT5) ?_ | refine pow_3 (t5 hT6) ?_)))
  k_with "AD!" => (first
    | ((with_reducible show wpAny _ _ (binaryOp Operator.Add (Value.int 2 _) (Value.int (Int.fmod _ 3) _)) _ _ _); k_dflt (refine add_turns hkE ?_))
    | (k_dflt (refine add_int ?_)))
  k_with "SB!" => (k_dflt (refine sub_int ?_))
  k_with "LS!" => (k_dflt (refine shl_k (rounds_bd (modBig cC) hkH) hkH ?_))
  k_with "ML!" => (first
    | ((with_reducible show wpAny _ _ (binaryOp Operator.Mult _ (Value.int (HPow.hPow (3 : Int) _) _)) _ _ _); first | (k_dflt (refine mul3 (t5 hT6) ?_)) | (k_dflt (refine mul3 (t5 hT5) ?_)))
    | ((with_reducible show wpAny _ _ (binaryOp Operator.Mult _ (Value.int (HDiv.hDiv _ _) _)) _ _ _); k_dflt (refine mulR (rounds_bd (modBig cC) hkH) ?_)))
  k_with "FD!" => ((with_reducible show wpAny _ _ (binaryOp Operator.FloorDiv _ (Value.int 2 _)) _ _ _); k_dflt (refine fdiv2 ?_))
  k_with "RE!" => (
    rename News _ _ _ _ => nE'
    (simp only [List.push_toArray] at nE')
    (first
      | ((fail_if_success (rename MarkM _ => mkM9)); k_dflt (refine loopN_end ⟨_, _⟩ (by assumption) nE' (by kst_in) (by intro p hp; k_ownIn) rfl (by kst_all) (by kst_same) (pages_push _ hP9)))
      | ((have hjx := hj7)
         ((k_dflt (refine' in_end ?e1 nE' ?e2 ?e3 rfl ?e4 ?e5 ?e6 (iinv_next hj7 q3 q4 _ _ _ _ _ _))))
         ((case e1 => k_dflt assumption))
         ((case e2 => k_dflt exact fun p hp => mem_mid [_, _, _, _, _, _, _, _] hp))
         ((case e3 => k_dflt exact fun p hp => mem_end [_, _, _, _, _, _, _, _] hp))
         ((case e4 => k_dflt rfl))
         ((case e5 => k_dflt rfl))
         ((case e6 => k_dflt kst_same)))
      | ((rename @Ne Int (Nat.cast i8) _ => hzE)
         ((k_dflt (refine' out_end ?e1 nE' rfl ?e5 ?e6 (oinv_miss hP8 hzN hzE _ _))))
         ((case e1 => k_dflt assumption))
         ((case e5 => k_dflt rfl))
         ((case e6 => k_dflt kst_same)))
      | ((rename @Eq Int (Nat.cast i8) _ => hzE)
         ((k_dflt (refine' out_end ?e1 nE' rfl ?e5 ?e6 (oinv_hit hP8 hzN hzE _ _ _))))
         ((case e1 => k_dflt assumption))
         ((case e5 => k_dflt rfl))
         ((case e6 => k_dflt kst_same)))))
  k_with "NQ!" => (first
    | ((with_reducible show wpAny _ _ (compareOp _ (Value.ref D7) _) _ _ _)
       (k_dflt (refine' led_same (ku := 0) (u := _) ?N9 ?a1 ?a2 ?a3 ?a4 ?a5 ?a6 y1 y2 q3 q4 (page_strOk hsg) ?u9 ?_; (case N9 => k_asm); (case a1 => k_mem); (case a2 => k_mem); (case a3 => k_mem); (case a4 => k_mem); (case a5 => k_mem); (case a6 => k_mem); (case u9 => first | ktr_units | omega | decide))))
    | ((with_reducible show wpAny _ _ (compareOp _ _ (Value.ref D3)) _ _ _)
       ((k_dflt (refine' ints_same ?N9 ?a1 ?a2 hys3 hi3 ?u9 ?_)))
       ((k_dflt (case N9 => k_asm); k_dflt (case a1 => k_mem); k_dflt (case a2 => k_mem); (case u9 => first | ktr_units | omega | decide))))
    | ((with_reducible show wpAny _ _ (compareOp _ (Value.ref D5) _) _ _ _)
       ((k_dflt (refine' pair_same ?N9 ?a1 ?a2 ?b1 ?b2 ?b3 ?b4 (end_div' hkH hi8).1 (end_div' hkH hi8).2 ?u9 ?_)))
       ((k_dflt (case N9 => k_asm); k_dflt (case a1 => k_mem); k_dflt (case a2 => k_mem); k_dflt (case b1 => rfl); k_dflt (case b2 => rfl); k_dflt (case b3 => rfl); k_dflt (case b4 => rfl); (case u9 => first | ktr_units | omega | decide)))))
  k_with "LC!" => (k_dflt (refine LCg.ListComp_U (F₀ := by k_asm) (by with_unfolding_all rfl) (by decide) (by rfl) (by decide) (by rfl) ?_))
  k_with "CS!" => (
    ((k_dflt (refine' LCg.CompSrc.range ?c1 ?c2 ?c3 ?c4 (small_2k hkH) (range_pow k) (two_size hkH) ?_)))
    ((k_dflt (case c1 => rfl)); k_dflt (case c2 => k_asm); k_dflt (case c3 => k_asm); k_dflt (case c4 => assumption))
    (intro g9)
    ((k_dflt (refine' rest_range ?turnC ?finC)))
    (case' turnC => intro kc tc I oI C oC D' m₂ ys h' tk E' hkc hC' hx' F' N' off' ne'; simp only [LCg.Off3, and_true] at off')
    (case' finC => intro ys3 hys3))
  k_with "IE!" => (k_dflt (exact ⟨rfl, _, rfl⟩))
  k_with "LR!" => ((k_dflt (refine' list_range_2k ?c1 ?c2 ?c3 ?c4 hkH ?_; (case c1 => rfl); (case c2 => k_asm); (case c3 => k_asm); (case c4 => assumption))); intro D3 us3 c3 h3 tk3 F3 N3 l3 hi3; (try k_lt l3))
  k_with "AS!" => ((k_dflt (refine' cat_str ?sz9 ?_)); (case sz9 => (first | omega | (simp only [Str.length_append, tx_len, len_run, len_a, len_b, len_c, len_d, len_e] at *; omega) | ((have hz1 := name_sz (cA.fmod 3) sg); (have hz2 := twice_sz (cA.fmod 3) sg); (have hz3 := last_len (h := cA.fmod 3) (sg := sg) hkH hzl); simp only [Str.length_append, tx_len, len_run, len_a, len_b, len_c, len_d, len_e] at *; omega))); intro t9 k9)
  k_with "RP!" => ((have hz1 := name_sz (cA.fmod 3) sg); (refine rp_rule ?r1 ?r2 (by decide +kernel) (by omega) (by decide +kernel) ?_); (case r1 => first | assumption | omega); (case r2 => first | exact Nat.lt_succ_self _ | (dsimp only; omega)); intro t9 k9; clear hz1)
  k_with "NE!" => (k_dflt (first | refine str_ne_not rfl ?_ | refine str_ne_not (name_is _ _).symm ?_ | refine str_ne_not (esc_both _ _) ?_))
  k_with "IF!" => (
    goal_lacks IfPost
    (with_reducible show wpAny _ _ (exec (Stmt.If (Expr.Compare (Expr.BinOp _ Operator.Mod _ _) _ _ _) _ _ _) _) _ _ _)
    (rename Fr _ _ _ _ => iF')
    (rename News _ _ _ _ => iN')
    (have hT6 := odds_lt (i := i8) hj7 (unhid hkH).2)
    ((k_dflt (refine' if_cut iF' iN' (wholeN k (cC.fmod 1000000000 / 2 ^ k) i8 (j7 + 1)) (odds (j7 + 1) i8 : Int) ?_ (fun h9 tk9 tW9 tT9 F9 N9 => ?_)))))
  k_with "IP!" => (first
    | ((rename Int.fmod (wholeN _ _ _ _) 2 = 1 => hfO); ((k_dflt (refine ifPost_odd (odd_next hj7 hfO).1 (odd_next hj7 hfO).2 (by assumption) (by assumption)))))
    | ((rename Int.fmod (wholeN _ _ _ _) 2 ≠ 1 => hfE); ((k_dflt (refine ifPost_even (even_next hj7 hfE).1 (even_next hj7 hfE).2 (by with_unfolding_all rfl) (by assumption) (by assumption))))))
  k_with "KN!" => (refine neN ?_; (try dsimp only); with_reducible first
    | exact off'.1.1 | exact off'.1.2.1 | exact off'.1.2.2
    | exact off'.2.1.1 | exact off'.2.1.2.1 | exact off'.2.1.2.2
    | exact off'.2.2.1.1 | exact off'.2.2.1.2.1 | exact off'.2.2.1.2.2
    | exact off'.2.2.2.1.1 | exact off'.2.2.2.1.2.1 | exact off'.2.2.2.1.2.2
    | exact off'.2.2.2.2.1.1 | exact off'.2.2.2.2.1.2.1 | exact off'.2.2.2.2.1.2.2
    | exact off'.2.2.2.2.2.1.1 | exact off'.2.2.2.2.2.1.2.1 | exact off'.2.2.2.2.2.1.2.2
    | exact off'.2.2.2.2.2.2.1.1 | exact off'.2.2.2.2.2.2.1.2.1 | exact off'.2.2.2.2.2.2.1.2.2
    | exact off'.2.2.2.2.2.2.2.1 | exact off'.2.2.2.2.2.2.2.2.1 | exact off'.2.2.2.2.2.2.2.2.2)
  k_with "KA!" => (first
    | exact hW8
    | exact fun p hp => hoff9 p hp _ (List.Mem.head _)
    | exact hZ8
    | (refine List.forall_mem_append.mpr ⟨?kaL, ?kaR⟩; (case kaL => k_all); (case kaR => k_all)))
  k_with "SE!" => ((with_reducible show wpAny _ _ (setItem (Value.ref _) (Value.int (Int.fmod _ 3) _) (Value.int _ _)) _ _ _); k_dflt (refine' set_ints ?F9 ?N9 ?U9 hi9 (mod3 _).1 ?l9 ?f9 ?_; (case F9 => k_asm); (case N9 => k_asm); (case U9 => k_upd); (case l9 => (rw [hl9]; exact (mod3 _).2)); (case f9 => exact Int.lt_trans (mod3 _).2 (by decide))); intro h' F' N')
  k_with "CE!" => (
    rename News _ _ _ _ => nC'
    (k_dflt (exact CellEnd.intro (by k_asm) nC' (List.Mem.head _) (fun p hp => List.Mem.tail _ (List.mem_append_right _ hp)) (fun p hp => List.Mem.tail _ (List.mem_append_left _ hp)) (ints_set hi9 _ _ _) (by rw [List.length_set]; exact hl9))))
  k_with "IN!" => (first
    | ((with_reducible show wpAny _ _ (call (Value.ref 123) _) _ _ _)
       ((k_dflt (refine' ctr_use (ctr_table _ _ _ (mod3 _)) ?B ?F ?X ?nN0 ?T ?hk trivial ?hd ?hu ?_)))
       ((case B => k_asm); (case F => k_asm); (case X => k_asm); (case nN0 => k_asm); (case T => k_asm); (case hk => rfl))
       ((case hd => first | decide | ktr_room | omega))
       ((case hu => first | ktr_units | omega | decide))
       ((rintro r1 led1 h1 tk1 F1 N1 hne1 ⟨D, oD, kvs, rfl, rfl, hsm, hD, hfl⟩))
       ((simp only [List.cons_append, List.nil_append] at N1))
       ((have hDn := ne_all hne1 (List.Mem.head _)))
       ((simp only [AllNe, and_true] at hDn))
       ((try dsimp only)))
    | ((with_reducible show wpAny _ _ (call (Value.ref 81) (List.cons (Value.int (wholeN _ _ _ _) _) _)) _ _ _)
       ((have hOwn8 := off_own (c1 := c1) (c2 := c2) hoff8 (List.Mem.tail _ (List.Mem.tail _ (List.Mem.tail _ (List.Mem.head _)))) (List.Mem.tail _ (List.Mem.tail _ (List.Mem.head _))) (List.Mem.tail _ (List.Mem.tail _ (List.Mem.tail _ (List.Mem.tail _ (List.Mem.tail _ (List.Mem.head _)))))) (List.Mem.tail _ (List.Mem.tail _ (List.Mem.tail _ (List.Mem.tail _ (List.Mem.head _)))))))
       ((k_dflt (refine' dm2_use (ctr_dmH _ c1 c2 o1 o2 fs1 fs2 tq1 tq2 ho1 hf1 ho2 hf2 hd1 hd2 hd3 hd4 hd5 _ _ _ _ (whole_bd (modBig cC) hkH h16) (three_bd hkH)) ?B ?F ?X ?nN0 ?T ?hk ?ne hOwn8 trivial ?hd ?hu ?_)))
       ((case B => k_asm); (case F => k_asm); (case X => k_asm); (case nN0 => k_asm); (case T => k_asm); (case hk => rfl))
       ((case ne => (dsimp only; refine ⟨off4_of ?_ ?_ ?_ ?_, off4_of ?_ ?_ ?_ ?_, off4_of ?_ ?_ ?_ ?_, off4_of ?_ ?_ ?_ ?_, off4_of ?_ ?_ ?_ ?_, off4_of ?_ ?_ ?_ ?_⟩ <;> k_ne)))
       ((case hd => first | decide | ktr_room | omega))
       ((case hu => first | ktr_units | omega | decide))
       ((rintro r1 led1 h1 tk1 F1 N1 hne1 ⟨D5, t51, t52, k5, rfl, rfl⟩))
       ((simp only [List.cons_append, List.nil_append] at N1))
       ((try dsimp only)))
    | ((with_reducible show wpAny _ _ (call (Value.ref 74) _) _ _ _)
       ((k_dflt (refine' d2_use (ctr_d2iH _ c2 o2 fs2 tq2 ho2 hf2 aW vr7 (rowL k i8) 1 _ q3 (row_le hkH i8) row_dig (by decide) (row_mul hkH i8) (not_in2 ?n1 ?n2)) ?B ?F ?X ?nN0 ?T ?hk hd3 hd2 hd5 ?ne hOwn8 ?pre ?hd ?hu ?_)))
       ((case n1 => k_ne); (case n2 => k_ne))
       ((case B => k_asm); (case F => k_asm); (case X => k_asm); (case nN0 => k_asm); (case T => k_asm); (case hk => rfl))
       ((case ne => (dsimp only; refine ⟨off4_of ?_ ?_ ?_ ?_, off4_of ?_ ?_ ?_ ?_, off4_of ?_ ?_ ?_ ?_, off4_of ?_ ?_ ?_ ?_, off4_of ?_ ?_ ?_ ?_, off4_of ?_ ?_ ?_ ?_⟩ <;> k_ne)))
       ((case pre => k_dflt (exact News.isList (by k_asm) (by k_mem))))
       ((case hd => first | decide | ktr_room | omega))
       ((case hu => first | ktr_units | omega | decide))
       ((rintro r1 led1 h1 tk1 F1 N1 ⟨t53, rfl, rfl⟩))
       ((simp only [List.cons_append, List.nil_append] at N1))
       ((try dsimp only)))
    | ((with_reducible show wpAny _ _ (call (Value.ref 81) _) _ _ _)
       ((k_dflt (refine' dm_use (ctr_dmF _ _ _ _ _ (modBig' _) (pow2_bd hkH)) ?B ?F ?X ?nN0 ?T ?hk ⟨⟨?n1, ?n2⟩, ⟨?n3, ?n4⟩⟩ trivial ?hd ?hu ?_)))
       ((case B => k_asm); (case F => k_asm); (case X => k_asm); (case nN0 => k_asm); (case T => k_asm); (case hk => rfl))
       ((case n1 => k_ne); (case n2 => k_ne); (case n3 => k_ne); (case n4 => k_ne))
       ((case hd => first | decide | ktr_room | omega))
       ((case hu => first | ktr_units | omega | decide))
       ((rintro r1 led1 h1 tk1 F1 N1 hne1 ⟨D1, t1, t2, k1, c1, o1, fs1, tq1, c2, o2, fs2, tq2, rfl, ho1, hf1, ho2, hf2, hd1, hd2, hd3, hd4, hd5, rfl⟩))
       ((simp only [List.cons_append, List.nil_append] at N1))
       ((have hDn := ne_all hne1 (List.Mem.head _)))
       ((simp only [AllNe, and_true] at hDn))
       ((have hDn1 := ne_all hne1 (List.Mem.tail _ (List.Mem.head _))))
       ((have hDn2 := ne_all hne1 (List.Mem.tail _ (List.Mem.tail _ (List.Mem.tail _ (List.Mem.head _))))))
       ((simp only [AllNe, and_true] at hDn1 hDn2))
       ((try dsimp only)))
    | ((with_reducible show wpAny _ _ (call (Value.ref 135) _) _ _ _)
       ((k_dflt (refine' ctr_use (ctr_led _ _ sg i8 k _ _ _ _ (mod3 _) h16 hkH) ?B ?F ?X ?nN0 ?T ?hk trivial ?hd ?hu ?_)))
       ((case B => k_asm); (case F => k_asm); (case X => k_asm); (case nN0 => k_asm); (case T => k_asm); (case hk => rfl))
       ((case hd => first | decide | ktr_room | omega))
       ((case hu => first | ktr_units | omega | decide))
       ((rintro r1 led1 h1 tk1 F1 N1 hne1 ⟨D7, R7, Z7, vr6, kr6, vz6, kz6, kt6, t6, rfl, rfl, y1, y2⟩))
       ((simp only [List.cons_append, List.nil_append] at N1))
       ((try dsimp only)))
    | ((with_reducible show wpAny _ _ (call (Value.ref 128) (List.cons _ (List.cons (Value.str (HAppend.hAppend _ (Str.ofString _)) _) _))) _ _ _)
       ((k_dflt (refine' ctr_use (ctr_s_text _ _ _ (mod3 _) _ _ (text_len hkH hzl)) ?B ?F ?X ?nN0 ?T ?hk trivial ?hd ?hu ?_)))
       ((case B => k_asm); (case F => k_asm); (case X => k_asm); (case nN0 => k_asm); (case T => k_asm); (case hk => rfl))
       ((case hd => first | decide | ktr_room | omega))
       ((case hu => first | ktr_units | omega | decide))
       ((rintro r1 led1 h1 tk1 F1 N1 hne1 ⟨t9, rfl⟩))
       ((have N2 := kst_newsOf N1 (fun p hp => List.mem_append_right _ hp); clear N1))
       ((try dsimp only)))
    | ((with_reducible show wpAny _ _ (call (Value.ref 128) _) _ _ _)
       ((k_dflt (refine' ctr_use (ctr_spelled _ _ _ (mod3 _) _ _ ?hL0) ?B ?F ?X ?nN0 ?T ?hk trivial ?hd ?hu ?_)))
       ((case hL0 => first | exact one_len _ | exact pg_len hi9 hkH))
       ((case B => k_asm); (case F => k_asm); (case X => k_asm); (case nN0 => k_asm); (case T => k_asm); (case hk => rfl))
       ((case hd => first | decide | ktr_room | omega))
       ((case hu => first | ktr_units | omega | decide))
       ((rintro r1 led1 h1 tk1 F1 N1 hne1 ⟨t9, rfl⟩))
       ((have N2 := kst_newsOf N1 (fun p hp => List.mem_append_right _ hp); clear N1))
       ((try dsimp only)))
    | ((with_reducible show wpAny _ _ (call (Value.ref 154) _) _ _ _)
       ((k_dflt (refine' ctr_use (ctr_rest _ _ _ _ _ (two16 hkH hkc) (turns24 hkH)) ?B ?F ?X ?nN0 ?T ?hk trivial ?hd ?hu ?_)))
       ((case B => k_asm); (case F => k_asm); (case X => k_asm); (case nN0 => k_asm); (case T => k_asm); (case hk => rfl))
       ((case hd => first | decide | ktr_room | omega))
       ((case hu => first | ktr_units | omega | decide))
       ((rintro r1 led1 h1 tk1 F1 N1 hne1 ⟨t9, rfl⟩))
       ((have N2 := kst_newsOf N1 (fun p hp => List.mem_append_right _ hp); clear N1))
       ((try dsimp only)))
    | ((with_reducible show wpAny _ _ (call (Value.ref 46) (List.cons (Value.str (HAppend.hAppend (HAppend.hAppend _ (Txt.replace _ _ _)) _) _) _)) _ _ _)
       ((k_dflt (refine' ctr_use (ctr_q_name _ (cA.fmod 3) sg _) ?B ?F ?X ?nN0 ?T ?hk trivial ?hd ?hu ?_)))
       ((case B => k_asm); (case F => k_asm); (case X => k_asm); (case nN0 => k_asm); (case T => k_asm); (case hk => rfl))
       ((case hd => first | decide | ktr_room | omega))
       ((case hu => first | ktr_units | omega | decide))
       ((rintro r1 led1 h1 tk1 F1 N1 hne1 ⟨t9, rfl⟩))
       ((have N2 := kst_newsOf N1 (fun p hp => List.mem_append_right _ hp); clear N1))
       ((try dsimp only)))
    | ((with_reducible show wpAny _ _ (call (Value.ref 46) _) _ _ _)
       ((k_dflt (refine' ctr_use (ctr_p_text _ (cA.fmod 3) (lastL (cA.fmod 3) sg k zN ++ restL) (text_len hkH hzl) _) ?B ?F ?X ?nN0 ?T ?hk trivial ?hd ?hu ?_)))
       ((case B => k_asm); (case F => k_asm); (case X => k_asm); (case nN0 => k_asm); (case T => k_asm); (case hk => rfl))
       ((case hd => first | decide | ktr_room | omega))
       ((case hu => first | ktr_units | omega | decide))
       ((rintro r1 led1 h1 tk1 F1 N1 hne1 ⟨t9, rfl⟩))
       ((have N2 := kst_newsOf N1 (fun p hp => List.mem_append_right _ hp); clear N1))
       ((try dsimp only)))
    | ((with_reducible show wpAny _ _ (call (Value.ref 116) _) _ _ _)
       ((k_dflt (refine' ctr_use (ctr_w_text _ _ _ (mod3 _) _ _ (text_len hkH hzl)) ?B ?F ?X ?nN0 ?T ?hk trivial ?hd ?hu ?_)))
       ((case B => k_asm); (case F => k_asm); (case X => k_asm); (case nN0 => k_asm); (case T => k_asm); (case hk => rfl))
       ((case hd => first | decide | ktr_room | omega))
       ((case hu => first | ktr_units | omega | decide))
       ((rintro r1 led1 h1 tk1 F1 N1 hne1 ⟨t9, rfl⟩))
       ((have N2 := kst_newsOf N1 (fun p hp => List.mem_append_right _ hp); clear N1))
       ((have hWs := esc_sz (cA.fmod 3) _ (text_len (h := cA.fmod 3) (sg := sg) hkH hzl)))
       ((try dsimp only)))
    | ((with_reducible show wpAny _ _ (call (Value.ref 142) (List.cons _ (List.cons (Value.int _ _) _))) _ _ _)
       ((k_dflt (refine' ctr_refuses_int _ _ _ (mod3 _) _ (modBig cC) _ _ _ _ _ _ _ _ _ _ _ _ _ _ _ _ _ _ _ _ _ _ _ _ ?B ?F ?X ?nN0 ?T ?XB ?TB ?hk ?hd ?hu ?_)))
       ((k_dflt (case B => k_asm)))
       ((k_dflt (case F => k_asm)))
       ((k_dflt (case X => k_asm)))
       ((k_dflt (case nN0 => k_asm)))
       ((k_dflt (case T => k_asm)))
       ((k_dflt (case XB => k_asm)))
       ((k_dflt (case TB => k_asm)))
       ((case hk => rfl))
       ((case hd => first | decide | ktr_room | omega))
       ((case hu => first | ktr_units | omega | decide))
       ((intro h1 tk1 F1 N1))
       ((try dsimp only)))
    | ((with_reducible show wpAny _ _ (call (Value.ref 142) (List.cons _ (List.cons (Value.ref _) _))) _ _ _)
       ((k_dflt (refine' ctr_refuses_list _ _ _ (mod3 _) sg hsg _ _ _ _ _ _ _ _ _ _ _ _ _ _ _ _ _ _ _ _ _ _ _ _ ?B ?F ?X ?nN0 ?T ?XB ?TB ?hk ?hd ?hu ?_)))
       ((k_dflt (case B => k_asm)))
       ((k_dflt (case F => k_asm)))
       ((k_dflt (case X => k_asm)))
       ((k_dflt (case nN0 => k_asm)))
       ((k_dflt (case T => k_asm)))
       ((k_dflt (case XB => k_asm)))
       ((k_dflt (case TB => k_asm)))
       ((case hk => rfl))
       ((case hd => first | decide | ktr_room | omega))
       ((case hu => first | ktr_units | omega | decide))
       ((intro h1 tk1 F1 N1))
       ((try dsimp only)))
    | ((with_reducible show wpAny _ _ (call (Value.ref 147) _) _ _ _)
       ((k_dflt (refine' ctr_heads _ _ _ (Nat.le_trans (last_len hkH hzl) (by decide)) (last_two hsg) (last_head hsg) _ _ _ _ _ _ _ _ _ _ _ _ _ _ _ _ _ _ _ _ _ _ ?B ?F ?X ?nN0 ?T ?XB ?TB ?hk ?hd ?hu ?_)))
       ((k_dflt (case B => k_asm)))
       ((k_dflt (case F => k_asm)))
       ((k_dflt (case X => k_asm)))
       ((k_dflt (case nN0 => k_asm)))
       ((k_dflt (case T => k_asm)))
       ((k_dflt (case XB => k_asm)))
       ((k_dflt (case TB => k_asm)))
       ((case hk => rfl))
       ((case hd => first | decide | ktr_room | omega))
       ((case hu => first | ktr_units | omega | decide))
       ((intro h1 tk1 F1 N1))
       ((try dsimp only)))
    | fail "no contract")
  k_steps
end
end Mine
theorem PySem.Challenge.cw_xj0024_01_holds : PySem.Challenge.rw_xj0024_01.Holds :=
  Mine.lawT
