import PyProof.Rows.All
import Wide.All
import OpenK.AllK
import Wide.FinOn
import PySem.Challenge.RW_ez0306_01
set_option Elab.async false

section
open PySem PySem.W PyProof.Rows
namespace Mine
set_option maxRecDepth 100000 in
set_option maxHeartbeats 8000000 in
open_top hd for PySem.Challenge.rw_ez0306_01
end Mine
end

section
open PySem PySem.W PyProof.Rows PySem.Calls
set_option maxRecDepth 100000
namespace Mine

abbrev tabO (ps : Array Value) : Obj := { cls := .none, data := .fields ps }

/-- what the code-table of run_of may hold -/
def TabOk (ps : Array Value) : Prop := ps = #[] ∨ ∃ c', ps = #[rawInt 6, rawInt 27, .ref c']

structure Hp (w : World) (p : Program) (loose : List Str) (mg mb : Str → Option Value) (h : Heap) : Prop where
  X : (hd.heap_39 w.params).In h
  T : TopRead p loose mg mb h
  M : ∃ ob, BMod h mainGlobals mg 4 ob
  tab : ∃ ps, h.get? 16 = some (tabO ps) ∧ TabOk ps

abbrev gho (h : Heap) : Heap := hideAll h [16]
theorem gho_none (h : Heap) : (gho h).get? 16 = none := hideAll_none [16] (by simp)
theorem gho_get {h : Heap} {b : Addr} {o : Obj} (e : h.get? b = some o) (hb : b ≠ 16) : (gho h).get? b = some o := hideAll_get [16] e (by simpa using hb)
theorem of_gho {h : Heap} {b : Addr} {o : Obj} (e : (gho h).get? b = some o) : h.get? b = some o := of_hideAll [16] e
theorem gho_ne {h : Heap} {b : Addr} {o : Obj} (e : (gho h).get? b = some o) : b ≠ 16 := fun q => by
  rw [q, gho_none] at e; cases e

section
variable {w : World} {p : Program} {loose : List Str} {mg mb : Str → Option Value} {h h' : Heap}
theorem K_no16 : ∀ a o, (hd.heap_39 w.params).lookup a = some o → a ≠ 16 := by
  intro a o e q
  subst q
  have : (hd.heap_39 w.params).lookup 16 = none := by rfl
  rw [this] at e; cases e
theorem ns_gho {a : Addr} {m : Str → Option Value} (n : h.Ns a m) (hb : a ≠ 16) : (gho h).Ns a m :=
  let ⟨o, es, ep, e, r⟩ := n; ⟨o, es, ep, gho_get e hb, r⟩
theorem bmod_gho {ob : Obj} (M : BMod h mainGlobals mg 4 ob) : BMod (gho h) mainGlobals mg 4 ob := ⟨ns_gho M.ns (by decide), M.name, M.ne, gho_get M.obj (by decide), M.cls, M.dict, M.data⟩
theorem Hp.gX (H : Hp w p loose mg mb h) : (hd.heap_39 w.params).In (gho h) := fun a o e => gho_get (H.X a o e) (K_no16 a o e)
theorem Hp.gT (H : Hp w p loose mg mb h) : TopRead p loose mg mb (gho h) :=
  ⟨ns_gho H.T.g (by decide), ns_gho H.T.b (by decide), let ⟨mc, a, b⟩ := H.T.nolimit; ⟨mc, ns_gho a (by decide), b⟩, H.T.builtins, H.T.free⟩
end
end Mine
end

section
open PySem PySem.W PyProof.Rows PySem.Calls
set_option maxRecDepth 100000
namespace Mine

abbrev tupO (xs : List Value) : Obj := { cls := .type "tuple", data := .seq xs.toArray }

def Safe (w : World) (a : Addr) : Prop := (hd.heap_39 w.params).lookup a = none ∧ a ≠ builtinsNs ∧ a ≠ 4

/-- what the call may lean on -/
abbrev Held (w : World) (h : Heap) (ex : List (Addr × Obj)) : Prop := ∀ q ∈ ex, h.get? q.1 = some q.2 ∧ Safe w q.1

theorem safe16 (w : World) : Safe w 16 := ⟨by rfl, by decide, by decide⟩

abbrev RetTo (Q : Value → Shared → Prop) : Flow → Shared → Prop := fun fl s' => Q (match fl with | .ret v => v | _ => .none) s'

/-- all is kept but the code-table -/
structure Ext (h h' : Heap) : Prop where
  keep : ∀ b o, b ≠ 16 → h.get? b = some o → h'.get? b = some o
  tab : ∃ ps, h'.get? 16 = some (tabO ps) ∧ TabOk ps

section
variable {prog : Program} {w : World} {p : Program} {loose : List Str} {mg mb : Str → Option Value} {h h' g : Heap} {ex : List (Addr × Obj)} {L : Addr} {m : Str → Option Value}

theorem Hp.ext (H : Hp w p loose mg mb h) (e : Ext h h') : Hp w p loose mg mb h' := by
  have ne : ∀ a m, h.Ns a m → a ≠ 16 → h'.Ns a m := fun a m n ha => let ⟨o, es, ep, q, r⟩ := n; ⟨o, es, ep, e.keep _ _ ha q, r⟩
  exact ⟨fun a o q => e.keep _ _ (K_no16 _ _ q) (H.X a o q), ⟨ne _ _ H.T.g (by decide), ne _ _ H.T.b (by decide), let ⟨mc, a, b⟩ := H.T.nolimit; ⟨mc, ne _ _ a (by decide), b⟩, H.T.builtins, H.T.free⟩, let ⟨ob, M⟩ := H.M; ⟨ob, ne _ _ M.ns (by decide), M.name, M.ne, e.keep _ _ (by decide) M.obj, M.cls, M.dict, M.data⟩, e.tab⟩

theorem Ext.trans {h₁ h₂ h₃ : Heap} (x : Ext h₁ h₂) (y : Ext h₂ h₃) : Ext h₁ h₃ := ⟨fun b o hb e => y.keep b o hb (x.keep b o hb e), y.tab⟩
theorem Hp.refl (H : Hp w p loose mg mb h) : Ext h h := ⟨fun _ _ _ e => e, H.tab⟩

theorem hide_X (X : (hd.heap_39 w.params).In h) (hs : Held w h ex) : (hd.heap_39 w.params).In (hideAll h (ex.map (·.1))) := fun a o e =>
  hideAll_get _ (X a o e) fun q => by
    obtain ⟨x, hx, rfl⟩ := List.mem_map.mp q
    rw [(hs x hx).2.1] at e; cases e
theorem ns_hide {a : Addr} (n : h.Ns a m) (hb : a ∉ ex.map (·.1)) : (hideAll h (ex.map (·.1))).Ns a m :=
  let ⟨o, es, ep, e, r⟩ := n; ⟨o, es, ep, hideAll_get _ e hb, r⟩
theorem K_has3 (w : World) : ((hd.heap_39 w.params).lookup mainGlobals).isSome = true := by rfl
theorem K_has2 (w : World) : ((hd.heap_39 w.params).lookup cStatics).isSome = true := by rfl
theorem hide_T (T : TopRead p loose mg mb h) (hs : Held w h ex) : TopRead p loose mg mb (hideAll h (ex.map (·.1))) := by
  have n3 : mainGlobals ∉ ex.map (·.1) := fun q => by
    obtain ⟨x, hx, e⟩ := List.mem_map.mp q
    have := K_has3 w; rw [← e, (hs x hx).2.1] at this; cases this
  have n2 : cStatics ∉ ex.map (·.1) := fun q => by
    obtain ⟨x, hx, e⟩ := List.mem_map.mp q
    have := K_has2 w; rw [← e, (hs x hx).2.1] at this; cases this
  have nb : builtinsNs ∉ ex.map (·.1) := fun q => by
    obtain ⟨x, hx, e⟩ := List.mem_map.mp q
    exact (hs x hx).2.2.1 e
  exact ⟨ns_hide T.g n3, ns_hide T.b nb, let ⟨mc, a, b⟩ := T.nolimit; ⟨mc, ns_hide a n2, b⟩, T.builtins, T.free⟩

theorem hide_M (M : ∃ ob, BMod h mainGlobals mg 4 ob) (hs : Held w h ex) : ∃ ob, BMod (hideAll h (ex.map (·.1))) mainGlobals mg 4 ob := by
  obtain ⟨ob, M⟩ := M
  have n3 : mainGlobals ∉ ex.map (·.1) := fun q => by
    obtain ⟨x, hx, e⟩ := List.mem_map.mp q
    have := K_has3 w; rw [← e, (hs x hx).2.1] at this; cases this
  have n4 : (4 : Addr) ∉ ex.map (·.1) := fun q => by
    obtain ⟨x, hx, e⟩ := List.mem_map.mp q
    exact (hs x hx).2.2.2 e
  exact ⟨ob, ns_hide M.ns n3, M.name, M.ne, hideAll_get _ M.obj n4, M.cls, M.dict, M.data⟩

theorem safe_of {news : List (Addr × Obj)} (N : News g L h news) (X : (hd.heap_39 w.params).In g) (T : TopRead p loose mg mb g) (M : ∃ ob, BMod g mainGlobals mg 4 ob) {a : Addr} {o : Obj} (hm : (a, o) ∈ news) : Safe w a := by
  have e := (N _ hm).2.2
  refine ⟨?_, fun q => ?_, fun q => ?_⟩
  · cases q : (hd.heap_39 w.params).lookup a with
    | none => rfl
    | some o' => have := X _ _ q; rw [show g.get? a = none from e] at this; cases this
  · subst q
    obtain ⟨o', _, _, ho, _⟩ := T.b
    rw [show g.get? builtinsNs = none from e] at ho; cases ho
  · subst q
    obtain ⟨ob, M⟩ := M
    have ho := M.obj
    rw [show g.get? 4 = none from e] at ho; cases ho

theorem hp_of {news : List (Addr × Obj)} {ps : Array Value} (F : Fr g L h m) (N : News g L h news) (X : (hd.heap_39 w.params).In g) (T : TopRead p loose mg mb g) (M : ∃ ob, BMod g mainGlobals mg 4 ob) (hm : (16, tabO ps) ∈ news) (hok : TabOk ps) : Hp w p loose mg mb h :=
  ⟨X.keeps F.keep, T.keeps F.keep, let ⟨ob, M⟩ := M; ⟨ob, M.keeps F.keep⟩, ps, (N _ hm).1, hok⟩

/-- the caller's view of what the callee did -/
theorem ext_of {hs : Heap} {ps : Array Value} {news' : List (Addr × Obj)} (F : Fr (hideAll hs (ex.map (·.1))) L h' m) (N : News (hideAll hs (ex.map (·.1))) L h' news') (he : ∀ q ∈ ex, hs.get? q.1 = some q.2)
    (hk : ∀ q ∈ ex, q.1 ≠ 16 → q ∈ news') (hm : (16, tabO ps) ∈ news') (hok : TabOk ps) : Ext hs h' := by
  refine ⟨fun b o hb e => ?_, ps, (N _ hm).1, hok⟩
  by_cases q : b ∈ ex.map (·.1)
  · obtain ⟨x, hx, rfl⟩ := List.mem_map.mp q
    have := (N _ (hk x hx hb)).1
    rw [he x hx] at e; cases e; exact this
  · exact F.keep b o (hideAll_get _ e q)

theorem enter {A : Around} {s : Shared} {Q : Value → Shared → Prop} {E : Value → Shared → Prop} {name qual : Str} {params : Arguments} {body : List Stmt} {scope : Scope} {dV kV doc pm cdv ct oc : Value} {an od : Option Addr} {osl : Array (Option Value)} {f : Addr} {args : List Value} {kw : List (Str × Value)} {binds : List (Str × Value)}
    (H : Hp w p loose mg mb s.heap) (ex : List (Addr × Obj)) (he : Held w s.heap ex)
    (ho : (hd.heap_39 w.params).lookup f = some ⟨oc, od, .func (fnOf name qual params body scope dV kV doc pm an cdv ct), osl⟩) (hcd : codeIn (hd.heap_39 w.params) cdv qual = true)
    (hroom : A.depth < recursionLimit)
    (hbind : BindsTo s (fnOf name qual params body scope dV kV doc pm an cdv ct) ⟨args, kw⟩ binds) (hloc : ∀ y ∈ binds, scope.names.lookup y.1 = some .local)
    (hcell : ∀ x ∈ scope.names, x.2 ≠ .cell) (hco : scope.isCoroutine = false) (hgen : scope.isGenerator = false) (hk : scope.kind = .function)
    (h : ∀ g L h₁, g = hideAll s.heap (ex.map (·.1)) → L = s.heap.objs.size → Fr g L h₁ (fun y => binds.reverse.lookup y) → News g L h₁ ex → (hd.heap_39 w.params).In g → TopRead p loose mg mb g → (∃ ob, BMod g mainGlobals mg 4 ob) →
      wpAny (model prog w) (A.deeper (envOf qual scope L f cdv)) (execs body (envOf qual scope L f cdv)) (RetTo Q) (fun _ _ => False)
        { s with heap := h₁, toks := s.toks + binds.length }) :
    wpAny (model prog w) A (call (.ref f) args kw) Q E s := by
  refine wpAny_call ?_
  refine codeAny_call_def (fd := fnOf name qual params body scope dV kV doc pm an cdv ct) (body := body) (binds := binds) hroom (H.X _ _ ho) rfl H.T.nolimit (codeRec_of H.X hcd) rfl hbind hcell hloc (fun h₁ hns hk₁ => ?_) hco hgen hk
  refine wpAny_mono (h _ _ h₁ rfl rfl ⟨hns, fun b o e => hk₁ b o (of_hideAll _ e), Nat.le_of_eq (hideAll_size _ _)⟩
    (fun q hq => ⟨hk₁ _ _ (he q hq).1, Nat.ne_of_lt (Heap.lt_size (he q hq).1), hideAll_none _ (List.mem_map_of_mem hq)⟩) (hide_X H.X he) (hide_T H.T he) (hide_M H.M he)) (fun fl s' hl => hl) (fun _ _ x => x.elim)

theorem enterC {A : Around} {s : Shared} {Q : Value → Shared → Prop} {E : Value → Shared → Prop} {name qual : Str} {params : Arguments} {body : List Stmt} {scope : Scope} {dV kV doc pm cdv ct oc : Value} {an od : Option Addr} {osl : Array (Option Value)} {f : Addr} {args : List Value} {kw : List (Str × Value)} {binds : List (Str × Value)}
    (H : Hp w p loose mg mb s.heap) (ex : List (Addr × Obj)) (he : Held w s.heap ex)
    (ho : (hd.heap_39 w.params).lookup f = some ⟨oc, od, .func (fnOf name qual params body scope dV kV doc pm an cdv ct), osl⟩) (hcd : codeIn (hd.heap_39 w.params) cdv qual = true)
    (hroom : A.depth < recursionLimit)
    (hbind : BindsTo s (fnOf name qual params body scope dV kV doc pm an cdv ct) ⟨args, kw⟩ binds)
    (hkind : ∀ n, ∀ x ∈ binds, scope.names.lookup x.1 = some .local ∨ (scope.names.lookup x.1 = some .cell ∧ ((cellsFrom n scope.names []).lookup x.1).isSome = true))
    (hnd : ((cellsFrom 0 scope.names []).map (·.1)).Nodup)
    (hco : scope.isCoroutine = false) (hgen : scope.isGenerator = false) (hk : scope.kind = .function)
    (h : ∀ g L h₁ tk cells, g = hideAll s.heap (ex.map (·.1)) → L = s.heap.objs.size → Fr g L h₁ (bindL (envOfC qual scope L f cdv).kindOf binds fun _ => none) → News g L h₁ (cells ++ ex) →
      CellsAre (bindC (envOfC qual scope L f cdv).kindOf binds fun _ => none) (cellsFrom (L + 1) scope.names []) cells → (∀ q ∈ ex, q.1 < L) → (hd.heap_39 w.params).In g → TopRead p loose mg mb g → (∃ ob, BMod g mainGlobals mg 4 ob) →
      wpAny (model prog w) (A.deeper (envOfC qual scope L f cdv)) (execs body (envOfC qual scope L f cdv)) (RetTo Q) (fun _ _ => False)
        { s with heap := h₁, toks := tk }) :
    wpAny (model prog w) A (call (.ref f) args kw) Q E s := by
  refine wpAny_call ?_
  refine codeAny_call_function hroom (H.X _ _ ho) rfl hco hgen rfl (codeRec_of H.X hcd) (hbind _ _ _ _ ?_)
  refine wpAny_newFunctionEnv_cells hk (hkind _) fun env' he' s' x => ?_
  subst he'
  refine ⟨H.T.nolimit.keeps x.toInCall.keep, codeAny_func ?_⟩
  obtain ⟨h₁, tk, rfl, _⟩ := x.done
  have hk₁ := x.toInCall.keep
  obtain ⟨cells, NC, Y⟩ := Cl.news (h₀ := s.heap) (Nat.le_refl _) fun n c hm => ⟨x.cell n c (lookup_of_mem_nodup (cellsFrom_names scope.names 0 (s.heap.objs.size + 1) [] [] rfl ▸ hnd) hm), x.above n c hm⟩
  refine wpAny_mono (h _ _ h₁ tk cells rfl rfl ⟨x.toInCall.ns, fun b o e => hk₁ b o (of_hideAll _ e), Nat.le_of_eq (hideAll_size _ _)⟩ (fun p hp => ?_) Y (fun q hq => Heap.lt_size (he q hq).1) (hide_X H.X he) (hide_T H.T he) (hide_M H.M he)) (fun fl s' hl => hl) (fun _ _ x => x.elim)
  rcases List.mem_append.mp hp with hp | hp
  · refine ⟨(NC p hp).1, (NC p hp).2.1, ?_⟩
    cases q : (hideAll s.heap (ex.map (·.1))).get? p.1 with
    | none => rfl
    | some o => have := of_hideAll _ q; rw [(NC p hp).2.2] at this; cases this
  · exact ⟨hk₁ _ _ (he p hp).1, Nat.ne_of_lt (Heap.lt_size (he p hp).1), hideAll_none _ (List.mem_map_of_mem hp)⟩
end
end Mine
end

section
open PySem PySem.W PyProof.Rows PySem.Calls
namespace Mine

def runL (gs : List Int) : List Int → Nat
  | [] => 0
  | c :: r => if c ∈ gs then runL gs r + 1 else 0

def findRun (gs : List Int) (k : Nat) : List Int → Nat → Option (Nat × Nat)
  | [], _ => none
  | c :: r, i => if k ≤ runL gs (c :: r) then some (i, i + runL gs (c :: r)) else findRun gs k r (i + 1)

/-- run_of: the least length, or none (the whole) -/
def runOf (gs : List Int) (least : Option Nat) (ks : List Int) : Option (Nat × Nat) :=
  match least with
  | none => if 0 < ks.length ∧ ∀ c ∈ ks, c ∈ gs then some (0, ks.length) else none
  | some k => findRun gs k ks 0

theorem runL_le (gs : List Int) : ∀ ks, runL gs ks ≤ ks.length
  | [] => Nat.le_refl _
  | c :: r => by unfold runL; split <;> simp only [List.length_cons] <;> have := runL_le gs r <;> omega

theorem runL_ext (gs : List Int) : ∀ (ks : List Int) (n : Nat), n ≤ ks.length → (∀ j, j < n → ks.getD j 0 ∈ gs) → (n = ks.length ∨ ks.getD n 0 ∉ gs) → runL gs ks = n
  | [], n, hn, _, _ => by simp at hn; subst hn; rfl
  | c :: r, 0, _, _, hx => by
    rcases hx with hx | hx
    · simp at hx
    · unfold runL; rw [if_neg (by simpa using hx)]
  | c :: r, n + 1, hn, hj, hx => by
    have h0 : c ∈ gs := by have := hj 0 (Nat.succ_pos _); simpa using this
    unfold runL
    rw [if_pos h0, runL_ext gs r n (by simpa using hn) (fun j h => by have := hj (j + 1) (by omega); simpa using this) (by
      rcases hx with hx | hx
      · left; simpa using hx
      · right; simpa using hx)]

theorem runL_at {gs ks : List Int} {st e : Int} (h0 : 0 ≤ st) (h1 : st ≤ e) (h2 : e ≤ ks.length) (hj : ∀ j : Int, st ≤ j → j < e → ks.getD j.toNat 0 ∈ gs) (hx : ¬ e < ks.length ∨ ks.getD e.toNat 0 ∉ gs) :
    (runL gs (ks.drop st.toNat) : Int) = e - st := by
  have e1 : runL gs (ks.drop st.toNat) = (e - st).toNat := by
    refine runL_ext gs _ _ (by simp only [List.length_drop]; omega) (fun j h => ?_) ?_
    · have := hj (st + j) (by omega) (by omega)
      have e2 : (st + (j : Int)).toNat = st.toNat + j := by omega
      rw [e2] at this
      rw [List.getD_eq_getElem?_getD, List.getElem?_drop, ← List.getD_eq_getElem?_getD]; exact this
    · rcases hx with hx | hx
      · left; simp only [List.length_drop]; omega
      · right
        have e2 : e.toNat = st.toNat + (e - st).toNat := by omega
        rw [e2] at hx
        rw [List.getD_eq_getElem?_getD, List.getElem?_drop, ← List.getD_eq_getElem?_getD]; exact hx
  rw [e1]; omega

theorem findRun_none {gs : List Int} {k : Nat} : ∀ {ks : List Int} {i : Nat}, (∀ j, j < ks.length → runL gs (ks.drop j) < k) → findRun gs k ks i = none
  | [], _, _ => rfl
  | c :: r, i, h => by
    have h0 := h 0 (by simp)
    unfold findRun
    rw [if_neg (by simpa using h0)]
    exact findRun_none fun j hj => by have := h (j + 1) (by simpa using hj); simpa using this

theorem findRun_some {gs : List Int} {k : Nat} : ∀ {ks : List Int} {i a : Nat}, a < ks.length → (∀ j, j < a → runL gs (ks.drop j) < k) → k ≤ runL gs (ks.drop a) → findRun gs k ks i = some (i + a, i + a + runL gs (ks.drop a))
  | [], _, _, h, _, _ => by simp at h
  | c :: r, i, 0, _, _, hk => by
    unfold findRun; rw [if_pos (by simpa using hk)]; simp
  | c :: r, i, a + 1, ha, h, hk => by
    have h0 := h 0 (by omega)
    unfold findRun
    rw [if_neg (by simpa using h0), findRun_some (a := a) (by simpa using ha) (fun j hj => by have := h (j + 1) (by omega); simpa using this) (by simpa using hk)]
    simp only [List.drop_succ_cons]
    rw [show i + 1 + a = i + (a + 1) by omega]

/-- the turn's end of the search -/
theorem turn_end {gs ks pre : List Int} {st e k : Int} (hp : ∀ j : Nat, j < pre.length → (runL gs (ks.drop j) : Int) < k) (hst : st = 0 + (pre.length : Int)) (h1 : st ≤ e) (h2 : e ≤ ks.length) (hj : ∀ j : Int, st ≤ j → j < e → ks.getD j.toNat 0 ∈ gs)
    (hx : ¬ e < ks.length ∨ ks.getD e.toNat 0 ∉ gs) (hk : ¬ k ≤ e - st) : ∀ j : Nat, j < (pre ++ [st]).length → (runL gs (ks.drop j) : Int) < k := by
  intro j hj'
  simp only [List.length_append, List.length_cons, List.length_nil] at hj'
  by_cases h : j < pre.length
  · exact hp j h
  · have e1 : j = st.toNat := by omega
    rw [e1, runL_at (by omega) h1 h2 hj hx]; omega

theorem found {gs ks pre : List Int} {st e k : Int} (hp : ∀ j : Nat, j < pre.length → (runL gs (ks.drop j) : Int) < k) (hst : st = 0 + (pre.length : Int)) (hlt : pre.length < ks.length) (h1 : st ≤ e) (h2 : e ≤ ks.length) (hj : ∀ j : Int, st ≤ j → j < e → ks.getD j.toNat 0 ∈ gs)
    (hx : ¬ e < ks.length ∨ ks.getD e.toNat 0 ∉ gs) (hk : k ≤ e - st) (h0 : 0 < k) : runOf gs (some k.toNat) ks = some (st.toNat, e.toNat) := by
  have hr := runL_at (gs := gs) (by omega) h1 h2 hj hx
  show findRun gs k.toNat ks 0 = _
  rw [findRun_some (a := st.toNat) (by omega) (fun j hj' => by have := hp j (by omega); omega) (by omega)]
  congr 1; ext <;> simp <;> omega

theorem notFound {gs ks : List Int} {k : Int} {n : Nat} (hp : ∀ j : Nat, j < n → (runL gs (ks.drop j) : Int) < k) (hn : ks.length ≤ n) (h0 : 0 < k) : runOf gs (some k.toNat) ks = none :=
  findRun_none fun j hj => by have := hp j (by omega); omega
end Mine
end

section
open PySem PySem.W PyProof.Rows PySem.Calls
set_option maxRecDepth 100000
namespace Mine
section
open Builtin
theorem gives_in (b : Array UInt8) (t u : Tok) (k : Int) (h0 : 0 ≤ k) (h1 : k < 256) : Gives («bytes.__contains__» ⟨[.bytes b t, .int k u], []⟩) (.val (.bool (b.contains k.toNat.toUInt8))) := by
  refine .of_wp fun M A E s Q hq => ?_
  show wpAny M A (Bytes.containsIn "bytes.__contains__" (.bytes b t) (.int k u) >>= fun r => _) _ E s
  refine wpAny_bind ?_
  unfold Bytes.containsIn
  show wpAny M A ((asIndex (.int k u)).attempt >>= fun r => _) _ E s
  refine wpAny_bind (wpAny_of_eq (a := Except.ok k) rfl ?_)
  refine wpAny_bind (wpAny_of_eq KBy.buffer_eq ?_)
  show wpAny M A (if (decide (k < 0) || decide (k ≥ 256)) = true then _ else _) _ E s
  have hf : (decide (k < 0) || decide (k ≥ 256)) = false := by simp; omega
  rw [hf]
  exact wpAny_pure (wpAny_pure ⟨_, rfl, hq⟩)
theorem contains_ints {b : Array UInt8} {gs : List Int} (hk : KBw.bInts b = gs) {k : Int} (h0 : 0 ≤ k) (h1 : k < 256) : b.contains k.toNat.toUInt8 = decide (k ∈ gs) := by
  subst hk
  have hb : k.toNat.toUInt8.toNat = k.toNat := by
    show (UInt8.ofNat k.toNat).toNat = k.toNat
    rw [UInt8.toNat_ofNat']; omega
  rw [Bool.eq_iff_iff]
  simp only [Array.contains_iff_mem, decide_eq_true_eq]
  show _ ↔ k ∈ b.toList.map fun c => ((c.toNat : Nat) : Int)
  constructor
  · intro h
    exact List.mem_map.mpr ⟨_, Array.mem_toList_iff.mpr h, by rw [hb]; omega⟩
  · intro h
    obtain ⟨c, hc, e⟩ := List.mem_map.mp h
    have : k.toNat.toUInt8 = c := by
      apply UInt8.toNat.inj
      rw [hb, ← e]; rfl
    rw [this]
    exact Array.mem_toList_iff.mp hc
end
section
variable {prog : Program} {w : World} {A : Around} {E : Value → Shared → Prop} {s : Shared} {Q : Value → Shared → Prop}
theorem in_bytes_K {b : Array UInt8} {t u : Tok} {k : Int} {gs : List Int} (hk : KBw.bInts b = gs) (h0 : 0 ≤ k) (h1 : k < 256) (h : Q (.bool (decide (k ∈ gs))) s) :
    wpAny (model prog w) A (compareOp .In (.int k u) (.bytes b t)) Q E s :=
  in_gives (typeIs_bytes s b t) FB.slot_bytes_contains FB.entry_bytes_contains (FB.args_bytes_contains_2 _ _) (gives_in b t u k h0 h1) (by rw [contains_ints hk h0 h1]; exact h)
end
end Mine
end

section
open PySem PySem.W PyProof.Rows PySem.Calls
set_option maxRecDepth 100000
namespace Mine
local macro_rules | `(tactic| walk_at "my fill") => `(tactic| (have kf : PySem.Challenge.rw_ez0306_01 = PySem.Challenge.rw_ez0306_01 ∧ hd.heap_39 = hd.heap_39 := by k_fill; exact ⟨rfl, rfl⟩))
local macro_rules | `(tactic| walk_at "my enterC") => `(tactic| (
  (case k1 => k_is)
  (case k2 => k_is)
  (case k3 => exact BindsTo.of_eq rfl)
  (case k4 => exact kindsX rfl)
  (case k5 => decide +kernel)
  (case k6 => rfl)
  (case k7 => rfl)
  (case k8 => rfl)))
local macro_rules | `(tactic| walk_at "my steps") => `(tactic| repeat' (first | (k_unfold; (try dsimp only)) | ((fail_if_success (with_reducible show wpAny _ _ (pyIter _) _ _ _)); (fail_if_success (with_reducible show wpAny _ _ (exec (Stmt.While _ _ _ _) _) _ _ _)); walk1) | (dsimp only; (fail_if_success (with_reducible show wpAny _ _ (pyIter _) _ _ _)); walk1) | fail "no step"))
local macro_rules | `(tactic| walk_at "compareOp In int bytes") => `(tactic| (k_here; (with_reducible show wpAny _ _ (compareOp CmpOp.In (Value.int _ _) (Value.bytes _ _)) _ _ _); refine in_bytes_K (by assumption) (by first | assumption | omega) (by first | assumption | omega) ?_))

def RunRes (w : World) (gs : List Int) (k : Option Nat) (ks : List Int) (h₀ : Heap) (v : Value) (h : Heap) : Prop :=
  match runOf gs k ks with
  | none => v = .none
  | some (a, b) => ∃ t ta tb, v = .ref t ∧ h.get? t = some (tupO [.int (a : Int) ta, .int (b : Int) tb]) ∧ Safe w t ∧ h₀.get? t = none

/-- the rest of the state: the generators only grow -/
structure Gos (s s' : Shared) : Prop where
  os : s'.os = s.os
  gsz : s.gens.size ≤ s'.gens.size
  gk : ∀ i, i < s.gens.size → s'.gens[i]? = s.gens[i]?
  bare : AllBare s.gens → AllBare s'.gens

structure Stp (s s' : Shared) : Prop extends Gos s s' where
  ext : Ext s.heap s'.heap

theorem Gos.refl (s : Shared) : Gos s s := ⟨rfl, Nat.le_refl _, fun _ _ => rfl, fun x => x⟩
theorem Gos.trans {a b c : Shared} (x : Gos a b) (y : Gos b c) : Gos a c :=
  ⟨y.os.trans x.os, Nat.le_trans x.gsz y.gsz, fun i h => (y.gk i (Nat.lt_of_lt_of_le h x.gsz)).trans (x.gk i h), fun q => y.bare (x.bare q)⟩
theorem Stp.trans {a b c : Shared} (x : Stp a b) (y : Stp b c) : Stp a c := ⟨x.toGos.trans y.toGos, x.ext.trans y.ext⟩
theorem Gos.stp {s s' : Shared} (x : Gos s s') {h' : Heap} {tk : Nat} (e : Ext s.heap h') : Stp s { s' with heap := h', toks := tk } := ⟨⟨x.os, x.gsz, x.gk, x.bare⟩, e⟩
theorem Stp.of_heap {s : Shared} {h' : Heap} {tk : Nat} (e : Ext s.heap h') : Stp s { s with heap := h', toks := tk } := (Gos.refl s).stp e

def RunPost (w : World) (gs : List Int) (k : Option Nat) (ks : List Int) (s : Shared) (v : Value) (s' : Shared) : Prop := RunRes w gs k ks s.heap v s'.heap ∧ Stp s s'

theorem run_ret {w : World} {p : Program} {loose : List Str} {mg mb : Str → Option Value} {gs ks : List Int} {k : Option Nat} {s s₃ : Shared} {g h' : Heap} {L D : Addr} {m : Str → Option Value} {ex news' : List (Addr × Obj)} {a b : Int} {ta tb : Tok} {ps : Array Value} {tk : Nat}
    (hg : g = hideAll s.heap (ex.map (·.1))) (he : Held w s.heap ex) (X : (hd.heap_39 w.params).In g) (T : TopRead p loose mg mb g) (M : ∃ ob, BMod g mainGlobals mg 4 ob) (F : Fr g L h' m) (N : News g L h' news') (hD : (D, tupO [.int a ta, .int b tb]) ∈ news') (hr : runOf gs k ks = some (a.toNat, b.toNat)) (ha : 0 ≤ a) (hb : 0 ≤ b)
    (hk : ∀ q ∈ ex, q.1 ≠ 16 → q ∈ news') (hm : (16, tabO ps) ∈ news') (hok : TabOk ps) (go : Gos s s₃) (hDe : D ∉ ex.map (·.1)) : RunPost w gs k ks s (.ref D) { s₃ with heap := h', toks := tk } := by
  refine ⟨?_, go.stp ?_⟩
  · unfold RunRes
    rw [hr]
    exact ⟨D, ta, tb, rfl, by rw [Int.toNat_of_nonneg ha, Int.toNat_of_nonneg hb]; exact (N _ hD).1, safe_of N X T M hD, by
      cases q : s.heap.get? D with
      | none => rfl
      | some o => have := (N _ hD).2.2; rw [hg, show (hideAll s.heap (ex.map (·.1))).get? D = some o from hideAll_get _ q hDe] at this; cases this⟩
  · subst hg
    exact ext_of F N (fun q hq => (he q hq).1) hk hm hok
theorem run_no {w : World} {gs ks : List Int} {k : Option Nat} {s s₃ : Shared} {g h' : Heap} {L : Addr} {m : Str → Option Value} {ex news' : List (Addr × Obj)} {ps : Array Value} {tk : Nat}
    (hg : g = hideAll s.heap (ex.map (·.1))) (he : Held w s.heap ex) (F : Fr g L h' m) (N : News g L h' news') (hr : runOf gs k ks = none)
    (hk : ∀ q ∈ ex, q.1 ≠ 16 → q ∈ news') (hm : (16, tabO ps) ∈ news') (hok : TabOk ps) (go : Gos s s₃) : RunPost w gs k ks s .none { s₃ with heap := h', toks := tk } := by
  refine ⟨?_, go.stp ?_⟩
  · unfold RunRes
    rw [hr]
  · subst hg
    exact ext_of F N (fun q hq => (he q hq).1) hk hm hok

theorem snoc_in {gs ks : List Int} {st e : Int} (h : ∀ j : Int, st ≤ j → j < e → ks.getD j.toNat 0 ∈ gs) (he : ks.getD e.toNat 0 ∈ gs) : ∀ j : Int, st ≤ j → j < e + 1 → ks.getD j.toNat 0 ∈ gs := by
  intro j h1 h2
  by_cases q : j = e
  · rw [q]; exact he
  · exact h j h1 (by omega)

set_option maxHeartbeats 8000000 in
theorem run_of_int {prog : Program} {w : World} {p : Program} {loose : List Str} {mg mb : Str → Option Value} {dp un : Nat} {fr : Option (List Env)} {gd : Option (List Code)} {s : Shared} {pt : Addr} {sg d : Array UInt8} {t1 t2 t3 : Tok} {k : Int} {gs ks : List Int}
   (H : Hp w p loose mg mb s.heap) (hroom : dp + 20 < recursionLimit) (hun : un + 200 < cLine) (hpt : s.heap.get? pt = some (tupO [.bytes sg t1, .int k t2])) (hps : Safe w pt)
   (hsg : KBw.bInts sg = gs) (hks : KBw.bInts d = ks) (hl1 : gs.length ≤ 64) (hl2 : ks.length ≤ 64) (hk0 : 0 < k) (hk1 : k < 10) :
   wpAny (model prog w) ⟨none, dp, fr, gd, un⟩ (call (.ref 21) [.ref pt, .bytes d t3]) (RunPost w gs (some k.toNat) ks s) (fun _ _ => False) s := by
  walk_at "my fill"
  obtain ⟨ps, hps1, hps2⟩ := H.tab
  have hex : Held w s.heap [(16, tabO ps), (pt, tupO [.bytes sg t1, .int k t2])] := by
    intro q hq
    simp only [List.mem_cons, List.not_mem_nil, or_false] at hq
    rcases hq with rfl | rfl
    · exact ⟨hps1, safe16 w⟩
    · exact ⟨hpt, hps⟩
  refine' enterC (A := ⟨none, dp, fr, gd, un⟩) (w := w) H [(16, tabO ps), (pt, tupO [.bytes sg t1, .int k t2])] hex ?k1 ?k2 (Nat.lt_of_le_of_lt (Nat.le_add_right dp 20) hroom) ?k3 ?k4 ?k5 ?k6 ?k7 ?k8 ?k0
  walk_at "my enterC"
  intro g L h₁ tk cells hg hL F N hY hlt X T M
  k_cells hY
  (try dsimp only)
  simp only [List.cons_append, List.nil_append] at N
  simp only [List.forall_mem_cons, List.not_mem_nil, false_implies, implies_true, and_true] at hlt
  walk_at "my steps"
  dsimp only
  (with_reducible rename News _ _ _ _ => nN); dsimp only [List.nil_append] at nN
  (k_with "state" => (first | (intro j hj; simp at hj; done) | ((try dsimp only); refine ⟨by omega, by omega, by omega, ?_⟩; first | exact snoc_in (by assumption) (by assumption) | (intro j h1 h2; omega)) | exact turn_end (by assumption) (by assumption) (by assumption) (by assumption) (by assumption) (.inl (by assumption)) (by assumption) | exact turn_end (by assumption) (by assumption) (by assumption) (by assumption) (by assumption) (.inr (by assumption)) (by assumption)))
  (rename Fr _ _ _ _ => lF); (rename IsRange _ _ _ _ _ _ _ _ => rgX)
  have hsm : Builtin.Range.small 0 (ks.length : Int) 1 = true := small_one (by decide) (by decide) (by omega) (by omega)
  refine' kst_range (σ := Unit) (fun _ => _) (fun _ => []) (fun _ => True) [Str.ofString "end"] (fun pre _ => ∀ j : Nat, j < pre.length → (runL gs (ks.drop j) : Int) < k) () rfl rgX hsm (rangeSize_nat _ _) lF nN trivial (List.forall_mem_nil _) (by intro j hj; simp at hj) ?_ ?_
  · (try clear lF nN rgX hsm)
    intro kC kPre kN kT kU kH kTk kOwn kEq kLt kOff kFacts kInv kFr kNews
    (try dsimp only at kFr kNews kInv)
    (try simp only [kstB] at kFr)
    (try simp only [List.cons_append, List.nil_append, List.map_cons, List.map_nil] at kNews)
    try k_fold
    walk_at "my steps"
    k_while_given ["start"] (fun st script e => 0 ≤ st ∧ st ≤ e ∧ e ≤ ks.length ∧ ∀ j : Int, st ≤ j → j < e → ks.getD j.toNat 0 ∈ gs) (fun st script e => (ks.length - e).toNat) "end"
    walk_at "my steps"
    all_goals
      show RunPost w gs (some k.toNat) ks s (.ref _) _
      refine run_ret hg hex X T M (by assumption) (by assumption) (List.Mem.head _) ?_ (by omega) (by omega) ?_ ?_ hps2 (s₃ := s) (Gos.refl s) ?_
      · first
        | exact found (by assumption) (by assumption) (by omega) (by assumption) (by assumption) (by assumption) (.inl (by assumption)) (by assumption) hk0
        | exact found (by assumption) (by assumption) (by omega) (by assumption) (by assumption) (by assumption) (.inr (by assumption)) (by assumption) hk0
      · simp only [List.forall_mem_cons, List.not_mem_nil, false_implies, implies_true, and_true]
        exact ⟨fun h => absurd rfl h, fun _ => by k_mem⟩
      · k_mem
      · rename_i l1
        simp only [List.map_cons, List.map_nil, List.mem_cons, List.not_mem_nil, or_false, not_or]
        exact ⟨Nat.ne_of_gt l1.2.1, Nat.ne_of_gt l1.2.2.1⟩
  · (try clear lF nN rgX hsm)
    intro kC kU kH kTk kFacts kInv kFr kNews
    (try dsimp only at kFr kNews kInv)
    (try simp only [kstB] at kFr)
    walk_at "my steps"
    show RunPost w gs (some k.toNat) ks s .none _
    refine run_no hg hex (by assumption) (by assumption) (notFound kInv (by rw [rangeKs_length]; omega) hk0) ?_ ?_ hps2 (s₃ := s) (Gos.refl s)
    · simp only [List.forall_mem_cons, List.not_mem_nil, false_implies, implies_true, and_true]
      exact ⟨fun h => absurd rfl h, fun _ => by k_mem⟩
    · k_mem
end Mine
end

section
open PySem PySem.W PyProof.Rows PySem.Calls
set_option maxRecDepth 100000
namespace Mine

theorem after {g h h' : Heap} {L : Addr} {m : Str → Option Value} {pre post : List (Addr × Obj)} {ps : Array Value} (F : Fr g L h m) (N : News g L h (pre ++ (16, tabO ps) :: post)) (h1 : ∀ q ∈ pre, q.1 ≠ 16) (h2 : ∀ q ∈ post, q.1 ≠ 16) (e : Ext h h') :
    ∃ ps', TabOk ps' ∧ Fr g L h' m ∧ News g L h' (pre ++ (16, tabO ps') :: post) := by
  obtain ⟨ps', hps', hok⟩ := e.tab
  have n16 := N (16, tabO ps) (by simp)
  obtain ⟨oL, es, ep, hL, r⟩ := F.ns
  refine ⟨ps', hok, ⟨⟨oL, es, ep, e.keep _ _ (Ne.symm n16.2.1) hL, r⟩, fun b o q => e.keep _ _ (fun z => ?_) (F.keep b o q), F.above⟩, fun q hq => ?_⟩
  · rw [z, n16.2.2] at q; cases q
  · rcases List.mem_append.mp hq with hq | hq
    · have := N q (List.mem_append_left _ hq)
      exact ⟨e.keep _ _ (h1 q hq) this.1, this.2⟩
    · rcases List.mem_cons.mp hq with rfl | hq
      · exact ⟨hps', n16.2⟩
      · have := N q (List.mem_append_right _ (.tail _ hq))
        exact ⟨e.keep _ _ (h2 q hq) this.1, this.2⟩

section
variable {prog : Program} {w : World} {p : Program} {loose : List Str} {mg mb : Str → Option Value} {A : Around} {s : Shared}

theorem code20 {h : Heap} (X : (hd.heap_39 w.params).In h) : CodeHd h 20 16 :=
  ⟨_, _, _, _, _, _, _, _, _, X 20 _ rfl, rfl, rfl, rfl, rfl, rfl, rfl, rfl, rfl, by decide⟩

def AllGen (prog : Program) (w : World) (A : Around) (s s₁ : Shared) (v : Value) (r : Bool) : Prop :=
  ∀ (Q : Value → Shared → Prop) (E : Value → Shared → Prop), (∀ s₂, Stp s s₂ → Q (.bool r) s₂) → wpAny (model prog w) A (call (.builtin "all") [v]) Q E s₁

theorem triples {ps : Array Value} (h : TabOk ps) : TriplesOk ps.toList := by
  rcases h with rfl | ⟨c', rfl⟩
  · exact trivial
  · exact trivial

theorem ite_gens {g : Nat} {a b : Array GenState} (x : GenOnlyQ g a b) : b.size = a.size ∧ ∀ i, i ≠ g → b[i]? = a[i]? := by
  rcases x with rfl | ⟨⟨h1, h2⟩, _⟩
  · exact ⟨rfl, fun _ _ => rfl⟩
  · exact ⟨h1, h2⟩

theorem passing_all (n : Nat) : passing (fun _ => true) n 0 = List.range n := by
  unfold passing; simp

def geElt : Expr := .Constant .none 0 ⟨0, 0, 0, 0⟩

/-- the generator expression (x in signs for x in bytes), made -/
theorem genexp_made {env : Env} {iter : Expr} {sx sg : Str} {px p1 p2 p3 pos : Pos} {scope : Scope} {c : Addr} {cl : List (Str × Addr)} {sgb : Array UInt8} {ts : Tok} {gs ks : List Int} {Q : Value → Shared → Prop} {E : Value → Shared → Prop}
    (hh : A.handled = none) (hco : scope.isCoroutine = false) (hclos : closureFor scope env = pure cl) (hcell : ∀ y ∈ scope.names, y.2 ≠ .cell) (h0 : scope.names.lookup (".0" : Str) = some NameKind.local)
    (hx : scope.names.lookup sx = some .local) (hsg : scope.names.lookup sg = some .free) (hd1 : (sx == ("__debug__" : Str)) = false) (hd2 : (sg == ("__debug__" : Str)) = false) (hd3 : (sg == ("__classdict__" : Str)) = false)
    (hkind : scope.kind = .function) (hroom : A.depth < recursionLimit)
    (hcode : env.code = .ref 20) (hglob : env.globals = mainGlobals) (hpos : pos.line = 6 ∧ pos.col = 27)
    (hcl : cl.lookup sg = some c) (hgs : KBw.bInts sgb = gs)
    (hs : ∀ x, genFold iter env x = pure x)
    (hit : wpAny (model prog w) A (eval iter env) (fun xv s₁ => ∃ b tb, xv = .bytes b tb ∧ KBw.bInts b = ks ∧ Hp w p loose mg mb s₁.heap ∧ s₁.heap.IsCell c (some (.bytes sgb ts)) ∧ c ≠ 16 ∧
      ∀ v s₂, AllGen prog w A s₁ s₂ v (decide (∀ k ∈ ks, k ∈ gs)) → Q v s₂) E s) :
    wpAny (model prog w) A (eval (.GeneratorExp (.Compare (.Name sx p1) [.In] [.Name sg p2] p3) [⟨.Name sx px, iter, [], 0⟩] scope pos) env) Q E s := by
  refine wpAny_GeneratorExp_walksQD hh hco hclos hcell h0 hx hkind hroom (wpAny_mono hit (fun xv s₁ h₁ => ?_) fun _ _ e => e) hs
  obtain ⟨b, tb, rfl, hks, H, hc, hc16, hQ⟩ := h₁
  refine KBw.pyIter_bytes ?_
  obtain ⟨ps, hps, hok⟩ := H.tab
  have X := H.X
  refine ⟨H.T.nolimit.push _, ?_⟩
  -- the state with the iterator
  generalize hs2 : ({ s₁ with heap := s₁.heap.push { cls := .type "bytes_iterator", data := .fields #[.bytes b tb, .int 0 0] } } : Shared) = s₂
  have e12 : Ext s₁.heap s₂.heap := by subst hs2; exact ⟨fun b' o' _ e => Heap.get?_push_of_some _ e, ps, Heap.get?_push_of_some _ hps, hok⟩
  have k12 : ∀ b' o', s₁.heap.get? b' = some o' → s₂.heap.get? b' = some o' := by subst hs2; exact fun b' o' e => Heap.get?_push_of_some _ e
  have hit2 : KBw.IsBytesIter s₂.heap s₁.heap.objs.size b tb 0 := by subst hs2; exact ⟨_, Heap.get?_push_size _ rfl, rfl, rfl⟩
  have hsz2 : s₂.heap.objs.size = s₁.heap.objs.size + 1 := by subst hs2; exact Heap.size_push ..
  have g2 : s₂.gens = s₁.gens := by subst hs2; rfl
  have o2 : s₂.os = s₁.os := by subst hs2; rfl
  have H2 := H.ext e12
  have rest : ∀ (code : Value) (s₃ : Shared), Ext s₂.heap s₃.heap → s₂.heap.objs.size ≤ s₃.heap.objs.size → s₃.gens = s₂.gens → s₃.os = s₂.os →
      wpAny (model prog w) A (builtinsFor env.globals env.builtins) (fun bi s₄ =>
        ∃ I fp wr n₀ P St₀ pz F, Value.ref s₁.heap.objs.size = .ref I ∧ (∀ A' : Around, A'.handled = none → Walks prog w A' I fp wr n₀ P St₀) ∧ St₀ 0 s₄.heap ∧ (∀ b ∈ fp, b < s₄.heap.objs.size) ∧ s₄.heap.NoLimit ∧ cStatics ∉ wr ∧
          (∀ href : Heap, (∀ b o, s₄.heap.get? b = some o → href.get? b = some o) →
            QuietGenD prog w (genEnv scope cl s₄.heap.objs.size code bi env) sx [] (.Compare (.Name sx p1) [.In] [.Name sg p2] p3) (List.range s₄.heap.objs.size) wr P pz F href (A.depth + 1) (A.units + 8)) ∧
          (∀ a h₅ tk gst, gst.bare = true → s₄.heap.objs.size < a → h₅.objs.size = a + 1 → (∀ b o, s₄.heap.get? b = some o → h₅.get? b = some o) →
            WalksS prog w A.in4 a (a :: s₄.heap.objs.size :: List.range s₄.heap.objs.size) (s₄.heap.objs.size :: wr) (GenOnlyQ s₄.gens.size) (passing pz n₀ 0).length
              (fun j y => ∃ i, (passing pz n₀ 0)[j]? = some i ∧ F i y) (GenAt prog w A.in4 a s₄.gens.size s₄.heap.objs.size (List.range s₄.heap.objs.size) wr pz n₀ F) →
            GenAt prog w A.in4 a s₄.gens.size s₄.heap.objs.size (List.range s₄.heap.objs.size) wr pz n₀ F 0 { s₄ with gens := s₄.gens.push gst, toks := tk, heap := h₅ } →
            Q (.ref a) { s₄ with gens := s₄.gens.push gst, toks := tk, heap := h₅ })) E s₃ := by
    intro code s₃ e23 hle g3 o3
    have H3 := H2.ext e23
    obtain ⟨ob, M⟩ := H3.M
    rw [hglob]
    refine wpAny_builtinsFor M.ns M.name M.ne M.obj M.cls M.dict M.data ?_
    have hs13 : s₁.heap.objs.size < s₃.heap.objs.size := by
      have q : s₁.heap.objs.size + 1 ≤ s₃.heap.objs.size := by rw [← hsz2]; exact hle
      exact q
    have ne16 : s₁.heap.objs.size ≠ 16 := Nat.ne_of_gt (Heap.lt_size hps)
    have hit3 : KBw.IsBytesIter s₃.heap s₁.heap.objs.size b tb 0 := let ⟨o, ho, r⟩ := hit2; ⟨o, e23.keep _ _ ne16 ho, r⟩
    have c3 : s₃.heap.IsCell c (some (.bytes sgb ts)) := let ⟨o, ho, r⟩ := hc; ⟨o, e23.keep _ _ hc16 (k12 _ _ ho), r⟩
    have clt : c < s₃.heap.objs.size := let ⟨o, ho, r⟩ := c3; Heap.lt_size ho
    have cne : c ≠ s₁.heap.objs.size := let ⟨o, ho, r⟩ := hc; Nat.ne_of_lt (Heap.lt_size ho)
    refine ⟨s₁.heap.objs.size, [s₁.heap.objs.size], [s₁.heap.objs.size], b.size, _, _, fun _ => true, fun i y => y = .bool (decide (ks.getD i 0 ∈ gs)), rfl, fun A' hA => KBw.walks hA _ b tb, hit3, ?_, H3.T.nolimit, ?_, ?_, ?_⟩
    · intro q hq
      rw [List.mem_singleton.mp hq]; exact hs13
    · intro hm
      have := List.mem_singleton.mp hm
      obtain ⟨_, ⟨o, _, _, ho, _⟩, _⟩ := H.T.nolimit
      exact absurd (Heap.lt_size ho) (by rw [this]; exact Nat.lt_irrefl _)
    · intro href hk
      refine ⟨fun A' E' i v s' m₂ _ _ _ _ _ _ _ => wpAny_pure ⟨rfl, s'.heap, s'.toks, rfl, fun _ _ e => e⟩, fun A' E' i v s' m₂ _ _ _ hP _ hn hv hk' => ?_⟩
      obtain ⟨cb, u, hcb, rfl⟩ := hP
      have cs : s'.heap.IsCell c (some (.bytes sgb ts)) := let ⟨o, ho, r⟩ := c3; ⟨o, hk' c (List.mem_range.mpr clt) (fun hm => cne (List.mem_singleton.mp hm)) o (hk _ _ ho), r⟩
      refine wpAny_Compare1 ?_ (by with_unfolding_all rfl)
      refine wpAny_Name (wpAny_loadName_local (m := m₂) hkind hx hn hv ?_) hd1
      refine wpAny_Name (wpAny_loadName_free hkind hsg hcl cs ?_ hd3) hd2
      have eb : ks.getD i 0 = ((cb.toNat : Nat) : Int) := by
        rw [← hks]
        show (b.toList.map fun c => ((c.toNat : Nat) : Int)).getD i 0 = _
        rw [List.getD_eq_getElem?_getD, List.getElem?_map, Array.getElem?_toList, hcb]; rfl
      refine in_bytes_K hgs (by omega) (by have := cb.toNat_lt; omega) ⟨by rw [eb], s'.heap, s'.toks, rfl, fun _ _ e => e⟩
    · intro a h₅ tk gst hb hag hsz5 hk5 W st
      refine hQ _ _ fun Q' E' hQ' => ?_
      rw [passing_all] at W
      have W1 := W.in4_1
      refine call_all_walkS (W1.self 0 _ _ _ st ⟨a, _, _, _, _, _, _, fun i => decide (ks.getD i 0 ∈ gs), rfl, W1, st, ?_, fun s' hm => ?_⟩)
      · rintro i v s' Q'' E'' ⟨j, hj, rfl⟩ hq
        have : i = j := by
          rw [List.getElem?_range (by
            rcases Nat.lt_or_ge i b.size with h | h
            · exact h
            · rw [List.getElem?_eq_none (by simpa using h)] at hj; cases hj)] at hj
          exact Option.some.inj hj
        subst this
        exact wpAny_truthy_bool hq
      · have hlen : b.size = ks.length := by rw [← hks, KBw.ints_length]
        have hres : (List.range (List.range b.size).length).all (fun i => decide (ks.getD i 0 ∈ gs)) = decide (∀ k ∈ ks, k ∈ gs) := by
          rw [List.length_range, hlen, Bool.eq_iff_iff]
          simp only [List.all_eq_true, List.mem_range, decide_eq_true_eq]
          constructor
          · intro h k hk
            obtain ⟨i, hi, rfl⟩ := List.mem_iff_getElem.mp hk
            have := h i hi
            rwa [List.getD_eq_getElem?_getD, List.getElem?_eq_getElem hi] at this
          · intro h i hi
            rw [List.getD_eq_getElem?_getD, List.getElem?_eq_getElem hi]
            exact h _ (List.getElem_mem hi)
        rw [hres]
        refine hQ' s' ⟨⟨?_, ?_, ?_, ?_⟩, ⟨fun b' o' hb' e => ?_, ?_⟩⟩
        · exact hm.os.trans (o3.trans o2)
        · have := (ite_gens hm.gens).1
          rw [this]
          simp only [Array.size_push, g3, g2]; omega
        · intro i hi
          rw [(ite_gens hm.gens).2 i (by rw [g3, g2]; omega), Array.getElem?_push]
          rw [if_neg (by rw [g3, g2]; omega), g3, g2]
        · intro hbare
          refine hm.gens.bare (fun y hy => ?_)
          rcases Array.mem_push.mp hy with hy | rfl
          · rw [g3, g2] at hy; exact hbare y hy
          · exact hb
        · refine hm.heap b' o' (fun hw => ?_) (hk5 _ _ (e23.keep _ _ hb' (k12 _ _ e)))
          have lt := Heap.lt_size e
          rcases List.mem_cons.mp hw with q | hw
          · rw [q] at lt; exact absurd (Nat.lt_trans lt hs13) (Nat.lt_irrefl _)
          · rw [List.mem_singleton.mp hw] at lt; exact absurd lt (Nat.lt_irrefl _)
        · obtain ⟨ps3, h3, hok3⟩ := e23.tab
          refine ⟨ps3, hm.heap _ _ (fun hw => ?_) (hk5 _ _ h3), hok3⟩
          have lt := Heap.lt_size hps
          rcases List.mem_cons.mp hw with q | hw
          · rw [q] at lt; exact absurd (Nat.lt_trans lt hs13) (Nat.lt_irrefl _)
          · rw [List.mem_singleton.mp hw] at lt; exact absurd lt (Nat.lt_irrefl _)
  rcases hok with rfl | ⟨c', rfl⟩
  · have htab : s₂.heap.get? 16 = some (tabO #[]) := k12 _ _ hps
    refine wpAny_genexprCodeX (c := 20) (P := 16) (ps := #[]) hcode ((code20 H2.X).code htab trivial) ((code20 H2.X).tab htab) rfl fun c' h' tk hx2 hge hlt hcd hrec htb _ => ?_
    refine rest _ _ ⟨fun b' o' hb' e => hx2 b' o' hb' e, _, htb.2, .inr ⟨c', ?_⟩⟩ (Nat.le_trans hge (Nat.le_of_lt hlt)) rfl rfl
    rw [hpos.1, hpos.2]; rfl
  · have htab : s₂.heap.get? 16 = some (tabO #[rawInt 6, rawInt 27, .ref c']) := k12 _ _ hps
    refine wpAny_genexprCode_hit (c := 20) (P := 16) (ps := #[rawInt 6, rawInt 27, .ref c']) hcode ((code20 H2.X).code htab trivial) (c' := .ref c') ?_ ?_
    · show codeAmong pos [rawInt 6, rawInt 27, .ref c'] = _
      simp [codeAmong, rawInt, hpos.1, hpos.2]
    · exact rest _ _ ⟨fun _ _ _ e => e, H2.tab⟩ (Nat.le_refl _) rfl rfl
end
end Mine
end

section
open PySem PySem.W PyProof.Rows PySem.Calls
set_option maxRecDepth 100000
namespace Mine
local macro_rules | `(tactic| walk_at "my fill") => `(tactic| (have kf : PySem.Challenge.rw_ez0306_01 = PySem.Challenge.rw_ez0306_01 ∧ hd.heap_39 = hd.heap_39 := by k_fill; exact ⟨rfl, rfl⟩))
local macro_rules | `(tactic| walk_at "my enterC") => `(tactic| (
  (case k1 => k_is)
  (case k2 => k_is)
  (case k3 => exact BindsTo.of_eq rfl)
  (case k4 => exact kindsX rfl)
  (case k5 => decide +kernel)
  (case k6 => rfl)
  (case k7 => rfl)
  (case k8 => rfl)))
local macro_rules | `(tactic| walk_at "my steps") => `(tactic| repeat' (first | (k_unfold; (try dsimp only)) | ((fail_if_success (with_reducible show wpAny _ _ (pyIter _) _ _ _)); (fail_if_success (with_reducible show wpAny _ _ (exec (Stmt.While _ _ _ _) _) _ _ _)); (fail_if_success (with_reducible show wpAny _ _ (eval (Expr.GeneratorExp _ _ _ _) _) _ _ _)); walk1) | (dsimp only; (fail_if_success (with_reducible show wpAny _ _ (pyIter _) _ _ _)); walk1) | fail "no step"))
local macro_rules | `(tactic| walk_at "compareOp In int bytes") => `(tactic| (k_here; (with_reducible show wpAny _ _ (compareOp CmpOp.In (Value.int _ _) (Value.bytes _ _)) _ _ _); refine in_bytes_K (by assumption) (by first | assumption | omega) (by first | assumption | omega) ?_))

theorem nl_absurd {b : Array UInt8} {ks : List Int} {n m : Nat} (hk : KBw.bInts b = List.take n (List.drop m ks)) (h : (b.toList == [10]) = true) (hnl : ∀ c ∈ ks, c ≠ 10) : False := by
  have e : b.toList = [10] := by simpa using h
  have e2 : KBw.bInts b = [10] := by
    show b.toList.map _ = _
    rw [e]; rfl
  rw [hk] at e2
  exact hnl 10 (List.mem_of_mem_drop (List.mem_of_mem_take (e2 ▸ List.mem_singleton.mpr rfl))) rfl

set_option maxHeartbeats 8000000 in
theorem run_of_none {prog : Program} {w : World} {p : Program} {loose : List Str} {mg mb : Str → Option Value} {dp un : Nat} {fr : Option (List Env)} {gd : Option (List Code)} {s : Shared} {pt : Addr} {sg d : Array UInt8} {t1 t3 : Tok} {gs ks : List Int}
   (H : Hp w p loose mg mb s.heap) (hroom : dp + 20 < recursionLimit) (hun : un + 200 < cLine) (hpt : s.heap.get? pt = some (tupO [.bytes sg t1, .none])) (hps : Safe w pt)
   (hsg : KBw.bInts sg = gs) (hks : KBw.bInts d = ks) (hl1 : gs.length ≤ 64) (hl2 : ks.length ≤ 64) (hnl : ∀ c ∈ ks, c ≠ 10) :
   wpAny (model prog w) ⟨none, dp, fr, gd, un⟩ (call (.ref 21) [.ref pt, .bytes d t3]) (RunPost w gs none ks s) (fun _ _ => False) s := by
  walk_at "my fill"
  obtain ⟨ps, hps1, hps2⟩ := H.tab
  have hex : Held w s.heap [(16, tabO ps), (pt, tupO [.bytes sg t1, .none])] := by
    intro q hq
    simp only [List.mem_cons, List.not_mem_nil, or_false] at hq
    rcases hq with rfl | rfl
    · exact ⟨hps1, safe16 w⟩
    · exact ⟨hpt, hps⟩
  refine' enterC (A := ⟨none, dp, fr, gd, un⟩) (w := w) H [(16, tabO ps), (pt, tupO [.bytes sg t1, .none])] hex ?k1 ?k2 (Nat.lt_of_le_of_lt (Nat.le_add_right dp 20) hroom) ?k3 ?k4 ?k5 ?k6 ?k7 ?k8 ?k0
  walk_at "my enterC"
  intro g L h₁ tk cells hg hL F N hY hlt X T M
  k_cells hY
  (try dsimp only)
  simp only [List.cons_append, List.nil_append] at N
  simp only [List.forall_mem_cons, List.not_mem_nil, false_implies, implies_true, and_true] at hlt
  have hl16 : (16 : Nat) < L := hlt.1
  have n1 : ((L + 1 : Nat) : Addr) ≠ 16 := by intro q; have : L + 1 = 16 := q; omega
  have hp16 : pt ≠ 16 := by rintro rfl; rw [hps1] at hpt; cases hpt
  walk_at "my steps"
  · exact (nl_absurd (by assumption) (by assumption) hnl).elim
  · exact (nl_absurd (by assumption) (by assumption) hnl).elim
  · (with_reducible rename News _ _ _ _ => nN); dsimp only [List.nil_append] at nN
    rename Fr _ _ _ _ => lF
    refine genexp_made (w := w) (p := p) (loose := loose) (mg := mg) (mb := mb) (c := L + 1) (cl := [(Str.ofString "signs", L + 1)]) (ts := t1) (gs := gs) (ks := ks) rfl rfl (by with_unfolding_all rfl) (by decide +kernel) rfl rfl rfl (by decide) (by decide) (by decide) rfl ?_ rfl rfl ⟨rfl, rfl⟩ rfl hsg (by intro x; with_unfolding_all rfl) ?_
    · show dp + 1 < recursionLimit; omega
    · walk_at "my steps"
      · refine (by assumption : KBw.bInts (KBy.picked d none _) = List.take _ _).trans ?_
        rw [Nat.min_self, List.take_length]
      · exact hp_of (by assumption) (by assumption) X T M (by k_mem) hps2
      · exact ⟨_, News.get (by assumption) (List.Mem.head _), by assumption⟩
      · exact n1
      · (with_reducible rename News _ _ _ _ => nN)
        rename Fr _ _ _ _ => lF
        rename AllGen _ _ _ _ _ _ _ => hA
        refine hA _ _ fun s₃ st => ?_
        obtain ⟨ps', hps', F', N'⟩ := after (pre := [(L + 1, _)]) (post := [(pt, _)]) lF nN (List.forall_mem_singleton.mpr n1) (List.forall_mem_singleton.mpr hp16) st.ext
        have hgo : Gos s s₃ := ⟨st.os, st.gsz, st.gk, st.bare⟩
        clear hA st lF nN
        dsimp only [List.cons_append, List.nil_append] at N'
        walk_at "my steps"
        · show RunPost w gs none ks s (.ref _) _
          refine run_ret (s₃ := s₃) (a := 0) (b := ks.length) hg hex X T M (by assumption) (by assumption) (List.Mem.head _) ?_ (by omega) (by omega) ?_ ?_ hps' hgo ?_
          · show (if 0 < ks.length ∧ ∀ c ∈ ks, c ∈ gs then some (0, ks.length) else none) = _
            rw [if_pos ⟨by omega, by assumption⟩]; simp
          · simp only [List.forall_mem_cons, List.not_mem_nil, false_implies, implies_true, and_true]
            exact ⟨fun h => absurd rfl h, fun _ => by k_mem⟩
          · k_mem
          · rename_i l1
            simp only [List.map_cons, List.map_nil, List.mem_cons, List.not_mem_nil, or_false, not_or]
            exact ⟨Nat.ne_of_gt l1.2.1, Nat.ne_of_gt l1.2.2⟩
        · show RunPost w gs none ks s .none _
          refine run_no (s₃ := s₃) hg hex F' N' ?_ ?_ (by k_mem) hps' hgo
          · show (if 0 < ks.length ∧ ∀ c ∈ ks, c ∈ gs then some (0, ks.length) else none) = _
            rw [if_neg (fun q => by have := q.2; contradiction)]
          · simp only [List.forall_mem_cons, List.not_mem_nil, false_implies, implies_true, and_true]
            exact ⟨fun h => absurd rfl h, fun _ => by k_mem⟩
  · (with_reducible rename News _ _ _ _ => nN); dsimp only [List.nil_append] at nN
    show RunPost w gs none ks s .none _
    refine run_no (s₃ := s) hg hex (by assumption) nN ?_ ?_ (by k_mem) hps2 (Gos.refl s)
    · show (if 0 < ks.length ∧ ∀ c ∈ ks, c ∈ gs then some (0, ks.length) else none) = _
      rw [if_neg (fun q => by have := q.1; omega)]
    · simp only [List.forall_mem_cons, List.not_mem_nil, false_implies, implies_true, and_true]
      exact ⟨fun h => absurd rfl h, fun _ => by k_mem⟩
end Mine
end

section
open PySem PySem.W PyProof.Rows PySem.Calls
set_option maxRecDepth 100000
namespace Mine

def Yof (Z : Nat → Shared → Value → Shared → Prop) (V : Shared → Shared → Prop) : Protocol := fun n s₀ v s κ => Z n s₀ v s ∧ ∀ s'', V s s'' → κ (.send .none) s''

section
variable {prog : Program} {w : World} {A : Around} {R : GenEnd} {Y : Protocol} {n : Nat} {s₀ s : Shared} {c : Code} {fs : List Frame}

abbrev SW (prog : Program) (w : World) (A : Around) (R : GenEnd) (Y : Protocol) (n : Nat) (s₀ : Shared) (c : Code) (fs : List Frame) {α : Type} (t : Sem α) (K : α → Sem Fin) (H : Value → Sem Fin) (gd : Bool → Bool) (lv : List Value → List Value) (s : Shared) : Prop :=
  Seg (model prog w) A R Y n s₀ c (t.wrap K H gd lv) fs s

theorem sw_bind {α β : Type} {m : Sem α} {f : α → Sem β} {K H gd lv} (h : wpAny (model prog w) (A.over c fs) m (fun a s' => SW prog w A R Y n s₀ c fs (f a) K H gd lv s') (fun _ _ => False) s) :
    SW prog w A R Y n s₀ c fs (m >>= f) K H gd lv s :=
  seg_bind_wrap (wpAny_mono h (fun _ _ x => x) fun _ _ x => x.elim)

theorem sw_of {α : Type} {m : Sem α} {K : α → Sem Fin} {H gd lv} (h : wpAny (model prog w) (A.over c fs) m (fun a s' => Seg (model prog w) A R Y n s₀ c (K a) fs s') (fun _ _ => False) s) :
    SW prog w A R Y n s₀ c fs m K H gd lv s :=
  seg_wrap (wpAny_mono h (fun _ _ x => x) fun _ _ x => x.elim)

theorem sw_congr {α : Type} {t : Sem α} {K K' : α → Sem Fin} {H gd lv} (hK : ∀ a, K a = K' a) (h : SW prog w A R Y n s₀ c fs t K H gd lv s) : SW prog w A R Y n s₀ c fs t K' H gd lv s := by
  rw [← show K = K' from funext hK]; exact h

theorem sw_execs_nil {env : Env} {K H gd lv} (h : Seg (model prog w) A R Y n s₀ c (K .next) fs s) : SW prog w A R Y n s₀ c fs (execs [] env) K H gd lv s := h

theorem sw_execs_cons {env : Env} {st : Stmt} {rest : List Stmt} {K H gd lv}
    (h : SW prog w A R Y n s₀ c fs (exec st env) (fun f => match f with | .next => (execs rest env).wrap K H gd lv | f => K f) H gd lv s) :
    SW prog w A R Y n s₀ c fs (execs (st :: rest) env) K H gd lv s := by
  show Seg _ A R Y n s₀ c ((exec st env >>= fun f => match f with | .next => execs rest env | f => pure f).wrap K H gd lv) fs s
  rw [Sem.bind_eq_wrap', Sem.wrap_wrap]
  exact sw_congr (fun a => by cases a <;> rfl) h

/-- a statement that yields nothing -/
theorem sw_stmt {env : Env} {st : Stmt} {K H gd lv} (h : wpAny (model prog w) (A.over c fs) (exec st env) (fun f s' => Seg (model prog w) A R Y n s₀ c (K f) fs s') (fun _ _ => False) s) :
    SW prog w A R Y n s₀ c fs (exec st env) K H gd lv s := sw_of h

theorem sw_if {env : Env} {test : Expr} {body orelse : List Stmt} {pos : Pos} {K H gd lv}
    (h : wpAny (model prog w) (A.over c fs) (isTrue test env (eval test env)) (fun b s' => SW prog w A R Y n s₀ c fs (if b = true then execs body env else execs orelse env) K H gd lv s') (fun _ _ => False) s) :
    SW prog w A R Y n s₀ c fs (exec (.If test body orelse pos) env) K H gd lv s := by
  show Seg _ A R Y n s₀ c ((standAt pos >>= fun _ => isTrue test env (eval test env) >>= fun b => if b = true then execs body env else execs orelse env).wrap K H gd lv) fs s
  exact sw_bind (wpAny_standAt (sw_bind h))

theorem sw_yield {Z : Nat → Shared → Value → Shared → Prop} {V : Shared → Shared → Prop} {env : Env} {e : Expr} {p1 pos : Pos} {K H gd lv}
    (hco : env.scope.isCoroutine = false) (hi : interactive env = false) (hfs : splitAtGen fs = none) (hfg : fs.any Frame.guarded = false) (hgd : gd false = false)
    (h : wpAny (model prog w) (A.over c fs) (eval e env) (fun v s' => Z n s₀ v s' ∧ ∀ s'', V s' s'' → Seg (model prog w) A R (Yof Z V) n s'' c (K .next) fs s'') (fun _ _ => False) s) :
    SW prog w A R (Yof Z V) (n + 1) s₀ c fs (exec (.Expr (.Yield (some e) p1) pos) env) K H gd lv s := by
  have hy : ∀ v, yieldOut env v = yieldValue v := fun v => by simp only [yieldOut, hco, Bool.false_eq_true, if_false]
  rw [arm_exec_Expr, hi]
  simp only [Bool.false_eq_true, if_false]
  refine sw_bind (wpAny_standAt ?_)
  refine sw_bind (wpAny_of_eq (a := false) rfl ?_)
  simp only [Bool.false_eq_true, if_false]
  show Seg _ A R _ _ s₀ c (((eval e env >>= fun v => standAt p1 >>= fun _ => yieldOut env v) >>= fun v => dropValue (.Yield (some e) p1) pos v).wrap K H gd lv) fs s
  simp only [hy]
  rw [Sem.bind_eq_wrap', Sem.bind_eq_wrap', Sem.wrap_wrap, Sem.wrap_wrap]
  refine seg_wrap (wpAny_mono h (fun v s' hv => ?_) fun _ _ x => x.elim)
  refine seg_at (seg_yield hfs hgd hfg ⟨hv.1, fun s'' hV => ?_⟩)
  exact hv.2 s'' hV

theorem sw_while {env : Env} {test : Expr} {body orelse : List Stmt} {pos : Pos} {K H gd lv} (hgd : gd false = false)
    (h : ∀ (p : Pos) (k : Result → Sem Fin) (l : List Value), (∀ f, k (.ok f) = K f) →
      Seg (model prog w) A R Y n s₀ (.whileLoop test body orelse env) ((model prog w).den (.whileLoop test body orelse env)) (.ret k none false l c p [] :: fs) s) :
    SW prog w A R Y n s₀ c fs (exec (.While test body orelse pos) env) K H gd lv s := by
  rw [arm_exec_While]
  refine sw_bind (wpAny_standAt ?_)
  unfold runOwn run
  show Seg _ A R Y n s₀ c (.call _ none (gd false) (lv []) _) fs s
  rw [hgd]
  exact seg_call fun p => h p _ _ fun f => rfl

theorem seg_while {env : Env} {test : Expr} {body : List Stmt}
    (h : wpAny (model prog w) (A.over (.whileLoop test body [] env) fs) (isTrue test env (eval test env)) (fun b s' => if b = true then
        ∀ H, SW prog w A R Y n s₀ (.whileLoop test body [] env) fs (execs body env) (fun f => match f with | .next | .cont => .pure (.again (.whileLoop test body [] env)) | .brk => .pure (.done .next) | .ret v => .pure (.done (.ret v))) H id id s'
      else Seg (model prog w) A R Y n s₀ (.whileLoop test body [] env) (.pure (.done .next)) fs s') (fun _ _ => False) s) :
    Seg (model prog w) A R Y n s₀ (.whileLoop test body [] env) ((model prog w).den (.whileLoop test body [] env)) fs s := by
  show Seg _ A R Y n s₀ _ ((whileTurn test body [] env).onRaise _) fs s
  unfold whileTurn
  rw [Sem.onRaise_eq_wrap]
  refine sw_bind (wpAny_mono h (fun b s' hb => ?_) fun _ _ x => x)
  cases b with
  | false =>
    have hb' : Seg (model prog w) A R Y n s₀ (.whileLoop test body [] env) (.pure (.done .next)) fs s' := by simpa using hb
    exact hb'
  | true =>
    simp only [if_true] at hb ⊢
    rw [Sem.bind_eq_wrap']
    show Seg _ A R Y n s₀ _ (((execs body env).wrap _ .raise id id).wrap _ _ _ _) fs s'
    rw [Sem.wrap_wrap]
    exact sw_congr (fun a => by cases a <;> rfl) (hb _)

theorem sw_for {env : Env} {target iter : Expr} {body : List Stmt} {pos : Pos} {K H gd lv} (hgd : gd false = false) (hs : ∀ x, foldedSetIterable iter env x = pure x)
    (h : wpAny (model prog w) (A.over c fs) (eval iter env) (fun x s₁ => wpAny (model prog w) (A.over c fs) (pyIter x) (fun it s₂ => ∀ (p : Pos) (k : Result → Sem Fin) (l : List Value), (∀ f, k (.ok f) = K f) →
      Seg (model prog w) A R Y n s₀ (.forLoop target it body [] env) ((model prog w).den (.forLoop target it body [] env)) (.ret k none false l c p [] :: fs) s₂) (fun _ _ => False) s₁) (fun _ _ => False) s) :
    SW prog w A R Y n s₀ c fs (exec (.For target iter body [] pos) env) K H gd lv s := by
  rw [arm_exec_For]
  refine sw_bind (wpAny_standAt (sw_bind (wpAny_mono h (fun x s₁ h₁ => ?_) fun _ _ x => x)))
  rw [hs]
  refine sw_bind (wpAny_pure (sw_bind (wpAny_standAt (sw_bind (wpAny_holding (wpAny_mono h₁ (fun it s₂ h₂ => ?_) fun _ _ x => x))))))
  unfold runOwn run
  show Seg _ A R Y n s₀ c (.call _ none (gd false) (lv []) _) fs s₂
  rw [hgd]
  exact seg_call fun p => h₂ p _ _ fun f => rfl

theorem seg_for {env : Env} {target : Expr} {it : Value} {body : List Stmt}
    (h : wpAny (model prog w) (A.over (.forLoop target it body [] env) fs) (pyNext it) (fun o s' => match o with
      | none => Seg (model prog w) A R Y n s₀ (.block [] env) (.pure (.done .next)) fs s'
      | some v => wpAny (model prog w) (A.over (.forLoop target it body [] env) fs) (letOwnedTupleGo target it v) (fun _ s₁ => wpAny (model prog w) (A.over (.forLoop target it body [] env) fs) (assign target env v) (fun _ s₂ =>
        ∀ H, SW prog w A R Y n s₀ (.forLoop target it body [] env) fs (execs body env) (fun f => match f with | .next | .cont => .pure (.again (.forLoop target it body [] env)) | .brk => .pure (.done .next) | .ret v => .pure (.done (.ret v))) H id id s₂)
        (fun _ _ => False) s₁) (fun _ _ => False) s') (fun _ _ => False) s) :
    Seg (model prog w) A R Y n s₀ (.forLoop target it body [] env) ((model prog w).den (.forLoop target it body [] env)) fs s := by
  show Seg _ A R Y n s₀ _ ((forTurn target it body [] env).onRaise _) fs s
  unfold forTurn
  rw [Sem.onRaise_eq_wrap]
  refine sw_bind (wpAny_standAt (sw_bind (wpAny_onRaise (wpAny_mono h (fun o s' ho => ?_) fun _ _ x => x.elim))))
  cases o with
  | none =>
    refine seg_again rfl ?_
    show Seg _ A R Y n s₀ (.block [] env) ((((execs [] env).onRaise _) >>= fun f => .pure (.done f))) fs s'
    exact ho
  | some v =>
    refine sw_bind (wpAny_mono ho (fun _ s₁ h₁ => sw_bind (wpAny_mono h₁ (fun _ s₂ h₂ => ?_) fun _ _ x => x)) fun _ _ x => x)
    rw [Sem.bind_eq_wrap']
    show Seg _ A R Y n s₀ _ (((execs body env).wrap _ .raise id id).wrap _ _ _ _) fs s₂
    rw [Sem.wrap_wrap]
    exact sw_congr (fun a => by cases a <;> rfl) (h₂ _)

/-- the whole body -/
theorem seg_func {env : Env} {body : List Stmt}
    (h : ∀ H, SW prog w A R Y n s₀ (.func body env) [] (execs body env) (fun f => match f with | .ret v => .pure (.done (.ret v)) | _ => .pure (.done (.ret .none))) H id id s) :
    Seg (model prog w) A R Y n s₀ (.func body env) ((model prog w).den (.func body env)) [] s := by
  show Seg _ A R Y n s₀ _ (.point [] fun _ => (((execs body env).onRaise (leaving env)) >>= fun f => match f with | .ret v => ret v | _ => ret .none)) [] s
  refine seg_point ?_
  rw [Sem.onRaise_eq_wrap, Sem.bind_eq_wrap', Sem.wrap_wrap]
  exact sw_congr (fun a => by cases a <;> rfl) (h _)
end
end Mine
end

section
open PySem PySem.W PyProof.Rows PySem.Calls
set_option maxRecDepth 100000
namespace Mine
section
variable {prog : Program} {w : World} {p : Program} {loose : List Str} {mg mb : Str → Option Value}

/-- run_of, from anywhere -/
def leastV : Option Nat → Tok → Value
  | none, _ => .none
  | some k, t => .int (k : Int) t

theorem run_of {A : Around} {s : Shared} {pt : Addr} {sg d : Array UInt8} {t1 t2 t3 : Tok} {least : Option Nat} {gs ks : List Int}
    (hA : A.handled = none) (hroom : A.depth + 20 < recursionLimit) (hun : A.units + 200 < cLine)
    (H : Hp w p loose mg mb s.heap) (hpt : s.heap.get? pt = some (tupO [.bytes sg t1, leastV least t2])) (hps : Safe w pt)
    (hsg : KBw.bInts sg = gs) (hks : KBw.bInts d = ks) (hl1 : gs.length ≤ 64) (hl2 : ks.length ≤ 64) (hnl : ∀ c ∈ ks, c ≠ 10) (hk : ∀ k, least = some k → 0 < k ∧ k < 10) :
    wpAny (model prog w) A (call (.ref 21) [.ref pt, .bytes d t3]) (RunPost w gs least ks s) (fun _ _ => False) s := by
  obtain ⟨hd, dp, fr, gd, un⟩ := A
  have hA' : hd = none := hA
  subst hA'
  cases least with
  | none => exact run_of_none H hroom hun hpt hps hsg hks hl1 hl2 hnl
  | some k =>
    have := hk k rfl
    have h := run_of_int (k := (k : Int)) H hroom hun hpt hps hsg hks hl1 hl2 (by omega) (by omega) (prog := prog) (fr := fr) (gd := gd) (t3 := t3)
    rwa [Int.toNat_natCast] at h

/-- one step of a generator of the text's, its states bare -/
theorem next_gen {A : Around} {E : Value → Shared → Prop} {s : Shared} {a : Addr} {g n : Nat} {gst : GenState} {P : Nat → Shared → Shared → Prop} {Y : Protocol} {Q : Option Value → Shared → Prop} (hh : A.handled = none)
    (hl : s.heap.NoLimit) (hroom : A.depth < recursionLimit) (hg : s.heap.IsGen a g) (hgs : s.gens[g]? = some gst)
    (hgo : gst.Goes (model prog w) A.in1 (fun n s₀ r s₁ => r = .ok (.ret .none) ∧ P n s₀ s₁) Y n (.send .none) (s.setGen g .running))
    (hY : ∀ v s₁ gs', gs'.bare = true → Y (n - 1) (s.setGen g .running) v s₁ (fun r' s'' => match n with
        | 0 => False
        | m + 1 => gs'.Goes (model prog w) A.in1 (fun n s₀ r s₁ => r = .ok (.ret .none) ∧ P n s₀ s₁) Y m r' s'') → Q (some v) (s₁.setGen g gs'))
    (hP : ∀ s₁, P n (s.setGen g .running) s₁ → ∀ h' : Heap, (∀ b o, s₁.heap.get? b = some o → h'.get? b = some o) → Q none { s₁.setGen g .finished with heap := h' }) :
    wpAny (model prog w) A (pyNext (.ref a)) Q E s := by
  have live : ∀ (F G : Sem Fin), gst.status = .fresh ∨ gst.status = .suspended := fun _ _ => by
    cases gst with
    | fresh _ => exact .inl rfl
    | suspended _ _ _ _ _ _ => exact .inr rfl
    | running => exact hgo.elim
    | finished => exact hgo.elim
  have wake : wpAny (model prog w) A.in1 (.resume g (.send .none) [] .pure) (fun r s₁ => match r with
      | .yielded v => Q (some v) s₁
      | .returned v => v = .none ∧ ∀ h' : Heap, (∀ b o, s₁.heap.get? b = some o → h'.get? b = some o) → Q none { s₁ with heap := h' }
      | _ => False) (fun _ _ => False) s := by
    refine wpAny_resumeQ hgs hgo (fun x s₁ hx => ?_) (fun v s₁ gs' hb hv => wpAny_pure (hY v s₁ gs' hb hv))
    obtain ⟨rfl, hp⟩ := hx
    exact wpAny_pure ⟨rfl, hP s₁ hp⟩
  unfold pyNext
  refine wpAny_bind (wpAny_attempt (wpAny_callSpecial?_slot (name := Str.ofString "__next__") hg.typeIs slot_gen_next (wpAny_call_entry slot_gen_next hg.typeIs entry_gen_next ?_ (args_gen_next _))))
  show wpAny _ A.in1 (Builtin.Generator.genWake (.ref a) (.send .none)) _ _ s
  unfold Builtin.Generator.genWake
  refine wpAny_bind (wpAny_holding (wpAny_genNumber hg (wpAny_bind (wpAny_genState hgs ?_))))
  cases gst with
  | running => exact hgo.elim
  | finished => exact hgo.elim
  | _ =>
    refine wpAny_bind (wpAny_roomToWake hl hroom ?_)
    show wpAny _ A.in1 (.resume g (.send .none) [] .pure >>= fun r => _) _ _ s
    refine wpAny_bind (wpAny_mono wake (fun r s₁ hr => ?_) fun _ _ x => x.elim)
    cases r with
    | yielded v => exact wpAny_pure ⟨v, rfl, wpAny_pure hr⟩
    | returned v =>
      obtain ⟨rfl, hr⟩ := hr
      show wpAny _ A.in1 (newExc (.type "StopIteration") [] >>= _) _ _ _
      refine wpAny_bind ?_
      simp only [newExc, newTuple]
      refine wpAny_bind (wpAny_newObj_type ?_ (by size_fits))
      refine wpAny_bind (m := firstArgMember _ _) (wpAny_of_eq (a := Value.none) (by first | rfl | (simp only [firstArgMember]; rfl)) ?_)
      refine wpAny_newObj_type ?_ (by size_fits)
      simp only [raiseNew]
      refine wpAny_bind (wpAny_bind (wpAny_handled ?_))
      rw [show A.in1.handled = none from hh]
      refine wpAny_throw ?_
      refine wpAny_bind (wpAny_isInstance (T := "StopIteration") (b := true) ⟨_, Heap.get?_push_size _ rfl, rfl⟩ isSubtype_stop ?_)
      exact wpAny_pure (hr _ fun b o hb => Heap.get?_push_of_some _ (Heap.get?_push_of_some _ hb))
    | raised _ => exact hr.elim
    | running => exact hr.elim
    | finished => exact hr.elim
    | justStarted => exact hr.elim

/-- a generator of the text's is made -/
theorem make_gen {A : Around} {s : Shared} {Q : Value → Shared → Prop} {E : Value → Shared → Prop} {name qual : Str} {params : Arguments} {body : List Stmt} {scope : Scope} {dV kV doc pm cdv ct oc : Value} {an od : Option Addr} {osl : Array (Option Value)} {f : Addr} {args : List Value} {binds : List (Str × Value)}
    (H : Hp w p loose mg mb s.heap)
    (ho : (hd.heap_39 w.params).lookup f = some ⟨oc, od, .func (fnOf name qual params body scope dV kV doc pm an cdv ct), osl⟩) (hcd : codeIn (hd.heap_39 w.params) cdv qual = true)
    (hroom : A.depth < recursionLimit)
    (hbind : BindsTo s (fnOf name qual params body scope dV kV doc pm an cdv ct) ⟨args, []⟩ binds) (hloc : ∀ y ∈ binds, scope.names.lookup y.1 = some .local)
    (hcell : ∀ x ∈ scope.names, x.2 ≠ .cell) (hco : scope.isCoroutine = false) (hgen : scope.isGenerator = true) (hk : scope.kind = .function)
    (h : ∀ C a s', C = s.heap.objs.size → C < a → s.heap.get? a = none → s'.heap.Ns C (fun y => binds.reverse.lookup y) → s'.heap.IsGen a s.gens.size → s'.gens = s.gens.push (.fresh (.func body (envOf qual scope C f cdv))) → Stp s s' → Q (.ref a) s') :
    wpAny (model prog w) A (call (.ref f) args) Q E s := by
  refine wpAny_call ?_
  refine codeAny_call_generator hroom (H.X _ _ ho) rfl hco hgen rfl (codeRec_of H.X hcd) (hbind _ _ _ _ ?_)
  refine wpAny_newFunctionEnv hcell hloc (fun h' hn hs => ?_) hk
  have keep : ∀ b o, s.heap.get? b = some o → h'.get? b = some o := fun b o e => hs.extBut b o (Nat.ne_of_lt (Heap.lt_size e)) (Heap.get?_push_of_some _ e)
  have hsz : h'.objs.size = s.heap.objs.size + 1 := by rw [hs.1, Heap.size_push]
  have H' : Hp w p loose mg mb h' := H.ext ⟨fun b o _ e => keep b o e, let ⟨ps, e, hok⟩ := H.tab; ⟨ps, keep _ _ e, hok⟩⟩
  refine ⟨H'.T.nolimit, ?_⟩
  refine h s.heap.objs.size h'.objs.size _ rfl (by rw [hsz]; exact Nat.lt_succ_self _) ?_ (hn.push _) ⟨_, _, _, Heap.get?_push_size _ rfl, rfl, rfl, rfl⟩ rfl ⟨⟨rfl, ?_, fun i hi => ?_, fun hb y hy => ?_⟩, ⟨fun b o _ e => Heap.get?_push_of_some _ (keep b o e), ?_⟩⟩
  · cases q : s.heap.get? h'.objs.size with
    | none => rfl
    | some o => have := Heap.lt_size q; rw [hsz] at this; exact absurd (Nat.lt_trans (Nat.lt_succ_self _) this) (Nat.lt_irrefl _)
  · simp
  · show (s.gens.push _)[i]? = _
    rw [Array.getElem?_push, if_neg (by omega)]
  · rcases Array.mem_push.mp hy with hy | rfl
    · exact hb y hy
    · rfl
  · obtain ⟨ps, e, hok⟩ := H.tab
    exact ⟨ps, Heap.get?_push_of_some _ (keep _ _ e), hok⟩
end
end Mine
end

section
open PySem PySem.W PyProof.Rows PySem.Calls
namespace Mine

theorem findRun_bounds {gs : List Int} {k : Nat} (hk : 0 < k) : ∀ {ks : List Int} {i a b : Nat}, findRun gs k ks i = some (a, b) → i ≤ a ∧ a + k ≤ b ∧ b ≤ i + ks.length ∧ b = a + runL gs (ks.drop (a - i)) ∧ (∀ j, j < a - i → runL gs (ks.drop j) < k)
  | [], _, _, _, h => by cases h
  | c :: r, i, a, b, h => by
    unfold findRun at h
    split at h
    · rename_i h1
      cases h
      have := runL_le gs (c :: r)
      exact ⟨Nat.le_refl _, by omega, by omega, by simp, fun j hj => by omega⟩
    · rename_i h1
      obtain ⟨q1, q2, q3, q4, q5⟩ := findRun_bounds hk h
      have e : a - i = (a - (i + 1)) + 1 := by omega
      refine ⟨by omega, q2, by simp only [List.length_cons]; omega, by rw [e, List.drop_succ_cons]; exact q4, fun j hj => ?_⟩
      cases j with
      | zero => simpa using Nat.lt_of_not_le h1
      | succ j => rw [List.drop_succ_cons]; exact q5 j (by omega)

theorem runOf_bounds {gs : List Int} {least : Option Nat} {ks : List Int} {a b : Nat} (hk : ∀ k, least = some k → 0 < k) (h : runOf gs least ks = some (a, b)) : a < b ∧ b ≤ ks.length := by
  cases least with
  | none =>
    unfold runOf at h
    simp only at h
    split at h
    · cases h; rename_i q; exact ⟨q.1, Nat.le_refl _⟩
    · cases h
  | some k =>
    obtain ⟨q1, q2, q3, _⟩ := findRun_bounds (hk k rfl) (show findRun gs k ks 0 = some (a, b) from h)
    have := hk k rfl
    exact ⟨by omega, by omega⟩

def split (gs : List Int) (least : Option Nat) (ks : List Int) : List (Bool × List Int) :=
  if ks = [] then [] else
    match runOf gs least ks with
    | none => [(false, ks)]
    | some (a, b) => if h : 0 < b ∧ 0 < ks.length then
        (if a = 0 then [] else [(false, ks.take a)]) ++ (true, (ks.drop a).take (b - a)) :: split gs least (ks.drop b)
      else []
termination_by ks.length
decreasing_by simp only [List.length_drop]; omega

theorem split_nil (gs : List Int) (least : Option Nat) : split gs least [] = [] := by rw [split]; simp
theorem split_none {gs : List Int} {least : Option Nat} {ks : List Int} (h0 : ks ≠ []) (h : runOf gs least ks = none) : split gs least ks = [(false, ks)] := by
  rw [split, if_neg h0, h]
theorem split_some {gs : List Int} {least : Option Nat} {ks : List Int} {a b : Nat} (h : runOf gs least ks = some (a, b)) (hb : 0 < b ∧ b ≤ ks.length) :
    split gs least ks = (if a = 0 then [] else [(false, ks.take a)]) ++ (true, (ks.drop a).take (b - a)) :: split gs least (ks.drop b) := by
  have h0 : ks ≠ [] := by rintro rfl; simp at hb; omega
  rw [split, if_neg h0, h]
  simp only
  rw [dif_pos ⟨hb.1, by omega⟩]
end Mine
end

section
open PySem PySem.W PyProof.Rows PySem.Calls
set_option maxRecDepth 100000
namespace Mine

/-- a part of a run that may turn the frames Cs and the generators Gs -/
structure StpB (Cs : Addr → Prop) (Gs : Nat → Prop) (s s' : Shared) : Prop where
  os : s'.os = s.os
  gsz : s.gens.size ≤ s'.gens.size
  gk : ∀ i, i < s.gens.size → ¬ Gs i → s'.gens[i]? = s.gens[i]?
  bare : AllBare s.gens → AllBare s'.gens
  keep : ∀ b o, b ≠ 16 → ¬ Cs b → s.heap.get? b = some o → s'.heap.get? b = some o
  tab : ∃ ps, s'.heap.get? 16 = some (tabO ps) ∧ TabOk ps

theorem StpB.trans {Cs : Addr → Prop} {Gs : Nat → Prop} {a b c : Shared} (x : StpB Cs Gs a b) (y : StpB Cs Gs b c) : StpB Cs Gs a c :=
  ⟨y.os.trans x.os, Nat.le_trans x.gsz y.gsz, fun i h hg => (y.gk i (Nat.lt_of_lt_of_le h x.gsz) hg).trans (x.gk i h hg), fun q => y.bare (x.bare q), fun b o h1 h2 e => y.keep b o h1 h2 (x.keep b o h1 h2 e), y.tab⟩
theorem Stp.toB {Cs : Addr → Prop} {Gs : Nat → Prop} {a b : Shared} (x : Stp a b) : StpB Cs Gs a b := ⟨x.os, x.gsz, fun i h _ => x.gk i h, x.bare, fun b o h1 _ e => x.ext.keep b o h1 e, x.ext.tab⟩
theorem StpB.mono {Cs Cs' : Addr → Prop} {Gs Gs' : Nat → Prop} {a b : Shared} (x : StpB Cs Gs a b) (h1 : ∀ b, Cs b → Cs' b) (h2 : ∀ b, Gs b → Gs' b) : StpB Cs' Gs' a b :=
  ⟨x.os, x.gsz, fun i h hg => x.gk i h fun q => hg (h2 _ q), x.bare, fun b o h hc e => x.keep b o h (fun q => hc (h1 _ q)) e, x.tab⟩

section
variable {prog : Program} {w : World} {p : Program} {loose : List Str} {mg mb : Str → Option Value} {h h' : Heap} {C : Addr} {m : Str → Option Value}

theorem Hp.stpB {Cs : Addr → Prop} {Gs : Nat → Prop} {s s' : Shared} (H : Hp w p loose mg mb s.heap) (x : StpB Cs Gs s s') (hC : ∀ a, Cs a → Safe w a) : Hp w p loose mg mb s'.heap := by
  have nK : ∀ a o, (hd.heap_39 w.params).lookup a = some o → ¬ Cs a := fun a o e q => by rw [(hC a q).1] at e; cases e
  have n3 : ¬ Cs mainGlobals := fun q => by have := K_has3 w; rw [(hC _ q).1] at this; cases this
  have n2 : ¬ Cs cStatics := fun q => by have := K_has2 w; rw [(hC _ q).1] at this; cases this
  have ne : ∀ a m, s.heap.Ns a m → a ≠ 16 → ¬ Cs a → s'.heap.Ns a m := fun a m n h1 h2 => let ⟨o, es, ep, q, r⟩ := n; ⟨o, es, ep, x.keep _ _ h1 h2 q, r⟩
  exact ⟨fun a o q => x.keep _ _ (K_no16 _ _ q) (nK a o q) (H.X a o q), ⟨ne _ _ H.T.g (by decide) n3, ne _ _ H.T.b (by decide) (fun q => (hC _ q).2.1 rfl), let ⟨mc, a, b⟩ := H.T.nolimit; ⟨mc, ne _ _ a (by decide) n2, b⟩, H.T.builtins, H.T.free⟩,
    let ⟨ob, M⟩ := H.M; ⟨ob, ne _ _ M.ns (by decide) n3, M.name, M.ne, x.keep _ _ (by decide) (fun q => (hC _ q).2.2 rfl) M.obj, M.cls, M.dict, M.data⟩, x.tab⟩

/-- C lies above all that stood before the call -/
structure AboveK (w : World) (C : Addr) : Prop where
  k : ∀ a o, (hd.heap_39 w.params).lookup a = some o → a < C
  b : builtinsNs < C
  m : (4 : Nat) < C
  t : (16 : Nat) < C

theorem AboveK.of (H : Hp w p loose mg mb h) : AboveK w h.objs.size :=
  ⟨fun a o e => Heap.lt_size (H.X a o e), let ⟨_, _, _, e, _⟩ := H.T.b; Heap.lt_size e, let ⟨_, M⟩ := H.M; Heap.lt_size M.obj, let ⟨_, e, _⟩ := H.tab; Heap.lt_size e⟩
theorem AboveK.safe (x : AboveK w C) : Safe w C :=
  ⟨by cases q : (hd.heap_39 w.params).lookup C with | none => rfl | some o => exact absurd (x.k C o q) (Nat.lt_irrefl _), fun q => absurd x.b (q ▸ Nat.lt_irrefl _), fun q => absurd x.m (q ▸ Nat.lt_irrefl _)⟩

def trunc (h : Heap) (C : Addr) : Heap := ⟨(h.objs.toList.take C).toArray, h.life⟩
theorem trunc_lt {b : Addr} (hb : b < C) : (trunc h C).get? b = h.get? b := by
  unfold trunc Heap.get?
  have hb' : (b : Nat) < C := hb
  have : (h.objs.toList.take C).toArray[b]? = h.objs[b]? := by
    rw [List.getElem?_toArray, List.getElem?_take, if_pos hb', Array.getElem?_toList]
  simp only [this]
theorem trunc_ge {b : Addr} (hb : C ≤ b) : (trunc h C).get? b = none := by
  unfold trunc Heap.get?
  have hb' : (C : Nat) ≤ b := hb
  have : (h.objs.toList.take C).toArray[b]? = none := by
    rw [List.getElem?_toArray, List.getElem?_take, if_neg (Nat.not_lt.mpr hb')]
  simp only [this]
theorem of_trunc {b : Addr} {o : Obj} (e : (trunc h C).get? b = some o) : b < C ∧ h.get? b = some o := by
  by_cases hb : b < C
  · rw [trunc_lt hb] at e; exact ⟨hb, e⟩
  · rw [trunc_ge (Nat.le_of_not_lt hb)] at e; cases e

def newer (h : Heap) (C : Addr) (ex : List Addr) : List (Addr × Obj) :=
  (List.range h.objs.size).filterMap fun b => if C < b ∧ b ∉ ex then (h.get? b).map fun o => (b, o) else none
theorem mem_newer {ex : List Addr} {b : Addr} {o : Obj} : (b, o) ∈ newer h C ex ↔ (C < b ∧ b ∉ ex) ∧ h.get? b = some o := by
  unfold newer
  rw [List.mem_filterMap]
  constructor
  · rintro ⟨a, _, e⟩
    split at e
    · rename_i q
      cases ho : h.get? a with
      | none => rw [ho] at e; cases e
      | some o' => rw [ho] at e; cases e; exact ⟨q, ho⟩
    · cases e
  · rintro ⟨q, e⟩
    exact ⟨b, List.mem_range.mpr (Heap.lt_size e), by rw [if_pos q, e]; rfl⟩

/-- a generator's frame C, woken: the walk's ground -/
theorem enterG (H : Hp w p loose mg mb h) (hn : h.Ns C m) (hC : AboveK w C) (ex : List (Addr × Obj)) (he : Held w h ex) (hexC : ∀ q ∈ ex, q.1 ≠ C) :
    ∃ g W, Fr g C h m ∧ News g C h (ex ++ W) ∧ (∀ q ∈ W, q.1 ≠ 16) ∧ (hd.heap_39 w.params).In g ∧ TopRead p loose mg mb g ∧ (∃ ob, BMod g mainGlobals mg 4 ob) ∧
      (∀ h' m' ex', Fr g C h' m' → News g C h' (ex' ++ W) → ∀ b o, b ≠ C → b ∉ ex.map (·.1) → h.get? b = some o → h'.get? b = some o) := by
  have X : (hd.heap_39 w.params).In (trunc h C) := fun a o e => by rw [trunc_lt (hC.k a o e)]; exact H.X a o e
  have nst : ∀ a m, h.Ns a m → a < C → (trunc h C).Ns a m := fun a m n ha => let ⟨o, es, ep, e, r⟩ := n; ⟨o, es, ep, by rw [trunc_lt ha]; exact e, r⟩
  have l3 : mainGlobals < C := by
    have := K_has3 w
    obtain ⟨o, e⟩ := Option.isSome_iff_exists.mp this
    exact hC.k _ _ e
  have l2 : cStatics < C := by
    have := K_has2 w
    obtain ⟨o, e⟩ := Option.isSome_iff_exists.mp this
    exact hC.k _ _ e
  have T : TopRead p loose mg mb (trunc h C) := ⟨nst _ _ H.T.g l3, nst _ _ H.T.b hC.b, let ⟨mc, a, b⟩ := H.T.nolimit; ⟨mc, nst _ _ a l2, b⟩, H.T.builtins, H.T.free⟩
  have M : ∃ ob, BMod (trunc h C) mainGlobals mg 4 ob := let ⟨ob, M⟩ := H.M; ⟨ob, nst _ _ M.ns l3, M.name, M.ne, by rw [trunc_lt hC.m]; exact M.obj, M.cls, M.dict, M.data⟩
  have hX : (hd.heap_39 w.params).In (hideAll (trunc h C) (ex.map (·.1))) := fun a o e =>
    hideAll_get _ (X a o e) fun q => by
      obtain ⟨x, hx, rfl⟩ := List.mem_map.mp q
      rw [(he x hx).2.1] at e; cases e
  have n3 : mainGlobals ∉ ex.map (·.1) := fun q => by
    obtain ⟨x, hx, e⟩ := List.mem_map.mp q
    have := K_has3 w; rw [← e, (he x hx).2.1] at this; cases this
  have n2 : cStatics ∉ ex.map (·.1) := fun q => by
    obtain ⟨x, hx, e⟩ := List.mem_map.mp q
    have := K_has2 w; rw [← e, (he x hx).2.1] at this; cases this
  have nb : builtinsNs ∉ ex.map (·.1) := fun q => by
    obtain ⟨x, hx, e⟩ := List.mem_map.mp q
    exact (he x hx).2.2.1 e
  have n4 : (4 : Addr) ∉ ex.map (·.1) := fun q => by
    obtain ⟨x, hx, e⟩ := List.mem_map.mp q
    exact (he x hx).2.2.2 e
  have hT : TopRead p loose mg mb (hideAll (trunc h C) (ex.map (·.1))) := ⟨ns_hide T.g n3, ns_hide T.b nb, let ⟨mc, a, b⟩ := T.nolimit; ⟨mc, ns_hide a n2, b⟩, T.builtins, T.free⟩
  have hM : ∃ ob, BMod (hideAll (trunc h C) (ex.map (·.1))) mainGlobals mg 4 ob := let ⟨ob, M⟩ := M; ⟨ob, ns_hide M.ns n3, M.name, M.ne, hideAll_get _ M.obj n4, M.cls, M.dict, M.data⟩
  refine ⟨hideAll (trunc h C) (ex.map (·.1)), newer h C (ex.map (·.1)), ⟨hn, fun b o e => (of_trunc (of_hideAll _ e)).2, ?_⟩, fun q hq => ?_, fun q hq => ?_, hX, hT, hM, fun h' m' ex' F' N' b o hb hex e => ?_⟩
  · rw [hideAll_size]
    show (h.objs.toList.take C).toArray.size ≤ C
    rw [List.size_toArray, List.length_take]
    exact Nat.min_le_left _ _
  · rcases List.mem_append.mp hq with hq | hq
    · exact ⟨(he q hq).1, hexC q hq, hideAll_none _ (List.mem_map_of_mem hq)⟩
    · obtain ⟨⟨q1, q2⟩, q3⟩ := mem_newer.mp hq
      refine ⟨q3, (Nat.ne_of_gt q1), ?_⟩
      cases z : (hideAll (trunc h C) (ex.map (·.1))).get? q.1 with
      | none => rfl
      | some o => exact absurd (of_trunc (of_hideAll _ z)).1 (Nat.not_lt.mpr (Nat.le_of_lt q1))
  · have := (mem_newer.mp hq).1.1
    intro e
    rw [e] at this
    exact absurd hC.t (Nat.not_lt.mpr (Nat.le_of_lt this))
  · rcases Nat.lt_or_ge b C with hlt | hge
    · exact F'.keep b o (hideAll_get _ (by rw [trunc_lt hlt]; exact e) hex)
    · have hgt : C < b := Nat.lt_of_le_of_ne hge (Ne.symm hb)
      exact (N' (b, o) (List.mem_append_right _ (mem_newer.mpr ⟨⟨hgt, hex⟩, e⟩))).1
end
end Mine
end

section
open PySem PySem.W PyProof.Rows PySem.Calls
set_option maxRecDepth 100000
namespace Mine
local macro_rules | `(tactic| walk_at "my fill") => `(tactic| (have kf : PySem.Challenge.rw_ez0306_01 = PySem.Challenge.rw_ez0306_01 ∧ hd.heap_39 = hd.heap_39 := by k_fill; exact ⟨rfl, rfl⟩))
local macro_rules | `(tactic| walk_at "compareOp In int bytes") => `(tactic| (k_here; (with_reducible show wpAny _ _ (compareOp CmpOp.In (Value.int _ _) (Value.bytes _ _)) _ _ _); refine in_bytes_K (by assumption) (by first | assumption | omega) (by first | assumption | omega) ?_))

def ItemV (w : World) (it : Bool × List Int) (v : Value) (h : Heap) : Prop := ∃ t b tb, v = .ref t ∧ h.get? t = some (tupO [.bool it.1, .bytes b tb]) ∧ KBw.bInts b = it.2 ∧ Safe w t

abbrev OnlyC (C : Addr) : Addr → Prop := fun b => b = C
abbrev NoG : Nat → Prop := fun _ => False

def spZ (w : World) (all : List (Bool × List Int)) (C : Addr) : Nat → Shared → Value → Shared → Prop := fun n s₀ v s' =>
  (∃ it, all[all.length - 1 - n]? = some it ∧ ItemV w it v s'.heap ∧ ∃ m, s'.heap.Ns C m) ∧ StpB (OnlyC C) NoG s₀ s'
local macro_rules | `(tactic| walk_at "my guard") => `(tactic| ((fail_if_success (with_reducible show wpAny _ _ (pyIter _) _ _ _)); (fail_if_success (with_reducible show wpAny _ _ (exec (Stmt.While _ _ _ _) _) _ _ _)); (fail_if_success (with_reducible show wpAny _ _ (call (Value.ref _) _ _) _ _ _)); (fail_if_success (with_reducible show Seg _ _ _ _ _ _ _ _ _ _)); (fail_if_success (with_reducible show SW _ _ _ _ _ _ _ _ _ _ _ _ _ _ _)); (fail_if_success (with_reducible show _ → _)); (fail_if_success (with_reducible show spZ _ _ _ _ _ _ _ ∧ _))))
local macro_rules | `(tactic| walk_at "my steps") => `(tactic| repeat' (first | (k_unfold; (try dsimp only)) | (walk_at "my guard"; walk1) | (walk_at "my guard"; dsimp only; walk_at "my guard"; walk1) | fail "no step"))
def spV (w : World) (p : Program) (loose : List Str) (mg mb : Str → Option Value) (C pt : Addr) : Shared → Shared → Prop := fun s s'' =>
  Hp w p loose mg mb s''.heap ∧ ∀ b o, b = C ∨ b = pt → s.heap.get? b = some o → s''.heap.get? b = some o
def spR (C : Addr) : Nat → Shared → Shared → Prop := fun n s₀ s₁ => n = 0 ∧ StpB (OnlyC C) NoG s₀ s₁

structure SplitGen (prog : Program) (w : World) (p : Program) (loose : List Str) (mg mb : Str → Option Value) (A : Around) (a g C pt : Nat) (all : List (Bool × List Int)) (j : Nat) (s : Shared) : Prop where
  gen : s.heap.IsGen a g
  ns : ∃ m, s.heap.Ns C m
  st : ∃ gst, s.gens[g]? = some gst ∧ gst.bare = true ∧ ∀ s'', spV w p loose mg mb C pt s s'' →
    gst.Goes (model prog w) A.in1 (fun n s₀ r s₁ => r = .ok (.ret .none) ∧ spR C n s₀ s₁) (Yof (spZ w all C) (spV w p loose mg mb C pt)) (all.length - j) (.send .none) s''

theorem StpB.refl {Cs : Addr → Prop} {Gs : Nat → Prop} {w : World} {p : Program} {loose : List Str} {mg mb : Str → Option Value} {s : Shared} (H : Hp w p loose mg mb s.heap) : StpB Cs Gs s s :=
  ⟨rfl, Nat.le_refl _, fun _ _ _ => rfl, fun x => x, fun _ _ _ _ e => e, H.tab⟩
theorem Ns_congr {h : Heap} {C : Addr} {m m' : Str → Option Value} (n : h.Ns C m) (e : ∀ y, m y = m' y) : h.Ns C m' := by rw [← show m = m' from funext e]; exact n
theorem ne16_of {w : World} {p : Program} {loose : List Str} {mg mb : Str → Option Value} {h : Heap} {a : Addr} {o : Obj} (H : Hp w p loose mg mb h) (e : h.get? a = some o) (hc : o.cls ≠ .none) : a ≠ 16 := by
  rintro rfl
  obtain ⟨ps, q, _⟩ := H.tab
  rw [q] at e; cases e; exact hc rfl

theorem news_add {g h₀ h : Heap} {L t : Addr} {m : Str → Option Value} {news : List (Addr × Obj)} {o : Obj} (N : News g L h news) (F : Fr g L h₀ m) (ht : h.get? t = some o) (hn : h₀.get? t = none) : News g L h ((t, o) :: news) := by
  intro q hq
  rcases List.mem_cons.mp hq with rfl | hq
  · refine ⟨ht, ?_, ?_⟩
    · rintro rfl
      obtain ⟨_, _, _, e, _⟩ := F.ns
      rw [hn] at e; cases e
    · cases z : g.get? t with
      | none => rfl
      | some o' => have := F.keep _ _ z; rw [hn] at this; cases this
  · exact N q hq

theorem sw_tt {prog : Program} {w : World} {A : Around} {R : GenEnd} {Y : Protocol} {n : Nat} {s₀ s : Shared} {c : Code} {fs : List Frame} {α : Type} {b : Bool} {X Z : Sem α} {K : α → Sem Fin} {H gd lv} (hb : b = true) (h : SW prog w A R Y n s₀ c fs X K H gd lv s) :
    SW prog w A R Y n s₀ c fs (if b = true then X else Z) K H gd lv s := by rw [if_pos hb]; exact h
theorem sw_ff {prog : Program} {w : World} {A : Around} {R : GenEnd} {Y : Protocol} {n : Nat} {s₀ s : Shared} {c : Code} {fs : List Frame} {α : Type} {b : Bool} {X Z : Sem α} {K : α → Sem Fin} {H gd lv} (hb : b = false) (h : SW prog w A R Y n s₀ c fs Z K H gd lv s) :
    SW prog w A R Y n s₀ c fs (if b = true then X else Z) K H gd lv s := by rw [if_neg (by rw [hb]; exact Bool.false_ne_true)]; exact h

theorem idx_at {α : Type} {all P : List α} {it : α} {rest : List α} (h : all = P ++ it :: rest) : all[all.length - 1 - rest.length]? = some it := by
  subst h
  have e : (P ++ it :: rest).length - 1 - rest.length = P.length := by simp only [List.length_append, List.length_cons]; omega
  rw [e]; simp
theorem Ns_norm {h : Heap} {C : Addr} {m : Str → Option Value} {v1 v2 : Value} (n : h.Ns C m) (h1 : m (Str.ofString "data") = some v1) (h2 : m (Str.ofString "pattern") = some v2) :
    h.Ns C (fun y => if y = Str.ofString "data" then some v1 else if y = Str.ofString "pattern" then some v2 else m y) := by
  refine Ns_congr n fun y => ?_
  by_cases q1 : y = Str.ofString "data"
  · subst q1; rw [if_pos rfl]; exact h1
  · rw [if_neg q1]
    by_cases q2 : y = Str.ofString "pattern"
    · subst q2; rw [if_pos rfl]; exact h2
    · rw [if_neg q2]

/-- what a stretch between two yields has done -/
theorem stpB_of {g h' : Heap} {C : Addr} {m' : Str → Option Value} {s s₃ : Shared} {ex ex' W : List (Addr × Obj)} {ps' : Array Value} {tk : Nat}
    (hkeep : ∀ h' m' ex', Fr g C h' m' → News g C h' (ex' ++ W) → ∀ b o, b ≠ C → b ∉ ex.map (·.1) → s.heap.get? b = some o → h'.get? b = some o) (hex : ∀ q ∈ ex, s.heap.get? q.1 = some q.2)
    (F : Fr g C h' m') (N : News g C h' (ex' ++ W)) (hk : ∀ q ∈ ex, q.1 ≠ 16 → q ∈ ex') (hm : (16, tabO ps') ∈ ex') (hok : TabOk ps') (go : Gos s s₃) : StpB (OnlyC C) NoG s { s₃ with heap := h', toks := tk } := by
  refine ⟨go.os, go.gsz, fun i h _ => go.gk i h, go.bare, fun b o h1 h2 e => ?_, ps', (N _ (List.mem_append_left _ hm)).1, hok⟩
  by_cases q : b ∈ ex.map (·.1)
  · obtain ⟨x, hx, rfl⟩ := List.mem_map.mp q
    have := (N _ (List.mem_append_left _ (hk x hx h1))).1
    rw [hex x hx] at e; cases e; exact this
  · exact hkeep _ _ _ F N b o h2 q e
theorem itemV_of {w : World} {p : Program} {loose : List Str} {mg mb : Str → Option Value} {g h : Heap} {L D : Addr} {news : List (Addr × Obj)} {it : Bool × List Int} {b : Array UInt8} {tb : Tok} (N : News g L h news) (X : (hd.heap_39 w.params).In g) (T : TopRead p loose mg mb g) (M : ∃ ob, BMod g mainGlobals mg 4 ob)
    (hm : (D, tupO [.bool it.1, .bytes b tb]) ∈ news) (hb : KBw.bInts b = it.2) : ItemV w it (.ref D) h := ⟨D, b, tb, rfl, (N _ hm).1, hb, safe_of N X T M hm⟩
theorem Stp.gos' {a b : Shared} {h : Heap} {tk : Nat} (x : Stp { a with heap := h, toks := tk } b) : Gos a b := ⟨x.os, x.gsz, x.gk, x.bare⟩

theorem ind3 {I P : List Int → Shared → Shared → Prop} (step : ∀ ks s₀ s, (∀ ks' s₀' s', ks'.length < ks.length → I ks' s₀' s' → P ks' s₀' s') → I ks s₀ s → P ks s₀ s) (ks : List Int) (a b : Shared) (h0 : I ks a b) : P ks a b := by
  have : ∀ (N : Nat) (ks : List Int) (a b : Shared), ks.length ≤ N → I ks a b → P ks a b := by
    intro N
    induction N with
    | zero => exact fun ks a b h hI => step ks a b (fun ks' _ _ hl _ => absurd hl (by omega)) hI
    | succ N ih => exact fun ks a b h hI => step ks a b (fun ks' a' b' hl hI' => ih ks' a' b' (by omega) hI') hI
  exact this ks.length ks a b (Nat.le_refl _) h0

def spI (w : World) (p : Program) (loose : List Str) (mg mb : Str → Option Value) (C pt : Addr) (sg : Array UInt8) (t1 t2 : Tok) (least : Option Nat) (gs : List Int) (all : List (Bool × List Int)) (ks : List Int) (s₀ s : Shared) : Prop :=
  ∃ (pre : List (Bool × List Int)) (d : Array UInt8) (t3 : Tok) (u : Str → Option Value), all = pre ++ split gs least ks ∧ KBw.bInts d = ks ∧ (∀ c ∈ ks, c ≠ 10) ∧ ks.length ≤ 64 ∧ Hp w p loose mg mb s.heap ∧ s.heap.get? pt = some (tupO [.bytes sg t1, leastV least t2]) ∧
    s.heap.Ns C (fun y => if y = Str.ofString "data" then some (.bytes d t3) else if y = Str.ofString "pattern" then some (.ref pt) else u y) ∧ StpB (OnlyC C) NoG s₀ s

set_option maxHeartbeats 8000000 in
theorem call_split {prog : Program} {w : World} {p : Program} {loose : List Str} {mg mb : Str → Option Value} {A : Around} {s : Shared} {pt : Addr} {sg d : Array UInt8} {t1 t2 t3 : Tok} {least : Option Nat} {gs ks : List Int}
    (hroom : A.depth < recursionLimit)
    (H : Hp w p loose mg mb s.heap) (hpt : s.heap.get? pt = some (tupO [.bytes sg t1, leastV least t2])) (hps : Safe w pt)
    (hsg : KBw.bInts sg = gs) (hks : KBw.bInts d = ks) (hl1 : gs.length ≤ 64) (hl2 : ks.length ≤ 64) (hnl : ∀ c ∈ ks, c ≠ 10) (hk : ∀ k, least = some k → 0 < k ∧ k < 10) :
    wpAny (model prog w) A (call (.ref 37) [.bytes d t3, .ref pt]) (fun v s' => ∃ a C, v = .ref a ∧ Stp s s' ∧ s.heap.get? a = none ∧ s.heap.get? C = none ∧ a ≠ C ∧ s'.gens.size = s.gens.size + 1 ∧ Safe w C ∧ (¬ C < s.heap.objs.size) ∧
      ∀ A' : Around, A'.handled = none → A'.depth + 40 < recursionLimit → A'.units + 400 < cLine → SplitGen prog w p loose mg mb A' a s.gens.size C pt (split gs least ks) 0 s') (fun _ _ => False) s := by
  walk_at "my fill"
  refine' make_gen (w := w) H ?k1 ?k2 hroom ?k3 ?k4 ?k5 ?k6 ?k7 ?k8 ?k0
  case k1 => k_is
  case k2 => k_is
  case k3 => exact BindsTo.of_eq rfl
  case k4 => exact locs rfl
  case k5 => decide
  case k6 => rfl
  case k7 => rfl
  case k8 => rfl
  intro C a s' hC hCa ha hn hg hgens st
  have hCk : AboveK w C := hC ▸ AboveK.of H
  have hCn : s.heap.get? C = none := by
    cases q : s.heap.get? C with
    | none => rfl
    | some o => exact absurd (Heap.lt_size q) (hC ▸ Nat.lt_irrefl _)
  have hget := (congrArg (fun (z : Array GenState) => z[s.gens.size]?) hgens).trans Array.getElem?_push_size
  refine ⟨a, C, rfl, st, ha, hCn, (Nat.ne_of_gt hCa), by rw [hgens]; simp, hCk.safe, (by rw [hC]; exact Nat.lt_irrefl _), fun A' hA' hd' hu' => ⟨hg, ⟨_, hn⟩, _, hget, rfl, fun s'' hV => ⟨rfl, ?_⟩⟩⟩
  obtain ⟨hdl, dp, fr, gd, un⟩ := A'
  have hq : hdl = none := hA'
  subst hq
  have hp16 : pt ≠ 16 := ne16_of H hpt (by intro q; cases q)
  have hpC : pt ≠ C := by rw [hC]; exact Nat.ne_of_lt (Heap.lt_size hpt)
  have hI0 : spI w p loose mg mb C pt sg t1 t2 least gs (split gs least ks) ks s'' s'' := by
    refine ⟨[], d, t3, fun _ => none, rfl, hks, hnl, hl2, hV.1, hV.2 _ _ (.inr rfl) (st.ext.keep _ _ hp16 hpt), ?_, StpB.refl hV.1⟩
    refine Ns_congr (hn.at' fun o e => hV.2 _ _ (.inl rfl) e) fun y => ?_
    show List.lookup y [(Str.ofString "pattern", Value.ref pt), (Str.ofString "data", Value.bytes d t3)] = _
    by_cases h1 : y = Str.ofString "data"
    · subst h1; rfl
    · by_cases h2 : y = Str.ofString "pattern"
      · subst h2; rfl
      · have e1 : (y == Str.ofString "data") = false := by simpa using h1
        have e2 : (y == Str.ofString "pattern") = false := by simpa using h2
        simp only [List.lookup, e1, e2, if_neg h1, if_neg h2]
  have hall0 : (split gs least ks).length - 0 = (split gs least ks).length := rfl
  generalize hallE : split gs least ks = all at *
  refine seg_func fun H0 => ?_
  refine sw_execs_cons ?_
  refine sw_while rfl fun p1 k l hkk => ?_
  clear hn hg hgens st hget hV hpt hall0
  rw [Nat.sub_zero, ← hallE]
  rw [← hallE] at hI0
  refine ind3 (I := spI w p loose mg mb C pt sg t1 t2 least gs (split gs least ks)) (P := fun ks s₀ s => Seg (model prog w) _ _ _ (split gs least ks).length s₀ _ _ _ s) ?_ ks s'' s'' hI0
  clear hI0 hks hnl hl2 H ha hCn
  rw [hallE]
  clear hallE hC d ks t3
  intro ks s₀ s ih hI
  obtain ⟨pre, d, t3, u, hall, hks, hnl, hl2, H, hpt, hn, hst⟩ := hI
  refine seg_while ?_
  obtain ⟨ps, hps1, hps2⟩ := H.tab
  have hex : Held w s.heap [(16, tabO ps), (pt, tupO [.bytes sg t1, leastV least t2])] := by
    intro q hq
    simp only [List.mem_cons, List.not_mem_nil, or_false] at hq
    rcases hq with rfl | rfl
    · exact ⟨hps1, safe16 w⟩
    · exact ⟨hpt, hps⟩
  obtain ⟨g, W, F, N, hW16, X, T, M, hkeep⟩ := enterG H hn hCk [(16, tabO ps), (pt, tupO [.bytes sg t1, leastV least t2])] hex (by
    intro q hq
    simp only [List.mem_cons, List.not_mem_nil, or_false] at hq
    rcases hq with rfl | rfl
    · exact Nat.ne_of_lt hCk.t
    · exact hpC)
  simp only [List.cons_append, List.nil_append] at N
  walk_at "my steps"
  · refine sw_execs_cons (sw_stmt ?_)
    walk_at "my steps"
    refine wpAny_mono (run_of rfl ?_ ?_ H hpt hps hsg hks hl1 hl2 hnl hk) (fun v s₃ hv => ?_) (fun _ _ x => x.elim)
    · exact Nat.lt_of_le_of_lt (Nat.add_le_add_right (Nat.le_of_eq (m := dp + 1) rfl) 20) (by have : dp + 40 < recursionLimit := hd'; omega)
    · exact Nat.lt_of_le_of_lt (Nat.add_le_add_right (Nat.le_of_eq (m := un + 4) rfl) 200) (by have : un + 400 < cLine := hu'; omega)
    · obtain ⟨hres, hstp⟩ := hv
      obtain ⟨ps', hps', F', N'⟩ := after (pre := []) (post := (pt, _) :: W) F N (List.forall_mem_nil _) (List.forall_mem_cons.mpr ⟨hp16, hW16⟩) hstp.ext
      dsimp only [List.nil_append] at N'
      unfold RunRes at hres
      cases hr : runOf gs least ks with
      | none =>
        rw [hr] at hres
        have hv : v = Value.none := hres
        subst hv
        walk_at "my steps"
        refine sw_execs_cons (sw_if ?_)
        walk_at "my steps"
        refine sw_tt rfl ?_
        refine sw_execs_cons (sw_stmt ?_)
        walk_at "my steps"
        refine seg_leaf (.ok .next) ?_
        rw [hkk]
        refine sw_execs_cons (sw_if ?_)
        walk_at "my steps"
        have h0 : ks ≠ [] := by rintro rfl; simp at *
        have hlen : (split gs least ks).length = 0 + 1 := by rw [split_none h0 hr]; rfl
        rw [hlen]
        refine sw_tt (by first | rfl | (simp; done) | (simp; omega)) ?_
        refine sw_execs_cons (sw_yield rfl rfl rfl rfl rfl ?_)
        walk_at "my steps"
        rename News _ _ _ _ => N2
        rename Fr _ _ _ _ => F2
        refine ⟨⟨⟨(false, ks), ?_, itemV_of N2 X T M (List.Mem.head _) hks, _, F2.ns⟩, hst.trans (stpB_of (s₃ := s₃) (ex' := [_, _, _]) hkeep (fun q hq => (hex q hq).1) F2 N2 ?_ (by k_mem) hps' (Stp.gos' hstp))⟩, fun s₅ hV => ?_⟩
        · rw [hall, split_none h0 hr]; simp
        · simp only [List.forall_mem_cons, List.not_mem_nil, false_implies, implies_true, and_true]
          exact ⟨fun h => absurd rfl h, fun _ => by k_mem⟩
        · exact seg_end (.ok (.ret .none)) ⟨rfl, rfl, StpB.refl hV.1⟩
      | some ab => 
        obtain ⟨a1, b1⟩ := ab
        rw [hr] at hres
        obtain ⟨t, ta, tb, rfl, ht, hts, htn⟩ := hres
        replace N' := news_add N' F ht htn
        have hab := runOf_bounds (fun k h => (hk k h).1) hr
        have hsp := split_some hr ⟨by omega, hab.2⟩
        walk_at "my steps"
        refine sw_execs_cons (sw_if ?_)
        walk_at "my steps"
        refine sw_ff rfl (sw_execs_nil ?_)
        refine sw_execs_cons (sw_stmt ?_)
        walk_at "my steps"
        refine sw_execs_cons (sw_if ?_)
        walk_at "my steps"
        have hgo : Gos s s₃ := Stp.gos' hstp
        by_cases ha0 : a1 = 0
        · rw [show (split gs least ks).length = (split gs least (ks.drop b1)).length + 1 from by rw [hsp, if_pos ha0]; rfl]
          refine sw_ff (by rw [ha0]; rfl) (sw_execs_nil ?_)
          refine sw_execs_cons (sw_yield rfl rfl rfl rfl rfl ?_)
          walk_at "my steps"
          rename News _ _ _ _ => N2
          rename Fr _ _ _ _ => F2
          refine ⟨⟨⟨(true, (ks.drop a1).take (b1 - a1)), ?_, itemV_of N2 X T M (List.Mem.head _) ?_, _, F2.ns⟩, hst.trans (stpB_of (s₃ := s₃) (ex' := [_, _, _, _]) hkeep (fun q hq => (hex q hq).1) F2 N2 ?_ (by k_mem) hps' hgo)⟩, fun s₆ hV6 => ?_⟩
          · exact idx_at (P := pre) (by rw [hall, hsp, if_pos ha0]; rfl)
          · refine (by assumption : KBw.bInts (KBy.picked d (some (a1 : Int)) (some (b1 : Int))) = _).trans ?_
            rw [Nat.min_eq_left hab.2, Nat.min_eq_left (by omega)]
          · simp only [List.forall_mem_cons, List.not_mem_nil, false_implies, implies_true, and_true]
            exact ⟨fun h => absurd rfl h, fun _ => by k_mem⟩
          have hpt6 := hV6.2 pt _ (.inr rfl) (News.get N2 (o := tupO [.bytes sg t1, leastV least t2]) (by k_mem))
          have hn6 := F2.ns.at' (fun o e => hV6.2 _ _ (.inl rfl) e)
          have H6 := hV6.1
          obtain ⟨ps6, hps6, hok6⟩ := H6.tab
          obtain ⟨g6, W6, F6, N6, hW6, X6, T6, M6, hkeep6⟩ := enterG H6 hn6 hCk [(16, tabO ps6), (pt, tupO [.bytes sg t1, leastV least t2])] (List.forall_mem_cons.mpr ⟨⟨hps6, safe16 w⟩, List.forall_mem_cons.mpr ⟨⟨hpt6, hps⟩, List.forall_mem_nil _⟩⟩) (List.forall_mem_cons.mpr ⟨Nat.ne_of_lt hCk.t, List.forall_mem_cons.mpr ⟨hpC, List.forall_mem_nil _⟩⟩)
          simp only [List.cons_append, List.nil_append] at N6
          clear N2 F2
          refine sw_execs_cons (sw_stmt ?_)
          walk_at "my steps"
          rename News _ _ _ _ => N7
          rename Fr _ _ _ _ => F7
          refine seg_again rfl (ih (ks.drop b1) s₆ _ (by simp only [List.length_drop]; omega) ?_)
          refine ⟨pre ++ [(true, (ks.drop a1).take (b1 - a1))], _, _, _, ?_, ?_, fun c hc => hnl c (List.mem_of_mem_drop hc), by simp only [List.length_drop]; omega, hp_of F7 N7 X6 T6 M6 (by k_mem) hok6, News.get N7 (by k_mem), Ns_norm F7.ns rfl rfl, stpB_of (s₃ := s₆) (ex' := [_, _]) hkeep6 (List.forall_mem_cons.mpr ⟨hps6, List.forall_mem_cons.mpr ⟨hpt6, List.forall_mem_nil _⟩⟩) F7 N7 (fun q hq _ => hq) (by k_mem) hok6 (Gos.refl s₆)⟩
          · rw [hall, hsp, if_pos ha0]; simp
          · refine (by assumption : KBw.bInts (KBy.picked d (some (b1 : Int)) none) = _).trans ?_
            rw [Nat.min_eq_left hab.2, List.take_of_length_le (by simp)]
        · rw [show (split gs least ks).length = ((split gs least (ks.drop b1)).length + 1) + 1 from by rw [hsp, if_neg ha0]; rfl]
          refine sw_tt (by simpa using ha0) (sw_execs_cons (sw_yield rfl rfl rfl rfl rfl ?_))
          walk_at "my steps"
          rename News _ _ _ _ => N2
          rename Fr _ _ _ _ => F2
          refine ⟨⟨⟨(false, ks.take a1), ?_, itemV_of N2 X T M (List.Mem.head _) ?_, _, F2.ns⟩, hst.trans (stpB_of (s₃ := s₃) (ex' := [_, _, _, _]) hkeep (fun q hq => (hex q hq).1) F2 N2 ?_ (by k_mem) hps' hgo)⟩, fun s₅ hV => ?_⟩
          · exact idx_at (P := pre) (rest := (true, (ks.drop a1).take (b1 - a1)) :: split gs least (ks.drop b1)) (by rw [hall, hsp, if_neg ha0]; rfl)
          · refine (by assumption : KBw.bInts (KBy.picked d none (some (a1 : Int))) = _).trans ?_
            rw [Nat.min_eq_left (by omega)]
          · simp only [List.forall_mem_cons, List.not_mem_nil, false_implies, implies_true, and_true]
            exact ⟨fun h => absurd rfl h, fun _ => by k_mem⟩
          · have hpt5 := hV.2 pt _ (.inr rfl) (News.get N2 (o := tupO [.bytes sg t1, leastV least t2]) (by k_mem))
            have hn5 := F2.ns.at' (fun o e => hV.2 _ _ (.inl rfl) e)
            clear F2 N2 hst hkeep hex hgo hps' X T M
            (try clear F); (try clear N); (try clear N'); (try clear F'); (try clear hstp); (try clear ht); (try clear htn)
            have hst : StpB (OnlyC C) NoG s₅ s₅ := StpB.refl hV.1
            have hgo : Gos s₅ s₅ := Gos.refl s₅
            obtain ⟨ps', hps1, hps'⟩ := hV.1.tab
            have hex : Held w s₅.heap [(16, tabO ps'), (pt, tupO [.bytes sg t1, leastV least t2])] := List.forall_mem_cons.mpr ⟨⟨hps1, safe16 w⟩, List.forall_mem_cons.mpr ⟨⟨hpt5, hps⟩, List.forall_mem_nil _⟩⟩
            obtain ⟨g, W, F, N, hW16, X, T, M, hkeep⟩ := enterG hV.1 hn5 hCk _ hex (List.forall_mem_cons.mpr ⟨Nat.ne_of_lt hCk.t, List.forall_mem_cons.mpr ⟨hpC, List.forall_mem_nil _⟩⟩)
            simp only [List.cons_append, List.nil_append] at N
            refine sw_execs_nil ?_
            refine sw_execs_cons (sw_yield rfl rfl rfl rfl rfl ?_)
            walk_at "my steps"
            rename News _ _ _ _ => N2
            rename Fr _ _ _ _ => F2
            refine ⟨⟨⟨(true, (ks.drop a1).take (b1 - a1)), ?_, itemV_of N2 X T M (List.Mem.head _) ?_, _, F2.ns⟩, hst.trans (stpB_of (s₃ := s₅) (ex' := [_, _, _]) hkeep (fun q hq => (hex q hq).1) F2 N2 ?_ (by k_mem) hps' hgo)⟩, fun s₆ hV6 => ?_⟩
            · exact idx_at (P := pre ++ [(false, ks.take a1)]) (by rw [hall, hsp, if_neg ha0]; simp)
            · refine (by assumption : KBw.bInts (KBy.picked d (some (a1 : Int)) (some (b1 : Int))) = _).trans ?_
              rw [Nat.min_eq_left hab.2, Nat.min_eq_left (by omega)]
            · simp only [List.forall_mem_cons, List.not_mem_nil, false_implies, implies_true, and_true]
              exact ⟨fun h => absurd rfl h, fun _ => by k_mem⟩
            have hpt6 := hV6.2 pt _ (.inr rfl) (News.get N2 (o := tupO [.bytes sg t1, leastV least t2]) (by k_mem))
            have hn6 := F2.ns.at' (fun o e => hV6.2 _ _ (.inl rfl) e)
            have H6 := hV6.1
            obtain ⟨ps6, hps6, hok6⟩ := H6.tab
            obtain ⟨g6, W6, F6, N6, hW6, X6, T6, M6, hkeep6⟩ := enterG H6 hn6 hCk [(16, tabO ps6), (pt, tupO [.bytes sg t1, leastV least t2])] (List.forall_mem_cons.mpr ⟨⟨hps6, safe16 w⟩, List.forall_mem_cons.mpr ⟨⟨hpt6, hps⟩, List.forall_mem_nil _⟩⟩) (List.forall_mem_cons.mpr ⟨Nat.ne_of_lt hCk.t, List.forall_mem_cons.mpr ⟨hpC, List.forall_mem_nil _⟩⟩)
            simp only [List.cons_append, List.nil_append] at N6
            clear N2 F2
            refine sw_execs_cons (sw_stmt ?_)
            walk_at "my steps"
            rename News _ _ _ _ => N7
            rename Fr _ _ _ _ => F7
            refine seg_again rfl (ih (ks.drop b1) s₆ _ (by simp only [List.length_drop]; omega) ?_)
            refine ⟨pre ++ [(false, ks.take a1), (true, (ks.drop a1).take (b1 - a1))], _, _, _, ?_, ?_, fun c hc => hnl c (List.mem_of_mem_drop hc), by simp only [List.length_drop]; omega, hp_of F7 N7 X6 T6 M6 (by k_mem) hok6, News.get N7 (by k_mem), Ns_norm F7.ns rfl rfl, stpB_of (s₃ := s₆) (ex' := [_, _]) hkeep6 (List.forall_mem_cons.mpr ⟨hps6, List.forall_mem_cons.mpr ⟨hpt6, List.forall_mem_nil _⟩⟩) F7 N7 (fun q hq _ => hq) (by k_mem) hok6 (Gos.refl s₆)⟩
            · rw [hall, hsp, if_neg ha0]; simp
            · refine (by assumption : KBw.bInts (KBy.picked d (some (b1 : Int)) none) = _).trans ?_
              rw [Nat.min_eq_left hab.2, List.take_of_length_le (by simp)]
  · refine seg_leaf (.ok .next) ?_
    rw [hkk]
    have h0 : ks = [] := List.eq_nil_of_length_eq_zero (by omega)
    have hlen : (split gs least ks).length = 0 := by rw [h0, split_nil]; rfl
    refine sw_execs_cons (sw_if ?_)
    walk_at "my steps"
    refine sw_ff (by first | rfl | (simp; done) | (simp; omega)) (sw_execs_nil ?_)
    rename News _ _ _ _ => N2
    rename Fr _ _ _ _ => F2
    refine seg_end (.ok (.ret .none)) ⟨rfl, hlen, hst.trans (stpB_of (s₃ := s) (ex' := [_, _]) hkeep (fun q hq => (hex q hq).1) F2 N2 (fun q hq _ => hq) (by k_mem) hps2 (Gos.refl s))⟩
end Mine
end

section
open PySem PySem.W PyProof.Rows PySem.Calls
set_option maxRecDepth 100000
namespace Mine
section
variable {prog : Program} {w : World} {p : Program} {loose : List Str} {mg mb : Str → Option Value} {A : Around} {a g C pt : Nat} {all : List (Bool × List Int)} {j : Nat} {s : Shared}

theorem setGen_get {s : Shared} {g i : Nat} {x : GenState} (h : i ≠ g) : (s.setGen g x).gens[i]? = s.gens[i]? := by
  simp [Shared.setGen, Ne.symm h]
theorem setGen_size {s : Shared} {g : Nat} {x : GenState} : (s.setGen g x).gens.size = s.gens.size := by simp [Shared.setGen]
theorem setGen_bare {s : Shared} {g : Nat} {x : GenState} (hb : AllBare s.gens) (hx : x.bare = true) : AllBare (s.setGen g x).gens := by
  intro y hy
  obtain ⟨i, hi, rfl⟩ := Array.mem_iff_getElem.mp hy
  have e : (s.setGen g x).gens[i]? = some (s.setGen g x).gens[i] := Array.getElem?_eq_getElem hi
  by_cases h : i = g
  · subst h
    simp [Shared.setGen] at e
    have hlt : i < s.gens.size := by rw [setGen_size] at hi; exact hi
    simp [Shared.setGen] 
    exact hx
  · rw [setGen_get h] at e
    exact hb _ (Array.mem_of_getElem? e)

/-- from a run inside to the resumption seen from outside -/
theorem StpB.resumed {Cs : Addr → Prop} {Gs : Nat → Prop} {s₁ : Shared} {g : Nat} {x : GenState} {h' : Heap} (st : StpB Cs Gs (s.setGen g .running) s₁) (hx : x.bare = true) (hk : ∀ b o, s₁.heap.get? b = some o → h'.get? b = some o) :
    StpB Cs (fun i => i = g ∨ Gs i) s { s₁.setGen g x with heap := h' } := by
  refine ⟨st.os, ?_, fun i hi hn => ?_, fun hb => setGen_bare (st.bare (setGen_bare hb rfl)) hx, fun b o h1 h2 e => hk _ _ (st.keep b o h1 h2 e), let ⟨ps, e, hok⟩ := st.tab; ⟨ps, hk _ _ e, hok⟩⟩
  · have := st.gsz
    rw [setGen_size] at this
    show s.gens.size ≤ (s₁.setGen g x).gens.size
    rw [setGen_size]; exact this
  · show (s₁.setGen g x).gens[i]? = _
    rw [setGen_get (fun q => hn (.inl q)), st.gk i (by rw [setGen_size]; exact hi) (fun q => hn (.inr q)), setGen_get (fun q => hn (.inl q))]

theorem SplitGen.next {E : Value → Shared → Prop} {Q : Option Value → Shared → Prop} (G : SplitGen prog w p loose mg mb A a g C pt all j s) (hj : j ≤ all.length) (H : Hp w p loose mg mb s.heap) (hC : Safe w C) (haC : a ≠ C) (ha16 : a ≠ 16)
    (hA : A.handled = none) (hd : A.depth < recursionLimit)
    (hQ : ∀ s', StpB (OnlyC C) (fun i => i = g) s s' → (match all[j]? with
      | none => Q none s'
      | some it => ∀ v, ItemV w it v s'.heap → SplitGen prog w p loose mg mb A a g C pt all (j + 1) s' → Q (some v) s')) :
    wpAny (model prog w) A (pyNext (.ref a)) Q E s := by
  obtain ⟨hgen, hns, gst, hgs, hbare, hgo⟩ := G
  have hsafe : ∀ b, OnlyC C b → Safe w b := fun b e => e ▸ hC
  refine next_gen hA H.T.nolimit hd hgen hgs (hgo _ ⟨H, fun b o _ e => e⟩) (fun v s₁ gs' hb hv => ?_) (fun s₁ hp h' hk => ?_)
  · obtain ⟨⟨⟨it, hit, hI, hns'⟩, hst⟩, hres⟩ := hv
    have hH1 : Hp w p loose mg mb s₁.heap := Hp.stpB (s := s.setGen g .running) H hst hsafe
    have hlt : j < all.length := by
      rcases Nat.lt_or_ge j all.length with h | h
      · exact h
      · have e0 : all.length - j = 0 := by omega
        rw [e0] at hres
        exact (hres s₁ ⟨hH1, fun b o _ e => e⟩).elim
    obtain ⟨m, hm⟩ : ∃ m, all.length - j = m + 1 := ⟨all.length - j - 1, by omega⟩
    rw [hm] at hit hres
    have e1 : all.length - 1 - (m + 1 - 1) = j := by omega
    rw [e1] at hit
    have st := hst.resumed hb (x := gs') (h' := s₁.heap) (fun _ _ e => e)
    have hq := hQ (s₁.setGen g gs') (st.mono (fun _ h => h) (fun i h => h.resolve_right id))
    rw [hit] at hq
    refine hq v hI ⟨?_, hns', gs', ?_, hb, fun s'' hV => ?_⟩
    · obtain ⟨o, nm, qn, ho, r⟩ := hgen
      exact ⟨o, nm, qn, st.keep _ _ ha16 haC ho, r⟩
    · exact setGen_self (gs := s₁.gens[g]?.getD .running) (by
        have : g < s₁.gens.size := by
          have h1 := hst.gsz
          rw [setGen_size] at h1
          have h2 : g < s.gens.size := by
            rcases Nat.lt_or_ge g s.gens.size with h | h
            · exact h
            · rw [Array.getElem?_eq_none h] at hgs; cases hgs
          omega
        rw [Array.getElem?_eq_getElem this]; rfl)
    · have e2 : all.length - (j + 1) = m := by omega
      rw [e2]
      exact hres s'' hV
  · obtain ⟨hn, hst⟩ := hp
    have st := hst.resumed (x := .finished) rfl hk
    have hq := hQ _ (st.mono (fun _ h => h) (fun i h => h.resolve_right id))
    rw [List.getElem?_eq_none (by omega)] at hq
    exact hq

/-- what another does leaves it -/
theorem SplitGen.stays {s' : Shared} (G : SplitGen prog w p loose mg mb A a g C pt all j s) (hk : ∀ b o, b = a ∨ b = C ∨ b = pt → s.heap.get? b = some o → s'.heap.get? b = some o) (hg : s'.gens[g]? = s.gens[g]?) :
    SplitGen prog w p loose mg mb A a g C pt all j s' := by
  obtain ⟨⟨o, nm, qn, ho, r⟩, ⟨m, hns⟩, gst, hgs, hb, hgo⟩ := G
  refine ⟨⟨o, nm, qn, hk _ _ (.inl rfl) ho, r⟩, ⟨m, hns.at' fun o e => hk _ _ (.inr (.inl rfl)) e⟩, gst, hg.trans hgs, hb, fun s'' hV => hgo s'' ⟨hV.1, fun b o' hbb e => hV.2 b o' hbb (hk _ _ (.inr hbb) e)⟩⟩
end
end Mine
end

section
open PySem PySem.W PyProof.Rows PySem.Calls
set_option maxRecDepth 100000
namespace Mine
local macro_rules | `(tactic| walk_at "my fill") => `(tactic| (have kf : PySem.Challenge.rw_ez0306_01 = PySem.Challenge.rw_ez0306_01 ∧ hd.heap_39 = hd.heap_39 := by k_fill; exact ⟨rfl, rfl⟩))
local macro_rules | `(tactic| walk_at "my guard") => `(tactic| ((fail_if_success (with_reducible show wpAny _ _ (pyIter _) _ _ _)); (fail_if_success (with_reducible show wpAny _ _ (exec (Stmt.While _ _ _ _) _) _ _ _)); (fail_if_success (with_reducible show wpAny _ _ (call (Value.ref _) _ _) _ _ _)); (fail_if_success (with_reducible show Seg _ _ _ _ _ _ _ _ _ _)); (fail_if_success (with_reducible show SW _ _ _ _ _ _ _ _ _ _ _ _ _ _ _)); (fail_if_success (with_reducible show _ → _)); (fail_if_success (with_reducible show spZ _ _ _ _ _ _ _ ∧ _))))
local macro_rules | `(tactic| walk_at "my steps") => `(tactic| repeat' (first | (k_unfold; (try dsimp only)) | (walk_at "my guard"; walk1) | (walk_at "my guard"; dsimp only; walk_at "my guard"; walk1) | fail "no step"))

section
variable {prog : Program} {w : World} {p : Program} {loose : List Str} {mg mb : Str → Option Value}

theorem enterCode {A : Around} {s : Shared} {R : Result → Shared → Prop} {name qual : Str} {params : Arguments} {body : List Stmt} {scope : Scope} {dV kV doc pm cdv ct oc : Value} {an od : Option Addr} {osl : Array (Option Value)} {f : Addr} {args : List Value} {kw : List (Str × Value)} {binds : List (Str × Value)}
    (H : Hp w p loose mg mb s.heap) (ex : List (Addr × Obj)) (he : Held w s.heap ex)
    (ho : (hd.heap_39 w.params).lookup f = some ⟨oc, od, .func (fnOf name qual params body scope dV kV doc pm an cdv ct), osl⟩) (hcd : codeIn (hd.heap_39 w.params) cdv qual = true)
    (hroom : A.depth < recursionLimit)
    (hbind : BindsTo s (fnOf name qual params body scope dV kV doc pm an cdv ct) ⟨args, kw⟩ binds) (hloc : ∀ y ∈ binds, scope.names.lookup y.1 = some .local)
    (hcell : ∀ x ∈ scope.names, x.2 ≠ .cell) (hco : scope.isCoroutine = false) (hgen : scope.isGenerator = false) (hk : scope.kind = .function)
    (h : ∀ g L h₁, g = hideAll s.heap (ex.map (·.1)) → L = s.heap.objs.size → Fr g L h₁ (fun y => binds.reverse.lookup y) → News g L h₁ ex → (∀ q ∈ ex, q.1 < L) → (hd.heap_39 w.params).In g → TopRead p loose mg mb g → (∃ ob, BMod g mainGlobals mg 4 ob) →
      wpAny (model prog w) (A.deeper (envOf qual scope L f cdv)) (execs body (envOf qual scope L f cdv)) (fun fl s' => R (.ok (.ret (match fl with | .ret v => v | _ => .none))) s') (fun _ _ => False)
        { s with heap := h₁, toks := s.toks + binds.length }) :
    codeAny (model prog w) A (.call (.ref f) ⟨args, kw⟩) R s := by
  refine codeAny_call_def (fd := fnOf name qual params body scope dV kV doc pm an cdv ct) (body := body) (binds := binds) hroom (H.X _ _ ho) rfl H.T.nolimit (codeRec_of H.X hcd) rfl hbind hcell hloc (fun h₁ hns hk₁ => ?_) hco hgen hk
  refine wpAny_mono (h _ _ h₁ rfl rfl ⟨hns, fun b o e => hk₁ b o (of_hideAll _ e), Nat.le_of_eq (hideAll_size _ _)⟩
    (fun q hq => ⟨hk₁ _ _ (he q hq).1, Nat.ne_of_lt (Heap.lt_size (he q hq).1), hideAll_none _ (List.mem_map_of_mem hq)⟩) (fun q hq => Heap.lt_size (he q hq).1) (hide_X H.X he) (hide_T H.T he) (hide_M H.M he)) (fun fl s' hl => hl) (fun _ _ x => x.elim)

/-- to_bytestring of bytes -/
theorem to_bytes {A : Around} {s : Shared} {b : Array UInt8} {t : Tok} (hA : A.handled = none) (hroom : A.depth + 5 < recursionLimit) (H : Hp w p loose mg mb s.heap) :
    wpAny (model prog w) A (call (.ref 44) [.bytes b t]) (fun v s' => v = .bytes b t ∧ Stp s s') (fun _ _ => False) s := by
  walk_at "my fill"
  obtain ⟨hdl, dp, fr, gd, un⟩ := A
  have hq : hdl = none := hA
  subst hq
  obtain ⟨ps, hps1, hps2⟩ := H.tab
  have hex : Held w s.heap [(16, tabO ps)] := List.forall_mem_singleton.mpr ⟨hps1, safe16 w⟩
  refine' enter (w := w) H [(16, tabO ps)] hex ?k1 ?k2 (by have : dp + 5 < recursionLimit := hroom; show dp < recursionLimit; omega) ?k3 ?k4 ?k5 ?k6 ?k7 ?k8 ?k0
  case k1 => k_is
  case k2 => k_is
  case k3 => exact BindsTo.of_eq rfl
  case k4 => exact locs rfl
  case k5 => decide
  case k6 => rfl
  case k7 => rfl
  case k8 => rfl
  intro g L h₁ hg hL F N X T M
  walk_at "my steps"
  subst hg
  exact (Gos.refl s).stp (ext_of F N (fun q hq => (hex q hq).1) (fun q hq _ => hq) (by k_mem) hps2)

def QrV (w : World) (P : Addr → Prop) (mode : Int) (ks : List Int) (v : Value) (h : Heap) : Prop :=
  ∃ x dx n h1 h2 k1 k2 tm b tb, v = .ref x ∧ h.get? x = some (instObj 90 dx) ∧ h.get? dx = some (dictOf [⟨h1, .str (Str.ofString "mode") k1, .int mode tm⟩, ⟨h2, .str (Str.ofString "data") k2, .bytes b tb⟩] n) ∧ KBw.bInts b = ks ∧ Safe w x ∧ Safe w dx ∧ P x ∧ P dx

set_option maxHeartbeats 8000000 in
theorem mk_qr {A : Around} {s : Shared} {b : Array UInt8} {t tm : Tok} {mode : Int} {ks : List Int} (hA : A.handled = none) (hroom : A.depth + 10 < recursionLimit) (hun : A.units + 50 < cLine) (H : Hp w p loose mg mb s.heap) (hb : KBw.bInts b = ks)
    (hm : mode = 1 ∨ mode = 2 ∨ mode = 4) {P : Addr → Prop} (hP : ∀ a, s.heap.get? a = none → P a) :
    wpAny (model prog w) A (call (.ref 90) [.bytes b t] [(Str.ofString "mode", .int mode tm), (Str.ofString "check_data", .bool false)]) (fun v s' => QrV w P mode ks v s'.heap ∧ Stp s s') (fun _ _ => False) s := by
  walk_at "my fill"
  obtain ⟨hdl, dp, fr, gd, un⟩ := A
  have hq : hdl = none := hA
  subst hq
  obtain ⟨h, gg, dd, tt, oo⟩ := s
  have HX : (hd.heap_39 w.params).In h := H.X
  refine wpAny_call ?_
  refine make_core (init := .ref 66) (makes_of HX (by k_is)) (looks_findIn HX (by k_is)) (fun self => bind_fn HX self (by k_is)) (.inl (by decide)) ?_
  have hPd : P h.objs.size := hP _ (by
    cases q : h.get? h.objs.size with
    | none => exact rfl
    | some o => exact absurd (Heap.lt_size q) (Nat.lt_irrefl _))
  have hPx : P (h.objs.size + 1) := hP _ (by
    cases q : h.get? (h.objs.size + 1) with
    | none => exact rfl
    | some o => exact absurd (Nat.lt_trans (Nat.lt_succ_self _) (Heap.lt_size q)) (Nat.lt_irrefl _))
  clear hP
  have e1 : Ext h ((h.push emptyDict).push (instObj 90 h.objs.size)) := ⟨fun b o _ e => Heap.get?_push_of_some _ (Heap.get?_push_of_some _ e), let ⟨ps, e, hok⟩ := H.tab; ⟨ps, Heap.get?_push_of_some _ (Heap.get?_push_of_some _ e), hok⟩⟩
  have H1 := H.ext e1
  have hdx : ((h.push emptyDict).push (instObj 90 h.objs.size)).get? h.objs.size = some (dictOf [] 0) := Heap.get?_push_of_some _ (Heap.get?_push_size _ rfl)
  have hx : ((h.push emptyDict).push (instObj 90 h.objs.size)).get? (h.objs.size + 1) = some (instObj 90 h.objs.size) := by
    have := Heap.get?_push_size (h.push emptyDict) (o := instObj 90 h.objs.size) rfl
    rwa [Heap.size_push] at this
  have hs0 : Safe w h.objs.size := (AboveK.of H).safe
  have hs1 : Safe w (h.objs.size + 1) := by
    have := (AboveK.of (H.ext (h' := h.push emptyDict) ⟨fun b o _ e => Heap.get?_push_of_some _ e, let ⟨ps, e, hok⟩ := H.tab; ⟨ps, Heap.get?_push_of_some _ e, hok⟩⟩)).safe
    rwa [Heap.size_push] at this
  obtain ⟨ps, hps1, hps2⟩ := H1.tab
  have l16 : (16 : Nat) < h.objs.size := (AboveK.of H).t
  generalize hdxe : h.objs.size = dx at *
  generalize hhe : (h.push emptyDict).push (instObj 90 dx) = h1 at *
  generalize hxe : dx + 1 = x at *
  have l2 : dx < x := by omega
  have hex : Held w h1 [(x, instObj 90 dx), (dx, dictOf [] 0), (16, tabO ps)] := List.forall_mem_cons.mpr ⟨⟨hx, hs1⟩, List.forall_mem_cons.mpr ⟨⟨hdx, hs0⟩, List.forall_mem_singleton.mpr ⟨hps1, safe16 w⟩⟩⟩
  refine' enterCode (w := w) (s := ⟨h1, gg, dd, tt, oo⟩) H1 [(x, instObj 90 dx), (dx, dictOf [] 0), (16, tabO ps)] hex ?k1 ?k2 ?kr ?k3 ?k4 ?k5 ?k6 ?k7 ?k8 ?k0
  case k1 => k_is
  case k2 => k_is
  case kr => show dp + 1 < recursionLimit; have : dp + 10 < recursionLimit := hroom; omega
  case k3 => exact binds_K (show (hd.heap_39 w.params).In h1 from H1.X) rfl (by k_is) rfl rfl rfl
  case k4 => exact locs rfl
  case k5 => decide
  case k6 => rfl
  case k7 => rfl
  case k8 => rfl
  intro g L h₁ hg hL F N hlt X T M
  simp only [List.forall_mem_cons, List.not_mem_nil, false_implies, implies_true, and_true] at hlt
  rcases hm with rfl | rfl | rfl
  all_goals walk_at "my steps"
  all_goals
    rename News _ _ _ _ => N2
    rename Fr _ _ _ _ => F2
    refine ⟨rfl, ⟨x, dx, 2, _, _, _, _, tm, b, t, rfl, News.get N2 (by k_mem), News.get N2 (by k_mem), hb, hs1, hs0, hPx, hPd⟩, (Gos.refl ⟨h, gg, dd, tt, oo⟩).stp (s' := ⟨h, gg, dd, tt, oo⟩) ⟨fun b' o h16 e => ?_, ps, News.get N2 (by k_mem), hps2⟩⟩
    refine F2.keep b' o (hg ▸ hideAll_get _ (e1.keep b' o h16 e) ?_)
    have lt : b' < dx := hdxe ▸ Heap.lt_size e
    simp only [List.map_cons, List.map_nil, List.mem_cons, List.not_mem_nil, or_false, not_or]
    exact ⟨Nat.ne_of_lt (Nat.lt_trans lt l2), Nat.ne_of_lt lt, h16⟩
end
end Mine
end

section
open PySem PySem.W PyProof.Rows PySem.Calls
set_option maxRecDepth 100000
namespace Mine

def NotDict (o : Obj) : Prop := ∀ es ep, o.data ≠ .dict es ep

/-- a part of a run of a generator whose frame is C and whose number is g, seen by one whose frame is Lc -/
structure StpF (C g Lc : Nat) (s s' : Shared) : Prop where
  os : s'.os = s.os
  gsz : s.gens.size ≤ s'.gens.size
  gk : ∀ i, i < s.gens.size → i < g → s'.gens[i]? = s.gens[i]?
  bare : AllBare s.gens → AllBare s'.gens
  keep : ∀ b o, b ≠ 16 → (b < C ∨ b = Lc ∨ NotDict o) → s.heap.get? b = some o → s'.heap.get? b = some o
  tab : ∃ ps, s'.heap.get? 16 = some (tabO ps) ∧ TabOk ps

theorem StpF.trans {C g Lc : Nat} {a b c : Shared} (x : StpF C g Lc a b) (y : StpF C g Lc b c) : StpF C g Lc a c :=
  ⟨y.os.trans x.os, Nat.le_trans x.gsz y.gsz, fun i h hg => (y.gk i (Nat.lt_of_lt_of_le h x.gsz) hg).trans (x.gk i h hg), fun q => y.bare (x.bare q), fun b o h1 h2 e => y.keep b o h1 h2 (x.keep b o h1 h2 e), y.tab⟩

theorem ns_dict {h : Heap} {a : Addr} {m : Str → Option Value} {o : Obj} (n : h.Ns a m) (e : h.get? a = some o) (hn : NotDict o) : False := by
  obtain ⟨o', es, ep, e', hd, _⟩ := n
  rw [e] at e'; cases e'
  exact hn _ _ hd

theorem StpB.toF {Cs : Addr → Prop} {Gs : Nat → Prop} {C g Lc : Nat} {s s' : Shared} (x : StpB Cs Gs s s') (hC : ∀ b, Cs b → ¬ b < C ∧ b ≠ Lc ∧ ∃ m, s.heap.Ns b m) (hG : ∀ i, Gs i → ¬ i < g) : StpF C g Lc s s' := by
  refine ⟨x.os, x.gsz, fun i h1 h2 => x.gk i h1 fun q => hG i q h2, x.bare, fun b o h1 h2 e => x.keep b o h1 (fun q => ?_) e, x.tab⟩
  obtain ⟨q1, q2, m, q3⟩ := hC b q
  rcases h2 with h2 | h2 | h2
  · exact q1 h2
  · exact q2 h2
  · exact ns_dict q3 e h2

section
variable {prog : Program} {w : World} {p : Program} {loose : List Str} {mg mb : Str → Option Value}

theorem Hp.stpF {C g Lc : Nat} {s s' : Shared} (H : Hp w p loose mg mb s.heap) (x : StpF C g Lc s s') (hC : AboveK w C) : Hp w p loose mg mb s'.heap := by
  have l3 : mainGlobals < C := by
    obtain ⟨o, e⟩ := Option.isSome_iff_exists.mp (K_has3 w)
    exact hC.k _ _ e
  have l2 : cStatics < C := by
    obtain ⟨o, e⟩ := Option.isSome_iff_exists.mp (K_has2 w)
    exact hC.k _ _ e
  have ne : ∀ a m, s.heap.Ns a m → a ≠ 16 → a < C → s'.heap.Ns a m := fun a m n h1 h2 => let ⟨o, es, ep, q, r⟩ := n; ⟨o, es, ep, x.keep _ _ h1 (.inl h2) q, r⟩
  exact ⟨fun a o q => x.keep _ _ (K_no16 _ _ q) (.inl (hC.k a o q)) (H.X a o q), ⟨ne _ _ H.T.g (by decide) l3, ne _ _ H.T.b (by decide) hC.b, let ⟨mc, a, b⟩ := H.T.nolimit; ⟨mc, ne _ _ a (by decide) l2, b⟩, H.T.builtins, H.T.free⟩,
    let ⟨ob, M⟩ := H.M; ⟨ob, ne _ _ M.ns (by decide) l3, M.name, M.ne, x.keep _ _ (by decide) (.inl hC.m) M.obj, M.cls, M.dict, M.data⟩, x.tab⟩

def gsNum : List Int := [48, 49, 50, 51, 52, 53, 54, 55, 56, 57]
def gsAl : List Int := [48, 49, 50, 51, 52, 53, 54, 55, 56, 57, 65, 66, 67, 68, 69, 70, 71, 72, 73, 74, 75, 76, 77, 78, 79, 80, 81, 82, 83, 84, 85, 86, 87, 88, 89, 90, 32, 36, 37, 42, 43, 45, 46, 47, 58]
def leastOf (k : Nat) (ks : List Int) : Option Nat := if ks.length ≤ k then none else some k
def subChunk (x : Bool × List Int) : Int × List Int := (if x.1 then 2 else 4, x.2)
def chunk1 (L : Option Nat) (x : Bool × List Int) : List (Int × List Int) := if x.1 then [(1, x.2)] else (split gsAl L x.2).map subChunk
def chunksL (L : Option Nat) (ks : List Int) : List (Int × List Int) := (split gsNum L ks).flatMap (chunk1 L)
/-- what optimal_data_chunks yields: the mode and the octets of each -/
def chunksOf (k : Nat) (ks : List Int) : List (Int × List Int) := chunksL (leastOf k ks) ks

def odV (w : World) (p : Program) (loose : List Str) (mg mb : Str → Option Value) (g D Lc : Nat) : Shared → Shared → Prop := fun s s'' =>
  Hp w p loose mg mb s''.heap ∧ (∀ b o, b ≠ D → b ≠ Lc → s.heap.get? b = some o → s''.heap.get? b = some o) ∧ (∀ i, i ≠ g → s''.gens[i]? = s.gens[i]?) ∧
  (∃ o, s''.heap.get? D = some o ∧ o.cls = .type "list") ∧ (∃ m, s''.heap.Ns Lc m) ∧ s.gens.size ≤ s''.gens.size
def odZ (w : World) (all : List (Int × List Int)) (C g Lc : Nat) : Nat → Shared → Value → Shared → Prop := fun n s₀ v s' =>
  (∃ it, all[all.length - 1 - n]? = some it ∧ QrV w (fun a => a ≠ Lc) it.1 it.2 v s'.heap) ∧ StpF C g Lc s₀ s'
def odR (C g Lc : Nat) : Nat → Shared → Shared → Prop := fun n s₀ s₁ => n = 0 ∧ StpF C g Lc s₀ s₁

structure OdGen (prog : Program) (w : World) (p : Program) (loose : List Str) (mg mb : Str → Option Value) (A : Around) (a g C D Lc : Nat) (all : List (Int × List Int)) (j : Nat) (s : Shared) : Prop where
  gen : s.heap.IsGen a g
  st : ∃ gst, s.gens[g]? = some gst ∧ gst.bare = true ∧ ∀ s'', odV w p loose mg mb g D Lc s s'' →
    gst.Goes (model prog w) A.in1 (fun n s₀ r s₁ => r = .ok (.ret .none) ∧ odR C g Lc n s₀ s₁) (Yof (odZ w all C g Lc) (odV w p loose mg mb g D Lc)) (all.length - j) (.send .none) s''

theorem StpF.resumed {C g Lc : Nat} {s s₁ : Shared} {x : GenState} {h' : Heap} (st : StpF C g Lc (s.setGen g .running) s₁) (hx : x.bare = true) (hk : ∀ b o, s₁.heap.get? b = some o → h'.get? b = some o) :
    StpF C g Lc s { s₁.setGen g x with heap := h' } := by
  refine ⟨st.os, ?_, fun i hi hn => ?_, fun hb => setGen_bare (st.bare (setGen_bare hb rfl)) hx, fun b o h1 h2 e => hk _ _ (st.keep b o h1 h2 e), let ⟨ps, e, hok⟩ := st.tab; ⟨ps, hk _ _ e, hok⟩⟩
  · have := st.gsz
    rw [setGen_size] at this
    show s.gens.size ≤ (s₁.setGen g x).gens.size
    rw [setGen_size]; exact this
  · show (s₁.setGen g x).gens[i]? = _
    rw [setGen_get (Nat.ne_of_lt hn), st.gk i (by rw [setGen_size]; exact hi) hn, setGen_get (Nat.ne_of_lt hn)]

theorem OdGen.next {A : Around} {a g C D Lc : Nat} {all : List (Int × List Int)} {j : Nat} {s : Shared} {E : Value → Shared → Prop} {Q : Option Value → Shared → Prop} (G : OdGen prog w p loose mg mb A a g C D Lc all j s) (hj : j ≤ all.length) (H : Hp w p loose mg mb s.heap) (hC : AboveK w C) (ha16 : a ≠ 16)
    (hA : A.handled = none) (hd : A.depth < recursionLimit) (hD : ∃ o, s.heap.get? D = some o ∧ o.cls = .type "list") (hDN : ∀ o, s.heap.get? D = some o → NotDict o) (hL : ∃ m, s.heap.Ns Lc m) (hD16 : D ≠ 16) (hL16 : Lc ≠ 16)
    (hQ : ∀ s', StpF C g Lc s s' → (match all[j]? with
      | none => Q none s'
      | some it => ∀ v, QrV w (fun a => a ≠ Lc) it.1 it.2 v s'.heap → OdGen prog w p loose mg mb A a g C D Lc all (j + 1) s' → Q (some v) s')) :
    wpAny (model prog w) A (pyNext (.ref a)) Q E s := by
  obtain ⟨hgen, gst, hgs, hbare, hgo⟩ := G
  have hglt : g < s.gens.size := by
    rcases Nat.lt_or_ge g s.gens.size with h | h
    · exact h
    · rw [Array.getElem?_eq_none h] at hgs; cases hgs
  refine next_gen hA H.T.nolimit hd hgen hgs (hgo _ ⟨H, fun b o _ _ e => e, fun i hi => setGen_get hi, hD, hL, by rw [setGen_size]; exact Nat.le_refl _⟩) (fun v s₁ gs' hb hv => ?_) (fun s₁ hp h' hk => ?_)
  · obtain ⟨⟨⟨it, hit, hI⟩, hst⟩, hres⟩ := hv
    have hH1 : Hp w p loose mg mb s₁.heap := Hp.stpF (s := s.setGen g .running) H hst hC
    have kD : ∃ o, s₁.heap.get? D = some o ∧ o.cls = .type "list" := let ⟨o, e, hc⟩ := hD; ⟨o, hst.keep D o hD16 (.inr (.inr (hDN o e))) e, hc⟩
    have kL : ∃ m, s₁.heap.Ns Lc m := let ⟨m, hm⟩ := hL; ⟨m, hm.at' fun o e => hst.keep _ o hL16 (.inr (.inl rfl)) e⟩
    have hlt : j < all.length := by
      rcases Nat.lt_or_ge j all.length with h | h
      · exact h
      · have e0 : all.length - j = 0 := by omega
        rw [e0] at hres
        exact (hres s₁ ⟨hH1, fun b o _ _ e => e, fun _ _ => rfl, kD, kL, Nat.le_refl _⟩).elim
    obtain ⟨m, hm⟩ : ∃ m, all.length - j = m + 1 := ⟨all.length - j - 1, by omega⟩
    rw [hm] at hit hres
    have e1 : all.length - 1 - (m + 1 - 1) = j := by omega
    rw [e1] at hit
    have st := hst.resumed hb (x := gs') (h' := s₁.heap) (fun _ _ e => e)
    have hq := hQ (s₁.setGen g gs') st
    rw [hit] at hq
    have hg1 : g < s₁.gens.size := by
      have h1 := hst.gsz
      rw [setGen_size] at h1
      omega
    refine hq v hI ⟨?_, gs', ?_, hb, fun s'' hV => ?_⟩
    · obtain ⟨o, nm, qn, ho, hc, hd', r⟩ := hgen
      exact ⟨o, nm, qn, st.keep _ _ ha16 (.inr (.inr fun es ep q => by rw [hd'] at q; cases q)) ho, hc, hd', r⟩
    · exact setGen_self (gs := s₁.gens[g]?.getD .running) (by rw [Array.getElem?_eq_getElem hg1]; rfl)
    · have e2 : all.length - (j + 1) = m := by omega
      rw [e2]
      exact hres s'' ⟨hV.1, hV.2.1, fun i hi => (hV.2.2.1 i hi).trans (setGen_get hi), hV.2.2.2.1, hV.2.2.2.2.1, by have := hV.2.2.2.2.2; rw [setGen_size] at this; exact this⟩
  · obtain ⟨hn, hst⟩ := hp
    have st := hst.resumed (x := .finished) rfl hk
    have hq := hQ _ st
    rw [List.getElem?_eq_none (by omega)] at hq
    exact hq

theorem OdGen.stays {A : Around} {a g C D Lc : Nat} {all : List (Int × List Int)} {j : Nat} {s s' : Shared} (G : OdGen prog w p loose mg mb A a g C D Lc all j s) (hk : ∀ b o, b ≠ D → b ≠ Lc → s.heap.get? b = some o → s'.heap.get? b = some o) (haD : a ≠ D) (haL : a ≠ Lc) (hg : s'.gens = s.gens) :
    OdGen prog w p loose mg mb A a g C D Lc all j s' := by
  obtain ⟨⟨o, nm, qn, ho, r⟩, gst, hgs, hb, hgo⟩ := G
  refine ⟨⟨o, nm, qn, hk _ _ haD haL ho, r⟩, gst, (by rw [hg]; exact hgs), hb, fun s'' hV => hgo s'' ⟨hV.1, fun b o' h1 h2 e => hV.2.1 b o' h1 h2 (hk _ _ h1 h2 e), fun i hi => (hV.2.2.1 i hi).trans (by rw [hg]), hV.2.2.2.1, hV.2.2.2.2.1, hg ▸ hV.2.2.2.2.2⟩⟩

theorem owned_gen {A : Around} {E : Value → Shared → Prop} {s : Shared} {target : PySem.Expr} {a g : Nat} {v : Value} {Q : Unit → Shared → Prop} (hg : s.heap.IsGen a g) (h : Q () s) : wpAny (model prog w) A (letOwnedTupleGo target (.ref a) v) Q E s := by
  obtain ⟨o, nm, qn, ho, hc, hd', hs⟩ := hg
  unfold letOwnedTupleGo
  split
  · split
    · rename_i e
      cases e
      refine wpAny_bind (wpAny_load ho ?_)
      rw [hc, hd']
      exact wpAny_pure h
    · exact wpAny_pure h
  · split
    · rename_i e
      cases e
      refine wpAny_bind (wpAny_load ho ?_)
      rw [hc, hd']
      exact wpAny_pure h
    · exact wpAny_pure h
  · exact wpAny_pure h

end
end Mine
end

section
open PySem PySem.W PyProof.Rows PySem.Calls
namespace Mine
def LOk (L : Option Nat) : Prop := ∀ k, L = some k → 0 < k
theorem leastOf_ok {k : Nat} {ks : List Int} (h : 0 < k) : LOk (leastOf k ks) := fun k' e => by unfold leastOf at e; split at e <;> cases e; exact h

theorem split_ind {gs : List Int} {L : Option Nat} (hL : LOk L) {P : List Int → Prop} (nil : P []) (none : ∀ ks, ks ≠ [] → runOf gs L ks = none → P ks)
    (some : ∀ ks a b, ks ≠ [] → runOf gs L ks = some (a, b) → a < b → b ≤ ks.length → P (ks.drop b) → P ks) : ∀ ks, P ks := by
  have : ∀ (n : Nat) (ks : List Int), ks.length ≤ n → P ks := by
    intro n
    induction n with
    | zero => intro ks h; rw [List.eq_nil_of_length_eq_zero (Nat.le_zero.mp h)]; exact nil
    | succ n ih =>
      intro ks h
      by_cases h0 : ks = []
      · rw [h0]; exact nil
      · cases hr : runOf gs L ks with
        | none => exact none ks h0 hr
        | some ab =>
          obtain ⟨a, b⟩ := ab
          obtain ⟨h1, h2⟩ := runOf_bounds hL hr
          exact some ks a b h0 hr h1 h2 (ih _ (by simp only [List.length_drop]; omega))
  exact fun ks => this ks.length ks (Nat.le_refl _)

theorem split_join {gs : List Int} {L : Option Nat} (hL : LOk L) : ∀ ks, (split gs L ks).flatMap (·.2) = ks := by
  refine split_ind (gs := gs) hL ?_ ?_ ?_
  · rw [split_nil]; rfl
  · intro ks h0 hr; rw [split_none h0 hr]; simp
  · intro ks a b h0 hr h1 h2 ih
    rw [split_some hr ⟨by omega, h2⟩]
    have e : ks.take a ++ ((ks.drop a).take (b - a) ++ ks.drop b) = ks := by
      have e1 : (ks.drop a).take (b - a) ++ ks.drop b = ks.drop a := by
        have := List.take_append_drop (b - a) (ks.drop a)
        rw [List.drop_drop, show a + (b - a) = b by omega] at this
        exact this
      rw [e1, List.take_append_drop]
    by_cases ha : a = 0
    · subst ha; rw [if_pos rfl]
      simp only [List.nil_append, List.flatMap_cons, ih]
      simpa using e
    · rw [if_neg ha]
      simp only [List.cons_append, List.nil_append, List.flatMap_cons, ih]
      exact e

theorem split_ne {gs : List Int} {L : Option Nat} (hL : LOk L) : ∀ ks, ∀ x ∈ split gs L ks, x.2 ≠ [] := by
  refine split_ind (gs := gs) hL ?_ ?_ ?_
  · intro x hx; rw [split_nil] at hx; cases hx
  · intro ks h0 hr x hx; rw [split_none h0 hr, List.mem_singleton] at hx; subst hx; exact h0
  · intro ks a b h0 hr h1 h2 ih x hx
    rw [split_some hr ⟨by omega, h2⟩] at hx
    rcases List.mem_append.mp hx with hx | hx
    · split at hx
      · cases hx
      · rw [List.mem_singleton] at hx; subst hx
        intro q
        have := congrArg List.length q
        simp only [List.length_take, List.length_nil] at this; omega
    · rcases List.mem_cons.mp hx with rfl | hx
      · intro q
        have := congrArg List.length q
        simp only [List.length_take, List.length_drop, List.length_nil] at this; omega
      · exact ih x hx

theorem map_sub_join (l : List (Bool × List Int)) : (l.map subChunk).flatMap (·.2) = l.flatMap (·.2) := by
  induction l with
  | nil => rfl
  | cons x l ih => simp only [List.map_cons, List.flatMap_cons, ih]; rfl
theorem chunk1_join {L : Option Nat} (hL : LOk L) (x : Bool × List Int) : (chunk1 L x).flatMap (·.2) = x.2 := by
  unfold chunk1
  split
  · simp
  · rw [map_sub_join, split_join hL]
theorem chunksL_join {L : Option Nat} (hL : LOk L) (ks : List Int) : (chunksL L ks).flatMap (·.2) = ks := by
  unfold chunksL
  have : ∀ l : List (Bool × List Int), (l.flatMap (chunk1 L)).flatMap (·.2) = l.flatMap (·.2) := by
    intro l
    induction l with
    | nil => rfl
    | cons x l ih => simp only [List.flatMap_cons, List.flatMap_append, ih, chunk1_join hL]
  rw [this, split_join hL]
theorem chunksL_ne {L : Option Nat} (hL : LOk L) (ks : List Int) : ∀ c ∈ chunksL L ks, c.2 ≠ [] := by
  intro c hc
  obtain ⟨x, hx, hc⟩ := List.mem_flatMap.mp hc
  unfold chunk1 at hc
  split at hc
  · rw [List.mem_singleton] at hc; subst hc; exact split_ne hL ks x hx
  · obtain ⟨y, hy, rfl⟩ := List.mem_map.mp hc
    exact split_ne hL _ y hy
theorem len_join : ∀ l : List (Int × List Int), (∀ c ∈ l, c.2 ≠ []) → l.length ≤ (l.flatMap (·.2)).length
  | [], _ => Nat.le_refl _
  | c :: l, h => by
    have h1 := len_join l fun x hx => h x (.tail _ hx)
    have h2 : 0 < c.2.length := List.length_pos_iff.mpr (h c (.head _))
    simp only [List.length_cons, List.flatMap_cons, List.length_append]; omega
theorem chunksOf_len {k : Nat} (hk : 0 < k) (ks : List Int) : (chunksOf k ks).length ≤ ks.length := by
  have h := len_join (chunksOf k ks) (chunksL_ne (leastOf_ok hk) ks)
  rw [show (chunksOf k ks).flatMap (·.2) = ks from chunksL_join (leastOf_ok hk) ks] at h
  exact h
theorem chunksOf_join {k : Nat} (hk : 0 < k) (ks : List Int) : (chunksOf k ks).flatMap (·.2) = ks := chunksL_join (leastOf_ok hk) ks
theorem chunksOf_ne {k : Nat} (hk : 0 < k) (ks : List Int) : ∀ c ∈ chunksOf k ks, c.2 ≠ [] := chunksL_ne (leastOf_ok hk) ks
end Mine
end

section
open PySem PySem.W PyProof.Rows PySem.Calls
set_option maxRecDepth 100000
namespace Mine

theorem ns_ne {h : Heap} {a b : Addr} {m : Str → Option Value} {o : Obj} (n : h.Ns a m) (e : h.get? b = some o) (hn : NotDict o) : b ≠ a := by
  rintro rfl; exact ns_dict n e hn
theorem nd_tup (xs : List Value) : NotDict (tupO xs) := fun _ _ q => by cases q
theorem nd_gen {o : Obj} {vs : Array Value} (h : o.data = .fields vs) : NotDict o := fun _ _ q => by rw [h] at q; cases q
theorem ne_new {h : Heap} {a b : Addr} {o : Obj} (ha : h.get? a = none) (e : h.get? b = some o) : a ≠ b := by
  rintro rfl; rw [ha] at e; cases e

section
variable {prog : Program} {w : World} {p : Program} {loose : List Str} {mg mb : Str → Option Value}

/-- the ground of a woken generator frame, with what a stretch of the walk has done -/
theorem ground {C : Addr} {m : Str → Option Value} {s : Shared} (H : Hp w p loose mg mb s.heap) (hn : s.heap.Ns C m) (hC : AboveK w C) (ex0 : List (Addr × Obj)) (he : Held w s.heap ex0) (hnd : ∀ q ∈ ex0, NotDict q.2) :
    ∃ ps g W, TabOk ps ∧ Fr g C s.heap m ∧ News g C s.heap ((16, tabO ps) :: (ex0 ++ W)) ∧ (∀ q ∈ ex0 ++ W, q.1 ≠ 16 ∨ q ∈ ex0) ∧ (hd.heap_39 w.params).In g ∧ TopRead p loose mg mb g ∧ (∃ ob, BMod g mainGlobals mg 4 ob) ∧
      (∀ (s' : Shared) m' news' ps', s'.gens = s.gens → s'.os = s.os → Fr g C s'.heap m' → News g C s'.heap news' → (∀ q ∈ W, q ∈ news') → (∀ q ∈ ex0, q ∈ news') → (16, tabO ps') ∈ news' → TabOk ps' → Hp w p loose mg mb s'.heap ∧ StpB (OnlyC C) NoG s s') := by
  obtain ⟨ps, hps1, hps2⟩ := H.tab
  have hex : Held w s.heap ((16, tabO ps) :: ex0) := List.forall_mem_cons.mpr ⟨⟨hps1, safe16 w⟩, he⟩
  obtain ⟨g, W, F, N, hW16, X, T, M, hkeep⟩ := enterG H hn hC ((16, tabO ps) :: ex0) hex (List.forall_mem_cons.mpr ⟨Nat.ne_of_lt hC.t, fun q hq => ns_ne hn (he q hq).1 (hnd q hq)⟩)
  refine ⟨ps, g, W, hps2, F, N, fun q hq => ?_, X, T, M, fun s' m' news' ps' e1 e2 F' N' hW h0 h16 hok => ⟨hp_of F' N' X T M h16 hok, e2, by rw [e1]; exact Nat.le_refl _, fun _ _ _ => by rw [e1], fun x => by rw [e1]; exact x, fun b o h1 h2 e => ?_, ps', (N' _ h16).1, hok⟩⟩
  · rcases List.mem_append.mp hq with hq | hq
    · exact .inr hq
    · exact .inl (hW16 q hq)
  · by_cases q : b ∈ ((16, tabO ps) :: ex0).map (·.1)
    · obtain ⟨x, hx, rfl⟩ := List.mem_map.mp q
      rcases List.mem_cons.mp hx with rfl | hx
      · exact absurd rfl h1
      · have := (N' _ (h0 x hx)).1
        rw [(he x hx).1] at e; cases e; exact this
    · refine hkeep s'.heap m' news' F' (fun q hq => ?_) b o h2 q e
      rcases List.mem_append.mp hq with hq | hq
      · exact N' q hq
      · exact N' q (hW q hq)

theorem Ns_norm3 {h : Heap} {C : Addr} {m : Str → Option Value} {v1 v2 v3 : Value} (n : h.Ns C m) (h1 : m (Str.ofString "data") = some v1) (h2 : m (Str.ofString "num_pattern") = some v2) (h3 : m (Str.ofString "alpha_pattern") = some v3) :
    h.Ns C (fun y => if y = Str.ofString "data" then some v1 else if y = Str.ofString "num_pattern" then some v2 else if y = Str.ofString "alpha_pattern" then some v3 else m y) := by
  refine Ns_congr n fun y => ?_
  by_cases q1 : y = Str.ofString "data"
  · subst q1; rw [if_pos rfl]; exact h1
  · rw [if_neg q1]
    by_cases q2 : y = Str.ofString "num_pattern"
    · subst q2; rw [if_pos rfl]; exact h2
    · rw [if_neg q2]
      by_cases q3 : y = Str.ofString "alpha_pattern"
      · subst q3; rw [if_pos rfl]; exact h3
      · rw [if_neg q3]
theorem Ns_norm1 {h : Heap} {C : Addr} {m : Str → Option Value} {v3 : Value} (n : h.Ns C m) (h3 : m (Str.ofString "alpha_pattern") = some v3) :
    h.Ns C (fun y => if y = Str.ofString "alpha_pattern" then some v3 else m y) := by
  refine Ns_congr n fun y => ?_
  by_cases q3 : y = Str.ofString "alpha_pattern"
  · subst q3; rw [if_pos rfl]; exact h3
  · rw [if_neg q3]

theorem Stp.ns {C : Addr} {m : Str → Option Value} {a b : Shared} (x : Stp a b) (n : a.heap.Ns C m) (hC : AboveK w C) : b.heap.Ns C m :=
  n.at' fun o e => x.ext.keep _ o (Nat.ne_of_gt hC.t) e
theorem StpB.ns {C : Addr} {m : Str → Option Value} {Cs : Addr → Prop} {Gs : Nat → Prop} {a b : Shared} (x : StpB Cs Gs a b) (n : a.heap.Ns C m) (h1 : C ≠ 16) (h2 : ¬ Cs C) : b.heap.Ns C m :=
  n.at' fun o e => x.keep _ o h1 h2 e

abbrev NoA : Addr → Prop := fun _ => False
/-- the two patterns are there -/
def odI1 (w : World) (p : Program) (loose : List Str) (mg mb : Str → Option Value) (C : Nat) (L : Option Nat) (ks : List Int) (s₀ s : Shared) : Prop :=
  ∃ (pt1 pt2 : Addr) (sg1 sg2 d : Array UInt8) (t1 t2 t3 t4 td : Tok) (u : Str → Option Value), Hp w p loose mg mb s.heap ∧ s.heap.get? pt1 = some (tupO [.bytes sg1 t1, leastV L t2]) ∧ KBw.bInts sg1 = gsNum ∧ Safe w pt1 ∧ s.heap.get? pt2 = some (tupO [.bytes sg2 t3, leastV L t4]) ∧ KBw.bInts sg2 = gsAl ∧ Safe w pt2 ∧ KBw.bInts d = ks ∧
   s.heap.Ns C (fun y => if y = Str.ofString "data" then some (.bytes d td) else if y = Str.ofString "num_pattern" then some (.ref pt1) else if y = Str.ofString "alpha_pattern" then some (.ref pt2) else u y) ∧ StpB (OnlyC C) NoG s₀ s

/-- a generator of _optimal_split's within: what it is apart from -/
structure Apart (w : World) (C D Lc g0 a g Cf pt : Nat) : Prop where
  safe : Safe w Cf
  fC : Cf ≠ C
  fD : Cf ≠ D
  fL : Cf ≠ Lc
  fl : ¬ Cf < C
  aC : a ≠ C
  aD : a ≠ D
  aL : a ≠ Lc
  af : a ≠ Cf
  a16 : a ≠ 16
  pC : pt ≠ C
  pD : pt ≠ D
  pL : pt ≠ Lc
  pf : pt ≠ Cf
  p16 : pt ≠ 16
  gg : g0 < g
  pl : pt < Cf

/-- the frames that stand about -/
structure Stands (w : World) (p : Program) (loose : List Str) (mg mb : Str → Option Value) (C D Lc pt2 : Nat) (L : Option Nat) (sg2 : Array UInt8) (t3 t4 : Tok) (s : Shared) : Prop where
  H : Hp w p loose mg mb s.heap
  hp2 : s.heap.get? pt2 = some (tupO [.bytes sg2 t3, leastV L t4])
  ns : ∃ u : Str → Option Value, s.heap.Ns C (fun y => if y = Str.ofString "alpha_pattern" then some (.ref pt2) else u y)
  hD : ∃ o, s.heap.get? D = some o ∧ o.cls = .type "list"
  hL : ∃ m, s.heap.Ns Lc m

theorem L16 {Lc : Addr} {s : Shared} (H : Hp w p loose mg mb s.heap) (hL : ∃ m, s.heap.Ns Lc m) : Lc ≠ 16 := by
  obtain ⟨m, n⟩ := hL
  obtain ⟨ps, e, _⟩ := H.tab
  exact fun q => ns_ne n e (fun _ _ q => by cases q) q.symm
theorem kD_keep {D : Addr} {Cs : Addr → Prop} {Gs : Nat → Prop} {s s' : Shared} (H : Hp w p loose mg mb s.heap) (x : StpB Cs Gs s s') (h : ∃ o, s.heap.get? D = some o ∧ o.cls = .type "list") (hD : ¬ Cs D) : ∃ o, s'.heap.get? D = some o ∧ o.cls = .type "list" :=
  let ⟨o, e, hc⟩ := h; ⟨o, x.keep _ _ (ne16_of H e (by rw [hc]; intro q; cases q)) hD e, hc⟩
theorem kL_keep {Lc : Addr} {Cs : Addr → Prop} {Gs : Nat → Prop} {s s' : Shared} (H : Hp w p loose mg mb s.heap) (x : StpB Cs Gs s s') (h : ∃ m, s.heap.Ns Lc m) (hL : ¬ Cs Lc) : ∃ m, s'.heap.Ns Lc m :=
  let ⟨m, n⟩ := h; ⟨m, x.ns n (L16 H h) hL⟩

theorem Stands.safe2 {C D Lc pt2 : Nat} {L : Option Nat} {sg2 : Array UInt8} {t3 t4 : Tok} {s s' : Shared} {Cf g : Nat} (S : Stands w p loose mg mb C D Lc pt2 L sg2 t3 t4 s) (x : StpB (OnlyC Cf) (fun i => i = g) s s') (hs : Safe w Cf) (hm : ∃ m, s.heap.Ns Cf m) (fC : Cf ≠ C) (fD : Cf ≠ D) (fL : Cf ≠ Lc) (hC16 : C ≠ 16) :
    Stands w p loose mg mb C D Lc pt2 L sg2 t3 t4 s' := by
  obtain ⟨m, hm⟩ := hm
  obtain ⟨u, hn⟩ := S.ns
  exact ⟨S.H.stpB x (fun a e => e ▸ hs), x.keep _ _ (ne16_of S.H S.hp2 (by intro q; cases q)) (ns_ne hm S.hp2 (nd_tup _)) S.hp2, ⟨u, x.ns hn hC16 (Ne.symm fC)⟩, kD_keep S.H x S.hD (Ne.symm fD), kL_keep S.H x S.hL (Ne.symm fL)⟩

theorem SplitGen.staysB {A : Around} {C D Lc g0 a g Cf pt : Nat} {all : List (Bool × List Int)} {j : Nat} {s s' : Shared} {Cs : Addr → Prop} {Gs : Nat → Prop} (G : SplitGen prog w p loose mg mb A a g Cf pt all j s) (H : Hp w p loose mg mb s.heap) (AP : Apart w C D Lc g0 a g Cf pt) (x : StpB Cs Gs s s')
    (h1 : ¬ Cs a) (h2 : ¬ Cs Cf) (h3 : ¬ Cs pt) (h4 : ¬ Gs g) : SplitGen prog w p loose mg mb A a g Cf pt all j s' := by
  have h16 : Cf ≠ 16 := L16 H G.ns
  refine G.stays (fun b o hb e => ?_) (x.gk g ?_ h4)
  · rcases hb with rfl | rfl | rfl
    · exact x.keep _ _ AP.a16 h1 e
    · exact x.keep _ _ h16 h2 e
    · exact x.keep _ _ AP.p16 h3 e
  · obtain ⟨gst, hgs, _⟩ := G.st
    rcases Nat.lt_or_ge g s.gens.size with h | h
    · exact h
    · rw [Array.getElem?_eq_none h] at hgs; cases hgs

theorem named {M : Model} {A : Around} {α : Type} {t : Sem α} {Q : α → Shared → Prop} {E : Value → Shared → Prop} {s : Shared} {g : Heap} {C : Addr} {m' : Str → Option Value} {news' : List (Addr × Obj)} (F : Fr g C s.heap m') (N : News g C s.heap news')
    (h : ∀ s' : Shared, s'.gens = s.gens → s'.os = s.os → Fr g C s'.heap m' → News g C s'.heap news' → wpAny M A t Q E s') : wpAny M A t Q E s := h s rfl rfl F N
theorem room1 : (0 : Nat) + 60 < recursionLimit ∧ (0 : Nat) + 500 < cLine := ⟨by decide, by decide⟩
theorem room0 : (0 : Nat) + 40 < recursionLimit ∧ (0 : Nat) + 400 < cLine := ⟨by decide, by decide⟩

section
variable {C D Lc pt2 g0 : Nat} {L : Option Nat} {sg2 : Array UInt8} {t3 t4 : Tok} {s s' : Shared}
theorem Stands.odV (S : Stands w p loose mg mb C D Lc pt2 L sg2 t3 t4 s) (hV : odV w p loose mg mb g0 D Lc s s') (hDC : D ≠ C) (hLC : Lc ≠ C) : Stands w p loose mg mb C D Lc pt2 L sg2 t3 t4 s' := by
  obtain ⟨u, hn⟩ := S.ns
  refine ⟨hV.1, hV.2.1 _ _ ?_ ?_ S.hp2, ⟨u, hn.at' fun o e => hV.2.1 _ o (Ne.symm hDC) (Ne.symm hLC) e⟩, hV.2.2.2.1, hV.2.2.2.2.1⟩
  · rintro rfl
    obtain ⟨o, e, hc⟩ := S.hD
    rw [S.hp2] at e; cases e; injection hc with q; exact absurd q (by decide)
  · obtain ⟨m, hm⟩ := S.hL
    exact ns_ne hm S.hp2 (nd_tup _)
theorem Stands.stpC (S : Stands w p loose mg mb C D Lc pt2 L sg2 t3 t4 s) (x : StpB (OnlyC C) NoG s s') (H' : Hp w p loose mg mb s'.heap) (hn' : ∃ u : Str → Option Value, s'.heap.Ns C (fun y => if y = Str.ofString "alpha_pattern" then some (.ref pt2) else u y)) (hDC : D ≠ C) (hLC : Lc ≠ C) :
    Stands w p loose mg mb C D Lc pt2 L sg2 t3 t4 s' := by
  obtain ⟨u, hn⟩ := S.ns
  exact ⟨H', x.keep _ _ (ne16_of S.H S.hp2 (by intro q; cases q)) (ns_ne hn S.hp2 (nd_tup _)) S.hp2, hn', kD_keep S.H x S.hD hDC, kL_keep S.H x S.hL hLC⟩
theorem Stands.stp (S : Stands w p loose mg mb C D Lc pt2 L sg2 t3 t4 s) (x : Stp s s') (hCk : AboveK w C) : Stands w p loose mg mb C D Lc pt2 L sg2 t3 t4 s' := by
  obtain ⟨u, hn⟩ := S.ns
  exact ⟨S.H.ext x.ext, x.ext.keep _ _ (ne16_of S.H S.hp2 (by intro q; cases q)) S.hp2, ⟨u, x.ns hn hCk⟩, kD_keep S.H (x.toB (Cs := NoA) (Gs := NoG)) S.hD id, kL_keep S.H (x.toB (Cs := NoA) (Gs := NoG)) S.hL id⟩
theorem SplitGen.staysV {A : Around} {a g Cf pt : Nat} {all : List (Bool × List Int)} {j : Nat} (G : SplitGen prog w p loose mg mb A a g Cf pt all j s) (AP : Apart w C D Lc g0 a g Cf pt) (hV : Mine.odV w p loose mg mb g0 D Lc s s') : SplitGen prog w p loose mg mb A a g Cf pt all j s' := by
  refine G.stays (fun b o hb e => ?_) (hV.2.2.1 _ (Nat.ne_of_gt AP.gg))
  rcases hb with rfl | rfl | rfl
  · exact hV.2.1 _ _ AP.aD AP.aL e
  · exact hV.2.1 _ _ AP.fD AP.fL e
  · exact hV.2.1 _ _ AP.pD AP.pL e
theorem StpF.refl {Lc : Nat} (H : Hp w p loose mg mb s.heap) : StpF C g0 Lc s s := ⟨rfl, Nat.le_refl _, fun _ _ _ => rfl, fun x => x, fun _ _ _ _ e => e, H.tab⟩
theorem SplitGen.glt {A : Around} {a g Cf pt : Nat} {all : List (Bool × List Int)} {j : Nat} (G : SplitGen prog w p loose mg mb A a g Cf pt all j s) : g < s.gens.size := by
  obtain ⟨gst, hgs, _⟩ := G.st
  rcases Nat.lt_or_ge g s.gens.size with h | h
  · exact h
  · rw [Array.getElem?_eq_none h] at hgs; cases hgs
theorem StpB.toFC {Lc : Nat} {m : Str → Option Value} (x : StpB (OnlyC C) NoG s s') (hn : s.heap.Ns C m) (hLC : Lc ≠ C) : StpF C g0 Lc s s' :=
  x.toF (fun b hb => by cases hb; exact ⟨Nat.lt_irrefl _, Ne.symm hLC, _, hn⟩) (fun _ h => h.elim)
theorem Stp.toF {Lc : Nat} (x : Stp s s') : StpF C g0 Lc s s' := (x.toB (Cs := NoA) (Gs := NoG)).toF (fun b hb => hb.elim) (fun _ h => h.elim)
theorem StpB.toFG {Lc a g Cf pt : Nat} (x : StpB (OnlyC Cf) (fun i => i = g) s s') (AP : Apart w C D Lc g0 a g Cf pt) (hm : ∃ m, s.heap.Ns Cf m) : StpF C g0 Lc s s' :=
  x.toF (fun b hb => by cases hb; exact ⟨AP.fl, AP.fL, hm⟩) (fun i hi => by cases hi; exact Nat.lt_asymm AP.gg)
end

theorem split_sub (gs : List Int) (L : Option Nat) : ∀ (n : Nat) (ks : List Int), ks.length ≤ n → ∀ x ∈ split gs L ks, x.2.length ≤ ks.length ∧ ∀ c ∈ x.2, c ∈ ks := by
  intro n
  induction n with
  | zero => intro ks h x hx; rw [List.eq_nil_of_length_eq_zero (Nat.le_zero.mp h), split_nil] at hx; cases hx
  | succ n ih =>
    intro ks h x hx
    rw [split] at hx
    split at hx
    · cases hx
    · split at hx
      · rw [List.mem_singleton] at hx; subst hx; exact ⟨Nat.le_refl _, fun c h => h⟩
      · split at hx
        · rename_i a b _ hb
          rcases List.mem_append.mp hx with hx | hx
          · split at hx
            · cases hx
            · rw [List.mem_singleton] at hx; subst hx
              exact ⟨by simp only [List.length_take]; exact Nat.min_le_right _ _, fun c h => List.mem_of_mem_take h⟩
          · rcases List.mem_cons.mp hx with rfl | hx
            · exact ⟨by simp only [List.length_take, List.length_drop]; omega, fun c h => List.mem_of_mem_drop (List.mem_of_mem_take h)⟩
            · obtain ⟨q1, q2⟩ := ih (ks.drop b) (by simp only [List.length_drop]; omega) x hx
              exact ⟨by simp only [List.length_drop] at q1; omega, fun c h => List.mem_of_mem_drop (q2 c h)⟩
        · cases hx

abbrev SplitGen.arnd {A : Around} {a g Cf pt : Nat} {all : List (Bool × List Int)} {j : Nat} {s : Shared} (_ : SplitGen prog w p loose mg mb A a g Cf pt all j s) : Around := A

/-- the list that is left, at each turn -/
theorem indL {α : Type} {I P : List α → Shared → Shared → Prop} (step : ∀ c r s₀ s, (∀ s₀' s', I r s₀' s' → P r s₀' s') → I (c :: r) s₀ s → P (c :: r) s₀ s) (nil : ∀ s₀ s, I [] s₀ s → P [] s₀ s) : ∀ (ks : List α) (a b : Shared), I ks a b → P ks a b
  | [], a, b, h => nil a b h
  | c :: r, a, b, h => step c r a b (fun a' b' h' => indL step nil r a' b' h') h

def odI2 (prog : Program) (w : World) (p : Program) (loose : List Str) (mg mb : Str → Option Value) (C D Lc pt2 : Nat) (L : Option Nat) (sg2 : Array UInt8) (t3 t4 : Tok) (g0 a1 g1 C1 pt1 : Nat) (all : List (Bool × List Int)) (whole : List (Int × List Int)) (A1 : Around) (rest : List (Bool × List Int)) (s₀ s : Shared) : Prop :=
  ∃ pre cpre, all = pre ++ rest ∧ whole = cpre ++ rest.flatMap (chunk1 L) ∧ Stands w p loose mg mb C D Lc pt2 L sg2 t3 t4 s ∧ SplitGen prog w p loose mg mb A1 a1 g1 C1 pt1 all pre.length s ∧ StpF C g0 Lc s₀ s ∧ g0 < s.gens.size
def odI3 (prog : Program) (w : World) (p : Program) (loose : List Str) (mg mb : Str → Option Value) (C D Lc pt2 : Nat) (L : Option Nat) (sg2 : Array UInt8) (t3 t4 : Tok) (g0 a1 g1 C1 pt1 : Nat) (all : List (Bool × List Int)) (j : Nat) (A1 : Around) (a2 g2 C2 : Nat) (all2 : List (Bool × List Int)) (after : List (Int × List Int)) (whole : List (Int × List Int)) (A2 : Around) (rest : List (Bool × List Int)) (s₀ s : Shared) : Prop :=
  ∃ pre cpre, all2 = pre ++ rest ∧ whole = cpre ++ (rest.map subChunk ++ after) ∧ Stands w p loose mg mb C D Lc pt2 L sg2 t3 t4 s ∧ SplitGen prog w p loose mg mb A1 a1 g1 C1 pt1 all j s ∧ SplitGen prog w p loose mg mb A2 a2 g2 C2 pt2 all2 pre.length s ∧ StpF C g0 Lc s₀ s ∧ g0 < s.gens.size

end
end Mine
end

section
open PySem PySem.W PyProof.Rows PySem.Calls
set_option maxRecDepth 100000
namespace Mine
local macro_rules | `(tactic| walk_at "my fill") => `(tactic| (have kf : PySem.Challenge.rw_ez0306_01 = PySem.Challenge.rw_ez0306_01 ∧ hd.heap_39 = hd.heap_39 := by k_fill; exact ⟨rfl, rfl⟩))
local macro_rules | `(tactic| walk_at "my guard") => `(tactic| ((fail_if_success (with_reducible show wpAny _ _ (pyIter _) _ _ _)); (fail_if_success (with_reducible show wpAny _ _ (exec (Stmt.While _ _ _ _) _) _ _ _)); (fail_if_success (with_reducible show wpAny _ _ (call (Value.ref _) _ _) _ _ _)); (fail_if_success (with_reducible show Seg _ _ _ _ _ _ _ _ _ _)); (fail_if_success (with_reducible show SW _ _ _ _ _ _ _ _ _ _ _ _ _ _ _)); (fail_if_success (with_reducible show _ → _)); (fail_if_success (with_reducible show odZ _ _ _ _ _ _ _ _ _ ∧ _)); (fail_if_success (with_reducible show _ = Flow.next ∧ _))))
local macro_rules | `(tactic| walk_at "my steps") => `(tactic| repeat' (first | (k_unfold; (try dsimp only)) | (walk_at "my guard"; walk1) | (walk_at "my guard"; dsimp only; walk_at "my guard"; walk1) | fail "no step"))
local macro_rules | `(tactic| walk_at "my mems") => `(tactic| (repeat (first | exact List.forall_mem_nil _ | refine List.forall_mem_cons.mpr ⟨by k_mem, ?_⟩)))
local macro_rules | `(tactic| walk_at "my rest") => `(tactic| (intro q hq; repeat (first | exact hq | apply List.Mem.tail)))

set_option maxHeartbeats 8000000 in
theorem call_odc {prog : Program} {w : World} {p : Program} {loose : List Str} {mg mb : Str → Option Value} {A : Around} {s : Shared} {d : Array UInt8} {t1 t2 : Tok} {k : Nat} {ks : List Int}
    (hroom : A.depth < recursionLimit)
    (H : Hp w p loose mg mb s.heap) (hks : KBw.bInts d = ks) (hl2 : ks.length ≤ 64) (hnl : ∀ c ∈ ks, c ≠ 10) (hk0 : 0 < k) (hk1 : k < 10) :
    wpAny (model prog w) A (call (.ref 30) [.bytes d t1, .int (k : Int) t2]) (fun v s' => ∃ a C, v = .ref a ∧ Stp s s' ∧ s.heap.get? a = none ∧ (¬ C < s.heap.objs.size) ∧ C < s'.heap.objs.size ∧ s'.gens.size = s.gens.size + 1 ∧ AboveK w C ∧
      ∀ (D Lc : Nat) (A' : Around), D ≠ C → Lc ≠ C → A'.handled = none → A'.depth + 60 < recursionLimit → A'.units + 500 < cLine → OdGen prog w p loose mg mb A' a s.gens.size C D Lc (chunksOf k ks) 0 s') (fun _ _ => False) s := by
  walk_at "my fill"
  refine' make_gen (w := w) H ?k1 ?k2 hroom ?k3 ?k4 ?k5 ?k6 ?k7 ?k8 ?k0
  case k1 => k_is
  case k2 => k_is
  case k3 => exact binds_K (show (hd.heap_39 w.params).In s.heap from H.X) rfl (by k_is) rfl rfl rfl
  case k4 => exact locs rfl
  case k5 => decide
  case k6 => rfl
  case k7 => rfl
  case k8 => rfl
  intro C a s' hC hCa ha hn hg hgens st
  have hCk : AboveK w C := hC ▸ AboveK.of H
  have hget := (congrArg (fun (z : Array GenState) => z[s.gens.size]?) hgens).trans Array.getElem?_push_size
  refine ⟨a, C, rfl, st, ha, by rw [hC]; exact Nat.lt_irrefl _, hn.lt, by rw [hgens]; simp, hCk, fun D Lc A' hDC hLC hA' hd' hu' => ⟨hg, _, hget, rfl, fun s'' hV => ⟨rfl, ?_⟩⟩⟩
  obtain ⟨hdl, dp, fr, gd, un⟩ := A'
  have hq : hdl = none := hA'
  subst hq
  have hd2 : dp + 60 < recursionLimit := hd'
  have hu2 : un + 500 < cLine := hu'
  clear hd' hu' hA'
  obtain ⟨H2, hk2, hg2, ⟨oD, hD1, hD2⟩, ⟨mL, hL⟩, hgs2⟩ := hV
  have hn2 := hn.at' fun o e => hk2 _ o (Ne.symm hDC) (Ne.symm hLC) e
  have hglt2 : s.gens.size < s''.gens.size := by rw [hgens] at hgs2; simp at hgs2; omega
  clear hgs2 hn hg hgens st hget hk2 ha hCa
  generalize hg0 : s.gens.size = g0 at *
  clear H hg0 hC s
  rw [Nat.sub_zero]
  refine seg_func fun H0 => ?_
  refine sw_execs_cons (sw_stmt ?_)
  obtain ⟨ps, g, W, hps, F, N, hW16, X, T, M, hdone⟩ := ground H2 hn2 hCk [] (List.forall_mem_nil _) (List.forall_mem_nil _)
  simp only [List.nil_append] at N
  walk_at "my steps"
  refine wpAny_mono (to_bytes rfl ?_ H2) (fun v s₃ hv => ?_) (fun _ _ x => x.elim)
  · exact Nat.lt_of_le_of_lt (Nat.add_le_add_right (Nat.le_of_eq (m := dp + 1) rfl) 5) (by omega)
  obtain ⟨rfl, st3⟩ := hv
  have H3 := H2.ext st3.ext
  have hn3 := st3.ns hn2 hCk
  clear F N W hW16 X T M hdone hps ps
  obtain ⟨ps, g, W, hps, F, N, hW16, X, T, M, hdone⟩ := ground H3 hn3 hCk [] (List.forall_mem_nil _) (List.forall_mem_nil _)
  simp only [List.nil_append] at N
  walk_at "my steps"
  refine sw_execs_cons (sw_stmt ?_)
  walk_at "my steps"
  refine sw_execs_cons (sw_stmt ?_)
  walk_at "my steps"
  refine sw_execs_cons (sw_stmt ?_)
  refine wpAny_mono (E := fun _ _ => False) (Q := fun f s' => f = .next ∧ odI1 w p loose mg mb C (leastOf k ks) ks s₃ s') ?_ (fun f s' h => ?_) (fun _ _ x => x.elim)
  · walk_at "my steps"
    · rename News _ _ _ _ => N2
      rename Fr _ _ _ _ => F2
      rw [show leastOf k ks = none from if_pos (by omega)]
      obtain ⟨HH, SS⟩ := hdone (Shared.mk _ s₃.gens s₃.drawn tk s₃.os) _ _ _ rfl rfl F2 N2 (by walk_at "my rest") (List.forall_mem_nil _) (by k_mem) hps
      exact ⟨rfl, _, _, _, _, d, _, 0, _, 0, _, _, HH, (N2 _ (.tail _ (.head _))).1, by decide, safe_of N2 X T M (.tail _ (.head _)), (N2 _ (.head _)).1, by decide, safe_of N2 X T M (.head _), hks, Ns_norm3 F2.ns rfl rfl rfl, SS⟩
    · rename News _ _ _ _ => N2
      rename Fr _ _ _ _ => F2
      rw [show leastOf k ks = some k from if_neg (by omega)]
      obtain ⟨HH, SS⟩ := hdone (Shared.mk _ s₃.gens s₃.drawn tk s₃.os) _ _ _ rfl rfl F2 N2 (by walk_at "my rest") (List.forall_mem_nil _) (by k_mem) hps
      exact ⟨rfl, _, _, _, _, d, _, _, _, _, _, _, HH, (N2 _ (.tail _ (.head _))).1, by decide, safe_of N2 X T M (.tail _ (.head _)), (N2 _ (.head _)).1, by decide, safe_of N2 X T M (.head _), hks, Ns_norm3 F2.ns rfl rfl rfl, SS⟩
  rename_i h3 F3 N3
  obtain ⟨rfl, pt1, pt2, sg1, sg2, d', t1', t2', t3', t4', td, u, H4, hp1, hsg1, hs1, hp2, hsg2, hs2, hks', hn4, st4⟩ := h
  have kD4 := kD_keep H3 st4 (kD_keep H2 (st3.toB (Cs := NoA) (Gs := NoG)) ⟨oD, hD1, hD2⟩ id) hDC
  have kL4 := kL_keep H3 st4 (kL_keep H2 (st3.toB (Cs := NoA) (Gs := NoG)) ⟨mL, hL⟩ id) hLC
  have fr4 : StpF C g0 Lc s'' s' := (st3.toB (Cs := OnlyC C) (Gs := NoG)).trans st4 |>.toF (fun b hb => by cases hb; exact ⟨Nat.lt_irrefl _, Ne.symm hLC, _, hn2⟩) (fun _ h => h.elim)
  have hC16 : C ≠ 16 := Nat.ne_of_gt hCk.t
  clear F3 N3 W hW16 X T M hdone hps ps hD1 hD2 hL mL oD
  obtain ⟨ps, g, W, hps, F, N, hW16, X, T, M, hdone⟩ := ground H4 hn4 hCk [(pt1, _), (pt2, _)] (List.forall_mem_cons.mpr ⟨⟨hp1, hs1⟩, List.forall_mem_cons.mpr ⟨⟨hp2, hs2⟩, List.forall_mem_nil _⟩⟩) (List.forall_mem_cons.mpr ⟨nd_tup _, List.forall_mem_cons.mpr ⟨nd_tup _, List.forall_mem_nil _⟩⟩)
  simp only [List.cons_append, List.nil_append] at N
  refine sw_execs_cons (sw_stmt ?_)
  walk_at "my steps"
  refine wpAny_mono (call_split ?_ H4 hp1 hs1 hsg1 hks' (by decide) hl2 hnl (fun k' h => by unfold leastOf at h; split at h <;> cases h; exact ⟨hk0, hk1⟩)) (fun v s₅ hv => ?_) (fun _ _ x => x.elim)
  · exact Nat.lt_of_le_of_lt (Nat.le_of_eq (m := dp + 1) rfl) (by omega)
  obtain ⟨a1, C1, rfl, st5, ha1, hC1, ha1C1, hgsz, hsC1, hlt1, hSG⟩ := hv
  obtain ⟨oC, hoC⟩ : ∃ o, s'.heap.get? C = some o := let ⟨o, _, _, e, _⟩ := hn4; ⟨o, e⟩
  obtain ⟨oL, hoL⟩ : ∃ o, s'.heap.get? Lc = some o := let ⟨_, o, _, _, e, _⟩ := kL4; ⟨o, e⟩
  have hg4 : g0 < s'.gens.size := Nat.lt_of_lt_of_le hglt2 fr4.gsz
  have AP : Apart w C D Lc g0 a1 s'.gens.size C1 pt1 := by
    obtain ⟨oD, hoD, hcD⟩ := kD4
    obtain ⟨o16, ho16, _⟩ := H4.tab
    refine ⟨hsC1, ne_new hC1 hoC, ne_new hC1 hoD, ne_new hC1 hoL, fun q => hlt1 (Nat.lt_trans q hn4.lt), ne_new ha1 hoC, ne_new ha1 hoD, ne_new ha1 hoL, ha1C1, ne_new ha1 ho16, ns_ne hn4 hp1 (nd_tup _), ?_, ?_, fun q => ne_new hC1 hp1 q.symm, ne16_of H4 hp1 (by intro q; cases q), hg4, Nat.lt_of_lt_of_le (Heap.lt_size hp1) (Nat.le_of_not_lt hlt1)⟩
    · rintro rfl; rw [hp1] at hoD; cases hoD; injection hcD with q; exact absurd q (by decide)
    · obtain ⟨m, hm⟩ := kL4; exact ns_ne hm hp1 (nd_tup _)
  have H5 := H4.ext st5.ext
  have hn5 := st5.ns hn4 hCk
  have hp25 := st5.ext.keep _ _ (ne16_of H4 hp2 (by intro q; cases q)) hp2
  have kD5 := kD_keep H4 (st5.toB (Cs := NoA) (Gs := NoG)) kD4 id
  have kL5 := kL_keep H4 (st5.toB (Cs := NoA) (Gs := NoG)) kL4 id
  have fr5 : StpF C g0 Lc s'' s₅ := fr4.trans ((st5.toB (Cs := NoA) (Gs := NoG)).toF (fun b hb => hb.elim) (fun _ h => h.elim))
  have hg5 : g0 < s₅.gens.size := Nat.lt_of_lt_of_le hglt2 fr5.gsz
  clear F N W hW16 X T M hdone hps ps
  obtain ⟨ps, g, W, hps, F, N, hW16, X, T, M, hdone⟩ := ground H5 hn5 hCk [(pt2, _)] (List.forall_mem_cons.mpr ⟨⟨hp25, hs2⟩, List.forall_mem_nil _⟩) (List.forall_mem_cons.mpr ⟨nd_tup _, List.forall_mem_nil _⟩)
  simp only [List.cons_append, List.nil_append] at N
  walk_at "my steps"
  refine sw_execs_cons ?_
  refine sw_for rfl (fun _ => rfl) ?_
  walk_at "my steps"
  rename News _ _ _ _ => N6
  rename Fr _ _ _ _ => F6
  refine named (s := Shared.mk _ _ _ _ _) F6 N6 fun s6 e61 e62 F6 N6 => ?_
  obtain ⟨H6, st6⟩ := hdone s6 _ _ _ e61 e62 F6 N6 (by walk_at "my rest") (by walk_at "my mems") (by k_mem) hps
  have hSG6 : ∀ A' : Around, A'.handled = none → A'.depth + 40 < recursionLimit → A'.units + 400 < cLine → SplitGen prog w p loose mg mb A' a1 s'.gens.size C1 pt1 (split gsNum (leastOf k ks) ks) 0 s6 := fun A' h1 h2 h3 => (hSG A' h1 h2 h3).staysB H5 AP st6 AP.aC AP.fC AP.pC id
  have fr6 := fr5.trans (st6.toF (C := C) (g := g0) (Lc := Lc) (fun b hb => by cases hb; exact ⟨Nat.lt_irrefl _, Ne.symm hLC, _, hn5⟩) (fun _ h => h.elim))
  have S6 : Stands w p loose mg mb C D Lc pt2 (leastOf k ks) sg2 t3' t4' s6 := ⟨H6, st6.keep _ _ (ne16_of H4 hp2 (by intro q; cases q)) (ns_ne hn4 hp2 (nd_tup _)) hp25, ⟨_, Ns_norm1 F6.ns rfl⟩, kD_keep H5 st6 kD5 hDC, kL_keep H5 st6 kL5 hLC⟩
  refine wpAny_pyIter_gen (hSG6 ⟨none, 0, fr, gd, 0⟩ rfl room0.1 room0.2).gen ?_
  have hk9 := hk1
  intro p1 k1 l1 hk1
  clear hSG hdone
  clear F6 N6
  generalize hg1 : s'.gens.size = g1 at *
  have hsub : ∀ x ∈ split gsNum (leastOf k ks) ks, x.2.length ≤ 64 ∧ ∀ c ∈ x.2, c ≠ 10 := fun x hx => let ⟨q1, q2⟩ := split_sub _ _ _ ks (Nat.le_refl _) x hx; ⟨Nat.le_trans q1 hl2, fun c h => hnl c (q2 c h)⟩
  have hLk : ∀ k', leastOf k ks = some k' → 0 < k' ∧ k' < 10 := fun k' h => by unfold leastOf at h; split at h <;> cases h; exact ⟨hk0, hk9⟩
  have hw0 : chunksOf k ks = (split gsNum (leastOf k ks) ks).flatMap (chunk1 (leastOf k ks)) := rfl
  generalize chunksOf k ks = whole at *
  generalize split gsNum (leastOf k ks) ks = all at *
  generalize leastOf k ks = Lk at *
  rw [show whole.length = (all.flatMap (chunk1 Lk)).length from congrArg List.length hw0]
  refine' indL (I := odI2 prog w p loose mg mb C D Lc pt2 Lk sg2 t3' t4' g0 a1 g1 C1 pt1 all whole _) (P := fun rest s₀ s => Seg (model prog w) _ _ _ (rest.flatMap (chunk1 Lk)).length s₀ _ _ _ s) ?st ?ni all s'' _ ?ba
  case st =>
    intro it rest s₀ s ih hI
    obtain ⟨pre, cpre, hall, hwh, S, hG, hF, hg⟩ := hI
    have hpl : pre.length ≤ all.length := by rw [hall]; simp
    have hat : all[pre.length]? = some it := by rw [hall]; simp
    refine seg_for ?_
    refine hG.next hpl S.H AP.safe AP.af AP.a16 ?_ ?_ (fun s7 st7 => ?_)
    · rfl
    · exact Nat.lt_of_le_of_lt (Nat.le_of_eq (m := dp + 1) rfl) (by omega)
    rw [hat]
    intro v hv hG7
    obtain ⟨t, b, tb, rfl, ht, hb, hst⟩ := hv
    refine owned_gen hG7.gen ?_
    have S7 := S.safe2 st7 AP.safe hG.ns AP.fC AP.fD AP.fL hC16
    have fr7 := hF.trans (st7.toFG AP hG.ns)
    obtain ⟨u7, hn7⟩ := S7.ns
    have hg7 : g0 < s7.gens.size := Nat.lt_of_lt_of_le hg st7.gsz
    have hits := hsub it (by rw [hall]; simp)
    clear hG hF S st7 hg hat
    obtain ⟨bt, c⟩ := it
    obtain ⟨ps, g, W, hps, F, N, hW16, X, T, M, hdone⟩ := ground S7.H hn7 hCk [(t, _), (pt2, _)] (List.forall_mem_cons.mpr ⟨⟨ht, hst⟩, List.forall_mem_cons.mpr ⟨⟨S7.hp2, hs2⟩, List.forall_mem_nil _⟩⟩) (List.forall_mem_cons.mpr ⟨nd_tup _, List.forall_mem_cons.mpr ⟨nd_tup _, List.forall_mem_nil _⟩⟩)
    simp only [List.cons_append, List.nil_append] at N
    cases bt
    all_goals walk_at "my steps"
    · refine sw_execs_cons (sw_if ?_)
      walk_at "my steps"
      refine sw_ff rfl ?_
      refine sw_execs_cons (sw_for rfl (fun _ => rfl) ?_)
      walk_at "my steps"
      rename News _ _ _ _ => N8
      rename Fr _ _ _ _ => F8
      refine named (s := Shared.mk _ _ _ _ _) F8 N8 fun s8 e81 e82 F8 N8 => ?_
      obtain ⟨H8, st8⟩ := hdone s8 _ _ _ e81 e82 F8 N8 (by walk_at "my rest") (by walk_at "my mems") (by k_mem) hps
      have S8 := S7.stpC st8 H8 ⟨_, Ns_norm1 F8.ns rfl⟩ hDC hLC
      have fr8 := fr7.trans (st8.toFC (g0 := g0) (Lc := Lc) hn7 hLC)
      have hG8 := hG7.staysB S7.H AP st8 AP.aC AP.fC AP.pC id
      have hg8 : g0 < s8.gens.size := Nat.lt_of_lt_of_le hg7 st8.gsz
      have hg18 := hG8.glt
      dsimp only at hb hits
      clear F8 N8 e81 e82 hdone
      refine wpAny_mono (call_split ?_ H8 S8.hp2 hs2 hsg2 hb (by decide) hits.1 hits.2 hLk) (fun v s9 hv => ?_) (fun _ _ x => x.elim)
      · exact Nat.lt_of_le_of_lt (Nat.le_of_eq (m := dp + 1) rfl) (by omega)
      obtain ⟨a2, C2, rfl, st9, ha2, hC2, ha2C2, hgsz9, hsC2, hlt2, hSG9⟩ := hv
      obtain ⟨u8, hn8⟩ := S8.ns
      obtain ⟨oC8, hoC8⟩ : ∃ o, s8.heap.get? C = some o := let ⟨o, _, _, e, _⟩ := hn8; ⟨o, e⟩
      obtain ⟨oL8, hoL8⟩ : ∃ o, s8.heap.get? Lc = some o := let ⟨_, o, _, _, e, _⟩ := S8.hL; ⟨o, e⟩
      obtain ⟨oF8, hoF8⟩ : ∃ o, s8.heap.get? C1 = some o := let ⟨_, o, _, _, e, _⟩ := hG8.ns; ⟨o, e⟩
      obtain ⟨oA8, hoA8⟩ : ∃ o, s8.heap.get? a1 = some o := let ⟨o, _, _, e, _⟩ := hG8.gen; ⟨o, e⟩
      have AP2 : Apart w C D Lc g0 a2 s8.gens.size C2 pt2 := by
        obtain ⟨oD, hoD, hcD⟩ := S8.hD
        obtain ⟨o16, ho16, _⟩ := H8.tab
        refine ⟨hsC2, ne_new hC2 hoC8, ne_new hC2 hoD, ne_new hC2 hoL8, fun q => hlt2 (Nat.lt_trans q hn8.lt), ne_new ha2 hoC8, ne_new ha2 hoD, ne_new ha2 hoL8, ha2C2, ne_new ha2 ho16, ns_ne hn8 S8.hp2 (nd_tup _), ?_, ?_, fun q => ne_new hC2 S8.hp2 q.symm, ne16_of H8 S8.hp2 (by intro q; cases q), hg8, Nat.lt_of_lt_of_le (Heap.lt_size S8.hp2) (Nat.le_of_not_lt hlt2)⟩
        · rintro rfl; rw [S8.hp2] at hoD; cases hoD; injection hcD with q; exact absurd q (by decide)
        · obtain ⟨m, hm⟩ := S8.hL; exact ns_ne hm S8.hp2 (nd_tup _)
      have n1 : a1 ≠ C2 := fun q => ne_new hC2 hoA8 q.symm
      have n2 : C1 ≠ C2 := fun q => ne_new hC2 hoF8 q.symm
      have n3 : pt1 ≠ C2 := fun q => by
        have h1 := AP.pl
        have h2 := Heap.lt_size hoF8
        exact hlt2 (q ▸ Nat.lt_trans h1 h2)
      have n4 : g1 ≠ s8.gens.size := Nat.ne_of_lt hg18
      have S9 := S8.stp st9 hCk
      have fr9 := fr8.trans (st9.toF (C := C) (g0 := g0) (Lc := Lc))
      have hG9 := hG8.staysB H8 AP (st9.toB (Cs := NoA) (Gs := NoG)) id id id id
      have hg9 : g0 < s9.gens.size := Nat.lt_of_lt_of_le hg8 st9.gsz
      generalize s8.gens.size = g2 at *
      refine wpAny_pyIter_gen (hSG9 ⟨none, 0, fr, gd, 0⟩ rfl room0.1 room0.2).gen ?_
      intro p2 k2 l2 hk2
      rw [show (List.flatMap (chunk1 Lk) ((false, c) :: rest)).length = ((split gsAl Lk c).map subChunk ++ rest.flatMap (chunk1 Lk)).length from rfl]
      have hwh0 : whole = cpre ++ ((split gsAl Lk c).map subChunk ++ rest.flatMap (chunk1 Lk)) := hwh
      generalize split gsAl Lk c = all2 at *
      refine' indL (I := odI3 prog w p loose mg mb C D Lc pt2 Lk sg2 t3' t4' g0 a1 g1 C1 pt1 all (pre.length + 1) hG9.arnd a2 g2 C2 all2 (rest.flatMap (chunk1 Lk)) whole _) (P := fun rest2 s₀ s => Seg (model prog w) _ _ _ (rest2.map subChunk ++ rest.flatMap (chunk1 Lk)).length s₀ _ _ _ s) ?st2 ?ni2 all2 s₀ _ ?ba2
      case st2 =>
        intro it2 rest2 s₀ s ih2 hI2
        obtain ⟨pre2, cpre2, hall2, hwh2, S, hG1, hG2, hF, hg⟩ := hI2
        have hpl2 : pre2.length ≤ all2.length := by rw [hall2]; simp
        have hat2 : all2[pre2.length]? = some it2 := by rw [hall2]; simp
        refine seg_for ?_
        refine hG2.next hpl2 S.H AP2.safe AP2.af AP2.a16 ?_ ?_ (fun s11 st11 => ?_)
        · rfl
        · exact Nat.lt_of_le_of_lt (Nat.le_of_eq (m := dp + 1) rfl) (by omega)
        rw [hat2]
        intro v hv hG2'
        obtain ⟨t, b, tb, rfl, ht, hb, hst⟩ := hv
        refine owned_gen hG2'.gen ?_
        have S11 := S.safe2 st11 AP2.safe hG2.ns AP2.fC AP2.fD AP2.fL hC16
        have fr11 := hF.trans (st11.toFG AP2 hG2.ns)
        have hG1' := hG1.staysB S.H AP st11 n1 n2 n3 n4
        obtain ⟨u11, hn11⟩ := S11.ns
        have hg11 : g0 < s11.gens.size := Nat.lt_of_lt_of_le hg st11.gsz
        clear hG1 hG2 hF S st11 hg hat2
        obtain ⟨bt, c2⟩ := it2
        obtain ⟨ps, g, W, hps, F, N, hW16, X, T, M, hdone⟩ := ground S11.H hn11 hCk [(t, _), (pt2, _)] (List.forall_mem_cons.mpr ⟨⟨ht, hst⟩, List.forall_mem_cons.mpr ⟨⟨S11.hp2, hs2⟩, List.forall_mem_nil _⟩⟩) (List.forall_mem_cons.mpr ⟨nd_tup _, List.forall_mem_cons.mpr ⟨nd_tup _, List.forall_mem_nil _⟩⟩)
        simp only [List.cons_append, List.nil_append] at N
        cases bt
        all_goals walk_at "my steps"
        · refine sw_execs_cons (sw_stmt ?_)
          walk_at "my steps"
          rw [show (List.map subChunk ((false, c2) :: rest2) ++ rest.flatMap (chunk1 Lk)).length = (rest2.map subChunk ++ rest.flatMap (chunk1 Lk)).length + 1 from rfl]
          refine sw_execs_cons (sw_yield rfl rfl rfl rfl rfl ?_)
          walk_at "my steps"
          rename News _ _ _ _ => N12
          rename Fr _ _ _ _ => F12
          refine named (s := Shared.mk _ _ _ _ _) F12 N12 fun s12 e121 e122 F12 N12 => ?_
          obtain ⟨H12, st12⟩ := hdone s12 _ _ _ e121 e122 F12 N12 (by walk_at "my rest") (by walk_at "my mems") (by k_mem) hps
          have S12 := S11.stpC st12 H12 ⟨_, Ns_norm1 F12.ns rfl⟩ hDC hLC
          refine wpAny_mono (mk_qr ?_ ?_ ?_ H12 hb (.inr (.inr rfl)) (P := fun a => a ≠ Lc) (fun a ha => let ⟨_, o, _, _, e, _⟩ := S12.hL; ne_new ha e)) (fun v s13 hv => ?_) (fun _ _ x => x.elim)
          · rfl
          · exact Nat.lt_of_le_of_lt (Nat.add_le_add_right (Nat.le_of_eq (m := dp + 1) rfl) 10) (by omega)
          · first | exact (Nat.lt_of_le_of_lt (Nat.add_le_add_right (Nat.le_of_eq (m := un + 4) rfl) 50) (by omega)) | exact (Nat.lt_of_le_of_lt (Nat.add_le_add_right (Nat.le_of_eq (m := un + 5) rfl) 50) (by omega)) | exact (Nat.lt_of_le_of_lt (Nat.add_le_add_right (Nat.le_of_eq (m := un + 7) rfl) 50) (by omega))
          obtain ⟨hq, st13⟩ := hv
          have S13 := S12.stp st13 hCk
          have hG13 := (hG1'.staysB S11.H AP st12 AP.aC AP.fC AP.pC id).staysB H12 AP (st13.toB (Cs := NoA) (Gs := NoG)) id id id id
          have hG23 := (hG2'.staysB S11.H AP2 st12 AP2.aC AP2.fC AP2.pC id).staysB H12 AP2 (st13.toB (Cs := NoA) (Gs := NoG)) id id id id
          refine ⟨⟨⟨(4, c2), ?_, hq⟩, (fr11.trans (st12.toFC hn11 hLC)).trans st13.toF⟩, fun s14 hV => ?_⟩
          · exact idx_at (P := cpre2) (rest := rest2.map subChunk ++ rest.flatMap (chunk1 Lk)) hwh2
          · refine sw_execs_nil ?_
            refine seg_again rfl (ih2 s14 s14 ⟨pre2 ++ [(false, c2)], cpre2 ++ [(4, c2)], ?_, ?_, S13.odV hV hDC hLC, hG13.staysV AP hV, ?_, StpF.refl hV.1, ?_⟩)
            · rw [hall2]; simp
            · rw [hwh2]; simp [subChunk]
            · rw [List.length_append]; exact hG23.staysV AP2 hV
            · exact Nat.lt_trans AP.gg (hG13.staysV AP hV).glt
        · refine sw_execs_cons (sw_stmt ?_)
          walk_at "my steps"
          rw [show (List.map subChunk ((true, c2) :: rest2) ++ rest.flatMap (chunk1 Lk)).length = (rest2.map subChunk ++ rest.flatMap (chunk1 Lk)).length + 1 from rfl]
          refine sw_execs_cons (sw_yield rfl rfl rfl rfl rfl ?_)
          walk_at "my steps"
          rename News _ _ _ _ => N12
          rename Fr _ _ _ _ => F12
          refine named (s := Shared.mk _ _ _ _ _) F12 N12 fun s12 e121 e122 F12 N12 => ?_
          obtain ⟨H12, st12⟩ := hdone s12 _ _ _ e121 e122 F12 N12 (by walk_at "my rest") (by walk_at "my mems") (by k_mem) hps
          have S12 := S11.stpC st12 H12 ⟨_, Ns_norm1 F12.ns rfl⟩ hDC hLC
          refine wpAny_mono (mk_qr ?_ ?_ ?_ H12 hb (.inr (.inl rfl)) (P := fun a => a ≠ Lc) (fun a ha => let ⟨_, o, _, _, e, _⟩ := S12.hL; ne_new ha e)) (fun v s13 hv => ?_) (fun _ _ x => x.elim)
          · rfl
          · exact Nat.lt_of_le_of_lt (Nat.add_le_add_right (Nat.le_of_eq (m := dp + 1) rfl) 10) (by omega)
          · first | exact (Nat.lt_of_le_of_lt (Nat.add_le_add_right (Nat.le_of_eq (m := un + 4) rfl) 50) (by omega)) | exact (Nat.lt_of_le_of_lt (Nat.add_le_add_right (Nat.le_of_eq (m := un + 5) rfl) 50) (by omega)) | exact (Nat.lt_of_le_of_lt (Nat.add_le_add_right (Nat.le_of_eq (m := un + 7) rfl) 50) (by omega))
          obtain ⟨hq, st13⟩ := hv
          have S13 := S12.stp st13 hCk
          have hG13 := (hG1'.staysB S11.H AP st12 AP.aC AP.fC AP.pC id).staysB H12 AP (st13.toB (Cs := NoA) (Gs := NoG)) id id id id
          have hG23 := (hG2'.staysB S11.H AP2 st12 AP2.aC AP2.fC AP2.pC id).staysB H12 AP2 (st13.toB (Cs := NoA) (Gs := NoG)) id id id id
          refine ⟨⟨⟨(2, c2), ?_, hq⟩, (fr11.trans (st12.toFC hn11 hLC)).trans st13.toF⟩, fun s14 hV => ?_⟩
          · exact idx_at (P := cpre2) (rest := rest2.map subChunk ++ rest.flatMap (chunk1 Lk)) hwh2
          · refine sw_execs_nil ?_
            refine seg_again rfl (ih2 s14 s14 ⟨pre2 ++ [(true, c2)], cpre2 ++ [(2, c2)], ?_, ?_, S13.odV hV hDC hLC, hG13.staysV AP hV, ?_, StpF.refl hV.1, ?_⟩)
            · rw [hall2]; simp
            · rw [hwh2]; simp [subChunk]
            · rw [List.length_append]; exact hG23.staysV AP2 hV
            · exact Nat.lt_trans AP.gg (hG13.staysV AP hV).glt
      case ni2 =>
        intro s₀ s hI2
        obtain ⟨pre2, cpre2, hall2, hwh2, S, hG1, hG2, hF, hg⟩ := hI2
        refine seg_for ?_
        refine hG2.next (by rw [hall2]; simp) S.H AP2.safe AP2.af AP2.a16 ?_ ?_ (fun s11 st11 => ?_)
        · rfl
        · exact Nat.lt_of_le_of_lt (Nat.le_of_eq (m := dp + 1) rfl) (by omega)
        rw [show all2[pre2.length]? = none from by rw [hall2]; simp]
        refine seg_leaf (.ok .next) ?_
        rw [hk2]
        refine sw_execs_nil ?_
        refine seg_again rfl (ih s₀ s11 ⟨pre ++ [(false, c)], cpre2, ?_, ?_, S.safe2 st11 AP2.safe hG2.ns AP2.fC AP2.fD AP2.fL hC16, ?_, hF.trans (st11.toFG AP2 hG2.ns), Nat.lt_of_lt_of_le hg st11.gsz⟩)
        · rw [hall]; simp
        · rw [hwh2]; rfl
        · rw [List.length_append]; exact hG1.staysB S.H AP st11 n1 n2 n3 n4
      case ba2 => exact ⟨[], cpre, rfl, hwh0, S9, hG9, hSG9 _ (Eq.refl none) (Nat.lt_of_le_of_lt (Nat.add_le_add_right (Nat.le_of_eq (m := dp + 1) rfl) 40) (by omega)) (by first | exact (Nat.lt_of_le_of_lt (Nat.add_le_add_right (Nat.le_of_eq (m := un + 4) rfl) 400) (by omega)) | exact (Nat.lt_of_le_of_lt (Nat.add_le_add_right (Nat.le_of_eq (m := un + 7) rfl) 400) (by omega)) | exact (Nat.lt_of_le_of_lt (Nat.add_le_add_right (Nat.le_of_eq (m := un + 8) rfl) 400) (by omega))), fr9, hg9⟩
    · refine sw_execs_cons (sw_if ?_)
      walk_at "my steps"
      refine sw_tt rfl ?_
      rw [show (List.flatMap (chunk1 Lk) ((true, c) :: rest)).length = (rest.flatMap (chunk1 Lk)).length + 1 from rfl]
      refine sw_execs_cons (sw_yield rfl rfl rfl rfl rfl ?_)
      walk_at "my steps"
      rename News _ _ _ _ => N8
      rename Fr _ _ _ _ => F8
      refine named (s := Shared.mk _ _ _ _ _) F8 N8 fun s8 e81 e82 F8 N8 => ?_
      obtain ⟨H8, st8⟩ := hdone s8 _ _ _ e81 e82 F8 N8 (by walk_at "my rest") (by walk_at "my mems") (by k_mem) hps
      have S8 := S7.stpC st8 H8 ⟨_, Ns_norm1 F8.ns rfl⟩ hDC hLC
      refine wpAny_mono (mk_qr ?_ ?_ ?_ H8 hb (.inl rfl) (P := fun a => a ≠ Lc) (fun a ha => let ⟨_, o, _, _, e, _⟩ := S8.hL; ne_new ha e)) (fun v s9 hv => ?_) (fun _ _ x => x.elim)
      · rfl
      · exact Nat.lt_of_le_of_lt (Nat.add_le_add_right (Nat.le_of_eq (m := dp + 1) rfl) 10) (by omega)
      · exact Nat.lt_of_le_of_lt (Nat.add_le_add_right (Nat.le_of_eq (m := un + 4) rfl) 50) (by omega)
      obtain ⟨hq, st9⟩ := hv
      have S9 := S8.stp st9 hCk
      have hG9 := (hG7.staysB S7.H AP st8 AP.aC AP.fC AP.pC id).staysB H8 AP (st9.toB (Cs := NoA) (Gs := NoG)) id id id id
      have hg9 : g0 < s9.gens.size := Nat.lt_of_lt_of_le (Nat.lt_of_lt_of_le hg7 st8.gsz) st9.gsz
      refine ⟨⟨⟨(1, c), ?_, hq⟩, (fr7.trans (st8.toFC hn7 hLC)).trans st9.toF⟩, fun s10 hV => ?_⟩
      · exact idx_at (P := cpre) (rest := rest.flatMap (chunk1 Lk)) hwh
      · refine sw_execs_nil ?_
        refine seg_again rfl (ih s10 s10 ⟨pre ++ [(true, c)], cpre ++ [(1, c)], ?_, ?_, S9.odV hV hDC hLC, ?_, StpF.refl hV.1, ?_⟩)
        · rw [hall]; simp
        · rw [hwh]; simp [chunk1]
        · rw [List.length_append]; exact hG9.staysV AP hV
        · exact Nat.lt_trans AP.gg (hG9.staysV AP hV).glt
  case ni =>
    intro s₀ s hI
    obtain ⟨pre, cpre, hall, hwh, S, hG, hF, hg⟩ := hI
    refine seg_for ?_
    refine hG.next (by rw [hall]; simp) S.H AP.safe AP.af AP.a16 ?_ ?_ (fun s7 st7 => ?_)
    · rfl
    · exact Nat.lt_of_le_of_lt (Nat.le_of_eq (m := dp + 1) rfl) (by omega)
    rw [show all[pre.length]? = none from by rw [hall]; simp]
    refine seg_leaf (.ok .next) ?_
    rw [hk1]
    refine sw_execs_nil ?_
    exact seg_end (.ok (.ret .none)) ⟨rfl, rfl, hF.trans (st7.toFG AP hG.ns)⟩
  case ba => exact ⟨[], [], rfl, hw0, S6, hSG6 _ (Eq.refl none) (Nat.lt_of_le_of_lt (Nat.add_le_add_right (Nat.le_of_eq (m := dp + 1) rfl) 40) (by omega)) (Nat.lt_of_le_of_lt (Nat.add_le_add_right (Nat.le_of_eq (m := un + 4) rfl) 400) (by omega)), fr6, Nat.lt_of_lt_of_le hg5 st6.gsz⟩
end Mine
end

section
open PySem PySem.W PyProof.Rows PySem.Calls PyProof.Rows.LCg
set_option maxRecDepth 100000
namespace Mine
section
variable {prog : Program} {w : World} {p : Program} {loose : List Str} {mg mb : Str → Option Value}

/-- a list comprehension of one clause and no test -/
theorem comp_rule {elt target iter : PySem.Expr} {scope : Scope} {cl : List (Str × Addr)} {pos : Pos} {env : Env} {A : Around} {E : Value → Shared → Prop} {s : Shared} {Q : Value → Shared → Prop}
    (hclos : closureFor scope env = pure cl) (hcell : ∀ y ∈ scope.names, y.2 ≠ .cell) (hkind : scope.kind = .function)
    (hnames : ∀ y ∈ scope.names, y.2 = .local → scope.names.lookup y.1 = some .local)
    (hs : ∀ x, foldedSetIterable iter env x = pure x)
    (h : wpAny (model prog w) A (eval iter env) (fun x s₁ => wpAny (model prog w) A (pyIter x) (fun it s₂ =>
      ∀ D C s₄, D = s₂.heap.objs.size → C = D + 1 → s₄.gens = s₂.gens → s₄.os = s₂.os → (∀ b o, s₂.heap.get? b = some o → s₄.heap.get? b = some o) → s₄.heap.get? D = some (lst []) → s₄.heap.Ns C (fun _ => none) →
       (∀ (E' : Value → Shared → Prop) (Q' : Value → Shared → Prop), Q' it s₄ → wpAny (model prog w) A (pyIter it) Q' E' s₄) ∧
       codeAny (model prog w) A (.compLoop (.ListComp elt [⟨target, iter, [], 0⟩] scope pos) 0 it (.ref D) (compEnvC scope cl C env)) (compPost (model prog w) A E none Q (.ref D) C) s₄) E s₁) E s) :
    wpAny (model prog w) A (eval (.ListComp elt [⟨target, iter, [], 0⟩] scope pos) env) Q E s := by
  rw [eval_ListComp]
  refine wpAny_comprehension_free (use := none) rfl hs hclos hkind hnames (wpAny_mono h (fun x s₁ h₁ => wpAny_mono h₁ (fun it s₂ h₂ => ?_) fun _ _ e => e) fun _ _ e => e)
  refine wpAny_newObj_type (wpAny_newFunctionEnv hcell (by intro y hy; simp at hy) (fun h₁ hns₁ hsb₁ => ?_) hkind)
  dsimp only at hns₁ hsb₁ ⊢
  generalize hH2 : s₂.heap.push { cls := .type "list", dict := none, data := .seq ([] : List Value).toArray } = H2 at hns₁ hsb₁ ⊢
  have hC : H2.objs.size = s₂.heap.objs.size + 1 := by rw [← hH2, Heap.size_push]
  have hDC : s₂.heap.objs.size ≠ H2.objs.size := by rw [hC]; exact Nat.ne_of_lt (Nat.lt_succ_self _)
  have below : ∀ b, b < s₂.heap.objs.size → b ≠ H2.objs.size := fun b hb => by rw [hC]; exact Nat.ne_of_lt (Nat.lt_succ_of_lt hb)
  have old : ∀ b o, s₂.heap.get? b = some o → h₁.get? b = some o := fun b o e => hsb₁.extBut b o (below b (Heap.lt_size e)) (Heap.get?_push_of_some _ (hH2 ▸ Heap.get?_push_of_some _ e))
  have hacc : h₁.get? s₂.heap.objs.size = some (lst []) := hsb₁.extBut _ _ hDC (Heap.get?_push_of_some _ (hH2 ▸ Heap.get?_push_size _ rfl))
  obtain ⟨q1, q2⟩ := h₂ s₂.heap.objs.size H2.objs.size { s₂ with heap := h₁, toks := s₂.toks + ([] : List (Str × Value)).length } rfl hC rfl rfl old hacc hns₁
  exact codeAny_compStart_list q2 (q1 _ _ q2)

/-- what holds of all that stood before a generator's frame -/
structure StpL (C g : Nat) (s s' : Shared) : Prop where
  os : s'.os = s.os
  gsz : s.gens.size ≤ s'.gens.size
  gk : ∀ i, i < s.gens.size → i < g → s'.gens[i]? = s.gens[i]?
  bare : AllBare s.gens → AllBare s'.gens
  keep : ∀ b o, b ≠ 16 → b < C → s.heap.get? b = some o → s'.heap.get? b = some o
  tab : ∃ ps, s'.heap.get? 16 = some (tabO ps) ∧ TabOk ps
theorem StpL.trans {C g : Nat} {a b c : Shared} (x : StpL C g a b) (y : StpL C g b c) : StpL C g a c :=
  ⟨y.os.trans x.os, Nat.le_trans x.gsz y.gsz, fun i h hg => (y.gk i (Nat.lt_of_lt_of_le h x.gsz) hg).trans (x.gk i h hg), fun q => y.bare (x.bare q), fun b o h1 h2 e => y.keep b o h1 h2 (x.keep b o h1 h2 e), y.tab⟩
theorem StpF.toL {C g Lc : Nat} {s s' : Shared} (x : StpF C g Lc s s') : StpL C g s s' := ⟨x.os, x.gsz, x.gk, x.bare, fun b o h1 h2 e => x.keep b o h1 (.inl h2) e, x.tab⟩
theorem StpB.toL {Cs : Addr → Prop} {C g : Nat} {s s' : Shared} (x : StpB Cs NoG s s') (h : ∀ b, Cs b → ¬ b < C) : StpL C g s s' := ⟨x.os, x.gsz, fun i h1 _ => x.gk i h1 id, x.bare, fun b o h1 h2 e => x.keep b o h1 (fun q => h b q h2) e, x.tab⟩

theorem AboveK.mono {n C : Addr} (x : AboveK w n) (h : n ≤ C) : AboveK w C := ⟨fun a o e => Nat.lt_of_lt_of_le (x.k a o e) h, Nat.lt_of_lt_of_le x.b h, Nat.lt_of_lt_of_le x.m h, Nat.lt_of_lt_of_le x.t h⟩

/-- the ground, where the frame's apartness from the named objects is given -/
theorem ground' {C : Addr} {m : Str → Option Value} {s : Shared} (H : Hp w p loose mg mb s.heap) (hn : s.heap.Ns C m) (hC : AboveK w C) (ex0 : List (Addr × Obj)) (he : Held w s.heap ex0) (hnd : ∀ q ∈ ex0, q.1 ≠ C) :
    ∃ ps g W, TabOk ps ∧ Fr g C s.heap m ∧ News g C s.heap ((16, tabO ps) :: (ex0 ++ W)) ∧ (hd.heap_39 w.params).In g ∧ TopRead p loose mg mb g ∧ (∃ ob, BMod g mainGlobals mg 4 ob) ∧
      (∀ (s' : Shared) m' news' ps', s'.gens = s.gens → s'.os = s.os → Fr g C s'.heap m' → News g C s'.heap news' → (∀ q ∈ W, q ∈ news') → (∀ q ∈ ex0, q ∈ news') → (16, tabO ps') ∈ news' → TabOk ps' → Hp w p loose mg mb s'.heap ∧ StpB (OnlyC C) NoG s s') := by
  obtain ⟨ps, hps1, hps2⟩ := H.tab
  have hex : Held w s.heap ((16, tabO ps) :: ex0) := List.forall_mem_cons.mpr ⟨⟨hps1, safe16 w⟩, he⟩
  obtain ⟨g, W, F, N, hW16, X, T, M, hkeep⟩ := enterG H hn hC ((16, tabO ps) :: ex0) hex (List.forall_mem_cons.mpr ⟨Nat.ne_of_lt hC.t, hnd⟩)
  refine ⟨ps, g, W, hps2, F, N, X, T, M, fun s' m' news' ps' e1 e2 F' N' hW h0 h16 hok => ⟨hp_of F' N' X T M h16 hok, e2, by rw [e1]; exact Nat.le_refl _, fun _ _ _ => by rw [e1], fun x => by rw [e1]; exact x, fun b o h1 h2 e => ?_, ps', (N' _ h16).1, hok⟩⟩
  by_cases q : b ∈ ((16, tabO ps) :: ex0).map (·.1)
  · obtain ⟨x, hx, rfl⟩ := List.mem_map.mp q
    rcases List.mem_cons.mp hx with rfl | hx
    · exact absurd rfl h1
    · have := (N' _ (h0 x hx)).1
      rw [(he x hx).1] at e; cases e; exact this
  · refine hkeep s'.heap m' news' F' (fun q hq => ?_) b o h2 q e
    rcases List.mem_append.mp hq with hq | hq
    · exact N' q hq
    · exact N' q (hW q hq)

/-- a chunk as the law holds it: the tuple of mode and octets -/
def ChV (w : World) (c : Int × List Int) (v : Value) (h : Heap) : Prop := ∃ t b tm tb, v = .ref t ∧ h.get? t = some (tupO [.int c.1 tm, .bytes b tb]) ∧ KBw.bInts b = c.2 ∧ Safe w t
def ListAt (w : World) (cs : List (Int × List Int)) (D : Addr) (h : Heap) : Prop := ∃ vals, h.get? D = some (lst vals) ∧ Paired (fun c v => ChV w c v h) cs vals
theorem Paired.mono' {α β : Type} {F G : α → β → Prop} (hm : ∀ a b, F a b → G a b) : ∀ {l₁ : List α} {l₂ : List β}, Paired F l₁ l₂ → Paired G l₁ l₂
  | _, _, .nil => .nil
  | _, _, .cons h t => .cons (hm _ _ h) (Paired.mono' hm t)
theorem ChV.keeps {c : Int × List Int} {v : Value} {h h' : Heap} (x : ChV w c v h) (hk : ∀ t o, o.cls = .type "tuple" → NotDict o → h.get? t = some o → h'.get? t = some o) : ChV w c v h' := by
  obtain ⟨t, b, tm, tb, rfl, ht, hb, hs⟩ := x
  exact ⟨t, b, tm, tb, rfl, hk _ _ rfl (nd_tup _) ht, hb, hs⟩
theorem nd_lst (ys : List Value) : NotDict (lst ys) := fun _ _ q => by cases q
theorem tup_ne16 {h : Heap} {t : Addr} {o : Obj} (H : Hp w p loose mg mb h) (e : h.get? t = some o) (hc : o.cls = .type "tuple") : t ≠ 16 := ne16_of H e (by rw [hc]; intro q; cases q)
theorem tup_neD {h : Heap} {t D : Addr} {o o' : Obj} (e : h.get? t = some o) (hc : o.cls = .type "tuple") (e' : h.get? D = some o') (hc' : o'.cls = .type "list") : t ≠ D := by
  rintro rfl; rw [e] at e'; cases e'; rw [hc] at hc'; injection hc' with q; exact absurd q (by decide)
theorem Stp.of_ext {s s' : Shared} (e : Ext s.heap s'.heap) (h1 : s'.gens = s.gens) (h2 : s'.os = s.os) : Stp s s' := ⟨⟨h2, by rw [h1]; exact Nat.le_refl _, fun _ _ => by rw [h1], fun x => by rw [h1]; exact x⟩, e⟩
theorem StpB.of_same {D : Addr} {s s' : Shared} (H : Hp w p loose mg mb s.heap) (x : Heap.SameBut D s.heap s'.heap) (hD : D ≠ 16) (e1 : s'.gens = s.gens) (e2 : s'.os = s.os) : StpB (OnlyC D) NoG s s' :=
  ⟨e2, by rw [e1]; exact Nat.le_refl _, fun _ _ _ => by rw [e1], fun x => by rw [e1]; exact x, fun b o _ h2 e => x.extBut b o h2 e, let ⟨ps, e, hok⟩ := H.tab; ⟨ps, x.extBut _ _ (Ne.symm hD) e, hok⟩⟩
theorem same_state {M : Model} {A : Around} {α : Type} {t : Sem α} {Q : α → Shared → Prop} {E : Value → Shared → Prop} {s₀ s : Shared} {C : Addr} {m : Str → Option Value} (hn : s.heap.Ns C m) (hs : Heap.SameBut C s₀.heap s.heap) (e1 : s.gens = s₀.gens) (e2 : s.os = s₀.os)
    (h : ∀ s' : Shared, s'.heap.Ns C m → Heap.SameBut C s₀.heap s'.heap → s'.gens = s₀.gens → s'.os = s₀.os → wpAny M A t Q E s') : wpAny M A t Q E s := h s hn hs e1 e2
end
end Mine
end

section
open PySem PySem.W PyProof.Rows PySem.Calls PyProof.Rows.LCg
set_option maxRecDepth 100000
namespace Mine
local macro_rules | `(tactic| walk_at "my fill") => `(tactic| (have kf : PySem.Challenge.rw_ez0306_01 = PySem.Challenge.rw_ez0306_01 ∧ hd.heap_39 = hd.heap_39 := by k_fill; exact ⟨rfl, rfl⟩))
local macro_rules | `(tactic| walk_at "my guard") => `(tactic| ((fail_if_success (with_reducible show wpAny _ _ (pyIter _) _ _ _)); (fail_if_success (with_reducible show wpAny _ _ (eval (PySem.Expr.ListComp _ _ _ _) _) _ _ _)); (fail_if_success (with_reducible show wpAny _ _ (exec (Stmt.While _ _ _ _) _) _ _ _)); (fail_if_success (with_reducible show wpAny _ _ (call (Value.builtin "list.append") _ _) _ _ _)); (fail_if_success (with_reducible show wpAny _ _ (call (Value.ref _) _ _) _ _ _)); (fail_if_success (with_reducible show _ → _))))
local macro_rules | `(tactic| walk_at "my steps") => `(tactic| repeat' (first | (k_unfold; (try dsimp only)) | (walk_at "my guard"; walk1) | (walk_at "my guard"; dsimp only; walk_at "my guard"; walk1) | fail "no step"))
local macro_rules | `(tactic| walk_at "my mems") => `(tactic| (repeat (first | exact List.forall_mem_nil _ | refine List.forall_mem_cons.mpr ⟨by k_mem, ?_⟩)))
local macro_rules | `(tactic| walk_at "my rest") => `(tactic| (intro q hq; repeat (first | exact hq | apply List.Mem.tail)))

set_option maxHeartbeats 8000000 in
theorem law_chunks {prog : Program} {w : World} {p : Program} {loose : List Str} {mg mb : Str → Option Value} {A : Around} {s : Shared} {d : Array UInt8} {t1 t2 : Tok} {k : Nat} {ks : List Int}
    (hA : A.handled = none) (hroom : A.depth + 80 < recursionLimit) (hun : A.units + 600 < cLine)
    (H : Hp w p loose mg mb s.heap) (hks : KBw.bInts d = ks) (hl2 : ks.length ≤ 64) (hnl : ∀ c ∈ ks, c ≠ 10) (hk0 : 0 < k) (hk1 : k < 10) :
    wpAny (model prog w) A (call (.ref 104) [.bytes d t1, .int (k : Int) t2]) (fun v s' => ∃ D, v = .ref D ∧ ListAt w (chunksOf k ks) D s'.heap ∧ s.heap.get? D = none ∧ Safe w D ∧ Stp s s') (fun _ _ => False) s := by
  walk_at "my fill"
  obtain ⟨hdl, dp, fr, gd, un⟩ := A
  have hq : hdl = none := hA
  subst hq
  have hd2 : dp + 80 < recursionLimit := hroom
  have hu2 : un + 600 < cLine := hun
  clear hroom hun hA
  obtain ⟨ps, hps1, hps2⟩ := H.tab
  have hex : Held w s.heap [(16, tabO ps)] := List.forall_mem_singleton.mpr ⟨hps1, safe16 w⟩
  refine' enter (w := w) H [(16, tabO ps)] hex ?k1 ?k2 (show dp < recursionLimit by omega) ?k3 ?k4 ?k5 ?k6 ?k7 ?k8 ?k0
  case k1 => k_is
  case k2 => k_is
  case k3 => exact BindsTo.of_eq rfl
  case k4 => exact locs rfl
  case k5 => decide
  case k6 => rfl
  case k7 => rfl
  case k8 => rfl
  intro g L h₁ hg hL F N X T M
  walk_at "my steps"
  refine comp_rule (cl := []) rfl (by decide) rfl (by decide) (fun _ => rfl) ?_
  walk_at "my steps"
  rename News _ _ _ _ => N1
  rename Fr _ _ _ _ => F1
  refine named (s := Shared.mk _ _ _ _ _) F1 N1 fun s1 e11 e12 F1 N1 => ?_
  have H1 : Hp w p loose mg mb s1.heap := hp_of F1 N1 X T M (by k_mem) hps2
  have st1 : Stp s s1 := Stp.of_ext (by subst hg; exact ext_of F1 N1 (fun q hq => (hex q hq).1) (fun q hq _ => hq) (by k_mem) hps2) e11 e12
  clear F1 N1
  refine wpAny_mono (call_odc ?_ H1 hks hl2 hnl hk0 hk1) (fun v s2 hv => ?_) (fun _ _ x => x.elim)
  · exact Nat.lt_of_le_of_lt (Nat.le_of_eq (m := dp + 1) rfl) (by omega)
  obtain ⟨a, Cg, rfl, st2, ha, hCg, hCg2, hgs2, hCk, hOG⟩ := hv
  refine wpAny_pyIter_gen (hOG (Cg + 1) (Cg + 1) ⟨none, 0, fr, gd, 0⟩ (Nat.succ_ne_self _) (Nat.succ_ne_self _) rfl room1.1 room1.2).gen ?_
  intro D C s4 hD hC eg eo hk hD4 hC4
  have H2 := H1.ext st2.ext
  have hgen : s2.heap.IsGen a s1.gens.size := (hOG (Cg + 1) (Cg + 1) ⟨none, 0, fr, gd, 0⟩ (Nat.succ_ne_self _) (Nat.succ_ne_self _) rfl room1.1 room1.2).gen
  refine ⟨fun E' Q' hQ => wpAny_pyIter_gen (hgen.keeps hk) hQ, ?_⟩
  have ha2 : a < s2.heap.objs.size := let ⟨o, _, _, e, _⟩ := hgen; Heap.lt_size e
  have lD : Cg < D := hD ▸ hCg2
  have lC : D < C := hC ▸ Nat.lt_succ_self _
  have aD : a ≠ D := hD ▸ Nat.ne_of_lt ha2
  have aC : a ≠ C := Nat.ne_of_lt (Nat.lt_trans (hD ▸ ha2 : a < D) lC)
  have a16 : a ≠ 16 := let ⟨ps, e, _⟩ := H1.tab; ne_new ha e
  have D16 : D ≠ 16 := Nat.ne_of_gt (Nat.lt_trans hCk.t lD)
  have C16 : C ≠ 16 := Nat.ne_of_gt (Nat.lt_trans hCk.t (Nat.lt_trans lD lC))
  have CkC : AboveK w C := hCk.mono (Nat.le_of_lt (Nat.lt_trans lD lC))
  have DC : D ≠ C := Nat.ne_of_lt lC
  have hsD : Safe w D := hD ▸ (AboveK.of H2).safe
  have hsC : Safe w C := CkC.safe
  have H4 : Hp w p loose mg mb s4.heap := H2.ext ⟨fun b o _ e => hk b o e, let ⟨ps, e, hok⟩ := H2.tab; ⟨ps, hk _ _ e, hok⟩⟩
  have st24 : Stp s2 s4 := Stp.of_ext ⟨fun b o _ e => hk b o e, let ⟨ps, e, hok⟩ := H2.tab; ⟨ps, hk _ _ e, hok⟩⟩ eg eo
  have st4 : Stp s s4 := (st1.trans st2).trans st24
  have hlow : ∀ b o, s.heap.get? b = some o → b ≠ 16 → b < Cg := fun b o e h => Nat.lt_of_lt_of_le (Heap.lt_size (st1.ext.keep b o h e)) (Nat.le_of_not_lt hCg)
  have hDn : s.heap.get? D = none := by
    cases q : s.heap.get? D with
    | none => rfl
    | some o => exact absurd (Nat.lt_trans (hlow D o q D16) lD) (Nat.lt_irrefl _)
  have gEq : s1.gens.size = s.gens.size := by rw [e11]
  have hcl : (chunksOf k ks).length ≤ 64 := Nat.le_trans (chunksOf_len hk0 ks) hl2
  generalize hcs : chunksOf k ks = cs at *
  generalize hA1 : Around.deeper (Around.mk none dp fr gd un) _ = A1
  have hA1h : A1.handled = none := by rw [← hA1]; rfl
  have hA1d : A1.depth + 60 < recursionLimit := by rw [← hA1]; exact Nat.lt_of_le_of_lt (Nat.add_le_add_right (Nat.le_of_eq (m := dp + 1) rfl) 60) (by omega)
  have hA1u : A1.units + 500 < cLine := by rw [← hA1]; first | exact Nat.lt_of_le_of_lt (Nat.add_le_add_right (Nat.le_of_eq (m := un + 3) rfl) 500) (by omega) | exact Nat.lt_of_le_of_lt (Nat.add_le_add_right (Nat.le_of_eq (m := un + 2) rfl) 500) (by omega) | exact Nat.lt_of_le_of_lt (Nat.add_le_add_right (Nat.le_of_eq (m := un + 0) rfl) 500) (by omega)
  refine kcp_loop (fun n s => ∃ j ys, n = cs.length + 1 - j ∧ j ≤ cs.length ∧ Hp w p loose mg mb s.heap ∧ s.heap.get? D = some (lst ys) ∧ ys.length = j ∧ Paired (fun c v => ChV w c v s.heap) (cs.take j) ys ∧ (∃ m, s.heap.Ns C m) ∧ OdGen prog w p loose mg mb A1 a s1.gens.size Cg D C cs j s ∧ StpL Cg s1.gens.size s4 s) ?tn (cs.length + 1)
    ⟨0, [], rfl, Nat.zero_le _, H4, hD4, rfl, .nil, ⟨_, hC4⟩, (hOG D C A1 (Nat.ne_of_gt lD) (Nat.ne_of_gt (Nat.lt_trans lD lC)) hA1h hA1d hA1u).stays (fun b o _ _ e => hk b o e) aD aC eg, (StpB.toL (Stp.toB (Cs := NoA) (Stp.of_ext H4.refl rfl rfl)) (fun b hb => hb.elim))⟩
  rintro n s5 ⟨j, ys, rfl, hj, H5, hD5, hyl, hP, ⟨m5, hC5⟩, hG, hL5⟩
  refine hG.next hj H5 hCk a16 hA1h (by omega) ⟨_, hD5, rfl⟩ (fun o e => by rw [hD5] at e; cases e; exact nd_lst _) ⟨m5, hC5⟩ D16 C16 (fun s6 st6 => ?_)
  have H6 := H5.stpF st6 hCk
  have hD6 := st6.keep D _ D16 (.inr (.inr (nd_lst _))) hD5
  have hC6 : s6.heap.Ns C m5 := hC5.at' fun o e => st6.keep _ o C16 (.inr (.inl rfl)) e
  have hP6 := Paired.mono' (fun c v (x : ChV w c v s5.heap) => x.keeps fun t o h1 h2 e => st6.keep t o (tup_ne16 H5 e h1) (.inr (.inr h2)) e) hP
  have hL6 := hL5.trans st6.toL
  clear hP hC5 hD5 hG hL5 st6 H5
  by_cases hlt : j < cs.length
  · obtain ⟨c, hc⟩ : ∃ c, cs[j]? = some c := ⟨_, List.getElem?_eq_getElem hlt⟩
    rw [hc]
    intro v hv hG6
    refine wpAny_pure ?_
    obtain ⟨x, dx, n, h1, h2, k1, k2, tm, b, tb, rfl, hx, hdx, hb, hsx, hsdx, hxC, hdxC⟩ := hv
    refine wpAny_assign_Name (wpAny_storeName_local (lookup_relabel_local rfl) hC6 (fun h7 hn7 hs7 => ?_) rfl)
    refine same_state (s₀ := s6) hn7 hs7 rfl rfl fun s7 hn7 hs7 e71 e72 => ?_
    have st7 := StpB.of_same H6 hs7 C16 e71 e72
    have H7 := H6.stpB st7 (fun b hb => hb ▸ hsC)
    have hx7 := hs7.extBut _ _ hxC hx
    have hdx7 := hs7.extBut _ _ hdxC hdx
    have hD7 := hs7.extBut _ _ DC hD6
    obtain ⟨ps6, g6, W6, hps6, F6, N6, X6, T6, M6, hdone⟩ := ground' H7 hn7 CkC [(x, _), (dx, _), (D, _)] (List.forall_mem_cons.mpr ⟨⟨hx7, hsx⟩, List.forall_mem_cons.mpr ⟨⟨hdx7, hsdx⟩, List.forall_mem_cons.mpr ⟨⟨hD7, hsD⟩, List.forall_mem_nil _⟩⟩⟩) (List.forall_mem_cons.mpr ⟨hxC, List.forall_mem_cons.mpr ⟨hdxC, List.forall_mem_cons.mpr ⟨DC, List.forall_mem_nil _⟩⟩⟩)
    simp only [List.cons_append, List.nil_append] at N6
    have h716 := (N6 (16, tabO ps6) (.head _)).1
    subst hA1
    walk_at "my steps"
    all_goals (first | exact (0 : Addr) | exact (Str.ofString "" : Str) | exact Value.none | exact ([] : List (Str × Addr)) | skip)
    rename News _ _ _ _ => N8
    rename Fr _ _ _ _ => F8
    refine named (s := Shared.mk _ _ _ _ _) F8 N8 fun s8 e81 e82 F8 N8 => ?_
    obtain ⟨H8, st8⟩ := hdone s8 _ _ _ e81 e82 F8 N8 (by walk_at "my rest") (by walk_at "my mems") (by k_mem) hps6
    have hD8 := News.get N8 (show (D, lst ys) ∈ _ by k_mem)
    have h816 := News.get N8 (show (16, tabO ps6) ∈ _ by k_mem)
    have hT8 := News.get N8 (List.Mem.head _)
    have hTs := safe_of N8 X6 T6 M6 (List.Mem.head _)
    refine append_at (hsz := by rw [List.size_toArray, hyl]; exact Nat.le_trans hj (Nat.le_trans hcl (by decide))) hD8 fun h9 hs9 hD9 => ?_
    have st7' : StpB (OnlyC C) NoG s6 s7 := st7
    have hs7' : Heap.SameBut C s6.heap s7.heap := hs7
    have st9 : StpB (OnlyC D) NoG s8 { s8 with heap := h9 } := StpB.of_same H8 hs9 D16 rfl rfl
    have kk : ∀ b o, b ≠ 16 → b ≠ D → b ≠ C → s6.heap.get? b = some o → h9.get? b = some o := fun b o q1 q2 q3 e => st9.keep b o q1 q2 (st8.keep b o q1 q3 (st7'.keep b o q1 q3 e))
    refine ⟨cs.length + 1 - (j + 1), by omega, j + 1, _, rfl, hlt, H8.stpB st9 (fun b hb => hb ▸ hsD), hD9.trans (congrArg some (lst_snoc ys _)), by rw [List.length_append, hyl]; rfl, ?_, ⟨_, F8.ns.sameBut hs9 (Ne.symm DC)⟩, hG6.stays (fun b o q1 q2 e => ?_) aD aC (e81.trans e71), ?_⟩
    · rw [List.take_add_one, hc]
      refine Paired.snoc (Paired.mono' (fun c v (x : ChV w c v s6.heap) => ?_) hP6) ⟨_, b, tm, tb, rfl, hs9.extBut _ _ (tup_neD hT8 rfl hD8 rfl) hT8, hb, hTs⟩
      obtain ⟨t, b, tm, tb, rfl, ht, hb, hs⟩ := x
      exact ⟨t, b, tm, tb, rfl, kk _ _ (tup_ne16 H6 ht rfl) (tup_neD ht rfl hD6 rfl) (ns_ne hC6 ht (nd_tup _)) ht, hb, hs⟩
    · by_cases q : b = 16
      · subst q
        have e7 := hs7'.extBut _ _ (Ne.symm C16) e
        have : s7.heap.get? 16 = some (tabO ps6) := h716
        rw [e7] at this; cases this
        exact hs9.extBut _ _ (Ne.symm D16) h816
      · exact kk b o q q1 q2 e
    · exact ((hL6.trans (st7'.toL (fun b hb => by cases hb; exact Nat.lt_asymm (Nat.lt_trans lD lC)))).trans (st8.toL (fun b hb => by cases hb; exact Nat.lt_asymm (Nat.lt_trans lD lC)))).trans (st9.toL (fun b hb => by cases hb; exact Nat.lt_asymm lD))
  · have hje : j = cs.length := by omega
    rw [show cs[j]? = none from List.getElem?_eq_none (by omega)]
    refine ⟨m5, hC6, fun h' hs' => ?_⟩
    refine ⟨D, rfl, ⟨ys, hs'.extBut _ _ DC hD6, ?_⟩, hDn, hsD, ?_⟩
    · rw [hje, List.take_length] at hP6
      refine Paired.mono' (fun c v (x : ChV w c v s6.heap) => ?_) hP6
      obtain ⟨t, b, tm, tb, rfl, ht, hb, hs⟩ := x
      exact ⟨t, b, tm, tb, rfl, hs'.extBut _ _ (ns_ne hC6 ht (nd_tup _)) ht, hb, hs⟩
    · have stX : StpB (OnlyC C) NoG s6 { s6 with heap := h' } := StpB.of_same H6 hs' C16 rfl rfl
      have lX := hL6.trans (stX.toL (fun b hb => by cases hb; exact Nat.lt_asymm (Nat.lt_trans lD lC)))
      refine ⟨⟨lX.os.trans st4.os, Nat.le_trans st4.gsz lX.gsz, fun i hi => (lX.gk i (Nat.lt_of_lt_of_le hi st4.gsz) (by rw [gEq]; exact hi)).trans (st4.gk i hi), fun x => lX.bare (st4.bare x)⟩, ⟨fun b o q e => lX.keep b o q (hlow b o e q) (st4.ext.keep b o q e), lX.tab⟩⟩
end Mine
end

section
open PySem PySem.W PyProof.Rows PySem.Calls
namespace Mine

theorem runL_take (gs : List Int) : ∀ (ks : List Int) (n : Nat), runL gs (ks.take n) ≤ runL gs ks
  | [], n => by simp
  | c :: r, 0 => by simp [runL]
  | c :: r, n + 1 => by
    rw [List.take_succ_cons]; unfold runL
    split
    · have := runL_take gs r n; omega
    · exact Nat.le_refl _
theorem runL_all {gs : List Int} : ∀ {ks : List Int}, (∀ c ∈ ks, c ∈ gs) → runL gs ks = ks.length
  | [], _ => rfl
  | c :: r, h => by
    unfold runL
    rw [if_pos (h c (.head _)), runL_all fun x hx => h x (.tail _ hx)]; rfl
theorem runL_pre (gs : List Int) : ∀ (ks : List Int), ∀ c ∈ ks.take (runL gs ks), c ∈ gs
  | [], c, h => by simp at h
  | c :: r, x, h => by
    unfold runL at h
    split at h
    · rename_i hc
      rw [List.take_succ_cons] at h
      rcases List.mem_cons.mp h with rfl | h
      · exact hc
      · exact runL_pre gs r x h
    · simp at h
theorem runL_stop (gs : List Int) : ∀ (ks : List Int) (c : Int) (r : List Int), ks.drop (runL gs ks) = c :: r → c ∉ gs
  | [], c, r, h => by simp at h
  | x :: t, c, r, h => by
    unfold runL at h
    split at h
    · rw [List.drop_succ_cons] at h; exact runL_stop gs t c r h
    · rename_i hx
      rw [List.drop_zero] at h; cases h; exact hx
theorem runL_app {gs : List Int} {x : Int} (hx : x ∉ gs) (r : List Int) : ∀ l : List Int, runL gs (l ++ x :: r) = runL gs l
  | [] => by
    rw [List.nil_append]
    unfold runL
    rw [if_neg hx]
  | c :: l => by
    rw [List.cons_append]; unfold runL
    rw [runL_app hx r l]

def noRun (gs : List Int) (k : Nat) (ks : List Int) : Prop := ∀ j, runL gs (ks.drop j) < k
theorem noRun.drop {gs : List Int} {k : Nat} {ks : List Int} (h : noRun gs k ks) (i : Nat) : noRun gs k (ks.drop i) := fun j => by rw [List.drop_drop]; exact h _
theorem noRun.take {gs : List Int} {k : Nat} {ks : List Int} (h : noRun gs k ks) (n : Nat) : noRun gs k (ks.take n) := fun j => by
  rw [List.drop_take]; exact Nat.lt_of_le_of_lt (runL_take gs _ _) (h j)
theorem noRun_of {gs : List Int} {k : Nat} (hk : 0 < k) : ∀ {ks : List Int} {i : Nat}, findRun gs k ks i = none → noRun gs k ks
  | [], i, _, j => by simpa [runL] using hk
  | c :: r, i, h, j => by
    unfold findRun at h
    split at h
    · cases h
    · rename_i h1
      cases j with
      | zero => rw [List.drop_zero]; omega
      | succ j => rw [List.drop_succ_cons]; exact noRun_of hk h j
theorem runOf_of_noRun {gs : List Int} {k : Nat} {ks : List Int} (h : noRun gs k ks) : runOf gs (some k) ks = none := findRun_none fun j _ => h j
theorem noRun_prefix {gs : List Int} {k a : Nat} {ks : List Int} (hk : 0 < k) (h : ∀ j, j < a → runL gs (ks.drop j) < k) : noRun gs k (ks.take a) := fun j => by
  rw [List.drop_take]
  by_cases hj : j < a
  · exact Nat.lt_of_le_of_lt (runL_take gs _ _) (h j hj)
  · rw [show a - j = 0 by omega, List.take_zero]; exact hk

theorem runOf_facts {gs : List Int} {k a b : Nat} {ks : List Int} (hk : 0 < k) (h : runOf gs (some k) ks = some (a, b)) : a + k ≤ b ∧ b ≤ ks.length ∧ b = a + runL gs (ks.drop a) ∧ ∀ j, j < a → runL gs (ks.drop j) < k := by
  obtain ⟨_, h2, h3, h4, h5⟩ := findRun_bounds hk (show findRun gs k ks 0 = some (a, b) from h)
  exact ⟨h2, by omega, by simpa using h4, by simpa using h5⟩

theorem split_parts {gs : List Int} {k : Nat} (hk : 0 < k) : ∀ ks, ∀ x ∈ split gs (some k) ks, (x.1 = true → (∀ c ∈ x.2, c ∈ gs) ∧ k ≤ x.2.length) ∧ (x.1 = false → noRun gs k x.2) := by
  refine split_ind (gs := gs) (L := some k) (fun k' e => by cases e; exact hk) ?_ ?_ ?_
  · intro x hx; rw [split_nil] at hx; cases hx
  · intro ks h0 hr x hx; rw [split_none h0 hr, List.mem_singleton] at hx; subst hx
    exact ⟨(fun q => by cases q), fun _ => noRun_of hk (show findRun gs k ks 0 = none from hr)⟩
  · intro ks a b h0 hr h1 h2 ih x hx
    obtain ⟨q1, q2, q3, q4⟩ := runOf_facts hk hr
    rw [split_some hr ⟨by omega, h2⟩] at hx
    rcases List.mem_append.mp hx with hx | hx
    · split at hx
      · cases hx
      · rw [List.mem_singleton] at hx; subst hx
        exact ⟨(fun q => by cases q), fun _ => noRun_prefix hk q4⟩
    · rcases List.mem_cons.mp hx with rfl | hx
      · refine ⟨fun _ => ⟨fun c hc => ?_, by simp only [List.length_take, List.length_drop]; omega⟩, (fun q => by cases q)⟩
        rw [show b - a = runL gs (ks.drop a) by omega] at hc
        exact runL_pre gs _ c hc
      · exact ih x hx

theorem split_noRun {gs gs' : List Int} {L : Option Nat} {k : Nat} (hL : LOk L) : ∀ ks, noRun gs' k ks → ∀ x ∈ split gs L ks, noRun gs' k x.2 := by
  refine split_ind (gs := gs) hL ?_ ?_ ?_
  · intro h x hx; rw [split_nil] at hx; cases hx
  · intro ks h0 hr h x hx; rw [split_none h0 hr, List.mem_singleton] at hx; subst hx; exact h
  · intro ks a b h0 hr h1 h2 ih h x hx
    rw [split_some hr ⟨by omega, h2⟩] at hx
    rcases List.mem_append.mp hx with hx | hx
    · split at hx
      · cases hx
      · rw [List.mem_singleton] at hx; subst hx; exact h.take _
    · rcases List.mem_cons.mp hx with rfl | hx
      · exact (h.drop _).take _
      · exact ih (h.drop _) x hx

def altF : Option Bool → List (Bool × List Int) → Prop
  | _, [] => True
  | q, x :: r => q ≠ some x.1 ∧ altF (some x.1) r
theorem split_alt {gs : List Int} {k : Nat} (hk : 0 < k) : ∀ ks, altF none (split gs (some k) ks) ∧ ((∀ c r, ks = c :: r → c ∉ gs) → altF (some true) (split gs (some k) ks)) := by
  refine split_ind (gs := gs) (L := some k) (fun k' e => by cases e; exact hk) ?_ ?_ ?_
  · rw [split_nil]; exact ⟨trivial, fun _ => trivial⟩
  · intro ks h0 hr; rw [split_none h0 hr]
    exact ⟨⟨(by intro q; cases q), trivial⟩, fun _ => ⟨(by intro q; cases q), trivial⟩⟩
  · intro ks a b h0 hr h1 h2 ih
    obtain ⟨q1, q2, q3, q4⟩ := runOf_facts hk hr
    have ih' := ih.2 (fun c r e => by
      rw [q3, show a + runL gs (ks.drop a) = a + runL gs (ks.drop a) from rfl, ← List.drop_drop] at e
      exact runL_stop gs _ c r e)
    rw [split_some hr ⟨by omega, h2⟩]
    by_cases ha : a = 0
    · subst ha
      rw [if_pos rfl]
      refine ⟨⟨(by intro q; cases q), ih'⟩, fun hh => ?_⟩
      cases ks with
      | nil => exact absurd rfl h0
      | cons c r =>
        have h3 := hh c r rfl
        have : runL gs (c :: r) = 0 := by unfold runL; rw [if_neg h3]
        rw [List.drop_zero, this] at q3; omega
    · rw [if_neg ha]
      exact ⟨⟨(by intro q; cases q), (by intro q; cases q), ih'⟩, fun _ => ⟨(by intro q; cases q), (by intro q; cases q), ih'⟩⟩

def no44 : Bool → List (Int × List Int) → Prop
  | _, [] => True
  | q, c :: r => (q = true → c.1 ≠ 4) ∧ no44 (c.1 == 4) r
theorem no44_append : ∀ {A B : List (Int × List Int)} {q : Bool}, no44 q A → (∀ q, no44 q B) → no44 q (A ++ B)
  | [], _, q, _, h => h q
  | _ :: _, _, _, ha, h => ⟨ha.1, no44_append ha.2 h⟩
theorem no44_inner : ∀ (sp : List (Bool × List Int)) (q : Option Bool), altF q sp → no44 (q == some false) (sp.map subChunk)
  | [], _, _ => trivial
  | (x, o) :: r, q, h => by
    refine ⟨fun e => ?_, ?_⟩
    · have e' : q = some false := by simpa using e
      subst e'
      have := h.1
      cases x with
      | true => show (2 : Int) ≠ 4; decide
      | false => exact absurd rfl this
    · have := no44_inner r (some x) h.2
      cases x with
      | true => exact this
      | false => exact this
theorem no44_outer {k : Nat} (hk : 0 < k) : ∀ (sp : List (Bool × List Int)), (altF (some false) sp → ∀ q, no44 q (sp.flatMap (chunk1 (some k)))) ∧ (∀ q, q ≠ some false → altF q sp → no44 false (sp.flatMap (chunk1 (some k))))
  | [] => ⟨fun _ _ => trivial, fun _ _ _ => trivial⟩
  | (true, o) :: r => by
    have ih := (no44_outer hk r).2 (some true) (by intro q; cases q)
    exact ⟨fun h q => ⟨fun _ => by show (1 : Int) ≠ 4; decide, ih h.2⟩, fun q hq h => ⟨(fun e => by cases e), ih h.2⟩⟩
  | (false, o) :: r => by
    have ih := (no44_outer hk r).1
    refine ⟨fun h => absurd rfl h.1, fun q hq h => ?_⟩
    show no44 false ((split gsAl (some k) o).map subChunk ++ _)
    exact no44_append (no44_inner _ none (split_alt hk o).1) (ih h.2)
theorem split_noneL {gs ks : List Int} : split gs none ks = if ks = [] then [] else if ∀ c ∈ ks, c ∈ gs then [(true, ks)] else [(false, ks)] := by
  by_cases h0 : ks = []
  · rw [if_pos h0, h0, split_nil]
  · rw [if_neg h0]
    have hl := List.length_pos_iff.mpr h0
    split
    · rename_i h
      have hr : runOf gs none ks = some (0, ks.length) := by unfold runOf; simp only; rw [if_pos ⟨hl, h⟩]
      rw [split_some hr ⟨hl, Nat.le_refl _⟩]
      simp [split_nil]
    · rename_i h
      exact split_none h0 (by unfold runOf; simp only; rw [if_neg fun q => h q.2])
theorem chunks_noneL (ks : List Int) : chunksL none ks = if ks = [] then [] else if ∀ c ∈ ks, c ∈ gsNum then [(1, ks)] else if ∀ c ∈ ks, c ∈ gsAl then [(2, ks)] else [(4, ks)] := by
  unfold chunksL
  rw [split_noneL]
  split
  · rfl
  · rename_i h0
    split
    · rfl
    · show chunk1 none (false, ks) ++ [] = _
      unfold chunk1
      simp only [Bool.false_eq_true, if_false, List.append_nil]
      rw [split_noneL, if_neg h0]
      split
      · rfl
      · rfl
theorem chunksOf_no44 {k : Nat} (hk : 0 < k) (ks : List Int) : no44 false (chunksOf k ks) := by
  unfold chunksOf leastOf
  split
  · rw [chunks_noneL]
    split
    · exact trivial
    · split
      · exact ⟨(fun q => by cases q), trivial⟩
      · split
        · exact ⟨(fun q => by cases q), trivial⟩
        · exact ⟨(fun q => by cases q), trivial⟩
  · exact (no44_outer hk _).2 none (by intro q; cases q) (split_alt hk ks).1
theorem no44_idx : ∀ {cs : List (Int × List Int)} {q : Bool} {i : Nat} {c c' : Int × List Int}, no44 q cs → cs[i]? = some c → cs[i + 1]? = some c' → c.1 = 4 → c'.1 ≠ 4
  | [], _, _, _, _, _, h, _, _ => by simp at h
  | x :: r, q, 0, c, c', h, h1, h2, h3 => by
    simp only [List.getElem?_cons_zero, Option.some.injEq] at h1; subst h1
    cases r with
    | nil => simp at h2
    | cons y r =>
      simp at h2; subst h2
      exact h.2.1 (by simpa using h3)
  | x :: r, q, i + 1, c, c', h, h1, h2, h3 => no44_idx (cs := r) (i := i) h.2 (by simpa using h1) (by simpa using h2) h3

/-- what is so of each chunk -/
structure ChunkOk (k : Nat) (ks : List Int) (c : Int × List Int) : Prop where
  mode : c.1 = 1 ∨ c.1 = 2 ∨ c.1 = 4
  ne : c.2 ≠ []
  num : c.1 = 1 → ∀ x ∈ c.2, x ∈ gsNum
  al : c.1 = 2 → ∀ x ∈ c.2, x ∈ gsAl
  len : c.1 ≠ 4 → k ≤ c.2.length ∨ c.2 = ks
  again : c.1 ≠ 4 → chunksOf k c.2 = [c]

theorem split_whole {gs : List Int} {k : Nat} {ks : List Int} (hk : 0 < k) (h : ∀ c ∈ ks, c ∈ gs) (hl : k ≤ ks.length) : split gs (some k) ks = [(true, ks)] := by
  have hr : runOf gs (some k) ks = some (0, ks.length) := by
    show findRun gs k ks 0 = _
    rw [findRun_some (a := 0) (by omega) (fun j hj => absurd hj (Nat.not_lt_zero _)) (by rw [List.drop_zero, runL_all h]; exact hl)]
    rw [List.drop_zero, runL_all h]; simp
  rw [split_some hr ⟨by omega, Nat.le_refl _⟩]
  simp [split_nil]

theorem again_of {k : Nat} (hk : 0 < k) {m : Int} {o : List Int} (h0 : o ≠ []) (h : (m = 1 ∧ ∀ x ∈ o, x ∈ gsNum) ∨ (m = 2 ∧ (∀ x ∈ o, x ∈ gsAl) ∧ ¬ (∀ x ∈ o, x ∈ gsNum) ∧ (k < o.length → noRun gsNum k o))) : chunksOf k o = [(m, o)] := by
  unfold chunksOf leastOf
  split
  · rw [chunks_noneL, if_neg h0]
    rcases h with ⟨rfl, h⟩ | ⟨rfl, h, h', _⟩
    · rw [if_pos h]
    · rw [if_neg h', if_pos h]
  · rename_i hl
    unfold chunksL
    rcases h with ⟨rfl, h⟩ | ⟨rfl, h, h', hn⟩
    · rw [split_whole hk h (by omega)]; rfl
    · rw [split_none h0 (runOf_of_noRun (hn (by omega)))]
      show chunk1 (some k) (false, o) ++ [] = _
      unfold chunk1
      simp only [Bool.false_eq_true, if_false, List.append_nil]
      rw [split_whole hk h (by omega)]; rfl

theorem chunkOk {k : Nat} (hk : 0 < k) (ks : List Int) : ∀ c ∈ chunksOf k ks, ChunkOk k ks c := by
  intro c hc
  have hne := chunksOf_ne hk ks c hc
  unfold chunksOf leastOf at hc
  split at hc
  · rw [chunks_noneL] at hc
    split at hc
    · cases hc
    · rename_i h0
      split at hc
      · rename_i h; rw [List.mem_singleton] at hc; subst hc
        exact ⟨.inl rfl, hne, fun _ => h, (fun q => by cases q), fun _ => .inr rfl, fun _ => again_of hk h0 (.inl ⟨rfl, h⟩)⟩
      · rename_i h'
        split at hc
        · rename_i h; rw [List.mem_singleton] at hc; subst hc
          exact ⟨.inr (.inl rfl), hne, (fun q => by cases q), fun _ => h, fun _ => .inr rfl, fun _ => again_of hk h0 (.inr ⟨rfl, h, h', fun q => by have q' : k < ks.length := q; omega⟩)⟩
        · rw [List.mem_singleton] at hc; subst hc
          exact ⟨.inr (.inr rfl), hne, (fun q => by cases q), (fun q => by cases q), fun q => absurd rfl q, fun q => absurd rfl q⟩
  · obtain ⟨x, hx, hc⟩ := List.mem_flatMap.mp hc
    obtain ⟨hx1, hx2⟩ := split_parts hk ks x hx
    obtain ⟨xb, xo⟩ := x
    unfold chunk1 at hc
    cases xb with
    | true =>
      simp only [if_true, List.mem_singleton] at hc; subst hc
      obtain ⟨q1, q2⟩ := hx1 rfl
      exact ⟨.inl rfl, hne, fun _ => q1, (fun q => by cases q), fun _ => .inl q2, fun _ => again_of hk hne (.inl ⟨rfl, q1⟩)⟩
    | false =>
      simp only [Bool.false_eq_true, if_false] at hc
      obtain ⟨y, hy, rfl⟩ := List.mem_map.mp hc
      have hn := split_noRun (gs := gsAl) (gs' := gsNum) (k := k) (L := some k) (fun k' e => by cases e; exact hk) xo (hx2 rfl) y hy
      obtain ⟨hy1, hy2⟩ := split_parts hk xo y hy
      obtain ⟨yb, yo⟩ := y
      cases yb with
      | true =>
        obtain ⟨q1, q2⟩ := hy1 rfl
        refine ⟨.inr (.inl rfl), hne, (fun q => by cases q), fun _ => q1, fun _ => .inl q2, fun _ => again_of hk hne (.inr ⟨rfl, q1, fun q => ?_, fun _ => hn⟩)⟩
        have h9 := hn 0
        rw [List.drop_zero, show (((true, yo) : Bool × List Int)).snd = yo from rfl, runL_all (ks := yo) q] at h9
        have q2' : k ≤ yo.length := q2
        have h9' : yo.length < k := h9
        omega
      | false => exact ⟨.inr (.inr rfl), hne, (fun q => by cases q), (fun q => by cases q), fun q => absurd rfl q, fun q => absurd rfl q⟩
end Mine
end

section
open PySem PySem.W PyProof.Rows PySem.Calls
namespace Mine

/-- the chunks that are not of octets, with their places -/
def knownC : Nat → List (Int × List Int) → List (Nat × Int × List Int)
  | _, [] => []
  | p, c :: r => (if c.1 ≠ 4 then [(p, c.1, c.2)] else []) ++ knownC (p + c.2.length) r
def tot (cs : List (Int × List Int)) : Nat := (cs.flatMap (·.2)).length
theorem knownC_append : ∀ (A B : List (Int × List Int)) (p : Nat), knownC p (A ++ B) = knownC p A ++ knownC (p + tot A) B
  | [], B, p => rfl
  | c :: A, B, p => by
    show _ ++ knownC _ (A ++ B) = (_ ++ knownC _ A) ++ _
    rw [knownC_append A B, List.append_assoc]
    congr 3
    show p + c.2.length + tot A = p + (c.2 ++ A.flatMap (·.2)).length
    rw [List.length_append]
    show p + c.2.length + tot A = p + (c.2.length + tot A)
    omega
theorem knownC_shift (s : Nat) : ∀ (A : List (Int × List Int)) (p : Nat), knownC (p + s) A = (knownC p A).map fun x => (x.1 + s, x.2)
  | [], p => rfl
  | c :: A, p => by
    show _ ++ knownC (p + s + c.2.length) A = (_ ++ knownC _ A).map _
    rw [show p + s + c.2.length = (p + c.2.length) + s by omega, knownC_shift s A, List.map_append]
    congr 1
    split <;> rfl

def glue (x : Int) : List (Bool × List Int) → List (Bool × List Int) → List (Bool × List Int)
  | [], (false, b) :: Q => (false, x :: b) :: Q
  | [], Q => (false, [x]) :: Q
  | [(false, a)], (false, b) :: Q => (false, a ++ x :: b) :: Q
  | [(false, a)], Q => (false, a ++ [x]) :: Q
  | y :: P, Q => y :: glue x P Q

theorem glue_true {x : Int} {o : List Int} : ∀ (P Q : List (Bool × List Int)), glue x ((true, o) :: P) Q = (true, o) :: glue x P Q
  | [], [] => rfl
  | [], (_, _) :: _ => rfl
  | _ :: _, _ => by rw [glue]; all_goals (intros; simp_all)
theorem glue_cons {x : Int} {y z : Bool × List Int} : ∀ (P Q : List (Bool × List Int)), glue x (y :: z :: P) Q = y :: glue x (z :: P) Q := fun P Q => by
  rw [glue]
  all_goals (intros; simp_all)

theorem findRun_shift {gs : List Int} {k : Nat} : ∀ (ks : List Int) (i n : Nat), findRun gs k ks (i + n) = (findRun gs k ks i).map fun q => (q.1 + n, q.2 + n)
  | [], _, _ => rfl
  | c :: r, i, n => by
    unfold findRun
    split
    · simp; omega
    · rw [show i + n + 1 = (i + 1) + n by omega]; exact findRun_shift r (i + 1) n
theorem findRun_skip {gs : List Int} {k : Nat} {x : Int} (hk : 0 < k) (hx : x ∉ gs) (r : List Int) : ∀ (l : List Int) (i : Nat), noRun gs k l → findRun gs k (l ++ x :: r) i = findRun gs k r (i + l.length + 1)
  | [], i, _ => by
    rw [List.nil_append]
    conv => lhs; unfold findRun
    rw [if_neg (by unfold runL; rw [if_neg hx]; omega)]; rfl
  | c :: l, i, h => by
    rw [List.cons_append]
    conv => lhs; unfold findRun
    rw [if_neg (by rw [← List.cons_append, runL_app hx]; have := h 0; rw [List.drop_zero] at this; omega), findRun_skip hk hx r l (i + 1) (h.drop 1)]
    congr 1
    simp only [List.length_cons]; omega
theorem findRun_hit {gs : List Int} {k : Nat} {x : Int} (hx : x ∉ gs) (r : List Int) : ∀ (l : List Int) (i : Nat) (q : Nat × Nat), findRun gs k l i = some q → findRun gs k (l ++ x :: r) i = some q
  | [], _, _, h => by cases h
  | c :: l, i, q, h => by
    unfold findRun at h
    rw [List.cons_append]
    unfold findRun
    rw [← List.cons_append, runL_app hx]
    split at h
    · rename_i h1; rw [if_pos h1]; exact h
    · rename_i h1; rw [if_neg h1]; exact findRun_hit hx r l (i + 1) q h

theorem split_glue {gs : List Int} {k : Nat} {x : Int} (hk : 0 < k) (hx : x ∉ gs) (r : List Int) : ∀ l, split gs (some k) (l ++ x :: r) = glue x (split gs (some k) l) (split gs (some k) r) := by
  -- a stretch without a run, then x, then r
  have key : ∀ l, noRun gs k l → split gs (some k) (l ++ x :: r) = (match split gs (some k) r with | (false, b) :: Q => (false, l ++ x :: b) :: Q | Q => (false, l ++ [x]) :: Q) := by
    intro l hl
    have hne : l ++ x :: r ≠ [] := by simp
    have e : runOf gs (some k) (l ++ x :: r) = (runOf gs (some k) r).map fun q => (q.1 + (l.length + 1), q.2 + (l.length + 1)) := by
      show findRun gs k (l ++ x :: r) 0 = (findRun gs k r 0).map _
      rw [findRun_skip hk hx r l 0 hl, ← findRun_shift]; congr 1 <;> omega
    by_cases hr0 : r = []
    · subst hr0
      rw [split_nil, split_none hne (by rw [e]; rfl)]
    · cases hr : runOf gs (some k) r with
      | none =>
        rw [split_none hne (by rw [e, hr]; rfl), split_none hr0 hr]
      | some ab =>
        obtain ⟨a, b⟩ := ab
        obtain ⟨q1, q2, q3, q4⟩ := runOf_facts hk hr
        rw [hr] at e
        have t1 : (l ++ x :: r).take (a + (l.length + 1)) = l ++ x :: r.take a := by
          rw [show a + (l.length + 1) = l.length + (a + 1) by omega, List.take_append, List.take_of_length_le (by omega), show l.length + (a + 1) - l.length = a + 1 by omega, List.take_succ_cons]
        have d1 : ∀ n, (l ++ x :: r).drop (n + (l.length + 1)) = r.drop n := fun n => by
          rw [show n + (l.length + 1) = l.length + (n + 1) by omega, ← List.drop_drop, List.drop_left, List.drop_succ_cons]
        rw [split_some e ⟨by omega, by simp only [List.length_append, List.length_cons]; omega⟩, split_some hr ⟨by omega, q2⟩]
        simp only
        rw [if_neg (by omega), d1, d1, t1, show b + (l.length + 1) - (a + (l.length + 1)) = b - a by omega]
        by_cases ha : a = 0
        · subst ha; simp
        · rw [if_neg ha]; rfl
  refine split_ind (gs := gs) (L := some k) (fun k' e => by cases e; exact hk) ?_ ?_ ?_
  · rw [split_nil, key [] (fun j => by simpa [runL] using hk)]
    generalize split gs (some k) r = Q
    cases Q with
    | nil => rfl
    | cons q Q => obtain ⟨qb, qo⟩ := q; cases qb <;> rfl
  · intro l h0 hr
    rw [split_none h0 hr, key l (noRun_of hk (show findRun gs k l 0 = none from hr))]
    generalize split gs (some k) r = Q
    cases Q with
    | nil => rfl
    | cons q Q => obtain ⟨qb, qo⟩ := q; cases qb <;> rfl
  · intro l a b h0 hr h1 h2 ih
    have e : runOf gs (some k) (l ++ x :: r) = some (a, b) := findRun_hit hx r l 0 _ hr
    rw [split_some hr ⟨by omega, h2⟩, split_some e ⟨by omega, by simp only [List.length_append]; omega⟩, List.take_append_of_le_length (by omega), List.drop_append_of_le_length (by omega), List.drop_append_of_le_length (by omega),
      List.take_append_of_le_length (by simp only [List.length_drop]; omega), ih]
    by_cases ha : a = 0
    · rw [if_pos ha, List.nil_append, List.nil_append, glue_true]
    · rw [if_neg ha, List.cons_append, List.cons_append, List.nil_append, List.nil_append, glue_cons, glue_true]

theorem tot_sub (l : List (Bool × List Int)) : tot (l.map subChunk) = (l.flatMap (·.2)).length := by unfold tot; rw [map_sub_join]
theorem known_false (p : Nat) (o : List Int) (r : List (Int × List Int)) : knownC p (subChunk (false, o) :: r) = knownC (p + o.length) r := rfl

theorem glue_inner (x : Int) : ∀ (P Q : List (Bool × List Int)) (p : Nat), knownC p ((glue x P Q).map subChunk) = knownC p (P.map subChunk) ++ knownC (p + (P.flatMap (·.2)).length + 1) (Q.map subChunk)
  | [], Q, p => by
    cases Q with
    | nil => rfl
    | cons q Q =>
      obtain ⟨qb, qo⟩ := q
      cases qb with
      | true => rfl
      | false =>
        show knownC p (subChunk (false, x :: qo) :: Q.map subChunk) = knownC (p + 0 + 1) (subChunk (false, qo) :: Q.map subChunk)
        rw [known_false, known_false]
        congr 1
        simp only [List.length_cons]; omega
  | [(false, a)], Q, p => by
    cases Q with
    | nil => rfl
    | cons q Q =>
      obtain ⟨qb, qo⟩ := q
      cases qb with
      | true =>
        show knownC p (subChunk (false, a ++ [x]) :: subChunk (true, qo) :: Q.map subChunk) = knownC p [subChunk (false, a)] ++ knownC (p + (a ++ []).length + 1) (subChunk (true, qo) :: Q.map subChunk)
        rw [known_false, known_false]
        show _ = [] ++ _
        rw [List.nil_append, List.append_nil, List.length_append]; rfl
      | false =>
        show knownC p (subChunk (false, a ++ x :: qo) :: Q.map subChunk) = knownC p [subChunk (false, a)] ++ knownC (p + (a ++ []).length + 1) (subChunk (false, qo) :: Q.map subChunk)
        rw [known_false, known_false, known_false]
        show _ = [] ++ _
        rw [List.nil_append, List.append_nil, List.length_append]
        congr 1
        simp only [List.length_cons]; omega
  | (true, a) :: P, Q, p => by
    rw [glue_true]
    show _ ++ knownC _ ((glue x P Q).map subChunk) = (_ ++ knownC _ (P.map subChunk)) ++ _
    rw [glue_inner x P Q, List.append_assoc]
    congr 3
    show p + a.length + (P.flatMap (·.2)).length + 1 = p + (a ++ P.flatMap (·.2)).length + 1
    rw [List.length_append]; omega
  | (false, a) :: z :: P, Q, p => by
    rw [glue_cons]
    show _ ++ knownC _ ((glue x (z :: P) Q).map subChunk) = (_ ++ knownC _ ((z :: P).map subChunk)) ++ _
    rw [glue_inner x (z :: P) Q, List.append_assoc]
    congr 3
    show p + a.length + ((z :: P).flatMap (·.2)).length + 1 = p + (a ++ (z :: P).flatMap (·.2)).length + 1
    rw [List.length_append]; omega

theorem known_part {k : Nat} {x : Int} (hk : 0 < k) (hx : x ∉ gsAl) (a b : List Int) (p : Nat) :
    knownC p (chunk1 (some k) (false, a ++ x :: b)) = knownC p (chunk1 (some k) (false, a)) ++ knownC (p + a.length + 1) (chunk1 (some k) (false, b)) := by
  show knownC p ((split gsAl (some k) (a ++ x :: b)).map subChunk) = knownC p ((split gsAl (some k) a).map subChunk) ++ knownC _ ((split gsAl (some k) b).map subChunk)
  rw [split_glue hk hx, glue_inner, split_join (fun k' e => by cases e; exact hk)]

theorem chunk1_tot {k : Nat} (hk : 0 < k) (y : Bool × List Int) : tot (chunk1 (some k) y) = y.2.length := by
  unfold tot; rw [chunk1_join (fun k' e => by cases e; exact hk)]
def K (k p : Nat) (P : List (Bool × List Int)) : List (Nat × Int × List Int) := knownC p (P.flatMap (chunk1 (some k)))
theorem K_cons {k : Nat} (hk : 0 < k) (p : Nat) (y : Bool × List Int) (P : List (Bool × List Int)) : K k p (y :: P) = knownC p (chunk1 (some k) y) ++ K k (p + y.2.length) P := by
  unfold K; rw [List.flatMap_cons, knownC_append, chunk1_tot hk]
theorem known_nilpart {k : Nat} (p : Nat) : knownC p (chunk1 (some k) (false, [])) = [] := by
  show knownC p ((split gsAl (some k) []).map subChunk) = []
  rw [split_nil]; rfl

theorem glue_outer {k : Nat} {x : Int} (hk : 0 < k) (hx : x ∉ gsAl) : ∀ (P Q : List (Bool × List Int)) (p : Nat), K k p (glue x P Q) = K k p P ++ K k (p + (P.flatMap (·.2)).length + 1) Q
  | [], Q, p => by
    have h1 : ∀ b (Q : List (Bool × List Int)), K k p ((false, x :: b) :: Q) = K k (p + 1) ((false, b) :: Q) := fun b Q => by
      rw [K_cons hk, K_cons hk]
      have := known_part hk hx [] b p
      rw [known_nilpart, List.nil_append, List.nil_append] at this
      rw [this]
      congr 2
      simp only [List.length_cons]; omega
    have h2 : ∀ Q : List (Bool × List Int), K k p ((false, [x]) :: Q) = K k (p + 1) Q := fun Q => by
      rw [h1 [] Q, K_cons hk, known_nilpart]; rfl
    cases Q with
    | nil => exact h2 []
    | cons q Q =>
      obtain ⟨qb, qo⟩ := q
      cases qb with
      | true => exact h2 _
      | false => exact h1 _ _
  | [(false, a)], Q, p => by
    have h1 : ∀ b (Q : List (Bool × List Int)), K k p ((false, a ++ x :: b) :: Q) = K k p [(false, a)] ++ K k (p + (a ++ []).length + 1) ((false, b) :: Q) := fun b Q => by
      rw [K_cons hk, K_cons hk, K_cons hk, known_part hk hx a b p, List.append_nil, List.append_assoc, List.append_assoc]
      show _ = _ ++ ([] ++ _)
      rw [List.nil_append]
      congr 3
      simp only [List.length_append, List.length_cons]; omega
    have h2 : ∀ Q : List (Bool × List Int), K k p ((false, a ++ [x]) :: Q) = K k p [(false, a)] ++ K k (p + (a ++ []).length + 1) Q := fun Q => by
      rw [h1 [] Q, K_cons hk _ (false, []) Q, known_nilpart]; rfl
    cases Q with
    | nil => exact h2 []
    | cons q Q =>
      obtain ⟨qb, qo⟩ := q
      cases qb with
      | true => exact h2 _
      | false => exact h1 _ _
  | (true, a) :: P, Q, p => by
    rw [glue_true, K_cons hk, K_cons hk, glue_outer hk hx P Q, List.append_assoc]
    congr 3
    show p + a.length + (P.flatMap (·.2)).length + 1 = p + (a ++ P.flatMap (·.2)).length + 1
    rw [List.length_append]; omega
  | (false, a) :: z :: P, Q, p => by
    rw [glue_cons, K_cons hk, K_cons hk, glue_outer hk hx (z :: P) Q, List.append_assoc]
    congr 3
    show p + a.length + ((z :: P).flatMap (·.2)).length + 1 = p + (a ++ (z :: P).flatMap (·.2)).length + 1
    rw [List.length_append]; omega

/-- the joined text's known chunks -/
theorem known_joined {k : Nat} (hk : 0 < k) {l r : List Int} (hl : k < l.length) (hr : k < r.length) :
    knownC 0 (chunksOf k (l ++ 113 :: r)) = knownC 0 (chunksOf k l) ++ (knownC 0 (chunksOf k r)).map fun x => (x.1 + l.length + 1, x.2) := by
  have e1 : leastOf k l = some k := if_neg (by omega)
  have e2 : leastOf k r = some k := if_neg (by omega)
  have e3 : leastOf k (l ++ 113 :: r) = some k := if_neg (by simp only [List.length_append, List.length_cons]; omega)
  unfold chunksOf
  rw [e1, e2, e3]
  show K k 0 (split gsNum (some k) (l ++ 113 :: r)) = K k 0 (split gsNum (some k) l) ++ _
  rw [split_glue hk (by decide), glue_outer hk (by decide), split_join (fun k' e => by cases e; exact hk)]
  congr 1
  show knownC (0 + l.length + 1) _ = _
  rw [show 0 + l.length + 1 = 0 + (l.length + 1) by omega, knownC_shift]
  rfl
end Mine
end

section
open PySem PySem.W PyProof.Rows PySem.Calls PyProof.Rows.LCg
set_option maxRecDepth 100000
namespace Mine
local macro_rules | `(tactic| walk_at "my fill") => `(tactic| (have kf : PySem.Challenge.rw_ez0306_01 = PySem.Challenge.rw_ez0306_01 ∧ hd.heap_39 = hd.heap_39 := by k_fill; exact ⟨rfl, rfl⟩))
local macro_rules | `(tactic| walk_at "my guard") => `(tactic| ((fail_if_success (with_reducible show wpAny _ _ (pyIter _) _ _ _)); (fail_if_success (with_reducible show wpAny _ _ (eval (PySem.Expr.ListComp _ _ _ _) _) _ _ _)); (fail_if_success (with_reducible show wpAny _ _ (exec (Stmt.For _ _ _ _ _) _) _ _ _)); (fail_if_success (with_reducible show wpAny _ _ (call (Value.builtin "list.append") _ _) _ _ _)); (fail_if_success (with_reducible show wpAny _ _ (call (Value.ref _) _ _) _ _ _)); (fail_if_success (with_reducible show _ → _)); (fail_if_success (with_reducible show ∃ _, _))))
local macro_rules | `(tactic| walk_at "my steps") => `(tactic| repeat' (first | (k_unfold; (try dsimp only)) | (walk_at "my guard"; walk1) | (walk_at "my guard"; dsimp only; walk_at "my guard"; walk1) | fail "no step"))
local macro_rules | `(tactic| walk_at "my mems") => `(tactic| (repeat (first | exact List.forall_mem_nil _ | refine List.forall_mem_cons.mpr ⟨by k_mem, ?_⟩)))
local macro_rules | `(tactic| walk_at "my rest") => `(tactic| (intro q hq; repeat (first | exact hq | apply List.Mem.tail)))

/-- a known chunk: place, mode, octets -/
def KnV (w : World) (x : Nat × Int × List Int) (v : Value) (h : Heap) : Prop := ∃ t b tp tm tb, v = .ref t ∧ h.get? t = some (tupO [.int (x.1 : Int) tp, .int x.2.1 tm, .bytes b tb]) ∧ KBw.bInts b = x.2.2 ∧ Safe w t
def KnownAt (w : World) (xs : List (Nat × Int × List Int)) (K : Addr) (h : Heap) : Prop := ∃ vals, h.get? K = some (lst vals) ∧ Paired (fun x v => KnV w x v h) xs vals
theorem Paired.at' {α β : Type} {F : α → β → Prop} : ∀ {l₁ : List α} {l₂ : List β} {i : Nat} {a : α}, Paired F l₁ l₂ → l₁[i]? = some a → ∃ b, l₂[i]? = some b ∧ F a b
  | _, _, i, a, .nil, h => by simp at h
  | _, _, 0, a, .cons (b := b) h t, e => by
    simp only [List.getElem?_cons_zero, Option.some.injEq] at e; subst e
    exact ⟨b, rfl, h⟩
  | _, _, i + 1, a, .cons h t, e => by
    simp only [List.getElem?_cons_succ] at e ⊢
    exact Paired.at' t e

theorem Ns_norm2 {a b : Str} {h : Heap} {C : Addr} {m : Str → Option Value} {v1 v2 : Value} (n : h.Ns C m) (h1 : m a = some v1) (h2 : m b = some v2) :
    h.Ns C (fun y => if y = a then some v1 else if y = b then some v2 else m y) := by
  refine Ns_congr n fun y => ?_
  by_cases q1 : y = a
  · subst q1; rw [if_pos rfl]; exact h1
  · rw [if_neg q1]
    by_cases q2 : y = b
    · subst q2; rw [if_pos rfl]; exact h2
    · rw [if_neg q2]
theorem Ns_normE {a b : Str} {h : Heap} {C : Addr} {m : Str → Option Value} {i i' : Int} {tk : Tok} {v2 : Value} (n : h.Ns C m) (h1 : m a = some (.int i tk)) (e : i' = i) (h2 : m b = some v2) :
    ∃ (tp : Tok) (u : Str → Option Value), h.Ns C (fun y => if y = a then some (.int i' tp) else if y = b then some v2 else u y) := by
  subst e; exact ⟨tk, m, Ns_norm2 n h1 h2⟩
theorem cls_ne {h : Heap} {a b : Addr} {o o' : Obj} {x y : String} (e : h.get? a = some o) (c : o.cls = .type x) (e' : h.get? b = some o') (c' : o'.cls = .type y) (hxy : x ≠ y) : a ≠ b := by
  rintro rfl; rw [e] at e'; cases e'; rw [c] at c'; injection c' with q; exact hxy q
theorem tot_snoc (A : List (Int × List Int)) (c : Int × List Int) : tot (A ++ [c]) = tot A + c.2.length := by unfold tot; simp
theorem known_snoc (A : List (Int × List Int)) (c : Int × List Int) : knownC 0 (A ++ [c]) = knownC 0 A ++ (if c.1 ≠ 4 then [(tot A, c.1, c.2)] else []) := by
  rw [knownC_append]
  show _ ++ ((if c.1 ≠ 4 then [(0 + tot A, c.1, c.2)] else []) ++ []) = _
  rw [List.append_nil, Nat.zero_add]

theorem named0 {M : Model} {A : Around} {α : Type} {t : Sem α} {Q : α → Shared → Prop} {E : Value → Shared → Prop} {s : Shared} (h : ∀ s' : Shared, s'.heap = s.heap → s'.gens = s.gens → s'.os = s.os → wpAny M A t Q E s') : wpAny M A t Q E s := h s rfl rfl rfl
theorem named_c {M : Model} {A : Around} {c : Code} {R : Result → Shared → Prop} {s : Shared} {g : Heap} {C : Addr} {m' : Str → Option Value} {news' : List (Addr × Obj)} (F : Fr g C s.heap m') (N : News g C s.heap news')
    (h : ∀ s' : Shared, s'.gens = s.gens → s'.os = s.os → Fr g C s'.heap m' → News g C s'.heap news' → codeAny M A c R s') : codeAny M A c R s := h s rfl rfl F N
theorem named_i {M : Model} {A : Around} {target : PySem.Expr} {body : List Stmt} {env : Env} {R : Result → Shared → Prop} {s : Shared} {g : Heap} {C I : Addr} {o : Obj} {m' : Str → Option Value} {news' : List (Addr × Obj)} (P : Addr → Prop) (hI : P I) (F : Fr g C s.heap m') (N : News g C s.heap ((I, o) :: news'))
    (h : ∀ (I' : Addr) (s' : Shared), P I' → s'.gens = s.gens → s'.os = s.os → Fr g C s'.heap m' → News g C s'.heap ((I', o) :: news') → codeAny M A (.forLoop target (.ref I') body [] env) R s') : codeAny M A (.forLoop target (.ref I) body [] env) R s := h I s hI rfl rfl F N
/-- what a loop over lists leaves: all but the frame and the list that is made -/
structure RelK (L K : Addr) (s s' : Shared) : Prop where
  os : s'.os = s.os
  gens : s'.gens = s.gens
  keep : ∀ b o, b ≠ 16 → b ≠ L → b ≠ K → s.heap.get? b = some o → s'.heap.get? b = some o
theorem RelK.of {L K : Addr} {Cs : Addr → Prop} {s s' : Shared} (x : StpB Cs NoG s s') (e : s'.gens = s.gens) (h : ∀ b o, Cs b → s.heap.get? b = some o → b = L ∨ b = K) : RelK L K s s' := ⟨x.os, e, fun b o h1 h2 h3 q => x.keep b o h1 (fun z => (h b o z q).elim h2 h3) q⟩
theorem RelK.trans {L K : Addr} {a b c : Shared} (x : RelK L K a b) (y : RelK L K b c) : RelK L K a c := ⟨y.os.trans x.os, y.gens.trans x.gens, fun b o h1 h2 h3 e => y.keep b o h1 h2 h3 (x.keep b o h1 h2 h3 e)⟩

set_option maxHeartbeats 8000000 in
theorem law_known {prog : Program} {w : World} {p : Program} {loose : List Str} {mg mb : Str → Option Value} {A : Around} {s : Shared} {D : Addr} {cs : List (Int × List Int)}
    (hA : A.handled = none) (hroom : A.depth + 20 < recursionLimit) (hun : A.units + 100 < cLine)
    (H : Hp w p loose mg mb s.heap) (hD : ListAt w cs D s.heap) (hDs : Safe w D) (hlen : cs.length ≤ 64) (hb64 : ∀ c ∈ cs, c.2.length ≤ 64) :
    wpAny (model prog w) A (call (.ref 111) [.ref D]) (fun v s' => ∃ K, v = .ref K ∧ KnownAt w (knownC 0 cs) K s'.heap ∧ Safe w K ∧ Stp s s') (fun _ _ => False) s := by
  walk_at "my fill"
  obtain ⟨hdl, dp, fr, gd, un⟩ := A
  have hq : hdl = none := hA
  subst hq
  have hd2 : dp + 20 < recursionLimit := hroom
  have hu2 : un + 100 < cLine := hun
  clear hroom hun hA
  obtain ⟨ps, hps1, hps2⟩ := H.tab
  obtain ⟨vals, hDv, hP⟩ := hD
  have hex : Held w s.heap [(16, tabO ps)] := List.forall_mem_singleton.mpr ⟨hps1, safe16 w⟩
  refine' enter (w := w) H [(16, tabO ps)] hex ?k1 ?k2 (show dp < recursionLimit by omega) ?k3 ?k4 ?k5 ?k6 ?k7 ?k8 ?k0
  case k1 => k_is
  case k2 => k_is
  case k3 => exact BindsTo.of_eq rfl
  case k4 => exact locs rfl
  case k5 => decide
  case k6 => rfl
  case k7 => rfl
  case k8 => rfl
  intro g L h₁ hg hL F N X T M
  have hLk : AboveK w L := hL ▸ AboveK.of H
  walk_at "my steps"
  refine wpAny_For ?_
  walk_at "my steps"
  rename News _ _ _ _ => N1
  rename Fr _ _ _ _ => F1
  refine named (s := Shared.mk _ _ _ _ _) F1 N1 fun s1 e11 e12 F1 N1 => ?_
  have st1 : Stp s s1 := Stp.of_ext (by subst hg; exact ext_of F1 N1 (fun q hq => (hex q hq).1) (fun q hq _ => .tail _ hq) (by k_mem) hps2) e11 e12
  have H1 := H.ext st1.ext
  obtain ⟨K, tp, u, hK1, hKs, hn1, hKg⟩ : ∃ (K : Addr) (tp : Tok) (u : Str → Option Value), s1.heap.get? K = some (lst []) ∧ Safe w K ∧ s1.heap.Ns L (fun y => if y = Str.ofString "place" then some (.int ((tot (cs.take 0) : Nat) : Int) tp) else if y = Str.ofString "known" then some (.ref K) else u y) ∧ g.get? K = none :=
    ⟨_, _, _, (N1 _ (.head _)).1, safe_of N1 X T M (.head _), Ns_norm2 F1.ns rfl rfl, (N1 _ (.head _)).2.2⟩
  have hK16 : K ≠ 16 := ne16_of H1 hK1 (by intro q; cases q)
  have hKn : s.heap.get? K = none := by
    cases q : s.heap.get? K with
    | none => rfl
    | some o =>
      have h9 : g.get? K = some o := hg ▸ hideAll_get [16] q (by simpa using hK16)
      rw [hKg] at h9; cases h9
  have hL16 : L ≠ 16 := Nat.ne_of_gt hLk.t
  have hKL : K ≠ L := ns_ne hn1 hK1 (nd_lst _)
  have hD16 : D ≠ 16 := ne16_of H hDv (by intro q; cases q)
  have hD1 := st1.ext.keep _ _ hD16 hDv
  have hP1 := Paired.mono' (fun c v (x : ChV w c v s.heap) => x.keeps fun t o h1 h2 e => st1.ext.keep t o (tup_ne16 H e h1) e) hP
  have hDK : D ≠ K := (ne_new hKn hDv).symm
  have hDL : D ≠ L := ns_ne hn1 hD1 (nd_lst _)
  clear F1 N1
  have hDl : s1.heap.IsList D vals.toArray := ⟨_, hD1, rfl, _, rfl⟩
  refine wpAny_pyIter_list hDl ?_
  have hI0 : (s1.heap.push { cls := .type "list_iterator", data := .fields #[.ref D, .int 0 0] }).IsListIter s1.heap.objs.size D 0 := ⟨_, Heap.get?_push_size _ rfl, rfl, rfl⟩
  have hIn : s1.heap.get? s1.heap.objs.size = none := by
    cases q : s1.heap.get? s1.heap.objs.size with
    | none => rfl
    | some o => exact absurd (Heap.lt_size q) (Nat.lt_irrefl _)
  have up : ∀ b o, s1.heap.get? b = some o → (s1.heap.push { cls := .type "list_iterator", data := .fields #[.ref D, .int 0 0] }).get? b = some o := fun b o e => Heap.get?_push_of_some _ e
  generalize s1.heap.push { cls := .type "list_iterator", data := .fields #[.ref D, .int 0 0] } = hp at *
  have hIs : Safe w s1.heap.objs.size := (AboveK.of H1).safe
  generalize s1.heap.objs.size = I at *
  have hIL : I ≠ L := let ⟨o, _, _, e, _⟩ := hn1; ne_new hIn e
  have hIK : I ≠ K := ne_new hIn hK1
  have hI16 : I ≠ 16 := let ⟨ps, e, _⟩ := H1.tab; ne_new hIn e
  have Hp0 : Hp w p loose mg mb hp := H1.ext ⟨fun b o _ e => up b o e, let ⟨ps, e, hok⟩ := H1.tab; ⟨ps, up _ _ e, hok⟩⟩
  have hvl : vals.length = cs.length := hP.length.symm
  refine codeAny_forLoop_any (fun n s => ∃ j ys tp u, n = cs.length + 1 - j ∧ j ≤ cs.length ∧ Hp w p loose mg mb s.heap ∧ s.heap.IsListIter I D j ∧ s.heap.get? K = some (lst ys) ∧ ys.length ≤ j ∧ Paired (fun x v => KnV w x v s.heap) (knownC 0 (cs.take j)) ys ∧ s.heap.Ns L (fun y => if y = Str.ofString "place" then some (.int ((tot (cs.take j) : Nat) : Int) tp) else if y = Str.ofString "known" then some (.ref K) else u y) ∧ RelK L K s1 s) ?tn (cs.length + 1)
    ⟨0, [], tp, u, rfl, Nat.zero_le _, Hp0, hI0, up _ _ hK1, Nat.le_refl _, .nil, hn1.keeps up, ⟨rfl, rfl, fun b o _ _ _ e => up b o e⟩⟩
  clear hI0
  rintro n s5 ⟨j, ys, tp, u, rfl, hj, H5, hI5, hK5, hyl, hP5, hn5, hr5⟩
  have hD5 := hr5.keep _ _ hD16 hDL hDK hD1
  have hDl5 : s5.heap.IsList D vals.toArray := ⟨_, hD5, rfl, _, rfl⟩
  by_cases hlt : j < cs.length
  · obtain ⟨c, hc⟩ : ∃ c, cs[j]? = some c := ⟨_, List.getElem?_eq_getElem hlt⟩
    obtain ⟨v, hv, t, b, tm, tb, rfl, ht, hb, hts⟩ := Paired.at' hP1 hc
    have hcl := hb64 c (List.mem_of_getElem? hc)
    refine wpAny_pyNext_list_item hI5 hDl5 (by simpa using hv) fun h6 hI6 hs6 => ?_
    obtain ⟨oI, hoI, hcI, _⟩ := id hI5
    have htL : t ≠ L := ns_ne hn1 ht (nd_tup _)
    have htK : t ≠ K := cls_ne ht rfl hK1 rfl (by decide)
    have ht5 := hr5.keep _ _ (tup_ne16 H1 ht rfl) htL htK ht
    have htI : t ≠ I := cls_ne ht5 rfl hoI hcI (by decide)
    refine wpAny_letOwnedTupleGo_listiter hI6 ?_
    refine named0 fun s6 e60 e61 e62 => ?_
    dsimp only at e60
    subst e60
    have st6 := StpB.of_same H5 hs6 hI16 e61 e62
    have H6 := H5.stpB st6 (fun b hb => hb ▸ hIs)
    have ht6 := hs6.extBut _ _ htI ht5
    have hK6 := hs6.extBut _ _ (Ne.symm hIK) hK5
    have hn6 := hn5.sameBut hs6 (Ne.symm hIL)
    have hP6 := Paired.mono' (fun x v (y : KnV w x v s5.heap) => (show KnV w x v s6.heap from let ⟨t, b, tp, tm, tb, e, h1, h2, h3⟩ := y; ⟨t, b, tp, tm, tb, e, hs6.extBut _ _ (cls_ne h1 rfl hoI hcI (by decide)) h1, h2, h3⟩)) hP5
    have hr6 : RelK L K s1 s6 := ⟨e62.trans hr5.os, e61.trans hr5.gens, fun b o h1 h2 h3 e => hs6.extBut _ _ (ne_new hIn e).symm (hr5.keep b o h1 h2 h3 e)⟩
    clear hP5 hn5 hK5 ht5 hI5 hr5
    obtain ⟨ps6, g6, W6, hps6, F6, N6, _, X6, T6, M6, hdone⟩ := ground H6 hn6 hLk [(t, _), (K, _)] (List.forall_mem_cons.mpr ⟨⟨ht6, hts⟩, List.forall_mem_cons.mpr ⟨⟨hK6, hKs⟩, List.forall_mem_nil _⟩⟩) (List.forall_mem_cons.mpr ⟨nd_tup _, List.forall_mem_cons.mpr ⟨nd_lst _, List.forall_mem_nil _⟩⟩)
    simp only [List.cons_append, List.nil_append] at N6
    obtain ⟨cm, co⟩ := c
    dsimp only at hb hcl
    walk_at "my steps"
    · rename News _ _ _ _ => N8
      rename Fr _ _ _ _ => F8
      have hm4 : cm ≠ 4 := by assumption
      refine named (s := Shared.mk _ _ _ _ _) F8 N8 fun s8 e81 e82 F8 N8 => ?_
      obtain ⟨H8, st8⟩ := hdone s8 _ _ _ e81 e82 F8 N8 (by walk_at "my rest") (by walk_at "my mems") (by k_mem) hps6
      have hK8 := News.get N8 (show (K, lst ys) ∈ _ by k_mem)
      have hT8 := News.get N8 (List.Mem.head _)
      have hTs := safe_of N8 X6 T6 M6 (List.Mem.head _)
      have hTK := cls_ne hT8 rfl hK8 rfl (by decide : "tuple" ≠ "list")
      have hTL := (N8 _ (List.Mem.head _)).2.1
      refine append_at (hsz := by rw [List.size_toArray]; exact Nat.le_trans hyl (Nat.le_trans hj (Nat.le_trans hlen (by decide)))) hK8 fun h9 hs9 hK9 => ?_
      refine named0 fun s9 e90 e91 e92 => ?_
      dsimp only at e90
      subst e90
      have st9 := StpB.of_same H8 hs9 hK16 e91 e92
      have H9 := H8.stpB st9 (fun b hb => hb ▸ hKs)
      have hn9 := F8.ns.sameBut hs9 (Ne.symm hKL)
      have hK9' := hK9.trans (congrArg some (lst_snoc ys _))
      have hT9 := hs9.extBut _ _ hTK hT8
      clear hdone F8 N8
      obtain ⟨ps7, g7, W7, hps7, F7, N7, _, X7, T7, M7, hdone⟩ := ground H9 hn9 hLk [] (List.forall_mem_nil _) (List.forall_mem_nil _)
      simp only [List.nil_append] at N7
      walk_at "my steps"
      rename News _ _ _ _ => N10
      rename Fr _ _ _ _ => F10
      obtain ⟨H10, st10⟩ := hdone (Shared.mk _ s9.gens s9.drawn (s9.toks + 1) s9.os) _ _ _ rfl rfl F10 N10 (by walk_at "my rest") (List.forall_mem_nil _) (by k_mem) hps7
      have e : ((tot (cs.take (j + 1)) : Nat) : Int) = ((tot (cs.take j) : Nat) : Int) + (co.length : Int) := by
        rw [List.take_add_one, hc]
        show ((tot (cs.take j ++ [(cm, co)]) : Nat) : Int) = _
        rw [tot_snoc]; rfl
      obtain ⟨tp', u', hnX⟩ := Ns_normE (a := Str.ofString "place") (b := Str.ofString "known") (v2 := .ref K) F10.ns rfl e rfl
      have kk : ∀ b o, b ≠ 16 → b ≠ L → b ≠ K → s6.heap.get? b = some o → (Shared.mk _ s9.gens s9.drawn (s9.toks + 1) s9.os).heap.get? b = some o := fun b o h1 h2 h3 e => st10.keep b o h1 h2 (st9.keep b o h1 h3 (st8.keep b o h1 h2 e))
      refine ⟨cs.length + 1 - (j + 1), by omega, j + 1, ys ++ [.ref _], tp', u', rfl, hlt, H10, hI6.at fun o e => kk _ o hI16 hIL hIK e, st10.keep _ _ hK16 hKL hK9', by rw [List.length_append]; exact Nat.succ_le_succ hyl, ?_, hnX, hr6.trans ⟨e92.trans e82, e91.trans e81, fun b o h1 h2 h3 e => kk b o h1 h2 h3 e⟩⟩
      rw [List.take_add_one, hc]
      show Paired _ (knownC 0 (cs.take j ++ [(cm, co)])) _
      rw [known_snoc, if_pos hm4]
      refine Paired.snoc (Paired.mono' (fun x v (y : KnV w x v s6.heap) => let ⟨t, b, tp, tm, tb, e, h1, h2, h3⟩ := y; ⟨t, b, tp, tm, tb, e, kk _ _ (tup_ne16 H6 h1 rfl) (ns_ne hn6 h1 (nd_tup _)) (cls_ne h1 rfl hK6 rfl (by decide)) h1, h2, h3⟩) hP6) ?_
      exact ⟨_, b, tp, tm, tb, rfl, st10.keep _ _ (tup_ne16 H9 hT9 rfl) hTL hT9, hb, hTs⟩
    · rename News _ _ _ _ => N8
      rename Fr _ _ _ _ => F8
      have hm4 : cm = 4 := by assumption
      obtain ⟨H8, st8⟩ := hdone (Shared.mk _ s6.gens s6.drawn (s6.toks + 1) s6.os) _ _ _ rfl rfl F8 N8 (by walk_at "my rest") (by walk_at "my mems") (by k_mem) hps6
      have hK8 := News.get N8 (show (K, lst ys) ∈ _ by k_mem)
      have e : ((tot (cs.take (j + 1)) : Nat) : Int) = ((tot (cs.take j) : Nat) : Int) + (co.length : Int) := by
        rw [List.take_add_one, hc]
        show ((tot (cs.take j ++ [(cm, co)]) : Nat) : Int) = _
        rw [tot_snoc]; rfl
      obtain ⟨tp', u', hnX⟩ := Ns_normE (a := Str.ofString "place") (b := Str.ofString "known") (v2 := .ref K) F8.ns rfl e rfl
      refine ⟨cs.length + 1 - (j + 1), by omega, j + 1, ys, tp', u', rfl, hlt, H8, hI6.at fun o e => st8.keep _ o hI16 hIL e, hK8, Nat.le_succ_of_le hyl, ?_, hnX, hr6.trans ⟨rfl, rfl, fun b o h1 h2 h3 e => st8.keep b o h1 h2 e⟩⟩
      rw [List.take_add_one, hc]
      show Paired _ (knownC 0 (cs.take j ++ [(cm, co)])) _
      rw [known_snoc, if_neg (fun q => q hm4), List.append_nil]
      exact Paired.mono' (fun x v (y : KnV w x v s6.heap) => let ⟨t, b, tp, tm, tb, e, h1, h2, h3⟩ := y; ⟨t, b, tp, tm, tb, e, st8.keep _ _ (tup_ne16 H6 h1 rfl) (ns_ne hn6 h1 (nd_tup _)) h1, h2, h3⟩) hP6
  · have hje : j = cs.length := by omega
    obtain ⟨oI, hoI, hcI, _⟩ := id hI5
    refine wpAny_pyNext_list_end rfl hI5 hDl5 (by simp; omega) fun h6 hs6 => ?_
    refine named0 fun s6 e60 e61 e62 => ?_
    dsimp only at e60
    subst e60
    have st6 : StpB (OnlyC I) NoG s5 s6 := ⟨e62, by rw [e61]; exact Nat.le_refl _, fun _ _ _ => by rw [e61], fun x => by rw [e61]; exact x, fun b o _ h2 e => hs6 b o h2 e, let ⟨ps, e, hok⟩ := H5.tab; ⟨ps, hs6 _ _ (Ne.symm hI16) e, hok⟩⟩
    have H6 := H5.stpB st6 (fun b hb => hb ▸ hIs)
    have hK6 := hs6 _ _ (Ne.symm hIK) hK5
    have hn6 := hn5.at' fun o e => hs6 _ o (Ne.symm hIL) e
    have hP6 := Paired.mono' (fun x v (y : KnV w x v s5.heap) => (show KnV w x v s6.heap from let ⟨t, b, tp, tm, tb, e, h1, h2, h3⟩ := y; ⟨t, b, tp, tm, tb, e, hs6 _ _ (cls_ne h1 rfl hoI hcI (by decide)) h1, h2, h3⟩)) hP5
    have hr6 : RelK L K s1 s6 := ⟨e62.trans hr5.os, e61.trans hr5.gens, fun b o h1 h2 h3 e => hs6 _ _ (ne_new hIn e).symm (hr5.keep b o h1 h2 h3 e)⟩
    obtain ⟨ps6, g6, W6, hps6, F6, N6, _, X6, T6, M6, hdone⟩ := ground H6 hn6 hLk [(K, _)] (List.forall_mem_cons.mpr ⟨⟨hK6, hKs⟩, List.forall_mem_nil _⟩) (List.forall_mem_cons.mpr ⟨nd_lst _, List.forall_mem_nil _⟩)
    simp only [List.cons_append, List.nil_append] at N6
    walk_at "my steps"
    refine ⟨K, rfl, ⟨ys, hK6, by rw [hje, List.take_length] at hP6; exact hP6⟩, hKs, Stp.of_ext ⟨fun b o q e => hr6.keep b o q ?_ (ne_new hKn e).symm (st1.ext.keep b o q e), H6.tab⟩ (hr6.gens.trans e11) (hr6.os.trans e12)⟩
    rw [hL]; exact Nat.ne_of_lt (Heap.lt_size e)
end Mine
end

section
open PySem PySem.W PyProof.Rows PySem.Calls PyProof.Rows.LCg
set_option maxRecDepth 100000
namespace Mine
local macro_rules | `(tactic| walk_at "my fill") => `(tactic| (have kf : PySem.Challenge.rw_ez0306_01 = PySem.Challenge.rw_ez0306_01 ∧ hd.heap_39 = hd.heap_39 := by k_fill; exact ⟨rfl, rfl⟩))
local macro_rules | `(tactic| walk_at "my guard") => `(tactic| ((fail_if_success (with_reducible show wpAny _ _ (call (Value.ref _) _ _) _ _ _)); (fail_if_success (with_reducible show _ → _)); (fail_if_success (with_reducible show ∃ _, _))))
local macro_rules | `(tactic| walk_at "my steps") => `(tactic| repeat' (first | (k_unfold; (try dsimp only)) | (walk_at "my guard"; walk1) | (walk_at "my guard"; dsimp only; walk_at "my guard"; walk1) | fail "no step"))
local macro_rules | `(tactic| walk_at "my mems") => `(tactic| (repeat (first | exact List.forall_mem_nil _ | refine List.forall_mem_cons.mpr ⟨by k_mem, ?_⟩)))
local macro_rules | `(tactic| walk_at "my rest") => `(tactic| (intro q hq; repeat (first | exact hq | apply List.Mem.tail)))

def textOf (ns : List Int) : List Int := ns.map fun k' => (((([48, 49, 50, 51, 65, 66, 32, 90, 36, 58, 97, 98, 122, 44, 55] : List UInt8).getD (k'.fmod 15).toNat 0).toNat : Nat) : Int)
theorem text_fact : ∀ i : Nat, i < 15 → 0 ≤ (((([48, 49, 50, 51, 65, 66, 32, 90, 36, 58, 97, 98, 122, 44, 55] : List UInt8).getD i 0).toNat : Nat) : Int) ∧ (((([48, 49, 50, 51, 65, 66, 32, 90, 36, 58, 97, 98, 122, 44, 55] : List UInt8).getD i 0).toNat : Nat) : Int) < 256 ∧ (((([48, 49, 50, 51, 65, 66, 32, 90, 36, 58, 97, 98, 122, 44, 55] : List UInt8).getD i 0).toNat : Nat) : Int) ≠ 10 := by decide
theorem text_mem {ns : List Int} : ∀ c ∈ textOf ns, 0 ≤ c ∧ c < 256 ∧ c ≠ 10 := by
  intro c hc
  obtain ⟨k, _, rfl⟩ := List.mem_map.mp hc
  have h1 := Int.fmod_nonneg_of_pos k (b := 15) (by decide)
  have h2 := Int.fmod_lt_of_pos k (b := 15) (by decide)
  exact text_fact _ (by omega)
theorem text_len (ns : List Int) : (textOf ns).length = ns.length := by simp [textOf]

set_option maxHeartbeats 8000000 in
theorem law_text {prog : Program} {w : World} {p : Program} {loose : List Str} {mg mb : Str → Option Value} {A : Around} {s : Shared} {D : Addr} {vs : List Value} {nn : Nat} {ns : List Int}
    (hA : A.handled = none) (hroom : A.depth + 20 < recursionLimit) (hun : A.units + 100 < cLine)
    (H : Hp w p loose mg mb s.heap) (hD : s.heap.get? D = some (listOf vs.toArray nn)) (hDs : Safe w D) (hi : IntsAre vs ns) (hlen : ns.length ≤ 64) :
    wpAny (model prog w) A (call (.ref 99) [.ref D]) (fun v s' => ∃ b t, v = .bytes b t ∧ KBw.bInts b = textOf ns ∧ Stp s s') (fun _ _ => False) s := by
  walk_at "my fill"
  obtain ⟨hdl, dp, fr, gd, un⟩ := A
  have hq : hdl = none := hA
  subst hq
  have hd2 : dp + 20 < recursionLimit := hroom
  have hu2 : un + 100 < cLine := hun
  clear hroom hun hA
  obtain ⟨ps, hps1, hps2⟩ := H.tab
  have hex : Held w s.heap [(16, tabO ps), (D, listOf vs.toArray nn)] := List.forall_mem_cons.mpr ⟨⟨hps1, safe16 w⟩, List.forall_mem_singleton.mpr ⟨hD, hDs⟩⟩
  refine' enter (w := w) H [(16, tabO ps), (D, listOf vs.toArray nn)] hex ?k1 ?k2 (show dp < recursionLimit by omega) ?k3 ?k4 ?k5 ?k6 ?k7 ?k8 ?k0
  case k1 => k_is
  case k2 => k_is
  case k3 => exact BindsTo.of_eq rfl
  case k4 => exact locs rfl
  case k5 => decide
  case k6 => rfl
  case k7 => rfl
  case k8 => rfl
  intro g L h₁ hg hL F N X T M
  have hLk : AboveK w L := hL ▸ AboveK.of H
  walk_at "my steps"
  rename IntsAre _ (List.map _ ns) => hI8
  rename News _ _ _ _ => N8
  rename Fr _ _ _ _ => F8
  refine KBa.make_K (ns := textOf ns) F8 N8 rfl ⟨_, (N8 _ (.head _)).1, rfl, _, rfl⟩ hI8 (fun c hc => ⟨(text_mem c hc).1, (text_mem c hc).2.1⟩) (by rw [text_len]; omega) fun h9 t9 k9 F9 N9 hin => ?_
  refine ⟨_, _, rfl, KBa.ints_make hin, ?_⟩
  subst hg
  exact (Gos.refl s).stp (ext_of F9 N9 (fun q hq => (hex q hq).1) (fun q hq _ => .tail _ hq) (by k_mem) hps2)
end Mine
end

section
open PySem PySem.W PyProof.Rows PySem.Calls PyProof.Rows.LCg
set_option maxRecDepth 100000
namespace Mine

theorem slot_isdigit : Slot "bytes" "isdigit" "bytes.isdigit" :=
  .of (owner := "bytes") (n := "isdigit") (by rw [typeLookup_type, builtinLookup_eq_fast]; kernel_rfl) (by decide +kernel) (by decide +kernel) (by decide +kernel)
    (by first | exact .inl (by decide +kernel) | exact .inr (by decide +kernel)) (by rw [isSubtype_type]; kernel_rfl)
theorem type_isdigit : typeOf (.builtin "bytes.isdigit") = pure (.type "method_descriptor") := by show builtinType _ = _; rw [builtinType_eq_fast]; kernel_rfl
theorem entry_isdigit : entryFor table "bytes.isdigit" = some Builtin.«bytes.isdigit» := entryFor_of_tree (by kernel_rfl)
theorem args_isdigit (a : Value) : argsOk "bytes.isdigit" ⟨[a], []⟩ := by
  unfold argsOk; kernel_rfl
theorem slot_join : Slot "bytes" "join" "bytes.join" :=
  .of (owner := "bytes") (n := "join") (by rw [typeLookup_type, builtinLookup_eq_fast]; kernel_rfl) (by decide +kernel) (by decide +kernel) (by decide +kernel)
    (by first | exact .inl (by decide +kernel) | exact .inr (by decide +kernel)) (by rw [isSubtype_type]; kernel_rfl)
theorem type_join : typeOf (.builtin "bytes.join") = pure (.type "method_descriptor") := by show builtinType _ = _; rw [builtinType_eq_fast]; kernel_rfl
theorem entry_join : entryFor table "bytes.join" = some Builtin.«bytes.join» := entryFor_of_tree (by kernel_rfl)
theorem args_join (a b : Value) : argsOk "bytes.join" ⟨[a, b], []⟩ := by
  unfold argsOk; kernel_rfl

section
variable {prog : Program} {w : World} {A : Around} {E : Value → Shared → Prop} {s : Shared} {b : Array UInt8} {t : Tok}
theorem isdigit_b {Q : Value → Shared → Prop} (h : Q (.bool (Builtin.Bytes.allOf Builtin.Bytes.isDigit b.toList)) s) : wpAny (model prog w) A (call (.builtin "bytes.isdigit") [.bytes b t]) Q E s := by
  refine wpAny_call_entry slot_isdigit (typeIs_bytes s b t) entry_isdigit ?_ (args_isdigit _)
  exact wpAny_of_eq (a := .done (.ret (.bool (Builtin.Bytes.allOf Builtin.Bytes.isDigit b.toList)))) rfl ⟨_, rfl, h⟩
theorem method_isdigit {M : Model} {pl : Sem Bool} {Q : Value × List Value → Shared → Prop} (h : Q (.builtin "bytes.isdigit", [.bytes b t]) s) : wpAny M A (getMethod (.bytes b t) "isdigit" pl) Q E s := by
  with_reducible exact KBd.method_of (.bytes b t) (typeIs_bytes _ _ _) slot_isdigit type_isdigit KBd.noRef h
theorem method_join {M : Model} {pl : Sem Bool} {Q : Value × List Value → Shared → Prop} (h : Q (.builtin "bytes.join", [.bytes b t]) s) : wpAny M A (getMethod (.bytes b t) "join" pl) Q E s := by
  with_reducible exact KBd.method_of (.bytes b t) (typeIs_bytes _ _ _) slot_join type_join KBd.noRef h

theorem take_eq {id : String} : Builtin.Bytes.takeBuffer? id (.bytes b t) 0 = pure (some (b, none)) := by
  unfold Builtin.Bytes.takeBuffer?
  rw [KBy.special_eq KBy.look_buffer]
  rw [KBy.own_buffer]
  show (Builtin.Bytes.buffer? id (.bytes b t) >>= fun r => pure (r.map (·, none))) = _
  rw [KBy.buffer_eq]; rfl
theorem takeQuiet_eq {id : String} : Builtin.Bytes.takeBufferQuiet? id (.bytes b t) 0 = pure (some (b, none)) := by
  unfold Builtin.Bytes.takeBufferQuiet?
  rw [take_eq]; rfl

theorem joinLetGo_ok {M : Model} {Q : Unit → Shared → Prop} : ∀ (l : List (Value × Option Value)) (keep : List Value), (∀ x ∈ l, x.2 = none) → Q () s → wpAny M A (Builtin.Bytes.joinLetGo l keep) Q E s
  | [], _, _, h => wpAny_pure h
  | (x, none) :: r, keep, hn, h => by
    unfold Builtin.Bytes.joinLetGo
    exact wpAny_bind (wpAny_letGo (joinLetGo_ok r keep (fun y hy => hn y (.tail _ hy)) h))
  | (x, some w) :: r, keep, hn, h => absurd (hn _ (.head _)) (by simp)

/-- the octets put together, with nothing between -/
theorem joined_nil (parts : List (Array UInt8)) : Builtin.Bytes.joined #[] parts = parts.foldl (· ++ ·) #[] := by
  unfold Builtin.Bytes.joined
  have : ∀ (l : List (Array UInt8)) (i : Nat) (acc : Array UInt8), (l.zipIdx i).foldl (fun out (p, i) => (if i > 0 then out ++ #[] else out) ++ p) acc = l.foldl (· ++ ·) acc := by
    intro l
    induction l with
    | nil => intro i acc; rfl
    | cons x l ih => intro i acc; rw [List.zipIdx_cons, List.foldl_cons, List.foldl_cons, ih]; congr 1; show (if i > 0 then acc ++ #[] else acc) ++ x = acc ++ x; split <;> simp
  exact this parts 0 #[]
def BytesV (ks : List Int) (v : Value) : Prop := ∃ b t, v = .bytes b t ∧ KBw.bInts b = ks
theorem Paired.at'' {α β : Type} {F : α → β → Prop} : ∀ {l₁ : List α} {l₂ : List β} {i : Nat} {a : α}, Paired F l₁ l₂ → l₁[i]? = some a → ∃ b, l₂[i]? = some b ∧ F a b
  | _, _, i, a, .nil, h => by simp at h
  | _, _, 0, a, .cons (b := b) h t, e => by
    simp only [List.getElem?_cons_zero, Option.some.injEq] at e; subst e
    exact ⟨b, rfl, h⟩
  | _, _, i + 1, a, .cons h t, e => by
    simp only [List.getElem?_cons_succ] at e ⊢
    exact Paired.at'' t e
theorem foldl_ints : ∀ (parts : List (Array UInt8)) (kss : List (List Int)) (acc : Array UInt8), parts.map KBw.bInts = kss → KBw.bInts (parts.foldl (· ++ ·) acc) = KBw.bInts acc ++ kss.flatten
  | [], _, acc, h => by subst h; simp
  | x :: parts, _, acc, h => by
    subst h
    rw [List.foldl_cons, foldl_ints parts _ _ rfl, KBw.ints_app rfl rfl]
    simp


theorem match_one {β : Type} (items : Array Value) (X : Value → β) (Y : Array Value → β) (P : β → Prop) (h1 : ∀ x, items = #[x] → P (X x)) (h2 : P (Y items)) : P (match (generalizing := false) items with | #[x] => X x | y => Y y) := by
  obtain ⟨l⟩ := items
  match l, h1, h2 with
  | [], _, h2 => exact h2
  | [x], h1, _ => exact h1 x rfl
  | x :: y :: r, _, h2 => exact h2

theorem join_b {D : Addr} {vals : List Value} {kss : List (List Int)} {Q : Value → Shared → Prop} (hl : s.heap.get? D = some (lst vals)) (hp : Paired BytesV kss vals) (hsz : kss.flatten.length ≤ 4096) (hv : vals.length ≤ 4096)
    (h : ∀ b t k, KBw.bInts b = kss.flatten → Q (.bytes b t) { s with toks := k }) : wpAny (model prog w) A (call (.builtin "bytes.join") [.bytes #[] t, .ref D]) Q E s := by
  refine wpAny_call_entry slot_join (typeIs_bytes s _ t) entry_join ?_ (args_join _ _)
  show wpAny _ _ (Builtin.Bytes.joinM .bytes ⟨[.bytes #[] t, .ref D], []⟩) _ _ s
  unfold Builtin.Bytes.joinM
  refine wpAny_bind (wpAny_of_eq (a := (Value.bytes #[] t, Value.ref D)) rfl ?_)
  show wpAny _ _ (Builtin.Bytes.joinItems (.ref D) >>= fun seq => _) _ _ s
  refine wpAny_bind ?_
  unfold Builtin.Bytes.joinItems
  refine wpAny_bind (wpAny_typeOf (T := "list") ⟨_, hl, rfl⟩ ?_)
  refine wpAny_pure ?_
  refine wpAny_bind (wpAny_seqItems hl rfl ?_)
  generalize hits : vals.toArray = items
  show wpAny _ _ (match (generalizing := false) items with | #[x] => _ | x => _) _ _ s
  refine match_one items (fun x => _) (fun _ => _) (P := fun m => wpAny (model prog w) A.in1 m (fun fin s' => ∃ v, fin = Fin.done (Flow.ret v) ∧ Q v s') E s) (fun x hx => ?_) ?_
  · rw [hx] at hits
    have hx' : vals = [x] := by
      have := congrArg Array.toList hits
      simpa using this
    subst hx'
    cases hp with
    | cons hb ht =>
      cases ht
      obtain ⟨b, t', rfl, hb⟩ := hb
      refine wpAny_bind (wpAny_typeOf (T := "bytes") (typeIs_bytes _ _ _) ?_)
      refine wpAny_bind (wpAny_rule ?_)
      refine wpAny_pure ⟨_, rfl, h b t' s.toks (by simpa using hb)⟩
  · subst hits
    refine wpAny_bind (wpAny_mono (Q := fun r s' => s' = s ∧ r.1.toList.map KBw.bInts = kss ∧ ∀ x ∈ r.2, x.2 = none) (E := fun _ _ => False) ?_ (fun r s' hr => ?_) (fun _ _ x => x.elim))
    · rw [Std.Legacy.Range.forIn_eq_forIn_range']
      refine wpAny_forIn_list _ (fun rest r s' => s' = s ∧ ∃ j, j ≤ vals.length ∧ rest = List.range' j (vals.length - j) ∧ r.1.toList.map KBw.bInts = kss.take j ∧ (∀ x ∈ r.2, x.2 = none ∧ x.1.onHeap = false)) _ ?_ ?_ _ _ ⟨rfl, 0, Nat.zero_le _, by simp [Std.Legacy.Range.size], rfl, fun _ hx => nomatch hx⟩
      · rintro i rest ⟨parts, taken⟩ s' ⟨rfl, j, hj, hr, hparts, htk⟩
        have hjl : j < vals.length := by
          rcases Nat.lt_or_ge j vals.length with q | q
          · exact q
          · rw [show vals.length - j = 0 by omega] at hr; cases hr
        have hr2 : i = j ∧ rest = List.range' (j + 1) (vals.length - (j + 1)) := by
          rw [show vals.length - j = (vals.length - (j + 1)) + 1 by omega, List.range'_succ] at hr
          cases hr; exact ⟨rfl, rfl⟩
        obtain ⟨rfl, rfl⟩ := hr2
        have hkl : i < kss.length := by rw [hp.length]; exact hjl
        obtain ⟨v, hvv, b, tb, rfl, hb⟩ := Paired.at'' hp (List.getElem?_eq_getElem hkl)
        have hx : vals.toArray.getD i Value.none = .bytes b tb := by
          rw [Array.getD_eq_getD_getElem?]; simp [hvv]
        have hany : (taken.any fun x => x.1.onHeap) = false := by
          rw [List.any_eq_false]; intro x hx; rw [(htk x hx).2]; exact Bool.false_ne_true
        refine wpAny_bind (wpAny_seqItems hl rfl ?_)
        dsimp only
        rw [hx]
        refine wpAny_ite_false (by rw [hany]; rfl) ?_
        refine wpAny_bind (wpAny_holding (wpAny_of_eq takeQuiet_eq ?_))
        dsimp only
        refine wpAny_bind (wpAny_seqItems hl rfl ?_)
        dsimp only
        refine wpAny_ite_false (by simp) ?_
        refine wpAny_pure ⟨rfl, i + 1, hjl, rfl, ?_, ?_⟩
        · rw [List.take_add_one, List.getElem?_eq_getElem hkl, ← hparts, ← hb]
          simp
        · intro y hy
          rcases List.mem_append.mp hy with hy | hy
          · exact htk y hy
          · rw [List.mem_singleton] at hy; subst hy; exact ⟨rfl, rfl⟩
      · rintro ⟨parts, taken⟩ s' ⟨rfl, j, hj, hr, hparts, htk⟩
        have hje : j = vals.length := by
          rcases Nat.lt_or_ge j vals.length with q | q
          · rw [show vals.length - j = (vals.length - (j + 1)) + 1 by omega, List.range'_succ] at hr; cases hr
          · omega
        refine ⟨rfl, ?_, fun x hx => (htk x hx).1⟩
        rw [hparts, hje, ← hp.length, List.take_length]
    · obtain ⟨rfl, hparts, htk⟩ := hr
      have hj := foldl_ints r.1.toList kss #[] hparts
      have htot : ∀ (l : List (Array UInt8)) (n : Nat), l.foldl (fun x1 x2 => x1 + x2.size) n = n + (l.map KBw.bInts).flatten.length := by
        intro l
        induction l with
        | nil => intro n; simp
        | cons x l ih => intro n; rw [List.foldl_cons, ih]; simp [KBw.ints_length]; omega
      refine wpAny_bind (wpAny_of_eq (a := (#[] : Array UInt8)) rfl ?_)
      refine wpAny_ite_false ?_ ?_
      · refine decide_eq_false (fun q => Bool.false_ne_true ((KBy.tooLong_not ?_).symm.trans q))
        rw [← Array.foldl_toList, htot, hparts]
        simp only [Array.size_empty, Nat.zero_mul, Nat.zero_add]
        omega
      refine wpAny_bind ?_
      show wpAny _ _ (mkBytes _) _ _ _
      refine wpAny_mkBytes ?_ ?_
      · refine wpAny_bind (wpAny_holding (wpAny_point ?_))
        refine wpAny_bind (joinLetGo_ok _ _ htk ?_)
        refine wpAny_pure ⟨_, rfl, h _ _ _ ?_⟩
        rw [joined_nil, hj]; rfl
      · rw [joined_nil, ← KBw.ints_length, hj, sizeLine_eq]
        show ([] ++ kss.flatten).length ≤ _
        rw [List.nil_append]; omega
end
end Mine
end

section
open PySem PySem.W PyProof.Rows PySem.Calls PyProof.Rows.LCg PySem.SeqAt
set_option maxRecDepth 100000
namespace Mine
section
variable {prog : Program} {w : World} {A : Around} {E : Value → Shared → Prop} {s : Shared}

theorem ints_inj {b c : Array UInt8} (h : KBw.bInts b = KBw.bInts c) : b.toList = c.toList := by
  have : ∀ l m : List UInt8, l.map (fun c => ((c.toNat : Nat) : Int)) = m.map (fun c => ((c.toNat : Nat) : Int)) → l = m := by
    intro l
    induction l with
    | nil => intro m h; cases m with
      | nil => rfl
      | cons _ _ => cases h
    | cons x l ih => intro m h; cases m with
      | nil => cases h
      | cons y m =>
        simp only [List.map_cons, List.cons.injEq] at h
        rw [ih m h.2]
        congr 1
        exact UInt8.toNat_inj.mp (by omega)
  exact this _ _ h

theorem EqAt_bytes {b c : Array UInt8} {t u : Tok} (h : KBw.bInts b = KBw.bInts c) : EqAt A s (.bytes b t) (.bytes c u) true := fun prog w E Q hq => eqBool_bytes (by rw [decide_eq_true (ints_inj h)]; exact hq)
theorem EqAt_int {i : Int} {t u : Tok} : EqAt A s (.int i t) (.int i u) true := by
  have := EqAt.int_int (A := A) (s := s) i t i u
  rwa [beq_self_eq_true] at this

theorem EqAt_tup {a b : Addr} {xs ys : List Value} (ha : s.heap.get? a = some (tupO xs)) (hb : s.heap.get? b = some (tupO ys)) (hl : xs.length = ys.length) (hu : A.units < cLine) (h : ∀ j (h1 : j < xs.length) (h2 : j < ys.length), EqAt A.in1 s xs[j] ys[j] true) :
    EqAt A s (.ref a) (.ref b) true := by
  by_cases e : a = b
  · subst e; exact EqAt.same _
  · have := RcAt.tuples (e := fun _ => true) (⟨_, ha, rfl, _, rfl⟩ : s.heap.IsTuple a xs.toArray) (⟨_, hb, rfl, _, rfl⟩ : s.heap.IsTuple b ys.toArray) hu (fun j h1 h2 => by
      have := h j (by simpa using h1) (by simpa using h2)
      simpa using this)
    have e2 : ((List.range (min xs.toArray.size ys.toArray.size)).all (fun _ => true) && xs.toArray.size == ys.toArray.size) = true := by simp [hl]
    rw [e2] at this
    exact EqAt.of_refs e this

theorem eq_lists {a b : Addr} {xs ys : List Value} {n m : Nat} {Q : Value → Shared → Prop} (ha : s.heap.get? a = some (listOf xs.toArray n)) (hb : s.heap.get? b = some (listOf ys.toArray m)) (hl : xs.length = ys.length) (hu : A.units < cLine) (h : ∀ j (h1 : j < xs.length) (h2 : j < ys.length), EqAt A.in1 s xs[j] ys[j] true)
    (hq : Q (.bool true) s) : wpAny (model prog w) A (compareOp .Eq (.ref a) (.ref b)) Q E s := by
  refine eq_listAt (e := fun _ => true) (⟨_, ha, rfl, _, rfl⟩ : s.heap.IsList a xs.toArray) (⟨_, hb, rfl, _, rfl⟩ : s.heap.IsList b ys.toArray) (by simpa using hl) hu (fun j h1 h2 => by
      have := h j (by simpa using h1) (by simpa using h2)
      simpa using this) ?_
  rw [show (List.range xs.toArray.size).all (fun _ => true) = true from by simp]
  exact hq
theorem ne_lists {a b : Addr} {xs ys : List Value} {n m : Nat} {Q : Value → Shared → Prop} (ha : s.heap.get? a = some (listOf xs.toArray n)) (hb : s.heap.get? b = some (listOf ys.toArray m)) (hl : xs.length = ys.length) (hu : A.units < cLine) (h : ∀ j (h1 : j < xs.length) (h2 : j < ys.length), EqAt A.in1 s xs[j] ys[j] true)
    (hq : Q (.bool false) s) : wpAny (model prog w) A (compareOp .NotEq (.ref a) (.ref b)) Q E s := by
  have := RcNeAt.lists (A := A) (e := fun _ => true) (⟨_, ha, rfl, _, rfl⟩ : s.heap.IsList a xs.toArray) (⟨_, hb, rfl, _, rfl⟩ : s.heap.IsList b ys.toArray) (by simpa using hl) hu (fun j h1 h2 => by
      have := h j (by simpa using h1) (by simpa using h2)
      simpa using this) prog w E Q
  rw [show (!(List.range xs.toArray.size).all (fun _ => true)) = false from by simp] at this
  exact this hq

theorem EqAt_ch {c : Int × List Int} {v v' : Value} (x : ChV w c v s.heap) (y : ChV w c v' s.heap) (hu : A.units + 1 < cLine) : EqAt A s v v' true := by
  obtain ⟨t, b, tm, tb, rfl, ht, hb, _⟩ := x
  obtain ⟨t', b', tm', tb', rfl, ht', hb', _⟩ := y
  refine EqAt_tup ht ht' rfl (by omega) fun j h1 h2 => ?_
  match j, h1, h2 with
  | 0, _, _ => exact EqAt_int
  | 1, _, _ => exact EqAt_bytes (hb.trans hb'.symm)
  | j + 2, h1, _ => exact absurd h1 (by simp)
theorem EqAt_kn {x : Nat × Int × List Int} {v v' : Value} (p : KnV w x v s.heap) (q : KnV w x v' s.heap) (hu : A.units + 1 < cLine) : EqAt A s v v' true := by
  obtain ⟨t, b, tp, tm, tb, rfl, ht, hb, _⟩ := p
  obtain ⟨t', b', tp', tm', tb', rfl, ht', hb', _⟩ := q
  refine EqAt_tup ht ht' rfl (by omega) fun j h1 h2 => ?_
  match j, h1, h2 with
  | 0, _, _ => exact EqAt_int
  | 1, _, _ => exact EqAt_int
  | 2, _, _ => exact EqAt_bytes (hb.trans hb'.symm)
  | j + 3, h1, _ => exact absurd h1 (by simp)
theorem Paired.of_idx {α β : Type} {F : α → β → Prop} : ∀ {l : List α} {m : List β}, m.length = l.length → (∀ (j : Nat) y, m[j]? = some y → ∃ a, l[j]? = some a ∧ F a y) → Paired F l m
  | [], [], _, _ => .nil
  | [], _ :: _, h, _ => by cases h
  | _ :: _, [], h, _ => by cases h
  | a :: l, b :: m, h, hh => by
    obtain ⟨a', e, hF⟩ := hh 0 b rfl
    simp only [List.getElem?_cons_zero, Option.some.injEq] at e; subst e
    exact .cons hF (Mine.Paired.of_idx (by simpa using h) fun j y hy => by
      have := hh (j + 1) y (by simpa using hy)
      simpa using this)
theorem Paired.both {α β γ : Type} {F : α → β → Prop} {G : α → γ → Prop} {l : List α} {m : List β} {n : List γ} (x : Paired F l m) (y : Paired G l n) (j : Nat) (h1 : j < m.length) (h2 : j < n.length) : ∃ a, F a m[j] ∧ G a n[j] := by
  have hj : j < l.length := by rw [x.length]; exact h1
  obtain ⟨b, hb, hF⟩ := Paired.at' x (List.getElem?_eq_getElem hj)
  obtain ⟨c, hc, hG⟩ := Paired.at' y (List.getElem?_eq_getElem hj)
  rw [List.getElem?_eq_getElem h1] at hb
  rw [List.getElem?_eq_getElem h2] at hc
  cases hb; cases hc
  exact ⟨_, hF, hG⟩
end
end Mine
end

section
open PySem PySem.W PyProof.Rows PySem.Calls PyProof.Rows.LCg
set_option maxRecDepth 100000
namespace Mine
section
variable {prog : Program} {w : World} {p : Program} {loose : List Str} {mg mb : Str → Option Value}

theorem comp_list {elt iter : PySem.Expr} {elts : List PySem.Expr} {x1} {tp : Pos} {scope : Scope} {cl : List (Str × Addr)} {pos : Pos} {env : Env} {A : Around} {s : Shared} {Q : Value → Shared → Prop} {vals : List Value} {D : Addr} {G : Nat → Value → Heap → Prop}
    (hA : A.handled = none) (hclos : closureFor scope env = pure cl) (hcell : ∀ y ∈ scope.names, y.2 ≠ .cell) (hkind : scope.kind = .function)
    (hnames : ∀ y ∈ scope.names, y.2 = .local → scope.names.lookup y.1 = some .local)
    (hs : ∀ x, foldedSetIterable iter env x = pure x) (hrefs : ∀ (j : Nat) v, vals[j]? = some v → ∃ T, v = .ref T) (hlen : vals.length ≤ 4096)
    (hG : ∀ j y h h', (∀ t o, o.cls = .type "tuple" → NotDict o → h.get? t = some o → h'.get? t = some o) → G j y h → G j y h')
    (h : wpAny (model prog w) A (eval iter env) (fun x s₁ => x = .ref D ∧ Hp w p loose mg mb s₁.heap ∧ s₁.heap.get? D = some (lst vals) ∧
      (∀ j v C sj, vals[j]? = some v → Hp w p loose mg mb sj.heap → AboveK w C → (∃ m, sj.heap.Ns C m) → (∀ b o, b ≠ 16 → s₁.heap.get? b = some o → sj.heap.get? b = some o) → s₁.heap.get? C = none → sj.gens = s₁.gens → sj.os = s₁.os →
        wpAny (model prog w) A (assign (.Tuple elts x1 tp) (compEnvC scope cl C env) v) (fun _ s₂ => wpAny (model prog w) A (eval elt (compEnvC scope cl C env)) (fun y s₃ => Hp w p loose mg mb s₃.heap ∧ StpB (OnlyC C) NoG sj s₃ ∧ s₃.gens = sj.gens ∧ (∃ m, s₃.heap.Ns C m) ∧ G j y s₃.heap) (fun _ _ => False) s₂) (fun _ _ => False) sj) ∧
      (∀ K ys s', s₁.heap.get? K = none → Safe w K → s'.heap.get? K = some (lst ys) → ys.length = vals.length → (∀ (j : Nat) y, ys[j]? = some y → G j y s'.heap) → Stp s₁ s' → s'.gens = s₁.gens → Q (.ref K) s')) (fun _ _ => False) s) :
    wpAny (model prog w) A (eval (.ListComp elt [⟨.Tuple elts x1 tp, iter, [], 0⟩] scope pos) env) Q (fun _ _ => False) s := by
  refine comp_rule hclos hcell hkind hnames hs (wpAny_mono h (fun x s₁ hx => ?_) fun _ _ e => e)
  obtain ⟨rfl, H1, hD1, step, fin⟩ := hx
  have hDl : s₁.heap.IsList D vals.toArray := ⟨_, hD1, rfl, _, rfl⟩
  refine wpAny_pyIter_list hDl ?_
  have hI0 : (s₁.heap.push { cls := .type "list_iterator", data := .fields #[.ref D, .int 0 0] }).IsListIter s₁.heap.objs.size D 0 := ⟨_, Heap.get?_push_size _ rfl, rfl, rfl⟩
  have hIn : s₁.heap.get? s₁.heap.objs.size = none := by
    cases q : s₁.heap.get? s₁.heap.objs.size with
    | none => rfl
    | some o => exact absurd (Heap.lt_size q) (Nat.lt_irrefl _)
  have up : ∀ b o, s₁.heap.get? b = some o → (s₁.heap.push { cls := .type "list_iterator", data := .fields #[.ref D, .int 0 0] }).get? b = some o := fun b o e => Heap.get?_push_of_some _ e
  have hIs : Safe w s₁.heap.objs.size := (AboveK.of H1).safe
  have hsz : (s₁.heap.push { cls := .type "list_iterator", data := .fields #[.ref D, .int 0 0] }).objs.size = s₁.heap.objs.size + 1 := Heap.size_push ..
  have hAk := AboveK.of H1
  have hfr : ∀ a, s₁.heap.objs.size ≤ a → s₁.heap.get? a = none := fun a ha => by
    cases q : s₁.heap.get? a with
    | none => rfl
    | some o => exact absurd (Heap.lt_size q) (Nat.not_lt.mpr ha)
  intro K C s4 hK hC eg eo hk hK4 hC4
  dsimp only at hK eg eo hk
  rw [hsz] at hK
  generalize s₁.heap.push { cls := .type "list_iterator", data := .fields #[.ref D, .int 0 0] } = hp at *
  have hKn : s₁.heap.get? K = none := hfr K (by rw [hK]; exact Nat.le_succ _)
  have hCn : s₁.heap.get? C = none := hfr C (by rw [hC, hK]; exact Nat.le_trans (Nat.le_succ _) (Nat.le_succ _))
  have hKk : AboveK w K := hAk.mono (by rw [hK]; exact Nat.le_succ _)
  have hCk : AboveK w C := hAk.mono (by rw [hC, hK]; exact Nat.le_trans (Nat.le_succ _) (Nat.le_succ _))
  have hIK : s₁.heap.objs.size ≠ K := by rw [hK]; exact Nat.ne_of_lt (Nat.lt_succ_self _)
  have hIC : s₁.heap.objs.size ≠ C := by rw [hC, hK]; exact Nat.ne_of_lt (Nat.lt_of_lt_of_le (Nat.lt_succ_self _) (Nat.le_succ _))
  have hKC : K ≠ C := by rw [hC]; exact Nat.ne_of_lt (Nat.lt_succ_self _)
  have hI16 : s₁.heap.objs.size ≠ 16 := Nat.ne_of_gt hAk.t
  have hK16 : K ≠ 16 := Nat.ne_of_gt hKk.t
  have hC16 : C ≠ 16 := Nat.ne_of_gt hCk.t
  have hD16 : D ≠ 16 := ne16_of H1 hD1 (by intro q; cases q)
  generalize s₁.heap.objs.size = I at *
  have hI4 : s4.heap.IsListIter I D 0 := hI0.at fun o e => hk _ _ e
  have up4 : ∀ b o, s₁.heap.get? b = some o → s4.heap.get? b = some o := fun b o e => hk _ _ (up _ _ e)
  have H4 : Hp w p loose mg mb s4.heap := H1.ext ⟨fun b o _ e => up4 b o e, let ⟨ps, e, hok⟩ := H1.tab; ⟨ps, up4 _ _ e, hok⟩⟩
  refine ⟨fun E' Q' hQ => ?_, ?_⟩
  · obtain ⟨o, ho, hc, hd⟩ := hI4
    exact wpAny_pyIter_listiter ⟨o, ho, hc, hd⟩ hQ
  clear hI0 up hk hfr
  refine kcp_loop (fun n s => ∃ j ys, n = vals.length + 1 - j ∧ j ≤ vals.length ∧ Hp w p loose mg mb s.heap ∧ s.heap.IsListIter I D j ∧ s.heap.get? K = some (lst ys) ∧ ys.length = j ∧ (∀ (i : Nat) y, ys[i]? = some y → G i y s.heap) ∧ (∃ m, s.heap.Ns C m) ∧ s.gens = s₁.gens ∧ s.os = s₁.os ∧ ∀ b o, b ≠ 16 → s₁.heap.get? b = some o → s.heap.get? b = some o) ?tn (vals.length + 1)
    ⟨0, [], rfl, Nat.zero_le _, H4, hI4, hK4, rfl, fun i y e => by simp at e, ⟨_, hC4⟩, eg, eo, fun b o _ e => up4 b o e⟩
  rintro n s5 ⟨j, ys, rfl, hj, H5, hI5, hK5, hyl, hG5, hC5, eg5, eo5, hk5⟩
  have hD5 := hk5 D _ hD16 hD1
  have hDl5 : s5.heap.IsList D vals.toArray := ⟨_, hD5, rfl, _, rfl⟩
  obtain ⟨oI, hoI, hcI, _⟩ := id hI5
  by_cases hlt : j < vals.length
  · obtain ⟨v, hv⟩ : ∃ v, vals[j]? = some v := ⟨_, List.getElem?_eq_getElem hlt⟩
    obtain ⟨T, rfl⟩ := hrefs j v hv
    refine wpAny_pyNext_list_item hI5 hDl5 (by simpa using hv) fun h6 hI6 hs6 => ?_
    refine wpAny_letOwnedTupleGo_listiter hI6 ?_
    refine named0 fun s6 e60 e61 e62 => ?_
    dsimp only at e60
    subst e60
    have st6 := StpB.of_same H5 hs6 hI16 e61 e62
    have H6 := H5.stpB st6 (fun b hb => hb ▸ hIs)
    have hK6 := hs6.extBut _ _ (Ne.symm hIK) hK5
    have hC6 : ∃ m, s6.heap.Ns C m := let ⟨m, hm⟩ := hC5; ⟨m, hm.sameBut hs6 (Ne.symm hIC)⟩
    have tI : ∀ t o, o.cls = .type "tuple" → NotDict o → s5.heap.get? t = some o → s6.heap.get? t = some o := fun t o h1 _ e => hs6.extBut _ _ (cls_ne e h1 hoI hcI (by decide)) e
    have hG6 : ∀ (i : Nat) y, ys[i]? = some y → G i y s6.heap := fun i y e => hG i y _ _ tI (hG5 i y e)
    have hk6 : ∀ b o, b ≠ 16 → s₁.heap.get? b = some o → s6.heap.get? b = some o := fun b o h1 e => hs6.extBut _ _ (ne_new hIn e).symm (hk5 b o h1 e)
    refine wpAny_mono (step j _ C s6 hv H6 hCk hC6 hk6 hCn (e61.trans eg5) (e62.trans eo5)) (fun _ s7 h7 => wpAny_mono h7 (fun y s8 h8 => ?_) (fun _ _ x => x.elim)) (fun _ _ x => x.elim)
    obtain ⟨H8, st8, eg8, hC8, hGy⟩ := h8
    have hK8 := st8.keep K _ hK16 hKC hK6
    have hI8 : s8.heap.IsListIter I D (j + 1) := hI6.at fun o e => st8.keep I o hI16 hIC e
    have hKs := hKk.safe
    refine append_at (hsz := by rw [List.size_toArray, hyl]; exact Nat.le_trans hj (Nat.le_trans hlen (by decide))) hK8 fun h9 hs9 hK9 => ?_
    have st9 : StpB (OnlyC K) NoG s8 { s8 with heap := h9 } := StpB.of_same H8 hs9 hK16 rfl rfl
    have tC : ∀ t o, o.cls = .type "tuple" → NotDict o → s6.heap.get? t = some o → s8.heap.get? t = some o := fun t o h1 h2 e => st8.keep t o (tup_ne16 H6 e h1) (let ⟨m, hm⟩ := hC6; ns_ne hm e h2) e
    have tK : ∀ t o, o.cls = .type "tuple" → NotDict o → s8.heap.get? t = some o → h9.get? t = some o := fun t o h1 h2 e => hs9.extBut _ _ (cls_ne e h1 hK8 rfl (by decide)) e
    refine ⟨vals.length + 1 - (j + 1), by omega, j + 1, ys ++ [y], rfl, hlt, H8.stpB st9 (fun b hb => hb ▸ hKs), hI8.at fun o e => hs9.extBut _ _ hIK e, hK9.trans (congrArg some (lst_snoc ys _)), by rw [List.length_append, hyl]; rfl, fun i z e => ?_, let ⟨m, hm⟩ := hC8; ⟨m, hm.sameBut hs9 (Ne.symm hKC)⟩, eg8.trans (e61.trans eg5), st8.os.trans (e62.trans eo5), fun b o h1 e => hs9.extBut _ _ (ne_new hKn e).symm (st8.keep b o h1 (ne_new hCn e).symm (hk6 b o h1 e))⟩
    rcases Nat.lt_or_ge i ys.length with q | q
    · rw [List.getElem?_append_left q] at e
      exact hG i z _ _ (fun t o h1 h2 e => tK t o h1 h2 (tC t o h1 h2 e)) (hG6 i z e)
    · rw [List.getElem?_append_right q] at e
      have hi0 : i - ys.length = 0 := by
        rcases Nat.eq_zero_or_pos (i - ys.length) with z' | z'
        · exact z'
        · rw [List.getElem?_eq_none (by simp only [List.length_cons, List.length_nil]; omega)] at e; cases e
      rw [hi0] at e
      simp only [List.getElem?_cons_zero, Option.some.injEq] at e
      subst e
      have hij : i = j := by omega
      subst hij
      exact hG i y _ _ tK hGy
  · have hje : j = vals.length := by omega
    refine wpAny_pyNext_list_end hA hI5 hDl5 (by simp; omega) fun h6 hs6 => ?_
    obtain ⟨m5, hm5⟩ := hC5
    refine ⟨m5, hm5.at' fun o e => hs6 _ o (Ne.symm hIC) e, fun h' hs' => ?_⟩
    have kk : ∀ b o, b ≠ I → b ≠ C → s5.heap.get? b = some o → h'.get? b = some o := fun b o h1 h2 e => hs'.extBut b o h2 (hs6 b o h1 e)
    have tt : ∀ t o, o.cls = .type "tuple" → NotDict o → s5.heap.get? t = some o → h'.get? t = some o := fun t o h1 h2 e => kk t o (cls_ne e h1 hoI hcI (by decide)) (ns_ne hm5 e h2) e
    refine fin K ys _ hKn hKk.safe (kk _ _ (Ne.symm hIK) hKC hK5) (hyl.trans hje) (fun i y e => hG i y _ _ tt (hG5 i y e)) (Stp.of_ext ⟨fun b o h1 e => kk b o (ne_new hIn e).symm (ne_new hCn e).symm (hk5 b o h1 e), let ⟨ps, e, hok⟩ := H5.tab; ⟨ps, kk _ _ (Ne.symm hI16) (Ne.symm hC16) e, hok⟩⟩ eg5 eo5) eg5
end
end Mine
end

section
open PySem PySem.W PyProof.Rows PySem.Calls PyProof.Rows.LCg
set_option maxRecDepth 100000
namespace Mine
section
variable {prog : Program} {w : World} {p : Program} {loose : List Str} {mg mb : Str → Option Value}

/-- a list comprehension over octets whose items are all True -/
theorem comp_bytes {elt iter : PySem.Expr} {x : Str} {px : Pos} {scope : Scope} {cl : List (Str × Addr)} {pos : Pos} {env : Env} {A : Around} {s : Shared} {Q : Value → Shared → Prop} {b : Array UInt8} {t : Tok}
    (hA : A.handled = none) (hclos : closureFor scope env = pure cl) (hcell : ∀ y ∈ scope.names, y.2 ≠ .cell) (hkind : scope.kind = .function)
    (hnames : ∀ y ∈ scope.names, y.2 = .local → scope.names.lookup y.1 = some .local) (hx : scope.names.lookup x = some .local)
    (hs : ∀ x, foldedSetIterable iter env x = pure x) (hlen : b.size ≤ 4096)
    (h : wpAny (model prog w) A (eval iter env) (fun v s₁ => v = .bytes b t ∧ Hp w p loose mg mb s₁.heap ∧
      (∀ (j : Nat) c C sj tk, b[j]? = some c → Hp w p loose mg mb sj.heap → AboveK w C → (∃ m, sj.heap.Ns C m ∧ m x = some (.int (c.toNat : Int) tk)) →
        wpAny (model prog w) A (eval elt (compEnvC scope cl C env)) (fun y s₃ => Hp w p loose mg mb s₃.heap ∧ StpB (OnlyC C) NoG sj s₃ ∧ s₃.gens = sj.gens ∧ (∃ m, s₃.heap.Ns C m) ∧ y = .bool true) (fun _ _ => False) sj) ∧
      (∀ K ys s', Safe w K → s'.heap.get? K = some (lst ys) → LSm.BoolsAre ys (List.replicate ys.length true) → Stp s₁ s' → s'.gens = s₁.gens → Q (.ref K) s')) (fun _ _ => False) s) :
    wpAny (model prog w) A (eval (.ListComp elt [⟨.Name x px, iter, [], 0⟩] scope pos) env) Q (fun _ _ => False) s := by
  refine comp_rule hclos hcell hkind hnames hs (wpAny_mono h (fun x s₁ hx => ?_) fun _ _ e => e)
  obtain ⟨rfl, H1, step, fin⟩ := hx
  refine KBw.pyIter_bytes ?_
  have hI0 : KBw.IsBytesIter (s₁.heap.push { cls := .type "bytes_iterator", data := .fields #[.bytes b t, .int 0 0] }) s₁.heap.objs.size b t 0 := ⟨_, Heap.get?_push_size _ rfl, rfl, rfl⟩
  have hIn : s₁.heap.get? s₁.heap.objs.size = none := by
    cases q : s₁.heap.get? s₁.heap.objs.size with
    | none => rfl
    | some o => exact absurd (Heap.lt_size q) (Nat.lt_irrefl _)
  have up : ∀ b' o, s₁.heap.get? b' = some o → (s₁.heap.push { cls := .type "bytes_iterator", data := .fields #[.bytes b t, .int 0 0] }).get? b' = some o := fun b o e => Heap.get?_push_of_some _ e
  have hIs : Safe w s₁.heap.objs.size := (AboveK.of H1).safe
  have hsz : (s₁.heap.push { cls := .type "bytes_iterator", data := .fields #[.bytes b t, .int 0 0] }).objs.size = s₁.heap.objs.size + 1 := Heap.size_push ..
  have hAk := AboveK.of H1
  have hfr : ∀ a, s₁.heap.objs.size ≤ a → s₁.heap.get? a = none := fun a ha => by
    cases q : s₁.heap.get? a with
    | none => rfl
    | some o => exact absurd (Heap.lt_size q) (Nat.not_lt.mpr ha)
  intro K C s4 hK hC eg eo hk hK4 hC4
  dsimp only at hK eg eo hk
  rw [hsz] at hK
  generalize s₁.heap.push { cls := .type "bytes_iterator", data := .fields #[.bytes b t, .int 0 0] } = hp at *
  have hKn : s₁.heap.get? K = none := hfr K (by rw [hK]; exact Nat.le_succ _)
  have hCn : s₁.heap.get? C = none := hfr C (by rw [hC, hK]; exact Nat.le_trans (Nat.le_succ _) (Nat.le_succ _))
  have hKk : AboveK w K := hAk.mono (by rw [hK]; exact Nat.le_succ _)
  have hCk : AboveK w C := hAk.mono (by rw [hC, hK]; exact Nat.le_trans (Nat.le_succ _) (Nat.le_succ _))
  have hIK : s₁.heap.objs.size ≠ K := by rw [hK]; exact Nat.ne_of_lt (Nat.lt_succ_self _)
  have hIC : s₁.heap.objs.size ≠ C := by rw [hC, hK]; exact Nat.ne_of_lt (Nat.lt_of_lt_of_le (Nat.lt_succ_self _) (Nat.le_succ _))
  have hKC : K ≠ C := by rw [hC]; exact Nat.ne_of_lt (Nat.lt_succ_self _)
  have hI16 : s₁.heap.objs.size ≠ 16 := Nat.ne_of_gt hAk.t
  have hK16 : K ≠ 16 := Nat.ne_of_gt hKk.t
  have hC16 : C ≠ 16 := Nat.ne_of_gt hCk.t
  generalize s₁.heap.objs.size = I at *
  have hat : ∀ {h h' : Heap} {i : Nat}, KBw.IsBytesIter h I b t i → (∀ o, h.get? I = some o → h'.get? I = some o) → KBw.IsBytesIter h' I b t i := fun x e => let ⟨o, ho, r⟩ := x; ⟨o, e _ ho, r⟩
  have hI4 : KBw.IsBytesIter s4.heap I b t 0 := hat hI0 fun o e => hk _ _ e
  have up4 : ∀ b o, s₁.heap.get? b = some o → s4.heap.get? b = some o := fun b o e => hk _ _ (up _ _ e)
  have H4 : Hp w p loose mg mb s4.heap := H1.ext ⟨fun b o _ e => up4 b o e, let ⟨ps, e, hok⟩ := H1.tab; ⟨ps, up4 _ _ e, hok⟩⟩
  refine ⟨fun E' Q' hQ => KBw.pyIter_self hI4 hQ, ?_⟩
  clear hI0 up hk hfr
  refine kcp_loop (fun n s => ∃ j ys, n = b.size + 1 - j ∧ j ≤ b.size ∧ Hp w p loose mg mb s.heap ∧ KBw.IsBytesIter s.heap I b t j ∧ s.heap.get? K = some (lst ys) ∧ ys.length = j ∧ LSm.BoolsAre ys (List.replicate ys.length true) ∧ (∃ m, s.heap.Ns C m) ∧ s.gens = s₁.gens ∧ s.os = s₁.os ∧ ∀ b o, b ≠ 16 → s₁.heap.get? b = some o → s.heap.get? b = some o) ?tn (b.size + 1)
    ⟨0, [], rfl, Nat.zero_le _, H4, hI4, hK4, rfl, .nil, ⟨_, hC4⟩, eg, eo, fun b o _ e => up4 b o e⟩
  rintro n s5 ⟨j, ys, rfl, hj, H5, hI5, hK5, hyl, hB5, hC5, eg5, eo5, hk5⟩
  obtain ⟨oI, hoI, hcI, _⟩ := id hI5
  by_cases hlt : j < b.size
  · obtain ⟨c, hc⟩ : ∃ c, b[j]? = some c := ⟨_, Array.getElem?_eq_getElem hlt⟩
    refine KBw.next_item hI5 hc fun h6 hI6 hs6 => ?_
    refine wpAny_pure ?_
    refine named0 fun s6 e60 e61 e62 => ?_
    dsimp only at e60
    subst e60
    have st6 := StpB.of_same H5 hs6 hI16 e61 e62
    have H6 := H5.stpB st6 (fun b hb => hb ▸ hIs)
    have hK6 := hs6.extBut _ _ (Ne.symm hIK) hK5
    obtain ⟨m5, hm5⟩ := hC5
    have hm6 := hm5.sameBut hs6 (Ne.symm hIC)
    have hk6 : ∀ b o, b ≠ 16 → s₁.heap.get? b = some o → s6.heap.get? b = some o := fun b o h1 e => hs6.extBut _ _ (ne_new hIn e).symm (hk5 b o h1 e)
    refine wpAny_assign_Name (wpAny_storeName_local (lookup_relabel_local hx) hm6 (fun h7 hn7 hs7 => ?_) (by simp [compEnvC, relabel, hkind]))
    refine same_state (s₀ := s6) hn7 hs7 rfl rfl fun s7 hn7 hs7 e71 e72 => ?_
    have hs7' : Heap.SameBut C s6.heap s7.heap := hs7
    have st7 : StpB (OnlyC C) NoG s6 s7 := StpB.of_same H6 hs7' hC16 e71 e72
    have H7 := H6.stpB st7 (fun b hb => hb ▸ hCk.safe)
    refine wpAny_mono (step j c C s7 s5.toks hc H7 hCk ⟨_, hn7, by simp⟩) (fun y s8 h8 => ?_) (fun _ _ x => x.elim)
    obtain ⟨H8, st8, eg8, hC8, rfl⟩ := h8
    have hK8 := st8.keep K _ hK16 hKC (st7.keep K _ hK16 hKC hK6)
    have hI8 : KBw.IsBytesIter s8.heap I b t (j + 1) := hat hI6 fun o e => st8.keep I o hI16 hIC (st7.keep I o hI16 hIC e)
    have hKs := hKk.safe
    refine append_at (hsz := by rw [List.size_toArray, hyl]; exact Nat.le_trans hj (Nat.le_trans hlen (by decide))) hK8 fun h9 hs9 hK9 => ?_
    have st9 : StpB (OnlyC K) NoG s8 { s8 with heap := h9 } := StpB.of_same H8 hs9 hK16 rfl rfl
    refine ⟨b.size + 1 - (j + 1), by omega, j + 1, ys ++ [.bool true], rfl, hlt, H8.stpB st9 (fun b hb => hb ▸ hKs), hat hI8 fun o e => hs9.extBut _ _ hIK e, hK9.trans (congrArg some (lst_snoc ys _)), by rw [List.length_append, hyl]; rfl, ?_, let ⟨m, hm⟩ := hC8; ⟨m, hm.sameBut hs9 (Ne.symm hKC)⟩, eg8.trans (e71.trans (e61.trans eg5)), st8.os.trans (e72.trans (e62.trans eo5)), fun b o h1 e => hs9.extBut _ _ (ne_new hKn e).symm (st8.keep b o h1 (ne_new hCn e).symm (st7.keep b o h1 (ne_new hCn e).symm (hk6 b o h1 e)))⟩
    have : ∀ ys : List Value, LSm.BoolsAre ys (List.replicate ys.length true) → LSm.BoolsAre (ys ++ [.bool true]) (List.replicate (ys ++ [Value.bool true]).length true) := by
      intro ys
      induction ys with
      | nil => intro _; exact .cons _ .nil
      | cons y ys ih =>
        intro hb
        cases hb with
        | cons _ hb => exact .cons _ (ih hb)
    exact this ys hB5
  · have hje : j = b.size := by omega
    refine KBw.next_end hA hI5 (by simp; omega) fun h6 hs6 => ?_
    obtain ⟨m5, hm5⟩ := hC5
    refine ⟨m5, hm5.at' fun o e => hs6 _ o (Ne.symm hIC) e, fun h' hs' => ?_⟩
    have kk : ∀ b o, b ≠ I → b ≠ C → s5.heap.get? b = some o → h'.get? b = some o := fun b o h1 h2 e => hs'.extBut b o h2 (hs6 b o h1 e)
    exact fin K ys _ hKk.safe (kk _ _ (Ne.symm hIK) hKC hK5) hB5 (Stp.of_ext ⟨fun b o h1 e => kk b o (ne_new hIn e).symm (ne_new hCn e).symm (hk5 b o h1 e), let ⟨ps, e, hok⟩ := H5.tab; ⟨ps, kk _ _ (Ne.symm hI16) (Ne.symm hC16) e, hok⟩⟩ eg5 eo5) eg5
end
end Mine
end

section
open PySem PySem.W PyProof.Rows PySem.Calls PyProof.Rows.LCg
set_option maxRecDepth 100000
namespace Mine
section
variable {prog : Program} {w : World} {A : Around} {E : Value → Shared → Prop} {s : Shared}
theorem assign3 {env : Env} {a b c : Str} {pa pb pc tp : Pos} {kk : Nat} {T : Addr} {x y z : Value} {m : Str → Option Value} {Q : Unit → Shared → Prop} (hh : A.handled = none) (ht : s.heap.IsTuple T #[x, y, z])
    (ha : env.kindOf a = some .local) (hb : env.kindOf b = some .local) (hc : env.kindOf c = some .local) (hp : (env.scope.kind == .class || (env.scope.kind == .module && env.locals != env.globals)) = false) (hn : s.heap.Ns env.locals m)
    (h : ∀ (h' : Heap) (tk : Nat), h'.Ns env.locals (fun q => if q = c then some z else if q = b then some y else if q = a then some x else m q) → (∀ c o, c ≠ env.locals → s.heap.get? c = some o → h'.get? c = some o) → Q () { s with heap := h', toks := tk }) :
    wpAny (model prog w) A (assign (.Tuple [.Name a pa, .Name b pb, .Name c pc] kk tp) env (.ref T)) Q E s := by
  refine wpAny_assign_Tuple hh ht rfl rfl fun h₁ he₁ => ?_
  have hL : env.locals ≠ s.heap.objs.size := Nat.ne_of_lt hn.lt
  have hn₁ : h₁.Ns env.locals m := hn.at' fun o e => he₁ _ o hL e
  have up₁ : ∀ c o, s.heap.get? c = some o → h₁.get? c = some o := fun c o e => he₁ c o (Nat.ne_of_lt (Heap.lt_size e)) e
  show wpAny _ _ (assignInOrder [assign (.Name a pa) env, assign (.Name b pb) env, assign (.Name c pc) env] [x, y, z]) _ _ _
  refine assignInOrder_cons ?_
  refine wpAny_assign_Name (wpAny_storeName_local ha hn₁ (fun h₂ hn₂ hs₂ => ?_) hp)
  refine assignInOrder_cons ?_
  refine wpAny_assign_Name (wpAny_storeName_local hb hn₂ (fun h₃ hn₃ hs₃ => ?_) hp)
  refine assignInOrder_cons ?_
  refine wpAny_assign_Name (wpAny_storeName_local hc hn₃ (fun h₄ hn₄ hs₄ => ?_) hp)
  refine assignInOrder_nil ?_
  exact h h₄ _ hn₄ fun c o hc e => hs₄.extBut c o hc (hs₃.extBut c o hc (hs₂.extBut c o hc (up₁ c o e)))
end
end Mine
end

section
open PySem PySem.W PyProof.Rows PySem.Calls PyProof.Rows.LCg
set_option maxRecDepth 100000
namespace Mine
section
variable {prog : Program} {w : World} {p : Program} {loose : List Str} {mg mb : Str → Option Value}

/-- a list comprehension of one clause and no test -/
theorem comp_ruleU {use : Option (Value → Sem Unit)} {elt target iter : PySem.Expr} {scope : Scope} {cl : List (Str × Addr)} {pos : Pos} {env : Env} {A : Around} {E : Value → Shared → Prop} {s : Shared} {Q : Value → Shared → Prop}
    (hclos : closureFor scope env = pure cl) (hcell : ∀ y ∈ scope.names, y.2 ≠ .cell) (hkind : scope.kind = .function)
    (hnames : ∀ y ∈ scope.names, y.2 = .local → scope.names.lookup y.1 = some .local)
    (hs : ∀ x, foldedSetIterable iter env x = pure x)
    (h : wpAny (model prog w) A (eval iter env) (fun x s₁ => wpAny (model prog w) A (pyIter x) (fun it s₂ =>
      ∀ D C s₄, D = s₂.heap.objs.size → C = D + 1 → s₄.gens = s₂.gens → s₄.os = s₂.os → (∀ b o, s₂.heap.get? b = some o → s₄.heap.get? b = some o) → s₄.heap.get? D = some (lst []) → s₄.heap.Ns C (fun _ => none) →
       (∀ (E' : Value → Shared → Prop) (Q' : Value → Shared → Prop), Q' it s₄ → wpAny (model prog w) A (pyIter it) Q' E' s₄) ∧
       codeAny (model prog w) A (.compLoop (.ListComp elt [⟨target, iter, [], 0⟩] scope pos) 0 it (.ref D) (compEnvC scope cl C env)) (compPost (model prog w) A E use Q (.ref D) C) s₄) E s₁) E s) :
    wpAny (model prog w) A (comprehension (.ListComp elt [⟨target, iter, [], 0⟩] scope pos) scope env (firstIterPos [⟨target, iter, [], 0⟩] pos) (newList []) false (eval iter env) use) Q E s := by
  refine wpAny_comprehension_free (use := use) rfl hs hclos hkind hnames (wpAny_mono h (fun x s₁ h₁ => wpAny_mono h₁ (fun it s₂ h₂ => ?_) fun _ _ e => e) fun _ _ e => e)
  refine wpAny_newObj_type (wpAny_newFunctionEnv hcell (by intro y hy; simp at hy) (fun h₁ hns₁ hsb₁ => ?_) hkind)
  dsimp only at hns₁ hsb₁ ⊢
  generalize hH2 : s₂.heap.push { cls := .type "list", dict := none, data := .seq ([] : List Value).toArray } = H2 at hns₁ hsb₁ ⊢
  have hC : H2.objs.size = s₂.heap.objs.size + 1 := by rw [← hH2, Heap.size_push]
  have hDC : s₂.heap.objs.size ≠ H2.objs.size := by rw [hC]; exact Nat.ne_of_lt (Nat.lt_succ_self _)
  have below : ∀ b, b < s₂.heap.objs.size → b ≠ H2.objs.size := fun b hb => by rw [hC]; exact Nat.ne_of_lt (Nat.lt_succ_of_lt hb)
  have old : ∀ b o, s₂.heap.get? b = some o → h₁.get? b = some o := fun b o e => hsb₁.extBut b o (below b (Heap.lt_size e)) (Heap.get?_push_of_some _ (hH2 ▸ Heap.get?_push_of_some _ e))
  have hacc : h₁.get? s₂.heap.objs.size = some (lst []) := hsb₁.extBut _ _ hDC (Heap.get?_push_of_some _ (hH2 ▸ Heap.get?_push_size _ rfl))
  obtain ⟨q1, q2⟩ := h₂ s₂.heap.objs.size H2.objs.size { s₂ with heap := h₁, toks := s₂.toks + ([] : List (Str × Value)).length } rfl hC rfl rfl old hacc hns₁
  exact codeAny_compStart_list q2 (q1 _ _ q2)


theorem assign_list {y : Str} {py spos : Pos} {m : Str → Option Value} {elt iter : PySem.Expr} {elts : List PySem.Expr} {x1} {tp : Pos} {scope : Scope} {cl : List (Str × Addr)} {pos : Pos} {env : Env} {A : Around} {s : Shared} {Q : Flow → Shared → Prop} {G : Nat → Value → Heap → Prop}
    (hsw : swapsWith (.ListComp elt [⟨.Tuple elts x1 tp, iter, [], 0⟩] scope pos) (some (.Name y py)) spos.line env = pure true) (hy : env.kindOf y = some .local) (hpp : (env.scope.kind == .class || (env.scope.kind == .module && env.locals != env.globals)) = false)
    (hA : A.handled = none) (hclos : closureFor scope env = pure cl) (hcell : ∀ y ∈ scope.names, y.2 ≠ .cell) (hkind : scope.kind = .function)
    (hnames : ∀ y ∈ scope.names, y.2 = .local → scope.names.lookup y.1 = some .local)
    (hs : ∀ x, foldedSetIterable iter env x = pure x) 
    (hG : ∀ j y h h', (∀ t o, o.cls = .type "tuple" → NotDict o → h.get? t = some o → h'.get? t = some o) → G j y h → G j y h')
    (h : wpAny (model prog w) A (eval iter env) (fun x s₁ => ∃ (D : Addr) (vals : List Value), x = .ref D ∧ (∀ (j : Nat) v, vals[j]? = some v → ∃ T, v = .ref T) ∧ vals.length ≤ 4096 ∧ Hp w p loose mg mb s₁.heap ∧ s₁.heap.Ns env.locals m ∧ s₁.heap.get? D = some (lst vals) ∧
      (∀ j v C sj, vals[j]? = some v → Hp w p loose mg mb sj.heap → AboveK w C → (∃ m, sj.heap.Ns C m) → (∀ b o, b ≠ 16 → s₁.heap.get? b = some o → sj.heap.get? b = some o) → s₁.heap.get? C = none → sj.gens = s₁.gens → sj.os = s₁.os →
        wpAny (model prog w) A (assign (.Tuple elts x1 tp) (compEnvC scope cl C env) v) (fun _ s₂ => wpAny (model prog w) A (eval elt (compEnvC scope cl C env)) (fun y s₃ => Hp w p loose mg mb s₃.heap ∧ StpB (OnlyC C) NoG sj s₃ ∧ s₃.gens = sj.gens ∧ (∃ m, s₃.heap.Ns C m) ∧ G j y s₃.heap) (fun _ _ => False) s₂) (fun _ _ => False) sj) ∧
      (∀ K ys s', s₁.heap.get? K = none → Safe w K → s'.heap.get? K = some (lst ys) → ys.length = vals.length → (∀ (j : Nat) z, ys[j]? = some z → G j z s'.heap) → s'.heap.Ns env.locals (fun z => if z = y then some (.ref K) else m z) → StpB (OnlyC env.locals) NoG s₁ s' → s'.gens = s₁.gens → Q .next s')) (fun _ _ => False) s) :
    wpAny (model prog w) A (exec (.Assign [.Name y py] (.ListComp elt [⟨.Tuple elts x1 tp, iter, [], 0⟩] scope pos) spos) env) Q (fun _ _ => False) s := by
  rw [exec_Assign_Name_used _ _ _ _ hsw]
  refine wpAny_bind (wpAny_standAt (wpAny_bind ?_))
  show wpAny _ A (do let _ ← comprehension (.ListComp elt [⟨.Tuple elts x1 tp, iter, [], 0⟩] scope pos) scope env _ (newList []) false (eval iter env) (some (assign (.Name y py) env))) _ _ s
  refine wpAny_bind (wpAny_mono (comp_ruleU (use := some (assign (.Name y py) env)) (Q := fun _ s' => Q .next s') hclos hcell hkind hnames hs (wpAny_mono h (fun x s₁ hx => ?_) fun _ _ e => e)) (fun _ s' hq => wpAny_pure (wpAny_pure hq)) fun _ _ e => e)
  obtain ⟨D, vals, rfl, hrefs, hlen, H1, hnL, hD1, step, fin⟩ := hx
  have hDl : s₁.heap.IsList D vals.toArray := ⟨_, hD1, rfl, _, rfl⟩
  refine wpAny_pyIter_list hDl ?_
  have hI0 : (s₁.heap.push { cls := .type "list_iterator", data := .fields #[.ref D, .int 0 0] }).IsListIter s₁.heap.objs.size D 0 := ⟨_, Heap.get?_push_size _ rfl, rfl, rfl⟩
  have hIn : s₁.heap.get? s₁.heap.objs.size = none := by
    cases q : s₁.heap.get? s₁.heap.objs.size with
    | none => rfl
    | some o => exact absurd (Heap.lt_size q) (Nat.lt_irrefl _)
  have up : ∀ b o, s₁.heap.get? b = some o → (s₁.heap.push { cls := .type "list_iterator", data := .fields #[.ref D, .int 0 0] }).get? b = some o := fun b o e => Heap.get?_push_of_some _ e
  have hIs : Safe w s₁.heap.objs.size := (AboveK.of H1).safe
  have hsz : (s₁.heap.push { cls := .type "list_iterator", data := .fields #[.ref D, .int 0 0] }).objs.size = s₁.heap.objs.size + 1 := Heap.size_push ..
  have hAk := AboveK.of H1
  have hfr : ∀ a, s₁.heap.objs.size ≤ a → s₁.heap.get? a = none := fun a ha => by
    cases q : s₁.heap.get? a with
    | none => rfl
    | some o => exact absurd (Heap.lt_size q) (Nat.not_lt.mpr ha)
  intro K C s4 hK hC eg eo hk hK4 hC4
  dsimp only at hK eg eo hk
  rw [hsz] at hK
  generalize s₁.heap.push { cls := .type "list_iterator", data := .fields #[.ref D, .int 0 0] } = hp at *
  have hKn : s₁.heap.get? K = none := hfr K (by rw [hK]; exact Nat.le_succ _)
  have hCn : s₁.heap.get? C = none := hfr C (by rw [hC, hK]; exact Nat.le_trans (Nat.le_succ _) (Nat.le_succ _))
  have hKk : AboveK w K := hAk.mono (by rw [hK]; exact Nat.le_succ _)
  have hCk : AboveK w C := hAk.mono (by rw [hC, hK]; exact Nat.le_trans (Nat.le_succ _) (Nat.le_succ _))
  have hIK : s₁.heap.objs.size ≠ K := by rw [hK]; exact Nat.ne_of_lt (Nat.lt_succ_self _)
  have hIC : s₁.heap.objs.size ≠ C := by rw [hC, hK]; exact Nat.ne_of_lt (Nat.lt_of_lt_of_le (Nat.lt_succ_self _) (Nat.le_succ _))
  have hKC : K ≠ C := by rw [hC]; exact Nat.ne_of_lt (Nat.lt_succ_self _)
  have hI16 : s₁.heap.objs.size ≠ 16 := Nat.ne_of_gt hAk.t
  have hK16 : K ≠ 16 := Nat.ne_of_gt hKk.t
  have hC16 : C ≠ 16 := Nat.ne_of_gt hCk.t
  have hD16 : D ≠ 16 := ne16_of H1 hD1 (by intro q; cases q)
  generalize s₁.heap.objs.size = I at *
  have hI4 : s4.heap.IsListIter I D 0 := hI0.at fun o e => hk _ _ e
  have up4 : ∀ b o, s₁.heap.get? b = some o → s4.heap.get? b = some o := fun b o e => hk _ _ (up _ _ e)
  have H4 : Hp w p loose mg mb s4.heap := H1.ext ⟨fun b o _ e => up4 b o e, let ⟨ps, e, hok⟩ := H1.tab; ⟨ps, up4 _ _ e, hok⟩⟩
  refine ⟨fun E' Q' hQ => ?_, ?_⟩
  · obtain ⟨o, ho, hc, hd⟩ := hI4
    exact wpAny_pyIter_listiter ⟨o, ho, hc, hd⟩ hQ
  clear hI0 up hk hfr
  refine kcp_loop (fun n s => ∃ j ys, n = vals.length + 1 - j ∧ j ≤ vals.length ∧ Hp w p loose mg mb s.heap ∧ s.heap.IsListIter I D j ∧ s.heap.get? K = some (lst ys) ∧ ys.length = j ∧ (∀ (i : Nat) y, ys[i]? = some y → G i y s.heap) ∧ (∃ m, s.heap.Ns C m) ∧ s.gens = s₁.gens ∧ s.os = s₁.os ∧ ∀ b o, b ≠ 16 → s₁.heap.get? b = some o → s.heap.get? b = some o) ?tn (vals.length + 1)
    ⟨0, [], rfl, Nat.zero_le _, H4, hI4, hK4, rfl, fun i y e => by simp at e, ⟨_, hC4⟩, eg, eo, fun b o _ e => up4 b o e⟩
  rintro n s5 ⟨j, ys, rfl, hj, H5, hI5, hK5, hyl, hG5, hC5, eg5, eo5, hk5⟩
  have hD5 := hk5 D _ hD16 hD1
  have hDl5 : s5.heap.IsList D vals.toArray := ⟨_, hD5, rfl, _, rfl⟩
  obtain ⟨oI, hoI, hcI, _⟩ := id hI5
  by_cases hlt : j < vals.length
  · obtain ⟨v, hv⟩ : ∃ v, vals[j]? = some v := ⟨_, List.getElem?_eq_getElem hlt⟩
    obtain ⟨T, rfl⟩ := hrefs j v hv
    refine wpAny_pyNext_list_item hI5 hDl5 (by simpa using hv) fun h6 hI6 hs6 => ?_
    refine wpAny_letOwnedTupleGo_listiter hI6 ?_
    refine named0 fun s6 e60 e61 e62 => ?_
    dsimp only at e60
    subst e60
    have st6 := StpB.of_same H5 hs6 hI16 e61 e62
    have H6 := H5.stpB st6 (fun b hb => hb ▸ hIs)
    have hK6 := hs6.extBut _ _ (Ne.symm hIK) hK5
    have hC6 : ∃ m, s6.heap.Ns C m := let ⟨m, hm⟩ := hC5; ⟨m, hm.sameBut hs6 (Ne.symm hIC)⟩
    have tI : ∀ t o, o.cls = .type "tuple" → NotDict o → s5.heap.get? t = some o → s6.heap.get? t = some o := fun t o h1 _ e => hs6.extBut _ _ (cls_ne e h1 hoI hcI (by decide)) e
    have hG6 : ∀ (i : Nat) y, ys[i]? = some y → G i y s6.heap := fun i y e => hG i y _ _ tI (hG5 i y e)
    have hk6 : ∀ b o, b ≠ 16 → s₁.heap.get? b = some o → s6.heap.get? b = some o := fun b o h1 e => hs6.extBut _ _ (ne_new hIn e).symm (hk5 b o h1 e)
    refine wpAny_mono (step j _ C s6 hv H6 hCk hC6 hk6 hCn (e61.trans eg5) (e62.trans eo5)) (fun _ s7 h7 => wpAny_mono h7 (fun y s8 h8 => ?_) (fun _ _ x => x.elim)) (fun _ _ x => x.elim)
    obtain ⟨H8, st8, eg8, hC8, hGy⟩ := h8
    have hK8 := st8.keep K _ hK16 hKC hK6
    have hI8 : s8.heap.IsListIter I D (j + 1) := hI6.at fun o e => st8.keep I o hI16 hIC e
    have hKs := hKk.safe
    refine append_at (hsz := by rw [List.size_toArray, hyl]; exact Nat.le_trans hj (Nat.le_trans hlen (by decide))) hK8 fun h9 hs9 hK9 => ?_
    have st9 : StpB (OnlyC K) NoG s8 { s8 with heap := h9 } := StpB.of_same H8 hs9 hK16 rfl rfl
    have tC : ∀ t o, o.cls = .type "tuple" → NotDict o → s6.heap.get? t = some o → s8.heap.get? t = some o := fun t o h1 h2 e => st8.keep t o (tup_ne16 H6 e h1) (let ⟨m, hm⟩ := hC6; ns_ne hm e h2) e
    have tK : ∀ t o, o.cls = .type "tuple" → NotDict o → s8.heap.get? t = some o → h9.get? t = some o := fun t o h1 h2 e => hs9.extBut _ _ (cls_ne e h1 hK8 rfl (by decide)) e
    refine ⟨vals.length + 1 - (j + 1), by omega, j + 1, ys ++ [y], rfl, hlt, H8.stpB st9 (fun b hb => hb ▸ hKs), hI8.at fun o e => hs9.extBut _ _ hIK e, hK9.trans (congrArg some (lst_snoc ys _)), by rw [List.length_append, hyl]; rfl, fun i z e => ?_, let ⟨m, hm⟩ := hC8; ⟨m, hm.sameBut hs9 (Ne.symm hKC)⟩, eg8.trans (e61.trans eg5), st8.os.trans (e62.trans eo5), fun b o h1 e => hs9.extBut _ _ (ne_new hKn e).symm (st8.keep b o h1 (ne_new hCn e).symm (hk6 b o h1 e))⟩
    rcases Nat.lt_or_ge i ys.length with q | q
    · rw [List.getElem?_append_left q] at e
      exact hG i z _ _ (fun t o h1 h2 e => tK t o h1 h2 (tC t o h1 h2 e)) (hG6 i z e)
    · rw [List.getElem?_append_right q] at e
      have hi0 : i - ys.length = 0 := by
        rcases Nat.eq_zero_or_pos (i - ys.length) with z' | z'
        · exact z'
        · rw [List.getElem?_eq_none (by simp only [List.length_cons, List.length_nil]; omega)] at e; cases e
      rw [hi0] at e
      simp only [List.getElem?_cons_zero, Option.some.injEq] at e
      subst e
      have hij : i = j := by omega
      subst hij
      exact hG i y _ _ tK hGy
  · have hje : j = vals.length := by omega
    refine wpAny_pyNext_list_end hA hI5 hDl5 (by simp; omega) fun h6 hs6 => ?_
    obtain ⟨m5, hm5⟩ := hC5
    have hLI : env.locals ≠ I := fun q => let ⟨_, _, _, e, _⟩ := hnL; (ne_new hIn e) q.symm
    have hLC : env.locals ≠ C := fun q => let ⟨_, _, _, e, _⟩ := hnL; (ne_new hCn e) q.symm
    have hLK : env.locals ≠ K := fun q => let ⟨_, _, _, e, _⟩ := hnL; (ne_new hKn e) q.symm
    have hL16 : env.locals ≠ 16 := L16 H1 ⟨_, hnL⟩
    have hnL5 := hnL.at' fun o e => hk5 _ o hL16 e
    show wpAny _ A (assign (.Name y py) env (.ref K)) _ _ _
    refine wpAny_assign_Name (wpAny_storeName_local hy (hnL5.at' fun o e => hs6 _ o hLI e) (fun h₂ hn₂ hs₂ => ?_) hpp)
    refine ⟨m5, (hm5.at' fun o e => hs6 _ o (Ne.symm hIC) e).sameBut hs₂ (Ne.symm hLC), fun h' hs' => ?_⟩
    have kk : ∀ b o, b ≠ I → b ≠ C → b ≠ env.locals → s5.heap.get? b = some o → h'.get? b = some o := fun b o h1 h2 h3 e => hs'.extBut b o h2 (hs₂.extBut b o h3 (hs6 b o h1 e))
    have tt : ∀ t o, o.cls = .type "tuple" → NotDict o → s5.heap.get? t = some o → h'.get? t = some o := fun t o h1 h2 e => kk t o (cls_ne e h1 hoI hcI (by decide)) (ns_ne hm5 e h2) (ns_ne hnL5 e h2) e
    exact fin K ys _ hKn hKk.safe (kk _ _ (Ne.symm hIK) hKC (Ne.symm hLK) hK5) (hyl.trans hje) (fun i z e => hG i z _ _ tt (hG5 i z e)) (hn₂.sameBut hs' hLC) ⟨eo5, by show s₁.gens.size ≤ s5.gens.size; rw [eg5]; exact Nat.le_refl _, fun _ _ _ => by show s5.gens[_]? = _; rw [eg5], fun q => by show AllBare s5.gens; rw [eg5]; exact q, fun b o h1 h2 e => kk b o (ne_new hIn e).symm (ne_new hCn e).symm h2 (hk5 b o h1 e), let ⟨ps, e, hok⟩ := H5.tab; ⟨ps, kk _ _ (Ne.symm hI16) (Ne.symm hC16) (Ne.symm hL16) e, hok⟩⟩ eg5
end
end Mine
end

section
open PySem PySem.W PyProof.Rows PySem.Calls PyProof.Rows.LCg
set_option maxRecDepth 100000
namespace Mine
local macro_rules | `(tactic| walk_at "my fill") => `(tactic| (have kf : PySem.Challenge.rw_ez0306_01 = PySem.Challenge.rw_ez0306_01 ∧ hd.heap_39 = hd.heap_39 := by k_fill; exact ⟨rfl, rfl⟩))
local macro_rules | `(tactic| walk_at "my guard") => `(tactic| ((fail_if_success (with_reducible show wpAny _ _ (pyIter (Value.ref _)) _ _ _)); (fail_if_success (with_reducible show wpAny _ _ (eval (PySem.Expr.ListComp _ _ _ _) _) _ _ _)); (fail_if_success (with_reducible show wpAny _ _ (exec (Stmt.For _ _ _ _ _) _) _ _ _)); (fail_if_success (with_reducible show wpAny _ _ (call (Value.builtin "bytes.join") _ _) _ _ _)); (fail_if_success (with_reducible show wpAny _ _ (call (Value.builtin "all") _) _ _ _)); (fail_if_success (with_reducible show wpAny _ _ (call (Value.ref _) _ _) _ _ _)); (fail_if_success (with_reducible show wpAny _ _ (compareOp CmpOp.NotEq _ _) _ _ _)); (fail_if_success (with_reducible show wpAny _ _ (compareOp CmpOp.In _ _) _ _ _)); (fail_if_success (with_reducible show wpAny _ _ (compareOp CmpOp.Eq (Value.bytes _ _) _) _ _ _)); (fail_if_success (with_reducible show wpAny _ _ (call (Value.builtin "bytes.isdigit") _) _ _ _)); (fail_if_success (with_reducible show wpAny _ _ (subscriptTail _ _ (Value.ref _) (Value.int _ _)) _ _ _)); (fail_if_success (with_reducible show _ → _)); (fail_if_success (with_reducible show ∃ _, _)); (fail_if_success (with_reducible show _ = _ ∧ _)); (fail_if_success (with_reducible show Hp _ _ _ _ _ _ ∧ _))))
local macro_rules | `(tactic| walk_at "my steps") => `(tactic| repeat' (first | (k_unfold; (try dsimp only)) | (walk_at "my guard"; walk1) | (walk_at "my guard"; dsimp only; walk_at "my guard"; walk1) | fail "no step"))
local macro_rules | `(tactic| walk_at "my mems") => `(tactic| (repeat (first | exact List.forall_mem_nil _ | refine List.forall_mem_cons.mpr ⟨by k_mem, ?_⟩)))
local macro_rules | `(tactic| walk_at "my rest") => `(tactic| (intro q hq; repeat (first | exact hq | apply List.Mem.tail)))
local macro_rules | `(tactic| walk_at "getMethod bytes") => `(tactic| (k_here; first | (with_reducible refine method_isdigit ?_) | (with_reducible refine method_join ?_)))
local macro_rules | `(tactic| walk_at "call builtin:bytes.isdigit") => `(tactic| (k_here; refine isdigit_b ?_))

theorem Ns_one {a : Str} {h : Heap} {C : Addr} {m : Str → Option Value} {v : Value} (n : h.Ns C m) (h1 : m a = some v) : h.Ns C (fun y => if y = a then some v else m y) := by
  refine Ns_congr n fun y => ?_
  by_cases q1 : y = a
  · subst q1; rw [if_pos rfl]; exact h1
  · rw [if_neg q1]
theorem Paired.one {α β : Type} {F : α → β → Prop} {a : α} {vs : List β} (h : Paired F [a] vs) : ∃ v, vs = [v] ∧ F a v := by
  cases h with
  | cons h t => cases t; exact ⟨_, rfl, h⟩
theorem mem_join_len : ∀ {cs : List (Int × List Int)} {c : Int × List Int}, c ∈ cs → c.2.length ≤ (cs.flatMap (·.2)).length
  | x :: cs, c, h => by
    rw [List.flatMap_cons, List.length_append]
    rcases List.mem_cons.mp h with rfl | h
    · exact Nat.le_add_right _ _
    · exact Nat.le_trans (mem_join_len h) (Nat.le_add_left _ _)
theorem digits_all {b : Array UInt8} (h0 : b.toList ≠ []) (h : ∀ x ∈ KBw.bInts b, x ∈ gsNum) : Builtin.Bytes.allOf Builtin.Bytes.isDigit b.toList = true := by
  unfold Builtin.Bytes.allOf
  have : ∀ l : List UInt8, (∀ x ∈ l.map (fun c => ((c.toNat : Nat) : Int)), x ∈ gsNum) → l.all Builtin.Bytes.isDigit = true := by
    intro l hl
    rw [List.all_eq_true]
    intro c hc
    have h1 := hl _ (List.mem_map_of_mem hc)
    have h2 : 48 ≤ ((c.toNat : Nat) : Int) ∧ ((c.toNat : Nat) : Int) ≤ 57 := by
      have : ∀ x ∈ gsNum, 48 ≤ x ∧ x ≤ 57 := by decide
      exact this _ h1
    unfold Builtin.Bytes.isDigit
    have h3 : (48 : UInt8) ≤ c := UInt8.le_iff_toNat_le.mpr (by have : (48 : UInt8).toNat = 48 := rfl; omega)
    have h4 : c ≤ (57 : UInt8) := UInt8.le_iff_toNat_le.mpr (by have : (57 : UInt8).toNat = 57 := rfl; omega)
    simp [h3, h4]
  rw [this b.toList h]
  cases e : b.toList with
  | nil => exact absurd e h0
  | cons _ _ => rfl
theorem Ns_norm3' {a b c : Str} {h : Heap} {C : Addr} {m : Str → Option Value} {v1 v2 v3 : Value} (n : h.Ns C m) (h1 : m a = some v1) (h2 : m b = some v2) (h3 : m c = some v3) :
    h.Ns C (fun y => if y = a then some v1 else if y = b then some v2 else if y = c then some v3 else m y) := by
  refine Ns_congr n fun y => ?_
  by_cases q1 : y = a
  · subst q1; rw [if_pos rfl]; exact h1
  · rw [if_neg q1]
    by_cases q2 : y = b
    · subst q2; rw [if_pos rfl]; exact h2
    · rw [if_neg q2]
      by_cases q3 : y = c
      · subst q3; rw [if_pos rfl]; exact h3
      · rw [if_neg q3]
theorem old_lt {w : World} {p : Program} {loose : List Str} {mg mb : Str → Option Value} {L : Addr} {m : Str → Option Value} {s s' : Shared} (H : Hp w p loose mg mb s'.heap) (x : StpB (OnlyC L) NoG s s') (n : s'.heap.Ns L m) : ∀ b o, s.heap.get? b = some o → b < s'.heap.objs.size := by
  intro b o e
  by_cases h1 : b = 16
  · subst h1; obtain ⟨ps, q, _⟩ := H.tab; exact Heap.lt_size q
  · by_cases h2 : b = L
    · subst h2; exact n.lt
    · exact Heap.lt_size (x.keep b o h1 h2 e)
theorem none_of_lt {h : Heap} {n : Nat} (hl : ∀ b o, h.get? b = some o → b < n) : h.get? n = none := by
  cases q : h.get? n with
  | none => rfl
  | some o => exact absurd (hl n o q) (Nat.lt_irrefl _)

set_option maxHeartbeats 8000000 in
theorem law_right {prog : Program} {w : World} {p : Program} {loose : List Str} {mg mb : Str → Option Value} {A : Around} {s : Shared} {d : Array UInt8} {t1 t2 : Tok} {k : Nat} {ks : List Int}
    (hA : A.handled = none) (hroom : A.depth + 100 < recursionLimit) (hun : A.units + 800 < cLine)
    (H : Hp w p loose mg mb s.heap) (hks : KBw.bInts d = ks) (hl2 : ks.length ≤ 64) (hnl : ∀ c ∈ ks, c ≠ 10) (hk0 : 0 < k) (hk1 : k < 10) :
    wpAny (model prog w) A (call (.ref 116) [.bytes d t1, .int (k : Int) t2]) (fun v s' => v = .bool true ∧ Stp s s') (fun _ _ => False) s := by
  walk_at "my fill"
  obtain ⟨hdl, dp, fr, gd, un⟩ := A
  have hq : hdl = none := hA
  subst hq
  have hd2 : dp + 100 < recursionLimit := hroom
  have hu2 : un + 800 < cLine := hun
  clear hroom hun hA
  obtain ⟨ps, hps1, hps2⟩ := H.tab
  have hex : Held w s.heap [(16, tabO ps)] := List.forall_mem_singleton.mpr ⟨hps1, safe16 w⟩
  refine' enter (w := w) H [(16, tabO ps)] hex ?k1 ?k2 (show dp < recursionLimit by omega) ?k3 ?k4 ?k5 ?k6 ?k7 ?k8 ?k0
  case k1 => k_is
  case k2 => k_is
  case k3 => exact BindsTo.of_eq rfl
  case k4 => exact locs rfl
  case k5 => decide
  case k6 => rfl
  case k7 => rfl
  case k8 => rfl
  intro g L h₁ hg hL F N X T M
  have hk9 := hk1
  have hLk : AboveK w L := hL ▸ AboveK.of H
  walk_at "my steps"
  rename News _ _ _ _ => N1
  rename Fr _ _ _ _ => F1
  refine named (s := Shared.mk _ _ _ _ _) F1 N1 fun s1 e11 e12 F1 N1 => ?_
  have st1 : Stp s s1 := Stp.of_ext (by subst hg; exact ext_of F1 N1 (fun q hq => (hex q hq).1) (fun q hq _ => hq) (by k_mem) hps2) e11 e12
  have H1 := H.ext st1.ext
  refine wpAny_mono (law_chunks ?_ ?_ ?_ H1 hks hl2 hnl hk0 hk1) (fun v s2 hv => ?_) (fun _ _ x => x.elim)
  · rfl
  · exact Nat.lt_of_le_of_lt (Nat.add_le_add_right (Nat.le_of_eq (m := dp + 1) rfl) 80) (by omega)
  · exact Nat.lt_of_le_of_lt (Nat.add_le_add_right (Nat.le_of_eq (m := un + 3) rfl) 600) (by omega)
  obtain ⟨D, rfl, ⟨vals, hD2, hP2⟩, hDn, hDs, st2⟩ := hv
  have H2 := H1.ext st2.ext
  have hn2 := st2.ns F1.ns hLk
  clear F1 N1
  obtain ⟨ps2, g2, W2, hps2x, F2, N2, _, X2, T2, M2, hdone2⟩ := ground H2 hn2 hLk [(D, _)] (List.forall_mem_cons.mpr ⟨⟨hD2, hDs⟩, List.forall_mem_nil _⟩) (List.forall_mem_cons.mpr ⟨nd_lst _, List.forall_mem_nil _⟩)
  simp only [List.cons_append, List.nil_append] at N2
  walk_at "my steps"
  rename News _ _ _ _ => N3
  rename Fr _ _ _ _ => F3
  refine named (s := Shared.mk _ _ _ _ _) F3 N3 fun s3 e31 e32 F3 N3 => ?_
  obtain ⟨H3, st3⟩ := hdone2 s3 _ _ _ e31 e32 F3 N3 (by walk_at "my rest") (by walk_at "my mems") (by k_mem) hps2x
  have hD3 := News.get N3 (show (D, lst vals) ∈ _ by k_mem)
  have hL16 : L ≠ 16 := Nat.ne_of_gt hLk.t
  have hP3 := Paired.mono' (fun c v (x : ChV w c v s2.heap) => x.keeps fun t o h1 h2 e => st3.keep t o (tup_ne16 H2 e h1) (ns_ne hn2 e h2) e) hP2
  have hcl : (chunksOf k ks).length ≤ 64 := Nat.le_trans (chunksOf_len hk0 ks) hl2
  have hjoin := chunksOf_join hk0 ks
  have hok := chunkOk hk0 ks
  have h44 := chunksOf_no44 hk0 ks
  have st03 : StpB (OnlyC L) NoG s s3 := ((st1.trans st2).toB (Cs := OnlyC L) (Gs := NoG)).trans st3
  generalize chunksOf k ks = cs at *
  have hvl : vals.length = cs.length := hP3.length.symm
  refine comp_list (cl := []) (vals := vals) (D := D) (G := fun j y _ => ∃ b t, y = .bytes b t ∧ (cs.map (·.2))[j]? = some (KBw.bInts b)) (p := p) (loose := loose) (mg := mg) (mb := mb) rfl rfl (by decide) rfl (by decide) (fun _ => rfl) ?_ (by rw [hvl]; omega) (fun j y h h' _ x => x) ?_
  · intro j v hv
    obtain ⟨c, hc⟩ : ∃ c, cs[j]? = some c := ⟨_, List.getElem?_eq_getElem (by have := (List.getElem?_eq_some_iff.mp hv).1; omega)⟩
    obtain ⟨v', hv', t, _, _, _, e, _⟩ := Paired.at' hP3 hc
    rw [hv] at hv'; cases hv'; exact ⟨t, e⟩
  walk_at "my steps"
  refine ⟨rfl, H3, hD3, ?_, ?_⟩
  · intro j v C sj hv Hj hCk hCn hkj hCf eg eo
    obtain ⟨m, hn⟩ := hCn
    obtain ⟨c, hc⟩ : ∃ c, cs[j]? = some c := ⟨_, List.getElem?_eq_getElem (by have := (List.getElem?_eq_some_iff.mp hv).1; omega)⟩
    obtain ⟨v', hv', t, b, tm, tb, rfl, ht, hb, hts⟩ := Paired.at' hP3 hc
    rw [hv] at hv'; cases hv'
    have htj := hkj t _ (tup_ne16 H3 ht rfl) ht
    refine kcp_assign rfl ⟨_, htj, rfl, _, rfl⟩ (lookup_relabel_local rfl) (lookup_relabel_local rfl) rfl hn fun h' tk hn' hk' => ?_
    refine named0 fun s4 e40 e41 e42 => ?_
    dsimp only at e40
    subst e40
    have st4 : StpB (OnlyC C) NoG sj s4 := ⟨e42, by rw [e41]; exact Nat.le_refl _, fun _ _ _ => by rw [e41], fun x => by rw [e41]; exact x, fun b o _ h2 e => hk' b o h2 e, let ⟨ps, e, hok⟩ := Hj.tab; ⟨ps, hk' _ _ (Ne.symm (Nat.ne_of_gt hCk.t)) e, hok⟩⟩
    have H4 := Hj.stpB st4 (fun b hb => hb ▸ hCk.safe)
    obtain ⟨ps4, g4, W4, hps4, F4, N4, _, X4, T4, M4, hdone4⟩ := ground H4 hn' hCk [] (List.forall_mem_nil _) (List.forall_mem_nil _)
    simp only [List.nil_append] at N4
    walk_at "my steps"
    all_goals (first | exact (0 : Addr) | exact (Str.ofString "" : Str) | exact Value.none | exact ([] : List (Str × Addr)) | skip)
    refine ⟨H4, st4, e41, ⟨_, hn'⟩, b, tb, rfl, ?_⟩
    rw [List.getElem?_map, hc, hb]; rfl
  · intro K ys s4 hKn hKs hK hyl hGy st4 eg4
    have H4 := H3.ext st4.ext
    have hn4 := st4.ns F3.ns hLk
    have hD4 := st4.ext.keep _ _ (ne16_of H3 hD3 (by intro q; cases q)) hD3
    clear F3 N3
    obtain ⟨ps4, g4, W4, hps4, F4, N4, _, X4, T4, M4, hdone4⟩ := ground H4 hn4 hLk [(K, _), (D, _)] (List.forall_mem_cons.mpr ⟨⟨hK, hKs⟩, List.forall_mem_cons.mpr ⟨⟨hD4, hDs⟩, List.forall_mem_nil _⟩⟩) (List.forall_mem_cons.mpr ⟨nd_lst _, List.forall_mem_cons.mpr ⟨nd_lst _, List.forall_mem_nil _⟩⟩)
    simp only [List.cons_append, List.nil_append] at N4
    walk_at "my steps"
    refine join_b (kss := cs.map (·.2)) hK (Paired.of_idx (by rw [hyl, hvl, List.length_map]) fun j y hy => ?_) ?_ (by rw [hyl, hvl]; omega) fun b5 t5 k5 hb5 => ?_
    · obtain ⟨b, t, rfl, e⟩ := hGy j y hy
      exact ⟨_, e, b, t, rfl, rfl⟩
    · rw [← List.flatMap_def, hjoin]; omega
    rw [← List.flatMap_def, hjoin] at hb5
    walk_at "my steps"
    refine ne_bytes ?_
    rw [show (b5.toList != d.toList) = false from by rw [ints_inj (hb5.trans hks.symm)]; simp]
    walk_at "my steps"
    rename News _ _ _ _ => N5
    rename Fr _ _ _ _ => F5
    refine named (s := Shared.mk _ _ _ _ _) F5 N5 fun s5 e51 e52 F5 N5 => ?_
    obtain ⟨H5, st5⟩ := hdone4 s5 _ _ _ e51 e52 F5 N5 (by walk_at "my rest") (by walk_at "my mems") (by k_mem) hps4
    refine wpAny_For ?_
    walk_at "my steps"
    have hD5 := News.get N5 (show (D, lst vals) ∈ _ by k_mem)
    refine len_list (⟨_, hD5, rfl, _, rfl⟩ : s5.heap.IsList D vals.toArray) (by simp; omega) ?_
    rw [show vals.toArray.size = cs.length from by simpa using hvl]
    walk_at "my steps"
    rename News _ _ _ _ => N6
    rename Fr _ _ _ _ => F6
    refine wpAny_pyIter_range (by assumption) (small_one (by decide) (by decide) (by omega) (by omega)) ?_
    rw [rangeSize_nat]
    obtain ⟨H6x, st6x⟩ := hdone4 (Shared.mk _ s4.gens s4.drawn 0 s4.os) _ _ _ rfl rfl F6 N6 (by walk_at "my rest") (by walk_at "my mems") (by k_mem) hps4
    have hlt6 := old_lt H6x st6x F6.ns
    refine named_i (s := Shared.mk _ _ _ _ _) (fun I => s4.heap.get? I = none) (none_of_lt hlt6) (F6.push _) (N6.push F6 _) fun I s6 hIn e61 e62 F6' N6' => ?_
    obtain ⟨H6, st6⟩ := hdone4 s6 _ _ _ (e61.trans e51) (e62.trans e52) F6' N6' (by walk_at "my rest") (by walk_at "my mems") (by k_mem) hps4
    obtain ⟨u6, hn6⟩ : ∃ u : Str → Option Value, s6.heap.Ns L (fun y => if y = Str.ofString "text" then some (.bytes d t1) else if y = Str.ofString "least" then some (.int (k : Int) t2) else if y = Str.ofString "chunks" then some (.ref D) else u y) := ⟨_, Ns_norm3' F6'.ns rfl rfl rfl⟩
    have e70 : (((cs.length : Int) - 0).toNat : Int) = (cs.length : Int) - ((0 : Nat) : Int) := by omega
    rw [e70] at N6'
    have hI6 : IsRangeIter s6.heap I ((0 : Nat) : Int) ((cs.length : Int) - ((0 : Nat) : Int)) 1 := (N6' _ (.head _)).1
    have hIL : I ≠ L := (N6' _ (.head _)).2.1
    have hIs : Safe w I := safe_of N6' X4 T4 M4 (.head _)
    have hI16 : I ≠ 16 := ne16_of H6 hI6 (by intro q; cases q)
    have hD16 : D ≠ 16 := ne16_of H4 hD4 (by intro q; cases q)
    have hDL : D ≠ L := ns_ne hn4 hD4 (nd_lst _)
    have hP4 := Paired.mono' (fun c v (x : ChV w c v s3.heap) => x.keeps fun t o h1 h2 e => st4.ext.keep t o (tup_ne16 H3 e h1) e) hP3
    clear F6 N6 F6' N6' F5 N5 hdone4 hdone2 hlt6 st6x H6x
    refine codeAny_forLoop_any (fun n s => ∃ j u, n = cs.length + 1 - j ∧ j ≤ cs.length ∧ Hp w p loose mg mb s.heap ∧ IsRangeIter s.heap I ((j : Nat) : Int) ((cs.length : Int) - ((j : Nat) : Int)) 1 ∧ s.heap.Ns L (fun y => if y = Str.ofString "text" then some (.bytes d t1) else if y = Str.ofString "least" then some (.int (k : Int) t2) else if y = Str.ofString "chunks" then some (.ref D) else u y) ∧ StpB (OnlyC L) NoG s4 s) ?tn (cs.length + 1)
      ⟨0, u6, rfl, Nat.zero_le _, H6, hI6, hn6, st6⟩
    clear hI6 hn6 st6 H6 e61 e62 e51 e52
    rintro n s7 ⟨j, u, rfl, hj, H7, hI7, hn7, st7⟩
    have hD7 := st7.keep D _ hD16 hDL hD4
    by_cases hlt : j < cs.length
    · refine wpAny_pyNext_range_item hI7 (by omega) fun h8 hI8 hs8 => ?_
      refine wpAny_pure ?_
      refine named0 fun s8 e80 e81 e82 => ?_
      dsimp only at e80
      subst e80
      have st8 := StpB.of_same H7 hs8 hI16 e81 e82
      have H8 := H7.stpB st8 (fun b hb => hb ▸ hIs)
      have hn8 := hn7.sameBut hs8 (Ne.symm hIL)
      obtain ⟨c, hc⟩ : ∃ c, cs[j]? = some c := ⟨_, List.getElem?_eq_getElem hlt⟩
      obtain ⟨v, hv, t, b, tm, tb, rfl, ht, hb, hts⟩ := Paired.at' hP4 hc
      have st48 : StpB (OnlyC L) NoG s4 s8 := ⟨e82.trans st7.os, by rw [e81]; exact st7.gsz, fun i h1 h2 => by rw [e81]; exact st7.gk i h1 h2, fun x => by rw [e81]; exact st7.bare x, fun b o h1 h2 e => hs8.extBut _ _ (ne_new hIn e).symm (st7.keep b o h1 h2 e), H8.tab⟩
      have ht8 := st48.keep t _ (tup_ne16 H4 ht rfl) (ns_ne hn4 ht (nd_tup _)) ht
      have hD8 := st48.keep D _ hD16 hDL hD4
      have hI8' : IsRangeIter s8.heap I ((j + 1 : Nat) : Int) ((cs.length : Int) - ((j + 1 : Nat) : Int)) 1 := by
        have e1 : ((j : Nat) : Int) + 1 = ((j + 1 : Nat) : Int) := by push_cast; rfl
        have e2 : ((cs.length : Int) - ((j : Nat) : Int)) - 1 = (cs.length : Int) - ((j + 1 : Nat) : Int) := by push_cast; omega
        rw [e1, e2] at hI8; exact hI8
      have hcok := hok c (List.mem_of_getElem? hc)
      clear st8 hs8 hI8 hn7 hI7 st7 H7 hD7
      obtain ⟨cm, co⟩ := c
      have hbl : b.toList ≠ [] := by
        intro q
        have h9 : KBw.bInts b = [] := by unfold KBw.bInts; rw [q]; rfl
        exact hcok.ne (hb ▸ h9)
      have hcm : cm = 1 ∨ cm = 2 ∨ cm = 4 := hcok.mode
      dsimp only at hb ht8 ht
      have hcmem := List.mem_of_getElem? hc
      have hcol : co.length ≤ 64 := by
        have := mem_join_len hcmem
        rw [hjoin] at this
        exact Nat.le_trans this hl2
      have hcon : ∀ x ∈ co, x ≠ 10 := fun x hx => hnl x (by rw [← hjoin]; exact List.mem_flatMap.mpr ⟨_, hcmem, hx⟩)
      rcases hcm with rfl | rfl | rfl
      all_goals
        obtain ⟨ps8, g8, W8, hps8, F8, N8, _, X8, T8, M8, hdone8⟩ := ground H8 hn8 hLk [(t, _), (D, _)] (List.forall_mem_cons.mpr ⟨⟨ht8, hts⟩, List.forall_mem_cons.mpr ⟨⟨hD8, hDs⟩, List.forall_mem_nil _⟩⟩) (List.forall_mem_cons.mpr ⟨nd_tup _, List.forall_mem_cons.mpr ⟨nd_lst _, List.forall_mem_nil _⟩⟩)
        simp only [List.cons_append, List.nil_append] at N8
        walk_at "my steps"
        rename News _ _ _ _ => N9
        have hD9 := News.get N9 (show (D, lst vals) ∈ _ by k_mem)
        refine item_list (⟨_, hD9, rfl, _, rfl⟩ : Heap.IsList _ D vals.toArray) (by omega) (by omega) (by simpa using hv) ?_
        walk_at "my steps"
        refine eq_bytes ?_
        rw [show (b.toList == (#[] : Array UInt8).toList) = false from by simpa using hbl]
        walk_at "my steps"
      · refine isdigit_b ?_
        rw [digits_all hbl (by rw [hb]; exact hcok.num rfl)]
        walk_at "my steps"
        · have hco : co = ks := by
            rcases hcok.len (show (1 : Int) ≠ 4 by decide) with q | q
            · have q' : k ≤ co.length := q
              omega
            · exact q
          refine ne_bytes ?_
          rw [show (b.toList != d.toList) = false from by rw [ints_inj (hb.trans (hco.trans hks.symm))]; simp]
          walk_at "my steps"
          rename News _ _ _ _ => N10
          rename Fr _ _ _ _ => F10
          refine named (s := Shared.mk _ _ _ _ _) F10 N10 fun s10 e101 e102 F10 N10 => ?_
          obtain ⟨H10, st10⟩ := hdone8 s10 _ _ _ e101 e102 F10 N10 (by walk_at "my rest") (by walk_at "my mems") (by k_mem) hps8
          refine wpAny_mono (law_chunks ?_ ?_ ?_ H10 hb hcol hcon hk0 hk9) (fun v s11 hv => ?_) (fun _ _ x => x.elim)
          · rfl
          · exact Nat.lt_of_le_of_lt (Nat.add_le_add_right (Nat.le_of_eq (m := dp + 1) rfl) 80) (by omega)
          · exact Nat.lt_of_le_of_lt (Nat.add_le_add_right (Nat.le_of_eq (m := un + 3) rfl) 600) (by omega)
          obtain ⟨D2, rfl, ⟨vals2, hD2v, hP2v⟩, hD2n, hD2s, st11⟩ := hv
          have hag : chunksOf k co = [(1, co)] := hcok.again (show (1 : Int) ≠ 4 by decide)
          rw [hag] at hP2v
          obtain ⟨v2, rfl, hch⟩ := Paired.one hP2v
          have H11 := H10.ext st11.ext
          have hn11 := st11.ns F10.ns hLk
          clear F10 N10
          obtain ⟨ps11, g11, W11, hps11, F11, N11, _, X11, T11, M11, hdone11⟩ := ground H11 hn11 hLk [(D2, _)] (List.forall_mem_cons.mpr ⟨⟨hD2v, hD2s⟩, List.forall_mem_nil _⟩) (List.forall_mem_cons.mpr ⟨nd_lst _, List.forall_mem_nil _⟩)
          simp only [List.cons_append, List.nil_append] at N11
          walk_at "my steps"
          rename News _ _ _ _ => N12
          rename Fr _ _ _ _ => F12
          have hd12 := fun tk => hdone11 (Shared.mk _ s11.gens s11.drawn tk s11.os) _ _ _ rfl rfl F12 N12 (by walk_at "my rest") (by walk_at "my mems") (by k_mem) hps11
          have hch12 := hch.keeps (h' := (Shared.mk _ s11.gens s11.drawn 0 s11.os).heap) fun t o h1 h2 e => (hd12 0).2.keep t o (tup_ne16 H11 e h1) (ns_ne hn11 e h2) e
          refine ne_lists (xs := [v2]) (ys := [.ref _]) (News.get N12 (show (D2, lst [v2]) ∈ _ by k_mem)) (N12 _ (.head _)).1 rfl ?_ (fun q h1 h2 => ?_) ?_
          · exact Nat.lt_of_le_of_lt (Nat.le_of_eq (m := un + 3) rfl) (by omega)
          · match q, h1, h2 with
            | 0, _, _ =>
              refine EqAt_ch hch12 ⟨_, b, _, tb, rfl, (N12 _ (.tail _ (.head _))).1, hb, safe_of N12 X11 T11 M11 (.tail _ (.head _))⟩ ?_
              exact Nat.lt_of_le_of_lt (Nat.add_le_add_right (Nat.le_of_eq (m := un + 4) rfl) 1) (by omega)
            | q + 1, h1, _ => exact absurd h1 (by simp)
          walk_at "my steps"
          rename News _ _ _ _ => N13
          rename Fr _ _ _ _ => F13
          have hd13 := fun tk => hdone11 (Shared.mk _ s11.gens s11.drawn tk s11.os) _ _ _ rfl rfl F13 N13 (by walk_at "my rest") (by walk_at "my mems") (by k_mem) hps11
          refine ⟨cs.length + 1 - (j + 1), by omega, j + 1, _, rfl, hlt, (hd13 0).1, (hd13 0).2.keep _ _ hI16 hIL (st11.ext.keep _ _ hI16 (st10.keep _ _ hI16 hIL hI8')), Ns_norm3' F13.ns rfl rfl rfl, ((st48.trans st10).trans (st11.toB (Cs := OnlyC L) (Gs := NoG))).trans (hd13 _).2⟩
        · skip
          rename News _ _ _ _ => N10
          rename Fr _ _ _ _ => F10
          refine named (s := Shared.mk _ _ _ _ _) F10 N10 fun s10 e101 e102 F10 N10 => ?_
          obtain ⟨H10, st10⟩ := hdone8 s10 _ _ _ e101 e102 F10 N10 (by walk_at "my rest") (by walk_at "my mems") (by k_mem) hps8
          refine wpAny_mono (law_chunks ?_ ?_ ?_ H10 hb hcol hcon hk0 hk9) (fun v s11 hv => ?_) (fun _ _ x => x.elim)
          · rfl
          · exact Nat.lt_of_le_of_lt (Nat.add_le_add_right (Nat.le_of_eq (m := dp + 1) rfl) 80) (by omega)
          · exact Nat.lt_of_le_of_lt (Nat.add_le_add_right (Nat.le_of_eq (m := un + 3) rfl) 600) (by omega)
          obtain ⟨D2, rfl, ⟨vals2, hD2v, hP2v⟩, hD2n, hD2s, st11⟩ := hv
          have hag : chunksOf k co = [(1, co)] := hcok.again (show (1 : Int) ≠ 4 by decide)
          rw [hag] at hP2v
          obtain ⟨v2, rfl, hch⟩ := Paired.one hP2v
          have H11 := H10.ext st11.ext
          have hn11 := st11.ns F10.ns hLk
          clear F10 N10
          obtain ⟨ps11, g11, W11, hps11, F11, N11, _, X11, T11, M11, hdone11⟩ := ground H11 hn11 hLk [(D2, _)] (List.forall_mem_cons.mpr ⟨⟨hD2v, hD2s⟩, List.forall_mem_nil _⟩) (List.forall_mem_cons.mpr ⟨nd_lst _, List.forall_mem_nil _⟩)
          simp only [List.cons_append, List.nil_append] at N11
          walk_at "my steps"
          rename News _ _ _ _ => N12
          rename Fr _ _ _ _ => F12
          have hd12 := fun tk => hdone11 (Shared.mk _ s11.gens s11.drawn tk s11.os) _ _ _ rfl rfl F12 N12 (by walk_at "my rest") (by walk_at "my mems") (by k_mem) hps11
          have hch12 := hch.keeps (h' := (Shared.mk _ s11.gens s11.drawn 0 s11.os).heap) fun t o h1 h2 e => (hd12 0).2.keep t o (tup_ne16 H11 e h1) (ns_ne hn11 e h2) e
          refine ne_lists (xs := [v2]) (ys := [.ref _]) (News.get N12 (show (D2, lst [v2]) ∈ _ by k_mem)) (N12 _ (.head _)).1 rfl ?_ (fun q h1 h2 => ?_) ?_
          · exact Nat.lt_of_le_of_lt (Nat.le_of_eq (m := un + 3) rfl) (by omega)
          · match q, h1, h2 with
            | 0, _, _ =>
              refine EqAt_ch hch12 ⟨_, b, _, tb, rfl, (N12 _ (.tail _ (.head _))).1, hb, safe_of N12 X11 T11 M11 (.tail _ (.head _))⟩ ?_
              exact Nat.lt_of_le_of_lt (Nat.add_le_add_right (Nat.le_of_eq (m := un + 4) rfl) 1) (by omega)
            | q + 1, h1, _ => exact absurd h1 (by simp)
          walk_at "my steps"
          rename News _ _ _ _ => N13
          rename Fr _ _ _ _ => F13
          have hd13 := fun tk => hdone11 (Shared.mk _ s11.gens s11.drawn tk s11.os) _ _ _ rfl rfl F13 N13 (by walk_at "my rest") (by walk_at "my mems") (by k_mem) hps11
          refine ⟨cs.length + 1 - (j + 1), by omega, j + 1, _, rfl, hlt, (hd13 0).1, (hd13 0).2.keep _ _ hI16 hIL (st11.ext.keep _ _ hI16 (st10.keep _ _ hI16 hIL hI8')), Ns_norm3' F13.ns rfl rfl rfl, ((st48.trans st10).trans (st11.toB (Cs := OnlyC L) (Gs := NoG))).trans (hd13 _).2⟩
      · rename News _ _ _ _ => N9
        rename Fr _ _ _ _ => F9
        refine named (s := Shared.mk _ _ _ _ _) F9 N9 fun s9 e91 e92 F9 N9 => ?_
        obtain ⟨H9, st9⟩ := hdone8 s9 _ _ _ e91 e92 F9 N9 (by walk_at "my rest") (by walk_at "my mems") (by k_mem) hps8
        refine wpAny_mono (comp_bytes (cl := []) (b := b) (t := tb) (p := p) (loose := loose) (mg := mg) (mb := mb) ?hA ?h1 ?h2 ?h3 ?h4 ?h5 ?h6 ?h7 ?h8) (fun _ _ x => x) (fun _ _ x => x.elim)
        case hA => rfl
        case h1 => rfl
        case h2 => decide
        case h3 => rfl
        case h4 => decide
        case h5 => rfl
        case h6 => intro _; rfl
        case h7 => rw [← KBw.ints_length, hb]; omega
        walk_at "my steps"
        refine ⟨rfl, H9, ?_, ?_⟩
        · intro q c' C sj tk hc' Hj hCk hm
          obtain ⟨m, hm, hmx⟩ := hm
          have hal : ((c'.toNat : Nat) : Int) ∈ gsAl := by
            have h1 := KBw.ints_get hc'
            rw [hb] at h1
            exact hcok.al rfl _ (List.mem_of_getElem? h1)
          have hlt256 := c'.toNat_lt
          obtain ⟨psj, gj, Wj, hpsj, Fj, Nj, _, Xj, Tj, Mj, hdonej⟩ := ground Hj (Ns_one hm hmx) hCk [] (List.forall_mem_nil _) (List.forall_mem_nil _)
          simp only [List.nil_append] at Nj
          walk_at "my steps"
          all_goals (first | exact (0 : Addr) | exact (Str.ofString "" : Str) | exact Value.none | exact ([] : List (Str × Addr)) | skip)
          refine in_bytes_K (gs := gsAl) ?_ ?_ ?_ ?_
          · decide
          · omega
          · omega
          rw [decide_eq_true hal]
          walk_at "my steps"
          all_goals (first | exact (0 : Addr) | exact (Str.ofString "" : Str) | exact Value.none | exact ([] : List (Str × Addr)) | skip)
          exact ⟨Hj, StpB.refl Hj, rfl, ⟨_, hm⟩, rfl⟩
        · intro K2 ys2 s10 hK2s hK2 hB2 st9' eg9
          have H10 := H9.ext st9'.ext
          have hn10 := st9'.ns F9.ns hLk
          clear F9 N9
          obtain ⟨psk, gk, Wk, hpsk, Fk, Nk, _, Xk, Tk, Mk, hdonek⟩ := ground H10 hn10 hLk [(K2, _)] (List.forall_mem_cons.mpr ⟨⟨hK2, hK2s⟩, List.forall_mem_nil _⟩) (List.forall_mem_cons.mpr ⟨nd_lst _, List.forall_mem_nil _⟩)
          simp only [List.cons_append, List.nil_append] at Nk
          walk_at "my steps"
          rename News _ _ _ _ => Nm
          rename Fr _ _ _ _ => Fm
          refine LSm.all_bools Fm Nm rfl (vs := ys2) ⟨_, News.get Nm (show (K2, lst ys2) ∈ _ by k_mem), rfl, _, rfl⟩ hB2 fun hq tkq Fq Nq => ?_
          rw [show (List.replicate ys2.length true).all id = true from by simp]
          have hIk := st9'.ext.keep _ _ hI16 (st9.keep _ _ hI16 hIL hI8')
          have stk := (st48.trans st9).trans (st9'.toB (Cs := OnlyC L) (Gs := NoG))
          walk_at "my steps"
          · have hco : co = ks := by
              rcases hcok.len (show (2 : Int) ≠ 4 by decide) with q | q
              · have q' : k ≤ co.length := q
                omega
              · exact q
            refine ne_bytes ?_
            rw [show (b.toList != d.toList) = false from by rw [ints_inj (hb.trans (hco.trans hks.symm))]; simp]
            walk_at "my steps"
            rename News _ _ _ _ => N10
            rename Fr _ _ _ _ => F10
            refine named (s := Shared.mk _ _ _ _ _) F10 N10 fun s10 e101 e102 F10 N10 => ?_
            obtain ⟨H10, st10⟩ := hdonek s10 _ _ _ e101 e102 F10 N10 (by walk_at "my rest") (by walk_at "my mems") (by k_mem) hpsk
            refine wpAny_mono (law_chunks ?_ ?_ ?_ H10 hb hcol hcon hk0 hk9) (fun v s11 hv => ?_) (fun _ _ x => x.elim)
            · rfl
            · exact Nat.lt_of_le_of_lt (Nat.add_le_add_right (Nat.le_of_eq (m := dp + 1) rfl) 80) (by omega)
            · exact Nat.lt_of_le_of_lt (Nat.add_le_add_right (Nat.le_of_eq (m := un + 3) rfl) 600) (by omega)
            obtain ⟨D2, rfl, ⟨vals2, hD2v, hP2v⟩, hD2n, hD2s, st11⟩ := hv
            have hag : chunksOf k co = [(2, co)] := hcok.again (show (2 : Int) ≠ 4 by decide)
            rw [hag] at hP2v
            obtain ⟨v2, rfl, hch⟩ := Paired.one hP2v
            have H11 := H10.ext st11.ext
            have hn11 := st11.ns F10.ns hLk
            clear F10 N10
            obtain ⟨ps11, g11, W11, hps11, F11, N11, _, X11, T11, M11, hdone11⟩ := ground H11 hn11 hLk [(D2, _)] (List.forall_mem_cons.mpr ⟨⟨hD2v, hD2s⟩, List.forall_mem_nil _⟩) (List.forall_mem_cons.mpr ⟨nd_lst _, List.forall_mem_nil _⟩)
            simp only [List.cons_append, List.nil_append] at N11
            walk_at "my steps"
            rename News _ _ _ _ => N12
            rename Fr _ _ _ _ => F12
            have hd12 := fun tk => hdone11 (Shared.mk _ s11.gens s11.drawn tk s11.os) _ _ _ rfl rfl F12 N12 (by walk_at "my rest") (by walk_at "my mems") (by k_mem) hps11
            have hch12 := hch.keeps (h' := (Shared.mk _ s11.gens s11.drawn 0 s11.os).heap) fun t o h1 h2 e => (hd12 0).2.keep t o (tup_ne16 H11 e h1) (ns_ne hn11 e h2) e
            refine ne_lists (xs := [v2]) (ys := [.ref _]) (News.get N12 (show (D2, lst [v2]) ∈ _ by k_mem)) (N12 _ (.head _)).1 rfl ?_ (fun q h1 h2 => ?_) ?_
            · exact Nat.lt_of_le_of_lt (Nat.le_of_eq (m := un + 3) rfl) (by omega)
            · match q, h1, h2 with
              | 0, _, _ =>
                refine EqAt_ch hch12 ⟨_, b, _, tb, rfl, (N12 _ (.tail _ (.head _))).1, hb, safe_of N12 X11 T11 M11 (.tail _ (.head _))⟩ ?_
                exact Nat.lt_of_le_of_lt (Nat.add_le_add_right (Nat.le_of_eq (m := un + 4) rfl) 1) (by omega)
              | q + 1, h1, _ => exact absurd h1 (by simp)
            walk_at "my steps"
            rename News _ _ _ _ => N13
            rename Fr _ _ _ _ => F13
            have hd13 := fun tk => hdone11 (Shared.mk _ s11.gens s11.drawn tk s11.os) _ _ _ rfl rfl F13 N13 (by walk_at "my rest") (by walk_at "my mems") (by k_mem) hps11
            refine ⟨cs.length + 1 - (j + 1), by omega, j + 1, _, rfl, hlt, (hd13 0).1, (hd13 0).2.keep _ _ hI16 hIL (st11.ext.keep _ _ hI16 (st10.keep _ _ hI16 hIL hIk)), Ns_norm3' F13.ns rfl rfl rfl, ((stk.trans st10).trans (st11.toB (Cs := OnlyC L) (Gs := NoG))).trans (hd13 _).2⟩
          · skip
            rename News _ _ _ _ => N10
            rename Fr _ _ _ _ => F10
            refine named (s := Shared.mk _ _ _ _ _) F10 N10 fun s10 e101 e102 F10 N10 => ?_
            obtain ⟨H10, st10⟩ := hdonek s10 _ _ _ e101 e102 F10 N10 (by walk_at "my rest") (by walk_at "my mems") (by k_mem) hpsk
            refine wpAny_mono (law_chunks ?_ ?_ ?_ H10 hb hcol hcon hk0 hk9) (fun v s11 hv => ?_) (fun _ _ x => x.elim)
            · rfl
            · exact Nat.lt_of_le_of_lt (Nat.add_le_add_right (Nat.le_of_eq (m := dp + 1) rfl) 80) (by omega)
            · exact Nat.lt_of_le_of_lt (Nat.add_le_add_right (Nat.le_of_eq (m := un + 3) rfl) 600) (by omega)
            obtain ⟨D2, rfl, ⟨vals2, hD2v, hP2v⟩, hD2n, hD2s, st11⟩ := hv
            have hag : chunksOf k co = [(2, co)] := hcok.again (show (2 : Int) ≠ 4 by decide)
            rw [hag] at hP2v
            obtain ⟨v2, rfl, hch⟩ := Paired.one hP2v
            have H11 := H10.ext st11.ext
            have hn11 := st11.ns F10.ns hLk
            clear F10 N10
            obtain ⟨ps11, g11, W11, hps11, F11, N11, _, X11, T11, M11, hdone11⟩ := ground H11 hn11 hLk [(D2, _)] (List.forall_mem_cons.mpr ⟨⟨hD2v, hD2s⟩, List.forall_mem_nil _⟩) (List.forall_mem_cons.mpr ⟨nd_lst _, List.forall_mem_nil _⟩)
            simp only [List.cons_append, List.nil_append] at N11
            walk_at "my steps"
            rename News _ _ _ _ => N12
            rename Fr _ _ _ _ => F12
            have hd12 := fun tk => hdone11 (Shared.mk _ s11.gens s11.drawn tk s11.os) _ _ _ rfl rfl F12 N12 (by walk_at "my rest") (by walk_at "my mems") (by k_mem) hps11
            have hch12 := hch.keeps (h' := (Shared.mk _ s11.gens s11.drawn 0 s11.os).heap) fun t o h1 h2 e => (hd12 0).2.keep t o (tup_ne16 H11 e h1) (ns_ne hn11 e h2) e
            refine ne_lists (xs := [v2]) (ys := [.ref _]) (News.get N12 (show (D2, lst [v2]) ∈ _ by k_mem)) (N12 _ (.head _)).1 rfl ?_ (fun q h1 h2 => ?_) ?_
            · exact Nat.lt_of_le_of_lt (Nat.le_of_eq (m := un + 3) rfl) (by omega)
            · match q, h1, h2 with
              | 0, _, _ =>
                refine EqAt_ch hch12 ⟨_, b, _, tb, rfl, (N12 _ (.tail _ (.head _))).1, hb, safe_of N12 X11 T11 M11 (.tail _ (.head _))⟩ ?_
                exact Nat.lt_of_le_of_lt (Nat.add_le_add_right (Nat.le_of_eq (m := un + 4) rfl) 1) (by omega)
              | q + 1, h1, _ => exact absurd h1 (by simp)
            walk_at "my steps"
            rename News _ _ _ _ => N13
            rename Fr _ _ _ _ => F13
            have hd13 := fun tk => hdone11 (Shared.mk _ s11.gens s11.drawn tk s11.os) _ _ _ rfl rfl F13 N13 (by walk_at "my rest") (by walk_at "my mems") (by k_mem) hps11
            refine ⟨cs.length + 1 - (j + 1), by omega, j + 1, _, rfl, hlt, (hd13 0).1, (hd13 0).2.keep _ _ hI16 hIL (st11.ext.keep _ _ hI16 (st10.keep _ _ hI16 hIL hIk)), Ns_norm3' F13.ns rfl rfl rfl, ((stk.trans st10).trans (st11.toB (Cs := OnlyC L) (Gs := NoG))).trans (hd13 _).2⟩
      · have hj0 : 0 < j := by omega
        obtain ⟨c0, hc0⟩ : ∃ c, cs[j - 1]? = some c := ⟨_, List.getElem?_eq_getElem (by omega)⟩
        obtain ⟨v0, hv0, t0, b0, tm0, tb0, rfl, ht0, hb0, hts0⟩ := Paired.at' hP4 hc0
        obtain ⟨m0, o0⟩ := c0
        have hm0 : m0 ≠ 4 := fun q => no44_idx h44 hc0 (show cs[j - 1 + 1]? = some (4, co) by rw [show j - 1 + 1 = j by omega]; exact hc) q rfl
        rename News _ _ _ _ => N10
        rename Fr _ _ _ _ => F10
        refine item_list (⟨_, News.get N10 (show (D, lst vals) ∈ _ by k_mem), rfl, _, rfl⟩ : Heap.IsList _ D vals.toArray) (by omega) (by omega) (by rw [show ((j : Int) - 1).toNat = j - 1 by omega]; simpa using hv0) ?_
        refine named (s := Shared.mk _ _ _ _ _) F10 N10 fun s10 e101 e102 F10 N10 => ?_
        obtain ⟨H10, st10⟩ := hdone8 s10 _ _ _ e101 e102 F10 N10 (by walk_at "my rest") (by walk_at "my mems") (by k_mem) hps8
        have ht10 := st10.keep t0 _ (tup_ne16 H4 ht0 rfl) (ns_ne hn4 ht0 (nd_tup _)) (st48.keep t0 _ (tup_ne16 H4 ht0 rfl) (ns_ne hn4 ht0 (nd_tup _)) ht0)
        have hn10 := F10.ns
        clear F10 N10
        dsimp only at ht10
        obtain ⟨ps11, g11, W11, hps11, F11, N11, _, X11, T11, M11, hdone11⟩ := ground H10 hn10 hLk [(t0, _)] (List.forall_mem_cons.mpr ⟨⟨ht10, hts0⟩, List.forall_mem_nil _⟩) (List.forall_mem_cons.mpr ⟨nd_tup _, List.forall_mem_nil _⟩)
        simp only [List.cons_append, List.nil_append] at N11
        walk_at "my steps"
        walk1
        walk_at "my steps"
        · exact absurd (show m0 = 4 by assumption) hm0
        · rename News _ _ _ _ => N13
          rename Fr _ _ _ _ => F13
          have hd13 := fun tk => hdone11 (Shared.mk _ s10.gens s10.drawn tk s10.os) _ _ _ rfl rfl F13 N13 (by walk_at "my rest") (by walk_at "my mems") (by k_mem) hps11
          refine ⟨cs.length + 1 - (j + 1), by omega, j + 1, _, rfl, hlt, (hd13 0).1, (hd13 0).2.keep _ _ hI16 hIL (st10.keep _ _ hI16 hIL hI8'), Ns_norm3' F13.ns rfl rfl rfl, (st48.trans st10).trans (hd13 _).2⟩
      · rename News _ _ _ _ => N13
        rename Fr _ _ _ _ => F13
        have hd13 := fun tk => hdone8 (Shared.mk _ s8.gens s8.drawn tk s8.os) _ _ _ rfl rfl F13 N13 (by walk_at "my rest") (by walk_at "my mems") (by k_mem) hps8
        refine ⟨cs.length + 1 - (j + 1), by omega, j + 1, _, rfl, hlt, (hd13 0).1, (hd13 0).2.keep _ _ hI16 hIL hI8', Ns_norm3' F13.ns rfl rfl rfl, st48.trans (hd13 _).2⟩
    · refine wpAny_pyNext_range_end rfl hI7 (by omega) fun h8 hs8 => ?_
      refine named0 fun s8 e80 e81 e82 => ?_
      dsimp only at e80
      subst e80
      have st48 : StpB (OnlyC L) NoG s4 s8 := ⟨e82.trans st7.os, by rw [e81]; exact st7.gsz, fun i h1 h2 => by rw [e81]; exact st7.gk i h1 h2, fun x => by rw [e81]; exact st7.bare x, fun b o h1 h2 e => hs8 _ _ (ne_new hIn e).symm (st7.keep b o h1 h2 e), let ⟨ps, e, hok⟩ := H7.tab; ⟨ps, hs8 _ _ (Ne.symm hI16) e, hok⟩⟩
      have H8 := H4.stpB st48 (fun b hb => hb ▸ hLk.safe)
      have hn8 := hn7.at' fun o e => hs8 _ o (Ne.symm hIL) e
      obtain ⟨ps8, g8, W8, hps8, F8, N8, _, X8, T8, M8, hdone8⟩ := ground H8 hn8 hLk [] (List.forall_mem_nil _) (List.forall_mem_nil _)
      simp only [List.nil_append] at N8
      walk_at "my steps"
      have stz := (st03.trans (st4.toB (Cs := OnlyC L) (Gs := NoG))).trans st48
      exact ⟨rfl, ⟨⟨stz.os, stz.gsz, fun i hi => stz.gk i hi id, stz.bare⟩, ⟨fun b o h1 e => stz.keep b o h1 (by rw [hL]; exact Nat.ne_of_lt (Heap.lt_size e)) e, stz.tab⟩⟩⟩
end Mine
end

section
open PySem PySem.W PyProof.Rows PySem.Calls PyProof.Rows.LCg
set_option maxRecDepth 100000
namespace Mine
local macro_rules | `(tactic| walk_at "my fill") => `(tactic| (have kf : PySem.Challenge.rw_ez0306_01 = PySem.Challenge.rw_ez0306_01 ∧ hd.heap_39 = hd.heap_39 := by k_fill; exact ⟨rfl, rfl⟩))
local macro_rules | `(tactic| walk_at "my guard") => `(tactic| ((fail_if_success (with_reducible show wpAny _ _ (pyIter (Value.ref _)) _ _ _)); (fail_if_success (with_reducible show wpAny _ _ (eval (PySem.Expr.ListComp _ _ _ _) _) _ _ _)); (fail_if_success (with_reducible show wpAny _ _ (exec (Stmt.Assign _ (PySem.Expr.ListComp _ _ _ _) _) _) _ _ _)); (fail_if_success (with_reducible show wpAny _ _ (exec (Stmt.For _ _ _ _ _) _) _ _ _)); (fail_if_success (with_reducible show wpAny _ _ (call (Value.ref _) _ _) _ _ _)); (fail_if_success (with_reducible show wpAny _ _ (compareOp CmpOp.Eq (Value.ref _) _) _ _ _)); (fail_if_success (with_reducible show wpAny _ _ (binaryOp Operator.Add (Value.ref _) _) _ _ _)); (fail_if_success (with_reducible show wpAny _ _ (eval (PySem.Expr.Name (Str.ofString "len") _) (compEnvC _ _ _ _)) _ _ _)); (fail_if_success (with_reducible show _ → _)); (fail_if_success (with_reducible show ∃ _, _)); (fail_if_success (with_reducible show _ = _ ∧ _)); (fail_if_success (with_reducible show Hp _ _ _ _ _ _ ∧ _))))
local macro_rules | `(tactic| walk_at "my steps") => `(tactic| repeat' (first | (k_unfold; (try dsimp only)) | (walk_at "my guard"; walk1) | (walk_at "my guard"; dsimp only; walk_at "my guard"; walk1) | fail "no step"))
local macro_rules | `(tactic| walk_at "my mems") => `(tactic| (repeat (first | exact List.forall_mem_nil _ | refine List.forall_mem_cons.mpr ⟨by k_mem, ?_⟩)))
local macro_rules | `(tactic| walk_at "my rest") => `(tactic| (intro q hq; repeat (first | exact hq | apply List.Mem.tail)))

/-- the ground, where ex2 may be turned -/
theorem ground2 {w : World} {p : Program} {loose : List Str} {mg mb : Str → Option Value} {C : Addr} {m : Str → Option Value} {s : Shared} (H : Hp w p loose mg mb s.heap) (hn : s.heap.Ns C m) (hC : AboveK w C) (ex1 ex2 : List (Addr × Obj)) (he : Held w s.heap (ex1 ++ ex2)) (hnd : ∀ q ∈ ex1 ++ ex2, NotDict q.2) :
    ∃ ps g W, TabOk ps ∧ Fr g C s.heap m ∧ News g C s.heap ((16, tabO ps) :: (ex1 ++ ex2 ++ W)) ∧ (hd.heap_39 w.params).In g ∧ TopRead p loose mg mb g ∧ (∃ ob, BMod g mainGlobals mg 4 ob) ∧
      (∀ (s' : Shared) m' news' ps', s'.gens = s.gens → s'.os = s.os → Fr g C s'.heap m' → News g C s'.heap news' → (∀ q ∈ W, q ∈ news') → (∀ q ∈ ex1, q ∈ news') → (16, tabO ps') ∈ news' → TabOk ps' → Hp w p loose mg mb s'.heap ∧ StpB (fun b => b = C ∨ b ∈ ex2.map (·.1)) NoG s s') := by
  obtain ⟨ps, hps1, hps2⟩ := H.tab
  have hex : Held w s.heap ((16, tabO ps) :: (ex1 ++ ex2)) := List.forall_mem_cons.mpr ⟨⟨hps1, safe16 w⟩, he⟩
  obtain ⟨g, W, F, N, hW16, X, T, M, hkeep⟩ := enterG H hn hC ((16, tabO ps) :: (ex1 ++ ex2)) hex (List.forall_mem_cons.mpr ⟨Nat.ne_of_lt hC.t, fun q hq => ns_ne hn (he q hq).1 (hnd q hq)⟩)
  refine ⟨ps, g, W, hps2, F, N, X, T, M, fun s' m' news' ps' e1 e2 F' N' hW h0 h16 hok => ⟨hp_of F' N' X T M h16 hok, e2, by rw [e1]; exact Nat.le_refl _, fun _ _ _ => by rw [e1], fun x => by rw [e1]; exact x, fun b o h1 h2 e => ?_, ps', (N' _ h16).1, hok⟩⟩
  have h2' := not_or.mp h2
  by_cases q : b ∈ ((16, tabO ps) :: (ex1 ++ ex2)).map (·.1)
  · obtain ⟨x, hx, rfl⟩ := List.mem_map.mp q
    rcases List.mem_cons.mp hx with rfl | hx
    · exact absurd rfl h1
    · rcases List.mem_append.mp hx with hx1 | hx2
      · have := (N' _ (h0 x hx1)).1
        rw [(he x hx).1] at e; cases e; exact this
      · exact absurd (List.mem_map_of_mem hx2) h2'.2
  · refine hkeep s'.heap m' news' F' (fun q hq => ?_) b o h2'.1 q e
    rcases List.mem_append.mp hq with hq | hq
    · exact N' q hq
    · exact N' q (hW q hq)
theorem Z_step {Cs : Addr → Prop} {s a b : Shared} (z : Stp s a) (x : StpB Cs NoG a b) (h : ∀ c o, s.heap.get? c = some o → ¬ Cs c) : Stp s b :=
  ⟨⟨x.os.trans z.os, Nat.le_trans z.gsz x.gsz, fun i hi => (x.gk i (Nat.lt_of_lt_of_le hi z.gsz) id).trans (z.gk i hi), fun q => x.bare (z.bare q)⟩, ⟨fun b o h1 e => x.keep b o h1 (h b o e) (z.ext.keep b o h1 e), x.tab⟩⟩
theorem execs_first {M : Model} {A : Around} {env : Env} {st : Stmt} {rest : List Stmt} {Q : Flow → Shared → Prop} {E : Value → Shared → Prop} {s : Shared} (I : Shared → Prop) (h : wpAny M A (exec st env) (fun f s' => f = .next ∧ I s') E s) (h2 : ∀ s', I s' → wpAny M A (execs rest env) Q E s') : wpAny M A (execs (st :: rest) env) Q E s := by
  rw [execs_cons]
  refine wpAny_bind (wpAny_mono h (fun f s' hf => ?_) fun _ _ x => x)
  obtain ⟨rfl, hI⟩ := hf
  exact h2 s' hI
theorem nd_cell {o : Obj} {x : Option Value} (h : o.data = .cell x) : NotDict o := fun _ _ q => by rw [h] at q; cases q
theorem fmod4 (x : Int) : ∃ k : Nat, (k : Int) = 1 + x.fmod 4 ∧ 0 < k ∧ k < 10 := by
  have h1 := Int.fmod_nonneg_of_pos x (b := 4) (by decide)
  have h2 := Int.fmod_lt_of_pos x (b := 4) (by decide)
  exact ⟨(1 + x.fmod 4).toNat, by omega, by omega, by omega⟩

theorem Ns_least {a b : Str} {h : Heap} {C : Addr} {m : Str → Option Value} {x : Int} {tk : Tok} {v2 : Value} (n : h.Ns C m) (h1 : m a = some (.int (1 + x.fmod 4) tk)) (h2 : m b = some v2) :
    ∃ (k : Nat) (tp : Tok) (u : Str → Option Value), 0 < k ∧ k < 10 ∧ h.Ns C (fun y => if y = a then some (.int (k : Int) tp) else if y = b then some v2 else u y) := by
  obtain ⟨k, e, h0, h3⟩ := fmod4 x
  rw [← e] at h1
  exact ⟨k, tk, m, h0, h3, Ns_norm2 n h1 h2⟩

theorem chunksOf_lenle {k : Nat} {ks : List Int} {n : Nat} (hk : 0 < k) (h : ks.length ≤ n) : (chunksOf k ks).length ≤ n := Nat.le_trans (chunksOf_len hk ks) h
theorem chunksOf_each {k : Nat} {ks : List Int} {n : Nat} (hk : 0 < k) (h : ks.length ≤ n) : ∀ c ∈ chunksOf k ks, c.2.length ≤ n := fun c hc => by
  have := mem_join_len hc
  rw [chunksOf_join hk ks] at this
  exact Nat.le_trans this h

theorem Paired.rev {α β : Type} {F : α → β → Prop} {l : List α} {m : List β} {j : Nat} {b : β} (x : Paired F l m) (e : m[j]? = some b) : ∃ a, l[j]? = some a ∧ F a b := by
  have hj : j < l.length := by rw [x.length]; exact (List.getElem?_eq_some_iff.mp e).1
  obtain ⟨c, hc, hF⟩ := Paired.at' x (List.getElem?_eq_getElem hj)
  rw [e] at hc; cases hc
  exact ⟨_, List.getElem?_eq_getElem hj, hF⟩
theorem knownC_len : ∀ (cs : List (Int × List Int)) (p : Nat), (knownC p cs).length ≤ cs.length
  | [], _ => Nat.le_refl _
  | c :: cs, p => by
    have := knownC_len cs (p + c.2.length)
    show ((if c.1 ≠ 4 then [(p, c.1, c.2)] else []) ++ knownC _ cs).length ≤ cs.length + 1
    rw [List.length_append]
    split
    · simp only [List.length_cons, List.length_nil]; omega
    · simp only [List.length_nil]; omega

theorem KnownAt.keeps {w : World} {xs : List (Nat × Int × List Int)} {K : Addr} {h h' : Heap} (x : KnownAt w xs K h) (hk : ∀ b o, b ≠ 16 ∨ o.cls = .none → NotDict o → o.cls ≠ .none → h.get? b = some o → h'.get? b = some o) (h16 : ∀ o, h.get? 16 = some o → o.cls = .none) : KnownAt w xs K h' := by
  have hh : ∀ b o, NotDict o → o.cls ≠ .none → h.get? b = some o → h'.get? b = some o := fun b o h1 h2 e => hk b o (.inl fun q => h2 (h16 o (q ▸ e))) h1 h2 e
  obtain ⟨vals, e, hP⟩ := x
  refine ⟨vals, hh _ _ (nd_lst _) (by intro q; cases q) e, Paired.mono' (fun x v (y : KnV w x v h) => ?_) hP⟩
  obtain ⟨t, b, tp, tm, tb, e, h1, h2, h3⟩ := y
  exact ⟨t, b, tp, tm, tb, e, hh _ _ (nd_tup _) (by intro q; cases q) h1, h2, h3⟩
theorem none16 {w : World} {p : Program} {loose : List Str} {mg mb : Str → Option Value} {h : Heap} (H : Hp w p loose mg mb h) : ∀ o, h.get? 16 = some o → o.cls = .none := fun o e => by
  obtain ⟨ps, e2, _⟩ := H.tab
  rw [e] at e2; cases e2; rfl
theorem KnownAt.stp {w : World} {p : Program} {loose : List Str} {mg mb : Str → Option Value} {xs : List (Nat × Int × List Int)} {K : Addr} {s s' : Shared} (x : KnownAt w xs K s.heap) (H : Hp w p loose mg mb s.heap) (z : Stp s s') : KnownAt w xs K s'.heap :=
  x.keeps (fun b o h1 _ h3 e => z.ext.keep b o (h1.elim id fun q => absurd q h3) e) (none16 H)
theorem KnownAt.stpB {w : World} {p : Program} {loose : List Str} {mg mb : Str → Option Value} {xs : List (Nat × Int × List Int)} {K L : Addr} {m : Str → Option Value} {s s' : Shared} (x : KnownAt w xs K s.heap) (H : Hp w p loose mg mb s.heap) (hn : s.heap.Ns L m) (z : StpB (OnlyC L) NoG s s') : KnownAt w xs K s'.heap :=
  x.keeps (fun b o h1 h2 h3 e => z.keep b o (h1.elim id fun q => absurd q h3) (ns_ne hn e h2) e) (none16 H)

theorem ld_builtR {M : Model} {A : Around} {E : Value → Shared → Prop} {s : Shared} {K : Frag} {h₀ : Heap} {L C : Addr} {m mg mb : Str → Option Value} {scope : Scope} {cl : List (Str × Addr)} {env : Env} {p : Program} {loose : List Str} {x : Str} {pos : Pos} {v : Value} {Q : Value → Shared → Prop}
    (F : Fr h₀ L s.heap m) (X : K.In h₀) (T : TopRead p loose mg mb h₀) (e : nsIn K mainGlobals x = some none) (hv : bootBuiltins x = some v) (hn : x ≠ "__name__") (h : Q v s) (hg : env.globals = mainGlobals := by rfl) (hb : env.builtins = builtinsNs := by rfl)
    (hk : (compEnvC scope cl C env).scope.kind = .function := by rfl) (hx : (compEnvC scope cl C env).kindOf x = some .globalImplicit := by rfl) (hd : (x == ("__debug__" : Str)) = false := by decide) :
    wpAny M A (eval (.Name x pos) (compEnvC scope cl C env)) Q E s :=
  Name_function_global hk hx (loadGlobal_builtin (env := compEnvC scope cl C env) (show s.heap.Ns env.globals mg from hg ▸ (T.keeps F.keep).g) (mg_none_of X T.g e) (show s.heap.Ns env.builtins mb from hb ▸ (T.keeps F.keep).b) ((T.builtins x hn).trans hv) h) hd

theorem KnV.of_tup {w : World} {t : Addr} {h : Heap} {i mo : Int} {n : Nat} {ks : List Int} {b : Array UInt8} {tp tm tb : Tok} (e : h.get? t = some (tupO [.int i tp, .int mo tm, .bytes b tb])) (hi : i = (n : Int)) (hb : KBw.bInts b = ks) (hs : Safe w t) : KnV w (n, mo, ks) (.ref t) h := by
  subst hi
  exact ⟨t, b, tp, tm, tb, rfl, e, hb, hs⟩
theorem PairKn.stpB {w : World} {p : Program} {loose : List Str} {mg mb : Str → Option Value} {xs : List (Nat × Int × List Int)} {vs : List Value} {L : Addr} {m : Str → Option Value} {s s' : Shared} (x : Paired (fun x v => KnV w x v s.heap) xs vs) (H : Hp w p loose mg mb s.heap) (hn : s.heap.Ns L m) (z : StpB (OnlyC L) NoG s s') : Paired (fun x v => KnV w x v s'.heap) xs vs :=
  Paired.mono' (fun _ _ y => let ⟨t, b, tp, tm, tb, e, h1, h2, h3⟩ := y; ⟨t, b, tp, tm, tb, e, z.keep _ _ (tup_ne16 H h1 rfl) (ns_ne hn h1 (nd_tup _)) h1, h2, h3⟩) x
theorem Paired.app {α β : Type} {F : α → β → Prop} : ∀ {l l' : List α} {m m' : List β}, Paired F l m → Paired F l' m' → Paired F (l ++ l') (m ++ m')
  | _, _, _, _, .nil, h => h
  | _, _, _, _, .cons a t, h => .cons a (Paired.app t h)

set_option maxHeartbeats 8000000 in
theorem law_law {prog : Program} {w : World} {p : Program} {loose : List Str} {mg mb : Str → Option Value} {A : Around} {s : Shared} {S : Addr} {vs : List Value} {nn : Nat} {ns : List Int}
    (hA : A.handled = none) (hroom : A.depth + 150 < recursionLimit) (hun : A.units + 1200 < cLine)
    (H : Hp w p loose mg mb s.heap) (hS : s.heap.get? S = some (listOf vs.toArray nn)) (hSs : Safe w S) (hi : IntsAre vs ns) (hlen : ns.length ≤ 63) :
    wpAny (model prog w) A (call (.ref 121) [.ref S]) (fun v s' => v = .bool true ∧ Stp s s') (fun _ _ => False) s := by
  walk_at "my fill"
  obtain ⟨hdl, dp, fr, gd, un⟩ := A
  have hq : hdl = none := hA
  subst hq
  have hd2 : dp + 150 < recursionLimit := hroom
  have hu2 : un + 1200 < cLine := hun
  clear hroom hun hA
  obtain ⟨ps, hps1, hps2⟩ := H.tab
  have hex : Held w s.heap [(16, tabO ps), (S, listOf vs.toArray nn)] := List.forall_mem_cons.mpr ⟨⟨hps1, safe16 w⟩, List.forall_mem_singleton.mpr ⟨hS, hSs⟩⟩
  refine' enterC (w := w) H [(16, tabO ps), (S, listOf vs.toArray nn)] hex ?k1 ?k2 (show dp < recursionLimit by omega) ?k3 ?k4 ?k5 ?k6 ?k7 ?k8 ?k0
  case k1 => k_is
  case k2 => k_is
  case k3 => exact BindsTo.of_eq rfl
  case k4 => exact kindsX rfl
  case k5 => decide +kernel
  case k6 => rfl
  case k7 => rfl
  case k8 => rfl
  intro g L h₁ tk cells hg hL F N hY hlt X T M
  k_cells hY
  (try dsimp only)
  simp only [List.cons_append, List.nil_append] at N
  simp only [List.forall_mem_cons, List.not_mem_nil, false_implies, implies_true, and_true] at hlt
  have hLk : AboveK w L := hL ▸ AboveK.of H
  refine execs_first (fun s1 => ∃ (k : Nat) (tk2 : Tok) (u : Str → Option Value) (oc : Obj), 0 < k ∧ k < 10 ∧ Hp w p loose mg mb s1.heap ∧ s1.heap.Ns L (fun y => if y = Str.ofString "least" then some (.int (k : Int) tk2) else if y = Str.ofString "script" then some (.ref S) else u y) ∧ s1.heap.get? (L + 1) = some oc ∧ oc.data = .cell none ∧ Safe w (L + 1) ∧ s1.heap.get? S = some (listOf vs.toArray nn) ∧ Stp s s1) ?_ ?_
  · walk_at "my steps"
    all_goals first
      | trivial
      | (rename News _ _ _ _ => N2
         rename Fr _ _ _ _ => F2
         obtain ⟨k, tp, u, hk0, hk1, hnn⟩ := Ns_least (a := Str.ofString "least") (b := Str.ofString "script") (v2 := .ref S) F2.ns rfl rfl
         refine ⟨k, tp, u, _, hk0, hk1, hp_of F2 N2 X T M (by k_mem) hps2, hnn, (N2 _ (.head _)).1, by assumption, safe_of N2 X T M (.head _), News.get N2 (by k_mem), ?_⟩
         subst hg
         exact (Gos.refl s).stp (ext_of F2 N2 (fun q hq => (hex q hq).1) (fun q hq _ => .tail _ hq) (by k_mem) hps2))
  · rintro s1 ⟨k, tk2, u, oc, hk0, hk1, H1, hn1, hc1, hcd, hcs, hS1, st1⟩
    have hLc : L + 1 ≠ L := Nat.succ_ne_self _
    have hc16 : L + 1 ≠ 16 := fun q => by obtain ⟨ps, e, _⟩ := H1.tab; rw [← q, hc1] at e; cases e; cases hcd
    have hLn : ∀ b o, s.heap.get? b = some o → b ≠ L ∧ b ≠ L + 1 := fun b o e => by
      have := Heap.lt_size e
      rw [← hL] at this
      exact ⟨Nat.ne_of_lt this, Nat.ne_of_lt (Nat.lt_succ_of_lt this)⟩
    clear F N
    obtain ⟨ps1, g1, W1, hps1', F1, N1, X1, T1, M1, hdone1⟩ := ground2 H1 hn1 hLk [(S, _)] [(L + 1, oc)] (List.forall_mem_cons.mpr ⟨⟨hS1, hSs⟩, List.forall_mem_cons.mpr ⟨⟨hc1, hcs⟩, List.forall_mem_nil _⟩⟩) (List.forall_mem_cons.mpr ⟨(fun _ _ q => by cases q), List.forall_mem_cons.mpr ⟨nd_cell hcd, List.forall_mem_nil _⟩⟩)
    simp only [List.cons_append, List.nil_append] at N1
    walk_at "my steps"
    rename News _ _ _ _ => N2
    rename Fr _ _ _ _ => F2
    rename IntsAre _ _ => hI2
    refine named (s := Shared.mk _ _ _ _ _) F2 N2 fun s2 e21 e22 F2 N2 => ?_
    obtain ⟨H2, st2⟩ := hdone1 s2 _ _ _ e21 e22 F2 N2 (by walk_at "my rest") (by walk_at "my mems") (by k_mem) hps1'
    have hD2 := (N2 _ (.head _)).1
    have hl2 : (List.take (min 12 ns.length - 1) (List.drop 1 ns)).length ≤ 11 := by simp only [List.length_take, List.length_drop]; omega
    refine wpAny_mono (law_text ?_ ?_ ?_ H2 hD2 (safe_of N2 X1 T1 M1 (.head _)) hI2 (by omega)) (fun v s3 hv => ?_) (fun _ _ x => x.elim)
    · rfl
    · exact Nat.lt_of_le_of_lt (Nat.add_le_add_right (Nat.le_of_eq (m := dp + 1) rfl) 20) (by omega)
    · exact Nat.lt_of_le_of_lt (Nat.add_le_add_right (Nat.le_of_eq (m := un + 3) rfl) 100) (by omega)
    obtain ⟨bl, tl, rfl, hbl, st3⟩ := hv
    have hll : (textOf (List.take (min 12 ns.length - 1) (List.drop 1 ns))).length ≤ 11 := by rw [text_len]; exact hl2
    have hlm := @text_mem (List.take (min 12 ns.length - 1) (List.drop 1 ns))
    generalize textOf (List.take (min 12 ns.length - 1) (List.drop 1 ns)) = ksl at *
    have hS16 : S ≠ 16 := ne16_of H hS (by intro q; cases q)
    have H3 := H2.ext st3.ext
    have hn3 := st3.ns F2.ns hLk
    have hc3 := st3.ext.keep _ _ hc16 (News.get N2 (show (L + 1, oc) ∈ _ by k_mem))
    have hS3 := st3.ext.keep _ _ hS16 (News.get N2 (show (S, W.listOf vs.toArray nn) ∈ _ by k_mem))
    clear F2 N2 hI2 hD2
    refine wpAny_storeName_cell rfl rfl rfl ⟨oc, hc3, hcd⟩ fun h4 hc4 hs4 => ?_
    refine named0 fun s4 e40 e41 e42 => ?_
    dsimp only at e40
    subst e40
    obtain ⟨oc4, hc4, hcd4⟩ := hc4
    have st4 := StpB.of_same H3 hs4 hc16 e41 e42
    have H4 := H3.stpB st4 (fun b hb => hb ▸ hcs)
    have hn4 := hn3.sameBut hs4 (Ne.symm hLc)
    have hSc : S ≠ L + 1 := (hLn _ _ hS).2
    have hS4 := hs4.extBut _ _ hSc hS3
    have Z2 : Stp s s2 := Z_step st1 st2 (fun c o e q => by
      rcases q with q | q
      · exact (hLn c o e).1 q
      · simp only [List.map_cons, List.map_nil, List.mem_singleton] at q; exact (hLn c o e).2 q)
    have Z4 : Stp s s4 := Z_step (Z2.trans st3) st4 (fun c o e q => (hLn c o e).2 q)
    have hLL : ∀ c o, s.heap.get? c = some o → ¬ OnlyC L c := fun c o e q => (hLn c o e).1 q
    have hcl' : ∀ {a b : Shared}, StpB (OnlyC L) NoG a b → a.heap.get? (L + 1) = some oc4 → b.heap.get? (L + 1) = some oc4 := fun x e => x.keep _ _ hc16 hLc e
    clear hc3 hS3 hn3
    obtain ⟨ps3, g3, W3, hps3, F3, N3, _, X3, T3, M3, hdone3⟩ := ground H4 hn4 hLk [(S, _), (L + 1, oc4)] (List.forall_mem_cons.mpr ⟨⟨hS4, hSs⟩, List.forall_mem_cons.mpr ⟨⟨hc4, hcs⟩, List.forall_mem_nil _⟩⟩) (List.forall_mem_cons.mpr ⟨(fun _ _ q => by cases q), List.forall_mem_cons.mpr ⟨nd_cell hcd4, List.forall_mem_nil _⟩⟩)
    simp only [List.cons_append, List.nil_append] at N3
    walk_at "my steps"
    rename News _ _ _ _ => N5
    rename Fr _ _ _ _ => F5
    rename IntsAre _ _ => hI5
    refine named (s := Shared.mk _ _ _ _ _) F5 N5 fun s5 e51 e52 F5 N5 => ?_
    obtain ⟨H5, st5⟩ := hdone3 s5 _ _ _ e51 e52 F5 N5 (by walk_at "my rest") (by walk_at "my mems") (by k_mem) hps3
    have hr2 : (List.take (min 23 ns.length - 12) (List.drop 12 ns)).length ≤ 11 := by simp only [List.length_take, List.length_drop]; omega
    refine wpAny_mono (law_text ?_ ?_ ?_ H5 (N5 _ (.head _)).1 (safe_of N5 X3 T3 M3 (.head _)) hI5 (by omega)) (fun v s6 hv => ?_) (fun _ _ x => x.elim)
    · rfl
    · exact Nat.lt_of_le_of_lt (Nat.add_le_add_right (Nat.le_of_eq (m := dp + 1) rfl) 20) (by omega)
    · exact Nat.lt_of_le_of_lt (Nat.add_le_add_right (Nat.le_of_eq (m := un + 3) rfl) 100) (by omega)
    obtain ⟨br, tr, rfl, hbr, st6⟩ := hv
    have hrl : (textOf (List.take (min 23 ns.length - 12) (List.drop 12 ns))).length ≤ 11 := by rw [text_len]; exact hr2
    have hrm := @text_mem (List.take (min 23 ns.length - 12) (List.drop 12 ns))
    generalize textOf (List.take (min 23 ns.length - 12) (List.drop 12 ns)) = ksr at *
    have H6 := H5.ext st6.ext
    have hn6 := st6.ns F5.ns hLk
    have hc6 := st6.ext.keep _ _ hc16 (hcl' st5 hc4)
    have Z6 := (Z_step Z4 st5 hLL).trans st6
    clear F5 N5 hI5
    obtain ⟨ps6, g6, W6, hps6, F6, N6, _, X6, T6, M6, hdone6⟩ := ground H6 hn6 hLk [(L + 1, oc4)] (List.forall_mem_cons.mpr ⟨⟨hc6, hcs⟩, List.forall_mem_nil _⟩) (List.forall_mem_cons.mpr ⟨nd_cell hcd4, List.forall_mem_nil _⟩)
    simp only [List.cons_append, List.nil_append] at N6
    walk_at "my steps"
    rename News _ _ _ _ => N7
    rename Fr _ _ _ _ => F7
    refine named (s := Shared.mk _ _ _ _ _) F7 N7 fun s7 e71 e72 F7 N7 => ?_
    obtain ⟨H7, st7⟩ := hdone6 s7 _ _ _ e71 e72 F7 N7 (by walk_at "my rest") (by walk_at "my mems") (by k_mem) hps6
    refine wpAny_mono (law_right ?_ ?_ ?_ H7 hbl (by omega) (fun c hc => (hlm c hc).2.2) hk0 hk1) (fun v s8 hv => ?_) (fun _ _ x => x.elim)
    · rfl
    · exact Nat.lt_of_le_of_lt (Nat.add_le_add_right (Nat.le_of_eq (m := dp + 1) rfl) 100) (by omega)
    · exact Nat.lt_of_le_of_lt (Nat.add_le_add_right (Nat.le_of_eq (m := un + 3) rfl) 800) (by omega)
    obtain ⟨rfl, st8⟩ := hv
    have H8 := H7.ext st8.ext
    have hn8 := st8.ns F7.ns hLk
    have hc8 := st8.ext.keep _ _ hc16 (hcl' st7 hc6)
    have Z8 := (Z_step Z6 st7 hLL).trans st8
    clear F7 N7
    obtain ⟨ps8, g8, W8, hps8, F8, N8, _, X8, T8, M8, hdone8⟩ := ground H8 hn8 hLk [(L + 1, oc4)] (List.forall_mem_cons.mpr ⟨⟨hc8, hcs⟩, List.forall_mem_nil _⟩) (List.forall_mem_cons.mpr ⟨nd_cell hcd4, List.forall_mem_nil _⟩)
    simp only [List.cons_append, List.nil_append] at N8
    walk_at "my steps"
    rename News _ _ _ _ => N9
    rename Fr _ _ _ _ => F9
    refine named (s := Shared.mk _ _ _ _ _) F9 N9 fun s9 e91 e92 F9 N9 => ?_
    obtain ⟨H9, st9⟩ := hdone8 s9 _ _ _ e91 e92 F9 N9 (by walk_at "my rest") (by walk_at "my mems") (by k_mem) hps8
    refine wpAny_mono (law_right ?_ ?_ ?_ H9 hbr (by omega) (fun c hc => (hrm c hc).2.2) hk0 hk1) (fun v s10 hv => ?_) (fun _ _ x => x.elim)
    · rfl
    · exact Nat.lt_of_le_of_lt (Nat.add_le_add_right (Nat.le_of_eq (m := dp + 1) rfl) 100) (by omega)
    · exact Nat.lt_of_le_of_lt (Nat.add_le_add_right (Nat.le_of_eq (m := un + 3) rfl) 800) (by omega)
    obtain ⟨rfl, st10⟩ := hv
    have H10 := H9.ext st10.ext
    have hn10 := st10.ns F9.ns hLk
    have hc10 := st10.ext.keep _ _ hc16 (hcl' st9 hc8)
    have Z10 := (Z_step Z8 st9 hLL).trans st10
    clear F9 N9
    obtain ⟨ps10, g10, W10, hps10, F10, N10, _, X10, T10, M10, hdone10⟩ := ground H10 hn10 hLk [(L + 1, oc4)] (List.forall_mem_cons.mpr ⟨⟨hc10, hcs⟩, List.forall_mem_nil _⟩) (List.forall_mem_cons.mpr ⟨nd_cell hcd4, List.forall_mem_nil _⟩)
    simp only [List.cons_append, List.nil_append] at N10
    walk_at "my steps"
    · rename News _ _ _ _ => N11
      rename Fr _ _ _ _ => F11
      have hd := fun tk => hdone10 (Shared.mk _ s10.gens s10.drawn tk s10.os) _ _ _ rfl rfl F11 N11 (by walk_at "my rest") (by walk_at "my mems") (by k_mem) hps10
      exact ⟨rfl, Z_step Z10 (hd _).2 hLL⟩
    · rename News _ _ _ _ => N11
      rename Fr _ _ _ _ => F11
      have hd := fun tk => hdone10 (Shared.mk _ s10.gens s10.drawn tk s10.os) _ _ _ rfl rfl F11 N11 (by walk_at "my rest") (by walk_at "my mems") (by k_mem) hps10
      exact ⟨rfl, Z_step Z10 (hd _).2 hLL⟩
    · rename News _ _ _ _ => N11
      rename Fr _ _ _ _ => F11
      refine named (s := Shared.mk _ _ _ _ _) F11 N11 fun s11 e111 e112 F11 N11 => ?_
      obtain ⟨H11, st11⟩ := hdone10 s11 _ _ _ e111 e112 F11 N11 (by walk_at "my rest") (by walk_at "my mems") (by k_mem) hps10
      have hlk1 : k < ksl.length := by omega
      have hlk2 : k < ksr.length := by omega
      have Z11 := Z_step Z10 st11 hLL
      have hc11 := hcl' st11 hc10
      obtain ⟨tkl, tkr, u11, hn11⟩ : ∃ (tl2 : Tok) (tr2 : Tok) (u : Str → Option Value), s11.heap.Ns L (fun y => if y = Str.ofString "least" then some (.int (k : Int) tl2) else if y = Str.ofString "right" then some (.bytes br tr2) else u y) := ⟨_, _, _, Ns_norm2 F11.ns rfl rfl⟩
      clear F11 N11 hdone10 hdone8 hdone6 hdone3 hdone1
      refine' assign_list (cl := [(Str.ofString "left", L + 1)]) (m := fun y => if y = Str.ofString "least" then some (.int (k : Int) tkl) else if y = Str.ofString "right" then some (.bytes br tkr) else u11 y) (p := p) (loose := loose) (mg := mg) (mb := mb) (G := fun j z h => ∃ x, (knownC 0 (chunksOf k ksr))[j]? = some x ∧ KnV w (x.1 + ksl.length + 1, x.2) z h) ?hsw ?hy ?hpp ?hA ?h1 ?h2 ?h3 ?h4 ?h6 ?hGs ?h8
      case hsw => with_unfolding_all rfl
      case hy => rfl
      case hpp => rfl
      case hA => rfl
      case h1 => rfl
      case h2 => decide
      case h3 => rfl
      case h4 => decide
      case h6 => intro _; rfl
      case hGs => exact fun j z h h' hk ⟨x, e, t, b, tp, tm, tb, e1, h1, h2, h3⟩ => ⟨x, e, t, b, tp, tm, tb, e1, hk _ _ rfl (nd_tup _) h1, h2, h3⟩
      obtain ⟨ps11, g11, W11, hps11, F12, N12, _, X11, T11, M11, hdone11⟩ := ground H11 hn11 hLk [(L + 1, oc4)] (List.forall_mem_cons.mpr ⟨⟨hc11, hcs⟩, List.forall_mem_nil _⟩) (List.forall_mem_cons.mpr ⟨nd_cell hcd4, List.forall_mem_nil _⟩)
      simp only [List.cons_append, List.nil_append] at N12
      walk_at "my steps"
      rename News _ _ _ _ => N13
      rename Fr _ _ _ _ => F13
      refine named (s := Shared.mk _ _ _ _ _) F13 N13 fun s12 e121 e122 F13 N13 => ?_
      obtain ⟨H12, st12⟩ := hdone11 s12 _ _ _ e121 e122 F13 N13 (by walk_at "my rest") (by walk_at "my mems") (by k_mem) hps11
      refine wpAny_mono (law_chunks ?_ ?_ ?_ H12 hbr (by omega) (fun c hc => (hrm c hc).2.2) hk0 hk1) (fun v s13 hv => ?_) (fun _ _ x => x.elim)
      · rfl
      · exact Nat.lt_of_le_of_lt (Nat.add_le_add_right (Nat.le_of_eq (m := dp + 1) rfl) 80) (by omega)
      · exact Nat.lt_of_le_of_lt (Nat.add_le_add_right (Nat.le_of_eq (m := un + 3) rfl) 600) (by omega)
      obtain ⟨D, rfl, ⟨vals0, hD13, hP13⟩, hDn, hDs, st13⟩ := hv
      have H13 := H12.ext st13.ext
      have hn13 := st13.ns F13.ns hLk
      have hc13 := st13.ext.keep _ _ hc16 (hcl' st12 hc11)
      have Z13 : StpB (OnlyC L) NoG s11 s13 := st12.trans (st13.toB (Cs := OnlyC L) (Gs := NoG))
      clear F13 N13
      obtain ⟨ps13, g13, W13, hps13, F14, N14, _, X13, T13, M13, hdone13⟩ := ground H13 hn13 hLk [(L + 1, oc4), (D, _)] (List.forall_mem_cons.mpr ⟨⟨hc13, hcs⟩, List.forall_mem_cons.mpr ⟨⟨hD13, hDs⟩, List.forall_mem_nil _⟩⟩) (List.forall_mem_cons.mpr ⟨nd_cell hcd4, List.forall_mem_cons.mpr ⟨nd_lst _, List.forall_mem_nil _⟩⟩)
      simp only [List.cons_append, List.nil_append] at N14
      walk_at "my steps"
      rename News _ _ _ _ => N15
      rename Fr _ _ _ _ => F15
      refine named (s := Shared.mk _ _ _ _ _) F15 N15 fun s14 e141 e142 F15 N15 => ?_
      obtain ⟨H14, st14⟩ := hdone13 s14 _ _ _ e141 e142 F15 N15 (by walk_at "my rest") (by walk_at "my mems") (by k_mem) hps13
      have hD14 := News.get N15 (show (D, lst vals0) ∈ _ by k_mem)
      have hP14 := Paired.mono' (fun c v (x : ChV w c v s13.heap) => x.keeps fun t o h1 h2 e => st14.keep t o (tup_ne16 H13 e h1) (ns_ne hn13 e h2) e) hP13
      refine wpAny_mono (law_known ?_ ?_ ?_ H14 ⟨_, hD14, hP14⟩ hDs (chunksOf_lenle hk0 (show ksr.length ≤ 64 by omega)) (chunksOf_each hk0 (show ksr.length ≤ 64 by omega))) (fun v s15 hv => ?_) (fun _ _ x => x.elim)
      · rfl
      · exact Nat.lt_of_le_of_lt (Nat.add_le_add_right (Nat.le_of_eq (m := dp + 1) rfl) 20) (by omega)
      · exact Nat.lt_of_le_of_lt (Nat.add_le_add_right (Nat.le_of_eq (m := un + 3) rfl) 100) (by omega)
      obtain ⟨K, rfl, ⟨vals, hK15, hP15⟩, hKs, st15⟩ := hv
      have H15 := H14.ext st15.ext
      have hn15 := st15.ns F15.ns hLk
      have hc15 := st15.ext.keep _ _ hc16 (hcl' st14 hc13)
      have Z15 : StpB (OnlyC L) NoG s11 s15 := (Z13.trans st14).trans (st15.toB (Cs := OnlyC L) (Gs := NoG))
      clear F15 N15
      refine ⟨K, vals, rfl, ?_, ?_, H15, hn15, hK15, ?_, ?_⟩
      · intro j v hv
        obtain ⟨x, hx, t, b, tp, tm, tb, e, _⟩ := Paired.rev hP15 hv
        exact ⟨t, e⟩
      · rw [← hP15.length]
        exact Nat.le_trans (knownC_len _ _) (Nat.le_trans (chunksOf_lenle hk0 (show ksr.length ≤ 64 by omega)) (by decide))
      · intro j v C sj hv Hj hCk hmC hkj hCn eg eo
        obtain ⟨m0, hm0⟩ := hmC
        obtain ⟨x, hx, t, b, tp, tm, tb, rfl, ht, hb, hts⟩ := Paired.rev hP15 hv
        have htj := hkj t _ (tup_ne16 H15 ht rfl) ht
        have hcj := hkj (L + 1) _ hc16 hc15
        have hCc : L + 1 ≠ C := (ne_new hCn hc15).symm
        refine assign3 rfl ⟨_, htj, rfl, _, rfl⟩ (lookup_relabel_local rfl) (lookup_relabel_local rfl) (lookup_relabel_local rfl) rfl hm0 fun h' tk hn' hk' => ?_
        refine named0 fun s16 e160 e161 e162 => ?_
        dsimp only at e160
        subst e160
        have st16 : StpB (OnlyC C) NoG sj s16 := ⟨e162, by rw [e161]; exact Nat.le_refl _, fun _ _ _ => by rw [e161], fun x => by rw [e161]; exact x, fun b o _ h2 e => hk' b o h2 e, let ⟨ps, e, hok⟩ := Hj.tab; ⟨ps, hk' _ _ (Ne.symm (Nat.ne_of_gt hCk.t)) e, hok⟩⟩
        have H16 := Hj.stpB st16 (fun b hb => hb ▸ hCk.safe)
        have hc16' := hk' (L + 1) _ hCc hcj
        clear hm0 hk'
        obtain ⟨x1, x2, x3⟩ := x
        have hn' : s16.heap.Ns C (fun q => if q = Str.ofString "octets" then some (.bytes b tb) else if q = Str.ofString "mode" then some (.int x2 tm) else if q = Str.ofString "place" then some (.int (x1 : Int) tp) else m0 q) := hn'
        obtain ⟨ps16, g16, W16, hps16, F16, N16, _, X16, T16, M16, hdone16⟩ := ground H16 hn' hCk [(L + 1, oc4)] (List.forall_mem_cons.mpr ⟨⟨hc16', hcs⟩, List.forall_mem_nil _⟩) (List.forall_mem_cons.mpr ⟨nd_cell hcd4, List.forall_mem_nil _⟩)
        simp only [List.cons_append, List.nil_append] at N16
        walk_at "my steps"
        all_goals (first | exact (0 : Addr) | exact (Str.ofString "" : Str) | exact Value.none | exact ([] : List (Str × Addr)) | skip)
        refine ld_builtR F16 X16 T16 (by k_is) (by boot_by_name) (by decide) ?_
        walk_at "my steps"
        all_goals (first | exact (0 : Addr) | exact (Str.ofString "" : Str) | exact Value.none | exact ([] : List (Str × Addr)) | skip)
        rename News _ _ _ _ => N17
        rename Fr _ _ _ _ => F17
        have hd := fun tk => hdone16 (Shared.mk _ s16.gens s16.drawn tk s16.os) _ _ _ rfl rfl F17 N17 (by walk_at "my rest") (by walk_at "my mems") (by k_mem) hps16
        exact ⟨(hd 0).1, st16.trans (hd _).2, e161, ⟨_, F17.ns⟩, _, hx, KnV.of_tup (N17 _ (.head _)).1 (by dsimp only; omega) hb (safe_of N17 X16 T16 M16 (.head _))⟩
      · intro M ys sf hMn hMs hM hyl hGy hnf stf egf
        have Hf := H15.stpB stf (fun b hb => hb ▸ hLk.safe)
        have hcf := hcl' stf hc15
        have hnf : sf.heap.Ns L (fun z => if z = Str.ofString "moved" then some (.ref M) else if z = Str.ofString "least" then some (.int (k : Int) tkl) else if z = Str.ofString "right" then some (.bytes br tkr) else u11 z) := hnf
        have stf : StpB (OnlyC L) NoG s15 sf := stf
        have kM : KnownAt w ((knownC 0 (chunksOf k ksr)).map fun x => (x.1 + ksl.length + 1, x.2)) M sf.heap := by
          refine ⟨ys, hM, Paired.of_idx (by rw [List.length_map, hyl, hP15.length]) fun j y hy => ?_⟩
          obtain ⟨x, hx, hk⟩ := hGy j y hy
          exact ⟨_, by rw [List.getElem?_map, hx]; rfl, hk⟩
        have Zf : Stp s sf := Z_step (Z_step Z11 Z15 hLL) stf hLL
        clear hGy hM hK15 hP15 hD13 hP13 hD14 hP14
        obtain ⟨psf, gf, Wf, hpsf, F20, N20, _, Xf, Tf, Mf, hdonef⟩ := ground Hf hnf hLk [(L + 1, oc4)] (List.forall_mem_cons.mpr ⟨⟨hcf, hcs⟩, List.forall_mem_nil _⟩) (List.forall_mem_cons.mpr ⟨nd_cell hcd4, List.forall_mem_nil _⟩)
        simp only [List.cons_append, List.nil_append] at N20
        walk_at "my steps"
        rename News _ _ _ _ => N21
        rename Fr _ _ _ _ => F21
        rename KBw.bInts (_ ++ br) = _ => hbj
        have hbj : KBw.bInts (bl ++ _ ++ br) = ksl ++ 113 :: ksr := hbj.trans (by rw [List.append_assoc]; rfl)
        have hjl : (ksl ++ 113 :: ksr).length ≤ 64 := by rw [List.length_append, List.length_cons]; omega
        have hjm : ∀ c ∈ ksl ++ 113 :: ksr, c ≠ 10 := fun c hc => by
          rcases List.mem_append.mp hc with q | q
          · exact (hlm c q).2.2
          · rcases List.mem_cons.mp q with rfl | q
            · decide
            · exact (hrm c q).2.2
        refine named (s := Shared.mk _ _ _ _ _) F21 N21 fun s21 e211 e212 F21 N21 => ?_
        obtain ⟨H21, st21⟩ := hdonef s21 _ _ _ e211 e212 F21 N21 (by walk_at "my rest") (by walk_at "my mems") (by k_mem) hpsf
        refine wpAny_mono (law_right ?_ ?_ ?_ H21 hbj hjl hjm hk0 hk1) (fun v s22 hv => ?_) (fun _ _ x => x.elim)
        · rfl
        · exact Nat.lt_of_le_of_lt (Nat.add_le_add_right (Nat.le_of_eq (m := dp + 1) rfl) 100) (by omega)
        · exact Nat.lt_of_le_of_lt (Nat.add_le_add_right (Nat.le_of_eq (m := un + 3) rfl) 800) (by omega)
        obtain ⟨rfl, st22⟩ := hv
        have H22 := H21.ext st22.ext
        have hc22 := st22.ext.keep _ _ hc16 (hcl' st21 hcf)
        have kM := (kM.stpB Hf hnf st21).stp H21 st22
        have Z22 := (Z_step Zf st21 hLL).trans st22
        obtain ⟨bj, tj, tl3, u22, hbj, hn22⟩ : ∃ (bj : Array UInt8) (tj tl3 : Tok) (u : Str → Option Value), KBw.bInts bj = ksl ++ 113 :: ksr ∧ s22.heap.Ns L (fun y => if y = Str.ofString "least" then some (.int (k : Int) tl3) else if y = Str.ofString "joined" then some (.bytes bj tj) else if y = Str.ofString "moved" then some (.ref M) else u y) := ⟨_, _, _, _, hbj, Ns_norm3' (st22.ns F21.ns hLk) rfl rfl rfl⟩
        clear F21 N21 hdonef hnf
        obtain ⟨ps22, g22, W22, hps22, F22, N22, _, X22, T22, M22, hdone22⟩ := ground H22 hn22 hLk [(L + 1, oc4)] (List.forall_mem_cons.mpr ⟨⟨hc22, hcs⟩, List.forall_mem_nil _⟩) (List.forall_mem_cons.mpr ⟨nd_cell hcd4, List.forall_mem_nil _⟩)
        simp only [List.cons_append, List.nil_append] at N22
        walk_at "my steps"
        rename News _ _ _ _ => N23
        rename Fr _ _ _ _ => F23
        refine named (s := Shared.mk _ _ _ _ _) F23 N23 fun s23 e231 e232 F23 N23 => ?_
        obtain ⟨H23, st23⟩ := hdone22 s23 _ _ _ e231 e232 F23 N23 (by walk_at "my rest") (by walk_at "my mems") (by k_mem) hps22
        refine wpAny_mono (law_chunks ?_ ?_ ?_ H23 hbj hjl hjm hk0 hk1) (fun v s24 hv => ?_) (fun _ _ x => x.elim)
        · rfl
        · exact Nat.lt_of_le_of_lt (Nat.add_le_add_right (Nat.le_of_eq (m := dp + 1) rfl) 80) (by omega)
        · exact Nat.lt_of_le_of_lt (Nat.add_le_add_right (Nat.le_of_eq (m := un + 3) rfl) 600) (by omega)
        obtain ⟨D2, rfl, ⟨vals2, hD24, hP24⟩, hDn2, hDs2, st24⟩ := hv
        have H24 := H23.ext st24.ext
        have hn24 := st24.ns F23.ns hLk
        have hc24 := st24.ext.keep _ _ hc16 (hcl' st23 hc22)
        have kM := (kM.stpB H22 hn22 st23).stp H23 st24
        have Z24 := (Z_step Z22 st23 hLL).trans st24
        clear F23 N23 hdone22
        obtain ⟨ps24, g24, W24, hps24, F24, N24, _, X24, T24, M24, hdone24⟩ := ground H24 hn24 hLk [(L + 1, oc4), (D2, _)] (List.forall_mem_cons.mpr ⟨⟨hc24, hcs⟩, List.forall_mem_cons.mpr ⟨⟨hD24, hDs2⟩, List.forall_mem_nil _⟩⟩) (List.forall_mem_cons.mpr ⟨nd_cell hcd4, List.forall_mem_cons.mpr ⟨nd_lst _, List.forall_mem_nil _⟩⟩)
        simp only [List.cons_append, List.nil_append] at N24
        walk_at "my steps"
        rename News _ _ _ _ => N25
        rename Fr _ _ _ _ => F25
        refine named (s := Shared.mk _ _ _ _ _) F25 N25 fun s25 e251 e252 F25 N25 => ?_
        obtain ⟨H25, st25⟩ := hdone24 s25 _ _ _ e251 e252 F25 N25 (by walk_at "my rest") (by walk_at "my mems") (by k_mem) hps24
        have hD25 := News.get N25 (show (D2, lst vals2) ∈ _ by k_mem)
        have hP25 := Paired.mono' (fun c v (x : ChV w c v s24.heap) => x.keeps fun t o h1 h2 e => st25.keep t o (tup_ne16 H24 e h1) (ns_ne hn24 e h2) e) hP24
        refine wpAny_mono (law_known ?_ ?_ ?_ H25 ⟨_, hD25, hP25⟩ hDs2 (chunksOf_lenle hk0 hjl) (chunksOf_each hk0 hjl)) (fun v s26 hv => ?_) (fun _ _ x => x.elim)
        · rfl
        · exact Nat.lt_of_le_of_lt (Nat.add_le_add_right (Nat.le_of_eq (m := dp + 1) rfl) 20) (by omega)
        · exact Nat.lt_of_le_of_lt (Nat.add_le_add_right (Nat.le_of_eq (m := un + 3) rfl) 100) (by omega)
        obtain ⟨J, rfl, kJ, hJs, st26⟩ := hv
        have H26 := H25.ext st26.ext
        have hn26 := st26.ns F25.ns hLk
        have hc26 := st26.ext.keep _ _ hc16 (hcl' st25 hc24)
        have kM := (kM.stpB H24 hn24 st25).stp H25 st26
        have Z26 := (Z_step Z24 st25 hLL).trans st26
        clear F25 N25 hdone24 hD24 hP24 hD25 hP25
        obtain ⟨ps26, g26, W26, hps26, F26, N26, _, X26, T26, M26, hdone26⟩ := ground H26 hn26 hLk [(L + 1, oc4)] (List.forall_mem_cons.mpr ⟨⟨hc26, hcs⟩, List.forall_mem_nil _⟩) (List.forall_mem_cons.mpr ⟨nd_cell hcd4, List.forall_mem_nil _⟩)
        simp only [List.cons_append, List.nil_append] at N26
        walk_at "my steps"
        rename News _ _ _ _ => N27
        rename Fr _ _ _ _ => F27
        refine named (s := Shared.mk _ _ _ _ _) F27 N27 fun s27 e271 e272 F27 N27 => ?_
        obtain ⟨H27, st27⟩ := hdone26 s27 _ _ _ e271 e272 F27 N27 (by walk_at "my rest") (by walk_at "my mems") (by k_mem) hps26
        refine wpAny_mono (law_chunks ?_ ?_ ?_ H27 hbl (by omega) (fun c hc => (hlm c hc).2.2) hk0 hk1) (fun v s28 hv => ?_) (fun _ _ x => x.elim)
        · rfl
        · exact Nat.lt_of_le_of_lt (Nat.add_le_add_right (Nat.le_of_eq (m := dp + 1) rfl) 80) (by omega)
        · exact Nat.lt_of_le_of_lt (Nat.add_le_add_right (Nat.le_of_eq (m := un + 3) rfl) 600) (by omega)
        obtain ⟨D3, rfl, ⟨vals3, hD28, hP28⟩, hDn3, hDs3, st28⟩ := hv
        have H28 := H27.ext st28.ext
        have hn28 := st28.ns F27.ns hLk
        have hc28 := st28.ext.keep _ _ hc16 (hcl' st27 hc26)
        have kM := (kM.stpB H26 hn26 st27).stp H27 st28
        have kJ := (kJ.stpB H26 hn26 st27).stp H27 st28
        have Z28 := (Z_step Z26 st27 hLL).trans st28
        clear F27 N27 hdone26
        obtain ⟨ps28, g28, W28, hps28, F28, N28, _, X28, T28, M28, hdone28⟩ := ground H28 hn28 hLk [(L + 1, oc4), (D3, _)] (List.forall_mem_cons.mpr ⟨⟨hc28, hcs⟩, List.forall_mem_cons.mpr ⟨⟨hD28, hDs3⟩, List.forall_mem_nil _⟩⟩) (List.forall_mem_cons.mpr ⟨nd_cell hcd4, List.forall_mem_cons.mpr ⟨nd_lst _, List.forall_mem_nil _⟩⟩)
        simp only [List.cons_append, List.nil_append] at N28
        walk_at "my steps"
        rename News _ _ _ _ => N29
        rename Fr _ _ _ _ => F29
        refine named (s := Shared.mk _ _ _ _ _) F29 N29 fun s29 e291 e292 F29 N29 => ?_
        obtain ⟨H29, st29⟩ := hdone28 s29 _ _ _ e291 e292 F29 N29 (by walk_at "my rest") (by walk_at "my mems") (by k_mem) hps28
        have hD29 := News.get N29 (show (D3, lst vals3) ∈ _ by k_mem)
        have hP29 := Paired.mono' (fun c v (x : ChV w c v s28.heap) => x.keeps fun t o h1 h2 e => st29.keep t o (tup_ne16 H28 e h1) (ns_ne hn28 e h2) e) hP28
        refine wpAny_mono (law_known ?_ ?_ ?_ H29 ⟨_, hD29, hP29⟩ hDs3 (chunksOf_lenle hk0 (show ksl.length ≤ 64 by omega)) (chunksOf_each hk0 (show ksl.length ≤ 64 by omega))) (fun v s30 hv => ?_) (fun _ _ x => x.elim)
        · rfl
        · exact Nat.lt_of_le_of_lt (Nat.add_le_add_right (Nat.le_of_eq (m := dp + 1) rfl) 20) (by omega)
        · exact Nat.lt_of_le_of_lt (Nat.add_le_add_right (Nat.le_of_eq (m := un + 3) rfl) 100) (by omega)
        obtain ⟨K2, rfl, kL, hK2s, st30⟩ := hv
        have H30 := H29.ext st30.ext
        have hn30 := st30.ns F29.ns hLk
        have hc30 := st30.ext.keep _ _ hc16 (hcl' st29 hc28)
        have kM := (kM.stpB H28 hn28 st29).stp H29 st30
        have kJ := (kJ.stpB H28 hn28 st29).stp H29 st30
        have Z30 := (Z_step Z28 st29 hLL).trans st30
        clear F29 N29 hdone28 hD28 hP28 hD29 hP29
        obtain ⟨ps30, g30, W30, hps30, F30, N30, _, X30, T30, M30, hdone30⟩ := ground H30 hn30 hLk [(L + 1, oc4)] (List.forall_mem_cons.mpr ⟨⟨hc30, hcs⟩, List.forall_mem_nil _⟩) (List.forall_mem_cons.mpr ⟨nd_cell hcd4, List.forall_mem_nil _⟩)
        simp only [List.cons_append, List.nil_append] at N30
        walk_at "my steps"
        rename News _ _ _ _ => N31
        rename Fr _ _ _ _ => F31
        refine named (s := Shared.mk _ _ _ _ _) F31 N31 fun s31 e311 e312 F31 N31 => ?_
        obtain ⟨H31, st31⟩ := hdone30 s31 _ _ _ e311 e312 F31 N31 (by walk_at "my rest") (by walk_at "my mems") (by k_mem) hps30
        obtain ⟨vL, hL30, pL30⟩ := kL
        obtain ⟨vM, hM30, pM30⟩ := kM
        have hvl : vL.length ≤ 64 := by
          rw [← pL30.length]
          exact Nat.le_trans (knownC_len _ _) (chunksOf_lenle hk0 (by omega))
        have hvm : vM.length ≤ 64 := by
          rw [← pM30.length, List.length_map]
          exact Nat.le_trans (knownC_len _ _) (chunksOf_lenle hk0 (by omega))
        have hL31 := st31.keep _ _ (ne16_of H30 hL30 (by intro q; cases q)) (ns_ne hn30 hL30 (nd_lst _)) hL30
        have hM31 := st31.keep _ _ (ne16_of H30 hM30 (by intro q; cases q)) (ns_ne hn30 hM30 (nd_lst _)) hM30
        refine add_lists (hsz := Nat.le_trans (Nat.add_le_add hvl hvm) (by decide)) F31 N31 ⟨_, hL31, rfl, _, rfl⟩ ⟨_, hM31, rfl, _, rfl⟩ (fun h32 F32 N32 => ?_)
        walk_at "my steps"
        rename News _ _ _ _ => N33
        rename Fr _ _ _ _ => F33
        refine named (s := Shared.mk _ _ _ _ _) F33 N33 fun s33 e331 e332 F33 N33 => ?_
        obtain ⟨H33, st33⟩ := hdone30 s33 _ _ _ (e331.trans e311) (e332.trans e312) F33 N33 (by walk_at "my rest") (by walk_at "my mems") (by k_mem) hps30
        obtain ⟨vJ, hJ33, pJ33⟩ := kJ.stpB H30 hn30 st33
        have pK : Paired (fun x v => KnV w x v s33.heap) (knownC 0 (chunksOf k (ksl ++ 113 :: ksr))) (vL ++ vM) := by
          rw [known_joined hk0 hlk1 hlk2]
          exact Paired.app (PairKn.stpB pL30 H30 hn30 st33) (PairKn.stpB pM30 H30 hn30 st33)
        have hK33 := (N33 _ (.head _)).1
        refine eq_lists (n := vJ.length) (m := 0) hJ33 hK33 (by rw [← pJ33.length, pK.length]) (Nat.lt_of_le_of_lt (Nat.le_of_eq (m := un + 3) rfl) (by omega)) (fun j h1 h2 => ?_) ?_
        · obtain ⟨a, p1, p2⟩ := Paired.both pJ33 pK j h1 h2
          exact EqAt_kn p1 p2 (Nat.lt_of_le_of_lt (Nat.le_of_eq (m := un + 5) rfl) (by omega))
        · exact ⟨rfl, Z_step Z30 st33 hLL⟩
end Mine
end

section
open PySem PySem.W PyProof.Rows PySem.Calls PyProof.Rows.LCg
set_option maxRecDepth 100000
namespace Mine
theorem has_run_of : (recsOf hd.view_39).any (fun d => d.name == Str.ofString "run_of") = true := by decide +kernel
theorem tab16 {loose : List Str} {mean : ExcName → Option Value} {mg mb : Str → Option Value} {h : Heap} {w : World} (T : Top hd.view_39 loose mean mg mb h) (KX : (hd.heap_39 w.params).In h) : ∃ c, h.TableAt c 16 #[] := by
  obtain ⟨d, hd1, hd2⟩ := List.any_eq_true.mp has_run_of
  obtain ⟨a, o, fd, c, P, e1, e2, e3, e4, e5, e6⟩ := T.tab d hd1
  rw [eq_of_beq hd2] at e1
  have e7 := mg_of KX T.g (show nsIn (hd.heap_39 w.params) mainGlobals (Str.ofString "run_of") = some (some (.ref 21)) from by rfl)
  have e8 : a = 21 := by rw [e7] at e1; cases e1; rfl
  subst e8
  have h21 := KX 21 _ (by rfl)
  have h20 := KX 20 _ (by rfl)
  rw [h21] at e2
  cases e2
  cases e3
  cases e4
  have e6' := e6
  obtain ⟨⟨o2, vs, q1, q2, q3, q4⟩, _⟩ := e6
  rw [h20] at q1
  cases q1
  cases q3
  cases q4
  exact ⟨_, e6'⟩
theorem mg4 {mg mb : Str → Option Value} {loose : List Str} {mean : ExcName → Option Value} {h : Heap} {w : World} (T : Top hd.view_39 loose mean mg mb h) (KX : (hd.heap_39 w.params).In h) {bm : Addr} {ob : Obj} (M : BMod h mainGlobals mg bm ob) : bm = 4 := by
  have e7 := mg_of KX T.g (show nsIn (hd.heap_39 w.params) mainGlobals (Str.ofString "__builtins__") = some (some (.ref 4)) from by rfl)
  have := M.name
  rw [show ("__builtins__" : Str) = Str.ofString "__builtins__" from rfl, e7] at this
  cases this; rfl
theorem mg121 {mg mb : Str → Option Value} {loose : List Str} {mean : ExcName → Option Value} {h : Heap} {w : World} (T : Top hd.view_39 loose mean mg mb h) (KX : (hd.heap_39 w.params).In h) : mg (Str.ofString "law") = some (.ref 121) :=
  mg_of KX T.g (show nsIn (hd.heap_39 w.params) mainGlobals (Str.ofString "law") = some (some (.ref 121)) from by rfl)
end Mine
end

section
open PySem PySem.W PyProof.Rows PySem.Calls PyProof.Rows.LCg
set_option maxRecDepth 100000
namespace Mine
theorem asWas {h h' : Heap} {c : Addr} (t : h.TableAt c 16 #[]) (x : Ext h h') : OldK h h' := by
  refine ⟨fun b o e => ?_, fun b o e => ?_⟩
  · by_cases q : b = 16
    · subst q
      have e2 := t.2
      rw [e] at e2
      cases e2
      obtain ⟨ps, e3, _⟩ := x.tab
      exact .inr (.inl ⟨t.isCodeTable, rfl, #[], ps, rfl, by rw [e3]; simp⟩)
    · exact .inl (x.keep b o q e)
  · by_cases q : b = 16
    · subst q
      obtain ⟨ps, e3, _⟩ := x.tab
      exact ⟨_, e3⟩
    · exact ⟨_, x.keep b o q e⟩
def isL (o : Obj) : Bool := match o.cls with | .type x => x == "list" | _ => false
theorem K_noL (w : World) : ((hd.heap_39 w.params).all fun q => !isL q.2) = true := by rfl
theorem lookup_mem {a : Addr} {o : Obj} : ∀ {l : List (Addr × Obj)}, l.lookup a = some o → ∃ b, (b, o) ∈ l
  | [], h => by cases h
  | (b, c) :: l, h => by
    rw [List.lookup_cons] at h
    split at h
    · cases h; exact ⟨b, .head _⟩
    · obtain ⟨d, hd⟩ := lookup_mem h
      exact ⟨d, .tail _ hd⟩
theorem out_safe {w : World} {p : Program} {loose : List Str} {mg mb : Str → Option Value} {h : Heap} {S : Addr} {o : Obj} {xs : Array Value} {n : Nat} (H : Hp w p loose mg mb h) (hS : h.get? S = some o) (h2 : o.cls = .type "list") (h3 : o.data = .seq xs n) : Safe w S := by
  refine ⟨?_, fun q => ?_, fun q => ?_⟩
  · cases q : (hd.heap_39 w.params).lookup S with
    | none => rfl
    | some o' =>
      have e := H.X _ _ q
      rw [hS] at e; cases e
      obtain ⟨b, hb⟩ := lookup_mem q
      have := List.all_eq_true.mp (K_noL w) _ hb
      simp [isL, h2] at this
  · subst q
    obtain ⟨o', es, ep, e, r, _⟩ := H.T.b
    rw [hS] at e; cases e
    rw [h3] at r; cases r
  · subst q
    obtain ⟨ob, M⟩ := H.M
    have e := M.obj
    rw [hS] at e; cases e
    have := M.cls
    rw [h2] at this
    injection this with this
    exact absurd this (by decide)
theorem well_list {P : Params} {h : Heap} {a : Addr} {xs : List WData} (x : Well P h (.ref a) (.list xs)) : ∃ vs : List Value, h.get? a = some { cls := .type "list", data := .seq vs.toArray } := by
  cases x with
  | list h _ => exact ⟨_, h⟩
set_option maxHeartbeats 8000000 in
theorem endx : PySem.Challenge.rw_ez0306_01.Holds := by
  w_on
  refine Mine.hd ?_
  k_fill
  intro w s₀ s₁ mg mb G Y fa o pm cd doc dV kV ho hd hcd hD hmg hg args vals as hpre hlay hrd hwl hlo
  have KX := kIn_of Y
  refine Ground.open G ?_
  intro T B D TE TW
  obtain ⟨bm, ob, M⟩ := bmod_of_top T
  have hbm := mg4 T KX M
  subst hbm
  obtain ⟨c, ht⟩ := tab16 T KX
  have hf := mg121 T KX
  have hfa : fa = 121 := by
    have h2 : mg (Str.ofString "law") = some (.ref fa) := hmg
    rw [hf] at h2; cases h2; rfl
  subst hfa
  clear ho hd hcd hD hmg pm cd doc dV kV B D TE TW G Y
  wrow_args hpre hlay hrd hwl hlo
  rename s₁.heap.IsList _ _ => hSl
  rename IntsAre _ _ => hI
  rename ¬ _ < _ => hlen
  have H : Hp w _ _ mg mb s₁.heap := ⟨KX, topRead_of T, ⟨_, M⟩, _, ht.2, .inl rfl⟩
  rename List Int => ns
  rename List Value => vs
  have hn : ns.length ≤ 63 := by omega
  rename Well _ _ _ _ => hW
  obtain ⟨vs', ho'⟩ := well_list hW
  obtain ⟨ob2, ho, hc, n, hdt⟩ := id hSl
  rw [ho'] at ho
  cases ho
  cases hdt
  have hsl := out_safe H ho' rfl rfl
  refine wpAny_mono (law_law (nn := 0) rfl (by decide) (by decide) H ho' hsl hI hn) (fun v s' hv => ?_) (fun _ _ x => x.elim)
  · obtain ⟨rfl, st⟩ := hv
    refine ⟨.inl ⟨_, .bool true, [], rfl, raisesW_false ?_, .bool true, ?_, fun _ => ⟨List.nodup_nil, fun a ha => by cases ha⟩⟩, asWas ht st.ext, st.os, st.bare (.of_eq hg)⟩
    · wrow_none_raised
    · wrow_post
end Mine
end

theorem PySem.Challenge.cw_ez0306_01_holds : PySem.Challenge.rw_ez0306_01.Holds :=
  Mine.endx
