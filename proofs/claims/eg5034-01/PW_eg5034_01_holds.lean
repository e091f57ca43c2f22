import PyProof.Rows.All
import Wide.All
import OpenK.AllK
import Wide.FinOn
import KE.KNest
import KE.KTurnsDict
import KE.KTypeName
import KE.KTryDeepN
import KE.RegKTryDeep
import Lean
import PySem.Challenge.RW_eg5034_01
set_option Elab.async false
section
open PySem PySem.W PyProof.Rows
set_option maxRecDepth 100000
set_option maxHeartbeats 8000000
namespace Mine
open_top hd for PySem.Challenge.rw_eg5034_01
end Mine
end

theorem Mine.flag9 : True := by
  w_top off
  trivial

section
open PySem PySem.W PyProof.Rows PySem.Calls PySem.Spec
set_option maxRecDepth 100000
namespace Mine

theorem wp_le {α : Type} {M : Model} {A A' : Around} {t : Sem α} {Q : α → Shared → Prop} {E : Value → Shared → Prop} {s : Shared} (h : wpAny M A' t Q E s)
    (h1 : A.handled = A'.handled) (h2 : A.depth ≤ A'.depth) (h3 : A.frames = A'.frames) (h4 : A.guards = A'.guards) (h5 : A.units ≤ A'.units) : wpAny M A t Q E s :=
  fun Γ p hΓ => h Γ p ⟨hΓ.1.trans h1, Nat.le_trans hΓ.2.1 h2, fun l hl => hΓ.2.2.1 l (h3.trans hl), fun g hg => hΓ.2.2.2.1 g (h4.trans hg), Nat.le_trans hΓ.2.2.2.2 h5⟩

theorem code_le {M : Model} {A A' : Around} {c : Code} {R : Result → Shared → Prop} {s : Shared} (h : codeAny M A' c R s)
    (h1 : A.handled = A'.handled) (h2 : A.depth ≤ A'.depth) (h3 : A.frames = A'.frames) (h4 : A.guards = A'.guards) (h5 : A.units ≤ A'.units) : codeAny M A c R s :=
  fun Γ p hc hΓ => h Γ p hc ⟨hΓ.1.trans h1, Nat.le_trans hΓ.2.1 h2, fun l hl => hΓ.2.2.1 l (h3.trans hl), fun g hg => hΓ.2.2.2.1 g (h4.trans hg), Nat.le_trans hΓ.2.2.2.2 h5⟩

abbrev atA (env : Env) (outer : List Env) (gd : Option (List Code)) (d u : Nat) : Around := { handled := none, depth := d, frames := some (env :: outer), guards := gd, units := u }

theorem code_at {M : Model} {A : Around} {c : Code} {R : Result → Shared → Prop} {s : Shared} {env : Env} {outer : List Env} {d u : Nat} (h : codeAny M (atA env outer A.guards d u) c R s)
    (h1 : A.handled = none) (h2 : A.depth ≤ d) (h3 : A.frames = some (env :: outer)) (h5 : A.units ≤ u) : codeAny M A c R s :=
  code_le h h1 h2 h3 rfl h5

def OV (v : Value) : Prop := v = .none ∨ ∃ i t, v = .int i t ∧ i.natAbs < 10 ^ 120

theorem OV.handed {v : Value} (h : OV v) : handedIn v = true := by
  rcases h with rfl | ⟨i, t, rfl, _⟩ <;> rfl

abbrev flds (hs : Nat → Int) (ts : Nat → Tok) (v : Nat → Value) : List DictEntry :=
  [⟨hs 0, .str (Str.ofString "millennia") (ts 0), v 0⟩, ⟨hs 1, .str (Str.ofString "centuries") (ts 1), v 1⟩, ⟨hs 2, .str (Str.ofString "decades") (ts 2), v 2⟩,
   ⟨hs 3, .str (Str.ofString "years") (ts 3), v 3⟩, ⟨hs 4, .str (Str.ofString "months") (ts 4), v 4⟩, ⟨hs 5, .str (Str.ofString "weeks") (ts 5), v 5⟩,
   ⟨hs 6, .str (Str.ofString "days") (ts 6), v 6⟩, ⟨hs 7, .str (Str.ofString "hours") (ts 7), v 7⟩, ⟨hs 8, .str (Str.ofString "minutes") (ts 8), v 8⟩,
   ⟨hs 9, .str (Str.ofString "seconds") (ts 9), v 9⟩, ⟨hs 10, .str (Str.ofString "microseconds") (ts 10), v 10⟩]
abbrev vals (v : Nat → Value) : List Value := [v 0, v 1, v 2, v 3, v 4, v 5, v 6, v 7, v 8, v 9, v 10]
end Mine
end

section
open PySem PySem.W PyProof.Rows PySem.Calls PySem.Spec
set_option maxRecDepth 100000
namespace Mine

theorem go_tupiter {prog : Program} {w : World} {A : Around} {E : Value → Shared → Prop} {s : Shared} {elts : List Expr} {x1} {pos : Pos} {I l T : Addr} {i : Nat} {Q : Unit → Shared → Prop} (hit : s.heap.IsTupleIter I l i) (hQ : Q () s) :
    wpAny (model prog w) A (letOwnedTupleGo (.Tuple elts x1 pos) (.ref I) (.ref T)) Q E s := by
  obtain ⟨_, there, isTup, fields⟩ := hit
  unfold letOwnedTupleGo
  refine wpAny_bind (wpAny_load there ?_)
  simp only [isTup, fields]
  exact wpAny_pure hQ

def kept (prs : List (Str × Value)) : List (Str × Value) := prs.filter fun p => !(p.2 == .none)

theorem stored_new {kvs : List (Str × Value)} {k : Str} {v : Value} (h : k ∉ kvs.map (·.1)) : stored kvs k v = kvs ++ [(k, v)] := by
  unfold stored
  rw [if_neg]
  intro hc
  obtain ⟨p, hp, e⟩ := List.any_eq_true.mp hc
  exact h (List.mem_map.mpr ⟨p, hp, of_decide_eq_true e⟩)

section
variable {prog : Program} {w : World} {A : Around} {E : Value → Shared → Prop} {s : Shared} {env : Env}

theorem notNone_test {C : Addr} {scope : Scope} {cl : List (Str × Addr)} {b : Str} {pb pc pcm : Pos} {kc : Nat} {m : Str → Option Value} {v : Value} {Q : Bool → Shared → Prop}
    (hkind : scope.kind = .function) (hb : scope.names.lookup b = some .local) (hn : s.heap.Ns C m) (hm : m b = some v) (hd : (b == ("__debug__" : Str)) = false)
    (h : ∀ tk, Q (!(v == .none)) { s with toks := tk }) :
    wpAny (model prog w) A (isTrue (.Compare (.Name b pb) [.IsNot] [.Constant .none kc pc] pcm) (compEnvC scope cl C env) (eval (.Compare (.Name b pb) [.IsNot] [.Constant .none kc pc] pcm) (compEnvC scope cl C env))) Q E s := by
  refine wpAny_isTrue_Compare1 (wpAny_Name (wpAny_loadName_local (by show scope.kind = _; exact hkind) (lookup_relabel_local hb) hn hm (wpAny_Constant_none (isNot_none ?_))) hd)
  exact wpAny_truthy_bool (h _)

theorem vd_loop {iter : Expr} {a b : Str} {pa pb pa' pb' pb'' tp pc pcm : Pos} {kk kc : Nat} {scope : Scope} {cl : List (Str × Addr)} {pos : Pos} {I D T C : Addr} {R : Result → Shared → Prop} {items : Array Value} {prs : List (Str × Value)}
    (hh : A.handled = none) (hkind : scope.kind = .function) (hxa : scope.names.lookup a = some .local) (hxb : scope.names.lookup b = some .local) (hab : a ≠ b) (hda : (a == ("__debug__" : Str)) = false) (hdb : (b == ("__debug__" : Str)) = false)
    (hIT : T ≠ I) (hTC : T ≠ C) (hTD : T ≠ D) (hIC : I ≠ C) (hID : I ≠ D) (hDC : D ≠ C) (hlen : items.size = prs.length) (hsz : prs.length ≤ sizeLine) (hnd : (prs.map (·.1)).Nodup)
    (hit : s.heap.IsTupleIter I T 0) (hT : s.heap.IsTuple T items) (hD : s.heap.DictOf (strKind prog w) D []) {m : Str → Option Value} (hn : s.heap.Ns C m)
    (hprs : ∀ (i : Nat) (p : Str × Value), prs[i]? = some p → ∃ Ti tk, items[i]? = some (.ref Ti) ∧ Ti ≠ I ∧ Ti ≠ C ∧ Ti ≠ D ∧ s.heap.IsTuple Ti #[.str p.1 tk, p.2])
    (hR : ∀ h' tk m', h'.Ns C m' → h'.DictOf (strKind prog w) D (kept prs) → (∀ c o, c ≠ I → c ≠ C → c ≠ D → s.heap.get? c = some o → h'.get? c = some o) → R (.ok .next) { s with heap := h', toks := tk }) :
    codeAny (model prog w) A (.compLoop (.DictComp (.Name a pa') (.Name b pb') [⟨.Tuple [.Name a pa, .Name b pb] kk tp, iter, [.Compare (.Name b pb'') [.IsNot] [.Constant .none kc pc] pcm], 0⟩] scope pos) 0 (.ref I) (.ref D) (compEnvC scope cl C env)) R s := by
  have hp : ((compEnvC scope cl C env).scope.kind == .class || ((compEnvC scope cl C env).scope.kind == .module && (compEnvC scope cl C env).locals != (compEnvC scope cl C env).globals)) = false := by simp [compEnvC, relabel, hkind]
  refine codeAny_loop rfl (fun k s' => ∃ h' tk i m', s' = { s with heap := h', toks := tk } ∧ i ≤ prs.length ∧ k = prs.length + 1 - i ∧ h'.IsTupleIter I T i ∧ h'.Ns C m' ∧ h'.DictOf (strKind prog w) D (kept (prs.take i)) ∧
      (∀ c o, c ≠ I → c ≠ C → c ≠ D → s.heap.get? c = some o → h'.get? c = some o)) ?_ (prs.length + 1) ⟨s.heap, s.toks, 0, m, rfl, Nat.zero_le _, rfl, hit, hn, hD, fun _ _ _ _ _ e => e⟩
  rintro k s' ⟨h', tk, i, m', rfl, hi, rfl, hit', hn', hD', hk⟩
  show wpAny _ A ((compTurn _ 0 (.ref I) (.ref D) (compEnvC scope cl C env)).onRaise (fun x => do noteFrame x (compEnvC scope cl C env); theTreesLotGoes x)) _ _ _
  refine wpAny_noted ?_
  rw [compTurn_dict]
  refine wpAny_bind (wpAny_standAt (wpAny_bind ?_))
  have hT' : h'.IsTuple T items := hT.at fun o e => hk T o hIT hTC hTD e
  by_cases hlt : i < prs.length
  · obtain ⟨p, hpi⟩ : ∃ p, prs[i]? = some p := ⟨prs[i], List.getElem?_eq_getElem hlt⟩
    obtain ⟨Ti, tki, hitem, h1, h2, h3, hTi⟩ := hprs i p hpi
    refine wpAny_pyNext_tuple_item hit' hT' hitem fun h₂ hit₂ hs₂ => ?_
    have hs₂' : Heap.SameBut I h' h₂ := hs₂
    refine wpAny_bind (go_tupiter hit₂ ?_)
    have hTi₂ : h₂.IsTuple Ti #[.str p.1 tki, p.2] := (hTi.at fun o e => hk Ti o h1 h2 h3 e).extBut hs₂'.extBut h1
    have hn₂ : h₂.Ns C m' := hn'.sameBut hs₂' hIC.symm
    refine wpAny_bind (kcp_assign (env := compEnvC scope cl C env) hh hTi₂ (lookup_relabel_local hxa) (lookup_relabel_local hxb) hp hn₂ fun h₃ tk₃ hn₃ hk₃ => ?_)
    have hk₃' : ∀ c o, c ≠ C → h₂.get? c = some o → h₃.get? c = some o := hk₃
    refine wpAny_bind (wpAny_tests_one (notNone_test (s := { s with heap := h₃, toks := tk₃ }) (v := p.2) hkind hxb hn₃ (by simp) hdb fun tk₄ => ?_))
    have hkeep : ∀ c o, c ≠ I → c ≠ C → c ≠ D → s.heap.get? c = some o → h₃.get? c = some o := fun c o q1 q2 q3 e => hk₃' c o q2 (hs₂'.extBut c o q1 (hk c o q1 q2 q3 e))
    have hit₃ : h₃.IsTupleIter I T (i + 1) := hit₂.at fun o e => hk₃' I o hIC e
    have hD₃ : h₃.DictOf (strKind prog w) D (kept (prs.take i)) := hD'.at fun o e => hk₃' D o hDC (hs₂'.extBut D o hID.symm e)
    have htake : prs.take (i + 1) = prs.take i ++ [p] := by rw [List.take_add_one, hpi]; rfl
    cases hv : (!(p.2 == Value.none)) with
    | false =>
      simp only [Bool.false_eq_true, if_false]
      refine wpAny_pure ⟨rfl, prs.length + 1 - (i + 1), by omega, h₃, tk₄, i + 1, _, rfl, hlt, rfl, hit₃, hn₃, ?_, hkeep⟩
      rw [htake]
      unfold kept at hD₃ ⊢
      rw [List.filter_append]
      simpa [hv] using hD₃
    | true =>
      simp only [if_true]
      refine wpAny_bind (wpAny_bind (wpAny_Name (wpAny_loadName_local (by show scope.kind = _; exact hkind) (lookup_relabel_local hxa) hn₃ (v := .str p.1 tki) (by simp [hab]) (wpAny_bind (wpAny_holding (wpAny_Name (wpAny_loadName_local (by show scope.kind = _; exact hkind) (lookup_relabel_local hxb) hn₃ (v := p.2) (by simp) ?_) hdb)))) hda))
      refine wpAny_bind (wpAny_standAt (wpAny_holding ?_))
      have hz : (kept (prs.take i)).length ≤ sizeLine := Nat.le_trans (List.length_filter_le _ _) (Nat.le_trans (List.length_take_le _ _) (by omega))
      have hky : Value.isStrOf p.1 (.str p.1 tki) = true := by simp [Value.isStrOf]
      refine wpAny_dictSet_pairs (knd := strKind prog w) (k := p.1) (hsz := hz) hky hD₃ fun h₆ hD₆ hs₆ => ?_
      have hs₆' : Heap.SameBut D h₃ h₆ := hs₆
      refine wpAny_pure ⟨rfl, prs.length + 1 - (i + 1), by omega, h₆, _, i + 1, _, rfl, hlt, rfl, hit₃.extBut hs₆'.extBut hID, hn₃.sameBut hs₆' hDC.symm, ?_, fun c o q1 q2 q3 e => hs₆'.extBut c o q3 (hkeep c o q1 q2 q3 e)⟩
      rw [stored_new] at hD₆
      · rw [htake]
        unfold kept at hD₆ ⊢
        rw [List.filter_append]
        simpa [hv] using hD₆
      · intro hmem
        obtain ⟨q, hq, e⟩ := List.mem_map.mp hmem
        have hq' : q ∈ prs.take i := (List.mem_filter.mp hq).1
        obtain ⟨j, hj⟩ := List.mem_iff_getElem?.mp hq'
        have hji : j < i := by
          have := (List.getElem?_eq_some_iff.mp hj).1
          rw [List.length_take] at this
          omega
        rw [List.getElem?_take_of_lt hji] at hj
        have e1 : (prs.map (·.1))[j]? = some p.1 := by rw [List.getElem?_map, hj]; simpa using e
        have e2 : (prs.map (·.1))[i]? = some p.1 := by rw [List.getElem?_map, hpi]; rfl
        have := (List.getElem?_inj (List.getElem?_eq_some_iff.mp e1).1 hnd).mp (e1.trans e2.symm)
        omega
  · have hin : i = prs.length := by omega
    subst hin
    rw [List.take_length] at hD'
    refine wpAny_pyNext_tuple_end hh hit' hT' (Array.getElem?_eq_none (by omega)) fun h₂ he₂ => ?_
    have he₂' : Heap.ExtBut I h' h₂ := he₂
    exact wpAny_pure (hR h₂ _ m' (hn'.at' fun o e => he₂' C o hIC.symm e) (hD'.at fun o e => he₂' D o hID.symm e) fun c o q1 q2 q3 e => he₂' c o q1 (hk c o q1 q2 q3 e))

theorem ne0 {c n : Nat} (h : c < n) : c ≠ n := Nat.ne_of_lt h
theorem ne1 {c n m : Nat} (h : c < n) (e : m = n + 1) : c ≠ m := by omega
theorem ne2 {c n m k : Nat} (h : c < n) (e : m = n + 1) (e' : k = m + 1) : c ≠ k := by omega
theorem nx1 {n m : Nat} (e : m = n + 1) : n ≠ m := by omega
theorem nx2 {n m k : Nat} (e : m = n + 1) (e' : k = m + 1) : n ≠ k := by omega
theorem le1 {n m : Nat} (e : m = n + 1) : n ≤ m := by omega
theorem le2 {n m k : Nat} (e : m = n + 1) (e' : k = m + 1) : n ≤ k := by omega

theorem vd_block {iter : Expr} {a b : Str} {pa pb pa' pb' pb'' tp pc pcm : Pos} {kk kc : Nat} {scope : Scope} {cl : List (Str × Addr)} {pos : Pos} {T : Addr} {items : Array Value} {prs : List (Str × Value)} {RR : Value → Addr → Result → Shared → Prop}
    (hh : A.handled = none) (hcell : ∀ y ∈ scope.names, y.2 ≠ .cell) (hkind : scope.kind = .function) (hxa : scope.names.lookup a = some .local) (hxb : scope.names.lookup b = some .local) (hab : a ≠ b) (hda : (a == ("__debug__" : Str)) = false) (hdb : (b == ("__debug__" : Str)) = false)
    (hlen : items.size = prs.length) (hsz : prs.length ≤ sizeLine) (hnd : (prs.map (·.1)).Nodup) (hT : s.heap.IsTuple T items)
    (hprs : ∀ (i : Nat) (p : Str × Value), prs[i]? = some p → ∃ Ti tk, items[i]? = some (.ref Ti) ∧ s.heap.IsTuple Ti #[.str p.1 tk, p.2])
    (hRR : ∀ D C h' tk m', s.heap.objs.size ≤ D → s.heap.get? C = none → D ≠ C → h'.Ns C m' → h'.DictOf (strKind prog w) D (kept prs) → (∀ c o, s.heap.get? c = some o → h'.get? c = some o) → RR (.ref D) C (.ok .next) { s with heap := h', toks := tk }) :
    wpAny (model prog w) A (pyIter (.ref T)) (fun it s₂ => wpAny (model prog w) A newDict (fun acc s₃ => wpAny (model prog w) A (newFunctionEnv scope env.globals cl [] env.qual none .none (some env)) (fun cenv s₄ =>
      codeAny (model prog w) A (.compStart (.DictComp (.Name a pa') (.Name b pb') [⟨.Tuple [.Name a pa, .Name b pb] kk tp, iter, [.Compare (.Name b pb'') [.IsNot] [.Constant .none kc pc] pcm], 0⟩] scope pos) 0 it acc { cenv with scope := relabel scope env }) (RR acc cenv.locals) s₄) E s₃) E s₂) E s := by
  refine wpAny_pyIter_tuple hT ?_
  have hit₀ : (s.heap.push { cls := .type "tuple_iterator", data := .fields #[.ref T, .int 0 0] }).IsTupleIter s.heap.objs.size T 0 := ⟨_, Heap.get?_push_size _ rfl, rfl, rfl⟩
  have up₀ : ∀ c o, s.heap.get? c = some o → (s.heap.push { cls := .type "tuple_iterator", data := .fields #[.ref T, .int 0 0] }).get? c = some o := fun c o e => Heap.get?_push_of_some _ e
  have hsz₀ : (s.heap.push { cls := .type "tuple_iterator", data := .fields #[.ref T, .int 0 0] }).objs.size = s.heap.objs.size + 1 := Heap.size_push ..
  generalize s.heap.push { cls := .type "tuple_iterator", data := .fields #[.ref T, .int 0 0] } = H1 at hit₀ up₀ hsz₀ ⊢
  refine wpAny_newObj_type (wpAny_newFunctionEnv hcell (by intro y hy; simp at hy) (fun h₁ hns₁ hsb₁ => ?_) hkind)
  dsimp only at hns₁ hsb₁ ⊢
  have hnew : (H1.push { cls := .type "dict", dict := none, data := .dict #[] }).DictOf (strKind prog w) H1.objs.size [] := Heap.DictOf.new H1
  have up₁ : ∀ c o, H1.get? c = some o → (H1.push { cls := .type "dict", dict := none, data := .dict #[] }).get? c = some o := fun c o e => Heap.get?_push_of_some _ e
  have hsz₁ : (H1.push { cls := .type "dict", dict := none, data := .dict #[] }).objs.size = H1.objs.size + 1 := Heap.size_push ..
  generalize H1.push { cls := .type "dict", dict := none, data := .dict #[] } = H2 at hns₁ hsb₁ hnew up₁ hsz₁ ⊢
  have fresh : ∀ c, s.heap.objs.size ≤ c → s.heap.get? c = none := fun c hc => by
    cases e : s.heap.get? c with
    | none => rfl
    | some o' => exact absurd (Heap.lt_size e) (Nat.not_lt.mpr hc)
  have old : ∀ c o, s.heap.get? c = some o → h₁.get? c = some o := fun c o e => hsb₁.extBut c o (ne2 (Heap.lt_size e) hsz₀ hsz₁) (Heap.get?_push_of_some _ (up₁ c o (up₀ c o e)))
  have hTlt : T < s.heap.objs.size := by obtain ⟨_, e, _⟩ := hT; exact Heap.lt_size e
  have hit₁ : h₁.IsTupleIter s.heap.objs.size T 0 := hit₀.at fun o e => hsb₁.extBut _ o (nx2 hsz₀ hsz₁) (Heap.get?_push_of_some _ (up₁ _ o e))
  have hD₁ : h₁.DictOf (strKind prog w) H1.objs.size [] := hnew.at fun o e => hsb₁.extBut _ o (nx1 hsz₁) (Heap.get?_push_of_some _ e)
  have loop : ∀ s₃ : Shared, s₃ = { s with heap := h₁, toks := s.toks + ([] : List (Str × Value)).length } →
      codeAny (model prog w) A (.compLoop (.DictComp (.Name a pa') (.Name b pb') [⟨.Tuple [.Name a pa, .Name b pb] kk tp, iter, [.Compare (.Name b pb'') [.IsNot] [.Constant .none kc pc] pcm], 0⟩] scope pos) 0 (.ref s.heap.objs.size) (.ref H1.objs.size) (compEnvC scope cl H2.objs.size env))
        (RR (.ref H1.objs.size) H2.objs.size) s₃ := by
    rintro s₃ rfl
    refine vd_loop (s := { s with heap := h₁, toks := s.toks + ([] : List (Str × Value)).length }) hh hkind hxa hxb hab hda hdb (ne0 hTlt) (ne2 hTlt hsz₀ hsz₁) (ne1 hTlt hsz₀) (nx2 hsz₀ hsz₁) (nx1 hsz₀) (nx1 hsz₁) hlen hsz hnd
      hit₁ (hT.at fun o e => old _ o e) hD₁ hns₁ (fun i p hp => ?_) fun h' tk m' hn' hD' hk' => ?_
    · obtain ⟨Ti, tk, h1, h2⟩ := hprs i p hp
      have hlt : Ti < s.heap.objs.size := by obtain ⟨_, e, _⟩ := h2; exact Heap.lt_size e
      exact ⟨Ti, tk, h1, ne0 hlt, ne2 hlt hsz₀ hsz₁, ne1 hlt hsz₀, h2.at fun o e => old _ o e⟩
    · exact hRR _ _ h' tk m' (le1 hsz₀) (fresh _ (le2 hsz₀ hsz₁)) (nx1 hsz₁) hn' hD' fun c o e => hk' c o (ne0 (Heap.lt_size e)) (ne2 (Heap.lt_size e) hsz₀ hsz₁) (ne1 (Heap.lt_size e) hsz₀) (old c o e)
  exact codeAny_compStart_dict (loop _ rfl) (wpAny_pyIter_tupleiter (s := { s with heap := h₁, toks := s.toks + ([] : List (Str × Value)).length }) hit₁ (loop _ rfl))

def VdSrc (prog : Program) (w : World) (Q : Value → Shared → Prop) (xv : Value) (s₁ : Shared) : Prop :=
  ∃ T items prs, xv = .ref T ∧ items.size = prs.length ∧ prs.length ≤ sizeLine ∧ (prs.map (·.1)).Nodup ∧ s₁.heap.IsTuple T items ∧
      (∀ (i : Nat) (p : Str × Value), prs[i]? = some p → ∃ Ti tk, items[i]? = some (.ref Ti) ∧ s₁.heap.IsTuple Ti #[.str p.1 tk, p.2]) ∧
      (∀ D h' tk, s₁.heap.objs.size ≤ D → h'.DictOf (strKind prog w) D (kept prs) → (∀ c o, s₁.heap.get? c = some o → h'.get? c = some o) → Q (.ref D) { s₁ with heap := h', toks := tk })

def PairsIn (news : List (Addr × Obj)) : List Value → List (Str × Value) → Prop
  | [], [] => True
  | v :: vs, p :: ps => (∃ Ti tk n, v = .ref Ti ∧ (Ti, ({ cls := .type "tuple", data := .seq #[.str p.1 tk, p.2] n } : Obj)) ∈ news) ∧ PairsIn news vs ps
  | _, _ => False
theorem PairsIn.length {news : List (Addr × Obj)} : ∀ {vs : List Value} {ps : List (Str × Value)}, PairsIn news vs ps → vs.length = ps.length
  | [], [], _ => rfl
  | _ :: _, _ :: _, h => by simpa using PairsIn.length h.2
  | [], _ :: _, h => h.elim
  | _ :: _, [], h => h.elim
theorem PairsIn.at {news : List (Addr × Obj)} : ∀ {vs : List Value} {ps : List (Str × Value)}, PairsIn news vs ps → ∀ (i : Nat) (p : Str × Value), ps[i]? = some p →
    ∃ Ti tk n, vs[i]? = some (.ref Ti) ∧ (Ti, ({ cls := .type "tuple", data := .seq #[.str p.1 tk, p.2] n } : Obj)) ∈ news
  | [], [], _, i, p, hp => by simp at hp
  | v :: vs, q :: ps, h, 0, p, hp => by
    obtain ⟨⟨Ti, tk, n, e, hm⟩, _⟩ := h
    cases hp
    exact ⟨Ti, tk, n, by simp [e], hm⟩
  | v :: vs, q :: ps, h, i + 1, p, hp => by
    obtain ⟨Ti, tk, n, e, hm⟩ := PairsIn.at h.2 i p (by simpa using hp)
    exact ⟨Ti, tk, n, by simpa using e, hm⟩
  | [], _ :: _, h, _, _, _ => h.elim
  | _ :: _, [], h, _, _, _ => h.elim

theorem vd_DictComp {iter : Expr} {a b : Str} {pa pb pa' pb' pb'' tp pc pcm : Pos} {kk kc : Nat} {scope : Scope} {cl : List (Str × Addr)} {pos : Pos} {Q : Value → Shared → Prop}
    (hh : A.handled = none) (hclos : closureFor scope env = pure cl) (hcell : ∀ y ∈ scope.names, y.2 ≠ .cell) (hkind : scope.kind = .function)
    (hnames : ∀ y ∈ scope.names, y.2 = .local → scope.names.lookup y.1 = some .local) (hxa : scope.names.lookup a = some .local) (hxb : scope.names.lookup b = some .local) (hab : a ≠ b) (hda : (a == ("__debug__" : Str)) = false) (hdb : (b == ("__debug__" : Str)) = false)
    (h : wpAny (model prog w) A (eval iter env) (VdSrc prog w Q) E s)
    (hs : ∀ x, foldedSetIterable iter env x = pure x := by intro _; rfl) :
    wpAny (model prog w) A (eval (.DictComp (.Name a pa') (.Name b pb') [⟨.Tuple [.Name a pa, .Name b pb] kk tp, iter, [.Compare (.Name b pb'') [.IsNot] [.Constant .none kc pc] pcm], 0⟩] scope pos) env) Q E s := by
  show wpAny (model prog w) A (comprehension _ _ _ _ _ _ _ _) Q E s
  refine wpAny_comprehension_free (use := none) rfl hs hclos hkind hnames (wpAny_mono h (fun xv s₁ h₁ => ?_) fun _ _ e => e)
  obtain ⟨T, items, prs, rfl, hlen, hsz, hnd, hT, hprs, hQ⟩ := h₁
  refine vd_block (RR := fun acc C => compPost (model prog w) A E none Q acc C) hh hcell hkind hxa hxb hab hda hdb hlen hsz hnd hT hprs ?_
  intro D C h' tk m' hD hC hDC hn hd hk
  exact ⟨m', hn, fun h'' hs'' => hQ D h'' tk hD (hd.at fun o e => hs''.extBut _ o hDC e) fun c o e => hs''.extBut c o (by rintro rfl; rw [hC] at e; cases e) (hk c o e)⟩

theorem vd_leaf {h₀ : Heap} {L T : Addr} {m : Str → Option Value} {news : List (Addr × Obj)} {items : List Value} {Q : Value → Shared → Prop} {s₁ : Shared} (prs : List (Str × Value))
    (F : Fr h₀ L s₁.heap m) (N : News h₀ L s₁.heap news) (hsz : prs.length ≤ sizeLine) (hnd : (prs.map (·.1)).Nodup) {nT : Nat} (hT : (T, ({ cls := .type "tuple", data := .seq items.toArray nT } : Obj)) ∈ news)
    (hprs : PairsIn news items prs)
    (h : ∀ D od h' tk, Fr h₀ L h' m → News h₀ L h' ((D, od) :: news) → od.IsDictOf (strKind prog w) (kept prs) → (∀ q ∈ news, q.1 < D) → L < D → Q (.ref D) { s₁ with heap := h', toks := tk }) :
    VdSrc prog w Q (.ref T) s₁ := by
  refine ⟨T, items.toArray, prs, rfl, by simpa using hprs.length, hsz, hnd, ⟨_, (N _ hT).1, rfl, _, rfl⟩, fun i p hp => ?_, fun D h' tk hD hd hk => ?_⟩
  · obtain ⟨Ti, tk, n, h1, h2⟩ := hprs.at i p hp
    exact ⟨Ti, tk, by simpa using h1, _, (N _ h2).1, rfl, _, rfl⟩
  · obtain ⟨od, ho, hd'⟩ := Heap.dictOf_iff.mp hd
    have hlt : ∀ q ∈ news, q.1 < D := fun q hq => Nat.lt_of_lt_of_le (Heap.lt_size (N q hq).1) hD
    refine h D od h' tk (F.keeps hk) (fun q hq => ?_) hd' hlt (Nat.lt_of_lt_of_le F.ns.lt hD)
    rcases List.mem_cons.mp hq with rfl | hq
    · exact ⟨ho, kdx_fresh F hD⟩
    · exact ⟨hk _ _ (N q hq).1, (N q hq).2⟩
end
end Mine
end

section
open PySem PySem.W PyProof.Rows PySem.Calls PySem.Spec
set_option maxRecDepth 100000
namespace Mine

theorem itemsU {prog : Program} {w : World} {K : Type} [DecidableEq K] {knd : KeyKind prog w K} {A : Around} (hh : A.handled = none) (I d : Addr) (hne : d ≠ I) (kvs : List (K × Value)) (ep : Nat) :
    WalksU prog w A I [I, d] [I] kvs.length (fun i vals => ∃ key k x, kvs[i]? = some (k, x) ∧ knd.is k key = true ∧ vals = #[key, x])
      (fun i h => (∃ ok ov, IsItemIter h I d i kvs.length ep ok ov) ∧ h.DictAt knd d kvs ep)
      (fun i T h => ∃ key k x ok ov, kvs[i]? = some (k, x) ∧ knd.is k key = true ∧ h.IsTuple T #[key, x] ∧ IsItemIterOut h I d (i + 1) kvs.length ep ok ov T ∧ h.DictAt knd d kvs ep ∧ T ≠ I) :=
  have W := fun elts kk pos => kti_itemsTurns (prog := prog) (w := w) (knd := knd) (elts := elts) (kk := kk) (pos := pos) hh I d hne kvs ep
  { sub := (W [] 0 ⟨0, 0, 0, 0⟩).sub
    frame := (W [] 0 ⟨0, 0, 0, 0⟩).frame
    done := (W [] 0 ⟨0, 0, 0, 0⟩).done
    item := fun i s Q E hi st hQ => (W [] 0 ⟨0, 0, 0, 0⟩).item i s Q E hi st fun v h' tk md keep => by
      obtain ⟨T, key, k, x, ok, ov, rfl, at_, is_, tup, out, dict, apart⟩ := md
      exact hQ T _ h' tk ⟨key, k, x, at_, is_, rfl⟩ tup ⟨key, k, x, ok, ov, at_, is_, tup, out, dict, apart⟩ keep
    go := fun elts kk pos i T s Q E md hQ => by
      obtain ⟨key, k, x, ok, ov, m⟩ := md
      exact (W elts kk pos).go i (.ref T) s Q E ⟨T, key, k, x, ok, ov, rfl, m⟩ fun h' _ st keep => hQ h' st keep
    apart := fun i T h md hw => by
      obtain ⟨_, _, _, _, _, _, _, _, _, _, apart⟩ := md
      exact apart (List.mem_singleton.mp hw)
    self := fun i s Q E st hQ => by
      obtain ⟨⟨_, _, it⟩, _⟩ := st
      exact kcp_self it hQ }

def piece (p : Str × Value) : Str := match p.2 with
  | .int i _ => Str.ofString (toString i) ++ Str.ofString " " ++ p.1
  | _ => Str.empty
def Tellable (p : Str × Value) : Prop := ∃ i t, p.2 = .int i t ∧ i.natAbs < 10 ^ 120 ∧ p.1.length ≤ 20

theorem log_small {i : Int} (h : i.natAbs < 10 ^ 120) : i.natAbs.log2 < 1920 := by
  by_cases h0 : i.natAbs = 0
  · rw [h0]; decide
  · have h2 : (10 : Nat) ^ 120 < 2 ^ 1920 := by decide +kernel
    exact (Nat.log2_lt h0).mpr (Nat.lt_trans h h2)
theorem text_len {i : Int} (h : i.natAbs < 10 ^ 120) : (Str.ofString (toString i)).length ≤ 121 := by
  rw [PySem.ofString_length]
  exact int_text_length_le10 (by decide) h
theorem blank_len : (Str.ofString " ").length = 1 := by decide +kernel
theorem piece_len {p : Str × Value} (h : Tellable p) : (piece p).length ≤ 142 := by
  obtain ⟨i, t, e, hi, hk⟩ := h
  unfold piece
  rw [e]
  simp only [strLen_append, blank_len]
  have := text_len hi
  omega

section
variable {prog : Program} {w : World} {A : Around} {E : Value → Shared → Prop} {s : Shared} {cenv : Env}

theorem str_elt {C : Addr} {pb pk pj p1 p2 p3 : Pos} {kc : Nat} {xn xv : Str} {m : Str → Option Value} {p : Str × Value} {tk : Tok}
    (hkd : cenv.scope.kind = .function) (hloc : cenv.locals = C) (hxn : cenv.kindOf xn = some .local) (hxv : cenv.kindOf xv = some .local) (hn : s.heap.Ns C m) (h1 : m xn = some (.str p.1 tk)) (h2 : m xv = some p.2) (ht : Tellable p)
    (hdn : (xn == ("__debug__" : Str)) = false) (hdv : (xv == ("__debug__" : Str)) = false) :
    wpAny (model prog w) A (eval (.JoinedStr [.FormattedValue (.Name xv p1) (-1) none pb, .Constant (.str (Str.ofString " ")) kc p2, .FormattedValue (.Name xn p3) (-1) none pk] pj) cenv)
      (fun y s' => (∃ t, y = .str (piece p) t) ∧ Keeps s s') E s := by
  obtain ⟨i, t, e, hi, hk⟩ := ht
  subst hloc
  have hl1 : (Str.empty ++ Str.ofString (toString i)).length ≤ 121 := by rw [strLen_append]; have := text_len hi; have e0 : Str.empty.length = 0 := by decide +kernel
                                                                         omega
  refine wpAny_JoinedStr ?_
  refine wpAny_FormattedValue_plain (wpAny_Name (wpAny_loadName_local hkd hxv hn h2 ?_) hdv)
  rw [e]
  refine wpAny_formatField_int (log_small hi) ⟨_, _, rfl, by rw [sizeLine_eq]; omega, ?_⟩
  refine wpAny_Constant_str ⟨_, _, rfl, by rw [strLen_append, blank_len, sizeLine_eq]; omega, ?_⟩
  have fin : ∀ (tk' : Nat) (tk3 : Tok), ∃ y t, (Value.str p.1 tk3) = .str y t ∧ (Str.empty ++ Str.ofString (toString i) ++ Str.ofString " " ++ y).length ≤ sizeLine ∧
      Joins (model prog w) A E [] (Str.empty ++ Str.ofString (toString i) ++ Str.ofString " " ++ y) (fun out s₁ => out.length ≤ sizeLine ∧ ((∃ t, (Value.str out s₁.toks) = .str (piece p) t) ∧ Keeps s { s₁ with toks := s₁.toks + 1 })) { s with toks := tk' } := fun tk' tk3 => by
    have hz : (Str.empty ++ Str.ofString (toString i) ++ Str.ofString " " ++ p.1).length ≤ sizeLine := by
      rw [strLen_append, strLen_append, blank_len, sizeLine_eq]; omega
    refine ⟨p.1, tk3, rfl, hz, hz, ⟨tk', ?_⟩, s.heap, tk' + 1, rfl, fun _ _ e => e⟩
    unfold piece
    rw [e]
    simp only [Str.empty_append]
  refine wpAny_FormattedValue_plain (wpAny_Name (wpAny_loadName_local hkd hxn hn h1 ?_) hdn)
  exact wpAny_formatField_str (fin _ _) (fin _ _) (by rw [sizeLine_eq]; omega)

def GoodTab (pos : Pos) (ps : Array Value) : Prop := ps = #[] ∨ ∃ c', ps = #[rawInt pos.line, rawInt pos.col, .ref c']

theorem gen_code {env : Env} {c P : Addr} {ps : Array Value} {pos : Pos} {qualname : Str} {scope : Scope} {M : Model} {Q : Value → Shared → Prop} (hc : env.code = .ref c) (hok : s.heap.IsCode c P ps) (htab : s.heap.TableAt c P ps) (hg : GoodTab pos ps)
    (hQ : ∀ c' h' tk ps', (∀ b o, b ≠ P → s.heap.get? b = some o → h'.get? b = some o) → h'.get? P = some (tabObj ps') → GoodTab pos ps' → Q (.ref c') { s with heap := h', toks := tk }) :
    wpAny M A (genexprCode env pos qualname scope) Q E s := by
  rcases hg with rfl | ⟨c', rfl⟩
  · refine wpAny_genexprCodeX hc hok htab rfl fun c' h' tk he _ _ _ _ ht _ => ?_
    exact hQ c' h' tk _ (fun b o hb e => he b o hb e) ht.2 (.inr ⟨c', rfl⟩)
  · refine wpAny_genexprCode_hit hc hok (c' := .ref c') (by simp [codeAmong, rawInt]) ?_
    exact hQ c' s.heap s.toks _ (fun _ _ _ e => e) htab.2 (.inr ⟨c', rfl⟩)

structure After (P : Addr) (pos : Pos) (s s' : Shared) : Prop where
  keep : ∀ b o, b ≠ P → s.heap.get? b = some o → s'.heap.get? b = some o
  tab : ∃ ps, s'.heap.get? P = some (tabObj ps) ∧ GoodTab pos ps
  bare : AllBare s.gens → AllBare s'.gens
  same : ∃ h' gs tk, s' = { s with heap := h', gens := gs, toks := tk }

def others (P : Addr) (news : List (Addr × Obj)) : List (Addr × Obj) := news.filter fun q => decide (@Ne Nat q.1 P)
theorem after_fr {P L : Addr} {pos : Pos} {h₀ : Heap} {m : Str → Option Value} {news : List (Addr × Obj)} {ps : Array Value} {s s' : Shared} (a : After P pos s s') (F : Fr h₀ L s.heap m) (N : News h₀ L s.heap news) (hP : (P, tabObj ps) ∈ news) : Fr h₀ L s'.heap m :=
  ⟨F.ns.at' fun o e => a.keep L o (Ne.symm (N _ hP).2.1) e, fun b o e => a.keep b o (fun q => by have := (N _ hP).2.2; rw [q] at e; rw [e] at this; cases this) (F.keep b o e), F.above⟩
theorem after_news {P L : Addr} {pos : Pos} {h₀ : Heap} {news : List (Addr × Obj)} {ps : Array Value} {s s' : Shared} (a : After P pos s s') (N : News h₀ L s.heap news) (hP : (P, tabObj ps) ∈ news) :
    ∃ ps', GoodTab pos ps' ∧ News h₀ L s'.heap ((P, tabObj ps') :: others P news) := by
  obtain ⟨ps', ht, hg⟩ := a.tab
  refine ⟨ps', hg, fun q hq => ?_⟩
  rcases List.mem_cons.mp hq with rfl | hq
  · exact ⟨ht, (N _ hP).2⟩
  · obtain ⟨hq, hne⟩ := List.mem_filter.mp hq
    exact ⟨a.keep _ _ (of_decide_eq_true hne) (N q hq).1, (N q hq).2⟩
theorem news_upd_of {P L : Addr} {h₀ h : Heap} {news news' : List (Addr × Obj)} {o o' : Obj} (N : News h₀ L h ((P, o') :: others P news)) (U : Upd P o o' news news') : News h₀ L h news' := by
  obtain ⟨pre, post, rfl, rfl, h1, h2⟩ := U.split
  intro q hq
  rcases List.mem_append.mp hq with hq | hq
  · exact N q (.tail _ (List.mem_filter.mpr ⟨List.mem_append_left _ hq, decide_eq_true (h1 q hq)⟩))
  · rcases List.mem_cons.mp hq with rfl | hq
    · exact N _ (.head _)
    · exact N q (.tail _ (List.mem_filter.mpr ⟨List.mem_append_right _ (.tail _ hq), decide_eq_true (h2 q hq)⟩))

def JoinsTo (prog : Program) (w : World) (A : Around) (P : Addr) (pos : Pos) (a : Addr) (s₁ : Shared) (sep txt : Str) (s₅ : Shared) : Prop :=
  ∀ (Q : Value → Shared → Prop) (E : Value → Shared → Prop) (t : Tok), (∀ s' t', After P pos s₁ s' → Q (.str txt t') s') → wpAny (model prog w) A (call (.builtin "str.join") [.str sep t, .ref a]) Q E s₅

def StrSrc (prog : Program) (w : World) (A : Around) (env : Env) (c P : Addr) (pos : Pos) (sep : Str) (Q : Value → Shared → Prop) (xv : Value) (s₁ : Shared) : Prop :=
  ∃ vw d kvs ps mg bm ob, xv = .ref vw ∧ s₁.heap.IsItemsView vw d ∧ s₁.heap.DictOf (strKind prog w) d kvs ∧ kvs.length ≤ 1000 ∧ (∀ p ∈ kvs, Tellable p) ∧ d ≠ P ∧ vw ≠ P ∧
        s₁.heap.IsCode c P ps ∧ s₁.heap.TableAt c P ps ∧ GoodTab pos ps ∧ s₁.heap.NoLimit ∧ cStatics ≠ P ∧
        s₁.heap.Ns env.globals mg ∧ mg "__builtins__" = some (.ref bm) ∧ bm ≠ builtinsNs ∧ s₁.heap.get? bm = some ob ∧ ob.cls = .type "module" ∧ ob.dict = some builtinsNs ∧ ob.data = .plain ∧ env.globals ≠ P ∧ bm ≠ P ∧
        (∀ a s₅, JoinsTo prog w A P pos a s₁ sep (Txt.join sep (kvs.map piece)) s₅ → Q (.ref a) s₅)

theorem str_gen {env : Env} {c P : Addr} {pos : Pos} {iter : Expr} {xn xv : Str} {pb pk pj p1 p2 p3 pa' pb' pt : Pos} {kc kt : Nat} {scope : Scope} {cl : List (Str × Addr)} {Q : Value → Shared → Prop} {sep : Str}
    (hh : A.handled = none) (hroom : A.depth < recursionLimit) (hcode : env.code = .ref c) (hco : scope.isCoroutine = false) (hclos : closureFor scope env = pure cl) (hcell : ∀ y ∈ scope.names, y.2 ≠ .cell) (h0 : scope.names.lookup (".0" : Str) = some NameKind.local)
    (hxa : scope.names.lookup xn = some .local) (hxb : scope.names.lookup xv = some .local) (hab : xn ≠ xv) (hkind : scope.kind = .function)
    (hdn : (xn == ("__debug__" : Str)) = false) (hdv : (xv == ("__debug__" : Str)) = false) (hsep : sep.length ≤ 16)
    (h : wpAny (model prog w) A (eval iter env) (StrSrc prog w A env c P pos sep Q) E s)
    (hs : ∀ x, genFold iter env x = pure x) :
    wpAny (model prog w) A (eval (.GeneratorExp (.JoinedStr [.FormattedValue (.Name xv p1) (-1) none pb, .Constant (.str (Str.ofString " ")) kc p2, .FormattedValue (.Name xn p3) (-1) none pk] pj) [⟨.Tuple [.Name xn pa', .Name xv pb'] kt pt, iter, [], 0⟩] scope pos) env) Q E s := by
  refine wpAny_GeneratorExp_walksQTD hh hco hclos hcell h0 hxa hxb hab hkind hroom (wpAny_mono h (fun xv' s₁ h₁ => ?_) fun _ _ e => e) hs
  obtain ⟨vw, d, kvs, ps, mg, bm, ob, rfl, hvw, hD, hlen, htell, hdP, hvP, hok, htab, hgood, ⟨mc, hl1, hl2⟩, hcP, hg1, hg2, hg3, hg4, hg5, hg6, hg7, hgP, hbP, hQ⟩ := h₁
  obtain ⟨ep, hat⟩ := hD.dictAt
  refine wpAny_pyIter_items hvw hat ?_
  have up₁ : ∀ b o, s₁.heap.get? b = some o → (s₁.heap.push { cls := .type "dict_itemiterator", data := .fields #[.none, .bool false, .ref d, .int 0 0, .int kvs.length 0, .int ep 0, .none, .none] }).get? b = some o := fun b o e => Heap.get?_push_of_some _ e
  have hit₁ : IsItemIter (s₁.heap.push { cls := .type "dict_itemiterator", data := .fields #[.none, .bool false, .ref d, .int 0 0, .int kvs.length 0, .int ep 0, .none, .none] }) s₁.heap.objs.size d 0 kvs.length ep .none .none := Heap.get?_push_size _ rfl
  have hsz₁ : (s₁.heap.push { cls := .type "dict_itemiterator", data := .fields #[.none, .bool false, .ref d, .int 0 0, .int kvs.length 0, .int ep 0, .none, .none] }).objs.size = s₁.heap.objs.size + 1 := Heap.size_push ..
  generalize s₁.heap.push { cls := .type "dict_itemiterator", data := .fields #[.none, .bool false, .ref d, .int 0 0, .int kvs.length 0, .int ep 0, .none, .none] } = H1 at up₁ hit₁ hsz₁ ⊢
  have hIP : s₁.heap.objs.size ≠ P := fun e => absurd (Heap.lt_size htab.2) (by rw [← e]; exact Nat.lt_irrefl _)
  have hdI : d ≠ s₁.heap.objs.size := Nat.ne_of_lt hat.lt_size
  refine ⟨⟨mc, hl1.keeps up₁, hl2⟩, ?_⟩
  refine gen_code (s := { s₁ with heap := H1 }) hcode (hok.keeps up₁) (htab.keeps up₁) hgood fun c' h₃ tk₃ ps' hk₃ hP₃ hgood' => ?_
  have keep₃ : ∀ b o, b ≠ P → s₁.heap.get? b = some o → h₃.get? b = some o := fun b o hb e => hk₃ b o hb (up₁ b o e)
  refine wpAny_builtinsFor (s := { s₁ with heap := h₃, toks := tk₃ }) (hg1.at' fun o e => keep₃ _ o hgP e) hg2 hg3 (keep₃ _ _ hbP hg4) hg5 hg6 hg7 ?_
  have hit₃ : IsItemIter h₃ s₁.heap.objs.size d 0 kvs.length ep .none .none := hk₃ _ _ hIP hit₁
  have hat₃ : h₃.DictAt (strKind prog w) d kvs ep := hat.at' fun o e => keep₃ d o hdP e
  refine ⟨s₁.heap.objs.size, [s₁.heap.objs.size, d], [s₁.heap.objs.size], kvs.length, _, _, _, fun _ => true, fun i y => ∃ p t, kvs[i]? = some p ∧ y = .str (piece p) t, rfl,
    fun A' hA => itemsU (knd := strKind prog w) hA s₁.heap.objs.size d hdI kvs ep, ?_, ⟨⟨_, _, hit₃⟩, hat₃⟩, ?_, ⟨mc, hl1.at' fun o e => keep₃ _ o hcP e, hl2⟩, ?_, ?_, ?_⟩
  · rintro i vals ⟨key, k, x, _, _, rfl⟩
    exact ⟨key, x, rfl⟩
  · intro b hb
    rcases List.mem_cons.mp hb with rfl | hb
    · exact Heap.lt_size hit₃
    · rw [List.mem_singleton.mp hb]; exact hat₃.lt_size
  · intro hb
    rw [← List.mem_singleton.mp hb] at hit₁
    have hlt := hl1.lt
    rw [List.mem_singleton.mp hb] at hlt
    exact Nat.lt_irrefl _ hlt
  · intro href hkeep
    refine ⟨fun A' E' i va vb s₂ m₂ hA _ _ hP hn ha hb _ => wpAny_pure ⟨rfl, s₂.heap, s₂.toks, rfl, fun _ _ e => e⟩, fun A' E' i va vb s₂ m₂ hA _ _ hP _ hn ha hb _ => ?_⟩
    obtain ⟨key, k, x, hx, hkey, e⟩ := hP
    obtain ⟨tk, rfl⟩ := Value.isStrOf_shape hkey
    obtain ⟨e1, e2⟩ : va = .str k tk ∧ vb = x := by simpa using congrArg Array.toList e
    subst e1 e2
    refine wpAny_mono (str_elt (p := (k, vb)) hkind rfl hxa hxb hn ha hb (htell _ (List.mem_of_getElem? hx)) hdn hdv) (fun y s₃ r => ?_) fun _ _ e => e
    obtain ⟨⟨t, rfl⟩, hk⟩ := r
    exact ⟨⟨_, t, hx, rfl⟩, hk⟩
  · intro a h₅ tk gs hbare hlta hsz₅ hk₅ W hst
    refine hQ a _ fun Q' E' t hq => ?_
    have hpass : passing (fun _ => true) kvs.length 0 = List.range kvs.length := by simp [passing]
    rw [hpass, List.length_range] at W
    refine SC.joinGen (hsz := by rw [sizeLine_eq]; omega) W.in4_2 (fun i s' hs' => hs'.1.typeIs) hst ?_ (by simp) ?_ ?_
    · intro b hb
      show b < h₅.objs.size
      rw [hsz₅]
      rcases List.mem_cons.mp hb with rfl | hb
      · exact Nat.lt_succ_self _
      · rcases List.mem_cons.mp hb with rfl | hb
        · exact Nat.lt_succ_of_lt hlta
        · exact Nat.lt_succ_of_lt (Nat.lt_trans (List.mem_range.mp hb) hlta)
    · rintro i v ⟨j, _, p, t', _, rfl⟩
      exact ⟨_, _, rfl⟩
    · intro s' l hm hacc
      have hl : l.map (·.1) = kvs.map piece := by
        apply List.ext_getElem?
        intro j
        have hsz : l.length = kvs.length := by simpa [strValues] using hacc.1
        by_cases hj : j < kvs.length
        · have hj' : j < l.length := hsz ▸ hj
          obtain ⟨i, hi, p, t', hp, hv⟩ := hacc.2 j (.str l[j].1 l[j].2) (by simp [strValues, List.getElem?_eq_getElem hj'])
          rw [List.getElem?_range hj] at hi
          cases hi
          injection hv with h1 _
          rw [List.getElem?_map, List.getElem?_map, List.getElem?_eq_getElem hj', hp]
          simp [h1]
        · rw [List.getElem?_eq_none (by simpa [hsz] using Nat.le_of_not_lt hj), List.getElem?_eq_none (by simpa using Nat.le_of_not_lt hj)]
      rw [hl]
      have hw : ∀ kvs : List (Str × Value), (∀ p ∈ kvs, Tellable p) → ((kvs.map piece).map (·.length)).sum ≤ 142 * kvs.length := by
        intro kvs
        induction kvs with
        | nil => intro _; simp
        | cons p r ih =>
          intro hp
          have h1 := piece_len (hp p List.mem_cons_self)
          have h2 := ih fun q hq => hp q (List.mem_cons_of_mem _ hq)
          simp only [List.map_cons, List.sum_cons, List.length_cons]
          omega
      refine ⟨joinOk_of_weight ?_ hsep, fun t' k => ?_⟩
      · have := hw kvs htell
        rw [List.length_map]
        omega
      · refine hq _ t' ⟨fun b o hb e => ?_, ⟨ps', ?_, hgood'⟩, fun hg => ?_, ⟨s'.heap, s'.gens, k, ?_⟩⟩
        · refine hm.heap b o ?_ (hk₅ b o (keep₃ b o hb e))
          intro hmem
          rcases List.mem_cons.mp hmem with rfl | hmem
          · exact absurd (Heap.lt_size (keep₃ _ _ hb e)) (Nat.lt_irrefl _)
          · rw [List.mem_singleton.mp hmem] at e
            exact absurd (Heap.lt_size e) (Nat.lt_irrefl _)
        · refine hm.heap P _ ?_ (hk₅ P _ hP₃)
          intro hmem
          rcases List.mem_cons.mp hmem with e | hmem
          · exact absurd (Heap.lt_size hP₃) (by rw [e]; exact Nat.lt_irrefl _)
          · exact hIP (List.mem_singleton.mp hmem).symm
        · exact (AllBare.push hg hbare).moved hm.gens
        · obtain ⟨h', gs', dr', tk', os'⟩ := s'
          have e1 := hm.drawn
          have e2 := hm.os
          simp only at e1 e2
          subst e1 e2
          rfl

theorem GoodTab.triples {pos : Pos} {ps : Array Value} (h : GoodTab pos ps) : TriplesOk ps.toList := by
  rcases h with rfl | ⟨c', rfl⟩ <;> exact trivial

theorem str_leaf {h₀ : Heap} {L vw d c P : Addr} {od oc : Obj} {vc : Array Value} {m mg mb : Str → Option Value} {p : Program} {loose : List Str} {mean : ExcName → Option Value} {news : List (Addr × Obj)} {env : Env} {pos : Pos} {sep : Str} {Q : Value → Shared → Prop} {s₁ : Shared} {kvs : List (Str × Value)} {ps : Array Value}
    {file : Str} {tf tg tt : Tok} {flags text : Int} {inF : Bool}
    (F : Fr h₀ L s₁.heap m) (N : News h₀ L s₁.heap news) (T : Top p loose mean mg mb h₀) (hvw : (vw, ({ cls := .type "dict_items", data := .fields #[.ref d] } : Obj)) ∈ news) (hd : (d, od) ∈ news) (hod : od.IsDictOf (strKind prog w) kvs)
    (hlen : kvs.length ≤ 1000) (htell : ∀ p ∈ kvs, Tellable p) (hP : (P, tabObj ps) ∈ news) (hgood : GoodTab pos ps) (hg : env.globals = mainGlobals)
    (hc : h₀.get? c = some oc) (hcls : oc.cls = .type "code") (hdat : oc.data = .fields vc) (h11 : vc[11]? = some (.ref P)) (h18 : vc.getD 18 .none = .str file tf) (h7 : vc.getD 7 .none = .int flags tg) (h9 : vc.getD 9 .none = .bool inF) (h10 : vc.getD 10 .none = .int text tt) (hcP : c ≠ P)
    (h : ∀ a s₅, JoinsTo prog w A P pos a s₁ sep (Txt.join sep (kvs.map piece)) s₅ → Q (.ref a) s₅) : StrSrc prog w A env c P pos sep Q (.ref vw) s₁ := by
  have hPg : s₁.heap.get? P = some (tabObj ps) := (N _ hP).1
  have hP₀ : h₀.get? P = none := (N _ hP).2.2
  have hdg : s₁.heap.get? d = some od := (N _ hd).1
  have hvg := (N _ hvw).1
  obtain ⟨bm, ob, b1, b2, b3, b4, b5, b6⟩ := T.bmain
  have ne₀ : ∀ {b : Addr} {o : Obj}, h₀.get? b = some o → b ≠ P := fun e q => by rw [q, hP₀] at e; cases e
  have hnsP : ∀ {a : Addr} {m : Str → Option Value}, h₀.Ns a m → a ≠ P := fun G => by obtain ⟨o, _, _, e, _⟩ := G; exact ne₀ e
  obtain ⟨mc, l1, l2⟩ := T.nolimit
  refine ⟨vw, d, kvs, ps, mg, bm, ob, rfl, ⟨_, hvg, rfl, rfl⟩, Heap.dictOf_iff.mpr ⟨od, hdg, hod⟩, hlen, htell, ?_, ?_, ?_, ⟨⟨oc, vc, F.keep _ _ hc, hcls, hdat, h11⟩, hPg⟩, hgood, ⟨mc, l1.keeps F.keep, l2⟩, hnsP l1, by rw [hg]; exact T.g.keeps F.keep, b1, b2, F.keep _ _ b3, b4, b5, b6, by rw [hg]; exact hnsP T.g, ne₀ b3, h⟩
  · rintro rfl
    rw [hdg] at hPg
    cases hPg
    obtain ⟨_, _, _, e, _⟩ := hod
    cases e
  · rintro rfl
    rw [hvg] at hPg
    cases hPg
  · refine ⟨oc, vc, file, tf, flags, tg, inF, text, tt, _, F.keep _ _ hc, hdat, ?_, h18, h7, h9, h10, hPg, rfl, hgood.triples, hcP⟩
    rw [Array.getD_eq_getD_getElem?, h11]; rfl
end
end Mine
end

section
open PySem PySem.W PyProof.Rows PySem.Calls PySem.Spec
set_option maxRecDepth 100000
set_option maxHeartbeats 8000000
namespace Mine
local macro_rules | `(tactic| k_handed) => `(tactic| (refine OV.handed ?_; (rename (∀ _, OV _) => hov9); exact hov9 _))
local macro_rules | `(tactic| k_mem) => `(tactic| assumption)
local macro_rules | `(tactic| ktr_enter) => `(tactic| (
  have hT : PySem.Challenge.rw_eg5034_01.Holds → Mine.hd.heap_39 = Mine.hd.heap_39 := fun _ => rfl
  revert hT
  k_fill
  intro _
  k_dflt (refine' code_def ?k1 ?k2 ?k3 ?k4 ?k5 ?kA ?kF ?kK ?k6 ?k7 ?k8 ?k9 ?kB ?_ ?c2 ?c3 ?c4 ?c5; (case kA => exact rfl); (case kF => assumption); (case kK => assumption); (case k1 => k_asm); (case k2 => k_asm); (case k3 => k_asm); (case k4 => k_asm); (case k5 => k_asm); (case k6 => k_is); (case k7 => k_is); (case k8 => exact Nat.lt_of_lt_of_le (Nat.lt_succ_self _) (Nat.le_of_ble_eq_true rfl)); (case k9 => exact BindsTo.of_eq rfl); (case c5 => decide); (case kB => exact locs rfl); (case c2 => exact rfl); (case c3 => exact rfl); (case c4 => exact rfl); k_whole; intro g' L' h' FG' F' N' B' X' T'; (try dsimp only); (try k_fold))))
local macro_rules | `(tactic| walk_at "eval DictComp") => `(tactic| (k_here; k_dflt (refine vd_DictComp (by rfl) (by with_unfolding_all rfl) (by decide) (by rfl) (by decide) (by rfl) (by rfl) (by decide) (by decide) (by decide) ?_)))

abbrev prsOf (v : Nat → Value) : List (Str × Value) :=
  [(Str.ofString "millennia", v 0), (Str.ofString "centuries", v 1), (Str.ofString "decades", v 2), (Str.ofString "years", v 3), (Str.ofString "months", v 4), (Str.ofString "weeks", v 5),
   (Str.ofString "days", v 6), (Str.ofString "hours", v 7), (Str.ofString "minutes", v 8), (Str.ofString "seconds", v 9), (Str.ofString "microseconds", v 10)]

theorem sys_ne {g : Heap} {mg : Str → Option Value} {L D : Addr} (G : g.Ns mainGlobals mg) (h : g.objs.size ≤ L) (h' : L < D) : (D == sysModules) = false := by
  have h1 : mainGlobals < D := Nat.lt_of_lt_of_le G.lt (Nat.le_trans h (Nat.le_of_lt h'))
  have h2 : sysModules < mainGlobals := by decide
  exact beq_false_of_ne (Nat.ne_of_gt (Nat.lt_trans h2 h1))

abbrev fnames : List Str := [Str.ofString "millennia", Str.ofString "centuries", Str.ofString "decades", Str.ofString "years", Str.ofString "months", Str.ofString "weeks", Str.ofString "days", Str.ofString "hours", Str.ofString "minutes", Str.ofString "seconds", Str.ofString "microseconds"]
theorem fnames_nodup : fnames.Nodup := by decide +kernel
theorem prs_nodup (v : Nat → Value) : ((prsOf v).map (·.1)).Nodup := fnames_nodup

section
variable {prog : Program} {w : World} {loose : List Str} {mean : ExcName → Option Value} {mg mb m : Str → Option Value} {A A₀ : Around} {base h₀ : Heap} {outer : List Env} {env : Env} {L : Addr} {s : Shared} {R : Result → Shared → Prop}
    {news : List (Addr × Obj)} {x dx : Addr} {hs : Nat → Int} {ts : Nat → Tok} {v : Nat → Value} {n : Nat}
theorem vd_con 
    (B : Below A₀ base outer h₀) (F : Fr h₀ L s.heap m) (X : (Mine.hd.heap_39 w.params).In h₀) (N : News h₀ L s.heap news) (T : Top topProg loose mean mg mb h₀)
    (hA : A.handled = none) (hfr : A.frames = some (env :: outer)) (hf : env.frame = some L) (hke : env.scope.kind = .function) (hd : A.depth ≤ 800) (hu : A.units ≤ 5000)
    (hx : (x, instObj 117 dx) ∈ news) (hdx : (dx, dictOf (flds hs ts v) n) ∈ news) (ov : ∀ i, OV (v i))
    (ret : ∀ D od h' tk', Fr h₀ L h' m → News h₀ L h' ((D, od) :: news) → od.IsDictOf (strKind prog w) (kept (prsOf v)) → (∀ q ∈ news, q.1 < D) → (D == sysModules) = false → R (.ok (.ret (.ref D))) { s with heap := h', toks := tk' }) :
    codeAny (model prog w) A (.call (.ref 93) ⟨[.ref x], []⟩) R s := by
  refine code_at (d := 800) (u := 5000) ?_ hA hd hfr hu
  ktr_enter
  k_steps
  refine vd_leaf (prsOf v) (by k_asm) (by k_asm) (Nat.le_of_ble_eq_true rfl) (prs_nodup v) (by k_mem) ?_ ?_
  · repeat (first | exact trivial | (refine ⟨⟨_, _, _, rfl, by k_mem⟩, ?_⟩))
  · intro D od h' tk F' N' hd' hlt hLD
    have hsys : (D == sysModules) = false := by rename Top _ _ _ _ _ _ => Tt; exact sys_ne Tt.g F'.above hLD
    k_steps
    refine ret D od _ _ (by k_asm) (cb_drop (by assumption) ?_) hd' (fun q hq => hlt q ?_) hsys
    · intro p hp
      rcases List.mem_cons.mp hp with rfl | hp
      · exact .head _
      · repeat (first | exact hp | refine List.Mem.tail _ ?_)
    · repeat (first | exact hq | refine List.Mem.tail _ ?_)
end
end Mine
end

section
open PySem PySem.W PyProof.Rows PySem.Calls PySem.Spec
set_option maxRecDepth 100000
set_option maxHeartbeats 8000000
namespace Mine
local macro_rules | `(tactic| k_handed) => `(tactic| (refine OV.handed ?_; (rename (∀ _, OV _) => hov9); exact hov9 _))
local macro_rules | `(tactic| ktr_enter) => `(tactic| (
  have hT : PySem.Challenge.rw_eg5034_01.Holds → Mine.hd.heap_39 = Mine.hd.heap_39 := fun _ => rfl
  revert hT
  k_fill
  intro _
  k_dflt (refine' code_def ?k1 ?k2 ?k3 ?k4 ?k5 ?kA ?kF ?kK ?k6 ?k7 ?k8 ?k9 ?kB ?_ ?c2 ?c3 ?c4 ?c5; (case kA => exact rfl); (case kF => assumption); (case kK => assumption); (case k1 => k_asm); (case k2 => k_asm); (case k3 => k_asm); (case k4 => k_asm); (case k5 => k_asm); (case k6 => k_is); (case k7 => k_is); (case k8 => exact Nat.lt_of_lt_of_le (Nat.lt_succ_self _) (Nat.le_of_ble_eq_true rfl)); (case k9 => exact BindsTo.of_eq rfl); (case c5 => decide); (case kB => exact locs rfl); (case c2 => exact rfl); (case c3 => exact rfl); (case c4 => exact rfl); k_whole; intro g' L' h' FG' F' N' B' X' T'; (try dsimp only); (try k_fold))))

section
variable {prog : Program} {w : World} {loose : List Str} {mean : ExcName → Option Value} {mg mb m : Str → Option Value} {A A₀ : Around} {base h₀ : Heap} {outer : List Env} {env : Env} {L : Addr} {s : Shared} {R : Result → Shared → Prop}
    {news : List (Addr × Obj)} {x dx : Addr} {hs : Nat → Int} {ts : Nat → Tok} {v : Nat → Value} {n : Nat}
theorem fields_con 
    (B : Below A₀ base outer h₀) (F : Fr h₀ L s.heap m) (X : (Mine.hd.heap_39 w.params).In h₀) (N : News h₀ L s.heap news) (T : Top topProg loose mean mg mb h₀)
    (hA : A.handled = none) (hfr : A.frames = some (env :: outer)) (hf : env.frame = some L) (hke : env.scope.kind = .function) (hd : A.depth ≤ 500) (hu : A.units ≤ 2000)
    (hx : (x, instObj 117 dx) ∈ news) (hdx : (dx, dictOf (flds hs ts v) n) ∈ news) (ov : ∀ i, OV (v i))
    (ret : ∀ l h' tk', Fr h₀ L h' m → News h₀ L h' ((l, listOf (vals v).toArray 0) :: news) → R (.ok (.ret (.ref l))) { s with heap := h', toks := tk' }) :
    codeAny (model prog w) A (.call (.ref 217) ⟨[.ref x], []⟩) R s := by
  refine code_at (d := 500) (u := 2000) ?_ hA hd hfr hu
  ktr_enter
  k_steps
  exact ret _ _ _ (by k_asm) (by k_asm)
end
end Mine
end

section
open PySem PySem.W PyProof.Rows PySem.Calls PySem.Spec
set_option maxRecDepth 100000
set_option maxHeartbeats 8000000
namespace Mine
local macro_rules | `(tactic| k_handed) => `(tactic| (refine OV.handed ?_; (rename (∀ _, OV _) => hov9); exact hov9 _))
local macro_rules | `(tactic| k_mem) => `(tactic| assumption)
local macro_rules | `(tactic| ktr_enter) => `(tactic| (
  have hT : PySem.Challenge.rw_eg5034_01.Holds → Mine.hd.heap_39 = Mine.hd.heap_39 := fun _ => rfl
  revert hT
  k_fill
  intro _
  k_dflt (refine' code_def ?k1 ?k2 ?k3 ?k4 ?k5 ?kA ?kF ?kK ?k6 ?k7 ?k8 ?k9 ?kB ?_ ?c2 ?c3 ?c4 ?c5; (case kA => exact rfl); (case kF => assumption); (case kK => assumption); (case k1 => k_asm); (case k2 => k_asm); (case k3 => k_asm); (case k4 => k_asm); (case k5 => k_asm); (case k6 => k_is); (case k7 => k_is); (case k8 => exact Nat.lt_of_lt_of_le (Nat.lt_succ_self _) (Nat.le_of_ble_eq_true rfl)); (case k9 => exact BindsTo.of_eq rfl); (case c5 => decide); (case kB => exact locs rfl); (case c2 => exact rfl); (case c3 => exact rfl); (case c4 => exact rfl); k_whole; intro g' L' h' FG' F' N' B' X' T'; (try dsimp only); (try k_fold))))
local macro_rules | `(tactic| walk_at "call ref") => `(tactic| (k_here; (with_reducible show wpAny _ _ (call (Value.ref 93) _) _ _ _); refine wpAny_call ?_; k_dflt (refine' vd_con ?k1 ?k2 ?k3 ?k4 ?k5 rfl rfl rfl rfl ?k6 ?k7 ?k8 ?k9 ?kO ?_; (case k1 => k_asm); (case k2 => k_asm); (case k3 => k_asm); (case k4 => k_asm); (case k5 => k_asm); (case k6 => exact Nat.le_of_ble_eq_true rfl); (case k7 => exact Nat.le_of_ble_eq_true rfl); (case k8 => k_mem); (case k9 => k_mem); (case kO => assumption); k_whole); intro D' od' h' tk' F' N' hd' hlt' hsys'; (try dsimp only)))
local macro_rules | `(tactic| walk_at "getMethod ref") => `(tactic| (k_here; (with_reducible show wpAny _ _ (getMethod (Value.ref _) (Str.ofString "items") _) _ _ _); k_dflt (refine kdl_method (knd := PySem.strKind _ _) PySem.F.slot_dict_items PySem.F.type_dict_items (by k_asm) (by k_mem) (by k_asm) ?_)))
local macro_rules | `(tactic| walk_at "call builtin:dict.items") => `(tactic| (k_here; (with_reducible show wpAny _ _ (call (Value.builtin "dict.items") [Value.ref _]) _ _ _); k_dflt (refine kdx_view (knd := PySem.strKind _ _) (by k_asm) (by k_asm) (by k_mem) (by k_asm) (by k_asm) ?_); intro D' h' F' N' l1))
local macro_rules | `(tactic| walk_at "eval GeneratorExp") => `(tactic| (k_here; k_dflt (refine str_gen (c := 99) (P := 95) (sep := Str.ofString " ") (by rfl) (Nat.lt_of_lt_of_le (Nat.lt_succ_self _) (Nat.le_of_ble_eq_true rfl)) (by rfl) (by rfl) (by with_unfolding_all rfl) (by decide) (by rfl) (by rfl) (by rfl) (by decide) (by rfl) (by decide) (by decide) (by decide) ?_ (by intro _; with_unfolding_all rfl))))

local macro_rules | `(tactic| walk_at "call builtin:str.join") => `(tactic| ((rename JoinsTo _ _ _ _ _ _ _ _ _ _ => hJ9); refine hJ9 _ _ _ ?_))

abbrev gpos : Pos := ⟨45, 24, 45, 75⟩
def said (v : Nat → Value) : Str := Txt.join (Str.ofString " ") ((kept (prsOf v)).map piece)
theorem fnames_len : ∀ x ∈ fnames, x.length ≤ 20 := by decide +kernel
theorem prs_mem {v : Nat → Value} (ov : ∀ i, OV (v i)) : ∀ p ∈ prsOf v, OV p.2 ∧ p.1 ∈ fnames := by
  intro p hp
  have h1 : p.1 ∈ fnames := List.mem_map.mpr ⟨p, hp, rfl⟩
  refine ⟨?_, h1⟩
  simp only [List.mem_cons, List.not_mem_nil, or_false] at hp
  rcases hp with rfl | rfl | rfl | rfl | rfl | rfl | rfl | rfl | rfl | rfl | rfl <;> exact ov _
theorem kept_tell {v : Nat → Value} (ov : ∀ i, OV (v i)) : ∀ p ∈ kept (prsOf v), Tellable p := by
  intro p hp
  obtain ⟨hm, hv⟩ := List.mem_filter.mp hp
  obtain ⟨h1, h2⟩ := prs_mem ov p hm
  rcases h1 with e | ⟨i, t, e, hi⟩
  · rw [e] at hv; cases hv
  · exact ⟨i, t, e, hi, fnames_len _ h2⟩
theorem kept_len (v : Nat → Value) : (kept (prsOf v)).length ≤ 1000 := Nat.le_trans (List.length_filter_le _ _) (Nat.le_of_ble_eq_true rfl)

section
variable {prog : Program} {w : World} {loose : List Str} {mean : ExcName → Option Value} {mg mb m : Str → Option Value} {A A₀ : Around} {base h₀ : Heap} {outer : List Env} {env : Env} {L : Addr} {s : Shared} {R : Result → Shared → Prop}
    {news : List (Addr × Obj)} {x dx : Addr} {hs : Nat → Int} {ts : Nat → Tok} {v : Nat → Value} {n : Nat} {ps : Array Value}
theorem str_con 
    (B : Below A₀ base outer h₀) (F : Fr h₀ L s.heap m) (X : (Mine.hd.heap_39 w.params).In h₀) (N : News h₀ L s.heap news) (T : Top topProg loose mean mg mb h₀)
    (hA : A.handled = none) (hfr : A.frames = some (env :: outer)) (hf : env.frame = some L) (hke : env.scope.kind = .function) (hd : A.depth ≤ 600) (hu : A.units ≤ 3000)
    (hx : (x, instObj 117 dx) ∈ news) (hdx : (dx, dictOf (flds hs ts v) n) ∈ news) (hP : (95, tabObj ps) ∈ news) (hgood : GoodTab gpos ps) (ov : ∀ i, OV (v i))
    (ret : ∀ t h' gs' tk' ps', Fr h₀ L h' m → (∀ news', Upd 95 (tabObj ps) (tabObj ps') news news' → News h₀ L h' news') → GoodTab gpos ps' → (AllBare s.gens → AllBare gs') → R (.ok (.ret (.str (said v) t))) { s with heap := h', gens := gs', toks := tk' }) :
    codeAny (model prog w) A (.call (.ref 100) ⟨[.ref x], []⟩) R s := by
  refine code_at (d := 600) (u := 3000) ?_ hA hd hfr hu
  ktr_enter
  k_steps
  rename Frag.In _ _ => Xg
  rename Top _ _ _ _ _ _ => Tg
  rename Obj.IsDictOf _ _ _ => hodg
  rename Fr _ _ _ _ => Fg
  rename News _ _ _ _ => Ng
  refine str_leaf Fg Ng Tg (by k_mem) (by k_mem) hodg (kept_len v) (kept_tell ov) (by k_mem) hgood rfl (Xg 99 _ (by k_is)) rfl rfl rfl rfl rfl rfl rfl (by decide) ?_
  intro a s₅ hJ
  k_steps
  rename_i s' t' hAft
  obtain ⟨h9, g9, t9, e9⟩ := hAft.same
  subst e9
  have F9 := after_fr hAft Fg Ng (ps := ps) (by k_mem)
  have N9 : News _ _ _ news := cb_drop Ng fun p hp => .tail _ (.tail _ hp)
  obtain ⟨ps', hg', N9'⟩ := after_news hAft N9 hP
  have hb9 := hAft.bare
  clear hAft Fg Ng N9
  k_steps
  rename Fr _ _ _ _ => kF
  rename News _ _ _ _ => kN
  exact ret t' h9 g9 t9 ps' kF (fun news' U => news_upd_of kN U) hg' hb9
end
end Mine
end

section
open PySem PySem.W PyProof.Rows PySem.Calls PySem.Spec
set_option maxRecDepth 100000
namespace Mine

abbrev nm (i : Nat) : Str := fnames.getD i Str.empty
abbrev pairObj (x : Str) (tk : Tok) (y : Value) : Obj := { cls := .type "tuple", data := .seq #[.str x tk, y] }

theorem PairsIn.mono {news news' : List (Addr × Obj)} (h : ∀ p ∈ news, p ∈ news') : ∀ {vs : List Value} {ps : List (Str × Value)}, PairsIn news vs ps → PairsIn news' vs ps
  | [], [], _ => trivial
  | _ :: _, _ :: _, x => ⟨let ⟨Ti, tk, n, e, hm⟩ := x.1; ⟨Ti, tk, n, e, h _ hm⟩, PairsIn.mono h x.2⟩
  | [], _ :: _, x => x.elim
  | _ :: _, [], x => x.elim
theorem PairsIn.snoc {news : List (Addr × Obj)} {T : Addr} {p : Str × Value} {tk : Tok} (hm : (T, pairObj p.1 tk p.2) ∈ news) : ∀ {vs : List Value} {ps : List (Str × Value)}, PairsIn news vs ps → PairsIn news (vs ++ [.ref T]) (ps ++ [p])
  | [], [], _ => ⟨⟨T, tk, 0, rfl, hm⟩, trivial⟩
  | _ :: _, _ :: _, x => ⟨x.1, PairsIn.snoc hm x.2⟩
  | [], _ :: _, x => x.elim
  | _ :: _, [], x => x.elim
theorem prs_at (v : Nat → Value) : ∀ (i : Nat), i < 11 → (prsOf v)[i]? = some (nm i, v i)
  | 0, _ => rfl | 1, _ => rfl | 2, _ => rfl | 3, _ => rfl | 4, _ => rfl | 5, _ => rfl | 6, _ => rfl | 7, _ => rfl | 8, _ => rfl | 9, _ => rfl | 10, _ => rfl
  | _ + 11, h => absurd h (by omega)
theorem vals_at (v : Nat → Value) : ∀ (i : Nat), i < 11 → (vals v)[i]? = some (v i)
  | 0, _ => rfl | 1, _ => rfl | 2, _ => rfl | 3, _ => rfl | 4, _ => rfl | 5, _ => rfl | 6, _ => rfl | 7, _ => rfl | 8, _ => rfl | 9, _ => rfl | 10, _ => rfl
  | _ + 11, h => absurd h (by omega)
theorem kept_snoc (ps : List (Str × Value)) (p : Str × Value) : kept (ps ++ [p]) = if p.2 = .none then kept ps else kept ps ++ [p] := by
  unfold kept
  rw [List.filter_append]
  by_cases h : p.2 = .none
  · simp [h]
  · simp [h]

theorem pairs_rest {prog : Program} {w : World} {A : Around} {h₀ : Heap} {L : Addr} {m : Str → Option Value} {env : Env} {ct elt : PySem.Expr} {x : Str} {scope : Scope} {cl : List (Str × Addr)} {s : Shared} {Fin : List Value → List (Addr × Obj) → Prop} {news : List (Addr × Obj)} (v : Nat → Value)
    (turn : ∀ (i : Nat), i < 11 → ∀ (t : Tok) I oI C oC D m₂ ys tups h tk (E' : Value → Shared → Prop) (REST : List Value → List (Addr × Obj) → Prop), LCg.NsObj oC m₂ → m₂ x = some (.int (i : Int) t) → Fr h₀ L h m → News h₀ L h ((I, oI) :: (C, oC) :: (D, LCg.lst ys) :: (tups ++ news)) → LCg.Off3 I C D (tups ++ news) → ((@Ne Nat I C) ∧ (@Ne Nat I D) ∧ (@Ne Nat C D)) →
      (v i = .none → REST ys (tups ++ news)) → (v i ≠ .none → ∀ T tk, REST (ys ++ [.ref T]) ((T, pairObj (nm i) tk (v i)) :: (tups ++ news))) →
      wpAny (model prog w) A (isTrue ct (compEnvC scope cl C env) (eval ct (compEnvC scope cl C env))) (fun ok s' => if ok = true then
        wpAny (model prog w) A (eval elt (compEnvC scope cl C env)) (LCg.CompEnd h₀ L m { s with heap := h, toks := tk } I oI C oC D (LCg.lst ys) (fun _ => True) (fun y news' => REST (ys ++ [y]) news')) E' s'
        else LCg.CompEnd h₀ L m { s with heap := h, toks := tk } I oI C oC D (LCg.lst ys) (fun _ => True) (fun _ news' => REST ys news') Value.none s') E' { s with heap := h, toks := tk })
    (fin : ∀ ys tups, PairsIn tups ys (kept (prsOf v)) → Fin ys (tups ++ news)) :
    LCt.CompRestT prog w A h₀ L m env ct elt x scope cl s (fun _ => True) (fun i v => ∃ t, v = .int (0 + (i : Int)) t) Fin 11 0 [] news := by
  have key : ∀ (j i : Nat) (ys : List Value) (tups : List (Addr × Obj)), i + j = 11 → PairsIn tups ys (kept ((prsOf v).take i)) →
      LCt.CompRestT prog w A h₀ L m env ct elt x scope cl s (fun _ => True) (fun i v => ∃ t, v = .int (0 + (i : Int)) t) Fin j i ys (tups ++ news) := by
    intro j
    induction j with
    | zero =>
      intro i ys tups hi hp
      obtain rfl : i = 11 := by omega
      exact LCt.CompRestT.zero (fin ys tups hp)
    | succ j ih =>
      intro i ys tups hi hp
      have hlt : i < 11 := by omega
      have htake : (prsOf v).take (i + 1) = (prsOf v).take i ++ [(nm i, v i)] := by rw [List.take_add_one, prs_at v i hlt]; rfl
      refine LCt.CompRestT.succ ?_
      intro u I oI C oC D m₂ h tk E' hv hC hx F N off ne
      obtain ⟨t, rfl⟩ := hv
      rw [Int.zero_add] at hx
      refine turn i hlt t I oI C oC D m₂ ys tups h tk E' _ hC hx F N off ne (fun e => ih (i + 1) ys tups (by omega) ?_) (fun e T tk' => ih (i + 1) (ys ++ [.ref T]) ((T, pairObj (nm i) tk' (v i)) :: tups) (by omega) ?_)
      · rw [htake, kept_snoc, if_pos e]; exact hp
      · rw [htake, kept_snoc, if_neg e]
        exact PairsIn.snoc (p := (nm i, v i)) (.head _) (hp.mono fun q hq => .tail _ hq)
  exact key 11 0 [] [] rfl trivial

theorem item_vals {prog : Program} {w : World} {A : Around} {E : Value → Shared → Prop} {s : Shared} {h₀ : Heap} {L l : Addr} {news : List (Addr × Obj)} {value slice : PySem.Expr} {v : Nat → Value} {i nl : Nat} {u : Tok} {Q : Value → Shared → Prop}
    (N : News h₀ L s.heap news) (hm : (l, listOf (vals v).toArray nl) ∈ news) (hi : i < 11) (h : Q (v i) s)
    (hs : subscripted slice false (.ref l) (.int (i : Int) u) = operate [.ref l, .int (i : Int) u] (getItem (.ref l) (.int (i : Int) u)) := by with_unfolding_all rfl) :
    wpAny (model prog w) A (subscriptTail value slice (.ref l) (.int (i : Int) u)) Q E s := by
  have hl : s.heap.IsList l (vals v).toArray := ⟨_, (N _ hm).1, rfl, _, rfl⟩
  exact tail_any hl.typeIs slot_list_getitem.lookup (wpAny_getItem_list hl (by omega) (by omega) (by simpa using vals_at v i hi) h) hs


theorem item_names {prog : Program} {w : World} {A : Around} {E : Value → Shared → Prop} {s : Shared} {l : Addr} {value slice : PySem.Expr} {items : List Value} {i : Nat} {u tk : Tok} {Q : Value → Shared → Prop}
    (hl : IsTup s.heap l items.toArray) (hlen : items.length = 11) (hi : i < 11) (hx : items[i]? = some (.str (nm i) tk)) (h : Q (.str (nm i) tk) s)
    (hs : subscripted slice false (.ref l) (.int (i : Int) u) = operate [.ref l, .int (i : Int) u] (getItem (.ref l) (.int (i : Int) u)) := by with_unfolding_all rfl) :
    wpAny (model prog w) A (subscriptTail value slice (.ref l) (.int (i : Int) u)) Q E s := by
  refine item_tupleT hl (by omega) (by omega) ?_ hx h hs
  unfold seqIndex?
  rw [hlen]
  simp only [show ¬ ((i : Int) < 0) from by omega, if_false]
  rw [if_pos (by simp; omega)]
  simp

theorem off3_cons {I C D T : Addr} {o : Obj} {news : List (Addr × Obj)} (h : LCg.Off3 I C D news) (h1 : @Ne Nat T I) (h2 : @Ne Nat T C) (h3 : @Ne Nat T D) : LCg.Off3 I C D ((T, o) :: news) := ⟨⟨h1, h2, h3⟩, h⟩

theorem pairs_turn {prog : Program} {w : World} {K : Frag} {A : Around} {h₀ : Heap} {L lv c F9 : Addr} {m mg mb : Str → Option Value} {p : Program} {loose : List Str} {mean : ExcName → Option Value} {env : Env} {xv xk xf : Str} {p1 p2 p3 p4 p5 p6 p7 p8 p9 pc pcm pt : Pos} {kc kt nl : Nat} {scope : Scope} {cl : List (Str × Addr)}
    {news : List (Addr × Obj)} {v : Nat → Value} {oc of : Obj} {items : List Value}
    (X : K.In h₀) (T : Top p loose mean mg mb h₀) (hlv : (lv, listOf (vals v).toArray nl) ∈ news) (hc : cl.lookup xv = some c) (hoc : (c, oc) ∈ news) (hcell : oc.data = .cell (some (.ref lv)))
    (hF : nsIn K mainGlobals xf = some (some (.ref F9))) (hFo : K.lookup F9 = some of) (hFc : of.cls = .type "tuple") {nF : Nat} (hFd : of.data = .seq items.toArray nF) (hlen : items.length = 11) (hitems : ∀ i, i < 11 → ∃ tk, items[i]? = some (.str (nm i) tk))
    (hg : env.globals = mainGlobals) (hkind : ∀ C, (compEnvC scope cl C env).scope.kind = .function) (hkv : ∀ C, (compEnvC scope cl C env).kindOf xv = some .cell) (hkk : ∀ C, (compEnvC scope cl C env).kindOf xk = some .local) (hkf : ∀ C, (compEnvC scope cl C env).kindOf xf = some .globalImplicit)
    (hdv : (xv == ("__debug__" : Str)) = false) (hdk : (xk == ("__debug__" : Str)) = false) (hdf : (xf == ("__debug__" : Str)) = false)
    (i : Nat) (hi : i < 11) (t : Tok) {s : Shared} (I : Addr) (oI : Obj) (C : Addr) (oC : Obj) (D : Addr) (m₂ : Str → Option Value) (ys : List Value) (tups : List (Addr × Obj)) (h : Heap) (tk : Nat) (E' : Value → Shared → Prop) (REST : List Value → List (Addr × Obj) → Prop)
    (hC : LCg.NsObj oC m₂) (hx : m₂ xk = some (.int (i : Int) t)) (F : Fr h₀ L h m) (N : News h₀ L h ((I, oI) :: (C, oC) :: (D, LCg.lst ys) :: (tups ++ news))) (off : LCg.Off3 I C D (tups ++ news)) (ne : (@Ne Nat I C) ∧ (@Ne Nat I D) ∧ (@Ne Nat C D))
    (hno : v i = .none → REST ys (tups ++ news)) (hyes : v i ≠ .none → ∀ T tk, REST (ys ++ [.ref T]) ((T, pairObj (nm i) tk (v i)) :: (tups ++ news))) :
    wpAny (model prog w) A (isTrue (.Compare (.Subscript (.Name xv p1) (.Name xk p2) p3) [.IsNot] [.Constant .none kc pc] pcm) (compEnvC scope cl C env) (eval (.Compare (.Subscript (.Name xv p1) (.Name xk p2) p3) [.IsNot] [.Constant .none kc pc] pcm) (compEnvC scope cl C env))) (fun ok s' => if ok = true then
        wpAny (model prog w) A (eval (.Tuple [.Subscript (.Name xf p4) (.Name xk p5) p6, .Subscript (.Name xv p7) (.Name xk p8) p9] kt pt) (compEnvC scope cl C env)) (LCg.CompEnd h₀ L m { s with heap := h, toks := tk } I oI C oC D (LCg.lst ys) (fun _ => True) (fun y news' => REST (ys ++ [y]) news')) E' s'
        else LCg.CompEnd h₀ L m { s with heap := h, toks := tk } I oI C oC D (LCg.lst ys) (fun _ => True) (fun _ news' => REST ys news') Value.none s') E' { s with heap := h, toks := tk } := by
  have mem : ∀ {q : Addr × Obj}, q ∈ news → q ∈ (I, oI) :: (C, oC) :: (D, LCg.lst ys) :: (tups ++ news) := fun hq => .tail _ (.tail _ (.tail _ (List.mem_append_right _ hq)))
  have memC : (C, oC) ∈ (I, oI) :: (C, oC) :: (D, LCg.lst ys) :: (tups ++ news) := .tail _ (.head _)
  refine wpAny_isTrue_Compare1 (Subscript_ (lcf_cell (s := { s with heap := h, toks := tk }) N hc (mem hoc) hcell (LCgL.ld_own (s := { s with heap := h, toks := tk }) N memC hC hx (item_vals (s := { s with heap := h, toks := tk }) N (mem hlv) hi (wpAny_Constant_none (isNot_none (wpAny_truthy_bool ?_)))) (hkind C) (hkk C) hdk) (hkind C) (hkv C) hdv))
  cases hv : (!(v i == Value.none)) with
  | false =>
    have e : v i = .none := by simpa using hv
    simp only [Bool.false_eq_true, if_false]
    exact ⟨h, tk, tups ++ news, rfl, F, N, off, trivial, hno e⟩
  | true =>
    have e : v i ≠ .none := by simpa using hv
    simp only [if_true]
    obtain ⟨tkF, hxi⟩ := hitems i hi
    have hFt : IsTup h F9 items.toArray := ⟨of, F.keep _ _ (X _ _ hFo), hFc, nF, hFd⟩
    refine Tuple_ (spliced_more (Subscript_ (LCgL.ld_global (s := { s with heap := h, toks := tk }) F X T hF (LCgL.ld_own (s := { s with heap := h, toks := tk }) N memC hC hx (item_names (s := { s with heap := h, toks := tk }) hFt hlen hi hxi ?_) (hkind C) (hkk C) hdk) hg (hkind C) (hkf C) hdf)))
    refine spliced_more (Subscript_ (lcf_cell (s := { s with heap := h, toks := tk }) N hc (mem hoc) hcell (LCgL.ld_own (s := { s with heap := h, toks := tk }) N memC hC hx (item_vals (s := { s with heap := h, toks := tk }) N (mem hlv) hi ?_) (hkind C) (hkk C) hdk) (hkind C) (hkv C) hdv))
    refine spliced_none ?_
    refine newTuple_N (s := { s with heap := h, toks := tk }) F N (fun h' F' N' => ?_) (Nat.le_of_ble_eq_true rfl)
    have lt : ∀ q ∈ (I, oI) :: (C, oC) :: (D, LCg.lst ys) :: (tups ++ news), q.1 ≠ h.objs.size := fun q hq => Nat.ne_of_lt (Heap.lt_size (N q hq).1)
    refine ⟨h', tk, (h.objs.size, pairObj (nm i) tkF (v i)) :: (tups ++ news), rfl, F', fun q hq => N' q ?_, off3_cons off (Ne.symm (lt _ (.head _))) (Ne.symm (lt _ memC)) (Ne.symm (lt _ (.tail _ (.tail _ (.head _))))), trivial, hyes e _ _⟩
    rcases List.mem_cons.mp hq with rfl | hq
    · exact .tail _ (.head _)
    rcases List.mem_cons.mp hq with rfl | hq
    · exact .tail _ (.tail _ (.head _))
    rcases List.mem_cons.mp hq with rfl | hq
    · exact .tail _ (.tail _ (.tail _ (.head _)))
    rcases List.mem_cons.mp hq with rfl | hq
    · exact .head _
    · exact .tail _ (.tail _ (.tail _ (.tail _ hq)))
end Mine
end

section
open PySem PySem.W PyProof.Rows PySem.Calls PySem.Spec
set_option maxRecDepth 100000
set_option maxHeartbeats 1000000
namespace Mine
local macro_rules | `(tactic| k_mem) => `(tactic| assumption)
local macro_rules | `(tactic| ktr_step) => `(tactic| (
  have hT : PySem.Challenge.rw_eg5034_01.Holds → Mine.hd.heap_39 = Mine.hd.heap_39 := fun _ => rfl
  revert hT
  k_fill
  intro _
  k_dflt (refine' code_defC ?k1 ?k2 ?k3 ?k4 ?k5 ?kA ?kF ?kK ?k6 ?k7 ?k8 ?k9 ?kB ?kD ?_ ?c2 ?c3 ?c4; (case kA => exact rfl); (case kF => assumption); (case kK => assumption); (case k1 => k_asm); (case k2 => k_asm); (case k3 => k_asm); (case k4 => k_asm); (case k5 => k_asm); (case k6 => k_is); (case k7 => k_is); (case k8 => exact Nat.lt_of_lt_of_le (Nat.lt_succ_self _) (Nat.le_of_ble_eq_true rfl)); (case k9 => exact BindsTo.of_eq rfl); (case kB => exact rfl); (case kD => decide +kernel); (case c2 => exact rfl); (case c3 => exact rfl); (case c4 => exact rfl); k_whole; intro g' L' h' tk' cells' FG' F' N' Y' B' X' T' l1; (try k_lt l1); k_cells Y'; (try simp only [List.cons_append, List.nil_append] at N'); (try dsimp only); (try k_fold))))
local macro_rules | `(tactic| walk_at "eval ListComp") => `(tactic| (k_here; k_dflt (refine LCt.ListComp_T (F₀ := by k_asm) (by with_unfolding_all rfl) (by decide) (by rfl) (by decide) (by rfl) ?_)))

theorem sub_mid {q r : Addr × Obj} {a b : List (Addr × Obj)} : ∀ p ∈ q :: (a ++ b), p ∈ q :: (a ++ r :: b) := by
  intro p hp
  rcases List.mem_cons.mp hp with rfl | hp
  · exact .head _
  · refine .tail _ (List.mem_append.mpr ?_)
    rcases List.mem_append.mp hp with hp | hp
    · exact .inl hp
    · exact .inr (.tail _ hp)

section
variable {prog : Program} {w : World} {loose : List Str} {mean : ExcName → Option Value} {mg mb m : Str → Option Value} {A A₀ : Around} {base h₀ : Heap} {outer : List Env} {env : Env} {L : Addr} {s : Shared} {R : Result → Shared → Prop}
    {news : List (Addr × Obj)} {lv : Addr} {v : Nat → Value} {nl : Nat}
theorem pairs_con 
    (B : Below A₀ base outer h₀) (F : Fr h₀ L s.heap m) (X : (Mine.hd.heap_39 w.params).In h₀) (N : News h₀ L s.heap news) (T : Top topProg loose mean mg mb h₀)
    (hA : A.handled = none) (hfr : A.frames = some (env :: outer)) (hf : env.frame = some L) (hke : env.scope.kind = .function) (hd : A.depth ≤ 800) (hu : A.units ≤ 5000)
    (hl : (lv, listOf (vals v).toArray nl) ∈ news)
    (ret : ∀ D ys tups h' tk', Fr h₀ L h' m → News h₀ L h' ((D, LCg.lst ys) :: (tups ++ news)) → PairsIn tups ys (kept (prsOf v)) → R (.ok (.ret (.ref D))) { s with heap := h', toks := tk' }) :
    codeAny (model prog w) A (.call (.ref 222) ⟨[.ref lv], []⟩) R s := by
  refine code_at (d := 800) (u := 5000) ?_ hA hd hfr hu
  ktr_step
  k_steps
  rename IsRange _ _ _ _ _ _ _ _ => hR9
  refine LCt.CompSrcT.range (by rfl) (by k_asm) (by k_asm) hR9 (by first | decide | rfl) (by first | rfl | decide) (Nat.le_of_ble_eq_true rfl) ?_
  intro g9
  rename Frag.In _ _ => Xg
  rename Top _ _ _ _ _ _ => Tg
  refine pairs_rest v ?_ ?_
  · intro i hi t I oI C oC D m₂ ys tups h tk E' REST hC hx F9 N9 off9 ne9 hno hyes
    refine pairs_turn (K := Mine.hd.heap_39 w.params) Xg Tg (.tail _ hl) rfl (.head _) (by assumption) (by k_is) (by k_is) rfl rfl rfl ?_ rfl (fun _ => rfl) (fun _ => rfl) (fun _ => rfl) (fun _ => rfl) (by decide) (by decide) (by decide) i hi t I oI C oC D m₂ ys tups h tk E' REST hC hx F9 N9 off9 ne9 hno hyes
    intro i hi
    exact match i, hi with
      | 0, _ => ⟨_, rfl⟩ | 1, _ => ⟨_, rfl⟩ | 2, _ => ⟨_, rfl⟩ | 3, _ => ⟨_, rfl⟩ | 4, _ => ⟨_, rfl⟩ | 5, _ => ⟨_, rfl⟩ | 6, _ => ⟨_, rfl⟩ | 7, _ => ⟨_, rfl⟩ | 8, _ => ⟨_, rfl⟩ | 9, _ => ⟨_, rfl⟩ | 10, _ => ⟨_, rfl⟩
      | _ + 11, h => absurd h (by omega)
  · intro ys tups hp
    k_steps
    rename Fr _ _ _ _ => kF
    rename News _ _ _ _ => kN
    exact ret _ ys tups _ _ kF (cb_drop kN sub_mid) hp
end
end Mine
end

section
open PySem PySem.W PyProof.Rows PySem.Calls PySem.Spec
set_option maxRecDepth 100000
namespace Mine

theorem said_elt {prog : Program} {w : World} {K : Frag} {A : Around} {h₀ : Heap} {L : Addr} {m mg mb : Str → Option Value} {p : Program} {loose : List Str} {mean : ExcName → Option Value} {env : Env} {xs xv xn : Str} {p1 p2 p3 p4 p5 p6 p7 : Pos} {kc : Nat} {scope : Scope} {cl : List (Str × Addr)}
    {news : List (Addr × Obj)} {q : Str × Value}
    (X : K.In h₀) (T : Top p loose mean mg mb h₀) (hs : nsIn K mainGlobals xs = some none) (hsb : bootBuiltins xs = some (.type "str")) (hsn : xs ≠ "__name__") (hq : Tellable q)
    (hg : env.globals = mainGlobals) (hb : env.builtins = builtinsNs) (hkind : ∀ C, (compEnvC scope cl C env).scope.kind = .function) (hkv : ∀ C, (compEnvC scope cl C env).kindOf xv = some .local) (hkn : ∀ C, (compEnvC scope cl C env).kindOf xn = some .local) (hks : ∀ C, (compEnvC scope cl C env).kindOf xs = some .globalImplicit)
    (hdv : (xv == ("__debug__" : Str)) = false) (hdn : (xn == ("__debug__" : Str)) = false) (hds : (xs == ("__debug__" : Str)) = false)
    {s : Shared} (I : Addr) (oI : Obj) (C : Addr) (oC : Obj) (D : Addr) (m₂ : Str → Option Value) (zs : List Value) (h : Heap) (tk : Nat) (E' : Value → Shared → Prop) (S : List (Addr × Obj) → Prop) (REST : List Value → List (Addr × Obj) → Prop) (tkn : Tok)
    (hC : LCg.NsObj oC m₂) (h1 : m₂ xn = some (.str q.1 tkn)) (h2 : m₂ xv = some q.2) (F : Fr h₀ L h m) (N : News h₀ L h ((I, oI) :: (C, oC) :: (D, LCg.lst zs) :: news)) (off : LCg.Off3 I C D news) (hS : S news)
    (hrest : ∀ t, REST (zs ++ [.str (piece q) t]) news) :
    wpAny (model prog w) A (eval (.BinOp (.BinOp (.Call (.Name xs p1) [.Name xv p2] [] p3) .Add (.Constant (.str (Str.ofString " ")) kc p4) p5) .Add (.Name xn p6) p7) (compEnvC scope cl C env))
      (LCg.CompEnd h₀ L m { s with heap := h, toks := tk } I oI C oC D (LCg.lst zs) S (fun y news' => REST (zs ++ [y]) news')) E' { s with heap := h, toks := tk } := by
  obtain ⟨i, t, e, hi, hk⟩ := hq
  have memC : (C, oC) ∈ (I, oI) :: (C, oC) :: (D, LCg.lst zs) :: news := .tail _ (.head _)
  have hl := text_len hi
  refine wpAny_BinOp (wpAny_BinOp (Call_ (LCgL.ld_built (s := { s with heap := h, toks := tk }) F X T hs hsb hsn ?_ hg hb (hkind C) (hks C) hds)))
  refine PyProof.Rows.callWith_type1 (PyProof.Rows.spliced_more (LCgL.ld_own (s := { s with heap := h, toks := tk }) N memC hC h2 (PyProof.Rows.spliced_none ?_) (hkind C) (hkv C) hdv))
  rw [e]
  refine P.str_of_int (log_small hi) ?_
  refine wpAny_Constant_str ?_
  refine PyProof.Rows.add_str (fun t' tk' => ?_) (by rw [blank_len, sizeLine_eq]; omega)
  refine LCgL.ld_own (s := { s with heap := h, toks := tk' }) N memC hC h1 ?_ (hkind C) (hkn C) hdn
  refine PyProof.Rows.add_str (fun t'' tk'' => ?_) (by rw [strLen_append, blank_len, sizeLine_eq]; omega)
  refine ⟨h, tk'', news, rfl, F, N, off, hS, ?_⟩
  have := hrest t''
  unfold piece at this
  rw [e] at this
  exact this

theorem said_rest {prog : Program} {w : World} {K : Frag} {A : Around} {h₀ : Heap} {L : Addr} {m mg mb : Str → Option Value} {p : Program} {loose : List Str} {mean : ExcName → Option Value} {env : Env} {xs xv xn : Str} {p1 p2 p3 p4 p5 p6 p7 : Pos} {kc : Nat} {scope : Scope} {cl : List (Str × Addr)}
    {news tups : List (Addr × Obj)} {prs : List (Str × Value)} {ys : List Value} {s : Shared} {S : List (Addr × Obj) → Prop} {Fin : List Value → List (Addr × Obj) → Prop}
    (X : K.In h₀) (T : Top p loose mean mg mb h₀) (hs : nsIn K mainGlobals xs = some none) (hsb : bootBuiltins xs = some (.type "str")) (hsn : xs ≠ "__name__") (htell : ∀ q ∈ prs, Tellable q)
    (hg : env.globals = mainGlobals) (hb : env.builtins = builtinsNs) (hkind : ∀ C, (compEnvC scope cl C env).scope.kind = .function) (hkv : ∀ C, (compEnvC scope cl C env).kindOf xv = some .local) (hkn : ∀ C, (compEnvC scope cl C env).kindOf xn = some .local) (hks : ∀ C, (compEnvC scope cl C env).kindOf xs = some .globalImplicit)
    (hdv : (xv == ("__debug__" : Str)) = false) (hdn : (xn == ("__debug__" : Str)) = false) (hds : (xs == ("__debug__" : Str)) = false)
    (hp : PairsIn tups ys prs) (hsub : ∀ q ∈ tups, q ∈ news) (hS : S news)
    (fin : ∀ l : List (Str × Tok), l.map (·.1) = prs.map piece → Fin (strValues l) news) :
    LCp.CompRestP prog w A h₀ L m env (.BinOp (.BinOp (.Call (.Name xs p1) [.Name xv p2] [] p3) .Add (.Constant (.str (Str.ofString " ")) kc p4) p5) .Add (.Name xn p6) p7) xn xv scope cl s S (fun i v => ys.toArray[i]? = some v) Fin ys.toArray.size 0 [] news := by
  have hlen := hp.length
  have key : ∀ (j i : Nat) (l : List (Str × Tok)), i + j = ys.length → l.map (·.1) = (prs.take i).map piece →
      LCp.CompRestP prog w A h₀ L m env (.BinOp (.BinOp (.Call (.Name xs p1) [.Name xv p2] [] p3) .Add (.Constant (.str (Str.ofString " ")) kc p4) p5) .Add (.Name xn p6) p7) xn xv scope cl s S (fun i v => ys.toArray[i]? = some v) Fin j i (strValues l) news := by
    intro j
    induction j with
    | zero =>
      intro i l hi hl
      rw [List.take_of_length_le (by omega)] at hl
      exact LCp.CompRestP.zero (fin l hl)
    | succ j ih =>
      intro i l hi hl
      refine LCp.CompRestP.succ ?_
      intro u hu
      have hlt : i < prs.length := by omega
      obtain ⟨q, hq⟩ : ∃ q, prs[i]? = some q := ⟨prs[i], List.getElem?_eq_getElem hlt⟩
      obtain ⟨Ti, tkq, n, hy, hm⟩ := hp.at i q hq
      have hu' : ys[i]? = some u := by simpa using hu
      rw [hu'] at hy
      cases hy
      refine ⟨Ti, _, _, _, n, rfl, hsub _ hm, rfl, rfl, ?_⟩
      intro I oI C oC D m₂ h tk E' hC h1 h2 F N off ne
      refine said_elt X T hs hsb hsn (htell q (List.mem_of_getElem? hq)) hg hb hkind hkv hkn hks hdv hdn hds I oI C oC D m₂ (strValues l) h tk E' S
        (fun zs news' => LCp.CompRestP prog w A h₀ L m env _ xn xv scope cl s S (fun i v => ys.toArray[i]? = some v) Fin j (i + 1) zs news') tkq hC h1 h2 F N off hS fun t => ?_
      have e : strValues l ++ [.str (piece q) t] = strValues (l ++ [(piece q, t)]) := by simp [strValues]
      rw [e]
      refine ih (i + 1) (l ++ [(piece q, t)]) (by omega) ?_
      rw [List.take_add_one, hq, List.map_append, hl]
      simp
  rw [List.size_toArray]
  exact key ys.length 0 [] (by omega) rfl
end Mine
end

section
open PySem PySem.W PyProof.Rows PySem.Calls PySem.Spec
set_option maxRecDepth 100000
set_option maxHeartbeats 1000000
namespace Mine
local macro_rules | `(tactic| k_mem) => `(tactic| assumption)
local macro_rules | `(tactic| ktr_enter) => `(tactic| (
  have hT : PySem.Challenge.rw_eg5034_01.Holds → Mine.hd.heap_39 = Mine.hd.heap_39 := fun _ => rfl
  revert hT
  k_fill
  intro _
  k_dflt (refine' code_def ?k1 ?k2 ?k3 ?k4 ?k5 ?kA ?kF ?kK ?k6 ?k7 ?k8 ?k9 ?kB ?_ ?c2 ?c3 ?c4 ?c5; (case kA => exact rfl); (case kF => assumption); (case kK => assumption); (case k1 => k_asm); (case k2 => k_asm); (case k3 => k_asm); (case k4 => k_asm); (case k5 => k_asm); (case k6 => k_is); (case k7 => k_is); (case k8 => exact Nat.lt_of_lt_of_le (Nat.lt_succ_self _) (Nat.le_of_ble_eq_true rfl)); (case k9 => exact BindsTo.of_eq rfl); (case c5 => decide); (case kB => exact locs rfl); (case c2 => exact rfl); (case c3 => exact rfl); (case c4 => exact rfl); k_whole; intro g' L' h' FG' F' N' B' X' T'; (try dsimp only); (try k_fold))))
local macro_rules | `(tactic| walk_at "call ref") => `(tactic| (k_here; (with_reducible show wpAny _ _ (call (Value.ref 222) _) _ _ _); refine wpAny_call ?_; k_dflt (refine' pairs_con (v := _) ?k1 ?k2 ?k3 ?k4 ?k5 rfl rfl rfl rfl ?k6 ?k7 ?k8 ?_; (case k1 => k_asm); (case k2 => k_asm); (case k3 => k_asm); (case k4 => k_asm); (case k5 => k_asm); (case k6 => exact Nat.le_of_ble_eq_true rfl); (case k7 => exact Nat.le_of_ble_eq_true rfl); (case k8 => k_mem); k_whole); intro D' ys' tups' h' tk' F' N' hp'; (try dsimp only)))
local macro_rules | `(tactic| walk_at "eval ListComp") => `(tactic| (k_here; k_dflt (refine LCp.ListComp_P (F₀ := by k_asm) (by with_unfolding_all rfl) (by decide) (by rfl) (by decide) (by rfl) (by rfl) (by decide) ?_)))

theorem said_ok {v : Nat → Value} (ov : ∀ i, OV (v i)) : JoinOk (Str.ofString " ") ((kept (prsOf v)).map piece) = true := by
  have hw : ∀ kvs : List (Str × Value), (∀ p ∈ kvs, Tellable p) → ((kvs.map piece).map (·.length)).sum ≤ 142 * kvs.length := by
    intro kvs
    induction kvs with
    | nil => intro _; simp
    | cons p r ih =>
      intro hp
      have h1 := piece_len (hp p List.mem_cons_self)
      have h2 := ih fun q hq => hp q (List.mem_cons_of_mem _ hq)
      simp only [List.map_cons, List.sum_cons, List.length_cons]
      omega
  have h := hw _ (kept_tell ov)
  have h2 := kept_len v
  refine joinOk_of_weight ?_ (by rw [blank_len]; decide)
  rw [List.length_map]
  omega

section
variable {prog : Program} {w : World} {loose : List Str} {mean : ExcName → Option Value} {mg mb m : Str → Option Value} {A A₀ : Around} {base h₀ : Heap} {outer : List Env} {env : Env} {L : Addr} {s : Shared} {R : Result → Shared → Prop}
    {news : List (Addr × Obj)} {lv : Addr} {v : Nat → Value} {nl : Nat}
theorem said_con 
    (B : Below A₀ base outer h₀) (F : Fr h₀ L s.heap m) (X : (Mine.hd.heap_39 w.params).In h₀) (N : News h₀ L s.heap news) (T : Top topProg loose mean mg mb h₀)
    (hA : A.handled = none) (hfr : A.frames = some (env :: outer)) (hf : env.frame = some L) (hke : env.scope.kind = .function) (hd : A.depth ≤ 600) (hu : A.units ≤ 3000)
    (hl : (lv, listOf (vals v).toArray nl) ∈ news) (ov : ∀ i, OV (v i))
    (ret : ∀ t h' tk', Fr h₀ L h' m → News h₀ L h' news → R (.ok (.ret (.str (said v) t))) { s with heap := h', toks := tk' }) :
    codeAny (model prog w) A (.call (.ref 227) ⟨[.ref lv], []⟩) R s := by
  refine code_at (d := 600) (u := 3000) ?_ hA hd hfr hu
  ktr_enter
  k_steps
  rename PairsIn _ _ _ => hp9
  rename Frag.In _ _ => Xg
  rename Top _ _ _ _ _ _ => Tg
  rename Fr _ _ _ _ => Fg
  rename News _ _ _ _ => Ng
  have hpl := hp9.length
  have hkl := kept_len v
  refine LCp.SrcLP.ledger (by rfl) Fg Ng (.head _) (by rw [List.size_toArray, sizeLine_eq]; omega) ?_
  intro g9
  refine said_rest (K := Mine.hd.heap_39 w.params) Xg Tg (by k_is) rfl (by decide) (kept_tell ov) rfl rfl (fun _ => rfl) (fun _ => rfl) (fun _ => rfl) (fun _ => rfl) (by decide) (by decide) (by decide) hp9 (fun q hq => .tail _ (List.mem_append_left _ hq)) ?_ ?_
  · exact .inr ⟨_, .head _, rfl, _, rfl⟩
  · intro l hl'
    k_steps
    rename News _ _ _ _ => Nj
    refine SC.join (l := l) (texts := (kept (prsOf v)).map piece) ⟨_, (Nj _ (.head _)).1, rfl, _, rfl⟩ hl' (said_ok ov) ?_
    intro t' k'
    skip
    k_steps
    skip
    rename Fr _ _ _ _ => kF
    rename News _ _ _ _ => kN
    exact ret t' _ _ kF (cb_drop kN fun q hq => .tail _ (.tail _ (List.mem_append_right _ hq)))
end
end Mine
end

section
open PySem PySem.W PyProof.Rows PySem.Calls PySem.Spec
set_option maxRecDepth 100000
set_option maxHeartbeats 1000000
namespace Mine
theorem kdx_ledger {prog : Program} {w : World} {h : Heap} : ∀ (as : List Addr) (kvs : List (Str × Value)), as.length = kvs.length →
    (∀ (j : Nat) (a : Addr), as[j]? = some a → ∃ key k x, kvs[j]? = some (k, x) ∧ (strKind prog w).is k key = true ∧ h.get? a = some { cls := .type "tuple", data := .seq #[key, x] }) →
    ∃ tups : List (Addr × Obj), PairsIn tups (as.map Value.ref) kvs ∧ ∀ q ∈ tups, h.get? q.1 = some q.2 ∧ q.1 ∈ as
  | [], [], _, _ => ⟨[], trivial, fun q hq => nomatch hq⟩
  | [], _ :: _, hl, _ => by simp at hl
  | _ :: _, [], hl, _ => by simp at hl
  | a :: as, p :: kvs, hl, hp => by
    obtain ⟨tups, h1, h2⟩ := kdx_ledger (prog := prog) (w := w) (h := h) as kvs (by simpa using hl) fun j b hb => by simpa using hp (j + 1) b (by simpa using hb)
    obtain ⟨key, k, x, e1, e2, e3⟩ := hp 0 a rfl
    obtain ⟨tk, rfl⟩ := Value.isStrOf_shape e2
    have e1' : p = (k, x) := by simpa using e1
    subst e1'
    refine ⟨(a, { cls := .type "tuple", data := .seq #[.str k tk, x] }) :: tups, ⟨⟨a, tk, _, rfl, .head _⟩, h1.mono fun q hq => .tail _ hq⟩, fun q hq => ?_⟩
    rcases List.mem_cons.mp hq with rfl | hq
    · exact ⟨e3, .head _⟩
    · exact ⟨(h2 q hq).1, .tail _ (h2 q hq).2⟩
section
variable {prog : Program} {w : World} {A : Around} {s : Shared} {h₀ : Heap} {L v d : Addr} {m : Str → Option Value} {news : List (Addr × Obj)} {od : Obj} {kvs : List (Str × Value)} {Q : Value → Shared → Prop} {E : Value → Shared → Prop}
theorem items_list (F : Fr h₀ L s.heap m) (N : News h₀ L s.heap news) (hh : A.handled = none) (hvw : (v, { cls := .type "dict_items", data := .fields #[.ref d] }) ∈ news) (hmd : (d, od) ∈ news) (hod : od.IsDictOf (strKind prog w) kvs) (hn : kvs.length ≤ 16777216)
    (h : ∀ B ys tups c h' tk, Fr h₀ L h' m → News h₀ L h' ((B, listOf (List.toArray ys) c) :: (tups ++ news)) → PairsIn tups ys kvs → (∀ q ∈ tups, s.heap.objs.size ≤ q.1) → B = s.heap.objs.size → Q (.ref B) { s with heap := h', toks := tk }) :
    wpAny (model prog w) A (call (.type "list") [.ref v]) Q E s := by
  obtain ⟨ep, hat⟩ := KdkAt.of hod
  refine kdx_call (knd := strKind prog w) (kvs := kvs) (ep := ep) hh ⟨_, (N _ hvw).1, rfl, rfl⟩ (hat.dictAt (N _ hmd).1) (kdl_size hn) fun h' tk acc c as hk hS hl hG hacc => ?_
  obtain ⟨tups, h1, h2⟩ := kdx_ledger (prog := prog) (w := w) (h := h') as kvs hl hG.pairs
  have ea : acc = (as.map Value.ref).toArray := by rw [← hacc, Array.toArray_toList]
  refine h s.heap.objs.size (as.map .ref) tups c h' tk (F.keeps hk) (fun q hq => ?_) h1 (fun q hq => Nat.le_of_lt (hG.above _ (h2 q hq).2)) rfl
  rcases List.mem_cons.mp hq with rfl | hq
  · exact ⟨by rw [← ea]; exact hS, kdx_fresh F (Nat.le_refl _)⟩
  · rcases List.mem_append.mp hq with hq | hq
    · exact ⟨(h2 q hq).1, kdx_fresh F (Nat.le_of_lt (hG.above _ (h2 q hq).2))⟩
    · exact ⟨hk _ _ (N q hq).1, (N q hq).2⟩
end
def datV : Value → Dat
  | .int i _ => .int i
  | _ => .none
def pairD (p : Str × Value) : Dat := .tuple [.str p.1, datV p.2]
theorem datV_in {news : List (Addr × Obj)} {x : Value} (h : OV x) : DatIn news x (datV x) := by
  rcases h with e | ⟨i, t, e, _⟩
  · subst e; exact .none
  · subst e; exact .int i t
theorem datV_ok {x : Value} (h : OV x) (n : Nat) : kqdOk n (datV x) = true := by
  rcases h with e | ⟨i, t, e, _⟩
  · subst e; cases n <;> rfl
  · subst e; cases n <;> rfl
theorem pairs_dat {news : List (Addr × Obj)} : ∀ {vs : List Value} {ps : List (Str × Value)}, PairsIn news vs ps → (∀ p ∈ ps, OV p.2) → DatAll news vs (ps.map pairD)
  | [], [], _, _ => .nil
  | v :: vs, p :: ps, h, ho => by
    obtain ⟨⟨Ti, tk, n, e, hm⟩, h'⟩ := h
    subst e
    exact .cons (.tuple (vs := [_, _]) hm (.cons (.str _ _) (.cons (datV_in (ho p (.head _))) .nil))) (pairs_dat h' fun q hq => ho q (.tail _ hq))
  | [], _ :: _, h, _ => h.elim
  | _ :: _, [], h, _ => h.elim
theorem vals_dat {news : List (Addr × Obj)} : ∀ {vs : List Value}, (∀ x ∈ vs, OV x) → DatAll news vs (vs.map datV)
  | [], _ => .nil
  | x :: vs, h => .cons (datV_in (h x (.head _))) (vals_dat fun y hy => h y (.tail _ hy))
theorem fnames_ok : ∀ x ∈ fnames, PyData.strOk x = true := by decide +kernel
theorem kept_dat_ok {v : Nat → Value} (ov : ∀ i, OV (v i)) : ∀ d ∈ (kept (prsOf v)).map pairD, kqdOk 8 d = true := by
  intro d hd
  obtain ⟨p, hp, rfl⟩ := List.mem_map.mp hd
  obtain ⟨h1, h2⟩ := prs_mem ov p (List.mem_filter.mp hp).1
  show (([.str p.1, datV p.2] : List Dat).all (kqdOk 7)) = true
  simp only [List.all_cons, List.all_nil, Bool.and_true, Bool.and_eq_true]
  exact ⟨fnames_ok _ h2, datV_ok h1 7⟩
theorem kept_ov {v : Nat → Value} (ov : ∀ i, OV (v i)) : ∀ p ∈ kept (prsOf v), OV p.2 := fun p hp => (prs_mem ov p (List.mem_filter.mp hp).1).1
theorem vals_mem {v : Nat → Value} (ov : ∀ i, OV (v i)) : ∀ x ∈ vals v, OV x := by
  intro x hx
  simp only [vals, List.mem_cons, List.not_mem_nil, or_false] at hx
  rcases hx with rfl | rfl | rfl | rfl | rfl | rfl | rfl | rfl | rfl | rfl | rfl <;> exact ov _
theorem vals_dat_ok {v : Nat → Value} (ov : ∀ i, OV (v i)) : ∀ d ∈ (vals v).map datV, kqdOk 8 d = true := by
  intro d hd
  obtain ⟨x, hx, rfl⟩ := List.mem_map.mp hd
  exact datV_ok (vals_mem ov x hx) 8
def Same9 (v u : Nat → Value) : Prop := ∀ i, datV (v i) = datV (u i)
theorem ov_same {x y : Value} (hx : OV x) (hy : OV y) (h : datV x = datV y) : (x = .none ∧ y = .none) ∨ ∃ i t t', x = .int i t ∧ y = .int i t' := by
  rcases hx with rfl | ⟨i, t, rfl, _⟩ <;> rcases hy with rfl | ⟨j, t', rfl, _⟩
  · exact .inl ⟨rfl, rfl⟩
  · cases h
  · cases h
  · simp only [datV, Dat.int.injEq] at h
    subst h
    exact .inr ⟨_, _, _, rfl, rfl⟩
abbrev ixs : List (Str × Nat) := fnames.zip [0, 1, 2, 3, 4, 5, 6, 7, 8, 9, 10]
theorem prs_ixs (v : Nat → Value) : prsOf v = ixs.map fun p => (p.1, v p.2) := rfl
theorem kept_two {β : Type} (f : Str × Value → β) {v u : Nat → Value} (ov : ∀ i, OV (v i)) (ou : ∀ i, OV (u i)) (h : Same9 v u) (hf : ∀ n i t t', f (n, .int i t) = f (n, .int i t')) : ∀ l : List (Str × Nat),
    (kept (l.map fun p => (p.1, v p.2))).map f = (kept (l.map fun p => (p.1, u p.2))).map f
  | [] => rfl
  | p :: l => by
    have ih := kept_two f ov ou h hf l
    unfold kept at ih ⊢
    simp only [List.map_cons, List.filter_cons]
    rcases ov_same (ov p.2) (ou p.2) (h p.2) with ⟨e1, e2⟩ | ⟨i, t, t', e1, e2⟩
    · rw [e1, e2]; simpa using ih
    · rw [e1, e2]; simpa [hf p.1 i t t'] using ih
theorem dat_same {v u : Nat → Value} (ov : ∀ i, OV (v i)) (ou : ∀ i, OV (u i)) (h : Same9 v u) : (kept (prsOf v)).map pairD = (kept (prsOf u)).map pairD := by
  rw [prs_ixs, prs_ixs]
  exact kept_two pairD ov ou h (fun _ _ _ _ => rfl) ixs
theorem said_same {v u : Nat → Value} (ov : ∀ i, OV (v i)) (ou : ∀ i, OV (u i)) (h : Same9 v u) : said u = said v := by
  unfold said
  rw [prs_ixs, prs_ixs, kept_two piece ov ou h (fun _ _ _ _ => rfl) ixs]
theorem vals_same {v u : Nat → Value} (h : Same9 v u) : (vals v).map datV = (vals u).map datV := by
  simp only [vals, List.map_cons, List.map_nil, h 0, h 1, h 2, h 3, h 4, h 5, h 6, h 7, h 8, h 9, h 10]
section
variable {prog : Program} {w : World} {A : Around} {s : Shared} {h₀ : Heap} {L a b : Addr} {m : Str → Option Value} {news n₁ n₂ : List (Addr × Obj)} {v u : Nat → Value} {Q : Value → Shared → Prop} {E : Value → Shared → Prop} {xs ys : List Value} {oa ob : Obj} {ka kb : Nat}
theorem ne_pairs (N : News h₀ L s.heap news) (ma : (a, oa) ∈ news) (ca : oa.cls = .type "list") (da : oa.data = .seq xs.toArray ka) (mb : (b, ob) ∈ news) (cb : ob.cls = .type "list") (db : ob.data = .seq ys.toArray kb)
    (pa : PairsIn n₁ xs (kept (prsOf v))) (pb : PairsIn n₂ ys (kept (prsOf u))) (sa : ∀ p ∈ n₁, p ∈ news) (sb : ∀ p ∈ n₂, p ∈ news) (ov : ∀ i, OV (v i)) (ou : ∀ i, OV (u i)) (hs : Same9 v u) (hu : A.units + 64 < cLine) (h : Q (.bool false) s) : wpAny (model prog w) A (compareOp .NotEq (.ref a) (.ref b)) Q E s := by
  classical
  refine kqd_ne N ma ca da (pairs_dat pa (kept_ov ov)) sa mb cb db (pairs_dat pb (kept_ov ou)) sb (kept_dat_ok ov) (kept_dat_ok ou) hu ?_
  rw [decide_eq_true (dat_same ov ou hs)]
  exact h
theorem ne_vals (N : News h₀ L s.heap news) (ma : (a, oa) ∈ news) (ca : oa.cls = .type "list") (da : oa.data = .seq (vals v).toArray ka) (mb : (b, ob) ∈ news) (cb : ob.cls = .type "list") (db : ob.data = .seq (vals u).toArray kb)
    (ov : ∀ i, OV (v i)) (ou : ∀ i, OV (u i)) (hs : Same9 v u) (hu : A.units + 64 < cLine) (h : Q (.bool false) s) : wpAny (model prog w) A (compareOp .NotEq (.ref a) (.ref b)) Q E s := by
  classical
  refine kqd_ne N ma ca da (vals_dat (vals_mem ov)) (fun p hp => hp) mb cb db (vals_dat (news := news) (vals_mem ou)) (fun p hp => hp) (vals_dat_ok ov) (vals_dat_ok ou) hu ?_
  rw [decide_eq_true (vals_same hs)]
  exact h
end
section
variable {prog : Program} {w : World} {A : Around} {s : Shared} {h₀ : Heap} {L d : Addr} {m : Str → Option Value} {news keep : List (Addr × Obj)} {od : Obj} {kvs : List (Str × Value)} {E : Value → Shared → Prop}
theorem set_keep {k : Str} {t : Tok} {x : Value} {Q : Unit → Shared → Prop} (F : Fr h₀ L s.heap m) (N : News h₀ L s.heap news) (hp : (d, od) ∈ news) (hd : od.IsDictOf (strKind prog w) kvs) (hsz : kvs.length ≤ 1000) (hne : ∀ q ∈ keep, q.1 < d) (hk : ∀ q ∈ keep, q ∈ news)
    (h : ∀ h' od' kvs' tk', Fr h₀ L h' m → News h₀ L h' ((d, od') :: keep) → od'.IsDictOf (strKind prog w) kvs' → kvs'.length ≤ 1001 → Q () { s with heap := h', toks := tk' }) : wpAny (model prog w) A (setItem (.ref d) (.str k t) x) Q E s := by
  refine kda_set (knd := strKind prog w) (k := k) (g := fun o' => (d, o') :: keep) F (cb_drop (news := (d, od) :: keep) N fun q hq => (List.mem_cons.mp hq).elim (fun e => e ▸ hp) (hk q)) (.head fun q hq => Nat.ne_of_lt (hne q hq)) hd (strKind_is _ _ _ _) (by rw [sizeLine_eq]; omega) ?_
  intro h' o' F' N' hd'
  exact h h' o' _ _ F' N' hd' (Nat.le_trans (stored_length_le _ _ _) (by omega))
theorem clear_keep {Q : Value → Shared → Prop} (F : Fr h₀ L s.heap m) (N : News h₀ L s.heap news) (hp : (d, od) ∈ news) (hd : od.IsDictOf (strKind prog w) kvs) (hsz : kvs.length ≤ 1001) (hne : ∀ q ∈ keep, q.1 < d) (hk : ∀ q ∈ keep, q ∈ news)
    (h : ∀ h', Fr h₀ L h' m → News h₀ L h' keep → Q .none { s with heap := h' }) : wpAny (model prog w) A (call (.builtin "dict.clear") [.ref d]) Q E s := by
  refine call_clear_madeIn (own := []) (knd := strKind prog w) (enc := PyData.str) (rest := keep) F (cb_drop (news := (d, od) :: keep) N fun q hq => (List.mem_cons.mp hq).elim (fun e => e ▸ hp) (hk q)) (fun _ h => nomatch h) (fun q hq => Nat.ne_of_lt (hne q hq)) hd (fun h' o' F' N' _ _ => ?_) (by rw [sizeLine_eq]; omega)
  exact h h' F' (cb_drop N' fun q hq => .tail _ hq)
end
section
variable {prog : Program} {w : World} {loose : List Str} {mean : ExcName → Option Value} {mg mb m : Str → Option Value} {A A₀ : Around} {base h₀ : Heap} {outer : List Env} {env : Env} {L : Addr} {s : Shared} {R : Result → Shared → Prop}
    {news rest : List (Addr × Obj)} {x dx : Addr} {hs : Nat → Int} {ts : Nat → Tok} {v : Nat → Value} {n : Nat} {ps : Array Value}
theorem str_con2
    (B : Below A₀ base outer h₀) (F : Fr h₀ L s.heap m) (X : (Mine.hd.heap_39 w.params).In h₀) (N : News h₀ L s.heap news) (T : Top topProg loose mean mg mb h₀)
    (hA : A.handled = none) (hfr : A.frames = some (env :: outer)) (hf : env.frame = some L) (hke : env.scope.kind = .function) (hd : A.depth ≤ 600) (hu : A.units ≤ 3000)
    (h95 : ∀ q ∈ rest, q.1 ≠ 95) (hsub : ∀ q ∈ rest, q ∈ news) (hP : (95, tabObj ps) ∈ news) (hgood : GoodTab gpos ps)
    (hx : (x, instObj 117 dx) ∈ rest) (hdx : (dx, dictOf (flds hs ts v) n) ∈ rest) (ov : ∀ i, OV (v i))
    (ret : ∀ t h' gs' tk' ps', Fr h₀ L h' m → News h₀ L h' ((95, tabObj ps') :: rest) → GoodTab gpos ps' → (AllBare s.gens → AllBare gs') → R (.ok (.ret (.str (said v) t))) { s with heap := h', gens := gs', toks := tk' }) :
    codeAny (model prog w) A (.call (.ref 100) ⟨[.ref x], []⟩) R s :=
  str_con B F X (cb_drop (news := (95, tabObj ps) :: rest) N fun q hq => (List.mem_cons.mp hq).elim (fun e => e ▸ hP) (hsub q)) T hA hfr hf hke hd hu (.tail _ hx) (.tail _ hdx) (.head _) hgood ov
    fun t h' gs' tk' ps' F' hN hg hb => ret t h' gs' tk' ps' F' (hN _ (.head h95)) hg hb
end
theorem weights : ∀ kvs : List (Str × Value), (∀ p ∈ kvs, Tellable p) → ((kvs.map piece).map (·.length)).sum ≤ 142 * kvs.length := by
  intro kvs
  induction kvs with
  | nil => intro _; simp
  | cons p r ih =>
    intro hp
    have h1 := piece_len (hp p List.mem_cons_self)
    have h2 := ih fun q hq => hp q (List.mem_cons_of_mem _ hq)
    simp only [List.map_cons, List.sum_cons, List.length_cons]
    omega
theorem said_len {v : Nat → Value} (ov : ∀ i, OV (v i)) : (said v).length ≤ 143000 := by
  have h := weights _ (kept_tell ov)
  have h2 := kept_len v
  have h3 := PySem.StrLaws.join_length_le (Str.ofString " ") ((kept (prsOf v)).map piece)
  have h4 : said v = Str.join (Str.ofString " ") ((kept (prsOf v)).map piece) := PySem.StrLaws.glued_eq_join _ _
  rw [h4]
  rw [blank_len, List.length_map] at h3
  omega
theorem len_open : (Str.ofString "<PGInterval ").length = 12 := by decide
theorem len_shut : (Str.ofString ">").length = 1 := by decide
theorem len_empty : Str.empty.length = 0 := by decide
end Mine
end

section
open PySem PySem.W PyProof.Rows PySem.Calls PySem.Spec Builtin Builtin.ObjectAttr Builtin.Getset_descriptor
set_option maxRecDepth 100000
set_option maxHeartbeats 1000000
namespace Mine
section
variable {prog : Program} {w : World} {A : Around} {E : Value → Shared → Prop} {s : Shared} {K : Frag} {R : Result → Shared → Prop} {C : Addr} {oC : Obj} {v : Value} {h₀ : Heap} {L : Addr} {m : Str → Option Value}
theorem kn_dga (d tp : Value) (C : Addr) : descrGetArgs ⟨[d, .ref C, tp], []⟩ = pure (d, some (.ref C), (if tp == .none then none else some tp)) := by kernel_rfl
theorem kn_get {tp : Value} (X : K.In s.heap) (ht : typeIn K (.ref C) = some (.type "type")) (hC : s.heap.get? C = some oC) (hv : oC.slots[2]? = some (some v)) (h : R (.ok (.ret v)) s) :
    codeAny (model prog w) A (.call (.builtin "getset_descriptor.__get__") ⟨[.builtin "type.__name__", .ref C, tp], []⟩) R s := by
  have L0 : Looks (model prog w) s.heap (typeOf (.ref C)) (.type "type") := looks_typeIn X ht
  obtain ⟨hh, g, dr, t, os⟩ := s
  have L1 : Looks (model prog w) hh (isSubtype (.type "type") (.type "type")) true := Looks.of_pure (by rw [isSubtype_type]; kernel_rfl)
  refine codeAny_call_builtin KF.slot_gs.plain KF.entry_gs (KF.slot_gs.check _ _ _ _ _ _ _ _ ktyn_type (KF.args_gs _ _ _) ?_)
  unfold Builtin.«getset_descriptor.__get__» descrGet
  rw [kn_dga]
  refine wpAny_bind (wpAny_pure ?_)
  unfold descrGetter descrCheckInstance descrNameAndClass isInstance
  simp only [ktyn_owner]
  repeat lk
  refine ⟨Code.quiet_builtin _ (by decide +kernel), codeAny_builtin ktyn_entry ?_⟩
  unfold Builtin.«type.__name__»
  dsimp only
  unfold keptObject slotAt
  refine wpAny_bind (wpAny_bind (wpAny_loadPart' hC (wpAny_pure ?_)))
  rw [hv]
  exact wpAny_pure h
theorem kn_attr {expr : Bool} {Q : Value → Shared → Prop} (F : Fr h₀ L s.heap m) (X₀ : K.In h₀) (ht : typeIn K (.ref C) = some (.type "type")) (hr : readsIn K C (.type "type") = true)
    (e : findCls K (.ref C) (.type "type") "__name__" = some (.get (.builtin "getset_descriptor.__get__") (.builtin "type.__name__") (.ref C) (.type "type"))) (hC : K.lookup C = some oC) (hv : oC.slots[2]? = some (some v)) (hh : handedIn v = true)
    (h : Q v { s with toks := s.toks + 1 }) : wpAny (model prog w) A (getAttr (.ref C) "__name__" expr) Q E s := by
  have X := X₀.keeps F.keep
  refine cls_bind X hr e (wpAny_call (kn_get (s := { s with toks := s.toks + 1 }) X ht (X _ _ hC) hv ?_))
  exact handed_on hh h
theorem item_missK {value slice : Expr} {a : Addr} {o : Obj} {es : Array DictEntry} {ep : Nat} {k : Str} {tk : Tok} {Q : Value → Shared → Prop} (hh : A.handled = none) (F : Fr h₀ L s.heap m) (X₀ : K.In h₀) (hK : K.lookup a = some o) (hc : o.cls = .type "dict") (hd : o.data = .dict es ep)
    (hall : (es.all fun e => isExactStrKey e.key) = true) (hnone : (es.findIdx? fun e => e.key.isStr k) = none) (lo : (a == sysModules) = false)
    (h : ∀ h' e, Heap.NewExc s.heap h' e "KeyError" → E (.ref e) { s with heap := h', toks := s.toks + 1 })
    (hs : subscripted slice false (.ref a) (.str k tk) = operate [.ref a, .str k tk] (getItem (.ref a) (.str k tk)) := by with_unfolding_all rfl) (hg : ∀ r, letTemporaryGo value (.ref a) r = pure () := by intro _; with_unfolding_all rfl) :
    wpAny (model prog w) A (subscriptTail value slice (.ref a) (.str k tk)) Q E s := by
  have ho := F.keep _ _ (X₀ _ _ hK)
  have T : s.TypeIs (.ref a) "dict" := ⟨o, ho, hc⟩
  refine subscriptTail_builtin T slot_dict_getitem.lookup ?_ hs hg
  unfold getItem
  try with_reducible refine wpAny_holding ?_
  refine wpAny_bind (wpAny_sequenceKey T (by decide) ?_)
  refine wpAny_bind (wpAny_callSpecial?_slot (name := Str.ofString "__getitem__") T slot_dict_getitem
    (wpAny_call_entry slot_dict_getitem T entry_dict_getitem ?_ (args_dict_getitem _ _)))
  show wpAny _ _ (dictGet a (.str k tk) >>= _) _ _ s
  refine wpAny_bind ?_
  unfold dictGet
  try with_reducible refine wpAny_holding ?_
  refine wpAny_bind (wpAny_pyHash_str (wpAny_bind (KTD.kt_dictFind_strs (s := { s with toks := s.toks + 1 }) ho hd hall ?_)))
  rw [hnone]
  refine wpAny_pure ?_
  show wpAny _ _ (Builtin.Dict.missed a (.str k tk) >>= _) _ _ _
  refine wpAny_bind (wpAny_missed_other lo ?_)
  refine wpAny_bind (wpAny_typeOf (s := { s with toks := s.toks + 1 }) T ?_)
  show wpAny _ _ (if (Value.type "dict" != Value.type "dict") = true then _ else _) _ _ _
  rw [if_neg (by decide)]
  exact wpAny_bind (wpAny_rule (wpAny_raise_newExc (A := A.in1) plainExc_KeyError hh h))
end
end Mine
end

section
open PySem PySem.W PyProof.Rows PySem.Calls PySem.Spec
set_option maxRecDepth 100000
set_option maxHeartbeats 1000000
namespace Mine
abbrev shade (h : Heap) (l : List Env) : Heap := hideAll h (l.filterMap (·.frame))
abbrev atHandlers (M : Model) (A : Around) (env : Env) (e : Addr) (hs : List ExceptHandler) (Q : Flow → Shared → Prop) (E : Value → Shared → Prop) (s : Shared) : Prop :=
  wpAny M A (noteFrame (.ref e) env) (fun _ s₂ => wpAny M A (setFlight (.ref e) none) (fun _ s₃ => wpAny M A (handleBy (.ref e) env hs) Q E s₃) E s₂) E s
section
variable {prog : Program} {w : World} {A₀ : Around} {E : Value → Shared → Prop} {s : Shared} {base g g₀ h h₄ : Heap} {outer : List Env} {L a e t : Addr} {m : Str → Option Value} {fn : Str} {sc : Scope} {cd tp : Value}
variable {b₀ : Stmt} {bs : List Stmt} {pos np : Pos} {hs : List ExceptHandler} {Q : Flow → Shared → Prop} {news : List (Addr × Obj)} {KF : Frag}
variable {p : Program} {loose : List Str} {mean : ExcName → Option Value} {mg mb : Str → Option Value}
theorem shade_keeps {l : List Env} {b : Addr} {o : Obj} (ho : h.get? b = some o) (out : b ∉ l.filterMap (·.frame)) : (shade h l).get? b = some o := hideAll_get _ ho out
theorem shade_new {l : List Env} {h' : Heap} {X : String} (nx : Heap.NewExc h h' e X) : (shade h l).get? e = none :=
  match q : (shade h l).get? e with
  | none => rfl
  | some _ => absurd ((of_hideAll _ q).symm.trans nx.new) (fun z => nomatch z)
theorem shade_news (N : News g L h news) (B : Below A₀ base outer g) : ∀ q ∈ news, (shade h (envOf fn sc L a cd :: outer)).get? q.1 = some q.2 := fun q hq => by
  obtain ⟨there, notL, fresh⟩ := N q hq
  refine shade_keeps there fun inside => ?_
  rcases kts_mem inside with isL | isO
  · exact notL isL
  · obtain ⟨-, o, ho, -⟩ := B.frames.mem isO
    exact nomatch ho.symm.trans fresh
theorem key_suite (F : Fr g L h m) (N : News g L h news) (B : Below A₀ base outer g) (XB : KF.In base) (TB : Top p loose mean mg mb base) (D : KtsDicts (outer.filterMap (·.frame)) g) (T0 : KtsTurn (outer.filterMap (·.frame)) g₀ g)
    (ex : nsIn KF mainGlobals "KeyError" = some none) (isFn : sc.kind = .function) (here : (envOf fn sc L a cd).kindOf "KeyError" = some .globalImplicit)
    (own : PassesOwnAt (model prog w) ((A₀.deeper (envOf fn sc L a cd)).mark (some (.ref e))) (A₀.deeper (envOf fn sc L a cd)) (envOf fn sc L a cd) E)
    (hold : Heap.HeldW (shade h (envOf fn sc L a cd :: outer)) (envOf fn sc L a cd :: outer) e (.type "KeyError") tp L s.heap) (up : h.UpToSlots s.heap)
    (k : ∀ h' g', KtsTurn (outer.filterMap (·.frame)) g₀ g' → Fr g' L h' m → News g' L h' news → Below A₀ base outer g' → KF.In g' → Top p loose mean mg mb g' → KtsDicts (outer.filterMap (·.frame)) g' →
      wpAny (model prog w) ((A₀.deeper (envOf fn sc L a cd)).mark (some (.ref e))) (execs (b₀ :: bs) (envOf fn sc L a cd)) Q E { s with heap := h' }) :
    wpAny (model prog w) (A₀.deeper (envOf fn sc L a cd)) (setFlight (.ref e) none) (fun _ s₃ =>
      wpAny (model prog w) (A₀.deeper (envOf fn sc L a cd)) (handleBy (.ref e) (envOf fn sc L a cd) (.ExceptHandler (some (.Name "KeyError" np)) none (b₀ :: bs) pos :: hs)) Q E s₃) E s := by
  have sh : ∀ b o, h.get? b = some o → b ∉ (envOf fn sc L a cd :: outer).filterMap (·.frame) → (shade h (envOf fn sc L a cd :: outer)).get? b = some o := fun _ _ => shade_keeps
  have ln := shade_news (fn := fn) (sc := sc) (a := a) (cd := cd) N B
  refine wpAny_landsW hold fun ha fly upA => ?_
  obtain ⟨ga, -, Fa, Ba⟩ := kts_ground B F sh fly.1 (up.trans upA)
  obtain ⟨oe, hoe, coe⟩ := fly.there
  refine wpAny_handleBy_builtin (X := "KeyError") (T := "KeyError") (b := true) kr_isExc_KeyError kr_notTuple_KeyError (by rw [isSubtype_type]; kernel_rfl)
    (name_B Fa (XB.keeps Ba.stays) (topRead_of (TB.keeps Ba.stays)) ex PyProof.Rows.Boot.«KeyError» (by decide +kernel) ⟨rfl, ⟨oe, hoe, coe⟩, ?_⟩ isFn here (by decide))
  refine lands_againW fly fun hz flz upZ => ?_
  obtain ⟨gz, Tz, Fz, Bz⟩ := kts_ground B F sh flz.1 ((up.trans upA).trans upZ)
  refine wpAny_passesOwnAt own (k hz gz (T0.trans Tz) Fz (fun q hq => ?_) Bz (XB.keeps Bz.stays) (TB.keeps Bz.stays) (D.turn Tz))
  exact ⟨flz.1 _ _ (ln q hq), (N q hq).2.1, Tz.none_ _ (N q hq).2.2⟩
theorem caught_key (nx : Heap.NewExc h s.heap e "KeyError") (F : Fr g L h m) (N : News g L h news) (B : Below A₀ base outer g) (XB : KF.In base) (TB : Top p loose mean mg mb base) (D : KtsDicts (outer.filterMap (·.frame)) g)
    (T0 : KtsTurn (outer.filterMap (·.frame)) g₀ g) (ex : nsIn KF mainGlobals "KeyError" = some none)
    (k : ∀ h' g', KtsTurn (outer.filterMap (·.frame)) g₀ g' → Fr g' L h' m → News g' L h' news → Below A₀ base outer g' → KF.In g' → Top p loose mean mg mb g' → KtsDicts (outer.filterMap (·.frame)) g' →
      wpAny (model prog w) ((A₀.deeper (envOf fn sc L a cd)).mark (some (.ref e))) (execs (b₀ :: bs) (envOf fn sc L a cd)) Q E { s with heap := h' })
    (isFn : sc.kind = .function := by rfl) (here : (envOf fn sc L a cd).kindOf "KeyError" = some .globalImplicit := by rfl)
    (own : PassesOwnAt (model prog w) ((A₀.deeper (envOf fn sc L a cd)).mark (some (.ref e))) (A₀.deeper (envOf fn sc L a cd)) (envOf fn sc L a cd) E := by passes_own) :
    atHandlers (model prog w) (A₀.deeper (envOf fn sc L a cd)) (envOf fn sc L a cd) e (.ExceptHandler (some (.Name "KeyError" np)) none (b₀ :: bs) pos :: hs) Q E s := by
  have B' := B.push (name := fn) (a := a) (cd := cd) F isFn
  have frs : s.heap.FunFrames (shade h (envOf fn sc L a cd :: outer)) (envOf fn sc L a cd :: outer) :=
    (funFrames_hide B'.frames fun env he b hb => List.mem_filterMap.mpr ⟨env, he, hb⟩).of_keeps fun b o hb _ => ⟨o, nx.keeps b o hb, rfl⟩
  obtain ⟨ob, tp, he, hcls, hd⟩ := nx.there
  show wpAny _ _ (noteFrame _ _) _ _ _
  unfold noteFrame
  dsimp only [envOf]
  refine wpAny_bind (wpAny_field he hd (x := .none) rfl ?_)
  rw [if_neg (by decide)]
  refine wpAny_entryW (a0 := tp) B'.stack frs rfl he (fun b o hb => nx.keeps b o (of_hideAll _ hb)) (shade_new nx) hd (by show 1 < 6; decide) rfl fun hn noted => ?_
  obtain ⟨n1, n2, n3, n4⟩ := noted
  exact key_suite (s := { s with heap := hn }) F N B XB TB D T0 ex isFn here own ⟨n1, shade_new nx, n2, hcls ▸ n3⟩ ((Heap.UpToSlots.of_keeps nx.keeps).trans n4) k
end
theorem below_as {A A' : Around} {base G : Heap} {outer : List Env} {env env' : Env} (B : Below A' base (env' :: outer) G) (fr : A.frames = some (env :: outer)) (f : env.frame = env'.frame) (k : env.scope = env'.scope) : Below A base (env :: outer) G := by
  refine ⟨fr, B.stays, ?_⟩
  obtain ⟨x, y, z⟩ := B.frames
  exact ⟨k ▸ x, f ▸ y, z⟩
theorem stays_turned {h₀ G g' : Heap} {L : Addr} (no : h₀.get? L = none) (st : h₀.StaysIn G) (T : KtsTurn [L] G g') : h₀.StaysIn g' := fun b o e => by
  refine T.other b o (st b o e) fun hb => ?_
  rw [List.mem_singleton.mp hb, no] at e
  exact nomatch e
section
variable {prog : Program} {w : World} {A₀ A : Around} {s : Shared} {base h₀ : Heap} {env : Env} {L : Addr} {m : Str → Option Value} {news : List (Addr × Obj)} {K : Frag} {p : Program} {loose : List Str} {mean : ExcName → Option Value} {mg mb : Str → Option Value}
variable {R : Result → Shared → Prop} {name qual : Str} {params : Arguments} {body : List Stmt} {scope : Scope} {dV kV doc pm cdv ct oc : Value} {an od : Option Addr} {osl : Array (Option Value)} {f : Addr} {args : Args} {binds : List (Str × Value)}
theorem call_one (B : Below A₀ base [] h₀) (F : Fr h₀ L s.heap m) (X₀ : K.In h₀) (N : News h₀ L s.heap news) (T : Top p loose mean mg mb h₀) (stack : A.frames = some [env]) (isL : env.frame = some L) (isFn : env.scope.kind = .function)
    (ho : K.lookup f = some ⟨oc, od, .func (fnOf name qual params body scope dV kV doc pm an cdv ct), osl⟩) (hcd : codeIn K cdv qual = true) (hroom : A.depth < recursionLimit)
    (hbind : BindsTo s (fnOf name qual params body scope dV kV doc pm an cdv ct) args binds) (hloc : ∀ y ∈ binds, scope.names.lookup y.1 = some .local)
    (walk : ∀ g L' h₁, Fr h₀ L g m → Fr g L' h₁ (fun y => binds.reverse.lookup y) → News g L' h₁ news → Below A base [env] g → K.In g → Top p loose mean mg mb g → KtsDicts ([env].filterMap (·.frame)) g →
      wpAny (model prog w) (A.deeper (envOf qual scope L' f cdv)) (execs body (envOf qual scope L' f cdv))
        (fun fl s' => LeaveS0 ([env].filterMap (·.frame)) h₀ L m g R (match fl with | .ret v => v | _ => .none) s')
        (fun e s' => wpAny (model prog w) (A.deeper (envOf qual scope L' f cdv)) (leaving (envOf qual scope L' f cdv) e) (fun _ s'' => R (.error e) s'') (fun e' s'' => R (.error e') s'') s')
        { s with heap := h₁, toks := s.toks + binds.length })
    (hco : scope.isCoroutine = false) (hgen : scope.isGenerator = false) (hk : scope.kind = .function) (hcell : ∀ x ∈ scope.names, x.2 ≠ .cell) : codeAny (model prog w) A (.call (.ref f) args) R s := by
  have XF := X₀.keeps F.keep
  have one : [env].filterMap (·.frame) = [L] := by rw [List.filterMap_cons, isL]; rfl
  rw [one] at walk
  obtain ⟨o, es, n, hoL, hdL, -, back, st, Bk⟩ := kts_enter (A := { A with frames := some [envOf Str.empty env.scope L 0 .none] }) (cn := Str.empty) (cs := env.scope) (a := 0) (ccd := .none) B F N rfl isFn
  refine codeAny_call_def (fd := fnOf name qual params body scope dV kV doc pm an cdv ct) (body := body) (binds := binds) hroom (XF _ _ ho) rfl (T.nolimit.keeps F.keep) (codeRec_of XF hcd) rfl hbind hcell hloc (fun h₁ ns keep => ?_) hco hgen hk
  have Fg : Fr h₀ L (hideAll s.heap (news.map (·.1))) m := ⟨back _ _ hoL, st, F.above⟩
  have F1 : Fr (hideAll s.heap (news.map (·.1))) s.heap.objs.size h₁ (fun y => binds.reverse.lookup y) := ⟨ns, fun b o e => keep b o (of_hideAll _ e), Nat.le_of_eq (hideAll_size _ _)⟩
  have N1 : News (hideAll s.heap (news.map (·.1))) s.heap.objs.size h₁ news := fun q hq => ⟨keep _ _ (N q hq).1, Nat.ne_of_lt (Heap.lt_size (N q hq).1), hideAll_none _ (List.mem_map_of_mem hq)⟩
  have D1 : KtsDicts [L] (hideAll s.heap (news.map (·.1))) := fun b hb => List.mem_singleton.mp hb ▸ ⟨o, es, n, hoL, hdL⟩
  refine wpAny_mono (walk _ _ h₁ Fg F1 N1 (below_as Bk stack isL rfl) (X₀.keeps st) (T.keeps st) D1) ?_ fun _ _ y => y
  rintro fl s' ⟨g', L', m', news', T', F', N', k⟩
  have under := stays_turned (kts_self F) st T'
  obtain ⟨sl, hsl⟩ := T'.up hoL
  refine k ⟨back sl _ (F'.keep _ _ hsl), fun b o e => F'.keep b o (under b o e), F.above⟩ fun q hq => ⟨(N' q hq).1, fun isq => ?_, kts_none under (N' q hq).2.2⟩
  exact nomatch ((isq ▸ (N' q hq).2.2 : g'.get? L = none).symm.trans hsl)
end
end Mine
end

section
open PySem PySem.W PyProof.Rows PySem.Calls PySem.Spec
set_option maxRecDepth 100000
set_option maxHeartbeats 1000000
namespace Mine
local macro_rules | `(tactic| k_handed) => `(tactic| (refine OV.handed ?_; (rename (∀ _, OV _) => hov9); exact hov9 _))
local macro_rules | `(tactic| k_mem) => `(tactic| first | assumption | exact .head _ | (refine .tail _ ?_; k_mem) | (refine List.mem_append_right _ ?_; k_mem))
local macro_rules | `(tactic| k_room) => `(tactic| exact Nat.lt_of_lt_of_le (Nat.lt_succ_self _) (Nat.le_of_ble_eq_true rfl))
local macro_rules | `(tactic| ktr_enter) => `(tactic| (
  have hT : PySem.Challenge.rw_eg5034_01.Holds → Mine.hd.heap_39 = Mine.hd.heap_39 := fun _ => rfl
  revert hT
  k_fill
  intro _
  k_dflt (refine' code_defS ?k1 ?k2 ?k3 ?k4 ?k5 ?XB ?TB ?D ?T0 ?kA ?k6 ?k7 ?k8 ?k9 ?kB ?_ ?cK ?c2 ?c3 ?c4 ?c5; (case kA => exact rfl); (case k2 => assumption); (case k1 => assumption); (case XB => assumption); (case TB => assumption); (case D => assumption); (case T0 => assumption); (case k3 => assumption); (case k4 => assumption); (case k5 => assumption); (case k6 => k_is); (case k7 => k_is); (case k8 => exact Nat.lt_of_lt_of_le (Nat.lt_succ_self _) (Nat.le_of_ble_eq_true rfl)); (case k9 => exact BindsTo.of_eq rfl); (case kB => exact locs rfl); (case cK => assumption); (case c2 => exact rfl); (case c3 => exact rfl); (case c4 => exact rfl); (case c5 => decide); k_whole; intro g' L' h' FG' F' N' B' X' T' D'; (try dsimp only); (try k_fold))))
local macro_rules | `(tactic| walk_at "call ref") => `(tactic| first
  | (k_here; (with_reducible show wpAny _ _ (call (Value.ref 227) _) _ _ _); refine wpAny_call ?_; k_dflt (refine' said_con (v := _) ?k1 ?k2 ?k3 ?k4 ?k5 rfl rfl rfl rfl ?k6 ?k7 ?k8 ?kO ?_; (case k2 => k_asm); (case k1 => k_asm); (case k3 => k_asm); (case k4 => k_asm); (case k5 => k_asm); (case k6 => exact Nat.le_of_ble_eq_true rfl); (case k7 => exact Nat.le_of_ble_eq_true rfl); (case k8 => k_mem); (case kO => assumption); k_whole); intro t' h' tk' F' N'; (try dsimp only))
  | (k_here; (with_reducible show wpAny _ _ (call (Value.ref 93) _) _ _ _); refine wpAny_call ?_; k_dflt (refine' vd_con ?k1 ?k2 ?k3 ?k4 ?k5 rfl rfl rfl rfl ?k6 ?k7 ?k8 ?k9 ?kO ?_; (case k2 => k_asm); (case k1 => k_asm); (case k3 => k_asm); (case k4 => k_asm); (case k5 => k_asm); (case k6 => exact Nat.le_of_ble_eq_true rfl); (case k7 => exact Nat.le_of_ble_eq_true rfl); (case k8 => k_mem); (case k9 => k_mem); (case kO => assumption); k_whole); intro D' od' h' tk' F' N' hd' hlt' hsys'; (try dsimp only))
  | (k_here; (with_reducible show wpAny _ _ (call (Value.ref 222) _) _ _ _); refine wpAny_call ?_; k_dflt (refine' pairs_con (v := _) ?k1 ?k2 ?k3 ?k4 ?k5 rfl rfl rfl rfl ?k6 ?k7 ?k8 ?_; (case k2 => k_asm); (case k1 => k_asm); (case k3 => k_asm); (case k4 => k_asm); (case k5 => k_asm); (case k6 => exact Nat.le_of_ble_eq_true rfl); (case k7 => exact Nat.le_of_ble_eq_true rfl); (case k8 => k_mem); k_whole); intro D' ys' tups' h' tk' F' N' hp'; (try dsimp only))
  | (k_here; (with_reducible show wpAny _ _ (call (Value.ref 100) _) _ _ _); refine wpAny_call ?_; k_dflt (refine' str_con2 ?k1 ?k2 ?k3 ?k4 ?k5 rfl rfl rfl rfl ?k6 ?k7 ?h95 ?hs ?hP ?hG ?k8 ?k9 ?kO ?_; (case k2 => k_asm); (case k1 => k_asm); (case k3 => k_asm); (case k4 => k_asm); (case k5 => k_asm); (case k6 => exact Nat.le_of_ble_eq_true rfl); (case k7 => exact Nat.le_of_ble_eq_true rfl); (case h95 => assumption); (case hs => first | assumption | (intro p hp; repeat (first | assumption | exact List.mem_append_left _ hp | apply List.mem_append_right | apply List.Mem.tail))); (case hP => k_mem); (case hG => assumption); (case k8 => assumption); (case k9 => assumption); (case kO => assumption); k_whole); intro t' h' gs' tk' ps' F' N' hg' hb'; (try dsimp only))
  | (k_here; (with_reducible show wpAny _ _ (call (Value.ref 217) _) _ _ _); refine wpAny_call ?_; k_dflt (refine' fields_con ?k1 ?k2 ?k3 ?k4 ?k5 rfl rfl rfl rfl ?k6 ?k7 ?k8 ?k9 ?kO ?_; (case k2 => k_asm); (case k1 => k_asm); (case k3 => k_asm); (case k4 => k_asm); (case k5 => k_asm); (case k6 => exact Nat.le_of_ble_eq_true rfl); (case k7 => exact Nat.le_of_ble_eq_true rfl); (case k8 => k_mem); (case k9 => k_mem); (case kO => assumption); k_whole); intro l' h' tk' F' N'; (try dsimp only)))
local macro_rules | `(tactic| walk_at "call type:list") => `(tactic| (k_here; (with_reducible show wpAny _ _ (call (Value.type "list") [Value.ref _]) _ _ _); k_dflt (refine items_list (by k_asm) (by k_asm) (by rfl) (by k_mem) (by k_mem) (by assumption) (Nat.le_trans (kept_len _) (Nat.le_of_ble_eq_true rfl)) ?_); intro B' ys' tups' c' h' tk' F' N' hp' ht' hB'; (try dsimp only)))
local macro_rules | `(tactic| walk_at "getMethod ref") => `(tactic| (k_here; (with_reducible show wpAny _ _ (getMethod (Value.ref _) (Str.ofString "items") _) _ _ _); k_dflt (refine kdl_method (knd := PySem.strKind _ _) PySem.F.slot_dict_items PySem.F.type_dict_items (by k_asm) (by k_mem) (by k_asm) ?_)))
local macro_rules | `(tactic| walk_at "call builtin:dict.items") => `(tactic| (k_here; (with_reducible show wpAny _ _ (call (Value.builtin "dict.items") [Value.ref _]) _ _ _); k_dflt (refine kdx_view (knd := PySem.strKind _ _) (by k_asm) (by k_asm) (by k_mem) (by k_asm) (by k_asm) ?_); intro D' h' F' N' l1))

local macro_rules | `(tactic| walk_at "compareOp NotEq ref ref") => `(tactic| (k_here; (with_reducible show wpAny _ _ (compareOp CmpOp.NotEq (Value.ref _) (Value.ref _)) _ _ _); k_dflt (first
  | refine ne_vals (by k_asm) (by k_mem) rfl rfl (by k_mem) rfl rfl (by assumption) (by exact Nat.le_of_ble_eq_true rfl) ?_
  | refine ne_pairs (by k_asm) (by k_mem) rfl rfl (by k_mem) rfl rfl (by assumption) (by assumption) (by first | assumption | (intro p hp; repeat (first | assumption | exact List.mem_append_left _ hp | apply List.mem_append_right | apply List.Mem.tail))) (by first | assumption | (intro p hp; repeat (first | assumption | exact List.mem_append_left _ hp | apply List.mem_append_right | apply List.Mem.tail))) (by assumption) (by exact Nat.le_of_ble_eq_true rfl) ?_)))
local macro_rules | `(tactic| walk_at "getMethod ref") => `(tactic| (k_here; (with_reducible show wpAny _ _ (getMethod (Value.ref _) (Str.ofString "clear") _) _ _ _); k_dflt (refine kdl_method (knd := PySem.strKind _ _) PySem.F.slot_dict_clear PySem.F.type_dict_clear (by k_asm) (by k_mem) (by k_asm) ?_)))
local macro_rules | `(tactic| walk_at "setItem ref str str") => `(tactic| (k_here; (with_reducible show wpAny _ _ (setItem (Value.ref _) (Value.str _ _) (Value.str _ _)) _ _ _); k_dflt (refine set_keep (by k_asm) (by k_asm) (by k_mem) (by assumption) (kept_len _) (by assumption) (by first | assumption | (intro p hp; repeat (first | assumption | exact List.mem_append_left _ hp | apply List.mem_append_right | apply List.Mem.tail))) ?_); intro h' od' kvs' tk' F' N' hd' hl'; (try dsimp only)))
local macro_rules | `(tactic| walk_at "call builtin:dict.clear") => `(tactic| (k_here; k_dflt (refine clear_keep (by k_asm) (by k_asm) (by k_mem) (by assumption) (by assumption) (by assumption) (by first | assumption | (intro p hp; repeat (first | assumption | exact List.mem_append_left _ hp | apply List.mem_append_right | apply List.Mem.tail))) ?_); intro h' F' N'; (try dsimp only)))
local macro_rules | `(tactic| walk_at "StrBack") => `(tactic| (k_here; dsimp only [StrBack]))
local macro_rules | `(tactic| walk_at "KfoBack") => `(tactic| (k_here; dsimp only [KfoBack]))
local macro_rules | `(tactic| size_fits) => `(tactic| ((rename (∀ _, OV _) => hov9); have hl9 := said_len hov9; (simp only [PySem.Str.length_append, len_open, len_shut, len_empty, sizeLine_eq]); omega))
local macro_rules | `(tactic| walk_at "le") => `(tactic| ((rename (∀ _, OV _) => hov9); have hl9 := said_len hov9; (simp only [PySem.Str.length_append, len_open, len_shut, len_empty, sizeLine_eq]); omega))
local macro_rules | `(tactic| walk_at "joinParts") => `(tactic| (k_here; (first | (with_reducible show wpAny _ _ (joinParts _ []) _ _ _) | (with_reducible show wpAny _ _ (joinParts _ (evalEach [] _)) _ _ _)); k_dflt (refine joinParts_nil ?_ (by ((rename (∀ _, OV _) => hov9); have hl9 := said_len hov9; (simp only [PySem.Str.length_append, len_open, len_shut, len_empty, sizeLine_eq]); omega)))))
local macro_rules | `(tactic| walk_at "compareOp Eq str str") => `(tactic| (k_here; refine eq_str ?_; simp only [PySem.Str.empty_append, beq_self_eq_true]))
local macro_rules | `(tactic| walk_at "getAttr") => `(tactic| (k_here; (with_reducible show wpAny _ _ (getAttr (Value.ref 117) (PySem.Str.ofString "__name__") _) _ _ _); k_dflt (refine' kn_attr (v := .str (PySem.Str.ofString "PGInterval") 196) ?F ?X ?t ?s ?e ?q ?z ?y ?_; (case F => k_asm); (case X => k_asm); (case t => k_is); (case s => k_is); (case e => k_is); (case q => k_is); (case z => rfl); (case y => rfl); k_whole)))
local macro_rules | `(tactic| walk_at "subscriptTail") => `(tactic| (k_here; (with_reducible show wpAny _ _ (subscriptTail _ _ (Value.ref 188) (Value.str _ _)) _ _ _); k_dflt (refine' item_missK ?q1 ?q2 ?q3 ?q4 ?q5 ?q6 ?q7 ?q8 ?q9 ?_; (case q1 => rfl); (case q2 => k_asm); (case q3 => k_asm); (case q4 => k_is); (case q5 => rfl); (case q6 => exact rfl); (case q7 => with_unfolding_all rfl); (case q8 => first | with_unfolding_all rfl | kernel_rfl); (case q9 => decide); k_whole); intro h' e' x'))
local macro_rules | `(tactic| walk_at "noteFrame ref") => `(tactic| (k_here; (rename Heap.NewExc _ _ _ _ => nxX); k_dflt (refine' caught_key nxX ?q1 ?q2 ?q3 ?q4 ?q5 ?q6 KtsTurn.refl ?q7 ?_; (case q1 => assumption); (case q2 => assumption); (case q3 => assumption); (case q4 => assumption); (case q5 => assumption); (case q6 => assumption); (case q7 => k_is); k_whole); clear nxX; intro h' g' kT' F' N' B' X' T' D'; (try dsimp only)))
section
variable {prog : Program} {w : World} {loose : List Str} {mean : ExcName → Option Value} {mg mb m : Str → Option Value} {A A₀ : Around} {base h₀ g₀ : Heap} {outer : List Env} {L a : Addr} {s : Shared} {R : Result → Shared → Prop} {cn : Str} {cs : Scope} {ccd : Value}
    {news rest : List (Addr × Obj)} {x dx : Addr} {hs : Nat → Int} {ts : Nat → Tok} {v : Nat → Value} {n nl : Nat} {ps : Array Value}
theorem mp_con 
    (B : Below A₀ base outer h₀) (F : Fr h₀ L s.heap m) (X : (Mine.hd.heap_39 w.params).In h₀) (N : News h₀ L s.heap news) (T : Top topProg loose mean mg mb h₀)
    (XB : (Mine.hd.heap_39 w.params).In base) (TB : Top topProg loose mean mg mb base) (D : KtsDicts (outer.filterMap (·.frame)) h₀) (T0 : KtsTurn (outer.filterMap (·.frame)) g₀ h₀)
    (hA : A.handled = none) (hfr : A.frames = some (envOf cn cs L a ccd :: outer)) (hck : cs.kind = .function) (hd : A.depth ≤ 500) (hu : A.units ≤ 2000)
    (h95 : ∀ q ∈ rest, q.1 ≠ 95) (hsub : ∀ q ∈ rest, q ∈ news) (hP : (95, tabObj ps) ∈ news) (hgood : GoodTab gpos ps) (hx : (x, instObj 117 dx) ∈ rest) (hdx : (dx, dictOf (flds hs ts v) n) ∈ rest) (ov : ∀ i, OV (v i))
    (ret : ∀ t h' gs' tk' ps' h₀', KtsTurn (outer.filterMap (·.frame)) g₀ h₀' → Fr h₀' L h' m → News h₀' L h' ((95, tabObj ps') :: rest) → Below A₀ base outer h₀' → (Mine.hd.heap_39 w.params).In h₀' → Top topProg loose mean mg mb h₀' → KtsDicts (outer.filterMap (·.frame)) h₀' →
      GoodTab gpos ps' → (AllBare s.gens → AllBare gs') → R (.ok (.ret (.str (said v) t))) { s with heap := h', gens := gs', toks := tk' }) :
    codeAny (model prog w) A (.call (.ref 195) ⟨[.ref 188, .ref x], []⟩) R s := by
  have hx' := hsub _ hx
  have hdx' := hsub _ hdx
  refine code_at (d := 500) (u := 2000) ?_ hA hd hfr hu
  ktr_enter
  k_steps
  rename Fr _ _ _ _ => kF
  rename News _ _ _ _ => kN
  rename KtsTurn _ _ _ => kT
  rename Below _ _ _ _ => kB
  rename Frag.In _ _ => kX
  rename Top _ _ _ _ _ _ => kP
  rename KtsDicts _ _ => kD
  rename GoodTab _ _ => kG
  rename (AllBare _ → AllBare _) => kA
  exact ret _ _ _ _ _ _ kT kF kN kB kX kP kD kG kA
end
end Mine
end

section
open PySem PySem.W PyProof.Rows PySem.Calls PySem.Spec
set_option maxRecDepth 100000
set_option maxHeartbeats 1000000
namespace Mine
local macro_rules | `(tactic| k_handed) => `(tactic| (refine OV.handed ?_; (rename (∀ _, OV _) => hov9); exact hov9 _))
local macro_rules | `(tactic| k_mem) => `(tactic| first | assumption | exact .head _ | (refine .tail _ ?_; k_mem) | (refine List.mem_append_right _ ?_; k_mem))
local macro_rules | `(tactic| k_room) => `(tactic| exact Nat.lt_of_lt_of_le (Nat.lt_succ_self _) (Nat.le_of_ble_eq_true rfl))
local macro_rules | `(tactic| ktr_enter) => `(tactic| (
  have hT : PySem.Challenge.rw_eg5034_01.Holds → Mine.hd.heap_39 = Mine.hd.heap_39 := fun _ => rfl
  revert hT
  k_fill
  intro _
  k_dflt (refine' call_one ?k1 ?k2 ?k3 ?k4 ?k5 ?kA ?kf9 ?kK9 ?k6 ?k7 ?k8 ?k9 ?kB ?_ ?c2 ?c3 ?c4 ?c5; (case kA => exact rfl); (case k2 => assumption); (case k1 => assumption); (case k3 => assumption); (case k4 => assumption); (case k5 => assumption); (case k6 => k_is); (case k7 => k_is); (case k8 => exact Nat.lt_of_lt_of_le (Nat.lt_succ_self _) (Nat.le_of_ble_eq_true rfl)); (case k9 => exact BindsTo.of_eq rfl); (case kB => exact locs rfl); (case kf9 => assumption); (case kK9 => assumption); (case c2 => exact rfl); (case c3 => exact rfl); (case c4 => exact rfl); (case c5 => decide); k_whole; intro g' L' h' FG' F' N' B' X' T' D'; (try dsimp only); (try k_fold))))
local macro_rules | `(tactic| walk_at "call ref") => `(tactic| first
  | (k_here; (with_reducible show wpAny _ _ (call (Value.ref 227) _) _ _ _); refine wpAny_call ?_; k_dflt (refine' said_con (v := _) ?k1 ?k2 ?k3 ?k4 ?k5 rfl rfl rfl rfl ?k6 ?k7 ?k8 ?kO ?_; (case k2 => k_asm); (case k1 => k_asm); (case k3 => k_asm); (case k4 => k_asm); (case k5 => k_asm); (case k6 => exact Nat.le_of_ble_eq_true rfl); (case k7 => exact Nat.le_of_ble_eq_true rfl); (case k8 => k_mem); (case kO => assumption); k_whole); intro t' h' tk' F' N'; (try dsimp only))
  | (k_here; (with_reducible show wpAny _ _ (call (Value.ref 93) _) _ _ _); refine wpAny_call ?_; k_dflt (refine' vd_con ?k1 ?k2 ?k3 ?k4 ?k5 rfl rfl rfl rfl ?k6 ?k7 ?k8 ?k9 ?kO ?_; (case k2 => k_asm); (case k1 => k_asm); (case k3 => k_asm); (case k4 => k_asm); (case k5 => k_asm); (case k6 => exact Nat.le_of_ble_eq_true rfl); (case k7 => exact Nat.le_of_ble_eq_true rfl); (case k8 => k_mem); (case k9 => k_mem); (case kO => assumption); k_whole); intro D' od' h' tk' F' N' hd' hlt' hsys'; (try dsimp only))
  | (k_here; (with_reducible show wpAny _ _ (call (Value.ref 222) _) _ _ _); refine wpAny_call ?_; k_dflt (refine' pairs_con (v := _) ?k1 ?k2 ?k3 ?k4 ?k5 rfl rfl rfl rfl ?k6 ?k7 ?k8 ?_; (case k2 => k_asm); (case k1 => k_asm); (case k3 => k_asm); (case k4 => k_asm); (case k5 => k_asm); (case k6 => exact Nat.le_of_ble_eq_true rfl); (case k7 => exact Nat.le_of_ble_eq_true rfl); (case k8 => k_mem); k_whole); intro D' ys' tups' h' tk' F' N' hp'; (try dsimp only))
  | (k_here; (with_reducible show wpAny _ _ (call (Value.ref 100) _) _ _ _); refine wpAny_call ?_; k_dflt (refine' str_con2 ?k1 ?k2 ?k3 ?k4 ?k5 rfl rfl rfl rfl ?k6 ?k7 ?h95 ?hs ?hP ?hG ?k8 ?k9 ?kO ?_; (case k2 => k_asm); (case k1 => k_asm); (case k3 => k_asm); (case k4 => k_asm); (case k5 => k_asm); (case k6 => exact Nat.le_of_ble_eq_true rfl); (case k7 => exact Nat.le_of_ble_eq_true rfl); (case h95 => assumption); (case hs => first | assumption | (intro p hp; repeat (first | assumption | exact List.mem_append_left _ hp | apply List.mem_append_right | apply List.Mem.tail))); (case hP => k_mem); (case hG => assumption); (case k8 => assumption); (case k9 => assumption); (case kO => assumption); k_whole); intro t' h' gs' tk' ps' F' N' hg' hb'; (try dsimp only))
  | (k_here; (with_reducible show wpAny _ _ (call (Value.ref 195) _) _ _ _); refine wpAny_call ?_; k_dflt (refine' mp_con ?k1 ?k2 ?k3 ?k4 ?k5 ?XB ?TB ?D KtsTurn.refl rfl rfl rfl ?k6 ?k7 ?h95 ?hs ?hP ?hG ?k8 ?k9 ?kO ?_; (case k2 => k_asm); (case k1 => k_asm); (case k3 => k_asm); (case k4 => k_asm); (case k5 => k_asm); (case XB => assumption); (case TB => assumption); (case D => assumption); (case k6 => exact Nat.le_of_ble_eq_true rfl); (case k7 => exact Nat.le_of_ble_eq_true rfl); (case h95 => assumption); (case hs => first | assumption | (intro p hp; repeat (first | assumption | exact List.mem_append_left _ hp | apply List.mem_append_right | apply List.Mem.tail))); (case hP => k_mem); (case hG => assumption); (case k8 => assumption); (case k9 => assumption); (case kO => assumption); k_whole); intro t' h' gs' tk' ps' g' kT' F' N' B' X' T' D' hg' hb'; (try dsimp only))
  | (k_here; (with_reducible show wpAny _ _ (call (Value.ref 217) _) _ _ _); refine wpAny_call ?_; k_dflt (refine' fields_con ?k1 ?k2 ?k3 ?k4 ?k5 rfl rfl rfl rfl ?k6 ?k7 ?k8 ?k9 ?kO ?_; (case k2 => k_asm); (case k1 => k_asm); (case k3 => k_asm); (case k4 => k_asm); (case k5 => k_asm); (case k6 => exact Nat.le_of_ble_eq_true rfl); (case k7 => exact Nat.le_of_ble_eq_true rfl); (case k8 => k_mem); (case k9 => k_mem); (case kO => assumption); k_whole); intro l' h' tk' F' N'; (try dsimp only)))
local macro_rules | `(tactic| walk_at "call type:list") => `(tactic| (k_here; (with_reducible show wpAny _ _ (call (Value.type "list") [Value.ref _]) _ _ _); k_dflt (refine items_list (by k_asm) (by k_asm) (by rfl) (by k_mem) (by k_mem) (by assumption) (Nat.le_trans (kept_len _) (Nat.le_of_ble_eq_true rfl)) ?_); intro B' ys' tups' c' h' tk' F' N' hp' ht' hB'; (try dsimp only)))
local macro_rules | `(tactic| walk_at "getMethod ref") => `(tactic| (k_here; (with_reducible show wpAny _ _ (getMethod (Value.ref _) (Str.ofString "items") _) _ _ _); k_dflt (refine kdl_method (knd := PySem.strKind _ _) PySem.F.slot_dict_items PySem.F.type_dict_items (by k_asm) (by k_mem) (by k_asm) ?_)))
local macro_rules | `(tactic| walk_at "call builtin:dict.items") => `(tactic| (k_here; (with_reducible show wpAny _ _ (call (Value.builtin "dict.items") [Value.ref _]) _ _ _); k_dflt (refine kdx_view (knd := PySem.strKind _ _) (by k_asm) (by k_asm) (by k_mem) (by k_asm) (by k_asm) ?_); intro D' h' F' N' l1))

local macro_rules | `(tactic| walk_at "compareOp NotEq ref ref") => `(tactic| (k_here; (with_reducible show wpAny _ _ (compareOp CmpOp.NotEq (Value.ref _) (Value.ref _)) _ _ _); k_dflt (first
  | refine ne_vals (by k_asm) (by k_mem) rfl rfl (by k_mem) rfl rfl (by assumption) (by assumption) (by assumption) (by exact Nat.le_of_ble_eq_true rfl) ?_
  | refine ne_pairs (by k_asm) (by k_mem) rfl rfl (by k_mem) rfl rfl (by assumption) (by assumption) (by first | assumption | (intro p hp; repeat (first | assumption | exact List.mem_append_left _ hp | apply List.mem_append_right | apply List.Mem.tail))) (by first | assumption | (intro p hp; repeat (first | assumption | exact List.mem_append_left _ hp | apply List.mem_append_right | apply List.Mem.tail))) (by assumption) (by assumption) (by assumption) (by exact Nat.le_of_ble_eq_true rfl) ?_)))
local macro_rules | `(tactic| walk_at "getMethod ref") => `(tactic| (k_here; (with_reducible show wpAny _ _ (getMethod (Value.ref _) (Str.ofString "clear") _) _ _ _); k_dflt (refine kdl_method (knd := PySem.strKind _ _) PySem.F.slot_dict_clear PySem.F.type_dict_clear (by k_asm) (by k_mem) (by k_asm) ?_)))
local macro_rules | `(tactic| walk_at "setItem ref str str") => `(tactic| (k_here; (with_reducible show wpAny _ _ (setItem (Value.ref _) (Value.str _ _) (Value.str _ _)) _ _ _); k_dflt (refine set_keep (by k_asm) (by k_asm) (by k_mem) (by assumption) (kept_len _) (by assumption) (by first | assumption | (intro p hp; repeat (first | assumption | exact List.mem_append_left _ hp | apply List.mem_append_right | apply List.Mem.tail))) ?_); intro h' od' kvs' tk' F' N' hd' hl'; (try dsimp only)))
local macro_rules | `(tactic| walk_at "call builtin:dict.clear") => `(tactic| (k_here; k_dflt (refine clear_keep (by k_asm) (by k_asm) (by k_mem) (by assumption) (by assumption) (by assumption) (by first | assumption | (intro p hp; repeat (first | assumption | exact List.mem_append_left _ hp | apply List.mem_append_right | apply List.Mem.tail))) ?_); intro h' F' N'; (try dsimp only)))
local macro_rules | `(tactic| walk_at "StrBack") => `(tactic| (k_here; dsimp only [StrBack]))
local macro_rules | `(tactic| walk_at "KfoBack") => `(tactic| (k_here; dsimp only [KfoBack]))
local macro_rules | `(tactic| size_fits) => `(tactic| ((simp only [PySem.Str.length_append, len_open, len_shut, len_empty, sizeLine_eq]); omega))
local macro_rules | `(tactic| walk_at "le") => `(tactic| ((simp only [PySem.Str.length_append, len_open, len_shut, len_empty, sizeLine_eq]); omega))
local macro_rules | `(tactic| walk_at "joinParts") => `(tactic| (k_here; (first | (with_reducible show wpAny _ _ (joinParts _ []) _ _ _) | (with_reducible show wpAny _ _ (joinParts _ (evalEach [] _)) _ _ _)); k_dflt (refine joinParts_nil ?_ (by ((simp only [PySem.Str.length_append, len_open, len_shut, len_empty, sizeLine_eq]); omega)))))
local macro_rules | `(tactic| walk_at "compareOp Eq str str") => `(tactic| (k_here; refine eq_str ?_; (rename (said _ = said _) => hse9); simp only [hse9, PySem.Str.empty_append, beq_self_eq_true]))
local macro_rules | `(tactic| walk_at "getAttr") => `(tactic| (k_here; (with_reducible show wpAny _ _ (getAttr (Value.ref 117) (PySem.Str.ofString "__name__") _) _ _ _); k_dflt (refine' kn_attr (v := .str (PySem.Str.ofString "PGInterval") 196) ?F ?X ?t ?s ?e ?q ?z ?y ?_; (case F => k_asm); (case X => k_asm); (case t => k_is); (case s => k_is); (case e => k_is); (case q => k_is); (case z => rfl); (case y => rfl); k_whole)))
local macro_rules | `(tactic| walk_at "subscriptTail") => `(tactic| (k_here; (with_reducible show wpAny _ _ (subscriptTail _ _ (Value.ref 188) (Value.str _ _)) _ _ _); k_dflt (refine' item_missK ?q1 ?q2 ?q3 ?q4 ?q5 ?q6 ?q7 ?q8 ?q9 ?_; (case q1 => rfl); (case q2 => k_asm); (case q3 => k_asm); (case q4 => k_is); (case q5 => rfl); (case q6 => exact rfl); (case q7 => with_unfolding_all rfl); (case q8 => first | with_unfolding_all rfl | kernel_rfl); (case q9 => decide); k_whole); intro h' e' x'))
section
variable {prog : Program} {w : World} {loose : List Str} {mean : ExcName → Option Value} {mg mb m : Str → Option Value} {A A₀ : Around} {base h₀ : Heap} {L a : Addr} {s : Shared} {R : Result → Shared → Prop} {env : Env}
    {rest : List (Addr × Obj)} {x dx lv : Addr} {hs : Nat → Int} {ts : Nat → Tok} {v u : Nat → Value} {n nl : Nat} {ps : Array Value}
theorem good_con 
    (B : Below A₀ base [] h₀) (F : Fr h₀ L s.heap m) (X : (Mine.hd.heap_39 w.params).In h₀) (N : News h₀ L s.heap ((95, tabObj ps) :: rest)) (T : Top topProg loose mean mg mb h₀)
    (XB : (Mine.hd.heap_39 w.params).In base) (TB : Top topProg loose mean mg mb base)
    (hA : A.handled = none) (hfr : A.frames = some [env]) (hf : env.frame = some L) (hke : env.scope.kind = .function) (hd : A.depth ≤ 400) (hu : A.units ≤ 1000)
    (hx : (x, instObj 117 dx) ∈ rest) (hdx : (dx, dictOf (flds hs ts v) n) ∈ rest) (hl : (lv, listOf (vals u).toArray nl) ∈ rest) (h95 : ∀ q ∈ rest, q.1 ≠ 95) (hgood : GoodTab gpos ps) (ov : ∀ i, OV (v i)) (ou : ∀ i, OV (u i)) (same : Same9 v u)
    (ret : ∀ h' gs' tk' ps', Fr h₀ L h' m → News h₀ L h' ((95, tabObj ps') :: rest) → GoodTab gpos ps' → (AllBare s.gens → AllBare gs') → R (.ok (.ret (.bool true))) { s with heap := h', gens := gs', toks := tk' }) :
    codeAny (model prog w) A (.call (.ref 234) ⟨[.ref x, .ref lv], []⟩) R s := by
  have hse := said_same ov ou same
  have hlv := said_len ov
  have hlu := said_len ou
  refine code_at (d := 400) (u := 1000) ?_ hA hd hfr hu
  ktr_enter
  k_steps
  rename Fr _ _ _ _ => kF
  rename News _ _ _ _ => kN
  rename GoodTab _ _ => kG
  exact ret _ _ _ _ kF kN kG (by
    intro hb9
    first
      | solve_by_elim (maxDepth := 10)
      | (repeat (first | exact hb9 | (refine (by assumption : AllBare _ → AllBare _) ?_))))
end
end Mine
end

section
open PySem PySem.W PyProof.Rows PySem.Calls PySem.Spec
set_option maxRecDepth 100000
set_option maxHeartbeats 1000000
namespace Mine
local macro_rules | `(tactic| k_mem) => `(tactic| first | assumption | exact .head _ | (refine .tail _ ?_; k_mem))
local macro_rules | `(tactic| k_room) => `(tactic| exact Nat.lt_of_lt_of_le (Nat.lt_succ_self _) (Nat.le_of_ble_eq_true rfl))
local macro_rules | `(tactic| ktr_enter) => `(tactic| (
  have hT : PySem.Challenge.rw_eg5034_01.Holds → Mine.hd.heap_39 = Mine.hd.heap_39 := fun _ => rfl
  revert hT
  k_fill
  intro _
  k_dflt (refine' code_def ?k1 ?k2 ?k3 ?k4 ?k5 ?kA ?kF ?kK ?k6 ?k7 ?k8 ?k9 ?kB ?_ ?c2 ?c3 ?c4 ?c5; (case kA => exact rfl); (case kF => assumption); (case kK => assumption); (case k1 => k_asm); (case k2 => k_asm); (case k3 => k_asm); (case k4 => k_asm); (case k5 => k_asm); (case k6 => k_is); (case k7 => k_is); (case k8 => exact Nat.lt_of_lt_of_le (Nat.lt_succ_self _) (Nat.le_of_ble_eq_true rfl)); (case k9 => exact BindsTo.of_eq rfl); (case c5 => decide); (case kB => exact locs rfl); (case c2 => exact rfl); (case c3 => exact rfl); (case c4 => exact rfl); k_whole; intro g' L' h' FG' F' N' B' X' T'; (try dsimp only); (try k_fold))))
local macro_rules | `(tactic| walk_at "setItem ref int") => `(tactic| (k_here; k_dflt (refine' ki_set ?F ?N ?a ?b ?e ?U ?_; (case F => k_asm); (case N => k_asm); (case U => exact Upd.head (by assumption)); (case a => decide); (case b => decide); (case e => rfl)); intro h' F' N'; (try dsimp only [List.nil_append, List.cons_append] at N')))
local macro_rules | `(tactic| news_mem) => `(tactic| k_mem)
abbrev stObj (sl : Addr) (k : Nat) (tk : Tok) (c : Nat) : Obj := listOf #[.ref sl, .int k tk] c
theorem tame_small {i : Int} (h : (if i < 0 then -i else i) < 10 ^ Int.toNat 120) : i.natAbs < 10 ^ 120 := by
  have e : Int.toNat 120 = 120 := rfl
  rw [e] at h
  split at h <;> omega
theorem tame_mod (i : Int) : (i.fmod (10 ^ Int.toNat 120)).natAbs < 10 ^ 120 := by
  have e : Int.toNat 120 = 120 := rfl
  rw [e]
  have h1 := Int.fmod_nonneg_of_pos i (b := 10 ^ 120) (by decide)
  have h2 := Int.fmod_lt_of_pos i (b := 10 ^ 120) (by decide)
  omega
section
variable {prog : Program} {w : World} {loose : List Str} {mean : ExcName → Option Value} {mg mb m : Str → Option Value} {A A₀ : Around} {base h₀ : Heap} {outer : List Env} {env : Env} {L : Addr} {s : Shared} {R : Result → Shared → Prop}
    {rest : List (Addr × Obj)} {st sl : Addr} {k c cs : Nat} {tk : Tok} {xs : List Value} {ns : List Int}
theorem draw_con 
    (B : Below A₀ base outer h₀) (F : Fr h₀ L s.heap m) (X : (Mine.hd.heap_39 w.params).In h₀) (N : News h₀ L s.heap ((st, stObj sl k tk c) :: rest)) (T : Top topProg loose mean mg mb h₀)
    (hA : A.handled = none) (hfr : A.frames = some (env :: outer)) (hf : env.frame = some L) (hke : env.scope.kind = .function) (hd : A.depth ≤ 500) (hu : A.units ≤ 2000)
    (hsl : (sl, listOf xs.toArray cs) ∈ rest) (hst : ∀ q ∈ rest, q.1 ≠ st) (hi : IntsAre xs ns) (hns : ns.length ≤ 30) (hk : k ≤ 22)
    (ret : ∀ r h' tk' t, OV r → Fr h₀ L h' m → News h₀ L h' ((st, stObj sl (k + 1) t c) :: rest) → R (.ok (.ret r)) { s with heap := h', toks := tk' }) :
    codeAny (model prog w) A (.call (.ref 210) ⟨[.ref st], []⟩) R s := by
  have hxs : xs.toArray.size = ns.length := by rw [List.size_toArray]; exact hi.length
  refine code_at (d := 500) (u := 2000) ?_ hA hd hfr hu
  ktr_enter
  k_steps
  all_goals
    rename Fr _ _ _ _ => kF
    rename News _ _ _ _ => kN
  · exact ret _ _ _ _ (.inl rfl) kF kN
  · exact ret _ _ _ _ (.inl rfl) kF kN
  · exact ret _ _ _ _ (.inr ⟨_, _, rfl, by decide⟩) kF kN
  · refine ret _ _ _ _ (.inr ⟨_, _, rfl, ?_⟩) kF kN
    refine tame_small ?_
    assumption
  · exact ret _ _ _ _ (.inr ⟨_, _, rfl, tame_mod _⟩) kF kN
end
end Mine
end

section
open PySem PySem.W PyProof.Rows PySem.Calls PySem.Spec
set_option maxRecDepth 100000
set_option maxHeartbeats 1000000
namespace Mine
theorem vals_of {ys : List Value} (h : ys.length = 11) : ys = vals (fun i => ys.getD i .none) := by
  match ys, h with
  | [_, _, _, _, _, _, _, _, _, _, _], _ => rfl
theorem ov_of {ys : List Value} (h : ∀ y ∈ ys, OV y) : ∀ i, OV (ys.getD i .none) := by
  intro i
  rw [List.getD_eq_getElem?_getD]
  cases e : ys[i]? with
  | none => exact .inl rfl
  | some y => exact h y (List.mem_of_getElem? e)
section
variable {prog : Program} {w : World} {A A₀ : Around} {base h₀ : Heap} {outer : List Env} {env : Env} {L : Addr} {m mg mb : Str → Option Value} {loose : List Str} {mean : ExcName → Option Value} {x xd xs : Str} {p1 p2 p3 : Pos} {scope : Scope} {cl : List (Str × Addr)} {s : Shared}
    {Fin : List Value → List (Addr × Obj) → Prop} {nb : List (Addr × Obj)} {st sl cS : Addr} {oc : Obj} {k0 c cs : Nat} {tk : Tok} {ws : List Value} {ns : List Int}
theorem draws_rest 
    (B : Below A₀ base outer h₀) (X : (Mine.hd.heap_39 w.params).In h₀) (T : Top topProg loose mean mg mb h₀)
    (hA : A.handled = none) (hfr : A.frames = some (env :: outer)) (hf : env.frame = some L) (hke : env.scope.kind = .function) (hd : A.depth ≤ 500) (hu : A.units ≤ 2000)
    (hsl : (sl, listOf ws.toArray cs) ∈ nb) (hst : ∀ q ∈ nb, q.1 ≠ st) (hi : IntsAre ws ns) (hns : ns.length ≤ 30) (hk0 : k0 ≤ 11)
    (hF : nsIn (Mine.hd.heap_39 w.params) mainGlobals xd = some (some (.ref 210))) (hkeep : keepIn (Mine.hd.heap_39 w.params) (.ref 210) = true)
    (hc : cl.lookup xs = some cS) (hoc : (cS, oc) ∈ nb) (hcd : oc.data = .cell (some (.ref st)))
    (hg : env.globals = mainGlobals) (hkind : ∀ C, (compEnvC scope cl C env).scope.kind = .function) (hks : ∀ C, (compEnvC scope cl C env).kindOf xs = some .cell) (hkd : ∀ C, (compEnvC scope cl C env).kindOf xd = some .globalImplicit)
    (hdd : (xd == ("__debug__" : Str)) = false) (hds : (xs == ("__debug__" : Str)) = false)
    (fin : ∀ v t, (∀ i, OV (v i)) → Fin (vals v) ((st, stObj sl (k0 + 11) t c) :: nb)) :
    LCg.CompRest prog w A h₀ L m env (.Call (.Name xd p1) [.Name xs p2] [] p3) x scope cl s (fun _ => True) (fun i v => ∃ t, v = .int (0 + (i : Int)) t) Fin 11 0 [] ((st, stObj sl k0 tk c) :: nb) := by
  have key : ∀ (j i : Nat) (ys : List Value) (t : Tok), i + j = 11 → ys.length = i → (∀ y ∈ ys, OV y) →
      LCg.CompRest prog w A h₀ L m env (.Call (.Name xd p1) [.Name xs p2] [] p3) x scope cl s (fun _ => True) (fun i v => ∃ t, v = .int (0 + (i : Int)) t) Fin j i ys ((st, stObj sl (k0 + i) t c) :: nb) := by
    intro j
    induction j with
    | zero =>
      intro i ys t hij hl hy
      obtain rfl : i = 11 := by omega
      rw [vals_of hl]
      exact LCg.CompRest.zero (fin _ t (ov_of hy))
    | succ j ih =>
      intro i ys t hij hl hy
      refine LCg.CompRest.succ ?_
      intro v I oI C oC D m₂ h tk' E' hv hC hx F N off ne
      have offm := LCg.Off3.mem off
      have h1 := offm (st, stObj sl (k0 + i) t c) (.head _)
      refine Call_ (LCgL.ld_global (s := { s with heap := h, toks := tk' }) F X T hF ?_ hg (hkind C) (hkd C) hdd)
      refine callWith_K X hkeep (PyProof.Rows.spliced_more (lcf_cell (s := { s with heap := h, toks := tk' }) N hc (.tail _ (.tail _ (.tail _ (.tail _ hoc)))) hcd (PyProof.Rows.spliced_none ?_) (hkind C) (hks C) hds))
      refine ⟨X.keeps F.keep, ?_⟩
      refine wpAny_call ?_
      refine draw_con (s := { s with heap := h, toks := tk' }) (rest := (I, oI) :: (C, oC) :: (D, LCg.lst ys) :: nb) (tk := t) (c := c) (k := k0 + i) (xs := ws) B F X (cb_drop N fun q hq => ?_) T hA hfr hf hke hd hu (.tail _ (.tail _ (.tail _ hsl))) (fun q hq => ?_) hi hns (by omega) ?_
      · rcases List.mem_cons.mp hq with rfl | hq
        · exact .tail _ (.tail _ (.tail _ (.head _)))
        rcases List.mem_cons.mp hq with rfl | hq
        · exact .head _
        rcases List.mem_cons.mp hq with rfl | hq
        · exact .tail _ (.head _)
        rcases List.mem_cons.mp hq with rfl | hq
        · exact .tail _ (.tail _ (.head _))
        · exact .tail _ (.tail _ (.tail _ (.tail _ hq)))
      · rcases List.mem_cons.mp hq with rfl | hq
        · exact h1.1.symm
        rcases List.mem_cons.mp hq with rfl | hq
        · exact h1.2.1.symm
        rcases List.mem_cons.mp hq with rfl | hq
        · exact h1.2.2.symm
        · exact hst q hq
      · intro r h' tk'' t' hr F' N'
        refine ⟨h', tk'', (st, stObj sl (k0 + i + 1) t' c) :: nb, rfl, F', fun q hq => N' q ?_, ⟨h1, off.2⟩, trivial, ih (i + 1) (ys ++ [r]) t' (by omega) (by rw [List.length_append, hl]; rfl) ?_⟩
        · rcases List.mem_cons.mp hq with rfl | hq
          · exact .tail _ (.head _)
          rcases List.mem_cons.mp hq with rfl | hq
          · exact .tail _ (.tail _ (.head _))
          rcases List.mem_cons.mp hq with rfl | hq
          · exact .tail _ (.tail _ (.tail _ (.head _)))
          rcases List.mem_cons.mp hq with rfl | hq
          · exact .head _
          · exact .tail _ (.tail _ (.tail _ (.tail _ hq)))
        · intro y hy'
          rcases List.mem_append.mp hy' with hy' | hy'
          · exact hy y hy'
          · rw [List.mem_singleton.mp hy']; exact hr
  exact key 11 0 [] tk rfl rfl (fun _ h => nomatch h)
end
end Mine
end

section
open PySem PySem.W PyProof.Rows PySem.Calls PySem.Spec
set_option maxRecDepth 100000
set_option maxHeartbeats 600000
namespace Mine
local macro_rules | `(tactic| k_handed) => `(tactic| (refine OV.handed ?_; (rename (∀ _, OV _) => hov9); exact hov9 _))
local macro_rules | `(tactic| k_room) => `(tactic| exact Nat.lt_of_lt_of_le (Nat.lt_succ_self _) (Nat.le_of_ble_eq_true rfl))
local macro_rules | `(tactic| k_upd) => `(tactic| exact Upd.tail (by assumption) (Upd.head (by assumption)))
theorem flds_of (v : Nat → Value) (h0 h1 h2 h3 h4 h5 h6 h7 h8 h9 h10 : Int) (t0 t1 t2 t3 t4 t5 t6 t7 t8 t9 t10 : Tok) : ([⟨h0, .str (Str.ofString "millennia") t0, v 0⟩, ⟨h1, .str (Str.ofString "centuries") t1, v 1⟩, ⟨h2, .str (Str.ofString "decades") t2, v 2⟩, ⟨h3, .str (Str.ofString "years") t3, v 3⟩, ⟨h4, .str (Str.ofString "months") t4, v 4⟩, ⟨h5, .str (Str.ofString "weeks") t5, v 5⟩, ⟨h6, .str (Str.ofString "days") t6, v 6⟩, ⟨h7, .str (Str.ofString "hours") t7, v 7⟩, ⟨h8, .str (Str.ofString "minutes") t8, v 8⟩, ⟨h9, .str (Str.ofString "seconds") t9, v 9⟩, ⟨h10, .str (Str.ofString "microseconds") t10, v 10⟩] : List DictEntry) = flds (fun i => [h0, h1, h2, h3, h4, h5, h6, h7, h8, h9, h10].getD i 0) (fun i => [t0, t1, t2, t3, t4, t5, t6, t7, t8, t9, t10].getD i 0) v := rfl
theorem flds_of2 (x0 x1 x2 x3 x4 x5 x6 x7 x8 x9 x10 : Value) (h0 h1 h2 h3 h4 h5 h6 h7 h8 h9 h10 : Int) (t0 t1 t2 t3 t4 t5 t6 t7 t8 t9 t10 : Tok) : ([⟨h0, .str (Str.ofString "millennia") t0, x0⟩, ⟨h1, .str (Str.ofString "centuries") t1, x1⟩, ⟨h2, .str (Str.ofString "decades") t2, x2⟩, ⟨h3, .str (Str.ofString "years") t3, x3⟩, ⟨h4, .str (Str.ofString "months") t4, x4⟩, ⟨h5, .str (Str.ofString "weeks") t5, x5⟩, ⟨h6, .str (Str.ofString "days") t6, x6⟩, ⟨h7, .str (Str.ofString "hours") t7, x7⟩, ⟨h8, .str (Str.ofString "minutes") t8, x8⟩, ⟨h9, .str (Str.ofString "seconds") t9, x9⟩, ⟨h10, .str (Str.ofString "microseconds") t10, x10⟩] : List DictEntry) = flds (fun i => [h0, h1, h2, h3, h4, h5, h6, h7, h8, h9, h10].getD i 0) (fun i => [t0, t1, t2, t3, t4, t5, t6, t7, t8, t9, t10].getD i 0) (fun i => [x0, x1, x2, x3, x4, x5, x6, x7, x8, x9, x10].getD i .none) := rfl
structure QMade (h₀ : Heap) (L : Addr) (m : Str → Option Value) (v : Nat → Value) (news : List (Addr × Obj)) (s : Shared) (y : Value) (s' : Shared) : Prop where
  h : ∃ x d h' tk n hs ts, y = .ref x ∧ s' = { s with heap := h', toks := tk } ∧ Fr h₀ L h' m ∧ News h₀ L h' ((x, instObj 117 d) :: (d, dictOf (flds hs ts v) n) :: news) ∧ (∀ q ∈ news, q.1 < d) ∧ d < x
section
variable {prog : Program} {w : World} {loose : List Str} {mean : ExcName → Option Value} {mg mb m : Str → Option Value} {A A₀ : Around} {base h₀ : Heap} {outer : List Env} {env : Env} {L : Addr} {s : Shared} {E : Value → Shared → Prop} {Q : Value → Shared → Prop}
    {news : List (Addr × Obj)} {v : Nat → Value}
theorem make_pos0 
    (B : Below A₀ base outer h₀) (F : Fr h₀ L s.heap m) (X : (Mine.hd.heap_39 w.params).In h₀) (N : News h₀ L s.heap news) (T : Top topProg loose mean mg mb h₀)
    (hf : env.frame = some L) (hke : env.scope.kind = .function) {gd : Option (List Code)} (ov : ∀ i, OV (v i)) :
    wpAny (model prog w) (atA env outer gd 500 5000) (call (.ref 117) [v 0, v 1, v 2, v 3, v 4, v 5, v 6, v 7, v 8, v 9, v 10] []) (QMade h₀ L m v news s) E s := by
  have hT : PySem.Challenge.rw_eg5034_01.Holds → Mine.hd.heap_39 = Mine.hd.heap_39 := fun _ => rfl
  revert hT
  k_fill
  intro _
  refine' call_cls ?k1 ?k2 ?k3 ?k4 ?k5 ?k6 ?_; (case k1 => k_asm); (case k2 => k_asm); (case k3 => k_asm); (case k4 => k_is); (case k5 => k_is); (case k6 => k_is)
  intro x' d' h' F' N' l1 l2
  have u1 : @Ne Nat x' d' := Nat.ne_of_gt l2
  have u2 : ∀ p ∈ news, p.1 ≠ d' := fun p hp => Nat.ne_of_lt (l1 p hp)
  (
  refine' code_def ?k1 ?k2 ?k3 ?k4 ?k5 ?kA ?kF ?kK ?k6 ?k7 ?k8 ?k9 ?kB ?_ ?c2 ?c3 ?c4 ?c5; (case kA => exact rfl); (case kF => assumption); (case kK => assumption); (case k2 => k_asm); (case k1 => k_asm); (case k3 => k_asm); (case k4 => k_asm); (case k5 => k_asm); (case k6 => k_is); (case k7 => k_is); (case k8 => k_room); (case k9 => exact (kp_binds (binds := [(Str.ofString "self", .ref x'), (Str.ofString "millennia", v 0), (Str.ofString "centuries", v 1), (Str.ofString "decades", v 2), (Str.ofString "years", v 3), (Str.ofString "months", v 4), (Str.ofString "weeks", v 5), (Str.ofString "days", v 6), (Str.ofString "hours", v 7), (Str.ofString "minutes", v 8), (Str.ofString "seconds", v 9), (Str.ofString "microseconds", v 10)]) (K := Mine.hd.heap_39 w.params) (by k_in) (fun _ => by kernel_rfl!))); (case c5 => decide); (case kB => exact locs rfl); (case c2 => exact rfl); (case c3 => exact rfl); (case c4 => exact rfl); k_whole; intro g' L' h' FG' F' N' B' X' T'; (try dsimp only); (try k_lift B'); (try k_fold))
  k_steps
  rename Fr _ _ _ _ => kF
  rename News _ _ _ _ => kN
  rw [flds_of v] at kN
  exact ⟨_, _, _, _, _, _, _, rfl, rfl, kF, kN, l1, l2⟩
theorem make_kw0 
    (B : Below A₀ base outer h₀) (F : Fr h₀ L s.heap m) (X : (Mine.hd.heap_39 w.params).In h₀) (N : News h₀ L s.heap news) (T : Top topProg loose mean mg mb h₀)
    (hf : env.frame = some L) (hke : env.scope.kind = .function) {gd : Option (List Code)} (ov : ∀ i, OV (v i)) :
    wpAny (model prog w) (atA env outer gd 500 5000) (call (.ref 117) [] [(Str.ofString "microseconds", v 10), (Str.ofString "seconds", v 9), (Str.ofString "minutes", v 8), (Str.ofString "hours", v 7), (Str.ofString "days", v 6), (Str.ofString "weeks", v 5), (Str.ofString "months", v 4), (Str.ofString "years", v 3), (Str.ofString "decades", v 2), (Str.ofString "centuries", v 1), (Str.ofString "millennia", v 0)]) (QMade h₀ L m v news s) E s := by
  have hT : PySem.Challenge.rw_eg5034_01.Holds → Mine.hd.heap_39 = Mine.hd.heap_39 := fun _ => rfl
  revert hT
  k_fill
  intro _
  refine' call_cls ?k1 ?k2 ?k3 ?k4 ?k5 ?k6 ?_; (case k1 => k_asm); (case k2 => k_asm); (case k3 => k_asm); (case k4 => k_is); (case k5 => k_is); (case k6 => k_is)
  intro x' d' h' F' N' l1 l2
  have u1 : @Ne Nat x' d' := Nat.ne_of_gt l2
  have u2 : ∀ p ∈ news, p.1 ≠ d' := fun p hp => Nat.ne_of_lt (l1 p hp)
  (
  refine' code_def ?k1 ?k2 ?k3 ?k4 ?k5 ?kA ?kF ?kK ?k6 ?k7 ?k8 ?k9 ?kB ?_ ?c2 ?c3 ?c4 ?c5; (case kA => exact rfl); (case kF => assumption); (case kK => assumption); (case k2 => k_asm); (case k1 => k_asm); (case k3 => k_asm); (case k4 => k_asm); (case k5 => k_asm); (case k6 => k_is); (case k7 => k_is); (case k8 => k_room); (case k9 => exact (kp_binds (binds := [(Str.ofString "self", .ref x'), (Str.ofString "millennia", v 0), (Str.ofString "centuries", v 1), (Str.ofString "decades", v 2), (Str.ofString "years", v 3), (Str.ofString "months", v 4), (Str.ofString "weeks", v 5), (Str.ofString "days", v 6), (Str.ofString "hours", v 7), (Str.ofString "minutes", v 8), (Str.ofString "seconds", v 9), (Str.ofString "microseconds", v 10)]) (K := Mine.hd.heap_39 w.params) (by k_in) (fun _ => by kernel_rfl!))); (case c5 => decide); (case kB => exact locs rfl); (case c2 => exact rfl); (case c3 => exact rfl); (case c4 => exact rfl); k_whole; intro g' L' h' FG' F' N' B' X' T'; (try dsimp only); (try k_lift B'); (try k_fold))
  k_steps
  rename Fr _ _ _ _ => kF
  rename News _ _ _ _ => kN
  rw [flds_of v] at kN
  exact ⟨_, _, _, _, _, _, _, rfl, rfl, kF, kN, l1, l2⟩
theorem make_pos 
    (B : Below A₀ base outer h₀) (F : Fr h₀ L s.heap m) (X : (Mine.hd.heap_39 w.params).In h₀) (N : News h₀ L s.heap news) (T : Top topProg loose mean mg mb h₀)
    (hA : A.handled = none) (hfr : A.frames = some (env :: outer)) (hf : env.frame = some L) (hke : env.scope.kind = .function) (hd : A.depth ≤ 500) (hu : A.units ≤ 5000) (ov : ∀ i, OV (v i))
    (h : ∀ x d h' tk n hs ts, Fr h₀ L h' m → News h₀ L h' ((x, instObj 117 d) :: (d, dictOf (flds hs ts v) n) :: news) → (∀ q ∈ news, q.1 < d) → d < x → Q (.ref x) { s with heap := h', toks := tk }) :
    wpAny (model prog w) A (call (.ref 117) [v 0, v 1, v 2, v 3, v 4, v 5, v 6, v 7, v 8, v 9, v 10] []) Q E s :=
  wp_le (wpAny_mono (make_pos0 (gd := A.guards) B F X N T hf hke ov) (fun y s' hq => by
    obtain ⟨x, d, h', tk, n, hs, ts, rfl, rfl, F', N', l1, l2⟩ := hq.h
    exact h x d h' tk n hs ts F' N' l1 l2) fun _ _ z => z) hA hd hfr rfl hu
theorem make_kw 
    (B : Below A₀ base outer h₀) (F : Fr h₀ L s.heap m) (X : (Mine.hd.heap_39 w.params).In h₀) (N : News h₀ L s.heap news) (T : Top topProg loose mean mg mb h₀)
    (hA : A.handled = none) (hfr : A.frames = some (env :: outer)) (hf : env.frame = some L) (hke : env.scope.kind = .function) (hd : A.depth ≤ 500) (hu : A.units ≤ 5000) (ov : ∀ i, OV (v i))
    (h : ∀ x d h' tk n hs ts, Fr h₀ L h' m → News h₀ L h' ((x, instObj 117 d) :: (d, dictOf (flds hs ts v) n) :: news) → (∀ q ∈ news, q.1 < d) → d < x → Q (.ref x) { s with heap := h', toks := tk }) :
    wpAny (model prog w) A (call (.ref 117) [] [(Str.ofString "microseconds", v 10), (Str.ofString "seconds", v 9), (Str.ofString "minutes", v 8), (Str.ofString "hours", v 7), (Str.ofString "days", v 6), (Str.ofString "weeks", v 5), (Str.ofString "months", v 4), (Str.ofString "years", v 3), (Str.ofString "decades", v 2), (Str.ofString "centuries", v 1), (Str.ofString "millennia", v 0)]) Q E s :=
  wp_le (wpAny_mono (make_kw0 (gd := A.guards) B F X N T hf hke ov) (fun y s' hq => by
    obtain ⟨x, d, h', tk, n, hs, ts, rfl, rfl, F', N', l1, l2⟩ := hq.h
    exact h x d h' tk n hs ts F' N' l1 l2) fun _ _ z => z) hA hd hfr rfl hu
end
end Mine
end

section
open PySem PySem.W PyProof.Rows PySem.Calls PySem.Spec
set_option maxRecDepth 100000
set_option maxHeartbeats 600000
namespace Mine
def w7 (T : Nat → Tok) : Nat → Value := fun i => [.int 1 (T 0), .int 2 (T 1), .int 3 (T 2), .int 4 (T 3), .int 5 (T 4), .int 6 (T 5), .int 7 (T 6), .int 8 (T 7), .int 9 (T 8), .int 10 (T 9), .int 11 (T 10)].getD i .none
theorem w7_ov (T : Nat → Tok) : ∀ i, OV (w7 T i)
  | 0 => .inr ⟨_, _, rfl, by decide⟩ | 1 => .inr ⟨_, _, rfl, by decide⟩ | 2 => .inr ⟨_, _, rfl, by decide⟩ | 3 => .inr ⟨_, _, rfl, by decide⟩ | 4 => .inr ⟨_, _, rfl, by decide⟩ | 5 => .inr ⟨_, _, rfl, by decide⟩
  | 6 => .inr ⟨_, _, rfl, by decide⟩ | 7 => .inr ⟨_, _, rfl, by decide⟩ | 8 => .inr ⟨_, _, rfl, by decide⟩ | 9 => .inr ⟨_, _, rfl, by decide⟩ | 10 => .inr ⟨_, _, rfl, by decide⟩
  | _ + 11 => .inl rfl
theorem w7_same (T T' : Nat → Tok) : Same9 (w7 T) (w7 T')
  | 0 => rfl | 1 => rfl | 2 => rfl | 3 => rfl | 4 => rfl | 5 => rfl | 6 => rfl | 7 => rfl | 8 => rfl | 9 => rfl | 10 => rfl
  | _ + 11 => rfl
theorem w7_said (T : Nat → Tok) : said (w7 T) = Str.ofString "1 millennia 2 centuries 3 decades 4 years 5 months 6 weeks 7 days 8 hours 9 minutes 10 seconds 11 microseconds" := by kernel_rfl!
section
variable {prog : Program} {w : World} {loose : List Str} {mean : ExcName → Option Value} {mg mb m : Str → Option Value} {A A₀ : Around} {base h₀ : Heap} {outer : List Env} {env : Env} {L : Addr} {s : Shared} {E : Value → Shared → Prop} {Q : Value → Shared → Prop}
    {news : List (Addr × Obj)} {t0 t1 t2 t3 t4 t5 t6 t7 t8 t9 t10 : Tok}
theorem make_whole
    (B : Below A₀ base outer h₀) (F : Fr h₀ L s.heap m) (X : (Mine.hd.heap_39 w.params).In h₀) (N : News h₀ L s.heap news) (T : Top topProg loose mean mg mb h₀)
    (hA : A.handled = none) (hfr : A.frames = some (env :: outer)) (hf : env.frame = some L) (hke : env.scope.kind = .function) (hd : A.depth ≤ 500) (hu : A.units ≤ 5000)
    (h : ∀ Z x d h' tk n hs ts, Fr h₀ L h' m → News h₀ L h' ((x, instObj 117 d) :: (d, dictOf (flds hs ts (w7 Z)) n) :: news) → (∀ q ∈ news, q.1 < d) → d < x → Q (.ref x) { s with heap := h', toks := tk }) :
    wpAny (model prog w) A (call (.ref 117) [.int 1 t0, .int 2 t1, .int 3 t2, .int 4 t3, .int 5 t4, .int 6 t5, .int 7 t6, .int 8 t7, .int 9 t8, .int 10 t9, .int 11 t10] []) Q E s :=
  make_pos (v := w7 (fun i => [t0, t1, t2, t3, t4, t5, t6, t7, t8, t9, t10].getD i 0)) B F X N T hA hfr hf hke hd hu (w7_ov _) fun x d h' tk n hs ts F' N' l1 l2 => h _ x d h' tk n hs ts F' N' l1 l2
theorem list_whole {h : Heap} {a : Addr} {n : Nat} {r : List (Addr × Obj)} (N : News h₀ L h ((a, listOf #[.int 1 t0, .int 2 t1, .int 3 t2, .int 4 t3, .int 5 t4, .int 6 t5, .int 7 t6, .int 8 t7, .int 9 t8, .int 10 t9, .int 11 t10] n) :: r)) : ∃ Z, News h₀ L h ((a, listOf (vals (w7 Z)).toArray n) :: r) := ⟨(fun i => [t0, t1, t2, t3, t4, t5, t6, t7, t8, t9, t10].getD i 0), N⟩
theorem pickC {h : Heap} {px pd p9 a b c d e f : Addr × Obj} (N : News h₀ L h [px, pd, p9, a, b, c, d, e, f]) : News h₀ L h [p9, px, pd, a, b, c, d, e, f] := cb_drop N (by simp)
end
end Mine
end

section
open PySem PySem.W PyProof.Rows PySem.Calls PySem.Spec
set_option maxRecDepth 100000
set_option maxHeartbeats 3000000
namespace Mine
local macro_rules | `(tactic| k_handed) => `(tactic| (refine OV.handed ?_; (rename (∀ _, OV _) => hov9); exact hov9 _))
local macro_rules | `(tactic| k_mem) => `(tactic| first | assumption | exact .head _ | (refine .tail _ ?_; k_mem) | (refine List.mem_append_right _ ?_; k_mem))
local macro_rules | `(tactic| walk_at "exec Assign cons ListComp") => `(tactic| (k_here; k_dflt (refine LCg.Assign_ListComp_U (F₀ := by k_asm) (by rfl) (by with_unfolding_all rfl) (by with_unfolding_all rfl) (by decide) (by rfl) (by decide) (by rfl) (by rfl) (by rfl) ?_)))
theorem cb_swap {h₀ h : Heap} {L : Addr} {p q : Addr × Obj} {news : List (Addr × Obj)} (N : News h₀ L h (p :: q :: news)) : News h₀ L h (q :: p :: news) := cb_drop N fun r hr => by
  rcases List.mem_cons.mp hr with rfl | hr
  · exact .tail _ (.head _)
  rcases List.mem_cons.mp hr with rfl | hr
  · exact .head _
  · exact .tail _ (.tail _ hr)
theorem ne_nil9 {P : Addr} : ∀ q ∈ ([] : List (Addr × Obj)), q.1 ≠ P := fun _ h => nomatch h
theorem ne_cons9 {P : Addr} {p : Addr × Obj} {l : List (Addr × Obj)} (h : @Ne Nat p.1 P) (r : ∀ q ∈ l, q.1 ≠ P) : ∀ q ∈ p :: l, q.1 ≠ P := fun q hq => by
  rcases List.mem_cons.mp hq with rfl | hq
  · exact h
  · exact r q hq
theorem goodTab0 : GoodTab gpos #[] := by
  unfold GoodTab
  first | trivial | simp | exact ⟨⟩
local macro_rules | `(tactic| walk_at "compareOp Eq str str") => `(tactic| (k_here; refine eq_str ?_; (rename (said _ = _) => hse9); simp only [hse9, beq_self_eq_true]))
structure Stop9 (P : Prop) : Prop where
  h : P
theorem stop9 {P : Prop} (x : Stop9 P) : P := x.h
local macro_rules | `(tactic| walk_at "CompSrc") => `(tactic| (k_here; refine stop9 ?_))
local macro_rules | `(tactic| walk_at "call ref") => `(tactic| (k_here; first
  | ((with_reducible show wpAny _ _ (call (Value.ref 117) _ _) _ _ _); refine stop9 ?_)
  | ((with_reducible show wpAny _ _ (call (Value.ref 234) _) _ _ _); refine stop9 ?_)
  | ((with_reducible show wpAny _ _ (call (Value.ref 100) _) _ _ _); refine stop9 ?_)))
theorem pickA {h₀ h : Heap} {L : Addr} {px pd p2 ps p1 pl p9 : Addr × Obj} {r : List (Addr × Obj)} (N : News h₀ L h (px :: pd :: p2 :: ps :: p1 :: pl :: p9 :: r)) : News h₀ L h [p9, px, pd, p1, p2] := cb_drop N (by simp)
theorem pickB {h₀ h : Heap} {L : Addr} {py pdy p9 px pd p1 p2 : Addr × Obj} (N : News h₀ L h [py, pdy, p9, px, pd, p1, p2]) : News h₀ L h [p9, py, pdy, px, pd, p1, p2] := cb_drop N (by simp)
section
variable {prog : Program} {w : World} {loose : List Str} {mean : ExcName → Option Value} {mg mb : Str → Option Value} {g : Heap} {s₁ : Shared} {R : Result → Shared → Prop} {sa : Addr} {ws : List Value} {ns : List Int}
theorem law_core 
    (hsz : g.objs.size = s₁.heap.objs.size) (hkeep : ∀ b o, g.get? b = some o → s₁.heap.get? b = some o) (X : (Mine.hd.heap_39 w.params).In g) (T : Top topProg loose mean mg mb g)
    (h95 : s₁.heap.get? 95 = some (tabObj #[])) (hg95 : g.get? 95 = none) (hL : g.IsList sa ws.toArray) (hI : IntsAre ws ns) (hlen : ns.length ≤ 63) 
    (ret : ∀ h' gs' tk' ps', (∀ b o, g.get? b = some o → h'.get? b = some o) → h'.get? 95 = some (tabObj ps') → (AllBare s₁.gens → AllBare gs') → R (.ok (.ret (.bool true))) { s₁ with heap := h', gens := gs', toks := tk' }) :
    codeAny (model prog w) callerA (.call (.ref 239) ⟨[.ref sa], []⟩) R s₁ := by
  have hT : PySem.Challenge.rw_eg5034_01.Holds → Mine.hd.heap_39 = Mine.hd.heap_39 := fun _ => rfl
  revert hT
  k_fill
  intro _
  refine call_cellsN (by decide) (hkeep _ _ (X 239 _ (by k_is))) rfl (T.nolimit.keeps hkeep) (codeRec_of (K := Mine.hd.heap_39 w.params) (X.keeps hkeep) (by k_is)) rfl (kinds_of (by kinds_ok)) (by decide) fun h₁ tk₁ cells F0 N0 X0 => ?_
  cells_open X0
  have F : Fr g s₁.heap.objs.size h₁ (fun y => if y = Str.ofString "script" then some (.ref sa) else none) := ⟨F0.ns, fun b o e => F0.keep b o (hkeep b o e), by rw [hsz]; exact F0.above⟩
  have N : News g s₁.heap.objs.size h₁ ((95, tabObj #[]) :: _) := fun q hq => by
    rcases List.mem_cons.mp hq with rfl | hq
    · exact ⟨F0.keep _ _ h95, Nat.ne_of_lt (Heap.lt_size h95), hg95⟩
    · refine ⟨(N0 q hq).1, (N0 q hq).2.1, ?_⟩
      cases e : g.get? q.1 with
      | none => rfl
      | some o => have := (N0 q hq).2.2; rw [hkeep _ _ e] at this; cases this
  have K0 := below_caller g
  clear F0 N0
  k_steps
  refine ⟨?_⟩
  rename IsRange _ _ _ _ _ _ _ _ => hR9
  rename Fr _ _ _ _ => hF9
  rename News _ _ _ _ => hN9
  rename IntsAre _ _ => hI9
  simp only [List.cons_append, List.nil_append] at hN9
  refine LCg.CompSrc.range (news := (_, stObj _ 0 _ _) :: _) (by rfl) hF9 hN9 hR9 (by first | decide | rfl) (by first | rfl | decide) (Nat.le_of_ble_eq_true rfl) ?_
  intro g9
  refine draws_rest (by assumption) (by assumption) (by assumption) rfl rfl rfl rfl (Nat.le_of_ble_eq_true rfl) (Nat.le_of_ble_eq_true rfl) (by k_mem) ?hst hI9 (by rw [List.length_take]; omega) (by decide) (by k_is) (by k_is) rfl (by k_mem) (by assumption) rfl (fun _ => rfl) (fun _ => rfl) (fun _ => rfl) (by decide) (by decide) ?_
  case hst => ((repeat' (first | exact ne_nil9 | refine ne_cons9 ?_ ?_)); all_goals (first | exact ne_nil9 | (dsimp only; first | omega | (simp only [LCg.Off1, and_true] at *; omega) | (trace_state; fail "apart9"))))
  intro v9 t9 hov9
  clear hR9 hF9 hN9
  k_steps
  refine ⟨?_⟩
  rename IsRange _ _ _ _ _ _ _ _ => hR9
  rename Fr _ _ _ _ => hF9
  rename News _ _ _ _ => hN9
  refine LCg.CompSrc.range (news := (_, stObj _ 11 _ _) :: _) (by rfl) hF9 (cb_swap hN9) hR9 (by first | decide | rfl) (by first | rfl | decide) (Nat.le_of_ble_eq_true rfl) ?_
  intro g8
  refine draws_rest (by assumption) (by assumption) (by assumption) rfl rfl rfl rfl (Nat.le_of_ble_eq_true rfl) (Nat.le_of_ble_eq_true rfl) (by k_mem) ?hst hI9 (by rw [List.length_take]; omega) (by decide) (by k_is) (by k_is) rfl (by k_mem) (by assumption) rfl (fun _ => rfl) (fun _ => rfl) (fun _ => rfl) (by decide) (by decide) ?_
  case hst => ((repeat' (first | exact ne_nil9 | refine ne_cons9 ?_ ?_)); all_goals (first | exact ne_nil9 | (dsimp only; first | omega | (simp only [LCg.Off1, and_true] at *; omega) | (trace_state; fail "apart9"))))
  intro v8 t8 hov8
  clear hR9 hF9 hN9
  k_steps
  refine ⟨?_⟩
  rename Fr _ _ _ _ => hF9
  rename News _ _ _ _ => hN9
  refine make_pos (v := v9) (by assumption) hF9 (by assumption) hN9 (by assumption) rfl rfl rfl rfl (Nat.le_of_ble_eq_true rfl) (Nat.le_of_ble_eq_true rfl) hov9 ?_
  intro x1 d1 h1 tk1 n1 hs1 ts1 F1 N1 l1 l1'
  have a0 : (95 : Nat) < d1 := l1 (95, tabObj #[]) (by simp)
  have b1 : @Ne Nat x1 95 := Nat.ne_of_gt (Nat.lt_trans a0 l1')
  have c1 : @Ne Nat d1 95 := Nat.ne_of_gt a0
  have hM := pickA N1
  clear hF9 hN9 N1
  k_steps
  refine ⟨?_⟩
  rename Fr _ _ _ _ => hF9
  rename News _ _ _ _ => hM
  refine wpAny_call ?_
  refine good_con (base := g) (v := v9) (u := v9) (by assumption) hF9 (by assumption) hM (by assumption) (by assumption) (by assumption) rfl rfl rfl rfl (Nat.le_of_ble_eq_true rfl) (Nat.le_of_ble_eq_true rfl) (by k_mem) (by k_mem) (by k_mem) ?h95 goodTab0 hov9 hov9 (fun _ => rfl) ?_
  case h95 => ((repeat' (first | exact ne_nil9 | refine ne_cons9 ?_ ?_)); all_goals (first | exact ne_nil9 | (dsimp only; first | omega | (simp only [LCg.Off1, and_true] at *; omega) | (trace_state; fail "apart9"))))
  intro h2 gs2 tk2 ps2 F2 N2 G2 B2
  clear hM hF9
  k_steps
  refine ⟨?_⟩
  rename Fr _ _ _ _ => hF9
  rename News _ _ _ _ => hN9
  refine make_kw (v := v8) (by assumption) hF9 (by assumption) hN9 (by assumption) rfl rfl rfl rfl (Nat.le_of_ble_eq_true rfl) (Nat.le_of_ble_eq_true rfl) hov8 ?_
  intro x2 d2 h3 tk3 n2 hs2 ts2 F3 N3 l2 l2'
  have a0 : (95 : Nat) < d2 := l2 (95, tabObj ps2) (.head _)
  have b2 : @Ne Nat x2 95 := Nat.ne_of_gt (Nat.lt_trans a0 l2')
  have c2 : @Ne Nat d2 95 := Nat.ne_of_gt a0
  have hM := pickB N3
  clear hF9 hN9 N3
  k_steps
  refine ⟨?_⟩
  rename Fr _ _ _ _ => hF9
  rename News _ _ _ _ => hM
  refine wpAny_call ?_
  refine good_con (base := g) (v := v8) (u := v8) (by assumption) hF9 (by assumption) hM (by assumption) (by assumption) (by assumption) rfl rfl rfl rfl (Nat.le_of_ble_eq_true rfl) (Nat.le_of_ble_eq_true rfl) (by k_mem) (by k_mem) (by k_mem) ?h95b G2 hov8 hov8 (fun _ => rfl) ?_
  case h95b => ((repeat' (first | exact ne_nil9 | refine ne_cons9 ?_ ?_)); all_goals (first | exact ne_nil9 | (dsimp only; first | omega | (simp only [LCg.Off1, and_true] at *; omega) | (trace_state; fail "apart9"))))
  intro h4 gs4 tk4 ps4 F4 N4 G4 B4
  clear hM hF9
  k_steps
  refine ⟨?_⟩
  rename Fr _ _ _ _ => hF9
  rename News _ _ _ _ => hM
  refine wpAny_call ?_
  refine good_con (base := g) (v := v9) (u := v9) (by assumption) hF9 (by assumption) hM (by assumption) (by assumption) (by assumption) rfl rfl rfl rfl (Nat.le_of_ble_eq_true rfl) (Nat.le_of_ble_eq_true rfl) (by k_mem) (by k_mem) (by k_mem) ?h95c G4 hov9 hov9 (fun _ => rfl) ?_
  case h95c => ((repeat' (first | exact ne_nil9 | refine ne_cons9 ?_ ?_)); all_goals (first | exact ne_nil9 | (dsimp only; first | omega | (simp only [LCg.Off1, and_true] at *; omega) | (trace_state; fail "apart9"))))
  intro h5 gs5 tk5 ps5 F5 N5 G5 B5
  clear hM hF9
  k_steps
  refine ⟨?_⟩
  rename Fr _ _ _ _ => hF9
  rename News _ _ _ _ => hN9
  refine make_whole (by assumption) hF9 (by assumption) hN9 (by assumption) rfl rfl rfl rfl (Nat.le_of_ble_eq_true rfl) (Nat.le_of_ble_eq_true rfl) ?_
  intro Z7 x3 d3 h6 tk6 n3 hs3 ts3 F6 N6 l3 l3'
  have a0 : (95 : Nat) < d3 := l3 (95, tabObj ps5) (.head _)
  have b3 : @Ne Nat x3 95 := Nat.ne_of_gt (Nat.lt_trans a0 l3')
  have c3 : @Ne Nat d3 95 := Nat.ne_of_gt a0
  have hse7 := w7_said Z7
  have hM := pickC N6
  clear hF9 hN9 N6
  k_steps
  refine ⟨?_⟩
  rename Fr _ _ _ _ => hF9
  rename News _ _ _ _ => hM
  refine wpAny_call ?_
  refine str_con2 (v := w7 Z7) (by assumption) hF9 (by assumption) hM (by assumption) rfl rfl rfl rfl (Nat.le_of_ble_eq_true rfl) (Nat.le_of_ble_eq_true rfl) ?h95d (fun q hq => List.Mem.tail _ hq) (.head _) G5 (by k_mem) (by k_mem) (w7_ov Z7) ?_
  case h95d => ((repeat' (first | exact ne_nil9 | refine ne_cons9 ?_ ?_)); all_goals (first | exact ne_nil9 | (dsimp only; first | omega | (simp only [LCg.Off1, and_true] at *; omega) | (trace_state; fail "apart9"))))
  intro t7 h7 gs7 tk7 ps7 F7 N7 G7 B7
  clear hM hF9
  dsimp only [StrBack]
  k_steps
  refine ⟨?_⟩
  rename Fr _ _ _ _ => hF9
  rename News _ _ _ _ => hN9
  obtain ⟨Z8, hN8⟩ := list_whole hN9
  have hM := cb_swap hN8
  refine wpAny_call ?_
  refine good_con (base := g) (v := w7 Z7) (u := w7 Z8) (by assumption) hF9 (by assumption) hM (by assumption) (by assumption) (by assumption) rfl rfl rfl rfl (Nat.le_of_ble_eq_true rfl) (Nat.le_of_ble_eq_true rfl) (by k_mem) (by k_mem) (by k_mem) ?h95e G7 (w7_ov _) (w7_ov _) (w7_same _ _) ?_
  case h95e => ((repeat' (first | exact ne_nil9 | refine ne_cons9 ?_ ?_)); all_goals (first | exact ne_nil9 | (dsimp only; first | omega | (simp only [LCg.Off1, and_true] at *; omega) | (trace_state; fail "apart9"))))
  intro h8 gs8 tk8 ps8 F8 N8 G8 B8
  clear hM hF9 hN9 hN8
  k_steps
  refine ⟨?_⟩
  rename Fr _ _ _ _ => hF9
  rename News _ _ _ _ => hM
  refine wpAny_call ?_
  refine good_con (base := g) (v := v9) (u := v9) (by assumption) hF9 (by assumption) hM (by assumption) (by assumption) (by assumption) rfl rfl rfl rfl (Nat.le_of_ble_eq_true rfl) (Nat.le_of_ble_eq_true rfl) (by k_mem) (by k_mem) (by k_mem) ?h95f G8 hov9 hov9 (fun _ => rfl) ?_
  case h95f => ((repeat' (first | exact ne_nil9 | refine ne_cons9 ?_ ?_)); all_goals (first | exact ne_nil9 | (dsimp only; first | omega | (simp only [LCg.Off1, and_true] at *; omega) | (trace_state; fail "apart9"))))
  intro h9 gs9 tk9 ps9 F9 N9 G9 B9
  clear hM hF9
  k_steps
  exact ret h9 gs9 tk9 ps9 F9.keep (N9 _ (.head _)).1 fun hb => B9 (B8 (B7 (B5 (B4 (B2 hb)))))
end
end Mine
end

section
open PySem PySem.W PyProof.Rows PySem.Calls PySem.Spec
set_option maxRecDepth 100000
set_option maxHeartbeats 4000000
namespace Mine
theorem k39_of {P : Params} {h : Heap} (X : Frag.In ((95, tabObj #[]) :: Mine.hd.heap_39 P) h) : (Mine.hd.heap_39 P).In h := fun a o e => by
  refine X a o ?_
  rw [List.lookup_cons]
  cases q : a == 95 with
  | false => exact e
  | true =>
    have e2 : a = 95 := eq_of_beq q
    subst e2
    have e3 : (Mine.hd.heap_39 P).lookup 95 = none := by kernel_rfl
    rw [e3] at e; cases e
theorem tabs95 {P : Params} {h : Heap} (X : Frag.In ((95, tabObj #[]) :: Mine.hd.heap_39 P) h) : TabsAt [(99, 95)] h := fun q hq => by
  obtain rfl := List.mem_singleton.mp hq
  exact ⟨⟨_, _, _, _, _, _, _, _, _, k39_of X 99 _ rfl, rfl, rfl, rfl, rfl, rfl, rfl, rfl, rfl, by decide⟩, X 95 _ rfl⟩
theorem old95 {h h' : Heap} {ps : Array Value} (hT : TabsAt [(99, 95)] h) (keep : ∀ b o, (ghostOf h [(99, 95)]).get? b = some o → h'.get? b = some o) (hP : h'.get? 95 = some (tabObj ps)) : OldK h h' := by
  have k : ∀ b o, b ≠ 95 → h.get? b = some o → h'.get? b = some o := fun b o hb e => keep b o (ghost_ne e (by simpa using hb))
  have e95 := (hT _ (.head _)).2
  refine ⟨fun b o e => ?_, fun b o e => ?_⟩
  · by_cases hb : b = 95
    · subst hb
      rw [e95] at e; cases e
      exact .inr (.inl ⟨((hT _ (.head _)).1.tab e95).isCodeTable, rfl, #[], ps, rfl, by rw [Array.empty_append]; exact hP⟩)
    · exact .inl (k b o hb e)
  · by_cases hb : b = 95
    · subst hb; exact ⟨_, hP⟩
    · exact ⟨o, k b o hb e⟩
end Mine
end
open PySem PySem.W PyProof.Rows PySem.Calls PySem.Spec Mine
set_option maxRecDepth 100000 in
set_option maxHeartbeats 8000000 in
theorem PySem.Challenge.cw_eg5034_01_holds : PySem.Challenge.rw_eg5034_01.Holds := by
  w_on
  o_law
  o_head (kHook (fun P => (95, tabObj #[]) :: Mine.hd.heap_39 P) [95, 2, 3, 15, 17, 18, 20, 21, 29, 31, 32, 33, 34, 36, 37, 39, 40, 41, 42, 43, 44, 46, 47, 49, 50, 51, 52, 53, 54, 56, 57, 59, 60, 61, 62, 63, 64, 66, 67, 69, 70, 71, 72, 73, 74, 75, 77, 78, 80, 81, 82, 84, 85, 87, 88, 89, 92, 93, 94, 96, 97, 99, 100, 101, 103, 104, 106, 107, 108, 110, 111, 113, 114, 115, 116, 117, 118, 119, 122, 124, 125, 127, 128, 129, 131, 132, 134, 135, 136, 138, 139, 141, 142, 143, 145, 146, 148, 149, 150, 152, 153, 155, 156, 157, 159, 160, 162, 163, 164, 166, 167, 169, 170, 171, 173, 174, 176, 177, 178, 181, 182, 183, 186, 187, 188, 189, 191, 192, 194, 195, 196, 197, 199, 200, 202, 203, 204, 206, 207, 209, 210, 211, 213, 214, 216, 217, 218, 221, 222, 223, 226, 227, 228, 230, 231, 233, 234, 235, 238, 239] (fun _ => by kernel_rfl))
  case hw => w_witness2
  intro w s₀ s₁ mg mb G Y fa o pm cd doc dV kV ho hd hcd hD hmg hg args vals as hpre hlay hrd hwl hlo
  have KX := kIn_of Y
  (
  have X := (Ground.X G).1
  have V := (Ground.X G).2
  refine Ground.open G ?_
  intro T B D TE TW
  try (refine guard_noD D (by decide +kernel) ?_; clear D)
  wrow_args hpre hlay hrd hwl hlo
  all_goals (
    first | refine callC_kw (enter_call ?_) | refine enter_call ?_ | refine callC_kw (enter_callW ?_) | refine enter_callW ?_ | w_how))
  clear hd hcd hD
  rename Top _ _ _ _ _ _ => T
  rename Heap.IsList _ _ _ => hL
  rename IntsAre _ _ => hI
  have hT := tabs95 KX
  have K9 := k39_of KX
  have e9 : mg (Str.ofString "law") = some (.ref 239) := mg_of K9 T.g (by kernel_rfl)
  have hfa : fa = 239 := by
    have h := hmg.symm.trans e9
    injection h with h
    injection h with h
  subst hfa
  refine law_core (g := ghostOf s₁.heap [(99, 95)]) (hideAll_size _ _) (fun b o e => of_hideAll _ e) (ghost_K hT K9 (by kernel_rfl)) (ghost_top hT T) (KX 95 _ rfl) (hideAll_none _ (by simp)) (ghost_list hT hL) hI (by omega) ?_
  intro h' gs' tk' ps' keep hP hb
  refine ⟨.inl ⟨.bool true, ofPy (.bool true), [], rfl, fun _ => rfl, readsW_of_reads (Reads.bool true), ?_, fun _ => ⟨List.nodup_nil, fun a ha => nomatch ha⟩⟩, old95 hT keep hP, rfl, hb (AllBare.of_eq hg)⟩
  first
    | rfl
    | kernel_rfl
    | (trace_state; fail "post")
