import PyProof.Rows.All
import Wide.All
import OpenK.AllK
import Wide.FinOn
import PySem.Challenge.RW_nq0055_01
set_option Elab.async false
section Head1
open PySem PySem.W PyProof.Rows
set_option Elab.async false
namespace Mine
set_option maxRecDepth 100000 in
set_option maxHeartbeats 8000000 in
open_top hd for PySem.Challenge.rw_nq0055_01
end Mine

end Head1
/-! Base1 -/
section Base1
open PySem PySem.W PyProof.Rows PyProof.V PySem.Spec PySem.Calls
set_option Elab.async false
set_option maxRecDepth 100000
namespace Mine

/-! two lists of texts compared -/
def okS (x : Str) : Prop := PySem.PyData.strOk x = true
theorem canLayAll0_strs : ∀ ns : List Str, (∀ x ∈ ns, okS x) → PyData.canLayAll0 (ns.map PyData.str) = true
  | [], _ => rfl
  | a :: r, h => by
    have h1 := canLayAll0_strs r fun x hx => h x (.tail _ hx)
    have h2 : PySem.PyData.strOk a = true := h a (.head _)
    simp [PyData.canLayAll0, PyData.canLay0, h1, h2]
theorem depthAll_strs : ∀ ns : List Str, PyData.depthAll (ns.map PyData.str) = 0
  | [] => rfl
  | _ :: r => by simp [PyData.depthAll, PyData.depth, depthAll_strs r]
theorem shaped_strs (ns : List Str) (h : ∀ x ∈ ns, okS x) : SeqAt.shaped (.list (ns.map PyData.str)) = true := by
  simp [SeqAt.shaped, PyData.canLay0, PyData.depth, canLayAll0_strs ns h, depthAll_strs]
theorem sameAll_strs : ∀ ns ms : List Str, PySem.Spec.sameAll (ns.map PyData.str) (ms.map PyData.str) = decide (ns = ms)
  | [], [] => by simp [PySem.Spec.sameAll]
  | [], _ :: _ => by simp [PySem.Spec.sameAll]
  | _ :: _, [] => by simp [PySem.Spec.sameAll]
  | a :: r, b :: t => by
    simp only [List.map_cons, PySem.Spec.sameAll, PySem.Spec.same, sameAll_strs r t]
    by_cases h : a = b <;> by_cases h' : r = t <;> simp [h, h']
theorem same_strs (ns ms : List Str) : PySem.Spec.same (.list (ns.map PyData.str)) (.list (ms.map PyData.str)) = decide (ns = ms) := by
  simp only [PySem.Spec.same]; exact sameAll_strs ns ms
theorem carried_strs : ∀ {vs : List Value} {ns : List Str}, StrsAre vs ns → CarriedAll vs (ns.map PyData.str)
  | _, _, .nil => .nil
  | _, _, .cons _ t r => .cons (.str _ t) (carried_strs r)
section
variable {prog : Program} {w : World} {A : Around} {E : Value → Shared → Prop} {s : Shared} {a b : Addr} {xs ys : List Value} {ns ms : List Str} {Q : Value → Shared → Prop}
theorem ne_strs (ha : s.heap.IsList a xs.toArray) (hb : s.heap.IsList b ys.toArray) (hi : StrsAre xs ns) (hj : StrsAre ys ms) (ok1 : ∀ x ∈ ns, okS x) (he : ns = ms) (hu : A.units + 64 < cLine) (h : Q (.bool false) s) :
    wpAny (model prog w) A (compareOp .NotEq (.ref a) (.ref b)) Q E s :=
  ne_dataH_same (reads_newData ha (carried_strs hi)) (reads_newData hb (carried_strs hj)) (shaped_strs _ ok1) (shaped_strs _ (he ▸ ok1)) hu (SeqAt.noMix_of_shape (.list .str) rfl _ _ (list_map_has fun _ => rfl) (list_map_has fun _ => rfl)) (by rw [same_strs]; simp only [he, decide_true, Bool.not_true]; exact h)
end
end Mine

end Base1
/-! Ro -/
section Ro
open PySem PySem.W PyProof.Rows PyProof.V PySem.Spec PySem.Calls
set_option Elab.async false
set_option maxRecDepth 100000
namespace Mine
section
variable {prog : Program} {w : World} {A A₀ : Around} {E : Value → Shared → Prop} {s : Shared} {K : Frag} {L : Addr} {h₀ base : Heap} {m mg mb : Str → Option Value} {news : List (Addr × Obj)} {p : Program} {loose : List Str} {mean : ExcName → Option Value} {Q : Value → Shared → Prop}
theorem call_ro {env : Env} {outer : List Env} {name qual : Str} {params : Arguments} {body : List Stmt} {scope : Scope} {dV kV doc pm cdv ct oc : Value} {an od : Option Addr} {osl : Array (Option Value)} {f : Addr} {vals : List Value} {binds : List (Str × Value)}
    (B : Below A₀ base outer h₀) (F : Fr h₀ L s.heap m) (X₀ : K.In h₀) (N : News h₀ L s.heap news) (T : Top p loose mean mg mb h₀) (hA : A.frames = some (env :: outer)) (hf : env.frame = some L) (hke : env.scope.kind = .function)
    (ho : K.lookup f = some ⟨oc, od, .func (fnOf name qual params body scope dV kV doc pm an cdv ct), osl⟩) (hcd : codeIn K cdv qual = true) (hroom : A.depth < recursionLimit)
    (hbind : BindsTo s (fnOf name qual params body scope dV kV doc pm an cdv ct) ⟨vals, []⟩ binds) (hloc : ∀ y ∈ binds, scope.names.lookup y.1 = some .local)
    (h : ∀ g L' h₁, Fr g L' h₁ (fun y => binds.reverse.lookup y) → News g L' h₁ [] → Below A base (env :: outer) g → K.In g → Top p loose mean mg mb g → s.heap.StaysIn g →
      wpAny (model prog w) (A.deeper (envOf qual scope L' f cdv)) (execs body (envOf qual scope L' f cdv))
        (fun fl s' => LeaveK h₀ L m g (fun r s' => News h₀ L s'.heap news → match r with | .ok (.ret v) => Q v s' | .ok _ => False | .error e => E e s') (match fl with | .ret v => v | _ => .none) s')
        (fun e s' => wpAny (model prog w) (A.deeper (envOf qual scope L' f cdv)) (leaving (envOf qual scope L' f cdv) e) (fun _ s'' => E e s'') (fun e' s'' => E e' s'') s')
        { s with heap := h₁, toks := s.toks + binds.length })
    (hco : scope.isCoroutine = false) (hgen : scope.isGenerator = false) (hk : scope.kind = .function)
    (hcell : ∀ x ∈ scope.names, x.2 ≠ .cell) : wpAny (model prog w) A (call (.ref f) vals) Q E s := by
  refine wpAny_call ?_
  obtain ⟨FG, BG, st, lv⟩ := groundX (s := s) (R := fun r s' => News h₀ L s'.heap news → match r with | .ok (.ret v) => Q v s' | .ok _ => False | .error e => E e s') B F (News.nil (h := s.heap)) hA hf hke
  have hX := X₀.keeps F.keep
  refine codeAny_call_def (fd := fnOf name qual params body scope dV kV doc pm an cdv ct) (body := body) (binds := binds) hroom (hX _ _ ho) rfl (T.nolimit.keeps F.keep) (codeRec_of hX hcd) rfl hbind hcell hloc (fun h₁ hns hk₁ => ?_) hco hgen hk
  refine wpAny_mono (h s.heap s.heap.objs.size h₁ ⟨hns, fun b o e => hk₁ b o e, Nat.le_refl _⟩ News.nil BG hX (T.keeps F.keep) (fun _ _ e => e)) (fun fl s' hl => ?_) fun _ _ y => y
  refine lv _ _ hl fun q hq => ?_
  obtain ⟨L', m', news', F', N', k⟩ := hl
  exact ⟨F'.keep _ _ (N q hq).1, (N q hq).2⟩
/-- a list made by the callee, on the caller's ledger -/
theorem news_join {h₀ h' : Heap} {L : Addr} {news own : List (Addr × Obj)} {q : Addr × Obj} (N₁ : News h₀ L h' own) (hq : q ∈ own) (N₂ : News h₀ L h' news) : News h₀ L h' (q :: news) := fun z hz => by
  rcases List.mem_cons.mp hz with rfl | hz
  · exact N₁ _ hq
  · exact N₂ _ hz
theorem fr_one {g h : Heap} {L' : Addr} {n : Str} {v : Value} (F : Fr g L' h (fun y => ([(n, v)] : List (Str × Value)).reverse.lookup y)) : Fr g L' h (fun y => if y = n then some v else none) := by
  have e : (fun y => if y = n then some v else none) = fun y => ([(n, v)] : List (Str × Value)).reverse.lookup y := by
    funext y
    by_cases h : y = n
    · simp [h, List.lookup]
    · have : (y == n) = false := by simpa using h
      simp [h, List.lookup, this]
  rw [e]; exact F
theorem fr_two {g h : Heap} {L' : Addr} {n n' : Str} {v v' : Value} (F : Fr g L' h (fun y => ([(n, v), (n', v')] : List (Str × Value)).reverse.lookup y)) : Fr g L' h (fun y => if y = n' then some v' else if y = n then some v else none) := by
  have e : (fun y => if y = n' then some v' else if y = n then some v else none) = fun y => ([(n, v), (n', v')] : List (Str × Value)).reverse.lookup y := by
    funext y
    by_cases h' : y = n'
    · simp [h', List.lookup]
    · have t' : (y == n') = false := by simpa using h'
      by_cases h : y = n
      · have t : (n == n') = false := by rw [← h]; exact t'
        simp [h, List.lookup, t, h ▸ h']
      · have t : (y == n) = false := by simpa using h
        simp [h, h', List.lookup, t, t']
  rw [e]; exact F
end
end Mine

end Ro
/-! Comp -/
section Comp
open PySem PySem.W PyProof.Rows PyProof.V PySem.Spec PySem.Calls
set_option Elab.async false
set_option maxRecDepth 100000
namespace Mine
section
variable {prog : Program} {w : World} {A : Around} {h₀ : Heap} {L : Addr} {m : Str → Option Value} {env : Env} {elt : Expr} {x : Str} {scope : Scope} {cl : List (Str × Addr)} {s : Shared} {S : List (Addr × Obj) → Prop} {P : Nat → Value → Prop} {Fin : List Value → List (Addr × Obj) → Prop} {news : List (Addr × Obj)}
theorem rest_gen {n : Nat} (ws : List Str) (hws : ws.length = n)
    (turn : ∀ i r v I oI C oC D m₂ ys h tk (E' : Value → Shared → Prop), ws[i]? = some r → P i v → LCg.NsObj oC m₂ → m₂ x = some v → Fr h₀ L h m → News h₀ L h ((I, oI) :: (C, oC) :: (D, LCg.lst ys) :: news) → LCg.Off3 I C D news → ((@Ne Nat I C) ∧ (@Ne Nat I D) ∧ (@Ne Nat C D)) →
      wpAny (model prog w) A (eval elt (compEnvC scope cl C env)) (LCg.CompEnd h₀ L m { s with heap := h, toks := tk } I oI C oC D (LCg.lst ys) S (fun y news' => KCtEl news r y news')) E' { s with heap := h, toks := tk })
    (fin : ∀ ys, StrsAre ys ws → Fin ys news) : LCg.CompRest prog w A h₀ L m env elt x scope cl s S P Fin n 0 [] news := by
  have key : ∀ (j i : Nat) (ys : List Value), i + j = n → StrsAre ys (ws.take i) → LCg.CompRest prog w A h₀ L m env elt x scope cl s S P Fin j i ys news := by
    intro j
    induction j with
    | zero =>
      intro i ys hi hy
      have e : i = ws.length := by omega
      subst e
      rw [List.take_length] at hy
      exact LCg.CompRest.zero (fin ys hy)
    | succ j ih =>
      intro i ys hi hy
      refine LCg.CompRest.succ ?_
      intro v I oI C oC D m₂ h tk E' hv hC hx F N off ne
      have hr : ws[i]? = some (ws[i]'(by omega)) := List.getElem?_eq_getElem (by omega)
      refine wpAny_mono (turn i _ v I oI C oC D m₂ ys h tk E' hr hv hC hx F N off ne) (fun y s₂ hq => ?_) fun _ _ e => e
      obtain ⟨h', tk', nw, e, F', N', off', hS, hn, t', hy'⟩ := hq
      rw [hn] at N' off' hS
      refine ⟨h', tk', news, e, F', N', off', hS, ?_⟩
      rw [hy']
      refine ih (i + 1) _ (by omega) ?_
      have e1 : ws.take (i + 1) = ws.take i ++ [ws[i]'(by omega)] := by rw [List.take_add_one, hr]; rfl
      rw [e1]
      exact kct_snoc hy
  exact key n 0 [] (by omega) (by simp only [List.take_zero]; exact .nil)
theorem strs_at : ∀ {vs : List Value} {ws : List Str}, StrsAre vs ws → ∀ (i : Nat) (v : Value), vs[i]? = some v → ∃ y t, v = Value.str y t ∧ ws[i]? = some y
  | _, _, .nil, _, _, h => by simp at h
  | _, _, .cons y t r, 0, v, h => ⟨y, t, by simpa using h.symm, by simp⟩
  | _, _, .cons y t r, i + 1, v, h => by simpa using strs_at r i v (by simpa using h)
theorem rest_strs {vs : List Value} {us : List Str} (g : Str → Str) (hi : StrsAre vs us)
    (turn : ∀ (u : Str) (t : Tok) I oI C oC D m₂ ys h tk (E' : Value → Shared → Prop), u ∈ us → LCg.NsObj oC m₂ → m₂ x = some (.str u t) → Fr h₀ L h m → News h₀ L h ((I, oI) :: (C, oC) :: (D, LCg.lst ys) :: news) → LCg.Off3 I C D news → ((@Ne Nat I C) ∧ (@Ne Nat I D) ∧ (@Ne Nat C D)) →
      wpAny (model prog w) A (eval elt (compEnvC scope cl C env)) (LCg.CompEnd h₀ L m { s with heap := h, toks := tk } I oI C oC D (LCg.lst ys) S (fun y news' => KCtEl news (g u) y news')) E' { s with heap := h, toks := tk })
    (fin : ∀ ys, StrsAre ys (us.map g) → Fin ys news) : LCg.CompRest prog w A h₀ L m env elt x scope cl s S (fun i v => vs.toArray[i]? = some v) Fin vs.toArray.size 0 [] news := by
  refine rest_gen (us.map g) (by rw [List.size_toArray, hi.length, List.length_map]) (fun i r v I oI C oC D m₂ ys h tk E' hr hv hC hx F N off ne => ?_) fin
  obtain ⟨y, t, rfl, hy⟩ := strs_at hi i v (by simpa using hv)
  rw [List.getElem?_map, hy] at hr
  have e : g y = r := by simpa using hr
  subst e
  exact turn y t I oI C oC D m₂ ys h tk E' (List.mem_of_getElem? hy) hC hx F N off ne
theorem rest_ints {vs : List Value} {us : List Int} (g : Int → Str) (hi : IntsAre vs us)
    (turn : ∀ (u : Int) (t : Tok) I oI C oC D m₂ ys h tk (E' : Value → Shared → Prop), u ∈ us → LCg.NsObj oC m₂ → m₂ x = some (.int u t) → Fr h₀ L h m → News h₀ L h ((I, oI) :: (C, oC) :: (D, LCg.lst ys) :: news) → LCg.Off3 I C D news → ((@Ne Nat I C) ∧ (@Ne Nat I D) ∧ (@Ne Nat C D)) →
      wpAny (model prog w) A (eval elt (compEnvC scope cl C env)) (LCg.CompEnd h₀ L m { s with heap := h, toks := tk } I oI C oC D (LCg.lst ys) S (fun y news' => KCtEl news (g u) y news')) E' { s with heap := h, toks := tk })
    (fin : ∀ ys, StrsAre ys (us.map g) → Fin ys news) : LCg.CompRest prog w A h₀ L m env elt x scope cl s S (fun i v => vs.toArray[i]? = some v) Fin vs.toArray.size 0 [] news := by
  refine rest_gen (us.map g) (by rw [List.size_toArray, hi.length, List.length_map]) (fun i r v I oI C oC D m₂ ys h tk E' hr hv hC hx F N off ne => ?_) fin
  obtain ⟨y, t, rfl, hy⟩ := IntsAre.at hi i v (by simpa using hv)
  rw [List.getElem?_map, hy] at hr
  have e : g y = r := by simpa using hr
  subst e
  exact turn y t I oI C oC D m₂ ys h tk E' (List.mem_of_getElem? hy) hC hx F N off ne
theorem rest_range {n : Nat} (g : Nat → Str)
    (turn : ∀ (u : Nat) (t : Tok) I oI C oC D m₂ ys h tk (E' : Value → Shared → Prop), u < n → LCg.NsObj oC m₂ → m₂ x = some (.int (u : Int) t) → Fr h₀ L h m → News h₀ L h ((I, oI) :: (C, oC) :: (D, LCg.lst ys) :: news) → LCg.Off3 I C D news → ((@Ne Nat I C) ∧ (@Ne Nat I D) ∧ (@Ne Nat C D)) →
      wpAny (model prog w) A (eval elt (compEnvC scope cl C env)) (LCg.CompEnd h₀ L m { s with heap := h, toks := tk } I oI C oC D (LCg.lst ys) S (fun y news' => KCtEl news (g u) y news')) E' { s with heap := h, toks := tk })
    (fin : ∀ ys, StrsAre ys ((List.range n).map g) → Fin ys news) : LCg.CompRest prog w A h₀ L m env elt x scope cl s S (fun i v => ∃ t, v = .int (0 + (i : Int)) t) Fin n 0 [] news := by
  refine rest_gen ((List.range n).map g) (by simp) (fun i r v I oI C oC D m₂ ys h tk E' hr hv hC hx F N off ne => ?_) fin
  obtain ⟨t, rfl⟩ := hv
  rw [Int.zero_add] at hx
  rw [List.getElem?_map] at hr
  cases hq : (List.range n)[i]? with
  | none => rw [hq] at hr; simp at hr
  | some k =>
    rw [hq] at hr
    have hk : k = i ∧ i < n := by
      have := List.getElem?_eq_some_iff.mp hq
      obtain ⟨h1, h2⟩ := this
      simp at h1 h2
      exact ⟨h2.symm, h1⟩
    obtain ⟨rfl, hlt⟩ := hk
    have e : g k = r := by simpa using hr
    subst e
    exact turn k t I oI C oC D m₂ ys h tk E' hlt hC hx F N off ne
end
end Mine

end Comp
/-! Parse -/
section Parse
open PySem PySem.W PyProof.Rows PyProof.V PySem.Spec PySem.Calls
set_option Elab.async false
set_option maxRecDepth 100000
namespace Mine
abbrev PSt : Type := List Str × Str × Bool × Bool
def c1 (c : Int) : Str := ⟨#[c.toNat]⟩
def pStep (st : PSt) (c : Int) : PSt :=
  if st.2.2.1 then (st.1, st.2.1 ++ c1 c, false, st.2.2.2)
  else if st.2.2.2 then
    if c = 92 then (st.1, st.2.1, true, true)
    else if c = 34 then (st.1, st.2.1 ++ c1 c, false, false)
    else (st.1, st.2.1 ++ c1 c, false, true)
  else if c = 44 then (st.1 ++ [st.2.1], Str.ofString "", false, false)
  else if c = 34 then (st.1, st.2.1 ++ c1 c, false, true)
  else (st.1, st.2.1 ++ c1 c, false, false)
def pRun (l : List Int) : PSt := l.foldl pStep ([], Str.ofString "", false, false)
def parseL (l : List Int) : List Str := if (pRun l).2.1 = Str.ofString "" then (pRun l).1 else (pRun l).1 ++ [(pRun l).2.1]
def parseS (x : Str) : List Str := (parseL (KStt.codes x)).map Txt.strip
theorem pRun_snoc (pre : List Int) (c : Int) : pRun (pre ++ [c]) = pStep (pRun pre) c := by simp [pRun, List.foldl_append]
theorem eq_chr {n c : Nat} {x : Str} (hx : x = ⟨#[c]⟩) : ((⟨#[n]⟩ : Str) == x) = decide (n = c) := by
  subst hx
  by_cases h : n = c
  · subst h; simp
  · have : ¬ ((⟨#[n]⟩ : Str) = ⟨#[c]⟩) := fun e => h (by simpa using e)
    simp [h, this]
theorem eq92 {n : Nat} : ((⟨#[n]⟩ : Str) == Str.ofString "\\") = decide (n = 92) := eq_chr (by decide +kernel)
theorem eq34 {n : Nat} : ((⟨#[n]⟩ : Str) == Str.ofString "\"") = decide (n = 34) := eq_chr (by decide +kernel)
theorem eq44 {n : Nat} : ((⟨#[n]⟩ : Str) == Str.ofString ",") = decide (n = 44) := eq_chr (by decide +kernel)
section
variable {pre : List Int} {res : List Str} {part : Str} {esc quote : Bool} {n : Nat} (h : (res, part, esc, quote) = pRun pre)
include h
theorem st_1 (he : esc = true) : (res, part ++ ⟨#[n]⟩, false, quote) = pRun (pre ++ [(n : Int)]) := by
  rw [pRun_snoc, ← h]; simp [pStep, he, c1]
theorem st_2 (he : esc = false) (hq : quote = true) (hc : ((⟨#[n]⟩ : Str) == Str.ofString "\\") = true) : (res, part, true, quote) = pRun (pre ++ [(n : Int)]) := by
  rw [eq92, decide_eq_true_eq] at hc
  rw [pRun_snoc, ← h]; simp [pStep, he, hq, hc]
theorem st_3 (he : esc = false) (hq : quote = true) (hd : ((⟨#[n]⟩ : Str) == Str.ofString "\\") = false) (hc : ((⟨#[n]⟩ : Str) == Str.ofString "\"") = true) : (res, part ++ ⟨#[n]⟩, esc, false) = pRun (pre ++ [(n : Int)]) := by
  rw [eq34, decide_eq_true_eq] at hc
  rw [pRun_snoc, ← h]; simp [pStep, he, hq, hc, c1]
theorem st_4 (he : esc = false) (hq : quote = true) (hd : ((⟨#[n]⟩ : Str) == Str.ofString "\\") = false) (hc : ((⟨#[n]⟩ : Str) == Str.ofString "\"") = false) : (res, part ++ ⟨#[n]⟩, esc, quote) = pRun (pre ++ [(n : Int)]) := by
  rw [eq34, decide_eq_false_iff_not] at hc
  rw [eq92, decide_eq_false_iff_not] at hd
  have hc' : ¬ ((n : Int) = 34) := by omega
  have hd' : ¬ ((n : Int) = 92) := by omega
  rw [pRun_snoc, ← h]; simp [pStep, he, hq, hc', hd', c1]
theorem st_5 (he : esc = false) (hq : quote = false) (hc : ((⟨#[n]⟩ : Str) == Str.ofString ",") = true) : (res ++ [part], Str.ofString "", esc, quote) = pRun (pre ++ [(n : Int)]) := by
  rw [eq44, decide_eq_true_eq] at hc
  rw [pRun_snoc, ← h]; simp [pStep, he, hq, hc]
theorem st_6 (he : esc = false) (hq : quote = false) (hd : ((⟨#[n]⟩ : Str) == Str.ofString ",") = false) (hc : ((⟨#[n]⟩ : Str) == Str.ofString "\"") = true) : (res, part ++ ⟨#[n]⟩, esc, true) = pRun (pre ++ [(n : Int)]) := by
  rw [eq34, decide_eq_true_eq] at hc
  rw [pRun_snoc, ← h]; simp [pStep, he, hq, hc, c1]
theorem st_7 (he : esc = false) (hq : quote = false) (hd : ((⟨#[n]⟩ : Str) == Str.ofString ",") = false) (hc : ((⟨#[n]⟩ : Str) == Str.ofString "\"") = false) : (res, part ++ ⟨#[n]⟩, esc, quote) = pRun (pre ++ [(n : Int)]) := by
  rw [eq34, decide_eq_false_iff_not] at hc
  rw [eq44, decide_eq_false_iff_not] at hd
  have hc' : ¬ ((n : Int) = 34) := by omega
  have hd' : ¬ ((n : Int) = 44) := by omega
  rw [pRun_snoc, ← h]; simp [pStep, he, hq, hc', hd', c1]
end
theorem ln_1 {part : Str} {n : Nat} {pre : List Int} {c : Int} (h : part.length ≤ pre.length) : (part ++ (⟨#[n]⟩ : Str)).length ≤ (pre ++ [c]).length := by
  have : Str.length ⟨#[n]⟩ = 1 := rfl
  rw [Str.length_append, List.length_append, this]; simp; omega
theorem ln_0 {part : Str} {pre : List Int} {c : Int} (h : part.length ≤ pre.length) : part.length ≤ (pre ++ [c]).length := by
  rw [List.length_append]; omega
theorem ln_2 {res : List Str} {pre : List Int} {c : Int} (h : res.length ≤ pre.length) : res.length ≤ (pre ++ [c]).length := by
  rw [List.length_append]; omega
theorem ln_3 {res : List Str} {part : Str} {pre : List Int} {c : Int} (h : res.length ≤ pre.length) : (res ++ [part]).length ≤ (pre ++ [c]).length := by
  rw [List.length_append, List.length_append]; simp; omega
theorem ln_4 {pre : List Int} : (Str.ofString "").length ≤ pre.length := by
  have : (Str.ofString "").length = 0 := by decide +kernel
  omega
theorem sz_add1 {x : Str} {n : Nat} (h : x.length < 2000) : x.length + Str.length ⟨#[n]⟩ ≤ sizeLine := by
  have : Str.length ⟨#[n]⟩ = 1 := rfl
  rw [sizeLine_eq, this]; omega
local macro_rules | `(tactic| walk_at "inplaceOp Add str str") => `(tactic| (refine SBL.iadd (hsz := sz_add1 (by assumption)) ?_; intro _ _ _))
local macro_rules | `(tactic| walk_at "eval ListComp") => `(tactic| (k_here; k_dflt (refine LCg.ListComp_U (F₀ := by k_asm) (by with_unfolding_all rfl) (by decide) (by rfl) (by decide) (by rfl) ?_)))
theorem len0 {part : Str} (h : part.length = 0) : part = Str.ofString "" := by
  have e : Str.ofString "" = ⟨#[]⟩ := by decide +kernel
  rw [e]
  obtain ⟨c⟩ := part
  have : c.size = 0 := h
  rw [Array.eq_empty_of_size_eq_zero this]
theorem parse_1 {x : Str} {res : List Str} {part : Str} {esc quote : Bool} (h : (res, part, esc, quote) = pRun (KStt.codes x)) (ht : (part.length : Int) ≠ 0) : parseS x = (res ++ [part]).map Txt.strip := by
  have hne : ¬ part = Str.ofString "" := fun e => ht (by rw [e]; decide +kernel)
  unfold parseS parseL
  rw [← h, if_neg hne]
theorem parse_2 {x : Str} {res : List Str} {part : Str} {esc quote : Bool} (h : (res, part, esc, quote) = pRun (KStt.codes x)) (ht : (part.length : Int) = 0) : parseS x = res.map Txt.strip := by
  have hne : part = Str.ofString "" := len0 (by omega)
  unfold parseS parseL
  rw [← h, if_pos hne]
theorem pRun_len (l : List Int) : (pRun l).2.1.length ≤ l.length ∧ ∀ u ∈ (pRun l).1, u.length ≤ l.length := by
  have key : ∀ (l pre : List Int) (st : PSt), st.2.1.length ≤ pre.length → (∀ u ∈ st.1, u.length ≤ pre.length) → (l.foldl pStep st).2.1.length ≤ pre.length + l.length ∧ ∀ u ∈ (l.foldl pStep st).1, u.length ≤ pre.length + l.length := by
    intro l
    induction l with
    | nil => intro pre st h1 h2; exact ⟨by simpa using h1, fun u hu => by simpa using h2 u hu⟩
    | cons c r ih =>
      intro pre st h1 h2
      have a1 : (st.2.1 ++ c1 c).length ≤ pre.length + 1 := by
        have : (c1 c).length = 1 := rfl
        rw [Str.length_append, this]; omega
      have a2 : ∀ u ∈ st.1, u.length ≤ pre.length + 1 := fun u hu => Nat.le_succ_of_le (h2 u hu)
      have a3 : ∀ u ∈ st.1 ++ [st.2.1], u.length ≤ pre.length + 1 := fun u hu => by
        rcases List.mem_append.mp hu with hu | hu
        · exact a2 u hu
        · rw [List.mem_singleton.mp hu]; omega
      have a4 : (Str.ofString "").length ≤ pre.length + 1 := by
        have : (Str.ofString "").length = 0 := by decide +kernel
        omega
      have s1 : (pStep st c).2.1.length ≤ (pre ++ [c]).length := by
        rw [List.length_append, List.length_singleton]
        unfold pStep
        split <;> first | exact a1 | (split <;> first | (split <;> first | exact a1 | exact a4 | (show st.2.1.length ≤ _; omega) | (split <;> first | exact a1 | exact a4)))
      have s2 : ∀ u ∈ (pStep st c).1, u.length ≤ (pre ++ [c]).length := by
        rw [List.length_append, List.length_singleton]
        unfold pStep
        split <;> first | exact a2 | (split <;> first | (split <;> first | exact a2 | exact a3 | (split <;> first | exact a2 | exact a3)))
      have := ih (pre ++ [c]) (pStep st c) s1 s2
      rw [List.length_append, List.length_singleton] at this
      rw [List.foldl_cons, List.length_cons]
      exact ⟨by omega, fun u hu => by have := this.2 u hu; omega⟩
  have := key l [] ([], Str.ofString "", false, false) (by decide +kernel) (fun u hu => by cases hu)
  simpa [pRun] using this
theorem sz_list {vs : List Value} {us : List Str} (h : StrsAre vs us) (h2 : us.length ≤ 2000) : vs.toArray.size ≤ sizeLine := by
  rw [List.size_toArray, h.length, sizeLine_eq]; omega
section
variable {w : World} {p : Program} {loose : List Str} {mean : ExcName → Option Value} {mg mb : Str → Option Value} {dp un : Nat} {gd : Option (List Code)} {cn : Str} {cs : Scope} {a : Addr} {ccd : Value} {cl : List (Str × Addr)} {outer : List Env} {A₀ : Around} {base h₀ : Heap} {L : Addr} {m : Str → Option Value} {news : List (Addr × Obj)} {s : Shared} {Q E : Value → Shared → Prop}
set_option maxHeartbeats 4000000 in
theorem parse_call {x : Str} {t0 : Tok}
    (B : Below A₀ base outer h₀) (F : Fr h₀ L s.heap m) (X : (hd.heap_39 w.params).In h₀) (N : News h₀ L s.heap news) (T : Top p loose mean mg mb h₀) (hk : cs.kind = .function)
    (hx : x.length ≤ 120) (hdp : dp + 3 < recursionLimit) (hun : un + 24 < cLine)
    (ret : ∀ r vs n h' tk', Fr h₀ L h' m → News h₀ L h' ((r, listOf vs.toArray n) :: news) → StrsAre vs (parseS x) → Q (.ref r) { s with heap := h', toks := tk' }) :
    wpAny (model Challenge.rw_nq0055_01.row.prog w) (ktrTop dp un gd cn cs L a ccd cl outer) (call (.ref 19) [.str x t0]) Q E s := by
  w_top off
  revert X; k_fill; intro X
  k_with "pyIter str" => (fail "by hand")
  k_with "state" => (refine ⟨?a, ?b, ?c⟩; (case a => first | exact st_1 (by assumption) (by assumption) | exact st_2 (by assumption) (by assumption) (by assumption) (by assumption) | exact st_3 (by assumption) (by assumption) (by assumption) (by assumption) (by assumption) | exact st_4 (by assumption) (by assumption) (by assumption) (by assumption) (by assumption) | exact st_6 (by assumption) (by assumption) (by assumption) (by assumption) (by assumption) | exact st_7 (by assumption) (by assumption) (by assumption) (by assumption) (by assumption)); (case b => first | exact ln_1 (by assumption) | exact ln_0 (by assumption)); (case c => exact ln_2 (by assumption)))
  k_dflt (refine' call_ro (binds := [(Str.ofString "s", .str x t0)]) ?k1 ?k2 ?k3 ?k4 ?k5 ?kA ?kF ?kK ?k6 ?k7 ?k8 ?k9 ?kB ?_ ?c2 ?c3 ?c4 ?c5; (case kA => exact rfl); (case kF => exact rfl); (case kK => assumption); (case k1 => k_asm); (case k2 => k_asm); (case k3 => k_asm); (case k4 => k_asm); (case k5 => k_asm); (case k6 => k_is); (case k7 => k_is); (case k8 => ktr_room); (case k9 => exact BindsTo.of_eq rfl); (case c5 => decide); (case kB => exact locs rfl); (case c2 => exact rfl); (case c3 => exact rfl); (case c4 => exact rfl); k_whole; intro g' L' h' F' N' B' X' T' S'; replace F' := fr_one F'; (try dsimp only); (try k_lift B'); (try k_fold))
  k_steps
  rename News _ _ _ _ => N1
  rename Fr _ _ _ _ => F1
  (with_unfolding_all refine' KStt.kst_text (σ := List Value × List Str × Nat × Str × Nat × Bool × Bool) (fun c => [(_, listOf c.1.toArray c.2.2.1)]) (fun c => [(Str.ofString "part", .str c.2.2.2.1 c.2.2.2.2.1), (Str.ofString "escape", .bool c.2.2.2.2.2.1), (Str.ofString "quote", .bool c.2.2.2.2.2.2)]) (fun c => StrsAre c.1 c.2.1) [] (fun pre c => (c.2.1, c.2.2.2.1, c.2.2.2.2.2.1, c.2.2.2.2.2.2) = pRun pre ∧ c.2.2.2.1.length ≤ pre.length ∧ c.2.1.length ≤ pre.length) ([], [], 0, Str.ofString "", _, false, false) rfl F1 N1 StrsAre.nil ?kk ?kp ?_ ?_)
  case kk => kst_all
  case kp => exact ⟨rfl, Nat.le_refl _, Nat.le_refl _⟩
  · rintro ⟨vs, res, n, part, tok, esc, quote⟩ kPre kPost kN kT kU kH kTk kOwn kEq kOff kFacts kInv kFr kNews
    dsimp only [kstB] at kFr kNews kOff kFacts kInv
    simp only [List.nil_append, List.cons_append, List.append_nil] at kNews
    simp only [List.map_cons, List.map_nil] at kOff
    have kMark := kstMark
    clear F1 N1
    have kLen : kPre.length < 120 := by
      have := congrArg List.length kEq
      simp only [KStt.codes_length, List.length_append, List.length_cons] at this
      omega
    obtain ⟨kI1, kI2, kI3⟩ := kInv
    have kP : part.length < 2000 := by omega
    try dsimp only
    try k_fold
    k_steps
    rename News _ _ _ _ => nE'
    rename Fr _ _ _ _ => fE'
    simp only [List.push_toArray] at nE'
    refine kst_end (vs ++ [.str part tok], res ++ [part], n + 1, Str.ofString "", _, esc, quote) fE' nE' (by kst_in) (by intro p hp; kst_mem) (by rfl) (StrsAre.append' kFacts (.cons _ _ .nil)) (by kst_all) (by kst_same) ⟨st_5 kI1 (by assumption) (by assumption) (by assumption), ln_4, ln_3 kI3⟩
  · rintro ⟨vs, res, n, part, tok, esc, quote⟩ kU kH kTk kFacts kInv kFr kNews
    dsimp only [kstB] at kFr kNews kFacts kInv
    have kMark := kstMark
    clear F1 N1
    obtain ⟨kI1, kI2, kI3⟩ := kInv
    rw [KStt.codes_length] at kI2 kI3
    have kP : part.length < 2000 := by omega
    try dsimp only
    try k_fold
    k_with "CompSrc" => (fail "by hand")
    k_steps
    · rename News _ _ _ _ => nE
      rename Fr _ _ _ _ => fE
      rename _ ≠ _ => hne
      simp only [List.push_toArray] at nE
      have hS := StrsAre.append' kFacts (StrsAre.cons part tok .nil)
      refine LCg.CompSrc.ledger rfl fE nE (.head _) (sz_list hS (by simp; omega)) ?_
      intro g9
      refine rest_strs Txt.strip hS (fun u t I oI C oC D m₂ ys h tk E' hu hC hx F N off ne => ?_) (fun ys hys => ?_)
      · have hu9 : u.length ≤ 120 := by
          have := pRun_len (KStt.codes x)
          rw [← kI1, KStt.codes_length] at this
          rcases List.mem_append.mp hu with hu | hu
          · exact Nat.le_trans (this.2 u hu) (by assumption)
          · rw [List.mem_singleton.mp hu]; exact Nat.le_trans this.1 (by assumption)
        k_steps
        exact LCg.CompEnd.intro F N _ (fun p hp => hp) off (.inr ⟨_, .head _, rfl, _, rfl⟩) ⟨rfl, _, rfl⟩
      · intro D h tk F N off
        exact leaveK_ F N fun kF kN hN => ret D ys ys.length h tk kF (news_join kN (.head _) hN) (by rw [parse_1 kI1 hne]; exact hys)
    · rename News _ _ _ _ => nE
      rename Fr _ _ _ _ => fE
      rename _ = (0 : Int) => hne
      refine LCg.CompSrc.ledger rfl fE nE (.head _) (sz_list kFacts (by omega)) ?_
      intro g9
      refine rest_strs Txt.strip kFacts (fun u t I oI C oC D m₂ ys h tk E' hu hC hx F N off ne => ?_) (fun ys hys => ?_)
      · have hu9 : u.length ≤ 120 := by
          have := pRun_len (KStt.codes x)
          rw [← kI1, KStt.codes_length] at this
          exact Nat.le_trans (this.2 u hu) (by assumption)
        k_steps
        exact LCg.CompEnd.intro F N _ (fun p hp => hp) off (.inr ⟨_, .head _, rfl, _, rfl⟩) ⟨rfl, _, rfl⟩
      · intro D h tk F N off
        exact leaveK_ F N fun kF kN hN => ret D ys ys.length h tk kF (news_join kN (.head _) hN) (by rw [parse_2 kI1 hne]; exact hys)
end
end Mine

end Parse
/-! Enum -/
section Enum
open PySem PySem.W PyProof.Rows PyProof.V PySem.Spec PySem.Calls
open AutoSeq1 (wpAny_loadPart')
set_option Elab.async false
set_option maxRecDepth 100000
namespace Mine
section
variable {prog : Program} {w : World} {A : Around} {E : Value → Shared → Prop} {s : Shared}
/-- one draw of a tuple's iterator, as enumerate asks it -/
theorem draw_tup {it t : Addr} {i : Nat} {items : Array Value} {x : Value} {Q : Value → Shared → Prop} (hit : s.heap.IsTupleIter it t i) (ht : s.heap.IsTuple t items) (hx : items[i]? = some x)
    (hQ : ∀ h', h'.IsTupleIter it t (i + 1) → Heap.SameBut it s.heap h' → Q x { s with heap := h' }) :
    wpAny (model prog w) A (Builtin.SmallTypes.nextOf (.ref it)) Q E s := by
  obtain ⟨o, ho, hc, hd⟩ := id hit
  obtain ⟨ol, hol, _, nl, hdl⟩ := ht
  unfold Builtin.SmallTypes.nextOf
  refine wpAny_bind (wpAny_callSpecial?_slot (name := Str.ofString "__next__") hit.typeIs F.slot_tuple_iterator_next
    (wpAny_call_entry F.slot_tuple_iterator_next hit.typeIs F.entry_tuple_iterator_next ?_ (F.args_tuple_iterator_next_1 _)))
  show wpAny _ _ (field (.ref it) 0 >>= _) _ _ s
  refine wpAny_bind (wpAny_field ho hd (x := .ref t) rfl ?_)
  show wpAny _ _ (if (Value.ref t == Value.none) = true then _ else _) _ _ s
  rw [if_neg (show ¬ ((Value.ref t == Value.none) = true) from Bool.false_ne_true)]
  show wpAny _ _ (field (.ref it) 1 >>= _) _ _ s
  refine wpAny_bind (wpAny_field ho hd (x := .int i 0) rfl ?_)
  show wpAny _ _ (seqItems? (.ref t) >>= _) _ _ s
  refine wpAny_bind (wpAny_seqItems hol hdl ?_)
  simp only [Int.toNat_natCast, hx]
  refine wpAny_bind (wpAny_setField ho hd (by simp) (wpAny_pure ⟨x, rfl, wpAny_pure (hQ _ ?_ (Heap.SameBut.update ..))⟩))
  exact ⟨_, Heap.get?_update_self _ ho (Obj.isFreed_of_fields (Obj.data_mapFields hd _)), (Obj.cls_mapFields ..).trans hc, by rw [Obj.data_mapFields hd]; simp [rawInt]⟩
theorem draw_tup_end {it t : Addr} {i : Nat} {items : Array Value} {Q : Value → Shared → Prop} (hh : A.handled = none) (hit : s.heap.IsTupleIter it t i) (ht : s.heap.IsTuple t items) (hx : items[i]? = none)
    (hE : ∀ h' e, Heap.ExtBut it s.heap h' → (∃ o, h'.get? e = some o ∧ o.cls = .type "StopIteration") → E (.ref e) { s with heap := h' }) :
    wpAny (model prog w) A (Builtin.SmallTypes.nextOf (.ref it)) Q E s := by
  obtain ⟨o, ho, hc, hd⟩ := id hit
  obtain ⟨ol, hol, _, nl, hdl⟩ := ht
  unfold Builtin.SmallTypes.nextOf
  refine wpAny_bind (wpAny_callSpecial?_slot (name := Str.ofString "__next__") hit.typeIs F.slot_tuple_iterator_next
    (wpAny_call_entry F.slot_tuple_iterator_next hit.typeIs F.entry_tuple_iterator_next ?_ (F.args_tuple_iterator_next_1 _)))
  show wpAny _ _ (field (.ref it) 0 >>= _) _ _ s
  refine wpAny_bind (wpAny_field ho hd (x := .ref t) rfl ?_)
  show wpAny _ _ (if (Value.ref t == Value.none) = true then _ else _) _ _ s
  rw [if_neg (show ¬ ((Value.ref t == Value.none) = true) from Bool.false_ne_true)]
  show wpAny _ _ (field (.ref it) 1 >>= _) _ _ s
  refine wpAny_bind (wpAny_field ho hd (x := .int i 0) rfl ?_)
  show wpAny _ _ (seqItems? (.ref t) >>= _) _ _ s
  refine wpAny_bind (wpAny_seqItems hol hdl ?_)
  simp only [Int.toNat_natCast, hx]
  refine wpAny_bind (wpAny_rule (wpAny_bind (wpAny_setField ho hd (by simp) ?_)))
  show wpAny _ _ (newExc (.type "StopIteration") [] >>= _) _ _ _
  refine wpAny_bind ?_
  simp only [newExc, newTuple]
  refine wpAny_bind (wpAny_newObj_type ?_ (by size_fits))
  refine wpAny_bind (m := firstArgMember _ _) (wpAny_of_eq (a := Value.none) (by first | rfl | (simp only [firstArgMember]; rfl)) ?_)
  refine wpAny_newObj_type ?_ (by size_fits)
  simp only [raiseNew]
  refine wpAny_bind (wpAny_handled ?_)
  first | rw [show A.in1.handled = none from hh] | rw [hh]
  refine wpAny_bind (wpAny_pure (wpAny_throw ?_))
  exact hE _ _ (((Heap.SameBut.update ..).extBut.push _).push _) ⟨_, Heap.get?_push_size _ rfl, rfl⟩
theorem draws_tup (hh : A.handled = none) (it t : Addr) (hne : t ≠ it) (items : Array Value) :
    Draws prog w A it [it, t] items.size (fun i v => items[i]? = some v) (fun i h => h.IsTupleIter it t i ∧ h.IsTuple t items) where
  live := fun _ _ st => let ⟨o, ho, _⟩ := st.1; ⟨o, ho⟩
  frame := fun _ _ _ st hk => ⟨st.1.at fun o e => hk it (by simp) o e, st.2.at fun o e => hk t (by simp) o e⟩
  item := fun i s Q E hi st hQ => by
    refine draw_tup st.1 st.2 (x := items[i]) (by simp [hi]) fun h' hit' hs' => ?_
    exact hQ _ h' s.toks (by simp [hi]) ⟨hit', st.2.extBut hs'.extBut hne⟩ hs'
  done := fun s Q E st hE => draw_tup_end hh st.1 st.2 (by simp) hE
end
theorem meets_enum_tup (l : Addr) (items : Array Value) (n : Nat) (dct : Option Addr) (sl : Array (Option Value)) :
    Meets (Builtin.«enumerate.__new__» ⟨[.type "enumerate", .ref l], []⟩) (fun _ R s => s.heap.get? l = some { cls := .type "tuple", dict := dct, data := .seq items n, slots := sl } ∧
      R (.ok (.ret (.ref (s.heap.push { cls := .type "tuple_iterator", data := .fields #[.ref l, .int 0 0] }).objs.size)))
        { s with heap := (s.heap.push { cls := .type "tuple_iterator", data := .fields #[.ref l, .int 0 0] }).push { cls := .type "enumerate", data := .fields #[.none, .bool false, .ref s.heap.objs.size, rawInt 0, .none, .none] } }) :=
  .of_wp fun prog w A R s h => by
    obtain ⟨hp, g, d, tk, os⟩ := s; obtain ⟨hl, h⟩ := h
    have hsub := sub_enumerate
    have hL : Heap.IsTuple (Shared.heap ⟨hp, g, d, tk, os⟩) l items := ⟨_, hl, rfl, n, rfl⟩
    wp_walk using wpAny_loadPart' hl
    refine wpAny_stack_any fun st => wpAny_pure ?_
    split
    · rename_i c _ _ _ _ _
      cases (c == Value.type "enumerate")
      · wp_walk using wpAny_loadPart' hl, wpAny_pyIter_tuple hL
        exact ⟨_, rfl, h⟩
      · wp_walk using wpAny_loadPart' hl, wpAny_pyIter_tuple hL
        exact ⟨_, rfl, h⟩
    · wp_walk using wpAny_loadPart' hl, wpAny_pyIter_tuple hL
      exact ⟨_, rfl, h⟩
section
variable {prog : Program} {w : World} {A : Around} {E : Value → Shared → Prop} {s : Shared}
theorem call_enum_tup {l : Addr} {items : Array Value} {Q : Value → Shared → Prop} (hL : s.heap.IsTuple l items)
    (h : ∀ h', IsEnum h' (s.heap.objs.size + 1) s.heap.objs.size 0 .none → h'.IsTupleIter s.heap.objs.size l 0 → h'.objs.size = s.heap.objs.size + 2 →
      (∀ b o, s.heap.get? b = some o → h'.get? b = some o) → Q (.ref (s.heap.objs.size + 1)) { s with heap := h' }) :
    wpAny (model prog w) A (call (.type "enumerate") [.ref l]) Q E s := by
  obtain ⟨⟨c, dct, dt, sl⟩, hl, hc, n, hd⟩ := hL
  replace hc : c = .type "tuple" := hc
  replace hd : dt = .seq items n := hd
  subst hc hd
  refine callType_new F.called_enumerate (by decide) (F.typeCall_enumerate_1 _) (F.newCall_enumerate_1 _) (fun obj => F.args_object_init_2 obj _) F.entry_enumerate_new
    (meets_enum_tup l items n dct sl) ⟨hl, ?_⟩
  have hz : (s.heap.push { cls := .type "tuple_iterator", data := .fields #[.ref l, .int 0 0] }).objs.size = s.heap.objs.size + 1 := Heap.size_push ..
  show _ ∧ _
  rw [hz]
  have he : IsEnum ((s.heap.push { cls := .type "tuple_iterator", data := .fields #[.ref l, .int 0 0] }).push
      { cls := .type "enumerate", data := .fields #[.none, .bool false, .ref s.heap.objs.size, rawInt 0, .none, .none] }) (s.heap.objs.size + 1) s.heap.objs.size 0 .none := by
    have := Heap.get?_push_size (s.heap.push { cls := .type "tuple_iterator", data := .fields #[.ref l, .int 0 0] })
      (o := { cls := .type "enumerate", data := .fields #[.none, .bool false, .ref s.heap.objs.size, rawInt 0, .none, .none] }) rfl
    rw [hz] at this; exact this
  exact ⟨⟨_, he, rfl⟩, h _ he ⟨_, Heap.get?_push_of_some _ (Heap.get?_push_size _ rfl), rfl, rfl⟩ (by rw [Heap.size_push, hz]) fun b o x => Heap.get?_push_of_some _ (Heap.get?_push_of_some _ x)⟩
end
end Mine

end Enum
/-! Loops -/
section Loops
open PySem PySem.W PyProof.Rows PyProof.V PySem.Spec PySem.Calls
set_option Elab.async false
set_option maxRecDepth 100000
namespace Mine
section
variable {prog : Program} {w : World} {A : Around} {E : Value → Shared → Prop} {s : Shared} {env : Env} {h₀ : Heap} {target : Expr} {body orelse : List Stmt} {Q : Flow → Shared → Prop}
/-- the end of a turn: the loop's own objects stand, J of the rest -/
def TurnEnd (h₀ : Heap) (L : Addr) (own : List (Addr × Obj)) (J : (Str → Option Value) → List (Addr × Obj) → Prop) (s₁ s₂ : Shared) : Prop :=
  ∃ h' tk m' news', s₂ = { s₁ with heap := h', toks := tk } ∧ Fr h₀ L h' m' ∧ News h₀ L h' (own ++ news') ∧ (∀ p ∈ news', ∀ q ∈ own, p.1 ≠ q.1) ∧ J m' news'
def TurnPost (h₀ : Heap) (L : Addr) (own : List (Addr × Obj)) (J : (Str → Option Value) → List (Addr × Obj) → Prop) (s₁ : Shared) (Q : Flow → Shared → Prop) (f : Flow) (s₂ : Shared) : Prop :=
  match f with
  | .ret v => Q (.ret v) s₂
  | .brk => Q .next s₂
  | _ => TurnEnd h₀ L own J s₁ s₂
theorem loop_tup {R : Result → Shared → Prop} {I ax : Addr} {vs : List Value} {m : Str → Option Value} {news : List (Addr × Obj)} (hh : A.handled = none) (hne : ax ≠ I) (hl : h₀.IsTuple ax vs.toArray) (hI : h₀.get? I = none) (hIL : env.locals ≠ I)
    (hst : s.heap.IsTupleIter I ax 0) (hnw : ∀ p ∈ news, p.1 ≠ I) (F : Fr h₀ env.locals s.heap m) (N : News h₀ env.locals s.heap news)
    (J : Nat → (Str → Option Value) → List (Addr × Obj) → Prop) (h0 : J 0 m news)
    (step : ∀ i v m₁ news₁ h₁ tk₁ oI, vs[i]? = some v → J i m₁ news₁ → (∀ p ∈ news₁, p.1 ≠ I) → oI.cls = .type "tuple_iterator" → Fr h₀ env.locals h₁ m₁ → News h₀ env.locals h₁ ((I, oI) :: news₁) →
      wpAny (model prog w) A (assign target env v) (fun _ s₂ => wpAny (model prog w) A (execs body env)
        (TurnPost h₀ env.locals [(I, oI)] (J (i + 1)) { s with heap := h₁, toks := tk₁ } (fun f s' => R (.ok f) s')) (notedBy (model prog w) A env fun e s' => R (.error e) s') s₂) (notedBy (model prog w) A env fun e s' => R (.error e) s') { s with heap := h₁, toks := tk₁ })
    (fin : ∀ h' tk m' news', Fr h₀ env.locals h' m' → News h₀ env.locals h' news' → J vs.length m' news' →
      wpAny (model prog w) A (execs orelse env) (fun f s₃ => R (.ok f) s₃) (notedBy (model prog w) A env fun e s' => R (.error e) s') { s with heap := h', toks := tk }) :
    codeAny (model prog w) A (.forLoop target (.ref I) body orelse env) R s := by
  have old : ∀ b o, h₀.get? b = some o → b ≠ I := fun b o e q => by rw [q, hI] at e; cases e
  refine codeAny_forLoop_any
    (fun k s' => ∃ h' tk m' news' i, s' = { s with heap := h', toks := tk } ∧ h'.IsTupleIter I ax i ∧ Fr h₀ env.locals h' m' ∧ News h₀ env.locals h' news' ∧ (∀ p ∈ news', p.1 ≠ I) ∧ J i m' news' ∧ i ≤ vs.length ∧ k = vs.length + 1 - i) ?_ (vs.length + 1)
    ⟨s.heap, s.toks, m, news, 0, rfl, hst, F, N, hnw, h0, Nat.zero_le _, rfl⟩
  rintro k s' ⟨h', tk, m', news', i, rfl, hst', F', N', hnw', hJ, hi, rfl⟩
  have hax : h'.IsTuple ax vs.toArray := hl.at fun o e => F'.keep _ _ e
  have next : ∀ h₁ : Heap, (∀ b o, b ≠ I → h'.get? b = some o → h₁.get? b = some o) → Fr h₀ env.locals h₁ m' ∧ News h₀ env.locals h₁ news' := fun h₁ hk₁ =>
    ⟨⟨F'.ns.at' fun o e => hk₁ _ o hIL e, fun b o e => hk₁ b o (old b o e) (F'.keep b o e), F'.above⟩, fun p hp => ⟨hk₁ _ _ (hnw' p hp) (N' p hp).1, (N' p hp).2⟩⟩
  by_cases hlt : i < vs.length
  · refine wpAny_pyNext_tuple_item hst' hax (x := vs[i]) (by simp [hlt]) fun h₁ hit₁ hs₁ => ?_
    refine letGo_tupleiter hit₁ ?_
    obtain ⟨F₁, N₁⟩ := next h₁ fun b o hb x => hs₁.extBut b o hb x
    obtain ⟨oI, hoI, hoc, hod⟩ := id hit₁
    have N₂ : News h₀ env.locals h₁ ((I, oI) :: news') := fun p hp => by
      rcases List.mem_cons.mp hp with rfl | hp
      · exact ⟨hoI, Ne.symm hIL, hI⟩
      · exact N₁ p hp
    refine wpAny_mono (step i vs[i] m' news' h₁ tk oI (by simp [hlt]) hJ hnw' hoc F₁ N₂) (fun _ s₂ h₂' => wpAny_mono h₂' (fun f s₃ h₃ => ?_) fun _ _ e => e) fun _ _ e => e
    have up : TurnEnd h₀ env.locals [(I, oI)] (J (i + 1)) { s with heap := h₁, toks := tk } s₃ → ∃ m, m < vs.length + 1 - i ∧ ∃ h' tk m' news' i, s₃ = { s with heap := h', toks := tk } ∧ h'.IsTupleIter I ax i ∧ Fr h₀ env.locals h' m' ∧ News h₀ env.locals h' news' ∧ (∀ p ∈ news', p.1 ≠ I) ∧ J i m' news' ∧ i ≤ vs.length ∧ m = vs.length + 1 - i := by
      rintro ⟨h9, tk₃, m₂, news₂, rfl, F₃, N₃, ha₃, hJ₃⟩
      exact ⟨vs.length + 1 - (i + 1), by omega, h9, tk₃, m₂, news₂, i + 1, rfl, ⟨oI, (N₃ (I, oI) (.head _)).1, hoc, hod⟩, F₃, fun p hp => N₃ p (List.mem_append_right _ hp), fun p hp => ha₃ p hp _ (.head _), hJ₃, hlt, rfl⟩
    cases f with
    | ret v => exact h₃
    | brk => exact h₃
    | cont => exact up h₃
    | next => exact up h₃
  · have hin : i = vs.length := by omega
    subst hin
    refine wpAny_pyNext_tuple_end hh hst' hax (by simp) fun h₁ hs₁ => ?_
    obtain ⟨F₁, N₁⟩ := next h₁ fun b o hb x => hs₁ b o hb x
    exact fin h₁ tk m' news' F₁ N₁ hJ
theorem for_tup {iter : Expr} {pos : Pos} {ax : Addr} {vs : List Value} {m : Str → Option Value} {news : List (Addr × Obj)} (hh : A.handled = none) (hl : h₀.IsTuple ax vs.toArray)
    (F : Fr h₀ env.locals s.heap m) (N : News h₀ env.locals s.heap news)
    (hiter : wpAny (model prog w) A (eval iter env) (fun v s' => v = .ref ax ∧ s' = s) E s)
    (J : Nat → (Str → Option Value) → List (Addr × Obj) → Prop) (h0 : J 0 m news)
    (step : ∀ I i v m₁ news₁ h₁ tk₁ oI, vs[i]? = some v → J i m₁ news₁ → (∀ p ∈ news, p.1 < I) → (∀ p ∈ news₁, p.1 ≠ I) → oI.cls = .type "tuple_iterator" → Fr h₀ env.locals h₁ m₁ → News h₀ env.locals h₁ ((I, oI) :: news₁) →
      wpAny (model prog w) A (assign target env v) (fun _ s₂ => wpAny (model prog w) A (execs body env) (TurnPost h₀ env.locals [(I, oI)] (J (i + 1)) { s with heap := h₁, toks := tk₁ } Q) E s₂) E { s with heap := h₁, toks := tk₁ })
    (fin : ∀ h' tk m' news', Fr h₀ env.locals h' m' → News h₀ env.locals h' news' → J vs.length m' news' → wpAny (model prog w) A (execs orelse env) Q E { s with heap := h', toks := tk })
    (hs : ∀ x, foldedSetIterable iter env x = pure x := by intro _; rfl)
    (hE : PassesOwn (model prog w) A env E := by passes_own) :
    wpAny (model prog w) A (exec (.For target iter body orelse pos) env) Q E s := by
  refine wpAny_For (wpAny_mono hiter (fun xv s₁ h₁ => ?_) fun _ _ e => e) hs
  obtain ⟨rfl, rfl⟩ := h₁
  have hax : s₁.heap.IsTuple ax vs.toArray := hl.at fun o e => F.keep _ _ e
  refine wpAny_pyIter_tuple hax ?_
  have hlt : ax < s₁.heap.objs.size := by obtain ⟨o, e, _⟩ := hax; exact Heap.lt_size e
  refine loop_tup (s := { s₁ with heap := _ }) (R := fun r s' => match r with | .ok f => Q f s' | .error e => cameBackBy (model prog w) A env E e s') hh (Nat.ne_of_lt hlt) hl (next_is_new F) (Nat.ne_of_lt F.ns.lt) ⟨_, Heap.get?_push_size _ rfl, rfl, rfl⟩ (fun p hp => Nat.ne_of_lt (Heap.lt_size (N p hp).1)) (F.push _) (fun p hp => ⟨Heap.get?_push_of_some _ (N p hp).1, (N p hp).2⟩) J h0
    (fun i v m₁ news₁ h₁ tk₁ oI a b c d F₁ N₁ => wpAny_mono (step _ i v m₁ news₁ h₁ tk₁ oI a b (fun p hp => Heap.lt_size (N p hp).1) c d F₁ N₁) (fun _ _ x => wpAny_passesOwn hE x) hE)
    (fun h' tk m' news' F' N' hJ => wpAny_mono (fin h' tk m' news' F' N' hJ) (fun _ _ x => x) hE)
end
end Mine

end Loops
/-! LoopE -/
section LoopE
open PySem PySem.W PyProof.Rows PyProof.V PySem.Spec PySem.Calls
set_option Elab.async false
set_option maxRecDepth 100000
namespace Mine
section
variable {prog : Program} {w : World} {A : Around} {E : Value → Shared → Prop} {s : Shared} {env : Env} {h₀ : Heap} {elts : List Expr} {kk : Nat} {tpos : Pos} {body : List Stmt}
theorem loop_enum {R : Result → Shared → Prop} {e it ax : Addr} {vs : List Value} {m : Str → Option Value} {news : List (Addr × Obj)} (hh : A.handled = none) (hei : e ≠ it) (hae : ax ≠ e) (hai : ax ≠ it) (hl : h₀.IsTuple ax vs.toArray)
    (he : h₀.get? e = none) (hi : h₀.get? it = none) (heL : env.locals ≠ e) (hiL : env.locals ≠ it) (hst1 : IsEnum s.heap e it 0 .none) (hst2 : s.heap.IsTupleIter it ax 0)
    (hnw : ∀ p ∈ news, p.1 ≠ e ∧ p.1 ≠ it) (F : Fr h₀ env.locals s.heap m) (N : News h₀ env.locals s.heap news)
    (J : Nat → (Str → Option Value) → List (Addr × Obj) → Prop) (h0 : J 0 m news)
    (step : ∀ (i : Nat) x t T m₁ news₁ h₁ tk₁ oe oi, vs[i]? = some x → J i m₁ news₁ → (∀ p ∈ news₁, p.1 ≠ e ∧ p.1 ≠ it) → oe.cls = .type "enumerate" → oi.cls = .type "tuple_iterator" → IsTup h₁ T #[.int i t, x] → Fr h₀ env.locals h₁ m₁ → News h₀ env.locals h₁ ((e, oe) :: (it, oi) :: news₁) →
      wpAny (model prog w) A (assign (.Tuple elts kk tpos) env (.ref T)) (fun _ s₂ => wpAny (model prog w) A (execs body env)
        (TurnPost h₀ env.locals [(e, oe), (it, oi)] (J (i + 1)) { s with heap := h₁, toks := tk₁ } (fun f s' => R (.ok f) s')) (notedBy (model prog w) A env fun e s' => R (.error e) s') s₂) (notedBy (model prog w) A env fun e s' => R (.error e) s') { s with heap := h₁, toks := tk₁ })
    (fin : ∀ h' tk m' news', Fr h₀ env.locals h' m' → News h₀ env.locals h' news' → J vs.length m' news' → R (.ok .next) { s with heap := h', toks := tk }) :
    codeAny (model prog w) A (.forLoop (.Tuple elts kk tpos) (.ref e) body [] env) R s := by
  have hWi : A.in1.handled = none := hh
  have W := (WalksT.enumerateD (prog := prog) (w := w) (A := A) (draws_tup hWi it ax hai vs.toArray) e hei (by simp [hei, Ne.symm hae]) (by simp)).toU
  have old : ∀ b o, h₀.get? b = some o → b ∉ [e, it] := fun b o x q => by
    rcases List.mem_cons.mp q with q | q
    · rw [q, he] at x; cases x
    · rw [List.mem_singleton.mp q, hi] at x; cases x
  have nin : ∀ b : Addr, b ≠ e → b ≠ it → b ∉ [e, it] := fun b h1 h2 q => by
    rcases List.mem_cons.mp q with q | q
    · exact h1 q
    · exact h2 (List.mem_singleton.mp q)
  refine codeAny_forLoop_any
    (fun k s' => ∃ h' tk m' news' i, s' = { s with heap := h', toks := tk } ∧ ((∃ old, IsEnum h' e it (i : Nat) old) ∧ h'.IsTupleIter it ax i) ∧ Fr h₀ env.locals h' m' ∧ News h₀ env.locals h' news' ∧ (∀ p ∈ news', p.1 ≠ e ∧ p.1 ≠ it) ∧ J i m' news' ∧ i ≤ vs.length ∧ k = vs.length + 1 - i) ?_ (vs.length + 1)
    ⟨s.heap, s.toks, m, news, 0, rfl, ⟨⟨_, hst1⟩, hst2⟩, F, N, hnw, h0, Nat.zero_le _, rfl⟩
  rintro k s' ⟨h', tk, m', news', i, rfl, hst', F', N', hnw', hJ, hile, rfl⟩
  have hax : h'.IsTuple ax vs.toArray := hl.at fun o x => F'.keep _ _ x
  have next : ∀ h₁ : Heap, (∀ b o, b ∉ [e, it] → h'.get? b = some o → h₁.get? b = some o) → Fr h₀ env.locals h₁ m' ∧ News h₀ env.locals h₁ news' := fun h₁ hk₁ =>
    ⟨⟨F'.ns.at' fun o x => hk₁ _ o (nin _ heL hiL) x, fun b o x => hk₁ b o (old b o x) (F'.keep b o x), F'.above⟩, fun p hp => ⟨hk₁ _ _ (nin _ (hnw' p hp).1 (hnw' p hp).2) (N' p hp).1, (N' p hp).2⟩⟩
  by_cases hlt : i < vs.length
  · refine W.item i _ _ _ (by simpa using hlt) ⟨hst'.1, hst'.2, hax⟩ fun T vals h₁ tk₁ hP hT hMd hk₁ => ?_
    refine W.go elts kk tpos i T _ _ _ hMd fun h₂ hst₂ hk₂ => ?_
    obtain ⟨F₂, N₂⟩ := next h₂ fun b o hb x => hk₂ b o hb (hk₁ b o hb x)
    obtain ⟨t, x, hx, rfl⟩ := hP
    obtain ⟨⟨old₂, hE₂⟩, hI₂, _⟩ := hst₂
    obtain ⟨oi, hoi, hoc, hod⟩ := id hI₂
    have hT₂ : IsTup h₂ T #[.int i t, x] := hT.at fun o y => hk₂ T o (W.apart i T _ hMd) y
    obtain ⟨oe, hoe, hEq⟩ : ∃ oe : Obj, h₂.get? e = some oe ∧ oe = { cls := .type "enumerate", dict := none, data := .fields #[.none, .bool false, .ref it, rawInt ((i + 1 : Nat) : Int), .none, old₂], slots := #[] } := ⟨_, hE₂, rfl⟩
    have N₃ : News h₀ env.locals h₂ ((e, oe) :: (it, oi) :: news') := fun p hp => by
      rcases List.mem_cons.mp hp with rfl | hp
      · exact ⟨hoe, Ne.symm heL, he⟩
      · rcases List.mem_cons.mp hp with rfl | hp
        · exact ⟨hoi, Ne.symm hiL, hi⟩
        · exact N₂ p hp
    refine wpAny_mono (step i x t T m' news' h₂ tk₁ oe oi (by simpa using hx) hJ hnw' (by rw [hEq]) hoc hT₂ F₂ N₃) (fun _ s₂ h₂' => wpAny_mono h₂' (fun f s₃ h₃ => ?_) fun _ _ e => e) fun _ _ e => e
    have up : TurnEnd h₀ env.locals [(e, oe), (it, oi)] (J (i + 1)) { s with heap := h₂, toks := tk₁ } s₃ → ∃ m, m < vs.length + 1 - i ∧ ∃ h' tk m' news' i, s₃ = { s with heap := h', toks := tk } ∧ ((∃ old, IsEnum h' e it (i : Nat) old) ∧ h'.IsTupleIter it ax i) ∧ Fr h₀ env.locals h' m' ∧ News h₀ env.locals h' news' ∧ (∀ p ∈ news', p.1 ≠ e ∧ p.1 ≠ it) ∧ J i m' news' ∧ i ≤ vs.length ∧ m = vs.length + 1 - i := by
      rintro ⟨h9, tk₃, m₂, news₂, rfl, F₃, N₃, ha₃, hJ₃⟩
      have z := (N₃ (e, oe) (.head _)).1
      refine ⟨vs.length + 1 - (i + 1), by omega, h9, tk₃, m₂, news₂, i + 1, rfl, ⟨⟨old₂, ?_⟩, ⟨oi, (N₃ (it, oi) (.tail _ (.head _))).1, hoc, hod⟩⟩, F₃, fun p hp => N₃ p (List.mem_append_right _ hp), fun p hp => ⟨ha₃ p hp _ (.head _), ha₃ p hp _ (.tail _ (.head _))⟩, hJ₃, hlt, rfl⟩
      show h9.get? e = _
      rw [z, hEq]
    cases f with
    | ret v => exact h₃
    | brk => exact h₃
    | cont => exact up h₃
    | next => exact up h₃
  · have hin : i = vs.length := by omega
    subst hin
    refine W.done _ _ _ ⟨by simpa using hst'.1, by simpa using hst'.2, hax⟩ fun h₁ tk₁ hk₁ => wpAny_execs_nil ?_
    obtain ⟨F₁, N₁⟩ := next h₁ hk₁
    exact fin h₁ tk₁ m' news' F₁ N₁ hJ
theorem enum_call {ax : Addr} {vs : List Value} {m : Str → Option Value} {news : List (Addr × Obj)} {Q : Flow → Shared → Prop} (hh : A.handled = none) (hl : h₀.IsTuple ax vs.toArray) (F : Fr h₀ env.locals s.heap m) (N : News h₀ env.locals s.heap news)
    (J : Nat → (Str → Option Value) → List (Addr × Obj) → Prop) (h0 : J 0 m news)
    (step : ∀ e it (i : Nat) x t T m₁ news₁ h₁ tk₁ oe oi, vs[i]? = some x → J i m₁ news₁ → e ≠ it → (∀ p ∈ news₁, p.1 ≠ e ∧ p.1 ≠ it) → oe.cls = .type "enumerate" → oi.cls = .type "tuple_iterator" → IsTup h₁ T #[.int i t, x] → Fr h₀ env.locals h₁ m₁ → News h₀ env.locals h₁ ((e, oe) :: (it, oi) :: news₁) →
      wpAny (model prog w) A (assign (.Tuple elts kk tpos) env (.ref T)) (fun _ s₂ => wpAny (model prog w) A (execs body env)
        (TurnPost h₀ env.locals [(e, oe), (it, oi)] (J (i + 1)) { s with heap := h₁, toks := tk₁ } Q) E s₂) E { s with heap := h₁, toks := tk₁ })
    (fin : ∀ h' tk m' news', Fr h₀ env.locals h' m' → News h₀ env.locals h' news' → J vs.length m' news' → Q .next { s with heap := h', toks := tk })
    (hE : PassesOwn (model prog w) A env E := by passes_own) :
    wpAny (model prog w) A (call (.type "enumerate") [.ref ax]) (fun xv s₁ => wpAny (model prog w) A (pyIter xv) (fun it s₂ =>
      codeAny (model prog w) A (.forLoop (.Tuple elts kk tpos) it body [] env) (fun r s' => match r with | .ok f => Q f s' | .error e => cameBackBy (model prog w) A env E e s') s₂) E s₁) E s := by
  have hax : s.heap.IsTuple ax vs.toArray := hl.at fun o e => F.keep _ _ e
  have hlt : ax < s.heap.objs.size := by obtain ⟨o, e, _⟩ := hax; exact Heap.lt_size e
  have hL : env.locals < s.heap.objs.size := F.ns.lt
  have hnone : ∀ b : Addr, s.heap.objs.size ≤ b → h₀.get? b = none := fun b hb => by
    cases q : h₀.get? b with
    | none => rfl
    | some o => exact absurd (Heap.lt_size (F.keep _ _ q)) (Nat.not_lt.mpr hb)
  refine call_enum_tup hax fun h' hE1 hI1 _ hk => ?_
  refine wpAny_pyIter_enum hE1 ?_
  refine loop_enum (s := { s with heap := h' }) (R := fun r s' => match r with | .ok f => Q f s' | .error e => cameBackBy (model prog w) A env E e s') hh (Nat.succ_ne_self _) (Nat.ne_of_lt (Nat.lt_succ_of_lt hlt)) (Nat.ne_of_lt hlt) hl (hnone _ (Nat.le_succ _)) (hnone _ (Nat.le_refl _)) (Nat.ne_of_lt (Nat.lt_succ_of_lt hL)) (Nat.ne_of_lt hL) hE1 hI1
    (fun p hp => ⟨Nat.ne_of_lt (Nat.lt_succ_of_lt (Heap.lt_size (N p hp).1)), Nat.ne_of_lt (Heap.lt_size (N p hp).1)⟩) (F.keeps hk) (N.grown hk) J h0
    (fun i x t T m₁ news₁ h₁ tk₁ oe oi a b c d e' f F₁ N₁ => wpAny_mono (step _ _ i x t T m₁ news₁ h₁ tk₁ oe oi a b (Nat.succ_ne_self _) c d e' f F₁ N₁) (fun _ _ x => wpAny_passesOwn hE x) hE) fin
/-- what is known of a name, written into the frame's map -/
theorem fr_know {h : Heap} {L : Addr} {m : Str → Option Value} {n : Str} {v : Value} (F : Fr h₀ L h m) (hv : m n = some v) : Fr h₀ L h (fun y => if y = n then some v else m y) := by
  have e : (fun y => if y = n then some v else m y) = m := by
    funext y
    by_cases h : y = n
    · rw [if_pos h, h, hv]
    · rw [if_neg h]
  rw [e]; exact F
theorem fr_know2 {h : Heap} {L : Addr} {m : Str → Option Value} {n1 n2 : Str} {v1 v2 : Value} (F : Fr h₀ L h m) (h1 : m n1 = some v1) (h2 : m n2 = some v2) : Fr h₀ L h (fun y => if y = n1 then some v1 else if y = n2 then some v2 else m y) := by
  refine fr_know (fr_know F h2) ?_
  by_cases e : n1 = n2
  · rw [if_pos e, ← h2, ← e, h1]
  · rw [if_neg e, h1]
theorem fr_know3 {h : Heap} {L : Addr} {m : Str → Option Value} {n1 n2 n3 : Str} {v1 v2 v3 : Value} (F : Fr h₀ L h m) (h1 : m n1 = some v1) (h2 : m n2 = some v2) (h3 : m n3 = some v3) : Fr h₀ L h (fun y => if y = n1 then some v1 else if y = n2 then some v2 else if y = n3 then some v3 else m y) := by
  refine fr_know (fr_know2 F h2 h3) ?_
  by_cases e : n1 = n2
  · rw [if_pos e, ← h2, ← e, h1]
  · rw [if_neg e]
    by_cases e' : n1 = n3
    · rw [if_pos e', ← h3, ← e', h1]
    · rw [if_neg e', h1]
end
end Mine

end LoopE
/-! Small -/
section Small
open PySem PySem.W PyProof.Rows PyProof.V PySem.Spec PySem.Calls
set_option Elab.async false
set_option maxRecDepth 100000
namespace Mine
section
variable {w : World} {p : Program} {loose : List Str} {mean : ExcName → Option Value} {mg mb : Str → Option Value} {dp un : Nat} {gd : Option (List Code)} {cn : Str} {cs : Scope} {a : Addr} {ccd : Value} {cl : List (Str × Addr)} {outer : List Env} {A₀ : Around} {base h₀ : Heap} {L : Addr} {m : Str → Option Value} {news : List (Addr × Obj)} {s : Shared} {Q E : Value → Shared → Prop}
theorem sifmt_call {mode : Int} {t0 : Tok}
    (B : Below A₀ base outer h₀) (F : Fr h₀ L s.heap m) (X : (hd.heap_39 w.params).In h₀) (N : News h₀ L s.heap news) (T : Top p loose mean mg mb h₀) (hk : cs.kind = .function)
    (hdp : dp + 1 < recursionLimit)
    (ret : ∀ t h' tk', Fr h₀ L h' m → News h₀ L h' news → Q (.int (Builtin.bitAnd mode 61440) t) { s with heap := h', toks := tk' }) :
    wpAny (model Challenge.rw_nq0055_01.row.prog w) (ktrTop dp un gd cn cs L a ccd cl outer) (call (.ref 33) [.int mode t0]) Q E s := by
  w_top off
  revert X; k_fill; intro X
  k_dflt (refine' call_ro (binds := [(Str.ofString "mode", .int mode t0)]) ?k1 ?k2 ?k3 ?k4 ?k5 ?kA ?kF ?kK ?k6 ?k7 ?k8 ?k9 ?kB ?_ ?c2 ?c3 ?c4 ?c5; (case kA => exact rfl); (case kF => exact rfl); (case kK => assumption); (case k1 => k_asm); (case k2 => k_asm); (case k3 => k_asm); (case k4 => k_asm); (case k5 => k_asm); (case k6 => k_is); (case k7 => k_is); (case k8 => ktr_room); (case k9 => exact BindsTo.of_eq rfl); (case c5 => decide); (case kB => exact locs rfl); (case c2 => exact rfl); (case c3 => exact rfl); (case c4 => exact rfl); k_whole; intro g' L' h' F' N' B' X' T' S'; replace F' := fr_one F'; (try dsimp only); (try k_lift B'); (try k_fold))
  k_steps
  exact ret _ _ _ (by assumption) (by assumption)
theorem simode_call {mode : Int} {t0 : Tok}
    (B : Below A₀ base outer h₀) (F : Fr h₀ L s.heap m) (X : (hd.heap_39 w.params).In h₀) (N : News h₀ L s.heap news) (T : Top p loose mean mg mb h₀) (hk : cs.kind = .function)
    (hdp : dp + 1 < recursionLimit)
    (ret : ∀ t h' tk', Fr h₀ L h' m → News h₀ L h' news → Q (.int (Builtin.bitAnd mode 4095) t) { s with heap := h', toks := tk' }) :
    wpAny (model Challenge.rw_nq0055_01.row.prog w) (ktrTop dp un gd cn cs L a ccd cl outer) (call (.ref 26) [.int mode t0]) Q E s := by
  w_top off
  revert X; k_fill; intro X
  k_dflt (refine' call_ro (binds := [(Str.ofString "mode", .int mode t0)]) ?k1 ?k2 ?k3 ?k4 ?k5 ?kA ?kF ?kK ?k6 ?k7 ?k8 ?k9 ?kB ?_ ?c2 ?c3 ?c4 ?c5; (case kA => exact rfl); (case kF => exact rfl); (case kK => assumption); (case k1 => k_asm); (case k2 => k_asm); (case k3 => k_asm); (case k4 => k_asm); (case k5 => k_asm); (case k6 => k_is); (case k7 => k_is); (case k8 => ktr_room); (case k9 => exact BindsTo.of_eq rfl); (case c5 => decide); (case kB => exact locs rfl); (case c2 => exact rfl); (case c3 => exact rfl); (case c4 => exact rfl); k_whole; intro g' L' h' F' N' B' X' T' S'; replace F' := fr_one F'; (try dsimp only); (try k_lift B'); (try k_fold))
  k_steps
  exact ret _ _ _ (by assumption) (by assumption)
end
end Mine

end Small
/-! Fm1 -/
section Fm1
open PySem PySem.W PyProof.Rows PyProof.V PySem.Spec PySem.Calls
set_option Elab.async false
set_option maxRecDepth 100000
namespace Mine
def tst (i : Nat) (mode bit : Int) : Bool := if i = 0 then decide (Builtin.bitAnd mode 61440 = bit) else decide (Builtin.bitAnd mode bit = bit)
def dflt (i : Nat) : Str := if i = 0 then Str.ofString "?" else Str.ofString "-"
def pick (i : Nat) (mode : Int) : List (Int × Str) → Str
  | [] => dflt i
  | e :: r => if tst i mode e.1 then e.2 else pick i mode r
def tabs : List (List (Int × Str)) := [
  [(40960, Str.ofString "l"), (49152, Str.ofString "s"), (32768, Str.ofString "-"), (24576, Str.ofString "b"), (16384, Str.ofString "d"), (8192, Str.ofString "c"), (4096, Str.ofString "p")],
  [(256, Str.ofString "r")], [(128, Str.ofString "w")], [(2112, Str.ofString "s"), (2048, Str.ofString "S"), (64, Str.ofString "x")],
  [(32, Str.ofString "r")], [(16, Str.ofString "w")], [(1032, Str.ofString "s"), (1024, Str.ofString "S"), (8, Str.ofString "x")],
  [(4, Str.ofString "r")], [(2, Str.ofString "w")], [(513, Str.ofString "t"), (512, Str.ofString "T"), (1, Str.ofString "x")]]
def fmL (mode : Int) : List Str := (List.range 10).map fun i => pick i mode (tabs.getD i [])
def fm (mode : Int) : Str := Txt.join (Str.ofString "") (fmL mode)
/-- a pair of the table, a row of it, at a heap -/
def PairAt (h : Heap) (v : Value) (e : Int × Str) : Prop := ∃ pr t u, v = .ref pr ∧ h.IsTuple pr #[.int e.1 t, .str e.2 u]
def PairsAt (h : Heap) : List Value → List (Int × Str) → Prop
  | [], [] => True
  | v :: vs, e :: es => PairAt h v e ∧ PairsAt h vs es
  | _, _ => False
def RowAt (h : Heap) (v : Value) (es : List (Int × Str)) : Prop := ∃ ax vs, v = .ref ax ∧ h.IsTuple ax vs.toArray ∧ PairsAt h vs es
def RowsAt (h : Heap) : List Value → List (List (Int × Str)) → Prop
  | [], [] => True
  | v :: vs, e :: es => RowAt h v e ∧ RowsAt h vs es
  | _, _ => False
def TabAtK (h : Heap) : Prop := ∃ vs, h.IsTuple 66 vs.toArray ∧ RowsAt h vs tabs
theorem tup_of {K : Frag} {h : Heap} (X : K.In h) {a : Addr} {vs : List Value} {n : Nat} (e : K.lookup a = some { cls := .type "tuple", data := .seq vs.toArray n }) : h.IsTuple a vs.toArray := ⟨_, X _ _ e, rfl, n, rfl⟩
theorem pair_of {K : Frag} {h : Heap} (X : K.In h) {a : Addr} {b : Int} {c : Str} {t u : Tok} {n : Nat} (e : K.lookup a = some { cls := .type "tuple", data := .seq #[.int b t, .str c u] n }) : PairAt h (.ref a) (b, c) := ⟨a, t, u, rfl, _, X _ _ e, rfl, n, rfl⟩
theorem row_of {K : Frag} {h : Heap} (X : K.In h) {a : Addr} {vs : List Value} {n : Nat} {es : List (Int × Str)} (e : K.lookup a = some { cls := .type "tuple", data := .seq vs.toArray n }) (hp : PairsAt h vs es) : RowAt h (.ref a) es := ⟨a, vs, rfl, tup_of X e, hp⟩
set_option maxHeartbeats 4000000 in
theorem tab_at {w : World} {h : Heap} (X : (hd.heap_39 w.params).In h) : (PySem.Challenge.rw_nq0055_01.prog = PySem.Challenge.rw_nq0055_01.prog) → TabAtK h := by
  revert X; k_fill; intro X _
  refine ⟨_, tup_of (vs := [_, _, _, _, _, _, _, _, _, _]) (n := 0) X (by k_is), ?_⟩
  refine ⟨?_, ?_, ?_, ?_, ?_, ?_, ?_, ?_, ?_, ?_, trivial⟩
  · refine row_of (vs := [_, _, _, _, _, _, _]) (n := 0) X (by k_is) ⟨pair_of (n := 0) X (by k_is), pair_of (n := 0) X (by k_is), pair_of (n := 0) X (by k_is), pair_of (n := 0) X (by k_is), pair_of (n := 0) X (by k_is), pair_of (n := 0) X (by k_is), pair_of (n := 0) X (by k_is), trivial⟩
  · refine row_of (vs := [_]) (n := 0) X (by k_is) ⟨pair_of (n := 0) X (by k_is), trivial⟩
  · refine row_of (vs := [_]) (n := 0) X (by k_is) ⟨pair_of (n := 0) X (by k_is), trivial⟩
  · refine row_of (vs := [_, _, _]) (n := 0) X (by k_is) ⟨pair_of (n := 0) X (by k_is), pair_of (n := 0) X (by k_is), pair_of (n := 0) X (by k_is), trivial⟩
  · refine row_of (vs := [_]) (n := 0) X (by k_is) ⟨pair_of (n := 0) X (by k_is), trivial⟩
  · refine row_of (vs := [_]) (n := 0) X (by k_is) ⟨pair_of (n := 0) X (by k_is), trivial⟩
  · refine row_of (vs := [_, _, _]) (n := 0) X (by k_is) ⟨pair_of (n := 0) X (by k_is), pair_of (n := 0) X (by k_is), pair_of (n := 0) X (by k_is), trivial⟩
  · refine row_of (vs := [_]) (n := 0) X (by k_is) ⟨pair_of (n := 0) X (by k_is), trivial⟩
  · refine row_of (vs := [_]) (n := 0) X (by k_is) ⟨pair_of (n := 0) X (by k_is), trivial⟩
  · refine row_of (vs := [_, _, _]) (n := 0) X (by k_is) ⟨pair_of (n := 0) X (by k_is), pair_of (n := 0) X (by k_is), pair_of (n := 0) X (by k_is), trivial⟩
end Mine

end Fm1
/-! Fm2 -/
section Fm2
open PySem PySem.W PyProof.Rows PyProof.V PySem.Spec PySem.Calls
set_option Elab.async false
set_option maxRecDepth 100000
namespace Mine
theorem rows_at {h : Heap} : ∀ {vs : List Value} {ts : List (List (Int × Str))}, RowsAt h vs ts → ∀ (i : Nat) (x : Value), vs[i]? = some x → ∃ es, ts[i]? = some es ∧ RowAt h x es
  | [], _, _, _, _, e => by simp at e
  | _ :: _, [], h, _, _, _ => (show False from h).elim
  | v :: vs, t :: ts, h, 0, x, e => ⟨t, rfl, by have e' : v = x := by simpa using e
                                                subst e'; exact h.1⟩
  | v :: vs, t :: ts, h, i + 1, x, e => by simpa using rows_at h.2 i x (by simpa using e)
theorem pairs_at {h : Heap} : ∀ {vs : List Value} {ts : List (Int × Str)}, PairsAt h vs ts → ∀ (i : Nat) (x : Value), vs[i]? = some x → ∃ es, ts[i]? = some es ∧ PairAt h x es
  | [], _, _, _, _, e => by simp at e
  | _ :: _, [], h, _, _, _ => (show False from h).elim
  | v :: vs, t :: ts, h, 0, x, e => ⟨t, rfl, by have e' : v = x := by simpa using e
                                                subst e'; exact h.1⟩
  | v :: vs, t :: ts, h, i + 1, x, e => by simpa using pairs_at h.2 i x (by simpa using e)
theorem pairs_len {h : Heap} : ∀ {vs : List Value} {ts : List (Int × Str)}, PairsAt h vs ts → vs.length = ts.length
  | [], [], _ => rfl
  | [], _ :: _, h => (show False from h).elim
  | _ :: _, [], h => (show False from h).elim
  | _ :: _, _ :: _, h => by simp [pairs_len h.2]
theorem rows_len {h : Heap} : ∀ {vs : List Value} {ts : List (List (Int × Str))}, RowsAt h vs ts → vs.length = ts.length
  | [], [], _ => rfl
  | [], _ :: _, h => (show False from h).elim
  | _ :: _, [], h => (show False from h).elim
  | _ :: _, _ :: _, h => by simp [rows_len h.2]
def fmT (mode : Int) (k : Nat) : List Str := (List.range k).map fun i => pick i mode (tabs.getD i [])
def JO (P : Addr) (mode : Int) (t0 : Tok) (i : Nat) (m' : Str → Option Value) (news' : List (Addr × Obj)) : Prop :=
  m' (Str.ofString "mode") = some (.int mode t0) ∧ m' (Str.ofString "perm") = some (.ref P) ∧ ∃ vs n, news' = [(P, listOf vs.toArray n)] ∧ StrsAre vs (fmT mode i)
def JI (P : Addr) (mode : Int) (t0 : Tok) (i : Nat) (t : Tok) (led : List (Addr × Obj)) (es : List (Int × Str)) (j : Nat) (m' : Str → Option Value) (news' : List (Addr × Obj)) : Prop :=
  m' (Str.ofString "mode") = some (.int mode t0) ∧ m' (Str.ofString "perm") = some (.ref P) ∧ m' (Str.ofString "index") = some (.int (i : Int) t) ∧ news' = led ∧ pick i mode es = pick i mode (es.drop j)
theorem pick_len (i : Nat) (mode : Int) : ∀ es : List (Int × Str), (∀ e ∈ es, e.2.length = 1) → (pick i mode es).length = 1
  | [], _ => by unfold pick dflt; split <;> decide +kernel
  | e :: r, h => by
    unfold pick
    split
    · exact h e (.head _)
    · exact pick_len i mode r fun x hx => h x (.tail _ hx)
theorem tabs_len : ∀ i, ∀ e ∈ tabs.getD i [], e.2.length = 1 := by
  intro i
  have h : ∀ t ∈ tabs, ∀ e ∈ t, e.2.length = 1 := by decide +kernel
  by_cases hi : i < tabs.length
  · have e1 : tabs.getD i [] = tabs[i] := by simp [List.getD, hi]
    rw [e1]
    exact h _ (List.getElem_mem hi)
  · have e1 : tabs.getD i [] = [] := by simp [List.getD, Nat.not_lt.mp hi]
    rw [e1]
    intro e he; cases he
theorem sum_ones : ∀ l : List Str, (∀ a ∈ l, a.length = 1) → (l.map (·.length)).sum = l.length
  | [], _ => rfl
  | a :: r, h => by
    rw [List.map_cons, List.sum_cons, sum_ones r fun x hx => h x (.tail _ hx), h a (.head _), List.length_cons]; omega
theorem fmT_ones (mode : Int) (k : Nat) : ∀ a ∈ fmT mode k, a.length = 1 := fun a ha => by
  obtain ⟨i, _, rfl⟩ := List.mem_map.mp ha
  exact pick_len _ _ _ (tabs_len i)
theorem fmT_fit (mode : Int) : ((fmT mode tabs.length).map (·.length)).sum + (fmT mode tabs.length).length * 64 ≤ 16777216 := by
  rw [sum_ones _ (fmT_ones mode _)]
  have : (fmT mode tabs.length).length = 10 := by simp [fmT, tabs]
  omega
theorem fmT_succ (mode : Int) (i : Nat) : fmT mode (i + 1) = fmT mode i ++ [pick i mode (tabs.getD i [])] := by
  unfold fmT
  rw [List.range_succ, List.map_append]; rfl
theorem sep_len : (Str.ofString "").length ≤ 64 := by decide +kernel
theorem led_list {h₀ h : Heap} {L P : Addr} {vs : List Value} {n : Nat} {r : List (Addr × Obj)} (N : News h₀ L h ((P, listOf vs.toArray n) :: r)) : h.IsList P vs.toArray := ⟨_, (N _ (.head _)).1, rfl, n, rfl⟩
local macro_rules | `(tactic| walk_at "exec For Tuple Call") => `(tactic| (k_here; (with_unfolding_all refine wpAny_For ?_ (by intro _; rfl))))
theorem out_end {g h : Heap} {L e it P : Addr} {oe oi : Obj} {m' : Str → Option Value} {all : List (Addr × Obj)} {vs' : List Value} {n' i : Nat} {mode : Int} {t0 tc : Tok} {c : Str} {s1 : Shared} {tk : Nat}
    (F : Fr g L h m') (N : News g L h all) (hsub : ∀ q ∈ [(e, oe), (it, oi), (P, listOf (vs'.toArray.push (.str c tc)) (n' + 1))], q ∈ all) (hPe : P ≠ e) (hPi : P ≠ it) (hS : StrsAre vs' (fmT mode i))
    (hm1 : m' (Str.ofString "mode") = some (.int mode t0)) (hm2 : m' (Str.ofString "perm") = some (.ref P)) (hc : pick i mode (tabs.getD i []) = c) :
    TurnEnd g L [(e, oe), (it, oi)] (JO P mode t0 (i + 1)) s1 { s1 with heap := h, toks := tk } := by
  refine ⟨h, tk, m', [(P, listOf (vs'.toArray.push (.str c tc)) (n' + 1))], rfl, F, fun q hq => N q (hsub q hq), fun p hp q hq => ?_, hm1, hm2, vs' ++ [.str c tc], n' + 1, by rw [List.push_toArray], ?_⟩
  · rw [List.mem_singleton.mp hp]
    rcases List.mem_cons.mp hq with rfl | hq
    · exact hPe
    · rw [List.mem_singleton.mp hq]; exact hPi
  · rw [fmT_succ, hc]
    exact kct_snoc hS
theorem in_end {g h : Heap} {L I P : Addr} {oI : Obj} {m' : Str → Option Value} {led : List (Addr × Obj)} {i j : Nat} {mode b : Int} {t0 t : Tok} {c : Str} {es : List (Int × Str)} {s1 : Shared} {tk : Nat}
    (F : Fr g L h m') (N : News g L h ((I, oI) :: led)) (hoff : ∀ p ∈ led, p.1 ≠ I)
    (hm1 : m' (Str.ofString "mode") = some (.int mode t0)) (hm2 : m' (Str.ofString "perm") = some (.ref P)) (hm3 : m' (Str.ofString "index") = some (.int (i : Int) t)) (hbc : es[j]? = some (b, c)) (hpk : pick i mode es = pick i mode (es.drop j)) (ht : tst i mode b = false) :
    TurnEnd g L [(I, oI)] (JI P mode t0 i t led es (j + 1)) s1 { s1 with heap := h, toks := tk } := by
  refine ⟨h, tk, m', led, rfl, F, N, fun p hp q hq => ?_, hm1, hm2, hm3, rfl, ?_⟩
  · rw [List.mem_singleton.mp hq]; exact hoff p hp
  · have e : es.drop j = (b, c) :: es.drop (j + 1) := by
      obtain ⟨h1, h2⟩ := List.getElem?_eq_some_iff.mp hbc
      rw [List.drop_eq_getElem_cons h1, h2]
    rw [hpk, e, pick, if_neg (by rw [ht]; exact Bool.false_ne_true)]
theorem pick_hit {es : List (Int × Str)} {i j : Nat} {mode b : Int} {c : Str} (hes : tabs[i]? = some es) (hbc : es[j]? = some (b, c)) (hpk : pick i mode es = pick i mode (es.drop j)) (ht : tst i mode b = true) : pick i mode (tabs.getD i []) = c := by
  have e : es.drop j = (b, c) :: es.drop (j + 1) := by
    obtain ⟨h1, h2⟩ := List.getElem?_eq_some_iff.mp hbc
    rw [List.drop_eq_getElem_cons h1, h2]
  rw [List.getD, hes, Option.getD_some, hpk, e, pick, if_pos ht]
theorem pick_none {es : List (Int × Str)} {i : Nat} {mode : Int} (hes : tabs[i]? = some es) (hpk : pick i mode es = pick i mode (es.drop es.length)) : pick i mode (tabs.getD i []) = dflt i := by
  rw [List.getD, hes, Option.getD_some, hpk, List.drop_length]; rfl
theorem tst_1 {i : Nat} {mode b : Int} (hi : (i : Int) = 0) (h : Builtin.bitAnd mode 61440 = b) : tst i mode b = true := by
  have : i = 0 := by omega
  simp [tst, this, h]
theorem tst_2 {i : Nat} {mode b : Int} (hi : (i : Int) = 0) (h : Builtin.bitAnd mode 61440 ≠ b) : tst i mode b = false := by
  have : i = 0 := by omega
  simp [tst, this, h]
theorem tst_3 {i : Nat} {mode b : Int} (hi : (i : Int) ≠ 0) (h : Builtin.bitAnd mode b = b) : tst i mode b = true := by
  have : ¬ i = 0 := by omega
  simp [tst, this, h]
theorem tst_4 {i : Nat} {mode b : Int} (hi : (i : Int) ≠ 0) (h : Builtin.bitAnd mode b ≠ b) : tst i mode b = false := by
  have : ¬ i = 0 := by omega
  simp [tst, this, h]
theorem dflt_1 {i : Nat} (hi : (i : Int) = 0) : dflt i = Str.ofString "?" := by
  have : i = 0 := by omega
  simp [dflt, this]
theorem dflt_2 {i : Nat} (hi : (i : Int) ≠ 0) : dflt i = Str.ofString "-" := by
  have : ¬ i = 0 := by omega
  simp [dflt, this]
theorem room2 {x dp : Nat} (h : dp + 3 < recursionLimit) (e : x = dp + 1) : x + 1 < recursionLimit := by omega
local macro_rules | `(tactic| walk_at "call ref") => `(tactic| (k_here; k_dflt (refine' sifmt_call ?k1 ?k2 ?k3 ?k4 ?k5 ?kK ?k9 ?_; (case k1 => k_asm); (case k2 => k_asm); (case k3 => k_asm); (case k4 => k_asm); (case k5 => k_asm); (case kK => exact rfl); (case k9 => exact room2 (by assumption) rfl)); intro t9 h9 tk9 F9 N9; (try dsimp only); (try k_sweep)))
section
variable {w : World} {p : Program} {loose : List Str} {mean : ExcName → Option Value} {mg mb : Str → Option Value} {dp un : Nat} {gd : Option (List Code)} {cn : Str} {cs : Scope} {a : Addr} {ccd : Value} {cl : List (Str × Addr)} {outer : List Env} {A₀ : Around} {base h₀ : Heap} {L : Addr} {m : Str → Option Value} {news : List (Addr × Obj)} {s : Shared} {Q E : Value → Shared → Prop}
set_option maxHeartbeats 1000000 in
theorem fm_call {mode : Int} {t0 : Tok}
    (B : Below A₀ base outer h₀) (F : Fr h₀ L s.heap m) (X : (hd.heap_39 w.params).In h₀) (N : News h₀ L s.heap news) (T : Top p loose mean mg mb h₀) (hk : cs.kind = .function)
    (hdp : dp + 3 < recursionLimit) (hun : un + 24 < cLine)
    (ret : ∀ t h' tk', Fr h₀ L h' m → News h₀ L h' news → Q (.str (fm mode) t) { s with heap := h', toks := tk' }) :
    wpAny (model Challenge.rw_nq0055_01.row.prog w) (ktrTop dp un gd cn cs L a ccd cl outer) (call (.ref 73) [.int mode t0]) Q E s := by
  w_top off
  revert X; k_fill; intro X
  k_dflt (refine' call_ro (binds := [(Str.ofString "mode", .int mode t0)]) ?k1 ?k2 ?k3 ?k4 ?k5 ?kA ?kF ?kK ?k6 ?k7 ?k8 ?k9 ?kB ?_ ?c2 ?c3 ?c4 ?c5; (case kA => exact rfl); (case kF => exact rfl); (case kK => assumption); (case k1 => k_asm); (case k2 => k_asm); (case k3 => k_asm); (case k4 => k_asm); (case k5 => k_asm); (case k6 => k_is); (case k7 => k_is); (case k8 => ktr_room); (case k9 => exact BindsTo.of_eq rfl); (case c5 => decide); (case kB => exact locs rfl); (case c2 => exact rfl); (case c3 => exact rfl); (case c4 => exact rfl); k_whole; intro g' L' h' F' N' B' X' T' S'; replace F' := fr_one F'; (try dsimp only); (try k_lift B'); (try k_fold))
  k_steps
  rename News _ _ _ _ => nE
  rename Fr _ _ _ _ => fE
  rename_i P _ _ _
  obtain ⟨tvs, htv, hrows⟩ := tab_at X' rfl
  (with_unfolding_all refine enum_call rfl htv fE nE (JO P mode t0) ⟨rfl, rfl, [], 0, rfl, StrsAre.nil⟩ ?_ ?_)
  · rintro e it i x t TT m₁ news₁ h₁ tk₁ oe oi hx ⟨hm1, hm2, vs', n', rfl, hS⟩ hei hoff hoe hoi hT F1 N1
    replace F1 := fr_know2 F1 hm1 hm2
    obtain ⟨es, hes, ax, pvs, rfl, hax, hps⟩ := rows_at hrows i x hx
    have hPe : @Ne Nat P e := (hoff _ (.head _)).1
    have hPi : @Ne Nat P it := (hoff _ (.head _)).2
    have hei' : @Ne Nat e it := hei
    have hi10 : i < 10 := by
      have := (List.getElem?_eq_some_iff.mp hes).1
      simpa [tabs] using this
    have hvl : vs'.length = i := by rw [hS.length]; simp [fmT]
    have hsz9 : vs'.toArray.size ≤ sizeLine := by rw [List.size_toArray, sizeLine_eq]; omega
    clear fE nE
    try dsimp only
    k_steps
    rename News _ _ _ _ => nE
    rename Fr _ _ _ _ => fE
    (with_unfolding_all refine for_tup rfl hax fE nE (ld fE rfl ⟨rfl, rfl⟩) (JI P mode t0 i t [(e, oe), (it, oi), (P, listOf vs'.toArray n')] es) ⟨rfl, rfl, rfl, rfl, rfl⟩ ?_ ?_)
    · rintro I j v m₂ news₂ h₂ tk₂ oI hv ⟨hm1, hm2, hm3, rfl, hpk⟩ hlt hoff2 hoI F2 N2
      replace F2 := fr_know3 F2 hm1 hm2 hm3
      obtain ⟨⟨b, c⟩, hbc, pr, tb, tc, rfl, hpr⟩ := pairs_at hps j v hv
      have hPI : @Ne Nat P I := hoff2 _ (.tail _ (.tail _ (.head _)))
      have heI : @Ne Nat e I := hoff2 _ (.head _)
      have hiI : @Ne Nat it I := hoff2 _ (.tail _ (.head _))
      have hT2 : IsTup h₂ pr #[.int b tb, .str c tc] := hpr.at fun o x => F2.keep _ _ x
      clear fE nE
      try dsimp only
      k_steps
      all_goals (unfold TurnPost; dsimp only)
      all_goals (try k_steps)
      all_goals (rename Fr _ _ _ _ => fE; rename News _ _ _ _ => nE)
      · exact out_end fE nE (fun q hq => List.mem_cons_of_mem _ hq) hPe hPi hS (by with_unfolding_all rfl) (by with_unfolding_all rfl) (pick_hit hes hbc hpk (tst_1 (by assumption) (by assumption)))
      · exact in_end fE nE hoff2 (by with_unfolding_all rfl) (by with_unfolding_all rfl) (by with_unfolding_all rfl) hbc hpk (tst_2 (by assumption) (by assumption))
      · exact out_end fE nE (fun q hq => List.mem_cons_of_mem _ hq) hPe hPi hS (by with_unfolding_all rfl) (by with_unfolding_all rfl) (pick_hit hes hbc hpk (tst_3 (by assumption) (by assumption)))
      · exact in_end fE nE hoff2 (by with_unfolding_all rfl) (by with_unfolding_all rfl) (by with_unfolding_all rfl) hbc hpk (tst_4 (by assumption) (by assumption))
    · rintro h2 tk2 m2 news2 F2 N2 ⟨hm1, hm2, hm3, rfl, hpk⟩
      replace F2 := fr_know3 F2 hm1 hm2 hm3
      clear fE nE
      try dsimp only
      rw [pairs_len hps] at hpk
      k_steps
      all_goals (unfold TurnPost; dsimp only)
      all_goals (try k_steps)
      all_goals (rename Fr _ _ _ _ => fE; rename News _ _ _ _ => nE)
      · exact out_end fE nE (fun q hq => hq) hPe hPi hS (by with_unfolding_all rfl) (by with_unfolding_all rfl) ((pick_none hes hpk).trans (dflt_1 (by assumption)))
      · exact out_end fE nE (fun q hq => hq) hPe hPi hS (by with_unfolding_all rfl) (by with_unfolding_all rfl) ((pick_none hes hpk).trans (dflt_2 (by assumption)))
  · rintro h' tk m' news' F1 N1 ⟨hm1, hm2, vs', n', rfl, hS⟩
    replace F1 := fr_know2 F1 hm1 hm2
    rw [rows_len hrows] at hS
    clear fE nE
    try dsimp only
    try k_fold
    k_steps
    refine join_listC (led_list N1) hS sep_len (fmT_fit mode) fun t' k => ?_
    exact leaveK_ F1 N1 fun kF kN hN => ret _ _ _ kF hN
end
end Mine

end Fm2
/-! Rep -/
section Rep
open PySem PySem.W PyProof.Rows PyProof.V PySem.Spec PySem.Calls
set_option Elab.async false
set_option maxRecDepth 100000
namespace Mine
/-- one sign for another -/
def sub1 (c d : Nat) (l : List Nat) : List Nat := l.map fun a => if a = c then d else a
theorem sub1_free (c d : Nat) : ∀ l : List Nat, c ∉ l → sub1 c d l = l := fun l h => by
  unfold sub1
  conv => rhs; rw [← List.map_id l]
  refine List.map_congr_left fun a ha => ?_
  have : a ≠ c := fun e => h (e ▸ ha)
  simp [this]
theorem sub1_join (c d : Nat) : ∀ parts : List Str, (∀ p ∈ parts, c ∉ p.cps.toList) → sub1 c d (Str.join ⟨#[c]⟩ parts).cps.toList = (Str.join ⟨#[d]⟩ parts).cps.toList
  | [], _ => rfl
  | [x], h => sub1_free c d _ (h x (.head _))
  | x :: y :: r, h => by
    have ih := sub1_join c d (y :: r) fun p hp => h p (.tail _ hp)
    have e1 : (Str.join ⟨#[c]⟩ (x :: y :: r)).cps.toList = x.cps.toList ++ [c] ++ (Str.join ⟨#[c]⟩ (y :: r)).cps.toList := by
      show ((x ++ ⟨#[c]⟩) ++ Str.join ⟨#[c]⟩ (y :: r)).cps.toList = _
      rw [Str.cps_append, Str.cps_append, Array.toList_append, Array.toList_append]
    have e2 : (Str.join ⟨#[d]⟩ (x :: y :: r)).cps.toList = x.cps.toList ++ [d] ++ (Str.join ⟨#[d]⟩ (y :: r)).cps.toList := by
      show ((x ++ ⟨#[d]⟩) ++ Str.join ⟨#[d]⟩ (y :: r)).cps.toList = _
      rw [Str.cps_append, Str.cps_append, Array.toList_append, Array.toList_append]
    rw [e1, e2, ← ih]
    show sub1 c d _ = _
    unfold sub1
    rw [List.map_append, List.map_append]
    have := sub1_free c d x.cps.toList (h x (.head _))
    unfold sub1 at this
    rw [this]
    simp
theorem rep1 (x : Str) (c d : Nat) : (Txt.replace x ⟨#[c]⟩ ⟨#[d]⟩).cps.toList = sub1 c d x.cps.toList := by
  rw [StrLaws.replace_one, ← sub1_join c d _ (StrLaws.split_free x c), StrLaws.join_split]
end Mine

end Rep
/-! Text1 -/
section Text1
open PySem PySem.W PyProof.Rows PyProof.V PySem.Spec PySem.Calls
set_option Elab.async false
set_option maxRecDepth 100000
namespace Mine
def InR (ns : List Int) : Prop := (∀ n ∈ ns, 0 ≤ n ∧ n < 65536) ∧ ns.length ≤ 12
def joined (ns : List Int) : Str := Txt.join (Str.ofString "") (ns.map fm)
def text0 (ns : List Int) : Str := Txt.replace (joined ns) (Str.ofString "-") (Str.ofString ",")
def rq (x : Str) (c : Nat) : Str := Txt.replace x ⟨#[c]⟩ (Str.ofString "\"")
def lawText (ns : List Int) : Str := [115, 83, 116, 84].foldl rq (text0 ns)
theorem fm_len (mode : Int) : (fm mode).length = 10 := by
  show (Txt.join (Str.ofString "") (fmT mode 10)).length = 10
  rw [KT.join_ones _ (fmT_ones mode 10)]
  simp [fmT]
/-- the signs of a text -/
def cs (x : Str) : List Nat := x.cps.toList
theorem cs_len (x : Str) : (cs x).length = x.length := Array.length_toList
theorem cs_app (x y : Str) : cs (x ++ y) = cs x ++ cs y := by unfold cs; rw [Str.cps_append, Array.toList_append]
theorem cs_empty : cs (Str.ofString "") = [] := by decide +kernel
theorem cs_joinE : ∀ l : List Str, cs (Txt.join (Str.ofString "") l) = (l.map cs).flatten := by
  intro l
  show cs (Builtin.Str.glued (Str.ofString "") l) = _
  rw [StrLaws.glued_eq_join]
  induction l with
  | nil => decide +kernel
  | cons a r ih =>
    cases r with
    | nil => simp [Str.join]
    | cons b r =>
      show cs ((a ++ Str.ofString "") ++ Str.join (Str.ofString "") (b :: r)) = _
      rw [cs_app, cs_app, cs_empty, ih]; simp
theorem cs_rep (x : Str) (c d : Nat) : cs (Txt.replace x ⟨#[c]⟩ ⟨#[d]⟩) = sub1 c d (cs x) := rep1 x c d
theorem q_is : Str.ofString "\"" = ⟨#[34]⟩ := by decide +kernel
theorem minus_is : Str.ofString "-" = ⟨#[45]⟩ := by decide +kernel
theorem comma_is : Str.ofString "," = ⟨#[44]⟩ := by decide +kernel
theorem cs_rq (x : Str) (c : Nat) : cs (rq x c) = sub1 c 34 (cs x) := by unfold rq; rw [q_is]; exact cs_rep x c 34
theorem cs_text0 (ns : List Int) : cs (text0 ns) = sub1 45 44 (cs (joined ns)) := by unfold text0; rw [minus_is, comma_is]; exact cs_rep _ _ _
theorem rq_len (x : Str) (c : Nat) : (rq x c).length = x.length := by rw [← cs_len, cs_rq, ← cs_len]; simp [sub1]
theorem joined_len (ns : List Int) : (joined ns).length = 10 * ns.length := by
  rw [← cs_len, joined, cs_joinE]
  induction ns with
  | nil => rfl
  | cons a r ih => simp only [List.map_cons, List.flatten_cons, List.length_append, List.length_cons, cs_len, fm_len] at ih ⊢; omega
theorem text0_len (ns : List Int) : (text0 ns).length = 10 * ns.length := by rw [← cs_len, cs_text0, ← joined_len ns, ← cs_len]; simp [sub1]
theorem fold_rq_len : ∀ (l : List Nat) (x : Str), (l.foldl rq x).length = x.length
  | [], _ => rfl
  | c :: r, x => by rw [List.foldl_cons, fold_rq_len r, rq_len]
theorem text_len {ns : List Int} (h : InR ns) : (lawText ns).length ≤ 120 := by
  unfold lawText
  rw [fold_rq_len, text0_len]
  have := h.2; omega
theorem sum_tens : ∀ ns : List Int, ((ns.map fm).map (·.length)).sum = 10 * ns.length
  | [] => rfl
  | a :: r => by rw [List.map_cons, List.map_cons, List.sum_cons, sum_tens r, fm_len, List.length_cons]; omega
theorem join_fit {ns : List Int} (h : InR ns) : ((ns.map fm).map (·.length)).sum + (ns.map fm).length * 64 ≤ 16777216 := by
  rw [sum_tens, List.length_map]; have := h.2; omega
section
variable {prog : Program} {w : World} {A : Around} {E : Value → Shared → Prop} {s : Shared} {env : Env} {h₀ : Heap} {target : Expr} {body : List Stmt} {Q : Flow → Shared → Prop}
/-- a for over an ascii text, its tokens kept apart from nought -/
theorem loop_ascii {R : Result → Shared → Prop} {I : Addr} {x : Str} {tx : Tok} {m : Str → Option Value} {news : List (Addr × Obj)} {xn : Str} {px : Pos} (hh : A.handled = none) (hI : h₀.get? I = none) (hIL : env.locals ≠ I)
    (hst : s.heap.IsStrIter I "str_ascii_iterator" x tx 0) (hnw : ∀ p ∈ news, p.1 ≠ I) (F : Fr h₀ env.locals s.heap m) (N : News h₀ env.locals s.heap news) (htk : 1 ≤ s.toks)
    (J : Nat → (Str → Option Value) → List (Addr × Obj) → Prop) (h0 : J 0 m news)
    (step : ∀ (i c : Nat) m₁ news₁ h₁ tk₁ oI, x.cps[i]? = some c → J i m₁ news₁ → (∀ p ∈ news₁, p.1 ≠ I) → 1 ≤ tk₁ → Fr h₀ env.locals h₁ m₁ → News h₀ env.locals h₁ ((I, oI) :: news₁) →
      wpAny (model prog w) A (assign (.Name xn px) env (.str ⟨#[c]⟩ tk₁)) (fun _ s₂ => wpAny (model prog w) A (execs body env)
        (TurnPost h₀ env.locals [(I, oI)] (J (i + 1)) { s with heap := h₁, toks := tk₁ + 1 } (fun f s' => R (.ok f) s')) (notedBy (model prog w) A env fun e s' => R (.error e) s') s₂) (notedBy (model prog w) A env fun e s' => R (.error e) s') { s with heap := h₁, toks := tk₁ + 1 })
    (fin : ∀ h' tk m' news', Fr h₀ env.locals h' m' → News h₀ env.locals h' news' → J x.cps.size m' news' → R (.ok .next) { s with heap := h', toks := tk }) :
    codeAny (model prog w) A (.forLoop (.Name xn px) (.ref I) body [] env) R s := by
  have old : ∀ b o, h₀.get? b = some o → b ≠ I := fun b o e q => by rw [q, hI] at e; cases e
  refine codeAny_forLoop_any
    (fun k s' => ∃ h' tk m' news' i, s' = { s with heap := h', toks := tk } ∧ 1 ≤ tk ∧ h'.IsStrIter I "str_ascii_iterator" x tx i ∧ Fr h₀ env.locals h' m' ∧ News h₀ env.locals h' news' ∧ (∀ p ∈ news', p.1 ≠ I) ∧ J i m' news' ∧ i ≤ x.cps.size ∧ k = x.cps.size + 1 - i) ?_ (x.cps.size + 1)
    ⟨s.heap, s.toks, m, news, 0, rfl, htk, hst, F, N, hnw, h0, Nat.zero_le _, rfl⟩
  rintro k s' ⟨h', tk, m', news', i, rfl, htk', hst', F', N', hnw', hJ, hi, rfl⟩
  have next : ∀ h₁ : Heap, (∀ b o, b ≠ I → h'.get? b = some o → h₁.get? b = some o) → Fr h₀ env.locals h₁ m' ∧ News h₀ env.locals h₁ news' := fun h₁ hk₁ =>
    ⟨⟨F'.ns.at' fun o e => hk₁ _ o hIL e, fun b o e => hk₁ b o (old b o e) (F'.keep b o e), F'.above⟩, fun p hp => ⟨hk₁ _ _ (hnw' p hp) (N' p hp).1, (N' p hp).2⟩⟩
  by_cases hlt : i < x.cps.size
  · refine wpAny_pyNext_ascii_item hst' (c := x.cps[i]) (by simp [hlt]) fun h₁ hit₁ hs₁ => ?_
    refine wpAny_pure ?_
    obtain ⟨F₁, N₁⟩ := next h₁ fun b o hb x => hs₁.extBut b o hb x
    obtain ⟨oI, hoI, hoc, hod⟩ := id hit₁
    have N₂ : News h₀ env.locals h₁ ((I, oI) :: news') := fun p hp => by
      rcases List.mem_cons.mp hp with rfl | hp
      · exact ⟨hoI, Ne.symm hIL, hI⟩
      · exact N₁ p hp
    have st := step i x.cps[i] m' news' h₁ tk oI (by simp [hlt]) hJ hnw' htk' F₁ N₂
    refine wpAny_mono (wpAny_toks_of (n := 1) (Nat.le_succ_of_le htk') st) (fun _ s₂ h₂' => wpAny_mono (wpAny_toks_of h₂'.1 h₂'.2) (fun f s₃ h₃ => ?_) fun _ _ e => e.2) fun _ _ e => e.2
    obtain ⟨ht₃, h₃⟩ := h₃
    have up : TurnEnd h₀ env.locals [(I, oI)] (J (i + 1)) { s with heap := h₁, toks := tk + 1 } s₃ → ∃ m, m < x.cps.size + 1 - i ∧ ∃ h' tk m' news' i, s₃ = { s with heap := h', toks := tk } ∧ 1 ≤ tk ∧ h'.IsStrIter I "str_ascii_iterator" x tx i ∧ Fr h₀ env.locals h' m' ∧ News h₀ env.locals h' news' ∧ (∀ p ∈ news', p.1 ≠ I) ∧ J i m' news' ∧ i ≤ x.cps.size ∧ m = x.cps.size + 1 - i := by
      rintro ⟨h9, tk₃, m₂, news₂, rfl, F₃, N₃, ha₃, hJ₃⟩
      exact ⟨x.cps.size + 1 - (i + 1), by omega, h9, tk₃, m₂, news₂, i + 1, rfl, ht₃, ⟨oI, (N₃ (I, oI) (.head _)).1, hoc, hod⟩, F₃, fun p hp => N₃ p (List.mem_append_right _ hp), fun p hp => ha₃ p hp _ (.head _), hJ₃, hlt, rfl⟩
    cases f with
    | ret v => exact h₃
    | brk => exact h₃
    | cont => exact up h₃
    | next => exact up h₃
  · have hin : i = x.cps.size := by omega
    subst hin
    refine wpAny_pyNext_ascii_end hh hst' (by simp) fun h₁ hs₁ => wpAny_execs_nil ?_
    obtain ⟨F₁, N₁⟩ := next h₁ fun b o hb x => hs₁ b o hb x
    exact fin h₁ tk m' news' F₁ N₁ hJ
theorem iter_ascii {x : Str} {tx : Tok} {m : Str → Option Value} {news : List (Addr × Obj)} {xn : Str} {px : Pos} (hh : A.handled = none) (ha : x.cps.all (· < 128) = true) (F : Fr h₀ env.locals s.heap m) (N : News h₀ env.locals s.heap news) (htk : 1 ≤ s.toks)
    (J : Nat → (Str → Option Value) → List (Addr × Obj) → Prop) (h0 : J 0 m news)
    (step : ∀ I (i c : Nat) m₁ news₁ h₁ tk₁ oI, x.cps[i]? = some c → J i m₁ news₁ → (∀ p ∈ news₁, p.1 ≠ I) → 1 ≤ tk₁ → Fr h₀ env.locals h₁ m₁ → News h₀ env.locals h₁ ((I, oI) :: news₁) →
      wpAny (model prog w) A (assign (.Name xn px) env (.str ⟨#[c]⟩ tk₁)) (fun _ s₂ => wpAny (model prog w) A (execs body env)
        (TurnPost h₀ env.locals [(I, oI)] (J (i + 1)) { s with heap := h₁, toks := tk₁ + 1 } Q) E s₂) E { s with heap := h₁, toks := tk₁ + 1 })
    (fin : ∀ h' tk m' news', Fr h₀ env.locals h' m' → News h₀ env.locals h' news' → J x.cps.size m' news' → Q .next { s with heap := h', toks := tk })
    (hE : PassesOwn (model prog w) A env E := by passes_own) :
    wpAny (model prog w) A (pyIter (.str x tx)) (fun it s₂ => codeAny (model prog w) A (.forLoop (.Name xn px) it body [] env) (fun r s' => match r with | .ok f => Q f s' | .error e => cameBackBy (model prog w) A env E e s') s₂) E s := by
  refine wpAny_pyIter_ascii ha ?_
  exact loop_ascii (s := { s with heap := _ }) (R := fun r s' => match r with | .ok f => Q f s' | .error e => cameBackBy (model prog w) A env E e s') hh (next_is_new F) (Nat.ne_of_lt F.ns.lt) ⟨_, Heap.get?_push_size _ rfl, rfl, rfl⟩ (fun p hp => Nat.ne_of_lt (Heap.lt_size (N p hp).1)) (F.push _) (fun p hp => ⟨Heap.get?_push_of_some _ (N p hp).1, (N p hp).2⟩) htk J h0
    (fun i c m₁ news₁ h₁ tk₁ oI a b c' d F₁ N₁ => wpAny_mono (step _ i c m₁ news₁ h₁ tk₁ oI a b c' d F₁ N₁) (fun _ _ x => wpAny_passesOwn hE x) hE) fin
end
end Mine

end Text1
/-! Text2 -/
section Text2
open PySem PySem.W PyProof.Rows PyProof.V PySem.Spec PySem.Calls
set_option Elab.async false
set_option maxRecDepth 100000
namespace Mine
theorem room3 {x dp : Nat} (h : dp + 5 < recursionLimit) (e : x = dp + 1) : x + 3 < recursionLimit := by omega
theorem room4 {x un : Nat} (h : un + 48 < cLine) (e : x = un + 3) : x + 24 < cLine := by omega
local macro_rules | `(tactic| walk_at "eval ListComp") => `(tactic| (k_here; (refine wpAny_with_toks (n := 1) (by dsimp only; omega) ?_); k_dflt (refine LCg.ListComp_U (F₀ := by k_asm) (by with_unfolding_all rfl) (by decide) (by rfl) (by decide) (by rfl) ?_)))
local macro_rules | `(tactic| walk_at "call ref") => `(tactic| (k_here; k_dflt (refine' fm_call ?k1 ?k2 ?k3 ?k4 ?k5 ?kK ?k9 ?k10 ?_; (case k1 => k_asm); (case k2 => k_asm); (case k3 => k_asm); (case k4 => k_asm); (case k5 => k_asm); (case kK => exact rfl); (case k9 => exact room3 (by assumption) rfl); (case k10 => exact room4 (by assumption) rfl)); intro t9 h9 tk9 F9 N9; (try dsimp only); (try k_sweep)))
local macro_rules | `(tactic| walk_at "execs cons") => `(tactic| ((with_reducible refine wpAny_execs_cons ?_); try dsimp only))
local macro_rules | `(tactic| walk_at "execs nil") => `(tactic| refine wpAny_execs_nil ?_)
local macro_rules | `(tactic| walk_at "exec For Name Constant cons nil") => `(tactic| (k_here; (with_unfolding_all refine wpAny_For ?_ (by intro _; rfl))))
theorem signs_is : (Str.ofString "sStT").cps = #[115, 83, 116, 84] := by decide +kernel
theorem signs_all : (Str.ofString "sStT").cps.all (· < 128) = true := by decide +kernel
theorem signs_at {i c : Nat} (h : (Str.ofString "sStT").cps[i]? = some c) : [115, 83, 116, 84][i]? = some c := by
  rw [signs_is] at h; simpa using h
theorem signs_ne {i c : Nat} (h : (Str.ofString "sStT").cps[i]? = some c) : ((⟨#[c]⟩ : Str) == Str.ofString "\"") = false := by
  have hm := List.mem_of_getElem? (signs_at h)
  have : ∀ c ∈ [115, 83, 116, 84], ((⟨#[c]⟩ : Str) == Str.ofString "\"") = false := by decide +kernel
  exact this c hm
def foldT (ns : List Int) (i : Nat) : Str := ([115, 83, 116, 84].take i).foldl rq (text0 ns)
theorem foldT_len (ns : List Int) (i : Nat) : (foldT ns i).length = 10 * ns.length := by rw [foldT, fold_rq_len, text0_len]
theorem foldT_succ {ns : List Int} {i c : Nat} (h : (Str.ofString "sStT").cps[i]? = some c) : foldT ns (i + 1) = rq (foldT ns i) c := by
  unfold foldT
  rw [List.take_add_one, signs_at h]
  simp [List.foldl_append]
def JT (ns : List Int) (led : List (Addr × Obj)) (i : Nat) (m' : Str → Option Value) (news' : List (Addr × Obj)) : Prop := (∃ t, m' (Str.ofString "text") = some (.str (foldT ns i) t)) ∧ news' = led
theorem text_end {g h : Heap} {L I : Addr} {oI : Obj} {m' : Str → Option Value} {led : List (Addr × Obj)} {ns : List Int} {i c : Nat} {t : Tok} {s1 : Shared} {tk : Nat}
    (F : Fr g L h m') (N : News g L h ((I, oI) :: led)) (hoff : ∀ p ∈ led, p.1 ≠ I) (hc : (Str.ofString "sStT").cps[i]? = some c)
    (hm1 : m' (Str.ofString "text") = some (.str (Txt.replace (foldT ns i) ⟨#[c]⟩ (Str.ofString "\"")) t)) :
    TurnEnd g L [(I, oI)] (JT ns led (i + 1)) s1 { s1 with heap := h, toks := tk } := by
  refine ⟨h, tk, m', led, rfl, F, N, fun p hp q hq => ?_, ⟨t, ?_⟩, rfl⟩
  · rw [List.mem_singleton.mp hq]; exact hoff p hp
  · rw [hm1, foldT_succ hc]; rfl
section
variable {w : World} {p : Program} {loose : List Str} {mean : ExcName → Option Value} {mg mb : Str → Option Value} {dp un : Nat} {gd : Option (List Code)} {cn : Str} {cs : Scope} {a : Addr} {ccd : Value} {cl : List (Str × Addr)} {outer : List Env} {A₀ : Around} {base h₀ : Heap} {L : Addr} {m : Str → Option Value} {news : List (Addr × Obj)} {s : Shared} {Q E : Value → Shared → Prop}
set_option maxHeartbeats 1000000 in
theorem text_call {l : Addr} {vs : List Value} {ns : List Int}
    (B : Below A₀ base outer h₀) (F : Fr h₀ L s.heap m) (X : (hd.heap_39 w.params).In h₀) (N : News h₀ L s.heap news) (T : Top p loose mean mg mb h₀) (hk : cs.kind = .function)
    (hl : s.heap.IsList l vs.toArray) (hi : IntsAre vs ns) (hr : InR ns) (hdp : dp + 5 < recursionLimit) (hun : un + 48 < cLine)
    (ret : ∀ t h' tk', Fr h₀ L h' m → News h₀ L h' news → Q (.str (lawText ns) t) { s with heap := h', toks := tk' }) :
    wpAny (model Challenge.rw_nq0055_01.row.prog w) (ktrTop dp un gd cn cs L a ccd cl outer) (call (.ref 78) [.ref l]) Q E s := by
  w_top off
  revert X; k_fill; intro X
  k_dflt (refine' call_ro (binds := [(Str.ofString "modes", .ref l)]) ?k1 ?k2 ?k3 ?k4 ?k5 ?kA ?kF ?kK ?k6 ?k7 ?k8 ?k9 ?kB ?_ ?c2 ?c3 ?c4 ?c5; (case kA => exact rfl); (case kF => exact rfl); (case kK => assumption); (case k1 => k_asm); (case k2 => k_asm); (case k3 => k_asm); (case k4 => k_asm); (case k5 => k_asm); (case k6 => k_is); (case k7 => k_is); (case k8 => ktr_room); (case k9 => exact BindsTo.of_eq rfl); (case c5 => decide); (case kB => exact locs rfl); (case c2 => exact rfl); (case c3 => exact rfl); (case c4 => exact rfl); k_whole; intro g' L' h' F' N' B' X' T' S'; replace F' := fr_one F'; (try dsimp only); (try k_lift B'); (try k_fold))
  have hl' := stays_list S' hl
  have htk1 : 1 ≤ s.toks + [(Str.ofString "modes", Value.ref l)].length := Nat.le_add_left 1 _
  generalize s.toks + [(Str.ofString "modes", Value.ref l)].length = tk0 at htk1 ⊢
  k_with "CompSrc" => (fail "by hand")
  k_steps
  refine LCg.CompSrc.base rfl F' N' hl' (by rw [List.size_toArray, hi.length, sizeLine_eq]; have := hr.2; omega) ?_
  intro g9
  refine rest_ints fm hi (fun u t I oI C oC D m₂ ys h tk E' hu hC hx F N off ne => ?_) (fun ys hys => ?_)
  · k_steps
    exact ⟨rfl, _, rfl⟩
  · intro D h tk F1 N1 off htk2
    try dsimp only
    k_steps
    refine wpAny_with_toks (n := 1) (by dsimp only; omega) ?_
    refine join_listC (led_list N1) hys sep_len (join_fit hr) fun t' k => ?_
    intro htk3
    dsimp only at htk3 ⊢
    k_steps
    refine wpAny_with_toks (n := 1) (by dsimp only; omega) ?_
    refine SC.replaceW (by show @Ne Nat _ _; omega) (by show @Ne Nat _ _; omega) (by show @Ne Nat _ _; omega) (by decide +kernel) (by have := joined_len ns; have := hr.2; unfold joined at *; omega) (by decide +kernel) fun t' k => ?_
    intro htk4
    dsimp only at htk4 ⊢
    k_steps
    rename Fr _ _ _ _ => fE
    rename News _ _ _ _ => nE
    (with_unfolding_all refine iter_ascii rfl signs_all fE nE (by dsimp only; omega) (JT ns [(D, LCg.lst ys)]) ⟨⟨_, rfl⟩, rfl⟩ ?_ ?_)
    · rintro I i c m₁ news₁ h₁ tk₁ oI hc ⟨⟨t5, hm1⟩, rfl⟩ hoff htk5 F2 N2
      replace F2 := fr_know F2 hm1
      clear fE nE
      have htk6 : @LE.le Nat _ 1 tk₁ := htk5
      have hlen := foldT_len ns i
      have hns := hr.2
      try dsimp only
      k_steps
      refine SC.replaceW (by show @Ne Nat _ _; (try dsimp only); omega) (by show @Ne Nat _ _; (try dsimp only); omega) (by show @Ne Nat _ _; (try dsimp only); omega) (signs_ne hc) (by omega) (by decide +kernel) fun t' k => ?_
      try dsimp only
      k_steps
      unfold TurnPost
      dsimp only
      rename Fr _ _ _ _ => fE
      rename News _ _ _ _ => nE
      exact text_end fE nE hoff hc (by with_unfolding_all rfl)
    · rintro h2 tk2 m2 news2 F2 N2 ⟨⟨t5, hm1⟩, rfl⟩
      replace F2 := fr_know F2 hm1
      rw [signs_is] at F2
      clear fE nE
      try dsimp only
      k_steps
      exact ret _ _ _ (by assumption) (by assumption)
end
end Mine

end Text2
/-! Marks1 -/
section Marks1
open PySem PySem.W PyProof.Rows PyProof.V PySem.Spec PySem.Calls
set_option Elab.async false
set_option maxRecDepth 100000
namespace Mine
section
variable {prog : Program} {w : World} {A : Around} {E : Value → Shared → Prop} {s : Shared} {env : Env} {h₀ : Heap} {test : Expr} {body : List Stmt} {Q : Flow → Shared → Prop}
theorem while_fr {pos : Pos} {m : Str → Option Value} {news : List (Addr × Obj)} (F : Fr h₀ env.locals s.heap m) (N : News h₀ env.locals s.heap news)
    (J : Nat → (Str → Option Value) → List (Addr × Obj) → Prop) (k : Nat) (h0 : J k m news)
    (turn : ∀ k m₁ news₁ h₁ tk₁, J k m₁ news₁ → Fr h₀ env.locals h₁ m₁ → News h₀ env.locals h₁ news₁ →
      wpAny (model prog w) A (isTrue test env (eval test env)) (fun b s₂ => if b then wpAny (model prog w) A (execs body env)
        (TurnPost h₀ env.locals [] (fun m' n' => ∃ k', k' < k ∧ J k' m' n') { s with heap := h₁, toks := tk₁ } Q) E s₂ else Q .next s₂) E { s with heap := h₁, toks := tk₁ })
    (hE : PassesOwn (model prog w) A env E := by passes_own) :
    wpAny (model prog w) A (exec (.While test body [] pos) env) Q E s := by
  refine wpAny_While ?_
  refine codeAny_whileLoop (fun n s' => ∃ h' tk m' news', s' = { s with heap := h', toks := tk } ∧ Fr h₀ env.locals h' m' ∧ News h₀ env.locals h' news' ∧ J n m' news') ?_ k ⟨s.heap, s.toks, m, news, rfl, F, N, h0⟩
  rintro n s' ⟨h', tk, m', news', rfl, F', N', hJ⟩
  refine wpAny_mono (turn n m' news' h' tk hJ F' N') (fun b s₂ h₂ => ?_) hE
  cases b with
  | false => exact wpAny_execs_nil h₂
  | true =>
    simp only [if_true] at h₂ ⊢
    refine wpAny_mono h₂ (fun f s₃ h₃ => ?_) hE
    have up : TurnEnd h₀ env.locals [] (fun m' n' => ∃ k', k' < n ∧ J k' m' n') { s with heap := h', toks := tk } s₃ → ∃ m, m < n ∧ ∃ h' tk m' news', s₃ = { s with heap := h', toks := tk } ∧ Fr h₀ env.locals h' m' ∧ News h₀ env.locals h' news' ∧ J m m' news' := by
      rintro ⟨h9, tk₃, m₂, news₂, rfl, F₃, N₃, _, k', hk', hJ₃⟩
      exact ⟨k', hk', h9, tk₃, m₂, news₂, rfl, F₃, N₃, hJ₃⟩
    cases f with
    | ret v => exact h₃
    | brk => exact h₃
    | cont => exact up h₃
    | next => exact up h₃
end
/-- where the walk is to stop -/
def Halt (P : Prop) : Prop := P
theorem halt_of {P : Prop} (h : Halt P) : P := h
theorem to_halt {P : Prop} (h : P) : Halt P := h
theorem pow_two {n : Nat} : ((2 : Int) ^ ((n : Int)).toNat) = 2 ^ n := by rw [Int.toNat_natCast]
def mk (q : Int) : Nat → Int
  | 0 => q
  | j + 1 => Builtin.bitXor (mk q j) ((mk q j).fdiv (2 ^ (2 ^ j)))
def JM (q size : Int) (t1 : Tok) (k : Nat) (m' : Str → Option Value) (news' : List (Addr × Obj)) : Prop :=
  ∃ (j P : Nat) (t u : Tok), k + j = 8 ∧ P = 2 ^ j ∧ P ≤ 128 ∧ m' (Str.ofString "marks") = some (.int (mk q j) t) ∧ m' (Str.ofString "step") = some (.int (P : Int) u) ∧ m' (Str.ofString "size") = some (.int size t1) ∧ news' = []
section
variable {w : World} {p : Program} {loose : List Str} {mean : ExcName → Option Value} {mg mb : Str → Option Value} {dp un : Nat} {gd : Option (List Code)} {cn : Str} {cs : Scope} {a : Addr} {ccd : Value} {cl : List (Str × Addr)} {outer : List Env} {A₀ : Around} {base h₀ : Heap} {L : Addr} {m : Str → Option Value} {news : List (Addr × Obj)} {s : Shared} {Q E : Value → Shared → Prop}
local macro_rules | `(tactic| walk_at "exec While Compare cons nil") => `(tactic| refine halt_of ?_)
local macro_rules | `(tactic| walk_at "binaryOp Pow int int") => `(tactic| (k_here; (with_reducible refine pow_int_small ?kb1 ?kb2 ?kb3 ?_); (case kb1 => omega); (case kb2 => omega); (case kb3 => decide)))
theorem marks_end {g h : Heap} {L : Addr} {m' : Str → Option Value} {q size : Int} {t1 t u : Tok} {k j P : Nat} {s1 : Shared} {tk : Nat} {x y : Int}
    (F : Fr g L h m') (N : News g L h []) (hkj : k + j = 8) (hP : P = 2 ^ j) (hlt : (P : Int) < size) (hs : size ≤ 120)
    (hm1 : m' (Str.ofString "marks") = some (.int x t)) (hm2 : m' (Str.ofString "step") = some (.int y u)) (hm3 : m' (Str.ofString "size") = some (.int size t1))
    (hx : x = mk q (j + 1)) (hy : y = ((P * 2 : Nat) : Int)) :
    TurnEnd g L [] (fun m' n' => ∃ k', k' < k ∧ JM q size t1 k' m' n') s1 { s1 with heap := h, toks := tk } := by
  subst hx hy
  have hj7 : j ≤ 6 := by
    rcases Nat.lt_or_ge 6 j with h | h
    · have : 2 ^ 7 ≤ 2 ^ j := Nat.pow_le_pow_right (by decide) h
      omega
    · exact h
  have hp64 : P ≤ 2 ^ 6 := hP ▸ Nat.pow_le_pow_right (by decide) hj7
  exact ⟨h, tk, m', [], rfl, F, N, (fun p hp => by cases hp), k - 1, by omega, j + 1, P * 2, t, u, by omega, by rw [hP, Nat.pow_succ], by omega, hm1, hm2, hm3, rfl⟩
set_option maxHeartbeats 1000000 in
theorem marks_call {q size : Int} {t0 t1 : Tok}
    (B : Below A₀ base outer h₀) (F : Fr h₀ L s.heap m) (X : (hd.heap_39 w.params).In h₀) (N : News h₀ L s.heap news) (T : Top p loose mean mg mb h₀) (hk : cs.kind = .function)
    (hdp : dp + 3 < recursionLimit) (hs : size ≤ 120)
    (ret : ∀ j t h' tk', size ≤ (2 ^ j : Nat) → Fr h₀ L h' m → News h₀ L h' news → Q (.int (mk q j) t) { s with heap := h', toks := tk' }) :
    wpAny (model Challenge.rw_nq0055_01.row.prog w) (ktrTop dp un gd cn cs L a ccd cl outer) (call (.ref 85) [.int q t0, .int size t1]) Q E s := by
  w_top off
  revert X; k_fill; intro X
  k_dflt (refine' call_ro (binds := [(Str.ofString "quotes", .int q t0), (Str.ofString "size", .int size t1)]) ?k1 ?k2 ?k3 ?k4 ?k5 ?kA ?kF ?kK ?k6 ?k7 ?k8 ?k9 ?kB ?_ ?c2 ?c3 ?c4 ?c5; (case kA => exact rfl); (case kF => exact rfl); (case kK => assumption); (case k1 => k_asm); (case k2 => k_asm); (case k3 => k_asm); (case k4 => k_asm); (case k5 => k_asm); (case k6 => k_is); (case k7 => k_is); (case k8 => ktr_room); (case k9 => exact BindsTo.of_eq rfl); (case c5 => decide); (case kB => exact locs rfl); (case c2 => exact rfl); (case c3 => exact rfl); (case c4 => exact rfl); k_whole; intro g' L' h' F' N' B' X' T' S'; replace F' := fr_two F'; (try dsimp only); (try k_lift B'); (try k_fold))
  k_steps
  refine to_halt ?_
  rename Fr _ _ _ _ => fE
  rename News _ _ _ _ => nE
  (with_unfolding_all refine while_fr fE nE (JM q size t1) 8 ⟨0, 1, _, _, rfl, rfl, by decide, rfl, rfl, rfl, rfl⟩ ?_)
  rintro k m₁ news₁ h₁ tk₁ ⟨j, P, t, u, hkj, hP, hj, hm1, hm2, hm3, rfl⟩ F1 N1
  replace F1 := fr_know3 F1 hm1 hm2 hm3
  clear fE nE
  k_steps
  · unfold TurnPost
    dsimp only
    rename Fr _ _ _ _ => fE
    rename News _ _ _ _ => nE
    exact marks_end fE nE hkj hP (by assumption) hs (by with_unfolding_all rfl) (by with_unfolding_all rfl) (by with_unfolding_all rfl) (by rw [pow_two, hP]; rfl) (by omega)
  · exact ret j _ _ _ (by rw [← hP]; omega) (by assumption) (by assumption)
end
end Mine

end Marks1
/-! LoopN -/
section LoopN
open PySem PySem.W PyProof.Rows PyProof.V PySem.Spec PySem.Calls
set_option Elab.async false
set_option maxRecDepth 100000
namespace Mine
section
variable {prog : Program} {w : World} {A : Around} {E : Value → Shared → Prop} {s : Shared} {env : Env} {h₀ : Heap} {xn : Str} {px : Pos} {body : List Stmt}
theorem loop_name {R : Result → Shared → Prop} {I : Addr} {fp : List Addr} {n : Nat} {P : Nat → Value → Prop} {St : Nat → Heap → Prop} {m : Str → Option Value} {news : List (Addr × Obj)} (W : Walks prog w A I fp [I] n P St)
    (hIo : ∀ i h, St i h → ∃ o, h.get? I = some o) (hfp : ∀ b ∈ fp, b = I ∨ ∃ o, h₀.get? b = some o) (hI : h₀.get? I = none) (hIL : env.locals ≠ I)
    (hst : St 0 s.heap) (hnw : ∀ p ∈ news, p.1 ≠ I) (F : Fr h₀ env.locals s.heap m) (N : News h₀ env.locals s.heap news)
    (J : Nat → (Str → Option Value) → List (Addr × Obj) → Prop) (h0 : J 0 m news)
    (step : ∀ i v m₁ news₁ h₁ tk₁ oI, i < n → P i v → J i m₁ news₁ → (∀ p ∈ news₁, p.1 ≠ I) → Fr h₀ env.locals h₁ m₁ → News h₀ env.locals h₁ ((I, oI) :: news₁) →
      wpAny (model prog w) A (assign (.Name xn px) env v) (fun _ s₂ => wpAny (model prog w) A (execs body env)
        (TurnPost h₀ env.locals [(I, oI)] (J (i + 1)) { s with heap := h₁, toks := tk₁ } (fun f s' => R (.ok f) s')) (notedBy (model prog w) A env fun e s' => R (.error e) s') s₂) (notedBy (model prog w) A env fun e s' => R (.error e) s') { s with heap := h₁, toks := tk₁ })
    (fin : ∀ h' tk m' news', Fr h₀ env.locals h' m' → News h₀ env.locals h' news' → J n m' news' → R (.ok .next) { s with heap := h', toks := tk }) :
    codeAny (model prog w) A (.forLoop (.Name xn px) (.ref I) body [] env) R s := by
  have old : ∀ b o, h₀.get? b = some o → b ≠ I := fun b o e q => by rw [q, hI] at e; cases e
  refine codeAny_forLoop_any
    (fun k s' => ∃ h' tk m' news' i, s' = { s with heap := h', toks := tk } ∧ St i h' ∧ Fr h₀ env.locals h' m' ∧ News h₀ env.locals h' news' ∧ (∀ p ∈ news', p.1 ≠ I) ∧ J i m' news' ∧ i ≤ n ∧ k = n + 1 - i) ?_ (n + 1)
    ⟨s.heap, s.toks, m, news, 0, rfl, hst, F, N, hnw, h0, Nat.zero_le _, rfl⟩
  rintro k s' ⟨h', tk, m', news', i, rfl, hst', F', N', hnw', hJ, hi, rfl⟩
  have next : ∀ h₁ : Heap, (∀ b o, b ∉ [I] → h'.get? b = some o → h₁.get? b = some o) → Fr h₀ env.locals h₁ m' ∧ News h₀ env.locals h₁ news' := fun h₁ hk₁ =>
    ⟨⟨F'.ns.at' fun o e => hk₁ _ o (by simpa using hIL) e, fun b o e => hk₁ b o (by simpa using old b o e) (F'.keep b o e), F'.above⟩, fun p hp => ⟨hk₁ _ _ (by simpa using hnw' p hp) (N' p hp).1, (N' p hp).2⟩⟩
  by_cases hlt : i < n
  · refine W.item i _ _ _ hlt hst' fun v h₁ tk₁ hP hst₁ hk₁ => ?_
    refine wpAny_pure ?_
    obtain ⟨F₁, N₁⟩ := next h₁ hk₁
    obtain ⟨oI, hoI⟩ := hIo _ _ hst₁
    have N₂ : News h₀ env.locals h₁ ((I, oI) :: news') := fun p hp => by
      rcases List.mem_cons.mp hp with rfl | hp
      · exact ⟨hoI, Ne.symm hIL, hI⟩
      · exact N₁ p hp
    refine wpAny_mono (step i v m' news' h₁ tk₁ oI hlt hP hJ hnw' F₁ N₂) (fun _ s₂ h₂' => wpAny_mono h₂' (fun f s₃ h₃ => ?_) fun _ _ e => e) fun _ _ e => e
    have up : TurnEnd h₀ env.locals [(I, oI)] (J (i + 1)) { s with heap := h₁, toks := tk₁ } s₃ → ∃ m, m < n + 1 - i ∧ ∃ h' tk m' news' i, s₃ = { s with heap := h', toks := tk } ∧ St i h' ∧ Fr h₀ env.locals h' m' ∧ News h₀ env.locals h' news' ∧ (∀ p ∈ news', p.1 ≠ I) ∧ J i m' news' ∧ i ≤ n ∧ m = n + 1 - i := by
      rintro ⟨h9, tk₃, m₂, news₂, rfl, F₃, N₃, ha₃, hJ₃⟩
      refine ⟨n + 1 - (i + 1), by omega, h9, tk₃, m₂, news₂, i + 1, rfl, ?_, F₃, fun p hp => N₃ p (List.mem_append_right _ hp), fun p hp => ha₃ p hp _ (.head _), hJ₃, hlt, rfl⟩
      refine W.frame _ _ _ hst₁ fun b hb o e => ?_
      rcases hfp b hb with rfl | ⟨o₀, e₀⟩
      · rw [hoI] at e; cases e; exact (N₃ (b, oI) (.head _)).1
      · have e1 := F₁.keep _ _ e₀
        rw [e1] at e; cases e; exact F₃.keep _ _ e₀
    cases f with
    | ret v => exact h₃
    | brk => exact h₃
    | cont => exact up h₃
    | next => exact up h₃
  · have hin : i = n := by omega
    subst hin
    refine W.done _ _ _ hst' fun h₁ tk₁ hk₁ => wpAny_execs_nil ?_
    obtain ⟨F₁, N₁⟩ := next h₁ hk₁
    exact fin h₁ tk₁ m' news' F₁ N₁ hJ
theorem iter_list {ax : Addr} {vs : List Value} {m : Str → Option Value} {news : List (Addr × Obj)} {Q : Flow → Shared → Prop} (hh : A.handled = none) (hl : h₀.IsList ax vs.toArray) (F : Fr h₀ env.locals s.heap m) (N : News h₀ env.locals s.heap news)
    (J : Nat → (Str → Option Value) → List (Addr × Obj) → Prop) (h0 : J 0 m news)
    (step : ∀ I i v m₁ news₁ h₁ tk₁ oI, vs[i]? = some v → J i m₁ news₁ → (∀ p ∈ news₁, p.1 ≠ I) → Fr h₀ env.locals h₁ m₁ → News h₀ env.locals h₁ ((I, oI) :: news₁) →
      wpAny (model prog w) A (assign (.Name xn px) env v) (fun _ s₂ => wpAny (model prog w) A (execs body env)
        (TurnPost h₀ env.locals [(I, oI)] (J (i + 1)) { s with heap := h₁, toks := tk₁ } Q) E s₂) E { s with heap := h₁, toks := tk₁ })
    (fin : ∀ h' tk m' news', Fr h₀ env.locals h' m' → News h₀ env.locals h' news' → J vs.length m' news' → Q .next { s with heap := h', toks := tk })
    (hE : PassesOwn (model prog w) A env E := by passes_own) :
    wpAny (model prog w) A (pyIter (.ref ax)) (fun it s₂ => codeAny (model prog w) A (.forLoop (.Name xn px) it body [] env) (fun r s' => match r with | .ok f => Q f s' | .error e => cameBackBy (model prog w) A env E e s') s₂) E s := by
  have hax : s.heap.IsList ax vs.toArray := hl.at fun o e => F.keep _ _ e
  have hlt : ax < s.heap.objs.size := by obtain ⟨o, e, _⟩ := hax; exact Heap.lt_size e
  refine wpAny_pyIter_list hax ?_
  have W := Walks.list (prog := prog) (w := w) hh s.heap.objs.size ax (Nat.ne_of_lt hlt) vs.toArray
  rw [List.size_toArray] at W
  refine loop_name (s := { s with heap := _ }) (R := fun r s' => match r with | .ok f => Q f s' | .error e => cameBackBy (model prog w) A env E e s') W (fun i h st => let ⟨o, ho, _⟩ := st.1; ⟨o, ho⟩) (fun b hb => ?_) (next_is_new F) (Nat.ne_of_lt F.ns.lt) ⟨⟨_, Heap.get?_push_size _ rfl, rfl, rfl⟩, hax.at fun o e => Heap.get?_push_of_some _ e⟩ (fun p hp => Nat.ne_of_lt (Heap.lt_size (N p hp).1)) (F.push _) (fun p hp => ⟨Heap.get?_push_of_some _ (N p hp).1, (N p hp).2⟩) J h0
    (fun i v m₁ news₁ h₁ tk₁ oI _ hP b c F₁ N₁ => wpAny_mono (step _ i v m₁ news₁ h₁ tk₁ oI (by simpa using hP) b c F₁ N₁) (fun _ _ x => wpAny_passesOwn hE x) hE) fin
  rcases List.mem_cons.mp hb with rfl | hb
  · exact .inl rfl
  · rw [List.mem_singleton.mp hb]; obtain ⟨o, e, _⟩ := hl; exact .inr ⟨o, e⟩
theorem iter_range {r : Addr} {b₀ : Int} {t₀ u₀ v₀ : Tok} {n : Nat} {m : Str → Option Value} {news : List (Addr × Obj)} {Q : Flow → Shared → Prop} (hh : A.handled = none) (hr : IsRange s.heap r 0 b₀ 1 t₀ u₀ v₀) (hsmall : Builtin.Range.small 0 b₀ 1 = true) (hn : Builtin.Range.rangeSize 0 b₀ 1 = (n : Int)) (F : Fr h₀ env.locals s.heap m) (N : News h₀ env.locals s.heap news)
    (J : Nat → (Str → Option Value) → List (Addr × Obj) → Prop) (h0 : J 0 m news)
    (step : ∀ I (i : Nat) t m₁ news₁ h₁ tk₁ oI, i < n → J i m₁ news₁ → (∀ p ∈ news₁, p.1 ≠ I) → Fr h₀ env.locals h₁ m₁ → News h₀ env.locals h₁ ((I, oI) :: news₁) →
      wpAny (model prog w) A (assign (.Name xn px) env (.int (i : Int) t)) (fun _ s₂ => wpAny (model prog w) A (execs body env)
        (TurnPost h₀ env.locals [(I, oI)] (J (i + 1)) { s with heap := h₁, toks := tk₁ } Q) E s₂) E { s with heap := h₁, toks := tk₁ })
    (fin : ∀ h' tk m' news', Fr h₀ env.locals h' m' → News h₀ env.locals h' news' → J n m' news' → Q .next { s with heap := h', toks := tk })
    (hE : PassesOwn (model prog w) A env E := by passes_own) :
    wpAny (model prog w) A (pyIter (.ref r)) (fun it s₂ => codeAny (model prog w) A (.forLoop (.Name xn px) it body [] env) (fun r s' => match r with | .ok f => Q f s' | .error e => cameBackBy (model prog w) A env E e s') s₂) E s := by
  refine wpAny_pyIter_range hr hsmall ?_
  have W := Walks.range (prog := prog) (w := w) hh s.heap.objs.size 0 1 n
  refine loop_name (s := { s with heap := _ }) (R := fun r s' => match r with | .ok f => Q f s' | .error e => cameBackBy (model prog w) A env E e s') W (fun i h st => ⟨_, st⟩) (fun b hb => .inl (List.mem_singleton.mp hb)) (next_is_new F) (Nat.ne_of_lt F.ns.lt) (by show IsRangeIter _ _ _ _ _; rw [hn]; simpa using Heap.get?_push_size _ rfl) (fun p hp => Nat.ne_of_lt (Heap.lt_size (N p hp).1)) (F.push _) (fun p hp => ⟨Heap.get?_push_of_some _ (N p hp).1, (N p hp).2⟩) J h0
    (fun i v m₁ news₁ h₁ tk₁ oI hi hP b c F₁ N₁ => ?_) fin
  obtain ⟨t, rfl⟩ := hP
  have e1 : (0 : Int) + (i : Int) * 1 = (i : Int) := by omega
  rw [e1]
  exact wpAny_mono (step _ i t m₁ news₁ h₁ tk₁ oI hi b c F₁ N₁) (fun _ _ x => wpAny_passesOwn hE x) hE
end
end Mine

end LoopN
/-! RoC -/
section RoC
open PySem PySem.W PyProof.Rows PyProof.V PySem.Spec PySem.Calls
set_option Elab.async false
set_option maxRecDepth 100000
namespace Mine
section
variable {prog : Program} {w : World} {A A₀ : Around} {E : Value → Shared → Prop} {s : Shared} {K : Frag} {L : Addr} {h₀ base : Heap} {m mg mb : Str → Option Value} {news : List (Addr × Obj)} {p : Program} {loose : List Str} {mean : ExcName → Option Value} {Q : Value → Shared → Prop}
/-- as call_ro, for a def some of whose names are cells -/
theorem call_roC {env : Env} {outer : List Env} {name qual : Str} {params : Arguments} {body : List Stmt} {scope : Scope} {dV kV doc pm cdv ct oc : Value} {an od : Option Addr} {osl : Array (Option Value)} {f : Addr} {vals : List Value} {binds : List (Str × Value)}
    (B : Below A₀ base outer h₀) (F : Fr h₀ L s.heap m) (X₀ : K.In h₀) (N : News h₀ L s.heap news) (T : Top p loose mean mg mb h₀) (hA : A.frames = some (env :: outer)) (hf : env.frame = some L) (hke : env.scope.kind = .function)
    (ho : K.lookup f = some ⟨oc, od, .func (fnOf name qual params body scope dV kV doc pm an cdv ct), osl⟩) (hcd : codeIn K cdv qual = true) (hroom : A.depth < recursionLimit)
    (hbind : BindsTo s (fnOf name qual params body scope dV kV doc pm an cdv ct) ⟨vals, []⟩ binds) (hkind : (binds.all fun y => scope.names.lookup y.1 == some .local || scope.names.lookup y.1 == some .cell) = true)
    (hnd : ((cellsFrom 0 scope.names []).map (·.1)).Nodup)
    (h : ∀ g L' h₁ tk cells, Fr g L' h₁ (bindL (envOfC qual scope L' f cdv).kindOf binds fun _ => none) → News g L' h₁ cells →
      CellsAre (bindC (envOfC qual scope L' f cdv).kindOf binds fun _ => none) (cellsFrom (L' + 1) scope.names []) cells → Below A base (env :: outer) g → K.In g → Top p loose mean mg mb g → s.heap.StaysIn g →
      wpAny (model prog w) (A.deeper (envOfC qual scope L' f cdv)) (execs body (envOfC qual scope L' f cdv))
        (fun fl s' => LeaveK h₀ L m g (fun r s' => News h₀ L s'.heap news → match r with | .ok (.ret v) => Q v s' | .ok _ => False | .error e => E e s') (match fl with | .ret v => v | _ => .none) s')
        (fun e s' => wpAny (model prog w) (A.deeper (envOfC qual scope L' f cdv)) (leaving (envOfC qual scope L' f cdv) e) (fun _ s'' => E e s'') (fun e' s'' => E e' s'') s')
        { s with heap := h₁, toks := tk })
    (hco : scope.isCoroutine = false) (hgen : scope.isGenerator = false) (hk : scope.kind = .function) : wpAny (model prog w) A (call (.ref f) vals) Q E s := by
  refine wpAny_call ?_
  obtain ⟨FG, BG, st, lv⟩ := groundX (s := s) (R := fun r s' => News h₀ L s'.heap news → match r with | .ok (.ret v) => Q v s' | .ok _ => False | .error e => E e s') B F (News.nil (h := s.heap)) hA hf hke
  have hX := X₀.keeps F.keep
  refine codeAny_call_function (fd := fnOf name qual params body scope dV kV doc pm an cdv ct) hroom (hX _ _ ho) rfl hco hgen rfl (codeRec_of hX hcd) (hbind _ _ _ _ ?_)
  refine wpAny_newFunctionEnv_cells hk (kindsX hkind _) fun env' he s' x => ?_
  subst he
  refine ⟨(T.nolimit.keeps F.keep).keeps x.toInCall.keep, codeAny_func ?_⟩
  obtain ⟨h₁, tk, rfl, _⟩ := x.done
  have hk₁ := x.toInCall.keep
  obtain ⟨cells, NC, Y⟩ := Cl.news (h₀ := s.heap) (Nat.le_refl _) fun n c hm => ⟨x.cell n c (lookup_of_mem_nodup (cellsFrom_names scope.names 0 (s.heap.objs.size + 1) [] [] rfl ▸ hnd) hm), x.above n c hm⟩
  refine wpAny_mono (h s.heap s.heap.objs.size h₁ tk cells ⟨x.toInCall.ns, fun b o e => hk₁ b o e, Nat.le_refl _⟩ NC Y BG hX (T.keeps F.keep) (fun _ _ e => e)) (fun fl s' hl => ?_) fun _ _ y => y
  refine lv _ _ hl fun q hq => ?_
  obtain ⟨L', m', news', F', N', k⟩ := hl
  exact ⟨F'.keep _ _ (N q hq).1, (N q hq).2⟩
end
end Mine

end RoC
/-! Due -/
section Due
open PySem PySem.W PyProof.Rows PyProof.V PySem.Spec PySem.Calls
set_option Elab.async false
set_option maxRecDepth 100000
namespace Mine
theorem fr_kst {h₀ h : Heap} {L : Addr} {m : Str → Option Value} (ps : List (Str × Value)) (F : Fr h₀ L h m) (hp : ∀ p ∈ ps, m p.1 = some p.2) : Fr h₀ L h (kstB m ps) := by
  have e : kstB m ps = m := by
    funext z
    exact kstB_eq hp fun _ => rfl
  rw [e]; exact F
def nm1 (x : Str) (mode : Int) : Str := x ++ Txt.item (Str.ofString "?pc?d?b?-?l?s???") (mode.fdiv 4096) ++ Str.ofString "rwxrwxrwx"
def lt1 (x mode : Int) : Int := x * 1024 + (if mode.fdiv 4096 = 8 ∨ mode.fdiv 4096 = 12 then 0 else 512) + (Builtin.bitAnd mode 4095).fmod 512
def qt1 (x mode : Int) : Int := x * 1024 + (if mode.fdiv 4096 = 12 then 512 else 0) + (Builtin.bitAnd mode 4095).fdiv 2048 * 64 + ((Builtin.bitAnd mode 4095).fdiv 1024).fmod 2 * 8 + ((Builtin.bitAnd mode 4095).fdiv 512).fmod 2
def nmF (l : List Int) : Str := l.foldl nm1 (Str.ofString "")
def ltF (l : List Int) : Int := l.foldl lt1 0
def qtF (l : List Int) : Int := l.foldl qt1 0
def P1 (ns : List Int) (l : Addr) (size : Int) (i : Nat) (t1 t2 t3 t4 : Tok) : List (Str × Value) :=
  [(Str.ofString "names", .str (nmF (ns.take i)) t1), (Str.ofString "letters", .int (ltF (ns.take i)) t2), (Str.ofString "quotes", .int (qtF (ns.take i)) t3), (Str.ofString "size", .int size t4), (Str.ofString "modes", .ref l)]
def J1 (ns : List Int) (l : Addr) (led : List (Addr × Obj)) (i : Nat) (m' : Str → Option Value) (news' : List (Addr × Obj)) : Prop :=
  ∃ t1 t2 t3 t4, (∀ p ∈ P1 ns l (10 * (ns.length : Int)) i t1 t2 t3 t4, m' p.1 = some p.2) ∧ news' = led
theorem ints_at {vs : List Value} {ns : List Int} (h : IntsAre vs ns) {i : Nat} {v : Value} (e : vs[i]? = some v) : ∃ n t, v = .int n t ∧ ns[i]? = some n := by
  obtain ⟨n, t, h1, h2⟩ := IntsAre.at h i v e
  exact ⟨n, t, h1, h2⟩
theorem rwx_len : (Str.ofString "rwxrwxrwx").length = 9 := by decide +kernel
theorem nm1_len (x : Str) (mode : Int) : (nm1 x mode).length = x.length + 10 := by
  unfold nm1
  rw [Str.length_append, Str.length_append, rwx_len, len_item]
theorem nmF_len : ∀ (l : List Int), (nmF l).length = 10 * l.length := by
  have key : ∀ (l : List Int) (x : Str), (l.foldl nm1 x).length = x.length + 10 * l.length := by
    intro l
    induction l with
    | nil => intro x; simp
    | cons a r ih => intro x; rw [List.foldl_cons, ih, nm1_len, List.length_cons]; omega
  intro l
  rw [nmF, key]
  have : (Str.ofString "").length = 0 := by decide +kernel
  omega
local macro_rules | `(tactic| walk_at "binaryOp Add str str") => `(tactic| (k_here; (refine SBL.add (hsz := ?hsz) ?_); (case hsz => (rw [sizeLine_eq]; omega)); intro _ _ _))
theorem any_t {k : Int} (h : ([8, 12].any fun x => x == k) = true) : k = 8 ∨ k = 12 := by
  simp at h; omega
theorem any_f {k : Int} (h : ([8, 12].any fun x => x == k) = false) : ¬ (k = 8 ∨ k = 12) := by
  simp at h; omega
theorem lt1_t {x mode : Int} (h : ([8, 12].any fun x => x == mode.fdiv 4096) = true) : x * 1024 + 0 + (Builtin.bitAnd mode 4095).fmod 512 = lt1 x mode := by unfold lt1; rw [if_pos (any_t h)]
theorem lt1_f {x mode : Int} (h : ([8, 12].any fun x => x == mode.fdiv 4096) = false) : x * 1024 + 512 + (Builtin.bitAnd mode 4095).fmod 512 = lt1 x mode := by unfold lt1; rw [if_neg (any_f h)]
theorem qt1_t {x mode : Int} (h : mode.fdiv 4096 = 12) : x * 1024 + 512 + (Builtin.bitAnd mode 4095).fdiv 2048 * 64 + ((Builtin.bitAnd mode 4095).fdiv 1024).fmod 2 * 8 + ((Builtin.bitAnd mode 4095).fdiv 512).fmod 2 = qt1 x mode := by unfold qt1; rw [if_pos h]
theorem qt1_f {x mode : Int} (h : mode.fdiv 4096 ≠ 12) : x * 1024 + 0 + (Builtin.bitAnd mode 4095).fdiv 2048 * 64 + ((Builtin.bitAnd mode 4095).fdiv 1024).fmod 2 * 8 + ((Builtin.bitAnd mode 4095).fdiv 512).fmod 2 = qt1 x mode := by unfold qt1; rw [if_neg h]
theorem take_snoc {ns : List Int} {i : Nat} {mode : Int} (h : ns[i]? = some mode) : ns.take (i + 1) = ns.take i ++ [mode] := by rw [List.take_add_one, h]; rfl
theorem due_end1 {g h : Heap} {L I l : Addr} {oI : Obj} {m' : Str → Option Value} {led : List (Addr × Obj)} {ns : List Int} {i : Nat} {mode Y Z : Int} {X : Str} {t1 t2 t3 t4 : Tok} {s1 : Shared} {tk : Nat}
    (F : Fr g L h m') (N : News g L h ((I, oI) :: led)) (hoff : ∀ p ∈ led, p.1 ≠ I) (hmode : ns[i]? = some mode)
    (h1 : m' (Str.ofString "names") = some (.str X t1)) (h2 : m' (Str.ofString "letters") = some (.int Y t2)) (h3 : m' (Str.ofString "quotes") = some (.int Z t3)) (h4 : m' (Str.ofString "size") = some (.int (10 * (ns.length : Int)) t4)) (h5 : m' (Str.ofString "modes") = some (.ref l))
    (hX : X = nm1 (nmF (ns.take i)) mode) (hY : Y = lt1 (ltF (ns.take i)) mode) (hZ : Z = qt1 (qtF (ns.take i)) mode) :
    TurnEnd g L [(I, oI)] (J1 ns l led (i + 1)) s1 { s1 with heap := h, toks := tk } := by
  subst hX hY hZ
  refine ⟨h, tk, m', led, rfl, F, N, fun p hp q hq => ?_, t1, t2, t3, t4, ?_, rfl⟩
  · rw [List.mem_singleton.mp hq]; exact hoff p hp
  · unfold P1 nmF ltF qtF
    rw [take_snoc hmode, List.foldl_append, List.foldl_append, List.foldl_append]
    exact List.forall_mem_cons.mpr ⟨h1, List.forall_mem_cons.mpr ⟨h2, List.forall_mem_cons.mpr ⟨h3, List.forall_mem_cons.mpr ⟨h4, List.forall_mem_cons.mpr ⟨h5, List.forall_mem_nil _⟩⟩⟩⟩⟩
theorem news_tail {g h : Heap} {L : Addr} {q : Addr × Obj} {r : List (Addr × Obj)} (N : News g L h (q :: r)) : News g L h r := fun p hp => N p (.tail _ hp)
theorem room6 {x dp : Nat} (h : dp + 5 < recursionLimit) (e : x = dp + 1) : x + 3 < recursionLimit := by omega
def st2 (sz q lt mk : Int) (nm : Str) (st : Str × List Int) (i : Nat) : Str × List Int :=
  if (q.fdiv (2 ^ (sz - 1 - (i : Int)).toNat)).fmod 2 = 1 then (st.1 ++ Str.ofString "\"", st.2)
  else if (lt.fdiv (2 ^ (sz - 1 - (i : Int)).toNat)).fmod 2 = 1 then (st.1 ++ Txt.item nm i, st.2)
  else if (mk.fdiv (2 ^ (sz - 1 - (i : Int)).toNat)).fmod 2 = 0 then (st.1 ++ Str.ofString ",", st.2 ++ [(i : Int)])
  else (st.1 ++ Str.ofString ",", st.2)
def run2 (sz q lt mk : Int) (nm : Str) (i : Nat) : Str × List Int := (List.range i).foldl (st2 sz q lt mk nm) (Str.ofString "", [-1])
theorem run2_succ (sz q lt mk : Int) (nm : Str) (i : Nat) : run2 sz q lt mk nm (i + 1) = st2 sz q lt mk nm (run2 sz q lt mk nm i) i := by
  unfold run2; rw [List.range_succ, List.foldl_append]; rfl
theorem run2_len (sz q lt mk : Int) (nm : Str) : ∀ i, (run2 sz q lt mk nm i).1.length = i ∧ (run2 sz q lt mk nm i).2.length ≤ i + 1
  | 0 => ⟨by show (Str.ofString "").length = 0; decide +kernel, by show [(-1 : Int)].length ≤ 1; decide⟩
  | i + 1 => by
    have ih := run2_len sz q lt mk nm i
    have c1 : (Str.ofString "\"").length = 1 := by decide +kernel
    have c2 : (Str.ofString ",").length = 1 := by decide +kernel
    have c3 : (Txt.item nm (i : Int)).length = 1 := len_item nm i
    rw [run2_succ]
    unfold st2
    split
    · exact ⟨by rw [Str.length_append]; omega, by show (run2 sz q lt mk nm i).2.length ≤ _; omega⟩
    · split
      · exact ⟨by rw [Str.length_append]; omega, by show (run2 sz q lt mk nm i).2.length ≤ _; omega⟩
      · split
        · exact ⟨by rw [Str.length_append]; omega, by rw [List.length_append]; simp; omega⟩
        · exact ⟨by rw [Str.length_append]; omega, by show (run2 sz q lt mk nm i).2.length ≤ _; omega⟩
def P2 (nm : Str) (lt q mk sz : Int) (t1 t2 t3 t4 t5 : Tok) : List (Str × Value) :=
  [(Str.ofString "names", .str nm t1), (Str.ofString "letters", .int lt t2), (Str.ofString "quotes", .int q t3), (Str.ofString "marks", .int mk t4), (Str.ofString "size", .int sz t5)]
def J2 (nm : Str) (lt q mk sz : Int) (t1 t2 t3 t4 t5 : Tok) (C c1 c2 : Addr) (o1 : Obj) (i : Nat) (m' : Str → Option Value) (news' : List (Addr × Obj)) : Prop :=
  (∀ p ∈ P2 nm lt q mk sz t1 t2 t3 t4 t5, m' p.1 = some p.2) ∧ ∃ cvs n o2 t, news' = [(C, listOf cvs.toArray n), (c1, o1), (c2, o2)] ∧ o2.data = .cell (some (.str (run2 sz q lt mk nm i).1 t)) ∧ IntsAre cvs (run2 sz q lt mk nm i).2
theorem range_n (k : Nat) : Builtin.Range.rangeSize 0 (10 * (k : Int)) 1 = ((10 * k : Nat) : Int) := by
  rw [rangeSize_nat]; omega
theorem ints_snoc {k : Int} {t : Tok} : ∀ {vs : List Value} {ys : List Int}, IntsAre vs ys → IntsAre (vs ++ [.int k t]) (ys ++ [k])
  | _, _, .nil => .cons k t .nil
  | _, _, .cons z u r => .cons z u (ints_snoc r)
section
variable {sz q lt mk : Int} {nm : Str} {st : Str × List Int} {i : Nat}
theorem s2_1 (h : (q.fdiv (2 ^ (sz - 1 - (i : Int)).toNat)).fmod 2 = 1) : (st.1 ++ Str.ofString "\"", st.2) = st2 sz q lt mk nm st i := by unfold st2; rw [if_pos h]
theorem s2_2 (h : (q.fdiv (2 ^ (sz - 1 - (i : Int)).toNat)).fmod 2 ≠ 1) (h2 : (lt.fdiv (2 ^ (sz - 1 - (i : Int)).toNat)).fmod 2 = 1) : (st.1 ++ Txt.item nm i, st.2) = st2 sz q lt mk nm st i := by unfold st2; rw [if_neg h, if_pos h2]
theorem s2_3 (h : (q.fdiv (2 ^ (sz - 1 - (i : Int)).toNat)).fmod 2 ≠ 1) (h2 : (lt.fdiv (2 ^ (sz - 1 - (i : Int)).toNat)).fmod 2 ≠ 1) (h3 : (mk.fdiv (2 ^ (sz - 1 - (i : Int)).toNat)).fmod 2 = 0) : (st.1 ++ Str.ofString ",", st.2 ++ [(i : Int)]) = st2 sz q lt mk nm st i := by unfold st2; rw [if_neg h, if_neg h2, if_pos h3]
theorem s2_4 (h : (q.fdiv (2 ^ (sz - 1 - (i : Int)).toNat)).fmod 2 ≠ 1) (h2 : (lt.fdiv (2 ^ (sz - 1 - (i : Int)).toNat)).fmod 2 ≠ 1) (h3 : (mk.fdiv (2 ^ (sz - 1 - (i : Int)).toNat)).fmod 2 ≠ 0) : (st.1 ++ Str.ofString ",", st.2) = st2 sz q lt mk nm st i := by unfold st2; rw [if_neg h, if_neg h2, if_neg h3]
end
theorem due_end2 {g h : Heap} {L I C c1 c2 : Addr} {oI o1 o2 : Obj} {m' : Str → Option Value} {cvs : List Value} {n i : Nat} {sz q lt mk : Int} {nm X : Str} {Y : List Int} {t1 t2 t3 t4 t5 t : Tok} {s1 : Shared} {tk : Nat}
    (F : Fr g L h m') (N : News g L h [(I, oI), (C, listOf cvs.toArray n), (c1, o1), (c2, o2)]) (hC : C ≠ I) (h1 : c1 ≠ I) (h2 : c2 ≠ I)
    (hm : ∀ p ∈ P2 nm lt q mk sz t1 t2 t3 t4 t5, m' p.1 = some p.2) (hd : o2.data = .cell (some (.str X t))) (hc : IntsAre cvs Y) (he : (X, Y) = st2 sz q lt mk nm (run2 sz q lt mk nm i) i) :
    TurnEnd g L [(I, oI)] (J2 nm lt q mk sz t1 t2 t3 t4 t5 C c1 c2 o1 (i + 1)) s1 { s1 with heap := h, toks := tk } := by
  refine ⟨h, tk, m', [(C, listOf cvs.toArray n), (c1, o1), (c2, o2)], rfl, F, N, fun p hp q hq => ?_, hm, cvs, n, o2, t, rfl, ?_, ?_⟩
  · rw [List.mem_singleton.mp hq]
    rcases List.mem_cons.mp hp with rfl | hp
    · exact hC
    · rcases List.mem_cons.mp hp with rfl | hp
      · exact h1
      · rw [List.mem_singleton.mp hp]; exact h2
  · rw [run2_succ, ← he]; exact hd
  · rw [run2_succ, ← he]; exact hc
def el (R : Str × List Int) (sz : Int) (k : Nat) : Str := Txt.slice R.1 (some ((R.2 ++ [sz]).getD ((k : Int)).toNat 0 + 1)) (some ((R.2 ++ [sz]).getD ((k : Int) + 1).toNat 0))
theorem strs_take : ∀ {vs : List Value} {us : List Str} (_ : StrsAre vs us) (k : Nat), StrsAre (vs.take k) (us.take k)
  | _, _, .nil, k => by simp only [List.take_nil]; exact .nil
  | _, _, .cons y t r, 0 => by simp only [List.take_zero]; exact .nil
  | _, _, .cons y t r, k + 1 => by simp only [List.take_succ_cons]; exact .cons y t (strs_take r k)
theorem pick_init {vs : List Value} {us : List Str} (hi' : StrsAre vs us) : StrsAre (slicePick vs.toArray none (some (-1)) none).toList (us.take (us.length - 1)) := by
  have e : sliceBounds none (some (-1)) none vs.toArray.size = (((0 : Nat) : Int), ((vs.toArray.size - 1 : Nat) : Int), 1) := by
    simp only [sliceBounds, Option.getD_none, show (1 : Int) > 0 by decide, if_true, show (-1 : Int) < 0 by decide]
    congr 1
    congr 1
    omega
  rw [kmk_pick_nat _ e]
  show StrsAre ((vs.drop 0).take (vs.toArray.size - 1 - 0)) _
  rw [List.drop_zero, Nat.sub_zero, List.size_toArray, hi'.length]
  exact strs_take hi' _
theorem strs_last {vs : List Value} {us : List Str} (h : StrsAre vs us) (hne : 1 ≤ us.length) : ∃ t, vs.toArray[((-1 : Int) + (vs.toArray.size : Int)).toNat]? = some (.str (us.getD (us.length - 1) (Str.ofString "")) t) := by
  have hl := h.length
  have e : ((-1 : Int) + (vs.toArray.size : Int)).toNat = us.length - 1 := by rw [List.size_toArray, hl]; omega
  have hlt : us.length - 1 < vs.length := by omega
  obtain ⟨y, t, h1, h2⟩ := strs_at h (us.length - 1) vs[us.length - 1] (List.getElem?_eq_getElem hlt)
  refine ⟨t, ?_⟩
  have hd : us.getD (us.length - 1) (Str.ofString "") = y := by rw [List.getD, h2]; rfl
  rw [e, hd, ← h1]
  simp [hlt]
theorem run2_pos (sz q lt mk : Int) (nm : Str) : ∀ i, 1 ≤ (run2 sz q lt mk nm i).2.length
  | 0 => by show 1 ≤ [(-1 : Int)].length; decide
  | i + 1 => by
    have ih := run2_pos sz q lt mk nm i
    rw [run2_succ]
    unfold st2
    split
    · exact ih
    · split
      · exact ih
      · split
        · rw [List.length_append]; omega
        · exact ih
/-- what _law_due gives back, of its two numbers, the signs' names and the marks -/
def dueOf (R : Str × List Int) (sz : Int) : List Str :=
  let us := (List.range R.2.length).map (el R sz)
  if (us.getD ((-1 : Int) + (us.length : Int)).toNat Str.empty == Str.ofString "") = true then us.take (us.length - 1) else us
def lawDueJ (ns : List Int) (j : Nat) : List Str := dueOf (run2 (10 * (ns.length : Int)) (qtF ns) (ltF ns) (mk (qtF ns) j) (nmF ns) (10 * ns.length)) (10 * (ns.length : Int))
theorem due_1 {R : Str × List Int} {sz : Int} (h : (((List.range R.2.length).map (el R sz)).getD ((-1 : Int) + (((List.range R.2.length).map (el R sz)).length : Int)).toNat Str.empty == Str.ofString "") = true) : dueOf R sz = ((List.range R.2.length).map (el R sz)).take (((List.range R.2.length).map (el R sz)).length - 1) := by
  unfold dueOf; rw [if_pos h]
theorem due_2 {R : Str × List Int} {sz : Int} (h : (((List.range R.2.length).map (el R sz)).getD ((-1 : Int) + (((List.range R.2.length).map (el R sz)).length : Int)).toNat Str.empty == Str.ofString "") = false) : dueOf R sz = (List.range R.2.length).map (el R sz) := by
  unfold dueOf; rw [if_neg (by rw [h]; exact Bool.false_ne_true)]
theorem room5 {x dp : Nat} (h : dp + 5 < recursionLimit) (e : x = dp + 1) : x + 1 < recursionLimit := by omega
local macro_rules | `(tactic| walk_at "execs cons") => `(tactic| ((with_reducible refine wpAny_execs_cons ?_); try dsimp only))
local macro_rules | `(tactic| walk_at "binaryOp Pow int int") => `(tactic| (k_here; (with_reducible refine pow_int_small ?kb1 ?kb2 ?kb3 ?_); (case kb1 => omega); (case kb2 => omega); (case kb3 => decide)))
local macro_rules | `(tactic| walk_at "exec Assign cons ListComp") => `(tactic| (k_here; k_dflt (refine LCg.Assign_ListComp_U (F₀ := by k_asm) (by rfl) (by with_unfolding_all rfl) (by with_unfolding_all rfl) (by decide) (by rfl) (by decide) (by rfl) (by rfl) (by rfl) ?_)))
local macro_rules | `(tactic| walk_at "CompSrc") => `(tactic| refine halt_of ?_)
local macro_rules | `(tactic| walk_at "exec For Name Name cons nil") => `(tactic| (k_here; (with_unfolding_all refine wpAny_For ?_ (by intro _; rfl))))
local macro_rules | `(tactic| walk_at "exec For Name Call cons nil") => `(tactic| (k_here; (with_unfolding_all refine wpAny_For ?_ (by intro _; rfl))))
local macro_rules | `(tactic| walk_at "pyIter ref") => `(tactic| refine halt_of ?_)
local macro_rules | `(tactic| walk_at "call ref") => `(tactic| (k_here; k_dflt (refine' simode_call ?k1 ?k2 ?k3 ?k4 ?k5 ?kK ?k9 ?_; (case k1 => k_asm); (case k2 => k_asm); (case k3 => k_asm); (case k4 => k_asm); (case k5 => k_asm); (case kK => exact rfl); (case k9 => exact room5 (by assumption) rfl)); intro t9 h9 tk9 F9 N9; (try dsimp only); (try k_sweep)))
section
variable {w : World} {p : Program} {loose : List Str} {mean : ExcName → Option Value} {mg mb : Str → Option Value} {dp un : Nat} {gd : Option (List Code)} {cn : Str} {cs : Scope} {a : Addr} {ccd : Value} {cl : List (Str × Addr)} {outer : List Env} {A₀ : Around} {base h₀ : Heap} {L : Addr} {m : Str → Option Value} {news : List (Addr × Obj)} {s : Shared} {Q E : Value → Shared → Prop}
set_option maxHeartbeats 4000000 in
theorem due_call {l : Addr} {vs : List Value} {ns : List Int}
    (B : Below A₀ base outer h₀) (F : Fr h₀ L s.heap m) (X : (hd.heap_39 w.params).In h₀) (N : News h₀ L s.heap news) (T : Top p loose mean mg mb h₀) (hk : cs.kind = .function)
    (hl : s.heap.IsList l vs.toArray) (hi : IntsAre vs ns) (hr : InR ns) (hdp : dp + 5 < recursionLimit) (hun : un + 48 < cLine)
    (ret : ∀ j r vs n h' tk', 10 * (ns.length : Int) ≤ (2 ^ j : Nat) → Fr h₀ L h' m → News h₀ L h' ((r, listOf vs.toArray n) :: news) → StrsAre vs (lawDueJ ns j) → Q (.ref r) { s with heap := h', toks := tk' }) :
    wpAny (model Challenge.rw_nq0055_01.row.prog w) (ktrTop dp un gd cn cs L a ccd cl outer) (call (.ref 90) [.ref l]) Q E s := by
  w_top off
  revert X; k_fill; intro X
  k_dflt (refine' call_roC (binds := [(Str.ofString "modes", .ref l)]) ?k1 ?k2 ?k3 ?k4 ?k5 ?kA ?kF ?kK ?k6 ?k7 ?k8 ?k9 ?kB ?kD ?_ ?c2 ?c3 ?c4; (case kA => exact rfl); (case kF => exact rfl); (case kK => assumption); (case k1 => k_asm); (case k2 => k_asm); (case k3 => k_asm); (case k4 => k_asm); (case k5 => k_asm); (case k6 => k_is); (case k7 => k_is); (case k8 => ktr_room); (case k9 => exact BindsTo.of_eq rfl); (case kB => exact rfl); (case kD => decide +kernel); (case c2 => exact rfl); (case c3 => exact rfl); (case c4 => exact rfl); k_whole; intro g' L' h' tk' cells' F' N' Y' B' X' T' S')
  replace F' : Fr g' L' h' (fun y => if y = Str.ofString "modes" then some (.ref l) else none) := F'
  have hY := CellsAre.two Y'
  obtain ⟨ot, oc, hcE, d1, d2⟩ := hY
  subst hcE
  try dsimp only
  try k_lift B'
  try k_fold
  have hl' := stays_list S' hl
  have hvl : vs.length = ns.length := hi.length
  have hns := hr.2
  k_steps
  refine to_halt ?_
  rename Fr _ _ _ _ => fE
  rename News _ _ _ _ => nE
  (with_unfolding_all refine iter_list rfl hl' fE nE (J1 ns l [(L' + 1 + 1, ot), (L' + 1, oc)]) ⟨_, _, _, _, by unfold P1; kst_all, rfl⟩ ?_ ?_)
  · rintro I i v m₁ news₁ h₁ tk₁ oI hv ⟨t1, t2, t3, t4, hm, rfl⟩ hoff F1 N1
    obtain ⟨mode, tm, rfl, hmode⟩ := ints_at hi hv
    have hin : 0 ≤ mode ∧ mode < 65536 := hr.1 mode (List.mem_of_getElem? hmode)
    replace F1 := fr_kst _ F1 hm
    unfold P1 at F1
    dsimp only [kstB] at F1
    clear fE nE
    have hlt : i < ns.length := (List.getElem?_eq_some_iff.mp hmode).1
    have hnl : (nmF (ns.take i)).length ≤ 120 := by rw [nmF_len, List.length_take]; omega
    have hr9 := rwx_len
    have hit := len_item (Str.ofString "?pc?d?b?-?l?s???") (mode.fdiv 4096)
    k_steps
    all_goals (unfold TurnPost; dsimp only; rename Fr _ _ _ _ => fE; rename News _ _ _ _ => nE)
    all_goals (with_unfolding_all refine due_end1 fE (news_tail nE) hoff hmode rfl rfl rfl rfl rfl ?_ ?_ ?_)
    all_goals first | rfl | exact lt1_t (by assumption) | exact lt1_f (by assumption) | exact qt1_t (by assumption) | exact qt1_f (by assumption)
  · rintro h2 tk2 m2 news2 F2 N2 ⟨t1, t2, t3, t4, hm, rfl⟩
    replace F2 := fr_kst _ F2 hm
    unfold P1 at F2
    dsimp only [kstB] at F2
    rw [hvl, List.take_length] at F2
    clear fE nE
    try dsimp only
    k_steps
    k_dflt (refine' marks_call ?k1 ?k2 ?k3 ?k4 ?k5 ?kK ?k9 ?k10 ?_; (case k1 => k_asm); (case k2 => k_asm); (case k3 => k_asm); (case k4 => k_asm); (case k5 => k_asm); (case kK => exact rfl); (case k9 => exact room6 (by assumption) rfl); (case k10 => omega))
    intro j t9 h9 tk9 hj9 F9 N9
    try dsimp only
    k_steps
    refine to_halt ?_
    rename IsRange _ _ _ _ _ _ _ _ => rgE
    rename Fr _ _ _ _ => fE
    rename News _ _ _ _ => nE
    rename _ ∧ _ => hlts
    rename _ = Data.cell (some (Value.ref _)) => hd1
    rename _ = Data.cell (some (Value.str _ _)) => hd2
    (with_unfolding_all refine iter_range rfl rgE (small_one (by omega) (by omega) (by omega) (by omega)) (range_n ns.length) fE nE (J2 (nmF ns) (ltF ns) (qtF ns) (mk (qtF ns) j) (10 * (ns.length : Int)) t1 t2 t3 t9 t4 _ _ _ _) ⟨by unfold P2; kst_all, [_], _, _, _, rfl, hd2, .cons _ _ .nil⟩ ?_ ?_)
    · rintro I i ti m₁ news₁ h₁ tk₁ oI hin ⟨hm, cvs, n, o2, tt, rfl, hdt, hcv⟩ hoff F1 N1
      replace F1 := fr_kst _ F1 hm
      unfold P2 at F1
      dsimp only [kstB] at F1
      have hrl := run2_len (10 * (ns.length : Int)) (qtF ns) (ltF ns) (mk (qtF ns) j) (nmF ns) i
      have hnml := nmF_len ns
      have hcl : cvs.length = _ := hcv.length
      have hQ1 : (Str.ofString "\"").length = 1 := by decide +kernel
      have hQ2 : (Str.ofString ",").length = 1 := by decide +kernel
      have hit := len_item (nmF ns) (i : Int)
      have hsz9 : cvs.toArray.size ≤ sizeLine := by rw [List.size_toArray, sizeLine_eq]; omega
      have hC1 : @Ne Nat _ I := hoff _ (.head _)
      have hC2 : @Ne Nat _ I := hoff _ (.tail _ (.head _))
      have hC3 : @Ne Nat _ I := hoff _ (.tail _ (.tail _ (.head _)))
      clear fE nE
      k_steps
      all_goals (unfold TurnPost; dsimp only; rename Fr _ _ _ _ => fE; rename News _ _ _ _ => nE; rename _ = Data.cell (some (Value.str _ _)) => hd3)
      · exact due_end2 fE nE hC1 hC2 hC3 (by unfold P2; kst_all) hd3 hcv (s2_1 (by assumption))
      · exact due_end2 fE nE hC1 hC2 hC3 (by unfold P2; kst_all) hd3 hcv (s2_2 (by assumption) (by assumption))
      · rw [List.push_toArray] at nE
        exact due_end2 fE nE hC1 hC2 hC3 (by unfold P2; kst_all) hd3 (ints_snoc hcv) (s2_3 (by assumption) (by assumption) (by assumption))
      · exact due_end2 fE nE hC1 hC2 hC3 (by unfold P2; kst_all) hd3 hcv (s2_4 (by assumption) (by assumption) (by assumption))
    · rintro h3 tk3 m3 news3 F3 N3 ⟨hm, cvs, n, o2, tt, rfl, hdt, hcv⟩
      replace F3 := fr_kst _ F3 hm
      unfold P2 at F3
      dsimp only [kstB] at F3
      have hrl := run2_len (10 * (ns.length : Int)) (qtF ns) (ltF ns) (mk (qtF ns) j) (nmF ns) (10 * ns.length)
      have hcl : cvs.length = _ := hcv.length
      have hsz9 : cvs.toArray.size ≤ sizeLine := by rw [List.size_toArray, sizeLine_eq]; omega
      clear fE nE
      try dsimp only
      have hpos := run2_pos (10 * (ns.length : Int)) (qtF ns) (ltF ns) (mk (qtF ns) j) (nmF ns) (10 * ns.length)
      generalize hR : run2 (10 * (ns.length : Int)) (qtF ns) (ltF ns) (mk (qtF ns) j) (nmF ns) (10 * ns.length) = R at *
      k_steps
      refine to_halt ?_
      rename IsRange _ _ _ _ _ _ _ _ => rgE
      rename Fr _ _ _ _ => fE
      rename News _ _ _ _ => nE
      have hi2 := ints_snoc (k := 10 * (ns.length : Int)) (t := t4) hcv
      refine LCg.CompSrc.range (n := R.2.length) rfl fE nE rgE (small_one (by omega) (by omega) (by omega) (by omega)) (by rw [rangeSize_nat]; omega) (by rw [sizeLine_eq]; omega) ?_
      intro g9
      refine rest_range (el R (10 * (ns.length : Int))) (fun u t I oI C oC D m₂ ys h tk E' hu hC hx F N off ne => ?_) (fun ys hys => ?_)
      · k_steps
        rename Fr _ _ _ _ => fE
        rename News _ _ _ _ => nE
        exact LCg.CompEnd.intro fE nE _ (fun p hp => hp) off trivial ⟨rfl, _, rfl⟩
      · intro D h4 tk4 F4 N4 off4
        try dsimp only
        clear fE nE
        have hul : ((List.range R.2.length).map (el R (10 * (ns.length : Int)))).length = R.2.length := by simp
        have hyl : ys.length = _ := hys.length
        have hLs : h4.IsList D ys.toArray := ⟨_, (N4 _ (.head _)).1, rfl, _, rfl⟩
        obtain ⟨tl, hlast⟩ := strs_last hys (by omega)
        k_steps
        all_goals (rename News _ _ _ _ => hN; rename News h₀ _ _ (_ :: _) => kN; rename Fr h₀ _ _ _ => kF)
        · exact ret j _ (slicePick ys.toArray none (some (-1)) none).toList _ _ _ hj9 kF (news_join kN (.head _) hN) (by rw [lawDueJ, hR, due_1 (by assumption)]; exact pick_init hys)
        · exact ret j _ ys _ _ _ hj9 kF (news_join kN (.head _) hN) (by rw [lawDueJ, hR, due_2 (by assumption)]; exact hys)
end
end Mine

end Due
/-! Law2 -/
section Law2
open PySem PySem.W PyProof.Rows PyProof.V PySem.Spec PySem.Calls
set_option Elab.async false
set_option maxRecDepth 100000
namespace Mine
theorem inR1 (ns : List Int) : InR (List.map (fun k' => k'.fmod 65536) (List.take 10 ns)) := by
  refine ⟨fun n hn => ?_, by simp; omega⟩
  obtain ⟨k, _, rfl⟩ := List.mem_map.mp hn
  have := Int.fmod_nonneg_of_pos k (b := 65536) (by decide)
  have := Int.fmod_lt_of_pos k (b := 65536) (by decide)
  constructor <;> assumption
theorem inR2 (ns : List Int) : InR ([35820, 50633] ++ List.map (fun k' => k'.fmod 65536) (List.take 10 ns)) := by
  obtain ⟨h1, h2⟩ := inR1 ns
  refine ⟨fun n hn => ?_, by simp at h2 ⊢; omega⟩
  rcases List.mem_append.mp hn with hn | hn
  · simp at hn; omega
  · exact h1 n hn
def TextSpec (f : List Int → Str) : Prop := ∀ {w : World} {p : Program} {loose : List Str} {mean : ExcName → Option Value} {mg mb : Str → Option Value} {dp un : Nat} {gd : Option (List Code)} {cn : Str} {cs : Scope} {a : Addr} {ccd : Value} {cl : List (Str × Addr)} {outer : List Env} {A₀ : Around} {base h₀ : Heap} {L : Addr} {m : Str → Option Value} {news : List (Addr × Obj)} {s : Shared} {Q E : Value → Shared → Prop} {l : Addr} {vs : List Value} {ns : List Int}, Below A₀ base outer h₀ → Fr h₀ L s.heap m → (hd.heap_39 w.params).In h₀ → News h₀ L s.heap news → Top p loose mean mg mb h₀ → cs.kind = .function →
  s.heap.IsList l vs.toArray → IntsAre vs ns → InR ns → dp + 5 < recursionLimit → un + 48 < cLine →
  (∀ t h' tk', Fr h₀ L h' m → News h₀ L h' news → Q (.str (f ns) t) { s with heap := h', toks := tk' }) →
  wpAny (model Challenge.rw_nq0055_01.row.prog w) (ktrTop dp un gd cn cs L a ccd cl outer) (call (.ref 78) [.ref l]) Q E s
def ParseSpec (f : Str → List Str) : Prop := ∀ {w : World} {p : Program} {loose : List Str} {mean : ExcName → Option Value} {mg mb : Str → Option Value} {dp un : Nat} {gd : Option (List Code)} {cn : Str} {cs : Scope} {a : Addr} {ccd : Value} {cl : List (Str × Addr)} {outer : List Env} {A₀ : Around} {base h₀ : Heap} {L : Addr} {m : Str → Option Value} {news : List (Addr × Obj)} {s : Shared} {Q E : Value → Shared → Prop} {x : Str} {t0 : Tok}, Below A₀ base outer h₀ → Fr h₀ L s.heap m → (hd.heap_39 w.params).In h₀ → News h₀ L s.heap news → Top p loose mean mg mb h₀ → cs.kind = .function →
  x.length ≤ 120 → dp + 3 < recursionLimit → un + 24 < cLine →
  (∀ r vs n h' tk', Fr h₀ L h' m → News h₀ L h' ((r, listOf vs.toArray n) :: news) → StrsAre vs (f x) → Q (.ref r) { s with heap := h', toks := tk' }) →
  wpAny (model Challenge.rw_nq0055_01.row.prog w) (ktrTop dp un gd cn cs L a ccd cl outer) (call (.ref 19) [.str x t0]) Q E s
def DueSpec (f : List Int → Nat → List Str) : Prop := ∀ {w : World} {p : Program} {loose : List Str} {mean : ExcName → Option Value} {mg mb : Str → Option Value} {dp un : Nat} {gd : Option (List Code)} {cn : Str} {cs : Scope} {a : Addr} {ccd : Value} {cl : List (Str × Addr)} {outer : List Env} {A₀ : Around} {base h₀ : Heap} {L : Addr} {m : Str → Option Value} {news : List (Addr × Obj)} {s : Shared} {Q E : Value → Shared → Prop} {l : Addr} {vs : List Value} {ns : List Int}, Below A₀ base outer h₀ → Fr h₀ L s.heap m → (hd.heap_39 w.params).In h₀ → News h₀ L s.heap news → Top p loose mean mg mb h₀ → cs.kind = .function →
  s.heap.IsList l vs.toArray → IntsAre vs ns → InR ns → dp + 5 < recursionLimit → un + 48 < cLine →
  (∀ j r vs n h' tk', 10 * (ns.length : Int) ≤ (2 ^ j : Nat) → Fr h₀ L h' m → News h₀ L h' ((r, listOf vs.toArray n) :: news) → StrsAre vs (f ns j) → Q (.ref r) { s with heap := h', toks := tk' }) →
  wpAny (model Challenge.rw_nq0055_01.row.prog w) (ktrTop dp un gd cn cs L a ccd cl outer) (call (.ref 90) [.ref l]) Q E s
local macro_rules | `(tactic| walk_at "compareOp NotEq ref ref") => `(tactic| refine halt_of ?_)
set_option maxHeartbeats 300000 in
theorem law_gen (fT : List Int → Str) (fP : Str → List Str) (fD : List Int → Nat → List Str) (hT : TextSpec fT) (hP : ParseSpec fP) (hD : DueSpec fD)
    (hlen : ∀ ns, InR ns → (fT ns).length ≤ 120) (hE : ∀ ns j, InR ns → 10 * (ns.length : Int) ≤ (2 ^ j : Nat) → fP (fT ns) = fD ns j ∧ ∀ x ∈ fP (fT ns), okS x) : PySem.Challenge.rw_nq0055_01.Holds := by
  w_top off
  refine hd ?_
  k_with "call ref" => ((with_reducible show wpAny _ _ (call (Value.ref _) [Value.ref _]) _ _ _); k_dflt (refine' hT ?k1 ?k2 ?k3 ?k4 ?k5 ?kK ?k6 ?k7 ?k8 ?k9 ?k10 ?_; (case k1 => k_asm); (case k2 => k_asm); (case k3 => k_asm); (case k4 => k_asm); (case k5 => k_asm); (case kK => exact rfl); (case k6 => is_list); (case k7 => l_ints); (case k8 => first | exact inR1 _ | exact inR2 _); (case k9 => exact Nat.le_of_ble_eq_true rfl); (case k10 => exact Nat.le_of_ble_eq_true rfl)); intro t9 h9 tk9 F9 N9; (try dsimp only); (try k_sweep))
  k_with "call ref" => ((with_reducible show wpAny _ _ (call (Value.ref _) [Value.str _ _]) _ _ _); k_dflt (refine' hP ?k1 ?k2 ?k3 ?k4 ?k5 ?kK ?k6 ?k9 ?k10 ?_; (case k1 => k_asm); (case k2 => k_asm); (case k3 => k_asm); (case k4 => k_asm); (case k5 => k_asm); (case kK => exact rfl); (case k6 => first | exact hlen _ (inR1 _) | exact hlen _ (inR2 _)); (case k9 => exact Nat.le_of_ble_eq_true rfl); (case k10 => exact Nat.le_of_ble_eq_true rfl)); intro r9 vs9 n9 h9 tk9 F9 N9 hS9; (try dsimp only); (try k_sweep))
  k_with "call ref" => ((with_reducible show wpAny _ _ (call (Value.ref _) [Value.ref _]) _ _ _); k_dflt (refine' hD ?k1 ?k2 ?k3 ?k4 ?k5 ?kK ?k6 ?k7 ?k8 ?k9 ?k10 ?_; (case k1 => k_asm); (case k2 => k_asm); (case k3 => k_asm); (case k4 => k_asm); (case k5 => k_asm); (case kK => exact rfl); (case k6 => is_list); (case k7 => l_ints); (case k8 => first | exact inR1 _ | exact inR2 _); (case k9 => exact Nat.le_of_ble_eq_true rfl); (case k10 => exact Nat.le_of_ble_eq_true rfl)); intro j9 r9 vs9 n9 h9 tk9 hj9 F9 N9 hS9; (obtain ⟨hE9, hok9⟩ := hE _ _ (by first | exact inR1 _ | exact inR2 _) hj9); (try dsimp only); (try k_sweep))
  k_go0
  all_goals try k_fold
  k_steps
  refine to_halt ?_
  k_dflt (refine' ne_strs ?k1 ?k2 ?k3 ?k4 ?k5 ?k6 ?k7 ?_)
  case k1 => is_list
  case k2 => is_list
  case k3 => first | with_reducible assumption | assumption
  case k4 => first | with_reducible assumption | assumption
  case k5 => first | with_reducible assumption | assumption
  case k6 => first | with_reducible assumption | assumption
  case k7 => exact Nat.le_of_ble_eq_true rfl
  k_steps
  refine to_halt ?_
  k_dflt (refine' ne_strs ?k1 ?k2 ?k3 ?k4 ?k5 ?k6 ?k7 ?_)
  case k1 => is_list
  case k2 => is_list
  case k3 => first | with_reducible assumption | assumption
  case k4 => first | with_reducible assumption | assumption
  case k5 => first | with_reducible assumption | assumption
  case k6 => first | with_reducible assumption | assumption
  case k7 => exact Nat.le_of_ble_eq_true rfl
  k_steps
  all_goals (try k_data)
  all_goals w_report
end Mine

end Law2
/-! Plain1 -/
section Plain1
open PySem PySem.W PyProof.Rows PyProof.V PySem.Spec PySem.Calls
set_option Elab.async false
set_option maxRecDepth 100000
namespace Mine
def txtN (l : List Nat) : Str := ⟨l.toArray⟩
theorem cs_txtN (l : List Nat) : cs (txtN l) = l := rfl
def par (l : List Nat) : Bool := l.foldl (fun b c => if c = 34 then !b else b) false
theorem par_snoc (l : List Nat) (c : Nat) : par (l ++ [c]) = if c = 34 then !par l else par l := by simp [par, List.foldl_append]
/-- what stands from place a to place b -/
def sg (T : List Nat) (a b : Int) : Str := txtN ((T.drop a.toNat).take (b - a).toNat)
def pieces (T : List Nat) (cuts : List Int) : List Str := (List.range (cuts.length - 1)).map fun k => sg T (cuts.getD k 0 + 1) (cuts.getD (k + 1) 0)
def lastOf (cuts : List Int) : Int := cuts.getD (cuts.length - 1) 0
theorem pieces_snoc (T : List Nat) (cuts : List Int) (x : Int) (h : 1 ≤ cuts.length) : pieces T (cuts ++ [x]) = pieces T cuts ++ [sg T (lastOf cuts + 1) x] := by
  unfold pieces lastOf
  obtain ⟨k, hk⟩ : ∃ k, cuts.length = k + 1 := ⟨cuts.length - 1, by omega⟩
  have e : (cuts ++ [x]).length - 1 = (cuts.length - 1) + 1 := by simp; omega
  rw [e, List.range_succ, List.map_append]
  congr 1
  · refine List.map_congr_left fun a ha => ?_
    have ha' : a < cuts.length - 1 := List.mem_range.mp ha
    have e1 : (cuts ++ [x]).getD a 0 = cuts.getD a 0 := by
      simp [List.getD, List.getElem?_append_left (show a < cuts.length by omega)]
    have e2 : (cuts ++ [x]).getD (a + 1) 0 = cuts.getD (a + 1) 0 := by
      simp [List.getD, List.getElem?_append_left (show a + 1 < cuts.length by omega)]
    rw [e1, e2]
  · have e1 : (cuts ++ [x]).getD (cuts.length - 1) 0 = cuts.getD (cuts.length - 1) 0 := by
      simp [List.getD, List.getElem?_append_left (show cuts.length - 1 < cuts.length by omega)]
    have e2 : (cuts ++ [x]).getD (cuts.length - 1 + 1) 0 = x := by
      have : cuts.length - 1 + 1 = cuts.length := by omega
      simp [List.getD, this]
    simp only [List.map_cons, List.map_nil, e1, e2]
end Mine

end Plain1
/-! Plain2 -/
section Plain2
open PySem PySem.W PyProof.Rows PyProof.V PySem.Spec PySem.Calls
set_option Elab.async false
set_option maxRecDepth 100000
namespace Mine
def cutsN (T : List Nat) : Nat → List Int
  | 0 => [-1]
  | i + 1 => if T.getD i 0 = 44 ∧ par (T.take i) = false then cutsN T i ++ [(i : Int)] else cutsN T i
theorem lastOf_snoc (l : List Int) (x : Int) : lastOf (l ++ [x]) = x := by simp [lastOf, List.getD]
theorem cutsN_facts (T : List Nat) : ∀ i, 1 ≤ (cutsN T i).length ∧ -1 ≤ lastOf (cutsN T i) ∧ lastOf (cutsN T i) < i
  | 0 => by simp [cutsN, lastOf]
  | i + 1 => by
    have ih := cutsN_facts T i
    unfold cutsN
    split
    · rw [lastOf_snoc, List.length_append]; refine ⟨by omega, by omega, by omega⟩
    · refine ⟨ih.1, ih.2.1, by have := ih.2.2; push_cast; omega⟩
theorem sg_snoc {T : List Nat} {a : Int} {i : Nat} (h0 : 0 ≤ a) (h1 : a ≤ i) (hi : i < T.length) : sg T a ((i : Int) + 1) = sg T a i ++ c1 (T.getD i 0 : Nat) := by
  have e1 : ((i : Int) + 1 - a).toNat = ((i : Int) - a).toNat + 1 := by omega
  have e2 : (T.drop a.toNat)[((i : Int) - a).toNat]? = some (T.getD i 0) := by
    rw [List.getElem?_drop]
    have : a.toNat + ((i : Int) - a).toNat = i := by omega
    rw [this, List.getD, List.getElem?_eq_getElem hi]; rfl
  refine PySem.Str.ext' (Array.toList_inj.mp ?_)
  rw [PySem.Str.cps_append, Array.toList_append]
  show (T.drop a.toNat).take ((i : Int) + 1 - a).toNat = (T.drop a.toNat).take ((i : Int) - a).toNat ++ [((T.getD i 0 : Nat) : Int).toNat]
  rw [e1, List.take_add_one, e2]; rfl
theorem sg_nil (T : List Nat) (a : Int) : sg T a a = Str.ofString "" := by
  have : Str.ofString "" = ⟨#[]⟩ := by decide +kernel
  rw [this]; simp [sg, txtN]
theorem take_next {T : List Nat} {i : Nat} (hi : i < T.length) : T.take (i + 1) = T.take i ++ [T.getD i 0] := by
  rw [List.take_add_one, List.getElem?_eq_getElem hi, List.getD, List.getElem?_eq_getElem hi]; rfl
theorem parse_inv (T : List Nat) (h92 : ∀ c ∈ T, c ≠ 92) : ∀ i, i ≤ T.length → pRun ((T.take i).map fun (c : Nat) => (c : Int)) = (pieces T (cutsN T i), sg T (lastOf (cutsN T i) + 1) i, false, par (T.take i))
  | 0, _ => by
    show ([], Str.ofString "", false, false) = _
    have := sg_nil T 0
    simp [pieces, cutsN, lastOf, par, this]
  | i + 1, hi => by
    have ih := parse_inv T h92 i (by omega)
    have hlt : i < T.length := hi
    have hf := cutsN_facts T i
    have hc92 : T.getD i 0 ≠ 92 := h92 _ (by rw [List.getD, List.getElem?_eq_getElem hlt]; exact List.getElem_mem hlt)
    rw [take_next hlt, List.map_append, List.map_cons, List.map_nil, pRun_snoc, ih, par_snoc]
    have hsn := sg_snoc (T := T) (a := lastOf (cutsN T i) + 1) (i := i) (by omega) (by omega) hlt
    have hz := sg_nil T ((i : Int) + 1)
    have hcut : cutsN T (i + 1) = if T.getD i 0 = 44 ∧ par (T.take i) = false then cutsN T i ++ [(i : Int)] else cutsN T i := rfl
    rw [hcut]
    have ei : (((i + 1 : Nat) : Int)) = (i : Int) + 1 := by omega
    rw [ei]
    generalize T.getD i 0 = c at *
    have hc92' : ¬ ((c : Int) = 92) := by omega
    have hc34 : ((c : Int) = 34) = (c = 34) := by apply propext; omega
    have hc44 : ((c : Int) = 44) = (c = 44) := by apply propext; omega
    unfold pStep
    simp only [hc34, hc44, hc92', if_false, Bool.false_eq_true]
    cases hq : par (T.take i)
    · by_cases h44 : c = 44
      · subst h44
        have := pieces_snoc T (cutsN T i) i hf.1
        simp [lastOf_snoc, this, hz]
      · by_cases h34 : c = 34
        · simp [h44, h34, hsn]
        · simp [h44, h34, hsn]
    · by_cases h34 : c = 34
      · simp [h34, hsn]
      · simp [h34, hsn]
end Mine

end Plain2
/-! Plain3 -/
section Plain3
open PySem PySem.W PyProof.Rows PyProof.V PySem.Spec PySem.Calls
set_option Elab.async false
set_option maxRecDepth 100000
namespace Mine
theorem nat_xor (a b : Nat) : (a ^^^ b) + 2 * (a &&& b) = a + b := by
  have h1 := nat_or_add_and a b
  have h2 := nat_or_add_and (a ^^^ b) (a &&& b)
  have e1 : (a ^^^ b) ||| (a &&& b) = a ||| b := by
    refine Nat.eq_of_testBit_eq fun i => ?_
    simp only [Nat.testBit_or, Nat.testBit_xor, Nat.testBit_and]
    cases a.testBit i <;> cases b.testBit i <;> rfl
  have e2 : (a ^^^ b) &&& (a &&& b) = 0 := by
    refine Nat.eq_of_testBit_eq fun i => ?_
    simp only [Nat.testBit_xor, Nat.testBit_and, Nat.zero_testBit]
    cases a.testBit i <;> cases b.testBit i <;> rfl
  rw [e1, e2] at h2
  omega
theorem xor_nat (a b : Nat) : Builtin.bitXor (a : Int) (b : Int) = ((a ^^^ b : Nat) : Int) := by
  have h := nat_xor a b
  rw [bitXor_and, bitAnd_pp (by omega) (by omega), Int.toNat_natCast, Int.toNat_natCast]
  omega
theorem fdiv_nat (a b : Nat) : ((a : Int)).fdiv (b : Int) = ((a / b : Nat) : Int) := by
  rw [Int.fdiv_eq_ediv_of_nonneg _ (by omega)]; rfl
def mkN (q : Nat) : Nat → Nat
  | 0 => q
  | j + 1 => mkN q j ^^^ (mkN q j / 2 ^ (2 ^ j))
theorem mk_nat (q : Nat) : ∀ j, mk (q : Int) j = ((mkN q j : Nat) : Int)
  | 0 => rfl
  | j + 1 => by
    have ih := mk_nat q j
    have e : ((2 : Int) ^ (2 ^ j)) = (((2 ^ (2 ^ j) : Nat)) : Int) := by push_cast; rfl
    show Builtin.bitXor (mk (q : Int) j) ((mk (q : Int) j).fdiv (2 ^ (2 ^ j))) = _
    rw [ih, e, fdiv_nat, xor_nat]; rfl
/-- the exclusive or of k bits of q from bit e up -/
def xr (q e : Nat) : Nat → Bool
  | 0 => false
  | k + 1 => xor (xr q e k) (q.testBit (e + k))
theorem xr_add (q e a : Nat) : ∀ b, xr q e (a + b) = xor (xr q e a) (xr q (e + a) b)
  | 0 => by simp [xr]
  | b + 1 => by
    show xor (xr q e (a + b)) (q.testBit (e + (a + b))) = xor (xr q e a) (xor (xr q (e + a) b) (q.testBit (e + a + b)))
    rw [xr_add q e a b, Nat.add_assoc]
    cases xr q e a <;> cases xr q (e + a) b <;> cases q.testBit (e + (a + b)) <;> rfl
theorem mkN_bit (q : Nat) : ∀ j e, (mkN q j).testBit e = xr q e (2 ^ j)
  | 0, e => by simp [mkN, xr]
  | j + 1, e => by
    show (mkN q j ^^^ (mkN q j / 2 ^ (2 ^ j))).testBit e = _
    rw [Nat.testBit_xor, Nat.testBit_div_two_pow, mkN_bit q j e, mkN_bit q j (e + 2 ^ j), Nat.pow_succ, Nat.mul_two, xr_add]
theorem xr_zero (q e n k : Nat) (h : q < 2 ^ n) (he : n ≤ e) : xr q e k = false := by
  induction k with
  | zero => rfl
  | succ k ih =>
    show xor (xr q e k) (q.testBit (e + k)) = false
    have : q.testBit (e + k) = false := Nat.testBit_lt_two_pow (Nat.lt_of_lt_of_le h (Nat.pow_le_pow_right (by decide) (by omega)))
    rw [ih, this]; rfl
end Mine

end Plain3
/-! Plain4 -/
section Plain4
open PySem PySem.W PyProof.Rows PyProof.V PySem.Spec PySem.Calls
set_option Elab.async false
set_option maxRecDepth 100000
namespace Mine
/-- a place: is it a quote, is it a letter, the letter's sign -/
abbrev Pl : Type := Bool × Bool × Nat
def ch (x : Pl) : Nat := if x.1 then 34 else if x.2.1 then x.2.2 else 44
def Fine (W : List Pl) : Prop := ∀ x ∈ W, x.2.2 ≠ 34 ∧ x.2.2 ≠ 44 ∧ x.2.2 ≠ 92
theorem ch34 {x : Pl} (h : x.2.2 ≠ 34) : (ch x = 34) = (x.1 = true) := by
  unfold ch; obtain ⟨a, b, c⟩ := x; cases a <;> cases b <;> simp_all
theorem ch44 {x : Pl} (h : x.2.2 ≠ 44) : (ch x = 44) = (x.1 = false ∧ x.2.1 = false) := by
  unfold ch; obtain ⟨a, b, c⟩ := x; cases a <;> cases b <;> simp_all
theorem fdiv_bit (a e : Nat) : (((a : Int)).fdiv (2 ^ e)).fmod 2 = if a.testBit e then 1 else 0 := by
  have e2 : ((2 : Int) ^ e) = (((2 ^ e : Nat)) : Int) := by push_cast; rfl
  rw [e2, fdiv_nat, Int.fmod_eq_emod_of_nonneg _ (by omega), Nat.testBit_eq_decide_div_mod_eq]
  have := Nat.mod_two_eq_zero_or_one (a / 2 ^ e)
  by_cases h : a / 2 ^ e % 2 = 1
  · rw [decide_eq_true h, if_pos rfl]; omega
  · rw [decide_eq_false h, if_neg (by decide)]; omega
theorem one_bit (b : Bool) : ((if b then (1 : Int) else 0) = 1) = (b = true) := by cases b <;> simp
theorem zero_bit (b : Bool) : ((if b then (1 : Int) else 0) = 0) = (b = false) := by cases b <;> simp
theorem item_at {nm : Str} {i c : Nat} (h : (cs nm)[i]? = some c) : Txt.item nm (i : Int) = c1 (c : Nat) := by
  have hlt : i < nm.length := by rw [← cs_len]; exact (List.getElem?_eq_some_iff.mp h).1
  unfold Txt.item Txt.charAt c1
  have e : seqIndex? (i : Int) nm.length = some i := by
    unfold seqIndex?; simp; omega
  have h' : nm.cps[i]? = some c := by rw [← h]; unfold cs; simp
  rw [e]
  show (⟨#[(nm.cps[i]?).getD 0]⟩ : Str) = _
  rw [h']; rfl
theorem txt_snoc (l : List Nat) (c : Nat) : txtN (l ++ [c]) = txtN l ++ c1 (c : Nat) := by
  refine PySem.Str.ext' (Array.toList_inj.mp ?_)
  rw [PySem.Str.cps_append, Array.toList_append]
  rfl
theorem q_c1 : Str.ofString "\"" = c1 (34 : Nat) := by decide +kernel
theorem comma_c1 : Str.ofString "," = c1 (44 : Nat) := by decide +kernel
theorem getD_at {α : Type} {l : List α} {i : Nat} {x : α} (d : α) (h : l[i]? = some x) : l.getD i d = x := by rw [List.getD, h]; rfl
/-- the second loop of _law_due: the text and the cuts -/
theorem run2_is {W : List Pl} {q lt mk : Nat} {nm : Str} (hf : Fine W)
    (hq : ∀ (i : Nat) (x : Pl), W[i]? = some x → q.testBit (W.length - 1 - i) = x.1) (hl : ∀ (i : Nat) (x : Pl), W[i]? = some x → lt.testBit (W.length - 1 - i) = x.2.1) (hn : ∀ (i : Nat) (x : Pl), W[i]? = some x → (cs nm)[i]? = some x.2.2)
    (hm : ∀ i, i < W.length → mk.testBit (W.length - 1 - i) = par ((W.map ch).take (i + 1))) :
    ∀ i, i ≤ W.length → run2 (W.length : Int) q lt mk nm i = (txtN ((W.map ch).take i), cutsN (W.map ch) i)
  | 0, _ => by
    show (Str.ofString "", [(-1 : Int)]) = _
    have : Str.ofString "" = txtN [] := by decide +kernel
    rw [this]; rfl
  | i + 1, hi => by
    have ih := run2_is hf hq hl hn hm i (by omega)
    have hlt : i < W.length := hi
    obtain ⟨x, hx⟩ : ∃ x, W[i]? = some x := ⟨_, List.getElem?_eq_getElem hlt⟩
    have hxm := hf x (List.mem_of_getElem? hx)
    have hTi : (W.map ch)[i]? = some (ch x) := by rw [List.getElem?_map, hx]; rfl
    have hTl : i < (W.map ch).length := by simpa using hlt
    have hTd : (W.map ch).getD i 0 = ch x := getD_at 0 hTi
    have e : ((W.length : Int) - 1 - (i : Int)).toNat = W.length - 1 - i := by omega
    have hmi := hm i hlt
    rw [take_next hTl, hTd, par_snoc] at hmi
    simp only [ch34 hxm.1] at hmi
    rw [run2_succ, ih]
    unfold st2
    rw [e, fdiv_bit, fdiv_bit, fdiv_bit, hq i x hx, hl i x hx, hmi, take_next hTl, hTd, txt_snoc, item_at (hn i x hx), q_c1, comma_c1]
    have hcut : cutsN (W.map ch) (i + 1) = if ch x = 44 ∧ par ((W.map ch).take i) = false then cutsN (W.map ch) i ++ [(i : Int)] else cutsN (W.map ch) i := by
      show (if (W.map ch).getD i 0 = 44 ∧ _ then _ else _) = _
      rw [hTd]
    rw [hcut]
    simp only [ch44 hxm.2.1]
    generalize par ((W.map ch).take i) = b
    obtain ⟨x1, x2, x3⟩ := x
    cases x1 <;> cases x2 <;> cases b <;> simp [ch]
end Mine

end Plain4
/-! Plain5 -/
section Plain5
open PySem PySem.W PyProof.Rows PyProof.V PySem.Spec PySem.Calls
set_option Elab.async false
set_option maxRecDepth 100000
namespace Mine
/-- the cuts rise, from -1 up, and stay below n -/
def Inc (n : Int) (l : List Int) : Prop := ∀ k, k + 1 < l.length → -1 ≤ l.getD k 0 ∧ l.getD k 0 < l.getD (k + 1) 0 ∧ l.getD (k + 1) 0 ≤ n
theorem inc_snoc {n x : Int} {l : List Int} (h : Inc n l) (h2 : -1 ≤ lastOf l) (h3 : lastOf l < x) (h4 : x ≤ n) : Inc n (l ++ [x]) := by
  intro k hk
  rw [List.length_append] at hk
  simp only [List.length_cons, List.length_nil] at hk
  by_cases hlt : k + 1 < l.length
  · have e1 : (l ++ [x]).getD k 0 = l.getD k 0 := by simp [List.getD, List.getElem?_append_left (show k < l.length by omega)]
    have e2 : (l ++ [x]).getD (k + 1) 0 = l.getD (k + 1) 0 := by simp [List.getD, List.getElem?_append_left hlt]
    rw [e1, e2]; exact h k hlt
  · have hk' : k = l.length - 1 := by omega
    have e1 : (l ++ [x]).getD k 0 = lastOf l := by
      rw [hk']; simp [lastOf, List.getD, List.getElem?_append_left (show l.length - 1 < l.length by omega)]
    have e2 : (l ++ [x]).getD (k + 1) 0 = x := by
      have : k + 1 = l.length := by omega
      rw [this]; simp [List.getD]
    rw [e1, e2]; exact ⟨h2, h3, h4⟩
theorem cuts_inc (T : List Nat) {n : Nat} : ∀ i, i ≤ n → Inc (n : Int) (cutsN T i)
  | 0, _ => by intro k hk; simp [cutsN] at hk
  | i + 1, hi => by
    have ih : Inc (n : Int) (cutsN T i) := cuts_inc T i (by omega)
    have hf := cutsN_facts T i
    unfold cutsN
    split
    · exact inc_snoc ih hf.2.1 hf.2.2 (by omega)
    · exact ih
theorem slice_sg {T : List Nat} {a b : Int} (h0 : 0 ≤ a) (h1 : a ≤ b) (h2 : b ≤ (T.length : Int)) : Txt.slice (txtN T) (some a) (some b) = sg T a b := by
  have h := slice_closesL (x := txtN T) h0 h1 (by rw [← cs_len, cs_txtN]; exact h2)
  exact eq_of_beq h
theorem el_pieces (T : List Nat) : ((List.range (cutsN T T.length).length).map (el (txtN T, cutsN T T.length) (T.length : Int))) = pieces T (cutsN T T.length ++ [(T.length : Int)]) := by
  unfold pieces
  have hf := cutsN_facts T T.length
  have hI := inc_snoc (cuts_inc T T.length (Nat.le_refl _)) hf.2.1 hf.2.2 (Int.le_refl _)
  have hl : (cutsN T T.length ++ [(T.length : Int)]).length - 1 = (cutsN T T.length).length := by simp
  rw [hl]
  refine List.map_congr_left fun k hk => ?_
  have hk' : k < (cutsN T T.length).length := List.mem_range.mp hk
  have h := hI k (by rw [List.length_append]; simp; omega)
  unfold el
  have e2 : ((k : Int) + 1).toNat = k + 1 := by omega
  rw [Int.toNat_natCast, e2]
  dsimp only
  exact slice_sg (by omega) (by omega) h.2.2
theorem due_is (T : List Nat) {A : List Str} {b : Str} (h : pieces T (cutsN T T.length ++ [(T.length : Int)]) = A ++ [b]) : dueOf (txtN T, cutsN T T.length) (T.length : Int) = if b = Str.ofString "" then A else A ++ [b] := by
  unfold dueOf
  dsimp only
  rw [el_pieces, h]
  have e : ((-1 : Int) + ((A ++ [b]).length : Int)).toNat = A.length := by simp; omega
  have e2 : (A ++ [b]).getD A.length Str.empty = b := by simp [List.getD]
  rw [e, e2]
  simp
theorem parseL_is (T : List Nat) (h92 : ∀ c ∈ T, c ≠ 92) : parseL (T.map fun (c : Nat) => (c : Int)) = dueOf (txtN T, cutsN T T.length) (T.length : Int) := by
  have hp := parse_inv T h92 T.length (Nat.le_refl _)
  rw [List.take_length] at hp
  have hf := cutsN_facts T T.length
  rw [due_is T (pieces_snoc T _ _ hf.1)]
  unfold parseL
  rw [hp]
theorem sg_mem {T : List Nat} {a b : Int} {c : Nat} (h : c ∈ cs (sg T a b)) : c ∈ T := by
  unfold sg at h
  rw [cs_txtN] at h
  exact List.mem_of_mem_drop (List.mem_of_mem_take h)
theorem due_mem {T : List Nat} {x : Str} (h : x ∈ dueOf (txtN T, cutsN T T.length) (T.length : Int)) : ∀ c ∈ cs x, c ∈ T := by
  have hf := cutsN_facts T T.length
  have hp : x ∈ pieces T (cutsN T T.length ++ [(T.length : Int)]) := by
    rw [due_is T (pieces_snoc T _ _ hf.1)] at h
    rw [pieces_snoc T _ _ hf.1]
    split at h
    · exact List.mem_append_left _ h
    · exact h
  obtain ⟨k, _, rfl⟩ := List.mem_map.mp hp
  exact fun c hc => sg_mem hc
def Calm (T : List Nat) : Prop := ∀ c ∈ T, 33 ≤ c ∧ c < 127 ∧ (c < 65 ∨ 90 < c) ∧ c ≠ 92
theorem parse_due {T : List Nat} (h : Calm T) : parseS (txtN T) = dueOf (txtN T, cutsN T T.length) (T.length : Int) ∧ ∀ x ∈ parseS (txtN T), okS x := by
  have e : parseS (txtN T) = dueOf (txtN T, cutsN T T.length) (T.length : Int) := by
    unfold parseS KStt.codes
    show (parseL (T.map _)).map Txt.strip = _
    rw [parseL_is T fun c hc => (h c hc).2.2.2]
    conv => rhs; rw [← List.map_id (dueOf _ _)]
    refine List.map_congr_left fun x hx => ?_
    exact KXs.strip_still fun c hc => by
      have := h c (due_mem hx c hc)
      exact ⟨this.1, this.2.1, this.2.2.1⟩
  refine ⟨e, fun x hx => ?_⟩
  rw [e] at hx
  unfold okS PyData.strOk
  rw [← Array.all_toList, List.all_eq_true]
  intro c hc
  have := h c (due_mem hx c hc)
  exact decide_eq_true (by omega)
/-- the marks: what stands in quotes -/
theorem xr_par {W : List Pl} {q : Nat} (hf : Fine W) (hq : ∀ (i : Nat) (x : Pl), W[i]? = some x → q.testBit (W.length - 1 - i) = x.1) :
    ∀ i, i ≤ W.length → xr q (W.length - i) i = par ((W.map ch).take i)
  | 0, _ => rfl
  | i + 1, hi => by
    have ih := xr_par hf hq i (by omega)
    have hlt : i < W.length := hi
    obtain ⟨x, hx⟩ : ∃ x, W[i]? = some x := ⟨_, List.getElem?_eq_getElem hlt⟩
    have hTi : (W.map ch)[i]? = some (ch x) := by rw [List.getElem?_map, hx]; rfl
    have hTl : i < (W.map ch).length := by simpa using hlt
    have hb := hq i x hx
    have e : W.length - (i + 1) = W.length - 1 - i := by omega
    have e2 : W.length - 1 - i + 1 = W.length - i := by omega
    rw [take_next hTl, getD_at 0 hTi, par_snoc, Nat.add_comm i 1, xr_add, Nat.add_comm 1 i, e, e2, ih]
    simp only [ch34 (hf x (List.mem_of_getElem? hx)).1]
    have : xr q (W.length - 1 - i) 1 = x.1 := by simp [xr, hb]
    rw [this]
    cases x.1 <;> simp
theorem marks_is {W : List Pl} {q j : Nat} (hf : Fine W) (hq : ∀ (i : Nat) (x : Pl), W[i]? = some x → q.testBit (W.length - 1 - i) = x.1) (hlt : q < 2 ^ W.length) (hj : W.length ≤ 2 ^ j) :
    ∀ i, i < W.length → (mkN q j).testBit (W.length - 1 - i) = par ((W.map ch).take (i + 1)) := by
  intro i hi
  have e : 2 ^ j = (i + 1) + (2 ^ j - (i + 1)) := by omega
  have e1 : W.length - 1 - i = W.length - (i + 1) := by omega
  have e2 : W.length - (i + 1) + (i + 1) = W.length := by omega
  rw [mkN_bit, e, xr_add, e1, xr_par hf hq (i + 1) hi, e2, xr_zero q _ _ _ hlt (Nat.le_refl _)]
  simp
/-- the plain law of places -/
theorem plain_W {W : List Pl} {q lt j : Nat} {nm : Str} (hf : Fine W) (hc : Calm (W.map ch))
    (hq : ∀ (i : Nat) (x : Pl), W[i]? = some x → q.testBit (W.length - 1 - i) = x.1) (hl : ∀ (i : Nat) (x : Pl), W[i]? = some x → lt.testBit (W.length - 1 - i) = x.2.1) (hn : ∀ (i : Nat) (x : Pl), W[i]? = some x → (cs nm)[i]? = some x.2.2)
    (hlt : q < 2 ^ W.length) (hj : W.length ≤ 2 ^ j) :
    parseS (txtN (W.map ch)) = dueOf (run2 (W.length : Int) q lt (mk (q : Int) j) nm W.length) (W.length : Int) ∧ ∀ x ∈ parseS (txtN (W.map ch)), okS x := by
  have h := parse_due hc
  rw [mk_nat, run2_is hf hq hl hn (marks_is hf hq hlt hj) W.length (Nat.le_refl _)]
  rw [List.length_map] at h
  have e : (W.map ch).take W.length = W.map ch := by rw [← List.length_map (as := W) ch, List.take_length]
  rw [e]
  exact h
end Mine

end Plain5
/-! Plain6 -/
section Plain6
open PySem PySem.W PyProof.Rows PyProof.V PySem.Spec PySem.Calls
set_option Elab.async false
set_option maxRecDepth 100000
namespace Mine
def tabsN : List (List (Nat × Nat)) := [
  [(40960, 108), (49152, 115), (32768, 45), (24576, 98), (16384, 100), (8192, 99), (4096, 112)],
  [(256, 114)], [(128, 119)], [(2112, 115), (2048, 83), (64, 120)],
  [(32, 114)], [(16, 119)], [(1032, 115), (1024, 83), (8, 120)],
  [(4, 114)], [(2, 119)], [(513, 116), (512, 84), (1, 120)]]
def tstN (i m bit : Nat) : Bool := if i = 0 then m &&& 61440 == bit else m &&& bit == bit
def pickN (i m : Nat) : List (Nat × Nat) → Nat
  | [] => if i = 0 then 63 else 45
  | e :: r => if tstN i m e.1 then e.2 else pickN i m r
def up (e : Nat × Nat) : Int × Str := ((e.1 : Int), ⟨#[e.2]⟩)
theorem tabs_up : tabs = tabsN.map (·.map up) := by decide +kernel
theorem tst_nat (i m bit : Nat) : tst i (m : Int) (bit : Int) = tstN i m bit := by
  unfold tst tstN
  have e : (61440 : Int) = ((61440 : Nat) : Int) := rfl
  rw [e, bitAnd_pp (by omega) (by omega), bitAnd_pp (by omega) (by omega)]
  simp only [Int.toNat_natCast]
  split
  · by_cases h : m &&& 61440 = bit
    · simp [h]
    · have : ¬ (((m &&& 61440 : Nat) : Int) = (bit : Int)) := by omega
      rw [decide_eq_false this]; simp [h]
  · by_cases h : m &&& bit = bit
    · simp [h]
    · have : ¬ (((m &&& bit : Nat) : Int) = (bit : Int)) := by omega
      rw [decide_eq_false this]; simp [h]
theorem pick_nat (i m : Nat) : ∀ es : List (Nat × Nat), pick i (m : Int) (es.map up) = ⟨#[pickN i m es]⟩
  | [] => by
    show dflt i = _
    unfold dflt pickN
    split <;> decide +kernel
  | e :: r => by
    have ih := pick_nat i m r
    show (if tst i (m : Int) (e.1 : Int) then (⟨#[e.2]⟩ : Str) else pick i (m : Int) (r.map up)) = ⟨#[if tstN i m e.1 then e.2 else pickN i m r]⟩
    rw [tst_nat, ih]
    split <;> rfl
def sgn (m i : Nat) : Nat := pickN i m (tabsN.getD i [])
theorem tab_up (i : Nat) : tabs.getD i [] = (tabsN.getD i []).map up := by
  rw [tabs_up]
  simp only [List.getD, List.getElem?_map]
  cases tabsN[i]? <;> rfl
theorem flat_one (f : Nat → Nat) : ∀ l : List Nat, (l.map fun i => [f i]).flatten = l.map f
  | [] => rfl
  | a :: r => by simp [flat_one f r]
theorem cs_fm (m : Nat) : cs (fm (m : Int)) = (List.range 10).map (sgn m) := by
  unfold fm fmL
  rw [cs_joinE, List.map_map, ← flat_one]
  congr 1
  refine List.map_congr_left fun i _ => ?_
  show cs (pick i (m : Int) (tabs.getD i [])) = [sgn m i]
  rw [tab_up, pick_nat]
  rfl
def s1 (c d a : Nat) : Nat := if a = c then d else a
def subAll (a : Nat) : Nat := s1 84 34 (s1 116 34 (s1 83 34 (s1 115 34 (s1 45 44 a))))
theorem cs_lawText (ms : List Nat) : cs (lawText (ms.map fun (m : Nat) => (m : Int))) = ms.flatMap fun m => (List.range 10).map fun i => subAll (sgn m i) := by
  unfold lawText
  simp only [List.foldl_cons, List.foldl_nil, cs_rq, cs_text0]
  unfold joined
  rw [cs_joinE, List.map_map, List.map_map]
  have e : ms.map ((cs ∘ fm) ∘ fun (m : Nat) => (m : Int)) = ms.map fun m => (List.range 10).map (sgn m) := List.map_congr_left fun m _ => cs_fm m
  rw [e]
  unfold sub1
  rw [List.map_map, List.map_map, List.map_map, List.map_map, List.flatMap_def, List.map_flatten, List.map_map]
  congr 1
/-! the numbers of one mode -/
def qb (b : Nat) : Nat := b / 2048 * 64 + b / 1024 % 2 * 8 + b / 512 % 2
def qd (m : Nat) : Nat := 2 ^ 9 * (if m / 4096 = 12 then 1 else 0) + qb (m % 4096)
def ld (m : Nat) : Nat := 2 ^ 9 * (if m / 4096 = 8 ∨ m / 4096 = 12 then 0 else 1) + m % 4096 % 512
def kinds : List Nat := [63, 112, 99, 63, 100, 63, 98, 63, 45, 63, 108, 63, 115, 63, 63, 63]
def rwx : List Nat := [114, 119, 120, 114, 119, 120, 114, 119, 120]
def nms (m : Nat) : List Nat := kinds.getD (m / 4096) 63 :: rwx
theorem qb_lt {b : Nat} (h : b < 4096) : qb b < 2 ^ 9 := by unfold qb; omega
theorem qd_lt (m : Nat) : qd m < 1024 := by
  have := qb_lt (Nat.mod_lt m (show 0 < 4096 by decide))
  unfold qd; split <;> omega
theorem ld_lt (m : Nat) : ld m < 1024 := by unfold ld; split <;> omega
def per (m : Nat) : List Pl := (List.range 10).map fun i => ((qd m).testBit (9 - i), (ld m).testBit (9 - i), (nms m).getD i 63)
theorem pick0_k (m : Nat) : m &&& 61440 = m / 4096 * 4096 &&& 61440 := by
  have e : m / 4096 * 4096 = (m >>> 12) <<< 12 := by rw [Nat.shiftRight_eq_div_pow, Nat.shiftLeft_eq]
  have e2 : 61440 = 15 <<< 12 := rfl
  rw [e]
  refine Nat.eq_of_testBit_eq fun i => ?_
  rw [Nat.testBit_and, Nat.testBit_and, e2, Nat.testBit_shiftLeft, Nat.testBit_shiftLeft, Nat.testBit_shiftRight]
  by_cases hi : i ≥ 12
  · have : 12 + (i - 12) = i := by omega
    simp [hi, this]
  · simp [hi]
theorem pick0_is (m : Nat) : ∀ es : List (Nat × Nat), pickN 0 m es = pickN 0 (m / 4096 * 4096) es
  | [] => rfl
  | e :: r => by
    have ht : tstN 0 m e.1 = tstN 0 (m / 4096 * 4096) e.1 := by
      show (m &&& 61440 == e.1) = (m / 4096 * 4096 &&& 61440 == e.1)
      rw [pick0_k m]
    unfold pickN; rw [pick0_is m r, ht]
theorem low_and (m bit : Nat) (h : bit < 4096) : m &&& bit = m % 4096 &&& bit := by
  have h1 : m &&& bit < 4096 := Nat.lt_of_le_of_lt Nat.and_le_right h
  have h2 : (m &&& bit) % 2 ^ 12 = (m % 2 ^ 12) &&& (bit % 2 ^ 12) := Nat.and_mod_two_pow
  rw [Nat.mod_eq_of_lt h1, Nat.mod_eq_of_lt h] at h2
  exact h2
theorem pick_low (i m : Nat) : ∀ es : List (Nat × Nat), (∀ e ∈ es, e.1 < 4096) → pickN (i + 1) m es = pickN (i + 1) (m % 4096) es
  | [], _ => rfl
  | e :: r, h => by
    have ht : tstN (i + 1) m e.1 = tstN (i + 1) (m % 4096) e.1 := by
      show (m &&& e.1 == e.1) = (m % 4096 &&& e.1 == e.1)
      rw [low_and m e.1 (h e (.head _))]
    unfold pickN
    rw [pick_low i m r (fun x hx => h x (.tail _ hx)), ht]
theorem tabs_low : ∀ i, i < 9 → ∀ e ∈ tabsN.getD (i + 1) [], e.1 < 4096 := by decide
theorem kind_ok : ∀ k, k < 16 → subAll (pickN 0 (k * 4096) (tabsN.getD 0 [])) = ch ((if k = 12 then 1 else 0).testBit 0, (if k = 8 ∨ k = 12 then 0 else 1).testBit 0, kinds.getD k 63) := by decide +kernel
theorem and_pow (b a : Nat) : b &&& 2 ^ a = if b.testBit a then 2 ^ a else 0 := by
  refine Nat.eq_of_testBit_eq fun i => ?_
  rw [Nat.testBit_and, Nat.testBit_two_pow]
  by_cases h : a = i
  · subst h; cases hb : b.testBit a <;> simp [Nat.testBit_two_pow]
  · rw [decide_eq_false h, Bool.and_false]
    split
    · rw [Nat.testBit_two_pow, decide_eq_false h]
    · rw [Nat.zero_testBit]
theorem tst_pow (i b a : Nat) : tstN (i + 1) b (2 ^ a) = b.testBit a := by
  unfold tstN
  rw [if_neg (by omega), and_pow]
  have := Nat.two_pow_pos a
  cases b.testBit a
  · simp; omega
  · simp
theorem tst_two (i b : Nat) : tstN (i + 1) b 2112 = (b.testBit 11 && b.testBit 6) ∧ tstN (i + 1) b 1032 = (b.testBit 10 && b.testBit 3) ∧ tstN (i + 1) b 513 = (b.testBit 9 && b.testBit 0) := by
  have e1 : 2112 = 2 ^ 11 ||| 2 ^ 6 := rfl
  have e2 : 1032 = 2 ^ 10 ||| 2 ^ 3 := rfl
  have e3 : 513 = 2 ^ 9 ||| 2 ^ 0 := rfl
  unfold tstN
  rw [if_neg (by omega), if_neg (by omega), if_neg (by omega)]
  refine ⟨?_, ?_, ?_⟩
  · rw [e1, Nat.and_or_distrib_left, and_pow, and_pow]
    cases b.testBit 11 <;> cases b.testBit 6 <;> rfl
  · rw [e2, Nat.and_or_distrib_left, and_pow, and_pow]
    cases b.testBit 10 <;> cases b.testBit 3 <;> rfl
  · rw [e3, Nat.and_or_distrib_left, and_pow, and_pow]
    cases b.testBit 9 <;> cases b.testBit 0 <;> rfl
theorem qb_s : ∀ s, s < 8 → ∀ i, i < 9 → (s / 4 * 64 + s / 2 % 2 * 8 + s % 2).testBit (8 - i) = (decide (i % 3 = 2) && s.testBit (2 - i / 3)) := by decide +kernel
theorem qb_bit {b : Nat} (h : b < 4096) {i : Nat} (hi : i < 9) : (qb b).testBit (8 - i) = (decide (i % 3 = 2) && b.testBit (2 - i / 3 + 9)) := by
  have e : qb b = b / 512 / 4 * 64 + b / 512 / 2 % 2 * 8 + b / 512 % 2 := by
    unfold qb; rw [Nat.div_div_eq_div_mul, Nat.div_div_eq_div_mul]
  rw [e, qb_s (b / 512) (by omega) i hi]
  have e2 : b / 512 = b / 2 ^ 9 := rfl
  rw [e2, Nat.testBit_div_two_pow]
theorem lb_bit (b : Nat) {i : Nat} (hi : i < 9) : (b % 512).testBit (8 - i) = b.testBit (8 - i) := by
  have e2 : b % 512 = b % 2 ^ 9 := rfl
  rw [e2, Nat.testBit_mod_two_pow, decide_eq_true (show 8 - i < 9 by omega), Bool.true_and]
theorem pick_cons (i m x y : Nat) (r : List (Nat × Nat)) : pickN i m ((x, y) :: r) = if tstN i m x then y else pickN i m r := rfl
theorem pick_nil (i m : Nat) : pickN (i + 1) m [] = 45 := rfl
theorem low_ok {b : Nat} (h : b < 4096) {i : Nat} (hi : i < 9) : subAll (pickN (i + 1) b (tabsN.getD (i + 1) [])) = ch ((qb b).testBit (8 - i), (b % 512).testBit (8 - i), rwx.getD i 63) := by
  rw [qb_bit h hi, lb_bit b hi]
  obtain ⟨d1, d2, d3⟩ : tstN 3 b 2112 = (b.testBit 11 && b.testBit 6) ∧ tstN 6 b 1032 = (b.testBit 10 && b.testBit 3) ∧ tstN 9 b 513 = (b.testBit 9 && b.testBit 0) := ⟨(tst_two 2 b).1, (tst_two 5 b).2.1, (tst_two 8 b).2.2⟩
  have hc : i = 0 ∨ i = 1 ∨ i = 2 ∨ i = 3 ∨ i = 4 ∨ i = 5 ∨ i = 6 ∨ i = 7 ∨ i = 8 := by omega
  rcases hc with rfl | rfl | rfl | rfl | rfl | rfl | rfl | rfl | rfl
  · have t1 : tstN 1 b 256 = b.testBit 8 := tst_pow 0 b 8
    have e : tabsN.getD 1 [] = [(256, 114)] := rfl
    rw [e, pick_cons, pick_nil, t1]
    show subAll (if b.testBit 8 then 114 else 45) = ch (false, b.testBit 8, 114)
    cases b.testBit 8 <;> rfl
  · have t1 : tstN 2 b 128 = b.testBit 7 := tst_pow 1 b 7
    have e : tabsN.getD 2 [] = [(128, 119)] := rfl
    rw [e, pick_cons, pick_nil, t1]
    show subAll (if b.testBit 7 then 119 else 45) = ch (false, b.testBit 7, 119)
    cases b.testBit 7 <;> rfl
  · have t1 : tstN 3 b 2048 = b.testBit 11 := tst_pow 2 b 11
    have t2 : tstN 3 b 64 = b.testBit 6 := tst_pow 2 b 6
    have e : tabsN.getD 3 [] = [(2112, 115), (2048, 83), (64, 120)] := rfl
    rw [e, pick_cons, pick_cons, pick_cons, pick_nil, t1, t2, d1]
    show subAll (if b.testBit 11 && b.testBit 6 then 115 else if b.testBit 11 then 83 else if b.testBit 6 then 120 else 45) = ch (b.testBit 11, b.testBit 6, 120)
    cases b.testBit 11 <;> cases b.testBit 6 <;> rfl
  · have t1 : tstN 4 b 32 = b.testBit 5 := tst_pow 3 b 5
    have e : tabsN.getD 4 [] = [(32, 114)] := rfl
    rw [e, pick_cons, pick_nil, t1]
    show subAll (if b.testBit 5 then 114 else 45) = ch (false, b.testBit 5, 114)
    cases b.testBit 5 <;> rfl
  · have t1 : tstN 5 b 16 = b.testBit 4 := tst_pow 4 b 4
    have e : tabsN.getD 5 [] = [(16, 119)] := rfl
    rw [e, pick_cons, pick_nil, t1]
    show subAll (if b.testBit 4 then 119 else 45) = ch (false, b.testBit 4, 119)
    cases b.testBit 4 <;> rfl
  · have t1 : tstN 6 b 1024 = b.testBit 10 := tst_pow 5 b 10
    have t2 : tstN 6 b 8 = b.testBit 3 := tst_pow 5 b 3
    have e : tabsN.getD 6 [] = [(1032, 115), (1024, 83), (8, 120)] := rfl
    rw [e, pick_cons, pick_cons, pick_cons, pick_nil, t1, t2, d2]
    show subAll (if b.testBit 10 && b.testBit 3 then 115 else if b.testBit 10 then 83 else if b.testBit 3 then 120 else 45) = ch (b.testBit 10, b.testBit 3, 120)
    cases b.testBit 10 <;> cases b.testBit 3 <;> rfl
  · have t1 : tstN 7 b 4 = b.testBit 2 := tst_pow 6 b 2
    have e : tabsN.getD 7 [] = [(4, 114)] := rfl
    rw [e, pick_cons, pick_nil, t1]
    show subAll (if b.testBit 2 then 114 else 45) = ch (false, b.testBit 2, 114)
    cases b.testBit 2 <;> rfl
  · have t1 : tstN 8 b 2 = b.testBit 1 := tst_pow 7 b 1
    have e : tabsN.getD 8 [] = [(2, 119)] := rfl
    rw [e, pick_cons, pick_nil, t1]
    show subAll (if b.testBit 1 then 119 else 45) = ch (false, b.testBit 1, 119)
    cases b.testBit 1 <;> rfl
  · have t1 : tstN 9 b 512 = b.testBit 9 := tst_pow 8 b 9
    have t2 : tstN 9 b 1 = b.testBit 0 := tst_pow 8 b 0
    have e : tabsN.getD 9 [] = [(513, 116), (512, 84), (1, 120)] := rfl
    rw [e, pick_cons, pick_cons, pick_cons, pick_nil, t1, t2, d3]
    show subAll (if b.testBit 9 && b.testBit 0 then 116 else if b.testBit 9 then 84 else if b.testBit 0 then 120 else 45) = ch (b.testBit 9, b.testBit 0, 120)
    cases b.testBit 9 <;> cases b.testBit 0 <;> rfl
theorem mode_ok {m : Nat} (h : m < 65536) : ((List.range 10).map fun i => subAll (sgn m i)) = (per m).map ch := by
  unfold per
  rw [List.map_map]
  refine List.map_congr_left fun i hi => ?_
  have hi' : i < 10 := List.mem_range.mp hi
  show subAll (sgn m i) = ch ((qd m).testBit (9 - i), (ld m).testBit (9 - i), (nms m).getD i 63)
  have hqb := qb_lt (Nat.mod_lt m (show 0 < 4096 by decide))
  have hlb : m % 4096 % 512 < 2 ^ 9 := Nat.mod_lt _ (by decide)
  unfold sgn qd ld
  rw [Nat.testBit_two_pow_mul_add _ hqb, Nat.testBit_two_pow_mul_add _ hlb]
  cases i with
  | zero =>
    rw [pick0_is m, kind_ok (m / 4096) (by omega)]
    rfl
  | succ i =>
    rw [pick_low i m _ (tabs_low i (by omega)), low_ok (Nat.mod_lt m (show 0 < 4096 by decide)) (show i < 9 by omega)]
    have e : 9 - (i + 1) = 8 - i := by omega
    have e2 : 8 - i < 9 := by omega
    rw [e, if_pos e2, if_pos e2]
    rfl
end Mine

end Plain6
/-! Plain7 -/
section Plain7
open PySem PySem.W PyProof.Rows PyProof.V PySem.Spec PySem.Calls
set_option Elab.async false
set_option maxRecDepth 100000
namespace Mine
def bitsOf (X n : Nat) : List Bool := (List.range n).map fun p => X.testBit (n - 1 - p)
theorem bits_step {X d n : Nat} (h : d < 1024) : bitsOf (X * 1024 + d) (n + 10) = bitsOf X n ++ bitsOf d 10 := by
  have hd : d < 2 ^ 10 := h
  have e : X * 1024 + d = 2 ^ 10 * X + d := by rw [Nat.mul_comm]
  unfold bitsOf
  rw [List.range_add, List.map_append, List.map_map, e]
  congr 1
  · refine List.map_congr_left fun p hp => ?_
    have hp' : p < n := List.mem_range.mp hp
    rw [Nat.testBit_two_pow_mul_add _ hd, if_neg (by omega)]
    congr 1
    omega
  · refine List.map_congr_left fun p hp => ?_
    have hp' : p < 10 := List.mem_range.mp hp
    show (2 ^ 10 * X + d).testBit (n + 10 - 1 - (n + p)) = d.testBit (10 - 1 - p)
    have e2 : n + 10 - 1 - (n + p) = 10 - 1 - p := by omega
    rw [Nat.testBit_two_pow_mul_add _ hd, e2, if_pos (by omega)]
theorem bits_fold (f : Nat → Nat) (hf : ∀ m, f m < 1024) : ∀ (ms : List Nat) (X n : Nat), bitsOf (ms.foldl (fun x m => x * 1024 + f m) X) (n + 10 * ms.length) = bitsOf X n ++ ms.flatMap fun m => bitsOf (f m) 10
  | [], X, n => by simp
  | m :: r, X, n => by
    have e : n + 10 * (m :: r).length = (n + 10) + 10 * r.length := by rw [List.length_cons]; omega
    rw [List.foldl_cons, e, bits_fold f hf r, bits_step (hf m), List.flatMap_cons, List.append_assoc]
theorem fold_lt (f : Nat → Nat) (hf : ∀ m, f m < 1024) : ∀ (ms : List Nat) (X n : Nat), X < 2 ^ n → ms.foldl (fun x m => x * 1024 + f m) X < 2 ^ (n + 10 * ms.length)
  | [], X, n, h => h
  | m :: r, X, n, h => by
    have e : n + 10 * (m :: r).length = (n + 10) + 10 * r.length := by rw [List.length_cons]; omega
    have h1 := hf m
    rw [List.foldl_cons, e]
    refine fold_lt f hf r _ _ ?_
    rw [Nat.pow_add]
    have : (2 : Nat) ^ 10 = 1024 := rfl
    rw [this]
    omega
def WW (ms : List Nat) : List Pl := ms.flatMap per
theorem per_len (m : Nat) : (per m).length = 10 := by simp [per]
theorem WW_len : ∀ ms : List Nat, (WW ms).length = 10 * ms.length
  | [] => rfl
  | m :: r => by
    have ih := WW_len r
    unfold WW at ih ⊢
    rw [List.flatMap_cons, List.length_append, per_len, ih, List.length_cons]; omega
def Qn (ms : List Nat) : Nat := ms.foldl (fun x m => x * 1024 + qd m) 0
def Ln (ms : List Nat) : Nat := ms.foldl (fun x m => x * 1024 + ld m) 0
theorem per_q (m : Nat) : (per m).map (fun x => x.1) = bitsOf (qd m) 10 := by
  unfold per bitsOf; rw [List.map_map]; rfl
theorem per_l (m : Nat) : (per m).map (fun x => x.2.1) = bitsOf (ld m) 10 := by
  unfold per bitsOf; rw [List.map_map]; rfl
theorem per_n (m : Nat) : (per m).map (fun x => x.2.2) = nms m := by
  unfold per; rw [List.map_map]; rfl
theorem Q_bits (ms : List Nat) : bitsOf (Qn ms) (10 * ms.length) = (WW ms).map (fun x => x.1) := by
  have h := bits_fold qd qd_lt ms 0 0
  rw [Nat.zero_add] at h
  unfold WW
  rw [List.map_flatMap]
  simp only [per_q]
  exact h
theorem L_bits (ms : List Nat) : bitsOf (Ln ms) (10 * ms.length) = (WW ms).map (fun x => x.2.1) := by
  have h := bits_fold ld ld_lt ms 0 0
  rw [Nat.zero_add] at h
  unfold WW
  rw [List.map_flatMap]
  simp only [per_l]
  exact h
theorem bits_at {X : Nat} {W : List Pl} {g : Pl → Bool} (h : bitsOf X W.length = W.map g) : ∀ (i : Nat) (x : Pl), W[i]? = some x → X.testBit (W.length - 1 - i) = g x := by
  intro i x hx
  have hlt : i < W.length := (List.getElem?_eq_some_iff.mp hx).1
  have h1 : (bitsOf X W.length)[i]? = some (X.testBit (W.length - 1 - i)) := by
    unfold bitsOf
    rw [List.getElem?_map, List.getElem?_range hlt]; rfl
  rw [h, List.getElem?_map, hx] at h1
  exact (Option.some.inj h1).symm
/-! the walk's numbers -/
theorem and4095 (m : Nat) : Builtin.bitAnd (m : Int) 4095 = ((m % 4096 : Nat) : Int) := by
  have e : (4095 : Int) = ((4095 : Nat) : Int) := rfl
  rw [e, bitAnd_pp (by omega) (by omega), Int.toNat_natCast, Int.toNat_natCast]
  have : m &&& 4095 = m % 2 ^ 12 := Nat.and_two_pow_sub_one_eq_mod m 12
  rw [this]
theorem fdivL (a b : Nat) (c : Int) (h : c = (b : Int)) : ((a : Int)).fdiv c = ((a / b : Nat) : Int) := by rw [h]; exact fdiv_nat a b
theorem fmodL (a b : Nat) (c : Int) (h : c = (b : Int)) : ((a : Int)).fmod c = ((a % b : Nat) : Int) := by
  rw [h, Int.fmod_eq_emod_of_nonneg _ (by omega)]; rfl
theorem qt1_nat (x m : Nat) : qt1 (x : Int) (m : Int) = ((x * 1024 + qd m : Nat) : Int) := by
  unfold qt1 qd qb
  rw [and4095, fdivL m 4096 4096 rfl, fdivL (m % 4096) 2048 2048 rfl, fdivL (m % 4096) 1024 1024 rfl, fdivL (m % 4096) 512 512 rfl, fmodL _ 2 2 rfl, fmodL _ 2 2 rfl]
  by_cases h : m / 4096 = 12
  · have h' : ((m / 4096 : Nat) : Int) = 12 := by omega
    rw [if_pos h, if_pos h']; omega
  · have h' : ¬ ((m / 4096 : Nat) : Int) = 12 := by omega
    rw [if_neg h, if_neg h']; omega
theorem lt1_nat (x m : Nat) : lt1 (x : Int) (m : Int) = ((x * 1024 + ld m : Nat) : Int) := by
  unfold lt1 ld
  rw [and4095, fdivL m 4096 4096 rfl, fmodL _ 512 512 rfl]
  by_cases h : m / 4096 = 8 ∨ m / 4096 = 12
  · have h' : ((m / 4096 : Nat) : Int) = 8 ∨ ((m / 4096 : Nat) : Int) = 12 := by omega
    rw [if_pos h, if_pos h']; omega
  · have h' : ¬ (((m / 4096 : Nat) : Int) = 8 ∨ ((m / 4096 : Nat) : Int) = 12) := by omega
    rw [if_neg h, if_neg h']; omega
theorem fold_nat (f : Int → Int → Int) (g : Nat → Nat) (h : ∀ x m : Nat, f (x : Int) (m : Int) = ((x * 1024 + g m : Nat) : Int)) : ∀ (ms : List Nat) (x : Nat), (ms.map fun (m : Nat) => (m : Int)).foldl f (x : Int) = ((ms.foldl (fun x m => x * 1024 + g m) x : Nat) : Int)
  | [], _ => rfl
  | m :: r, x => by rw [List.map_cons, List.foldl_cons, h, fold_nat f g h r, List.foldl_cons]
theorem qtF_nat (ms : List Nat) : qtF (ms.map fun (m : Nat) => (m : Int)) = ((Qn ms : Nat) : Int) := fold_nat qt1 qd qt1_nat ms 0
theorem ltF_nat (ms : List Nat) : ltF (ms.map fun (m : Nat) => (m : Int)) = ((Ln ms : Nat) : Int) := fold_nat lt1 ld lt1_nat ms 0
theorem kinds_cs : cs (Str.ofString "?pc?d?b?-?l?s???") = kinds := by decide +kernel
theorem rwx_cs : cs (Str.ofString "rwxrwxrwx") = rwx := by decide +kernel
theorem nm1_cs (x : Str) {m : Nat} (h : m < 65536) : cs (nm1 x (m : Int)) = cs x ++ nms m := by
  unfold nm1
  have hk : m / 4096 < kinds.length := by show m / 4096 < 16; omega
  have hi : (cs (Str.ofString "?pc?d?b?-?l?s???"))[m / 4096]? = some (kinds.getD (m / 4096) 63) := by
    rw [kinds_cs, List.getD, List.getElem?_eq_getElem hk]; rfl
  rw [fdivL m 4096 4096 rfl, item_at hi, cs_app, cs_app, rwx_cs, List.append_assoc]
  rfl
theorem nm_fold : ∀ (ms : List Nat) (x : Str), (∀ m ∈ ms, m < 65536) → cs ((ms.map fun (m : Nat) => (m : Int)).foldl nm1 x) = cs x ++ ms.flatMap nms
  | [], x, _ => by simp
  | m :: r, x, h => by
    rw [List.map_cons, List.foldl_cons, nm_fold r _ fun a ha => h a (.tail _ ha), nm1_cs x (h m (.head _)), List.flatMap_cons, List.append_assoc]
theorem nmF_cs (ms : List Nat) (h : ∀ m ∈ ms, m < 65536) : cs (nmF (ms.map fun (m : Nat) => (m : Int))) = (WW ms).map (fun x => x.2.2) := by
  unfold nmF WW
  rw [nm_fold ms _ h, cs_empty, List.map_flatMap]
  simp only [per_n]
  rfl
theorem text_cs : ∀ (ms : List Nat) (_ : ∀ m ∈ ms, m < 65536), (ms.flatMap fun m => (List.range 10).map fun i => subAll (sgn m i)) = (WW ms).map ch
  | [], _ => rfl
  | m :: r, h => by
    have ih := text_cs r fun a ha => h a (.tail _ ha)
    unfold WW at ih ⊢
    rw [List.flatMap_cons, List.flatMap_cons, List.map_append, ih, mode_ok (h m (.head _))]
theorem name_ok {m : Nat} {c : Nat} (h : c ∈ nms m) : c ∈ [63, 112, 99, 100, 98, 45, 108, 115, 114, 119, 120] := by
  rcases List.mem_cons.mp h with rfl | h
  · by_cases hk : m / 4096 < kinds.length
    · have e : kinds.getD (m / 4096) 63 = kinds[m / 4096] := by rw [List.getD, List.getElem?_eq_getElem hk]; rfl
      have hall : ∀ c ∈ kinds, c ∈ [63, 112, 99, 100, 98, 45, 108, 115, 114, 119, 120] := by decide
      rw [e]; exact hall _ (List.getElem_mem hk)
    · have e : kinds.getD (m / 4096) 63 = 63 := by rw [List.getD, List.getElem?_eq_none (by omega)]; rfl
      rw [e]; decide
  · have hall : ∀ c ∈ rwx, c ∈ [63, 112, 99, 100, 98, 45, 108, 115, 114, 119, 120] := by decide
    exact hall c h
theorem WW_name {ms : List Nat} {x : Pl} (h : x ∈ WW ms) : x.2.2 ∈ [63, 112, 99, 100, 98, 45, 108, 115, 114, 119, 120] := by
  obtain ⟨m, _, hm⟩ := List.mem_flatMap.mp h
  refine name_ok (m := m) ?_
  rw [← per_n]
  exact List.mem_map.mpr ⟨x, hm, rfl⟩
theorem WW_fine (ms : List Nat) : Fine (WW ms) := fun x hx => by
  have hall : ∀ c ∈ [63, 112, 99, 100, 98, 45, 108, 115, 114, 119, 120], c ≠ 34 ∧ c ≠ 44 ∧ c ≠ 92 := by decide
  exact hall _ (WW_name hx)
theorem WW_calm (ms : List Nat) : Calm ((WW ms).map ch) := fun c hc => by
  obtain ⟨x, hx, rfl⟩ := List.mem_map.mp hc
  have hall : ∀ c ∈ [63, 112, 99, 100, 98, 45, 108, 115, 114, 119, 120], 33 ≤ c ∧ c < 127 ∧ (c < 65 ∨ 90 < c) ∧ c ≠ 92 := by decide
  unfold ch
  split
  · decide
  · split
    · exact hall _ (WW_name hx)
    · decide
theorem nats_of : ∀ (ns : List Int), (∀ n ∈ ns, 0 ≤ n ∧ n < 65536) → ∃ ms : List Nat, ns = ms.map (fun (m : Nat) => (m : Int)) ∧ ∀ m ∈ ms, m < 65536
  | [], _ => ⟨[], rfl, by simp⟩
  | n :: r, h => by
    obtain ⟨ms, e, hm⟩ := nats_of r fun a ha => h a (.tail _ ha)
    have hn := h n (.head _)
    refine ⟨n.toNat :: ms, ?_, ?_⟩
    · rw [List.map_cons, ← e]; congr 1; omega
    · intro m hm'
      rcases List.mem_cons.mp hm' with rfl | hm'
      · omega
      · exact hm m hm'
theorem plainlaw (ns : List Int) (j : Nat) (h : InR ns) (hj : 10 * (ns.length : Int) ≤ (2 ^ j : Nat)) : parseS (lawText ns) = lawDueJ ns j ∧ ∀ x ∈ parseS (lawText ns), okS x := by
  obtain ⟨ms, rfl, hm⟩ := nats_of ns h.1
  have hl : lawText (ms.map fun (m : Nat) => (m : Int)) = txtN ((WW ms).map ch) := by
    refine PySem.Str.ext' (Array.toList_inj.mp ?_)
    show cs (lawText _) = _
    rw [cs_lawText, text_cs ms hm]; rfl
  have hlen := WW_len ms
  rw [List.length_map] at hj
  have hQ : bitsOf (Qn ms) (WW ms).length = (WW ms).map (fun x => x.1) := by rw [hlen]; exact Q_bits ms
  have hL : bitsOf (Ln ms) (WW ms).length = (WW ms).map (fun x => x.2.1) := by rw [hlen]; exact L_bits ms
  have hlt : Qn ms < 2 ^ (WW ms).length := by
    have := fold_lt qd qd_lt ms 0 0 (by decide)
    rw [hlen, ← Nat.zero_add (10 * ms.length)]; exact this
  have key := plain_W (nm := nmF (ms.map fun (m : Nat) => (m : Int))) (j := j) (WW_fine ms) (WW_calm ms) (bits_at hQ) (bits_at hL) (fun i x hx => by rw [nmF_cs ms hm, List.getElem?_map, hx]; rfl) hlt (by omega)
  rw [hl]
  unfold lawDueJ
  rw [qtF_nat, ltF_nat, List.length_map]
  have e : ((WW ms).length : Int) = 10 * (ms.length : Int) := by omega
  rw [e, hlen] at key
  exact key
end Mine

end Plain7
set_option maxRecDepth 100000 in
set_option maxHeartbeats 8000000 in
theorem PySem.Challenge.cw_nq0055_01_holds : PySem.Challenge.rw_nq0055_01.Holds :=
  Mine.law_gen Mine.lawText Mine.parseS Mine.lawDueJ Mine.text_call Mine.parse_call Mine.due_call (fun _ h => Mine.text_len h) (fun ns j h hj => Mine.plainlaw ns j h hj)
