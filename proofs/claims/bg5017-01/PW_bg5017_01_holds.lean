import PyProof.Rows.All
import Wide.All
import OpenK.AllK
import Wide.FinOn
import PySem.Challenge.RW_bg5017_01
set_option Elab.async false

section
open PySem PySem.W PyProof.Rows
set_option Elab.async false
namespace Mine
set_option maxRecDepth 100000
set_option maxHeartbeats 8000000
open_top hd for PySem.Challenge.rw_bg5017_01
end Mine
end

section
open PySem PySem.Spec PySem.Calls PySem.W PyProof.Rows
set_option Elab.async false
set_option maxRecDepth 100000
namespace Mine

section
variable {prog : Program} {w : World} {A : Around} {E : Value → Shared → Prop} {s : Shared} {c P K : Addr} {ps : Array Value}

/-- the code of a generator expression: made anew, or found in the table -/
theorem gx_code {env : Env} {pos : Pos} {qualname : Str} {scope : Scope} {Q : Value → Shared → Prop} (hc : env.code = .ref c) (C : CodeHd s.heap c P) (hP : s.heap.get? P = some (tabObj ps)) (ht : TriplesOk ps.toList)
    (hQ : ∀ code h' tk ps', Heap.ExtBut P s.heap h' → s.heap.objs.size ≤ h'.objs.size → h'.get? P = some (tabObj ps') → TriplesOk ps'.toList → Q code { s with heap := h', toks := tk }) :
    wpAny (model prog w) A (genexprCode env pos qualname scope) Q E s := by
  cases hf : codeAmong pos ps.toList with
  | none =>
    refine wpAny_genexprCodeX hc (C.code hP ht) (C.tab hP) hf fun c' h' tk hx hge hlt hcode _ htab _ => ?_
    refine hQ _ h' tk _ hx (Nat.le_trans hge (Nat.le_of_lt hlt)) htab.2 ?_
    have hl : (ps ++ #[rawInt pos.line, rawInt pos.col, Value.ref c']).toList = ps.toList ++ [rawInt pos.line, rawInt pos.col, .ref c'] := by simp
    rw [hl]
    exact TriplesOk_snoc _ _ _ _ ht
  | some cv =>
    obtain ⟨o, vs, file, tf, flags, tg, inF, text, tt, op, ho, hd, h11, h2, h7, h9, h10, hop, hpd, htr, hne⟩ := C.code hP ht
    unfold genexprCode codeAt
    rw [hc, if_neg (show ¬ ((Value.ref c == Value.none) = true) from Bool.false_ne_true)]
    refine wpAny_bind (wpAny_fieldsOf ho hd ?_)
    rw [h11]
    refine wpAny_bind (wpAny_fieldsOf hop hpd ?_)
    rw [hf]
    exact wpAny_pure (hQ cv s.heap s.toks ps (Heap.ExtBut.refl _ _) (Nat.le_refl _) hP ht)

theorem any_own {a : Addr} {n : Nat} {F : Nat → Value → Prop} {Q : Value → Shared → Prop} (X : Gen prog w A K a n F s) (G : AllBare s.gens) (tr : Nat → Bool) (htr : TruthOf prog w A.in1 F tr)
    (hQ : ∀ s', AllBare s'.gens → s'.os = s.os → (∀ b o, b ≤ K → s.heap.get? b = some o → s'.heap.get? b = some o) → Q (.bool ((List.range n).any tr)) s') : wpAny (model prog w) A (call (.builtin "any") [.ref a]) Q E s := by
  obtain ⟨fp, wr, g, St, W, hst, _, _, hfp, hwr⟩ := X
  have W := W.in4_1
  exact call_any_walkS (W.self 0 _ _ _ hst ⟨a, _, _, _, _, _, _, tr, rfl, W, hst, htr, fun s' hm => hQ s' (G.movedS hm) hm.os fun b o hb e => hm.heap b o (fun hmem => Nat.lt_irrefl _ (Nat.lt_of_lt_of_le (hwr b hmem) hb)) e⟩)

theorem any_strs {a : Addr} {ts : List Str} {q : Str → Bool} {Q : Value → Shared → Prop} (X : GenOnS prog w A K a ts (fun _ => true) (fun k => .bool (q k)) s) (G : AllBare s.gens)
    (hQ : ∀ s', AllBare s'.gens → s'.os = s.os → (∀ b o, b ≤ K → s.heap.get? b = some o → s'.heap.get? b = some o) → Q (.bool (ts.any q)) s') : wpAny (model prog w) A (call (.builtin "any") [.ref a]) Q E s := by
  refine any_own X G (fun j => q (ts.getD ((passOnS ts fun _ => true).getD j 0) "")) truth_carriedS fun s' G' hos hk => ?_
  have e : (passOnS ts fun _ => true).any (fun i => q (ts.getD i "")) = ts.any q := by
    have e1 := congrArg (fun l => l.any q) (passOnS_map ts fun _ => true)
    simp only [List.any_map] at e1
    rw [List.filter_eq_self.mpr (fun _ _ => rfl)] at e1
    exact e1
  rw [any_range (passOnS ts fun _ => true) (fun i => q (ts.getD i "")), e]
  exact hQ s' G' hos hk

/-- a generator expression over a tuple of strs, whether or not its code stands in the table -/
theorem gx_tuple {env : Env} {elt iter : Expr} {x : Str} {px : Pos} {scope : Scope} {cl : List (Str × Addr)} {pos : Pos} {Q : Value → Shared → Prop}
    (hcode : env.code = .ref c) (hh : A.handled = none) (hco : scope.isCoroutine = false) (hclos : closureFor scope env = pure cl) (hcell : ∀ y ∈ scope.names, y.2 ≠ .cell) (h0 : scope.names.lookup (".0" : Str) = some NameKind.local)
    (hx : scope.names.lookup x = some .local) (hkind : scope.kind = .function) (hroom : A.depth < recursionLimit)
    (h : wpAny (model prog w) A (eval iter env) (fun xv s₁ => ∃ l vs ts ps mg bm ob, ∃ q : Str → Bool, xv = .ref l ∧ s₁.heap.IsTuple l vs.toArray ∧ StrsAre vs ts ∧ CodeHd s₁.heap c P ∧ s₁.heap.get? P = some (tabObj ps) ∧ TriplesOk ps.toList ∧
        AllBare s₁.gens ∧ s₁.heap.NoLimit ∧ BMod s₁.heap env.globals mg bm ob ∧ K < s₁.heap.objs.size ∧
        (∀ (code : Value) (C : Addr) (A' : Around) E' (a : Str) (t : Tok) (u : Shared) m₂, A'.handled = none → A'.depth ≤ A.depth + 1 → A'.units ≤ A.units + 8 → a ∈ ts → u.heap.Ns C m₂ → m₂ x = some (.str a t) →
          (∀ b o, b ≠ P → s₁.heap.get? b = some o → u.heap.get? b = some o) →
          wpAny (model prog w) A' (eval elt (genEnv scope cl C code builtinsNs env)) (fun y s₃ => y = .bool (q a) ∧ Keeps u s₃) E' u) ∧
        (∀ (a : Addr) (s₅ : Shared) ps', AllBare s₅.gens → s₅.os = s₁.os → (∀ b o, b ≠ P → s₁.heap.get? b = some o → s₅.heap.get? b = some o) → s₅.heap.get? P = some (tabObj ps') → TriplesOk ps'.toList → P ≤ K →
          GenOnS prog w A K a ts (fun _ => true) (fun k => .bool (q k)) s₅ → Q (.ref a) s₅) ∧ P ≤ K) E s)
    (hs : ∀ x, genFold iter env x = pure x) :
    wpAny (model prog w) A (eval (.GeneratorExp elt [⟨.Name x px, iter, [], 0⟩] scope pos) env) Q E s := by
  refine wpAny_GeneratorExp_walksQD hh hco hclos hcell h0 hx hkind hroom (wpAny_mono h (fun xv s₁ h₁ => ?_) fun _ _ e => e) hs
  obtain ⟨l, vs, ts, ps, mg, bm, ob, q, rfl, hl, hi, C, hP, ht, G, hlim, M, hK, hq, hQ, hPK⟩ := h₁
  have hlt : l < s₁.heap.objs.size := by obtain ⟨_, e, _⟩ := hl; exact Heap.lt_size e
  have hPlt : P < s₁.heap.objs.size := Heap.lt_size hP
  have hlP : l ≠ P := fun e => by
    obtain ⟨o, ho, hc, _⟩ := hl
    rw [e, hP] at ho; cases ho; exact absurd hc (by simp)
  refine wpAny_pyIter_tuple hl ?_
  generalize hI : s₁.heap.objs.size = I at *
  have push : ∀ b o, s₁.heap.get? b = some o → (s₁.heap.push { cls := .type "tuple_iterator", data := .fields #[.ref l, .int 0 0] }).get? b = some o := fun b o e => Heap.get?_push_of_some _ e
  refine ⟨hlim.push _, gx_code (c := c) (P := P) hcode (C.keeps push) (push _ _ hP) ht fun code h₃ tk₃ ps' hx₃ hsz hP₃ ht₃ => ?_⟩
  dsimp only at hx₃ hsz ⊢
  have hsz' : I + 1 ≤ h₃.objs.size := by rw [Heap.size_push] at hsz; omega
  have T₁ : (s₁.heap.push { cls := .type "tuple_iterator", data := .fields #[.ref l, .int 0 0] }).TableAt c P ps := (C.keeps push).tab (push _ _ hP)
  have M₃ : BMod h₃ env.globals mg bm ob := (M.keeps push).extBut T₁ hx₃
  have hcP : cStatics ≠ P := fun e => by
    obtain ⟨_, hns, _⟩ := hlim
    obtain ⟨o, es, ep, ho, hd, _⟩ := hns
    rw [e, hP] at ho; cases ho; cases hd
  have hl₃ : h₃.NoLimit := (hlim.push _).extBut hx₃ hcP
  have hcI : cStatics < I := let ⟨_, hn, _⟩ := hlim; hI ▸ hn.lt
  have old₃ : ∀ b o, b ≠ P → s₁.heap.get? b = some o → h₃.get? b = some o := fun b o hb e => hx₃ b o hb (push b o e)
  refine wpAny_builtinsFor M₃.ns M₃.name M₃.ne M₃.obj M₃.cls M₃.dict M₃.data ?_
  have hIP : I ≠ P := fun e => Nat.lt_irrefl _ (e ▸ hPlt)
  refine ⟨I, [I, l], [I], vs.toArray.size, (fun i v => vs.toArray[i]? = some v), (fun i h => h.IsTupleIter I l i ∧ h.IsTuple l vs.toArray), (fun _ => true), (fun i y => Carried y (PyData.bool (q (ts.getD i "")))), rfl,
    (fun A' hA => Walks.tuple hA _ _ (Nat.ne_of_lt hlt) vs.toArray), ?_, ?_, hl₃, (fun hm => by
      rcases List.mem_cons.mp hm with e | hb
      · exact Nat.lt_irrefl _ (e ▸ hcI)
      · cases hb), (fun href hhref => ⟨fun A' E' i v s₂ m₂ hA hD hU hv hn hm hkp => ?_, fun A' E' i v s₂ m₂ hA hD hU hv _ hn hm hkp => ?_⟩), fun a h₅ tk gs hgb hag hsz₅ hk₅ W hat => ?_⟩
  · refine ⟨⟨_, hx₃ _ _ hIP (hI ▸ Heap.get?_push_size _ rfl), rfl, rfl⟩, ?_⟩
    obtain ⟨o, ho, r⟩ := hl
    exact ⟨o, old₃ _ _ hlP ho, r⟩
  · intro b hb
    rcases List.mem_cons.mp hb with e | hb
    · rw [e]; exact hsz'
    · rcases List.mem_cons.mp hb with e | hb
      · rw [e]; exact Nat.lt_of_lt_of_le hlt (Nat.le_of_succ_le hsz')
      · cases hb
  · show wpAny _ _ (pure true) _ _ _
    exact wpAny_pure ⟨rfl, s₂.heap, s₂.toks, rfl, fun _ _ e => e⟩
  · have hv' : vs[i]? = some v := by simpa using hv
    have hlt' : i < ts.length := by rw [← hi.length]; exact (List.getElem?_eq_some_iff.mp hv').1
    obtain ⟨t, ht'⟩ := hi.get i ts[i] (List.getElem?_eq_getElem hlt')
    rw [hv'] at ht'
    have e2 : ts.getD i "" = ts[i] := by simp [List.getD_eq_getElem?_getD, hlt']
    have e3 := Option.some.inj ht'
    subst e3
    refine wpAny_mono (hq code _ A' E' ts[i] t s₂ m₂ hA hD hU (List.getElem_mem hlt') hn hm fun b o hb e => ?_) (fun y s₃ r => ⟨?_, r.2⟩) fun _ _ e => e
    · have lb : b < I := hI ▸ Heap.lt_size e
      refine hkp b (List.mem_range.mpr (Nat.lt_of_lt_of_le lb (Nat.le_of_succ_le hsz'))) (fun hm => ?_) o (hhref b o (old₃ b o hb e))
      rcases List.mem_cons.mp hm with e | hm
      · exact Nat.lt_irrefl _ (e ▸ lb)
      · cases hm
    · rw [r.1, e2]; exact .bool _
  · have e1 : vs.toArray.size = ts.length := by simp [hi.length]
    rw [e1] at W hat
    refine hQ a _ ps' (G.push hgb) rfl (fun b o hb e => hk₅ b o (old₃ b o hb e)) (hk₅ _ _ hP₃) ht₃ hPK ⟨_, _, _, _, W, hat, (fun i s' st => st.1.typeIs), List.mem_cons_self, ?_, ?_⟩
    · intro b hb
      show b < h₅.objs.size
      rw [hsz₅]
      rcases List.mem_cons.mp hb with rfl | hb
      · exact Nat.lt_succ_self _
      · rcases List.mem_cons.mp hb with rfl | hb
        · exact Nat.lt_succ_of_lt hag
        · exact Nat.lt_succ_of_lt (Nat.lt_trans (List.mem_range.mp hb) hag)
    · intro b hb
      rcases List.mem_cons.mp hb with e | hb
      · rw [e]; exact Nat.lt_of_lt_of_le hK (Nat.le_of_succ_le hsz')
      · rcases List.mem_cons.mp hb with e | hb
        · rw [e]; exact hK
        · cases hb
end
end Mine
end

section
open PySem PySem.Spec PySem.Calls PySem.W PyProof.Rows
set_option Elab.async false
set_option maxRecDepth 100000
namespace Mine

section
variable {prog : Program} {w : World} {A : Around} {E : Value → Shared → Prop} {s : Shared} {K : Frag} {x C L : Addr} {ox : Obj} {od : Option Obj} {name : Str} {expr : Bool} {Q : Value → Shared → Prop} {h₀ : Heap} {m : Str → Option Value}

/-- an attribute that the object's own dict holds; the class may have a __getattr__ -/
theorem get_here {es : List DictEntry} {n : Nat} {v : Value} {attr : Option Value} (F : Fr h₀ L s.heap m) (X₀ : K.In h₀) (I : InstAt s.heap x ox C (some (dictOf es n))) (hg : findIn K (.ref C) "__getattribute__" = some (some (.builtin "object.__getattribute__"))) (hh : hasDictIn K C = true)
    (ha : findIn K (.ref C) name = some attr) (hn : noGet K attr = true) (hl : getL name es = some (some v)) (hv : handedIn v = true) (h : Q v { s with toks := s.toks + 1 }) :
    wpAny (model prog w) A (getAttr (.ref x) name expr) Q E s :=
  get_value (X₀.keeps F.keep) I hg (findObj_own hh ha hn hl) hv h

/-- an attribute that neither the object nor its class holds: the class's own __getattr__ is asked -/
theorem get_hook {f : Addr} (X : K.In s.heap) (I : InstAt s.heap x ox C od) (hga : findIn K (.ref C) "__getattribute__" = some (some (.builtin "object.__getattribute__")))
    (hf : findObj K C od name = some .missing) (hk : findIn K (.ref C) "__getattr__" = some (some (.ref f))) (hfn : isFn K (.ref f) = true)
    (h : wpAny (model prog w) A.in1 (call (.ref f) [.ref x, .str name s.toks]) (fun v s' => wpAny (model prog w) A (handedOut v) Q E s') (fun e s' => wpAny (model prog w) A (noteIf true (.ref x) (.str name s.toks) e) (fun _ s'' => E e s'') E s') { s with toks := s.toks + 1 }) :
    wpAny (model prog w) A (getAttr (.ref x) name expr) Q E s := by
  refine get_open X I hga ?_
  obtain ⟨hh', g, d, t, os⟩ := s
  have L0 := I.type (M := model prog w)
  have L1 := looks_find (M := model prog w) X I hf
  have L2 := looks_findIn (M := model prog w) X hk
  refine wpAny_bind (wpAny_pure (wpAny_bind (L0.at (wpAny_bind (L1.at (wpAny_bind (L2.at ?_)))))))
  show wpAny _ _ (do let (g, first) ← bindSpecial (.ref f) (.ref x); let v ← call g (first ++ [.str name t]); rule "getattr.fallback"; ret v) _ _ _
  refine wpAny_bind ((bind_fn (M := model prog w) X (.ref x) (beq_iff_eq.mp hfn)).at ?_)
  exact wpAny_bind (wpAny_mono h (fun v s' z => wpAny_bind (wpAny_rule (wpAny_pure z))) fun _ _ z => z)


theorem sw_tuple {x : Str} {t : Tok} {a : Addr} {items : Array Value} {ts : List Str} (hl : s.heap.IsTuple a items) (hi : StrsAre items.toList ts) (h : Q (.bool (ts.any fun y => Txt.startswith x y)) s) :
    wpAny (model prog w) A (call (.builtin "str.startswith") [.str x t, .ref a]) Q E s := by
  refine wpAny_call_entry F.slot_str_startswith (typeIs_str _ _ _) F.entry_str_startswith ?_ (F.args_str_startswith_2 _ _)
  have hT : s.TypeIs (.ref a) "tuple" := hl.typeIs
  obtain ⟨o, ho, hc, n, hd⟩ := hl
  refine wpAny_bind (m := Builtin.Str.strSomeArgs "startswith" 1 3 _) (wpAny_pure ?_)
  refine wpAny_bind (m := Builtin.Str.searchRange _ _) (wpAny_pure ?_)
  refine wpAny_bind (wpAny_bind (wpAny_load ho ?_))
  rw [hd]
  refine wpAny_pure ?_
  refine wpAny_bind (wpAny_isInstance hT isSubtype_tuple_tuple ?_)
  simp only [if_true]
  refine wpAny_bind (wpAny_rule ?_)
  refine wpAny_bind (wpAny_seqItems ho hd ?_)
  have fin : ∀ (b : Bool) (s' : Shared), s' = s → b = (ts.any fun y => Txt.startswith x y) → wpAny (model prog w) A.in1 (ret (.bool b)) (fun fin s' => ∃ v, fin = Fin.done (Flow.ret v) ∧ Q v s') E s' := fun b s' e1 e2 => by
    subst e1; subst e2; exact wpAny_pure ⟨_, rfl, h⟩
  dsimp only
  refine wpAny_bind ?_
  rw [← Array.forIn_toList]
  refine wpAny_forIn_list _ (fun rest r s' => r.1 = none ∧ s' = s ∧ ∃ us, StrsAre rest us ∧ (us.any fun y => Txt.startswith x y) = ts.any fun y => Txt.startswith x y) _ ?_ ?_ _ _ ⟨rfl, rfl, ts, hi, rfl⟩
  · rintro v rest r s' ⟨hr, rfl, us, hu, he⟩
    cases hu with
    | cons y t hu =>
      refine wpAny_bind (wpAny_pure ?_)
      dsimp only
      have e : (decide (Int.toNat 0 + y.length ≤ min (↑x.length : Int).toNat x.length) && Builtin.Str.subAt x y (Int.toNat 0)) = Txt.startswith x y := by
        unfold Txt.startswith
        simp
      by_cases hy : Txt.startswith x y = true
      · rw [if_pos (e.trans hy)]
        refine wpAny_bind (wpAny_pure (wpAny_pure ?_))
        refine fin true _ rfl ?_
        rw [← he, List.any_cons, hy, Bool.true_or]
      · rw [if_neg (fun q => hy (e.symm.trans q))]
        refine wpAny_pure ⟨rfl, rfl, _, hu, ?_⟩
        rw [← he, List.any_cons, Bool.eq_false_iff.mpr hy, Bool.false_or]
  · rintro ⟨r1, r2⟩ s' ⟨hr, rfl, us, hu, he⟩
    simp only at hr
    subst hr
    cases hu
    exact fin false _ rfl (by rw [← he]; rfl)
end
end Mine
end

section
open PySem PySem.Builtin PySem.Spec PySem.Calls PySem.W PyProof.Rows
set_option Elab.async false
namespace Mine
theorem slice_to (x : Str) (n : Nat) : Txt.slice x none (some (n : Int)) = ⟨(x.cps.toList.take n).toArray⟩ := by
  by_cases h : n ≤ x.length
  · have hx : x.cps.toList.length = x.length := by simp [Str.length]
    have := eq_of_beq (slice_closes_to (x := x) (j := (n : Int)) ⟨by omega, by omega⟩)
    rw [this]
    simp
  · have hx : x.cps.toList.length = x.length := by simp [Str.length]
    have e : (Builtin.Str.strSliceIndices none (some (n : Int)) 1 x.length).length = x.length := by
      unfold Builtin.Str.strSliceIndices sliceRange
      simp only [show (1 : Int) > 0 by decide, if_true, List.length_map, List.length_range]
      split <;> (try split) <;> (try simp only [Int.ediv_one]) <;> omega
    unfold Txt.slice
    rw [if_pos (by rw [e]; simp), List.take_of_length_le (by omega)]
theorem str_beq_iff {a b : Str} : (a == b) = true ↔ a.cps.toList = b.cps.toList := by
  rw [beq_iff_eq]
  constructor
  · intro e; rw [e]
  · intro e; cases a; cases b; simp only [Str.mk.injEq]; exact Array.ext' e
theorem slice_sw (x y : Str) : (Txt.slice x none (some (y.length : Int)) == y) = Txt.startswith x y := by
  rw [Bool.eq_iff_iff, slice_to, str_beq_iff]
  unfold Txt.startswith
  rw [StrLaws.subAt_eq]
  have hy : y.cps.toList.length = y.length := by simp [Str.length]
  have hx : x.cps.toList.length = x.length := by simp [Str.length]
  simp only [List.drop_zero, Bool.and_eq_true, decide_eq_true_eq, beq_iff_eq, Nat.zero_add]
  constructor
  · intro e
    refine ⟨?_, e⟩
    have := congrArg List.length e
    rw [List.length_take, hy, hx] at this
    omega
  · exact fun e => e.2
theorem slice_sw' (x y : Str) : (Txt.slice x none (some (y.length : Int)) = y) = (Txt.startswith x y = true) := by
  rw [← slice_sw, beq_iff_eq]
end Mine
end

section
open PySem PySem.Spec PySem.Calls PySem.W PyProof.Rows PyProof.V
set_option Elab.async false
set_option maxRecDepth 100000
namespace Mine
theorem cs_canLay : ∀ ts : List Str, (∀ y ∈ ts, PyData.strOk y = true) → PyData.canLayAll0 (ts.map PyData.str) = true
  | [], _ => rfl
  | a :: r, h => by simp [PyData.canLayAll0, PyData.canLay0, cs_canLay r fun y hy => h y (.tail _ hy), h a (.head _)]
theorem cs_depth : ∀ ts : List Str, PyData.depthAll (ts.map PyData.str) = 0
  | [] => rfl
  | _ :: r => by simp [PyData.depthAll, PyData.depth, cs_depth r]
theorem cs_shapedL (ts : List Str) (h : ∀ y ∈ ts, PyData.strOk y = true) : SeqAt.shaped (.list (ts.map PyData.str)) = true := by
  simp [SeqAt.shaped, PyData.canLay0, PyData.depth, cs_canLay ts h, cs_depth]
theorem cs_shapedT (ts : List Str) (h : ∀ y ∈ ts, PyData.strOk y = true) : SeqAt.shaped (.tuple (ts.map PyData.str)) = true := by
  simp [SeqAt.shaped, PyData.canLay0, PyData.depth, cs_canLay ts h, cs_depth]
theorem cs_sameAll : ∀ ts us : List Str, PySem.Spec.sameAll (ts.map PyData.str) (us.map PyData.str) = decide (ts = us)
  | [], [] => by simp [PySem.Spec.sameAll]
  | [], _ :: _ => by simp [PySem.Spec.sameAll]
  | _ :: _, [] => by simp [PySem.Spec.sameAll]
  | a :: r, b :: t => by
    simp only [List.map_cons, PySem.Spec.sameAll, PySem.Spec.same, cs_sameAll r t]
    by_cases h : a = b <;> by_cases h' : r = t <;> simp [h, h']
section
variable {prog : Program} {w : World} {A : Around} {E : Value → Shared → Prop} {s : Shared} {a b : Addr} {oa ob : Obj} {na nb : Nat} {xs ys : List Value} {ts us : List Str} {Q : Value → Shared → Prop}
theorem ne_listS (ha : s.heap.get? a = some oa) (hb : s.heap.get? b = some ob) (a1 : oa.cls = .type "list") (b1 : ob.cls = .type "list") (a2 : oa.data = .seq xs.toArray na) (b2 : ob.data = .seq ys.toArray nb) (hi : StrsAre xs ts) (hj : StrsAre ys us) (ht : ∀ y ∈ ts, PyData.strOk y = true) (hus : ∀ y ∈ us, PyData.strOk y = true) (hu : A.units + 64 < cLine)
    (h : Q (.bool (!decide (ts = us))) s) : wpAny (model prog w) A (compareOp .NotEq (.ref a) (.ref b)) Q E s :=
  ne_dataH_same (reads_list_at ha a1 a2 (by simpa using hi.reads s.heap)) (reads_list_at hb b1 b2 (by simpa using hj.reads s.heap)) (cs_shapedL _ ht) (cs_shapedL _ hus) hu (SeqAt.noMix_of_shape (.list .str) rfl _ _ (list_map_has fun _ => rfl) (list_map_has fun _ => rfl)) (by
    rw [show PySem.Spec.same (.list (ts.map PyData.str)) (.list (us.map PyData.str)) = decide (ts = us) by simp only [PySem.Spec.same]; exact cs_sameAll ts us]; exact h)
theorem ne_tupS (ha : s.heap.get? a = some oa) (hb : s.heap.get? b = some ob) (a1 : oa.cls = .type "tuple") (b1 : ob.cls = .type "tuple") (a2 : oa.data = .seq xs.toArray na) (b2 : ob.data = .seq ys.toArray nb) (hi : StrsAre xs ts) (hj : StrsAre ys us) (ht : ∀ y ∈ ts, PyData.strOk y = true) (hus : ∀ y ∈ us, PyData.strOk y = true) (hu : A.units + 64 < cLine)
    (h : Q (.bool (!decide (ts = us))) s) : wpAny (model prog w) A (compareOp .NotEq (.ref a) (.ref b)) Q E s :=
  ne_dataH_same (reads_tuple_at ha a1 a2 (by simpa using hi.reads s.heap)) (reads_tuple_at hb b1 b2 (by simpa using hj.reads s.heap)) (cs_shapedT _ ht) (cs_shapedT _ hus) hu (SeqAt.noMix_of_shape (.tuples .str) rfl _ _ (tuples_map_has fun _ => rfl) (tuples_map_has fun _ => rfl)) (by
    rw [show PySem.Spec.same (.tuple (ts.map PyData.str)) (.tuple (us.map PyData.str)) = decide (ts = us) by simp only [PySem.Spec.same]; exact cs_sameAll ts us]; exact h)
theorem eq_tupS (ha : s.heap.get? a = some oa) (hb : s.heap.get? b = some ob) (a1 : oa.cls = .type "tuple") (b1 : ob.cls = .type "tuple") (a2 : oa.data = .seq xs.toArray na) (b2 : ob.data = .seq ys.toArray nb) (hi : StrsAre xs ts) (hj : StrsAre ys us) (ht : ∀ y ∈ ts, PyData.strOk y = true) (hus : ∀ y ∈ us, PyData.strOk y = true) (hu : A.units + 64 < cLine)
    (h : Q (.bool (decide (ts = us))) s) : wpAny (model prog w) A (compareOp .Eq (.ref a) (.ref b)) Q E s :=
  eq_dataH_same (reads_tuple_at ha a1 a2 (by simpa using hi.reads s.heap)) (reads_tuple_at hb b1 b2 (by simpa using hj.reads s.heap)) (cs_shapedT _ ht) (cs_shapedT _ hus) hu (SeqAt.noMix_of_shape (.tuples .str) rfl _ _ (tuples_map_has fun _ => rfl) (tuples_map_has fun _ => rfl)) (by
    rw [show PySem.Spec.same (.tuple (ts.map PyData.str)) (.tuple (us.map PyData.str)) = decide (ts = us) by simp only [PySem.Spec.same]; exact cs_sameAll ts us]; exact h)
end
end Mine
end

section
open PySem PySem.Spec PySem.Calls PySem.W PyProof.Rows PyProof.Rows.LCg PyProof.Rows.LCt
set_option Elab.async false
set_option maxRecDepth 100000
namespace Mine
section
variable {prog : Program} {w : World} {A : Around} {E : Value → Shared → Prop} {s : Shared} {h₀ : Heap} {L : Addr} {m : Str → Option Value} {env : Env}

theorem lc_rest {ct elt : Expr} {x : Str} {scope : Scope} {cl : List (Str × Addr)} {s₂ : Shared} {vs : List Value} {ts : List Str} {news : List (Addr × Obj)} {q : Str → Bool} {Fin : List Value → List (Addr × Obj) → Prop} (hi : StrsAre vs ts)
    (test : ∀ y t C m₂ (u : Shared) (E' : Value → Shared → Prop), y ∈ ts → u.heap.Ns C m₂ → m₂ x = some (.str y t) → Fr h₀ L u.heap m → News h₀ L u.heap news →
      wpAny (model prog w) A (isTrue ct (compEnvC scope cl C env) (eval ct (compEnvC scope cl C env))) (fun ok s' => ok = q y ∧ Keeps u s') E' u)
    (hel : ∀ y t C m₂ (u : Shared) (E' : Value → Shared → Prop), y ∈ ts → u.heap.Ns C m₂ → m₂ x = some (.str y t) → Fr h₀ L u.heap m → News h₀ L u.heap news →
      wpAny (model prog w) A (eval elt (compEnvC scope cl C env)) (fun v s' => v = .str y t ∧ Keeps u s') E' u)
    (fin : ∀ ys, StrsAre ys (ts.filter q) → Fin ys news) :
    ∀ (j i : Nat) (ys : List Value), i + j = vs.length → StrsAre ys ((ts.take i).filter q) →
      CompRestT prog w A h₀ L m env ct elt x scope cl s₂ (fun nw => nw = news) (fun i v => vs.toArray[i]? = some v) Fin j i ys news := by
  intro j
  induction j with
  | zero =>
    intro i ys hij hy
    have e : i = ts.length := by rw [← hi.length]; omega
    subst e
    rw [List.take_length] at hy
    exact CompRestT.zero (fin ys hy)
  | succ j ih =>
    intro i ys hij hy
    refine CompRestT.succ ?_
    intro v I oI C oC D m₂ h tk E' hv hC hx F N off ne
    have hv' : vs[i]? = some v := by simpa using hv
    have hlt : i < ts.length := by rw [← hi.length]; exact (List.getElem?_eq_some_iff.mp hv').1
    obtain ⟨t, ht⟩ := hi.get i ts[i] (List.getElem?_eq_getElem hlt)
    rw [hv'] at ht
    have e := Option.some.inj ht
    subst e
    have hmem := List.getElem_mem hlt
    have hns : h.Ns C m₂ := hC.ns (N.get (.tail _ (.head _)))
    have N0 : News h₀ L h news := fun p hp => N p (.tail _ (.tail _ (.tail _ hp)))
    have etake : ts.take (i + 1) = ts.take i ++ [ts[i]] := by rw [List.take_add_one, List.getElem?_eq_getElem hlt]; rfl
    refine wpAny_mono (test ts[i] t C m₂ { s₂ with heap := h, toks := tk } E' hmem hns hx F N0) (fun ok s' hok => ?_) fun _ _ e => e
    obtain ⟨rfl, h', tk', rfl, hk⟩ := hok
    dsimp only at hk ⊢
    have F' := F.keeps hk
    have N' : News h₀ L h' ((I, oI) :: (C, oC) :: (D, lst ys) :: news) := N.grown hk
    by_cases hq : q ts[i] = true
    · rw [if_pos hq]
      have N0' : News h₀ L h' news := fun p hp => N' p (.tail _ (.tail _ (.tail _ hp)))
      refine wpAny_mono (hel ts[i] t C m₂ { s₂ with heap := h', toks := tk' } E' hmem (hns.keeps hk) hx F' N0') (fun v s'' hv2 => ?_) fun _ _ e => e
      obtain ⟨rfl, h'', tk'', rfl, hk2⟩ := hv2
      dsimp only at hk2 ⊢
      refine ⟨h'', tk'', news, rfl, F'.keeps hk2, N'.grown hk2, off, rfl, ih (i + 1) _ (by omega) ?_⟩
      rw [etake, List.filter_append, List.filter_cons, if_pos hq, List.filter_nil]
      exact kct_snoc hy
    · rw [if_neg hq]
      refine ⟨h', tk', news, rfl, F', N', off, rfl, ih (i + 1) ys (by omega) ?_⟩
      rw [etake, List.filter_append, List.filter_cons, if_neg hq, List.filter_nil, List.append_nil]
      exact hy

/-- a list comprehension with one test over a tuple of strs -/
theorem lc_strs {ct elt iter : Expr} {x : Str} {px : Pos} {scope : Scope} {cl : List (Str × Addr)} {pos : Pos} {Q : Value → Shared → Prop} (_F₀ : Fr h₀ L s.heap m)
    (hclos : closureFor scope env = pure cl) (hcell : ∀ y ∈ scope.names, y.2 ≠ .cell) (hkind : scope.kind = .function)
    (hnames : ∀ y ∈ scope.names, y.2 = .local → scope.names.lookup y.1 = some .local) (hx : scope.names.lookup x = some .local)
    (h : wpAny (model prog w) A (eval iter env) (fun xv s₁ => ∃ a oT nT vs ts news, ∃ q : Str → Bool, xv = .ref a ∧ A.handled = none ∧ Fr h₀ L s₁.heap m ∧ News h₀ L s₁.heap news ∧ (a, oT) ∈ news ∧ oT.cls = .type "tuple" ∧ oT.data = .seq (vs : List Value).toArray nT ∧ StrsAre vs ts ∧ vs.length ≤ sizeLine ∧
      (∀ y t C m₂ (u : Shared) (E' : Value → Shared → Prop), y ∈ ts → u.heap.Ns C m₂ → m₂ x = some (.str y t) → Fr h₀ L u.heap m → News h₀ L u.heap news →
        wpAny (model prog w) A (isTrue ct (compEnvC scope cl C env) (eval ct (compEnvC scope cl C env))) (fun ok s' => ok = q y ∧ Keeps u s') E' u) ∧
      (∀ y t C m₂ (u : Shared) (E' : Value → Shared → Prop), y ∈ ts → u.heap.Ns C m₂ → m₂ x = some (.str y t) → Fr h₀ L u.heap m → News h₀ L u.heap news →
        wpAny (model prog w) A (eval elt (compEnvC scope cl C env)) (fun v s' => v = .str y t ∧ Keeps u s') E' u) ∧
      (∀ D ys h tk, Fr h₀ L h m → News h₀ L h ((D, lst ys) :: news) → StrsAre ys (ts.filter q) → Q (.ref D) { s₁ with heap := h, toks := tk })) E s)
    (hs : ∀ x, foldedSetIterable iter env x = pure x := by intro _; rfl) :
    wpAny (model prog w) A (eval (.ListComp elt [⟨.Name x px, iter, [ct], 0⟩] scope pos) env) Q E s := by
  rw [eval_ListComp]
  refine wpAny_comprehension_free (use := none) rfl hs hclos hkind hnames (wpAny_mono h (fun xv s₁ h₁ => ?_) fun _ _ e => e)
  obtain ⟨a, oT, nT, vs, ts, news, q, rfl, hh, F, N, hm, hc, hd, hi, hsz, test, hel, fin⟩ := h₁
  have hl : s₁.heap.IsTuple a vs.toArray := ⟨oT, (N _ hm).1, hc, nT, hd⟩
  have hlt : a < s₁.heap.objs.size := Heap.lt_size (N _ hm).1
  refine wpAny_pyIter_tuple hl ?_
  have up : ∀ b o, s₁.heap.get? b = some o → (s₁.heap.push { cls := .type "tuple_iterator", data := .fields #[.ref a, .int 0 0] }).get? b = some o := fun b o e => Heap.get?_push_of_some _ e
  refine block_T (S := fun nw => nw = news) (P := fun i v => vs.toArray[i]? = some v) (n := vs.toArray.size) (Fin := fun ys nw => nw = news ∧ StrsAre ys (ts.filter q)) (Walks.tuple hh s₁.heap.objs.size a (Nat.ne_of_lt hlt) vs.toArray) (by simpa using hsz) (fun i h st => by obtain ⟨o, e, _⟩ := st.1; exact ⟨o, e⟩)
    (fun i h h' o nw st e1 e2 k N' hS => ?_) hcell hkind hx ⟨⟨_, Heap.get?_push_size _ rfl, rfl, rfl⟩, ?_⟩ (fun b hb => ?_)
    (F.keeps up) (N.grown up) (Nat.ne_of_lt F.ns.lt) (next_is_new F) (fun p hp => Nat.ne_of_lt (Heap.lt_size (N p hp).1)) rfl (lc_rest hi test hel (fun ys hy => ⟨rfl, hy⟩) _ 0 [] (by simp) .nil) ?_
  · obtain ⟨⟨o1, g1, r1⟩, _⟩ := st
    subst hS
    rw [e1] at g1
    cases g1
    exact ⟨⟨_, e2, r1⟩, ⟨oT, (N' _ hm).1, hc, nT, hd⟩⟩
  · exact ⟨oT, up _ _ (N _ hm).1, hc, nT, hd⟩
  · show b < (s₁.heap.push _).objs.size
    rw [Heap.size_push]
    rcases List.mem_cons.mp hb with e | hb
    · rw [e]; exact Nat.lt_succ_self _
    · rw [List.mem_singleton.mp hb]; exact Nat.lt_succ_of_lt hlt
  · intro D C h tk m' ys news' F' N' o1 hn hC₀ hD₀ hCL hDL hCD offC hfin
    obtain ⟨rfl, hy⟩ := hfin
    refine ⟨m', hn, fun h'' hs'' => fin D ys h'' tk (F'.change hs'' hCL hC₀) (fun p hp => ?_) hy⟩
    refine ⟨hs''.extBut _ _ ?_ (N' p hp).1, (N' p hp).2⟩
    rcases List.mem_cons.mp hp with rfl | hp
    · exact Ne.symm hCD
    · exact offC p hp
end
end Mine
end

section
open PySem PySem.Spec PySem.Calls PySem.W PyProof.Rows
set_option Elab.async false
set_option maxRecDepth 100000
namespace Mine
theorem fill_here : (fun (_ : OpenLaw) (_ : Params → Frag) => True) PySem.Challenge.rw_bg5017_01 Mine.hd.heap_39 := by
  w_top off
  k_fill
  trivial

def ignV (code : Str) (taken left : List Str) : Bool :=
  if decide (code.length < 4) && taken.any (fun y => Txt.startswith y code) then false
  else left.any (fun y => Txt.startswith code y) && !(taken.any fun y => Txt.startswith code y)

theorem ign_a0 {code : Str} {taken left : List Str} (h4 : (code.length : Int) < 4) (h : (taken.any fun y => Txt.startswith y code) = true) : false = ignV code taken left := by
  unfold ignV
  rw [if_pos]
  rw [h, Bool.and_true]
  exact decide_eq_true (by omega)
theorem ign_long {code : Str} {taken left : List Str} (h4 : ¬ (code.length : Int) < 4) : ignV code taken left = (left.any (fun y => Txt.startswith code y) && !(taken.any fun y => Txt.startswith code y)) := by
  unfold ignV
  rw [if_neg]
  rw [decide_eq_false (by omega)]
  simp
theorem ign_none {code : Str} {taken left : List Str} (h : (taken.any fun y => Txt.startswith y code) = false) : ignV code taken left = (left.any (fun y => Txt.startswith code y) && !(taken.any fun y => Txt.startswith code y)) := by
  unfold ignV
  rw [if_neg]
  rw [h, Bool.and_false]
  simp
theorem ign_a1 {code : Str} {taken left : List Str} (h : ¬ (code.length : Int) < 4) (hl : (left.any fun y => Txt.startswith code y) = true) : (!(taken.any fun y => Txt.startswith code y)) = ignV code taken left := by
  rw [ign_long h, hl, Bool.true_and]
theorem ign_a2 {code : Str} {taken left : List Str} (h : ¬ (code.length : Int) < 4) (hl : (left.any fun y => Txt.startswith code y) = false) : (left.any fun y => Txt.startswith code y) = ignV code taken left := by
  rw [ign_long h, hl, Bool.false_and]
theorem ign_a3 {code : Str} {taken left : List Str} (h : (taken.any fun y => Txt.startswith y code) = false) (hl : (left.any fun y => Txt.startswith code y) = true) : (!(taken.any fun y => Txt.startswith code y)) = ignV code taken left := by
  rw [ign_none h, hl, Bool.true_and]
theorem ign_a4 {code : Str} {taken left : List Str} (h : (taken.any fun y => Txt.startswith y code) = false) (hl : (left.any fun y => Txt.startswith code y) = false) : (left.any fun y => Txt.startswith code y) = ignV code taken left := by
  rw [ign_none h, hl, Bool.false_and]
section
variable {prog : Program} {w : World} {A : Around} {E : Value → Shared → Prop} {s : Shared} {Q : Value → Shared → Prop}
theorem sw_tup {x : Str} {t : Tok} {a : Addr} {vs : List Value} {ts : List Str} {o : Obj} {n : Nat} (ho : s.heap.get? a = some o) (h1 : o.cls = .type "tuple") (h2 : o.data = .seq vs.toArray n) (hi : StrsAre vs ts) (h : Q (.bool (ts.any fun y => Txt.startswith x y)) s) :
    wpAny (model prog w) A (call (.builtin "str.startswith") [.str x t, .ref a]) Q E s := sw_tuple (items := vs.toArray) ⟨o, ho, h1, n, h2⟩ (by simpa using hi) h

end
local macro_rules | `(tactic| walk_at "getAttr ref") => `(tactic| (k_here; k_dflt (refine' get_here ?k1 ?k2 ?k3 ?k4 ?k5 ?k6 ?k7 ?k8 ?k9 ?_; (case k1 => k_asm); (case k2 => k_asm); (case k3 => k_inst); (case k4 => k_is); (case k5 => k_is); (case k6 => k_is); (case k7 => k_is); (case k8 => first | assumption | k_get); (case k9 => k_handed); k_whole)))
local macro_rules | `(tactic| walk_at "call builtin:str.startswith") => `(tactic| (k_here; (with_reducible show wpAny _ _ (call (Value.builtin "str.startswith") [Value.str _ _, Value.ref _]) _ _ _); k_dflt (refine' sw_tup ?a ?b ?c ?d ?_; (case a => exact News.get (by k_asm) (by k_mem)); (case b => assumption); (case c => assumption); (case d => assumption))))
section
variable {prog : Program} {w : World} {A A₀ : Around} {E : Value → Shared → Prop} {s : Shared} {L : Addr} {Q : Value → Shared → Prop} {h₀ base : Heap} {m mg mb : Str → Option Value} {p : Program} {loose : List Str} {mean : ExcName → Option Value} {led : List (Addr × Obj)} {ps : Array Value}

/-- what stays behind a generator's run -/
theorem fr_after {g h h₅ h' : Heap} {L P K : Addr} {m : Str → Option Value} {o' : Obj} {ps ps' : Array Value} {c : Addr} {rest : List (Addr × Obj)} (F : Fr g L h m) (N : News g L h ((c, o') :: (P, tabObj ps) :: rest)) (hc : c ≠ P) (hr : ∀ q ∈ rest, q.1 ≠ P) (lt : ∀ q ∈ ((P, tabObj ps) :: rest), q.1 < L) (hL : L ≤ K) (hcK : c ≤ K)
    (k1 : ∀ b o, b ≠ P → h.get? b = some o → h₅.get? b = some o) (kP : h₅.get? P = some (tabObj ps')) (k2 : ∀ b o, b ≤ K → h₅.get? b = some o → h'.get? b = some o) :
    Fr g L h' m ∧ News g L h' ((c, o') :: (P, tabObj ps') :: rest) := by
  have hP := N (P, tabObj ps) (.tail _ (.head _))
  have hPL : P < L := lt _ (.head _)
  refine ⟨⟨(F.ns.at' fun o e => k2 _ _ hL (k1 _ _ (Nat.ne_of_gt hPL) e)), fun b o e => ?_, F.above⟩, fun q hq => ?_⟩
  · have hb : b ≠ P := fun q => by rw [q] at e; rw [hP.2.2] at e; cases e
    exact k2 _ _ (Nat.le_trans (Nat.le_of_lt (Nat.lt_of_lt_of_le (Heap.lt_size e) F.above)) hL) (k1 _ _ hb (F.keep b o e))
  · rcases List.mem_cons.mp hq with rfl | hq
    · have z := N _ (.head _)
      exact ⟨k2 _ _ hcK (k1 _ _ hc z.1), z.2⟩
    · rcases List.mem_cons.mp hq with rfl | hq
      · exact ⟨k2 _ _ (Nat.le_trans (Nat.le_of_lt hPL) hL) kP, hP.2⟩
      · have z := N q (.tail _ (.tail _ hq))
        exact ⟨k2 _ _ (Nat.le_trans (Nat.le_of_lt (lt q (.tail _ hq))) hL) (k1 _ _ (hr q hq) z.1), z.2⟩

theorem ign_end {h₀ h : Heap} {L c : Addr} {o' : Obj} {news : List (Addr × Obj)} {s : Shared} {b b' : Bool} (hQ : News h₀ L h news → Q (.bool b') s) (N : News h₀ L h ((c, o') :: news)) (e : b = b') : Q (.bool b) s := by
  subst e
  exact hQ fun q hq => N q (.tail _ hq)

theorem ign_code {env : Env} {outer : List Env} {gd dg op dO sel ign : Addr} {nG nO : Nat} {tO : Tok} {eO : List DictEntry} {oS oI : Obj} {nS nI : Nat} {vS vI : List Value} {taken left : List Str} {code : Str} {tc : Tok}
    (B : Below A₀ base outer h₀) (F : Fr h₀ L s.heap m) (X₀ : (hd.heap_39 w.params).In h₀) (N : News h₀ L s.heap ((190, tabObj ps) :: (gd, instObj 198 dg) :: (dg, dictOf [⟨PyData.keyHash w.params "options", .str "options" tO, .ref op⟩] nG) :: (op, instObj 154 dO) :: (dO, dictOf eO nO) :: (sel, oS) :: (ign, oI) :: led))
    (T : Top p loose mean mg mb h₀) (hA : A.frames = some (env :: outer)) (hf : env.frame = some L) (hke : env.scope.kind = .function) (hh : A.handled = none) (hroom : A.depth + 5 < recursionLimit) (hun : A.units + 60 < cLine)
    (C : CodeHd h₀ 194 190) (ht : TriplesOk ps.toList) (G : AllBare s.gens)
    (hes : getL "select" eO = some (some (.ref sel))) (hne : ∀ q ∈ ((gd, instObj 198 dg) :: (dg, dictOf [⟨PyData.keyHash w.params "options", .str "options" tO, .ref op⟩] nG) :: (op, instObj 154 dO) :: (dO, dictOf eO nO) :: (sel, oS) :: (ign, oI) :: led), q.1 ≠ 190) (hei : getL "ignore" eO = some (some (.ref ign)))
    (hlc : code.length ≤ 4) (hS1 : oS.cls = .type "tuple") (hS2 : oS.data = .seq vS.toArray nS) (hS : StrsAre vS taken)
    (hI1 : oI.cls = .type "tuple") (hI2 : oI.data = .seq vI.toArray nI) (hI : StrsAre vI left)
    (hQ : ∀ ps' s', AllBare s'.gens → s'.os = s.os → Fr h₀ L s'.heap m → TriplesOk ps'.toList →
      News h₀ L s'.heap ((190, tabObj ps') :: (gd, instObj 198 dg) :: (dg, dictOf [⟨PyData.keyHash w.params "options", .str "options" tO, .ref op⟩] nG) :: (op, instObj 154 dO) :: (dO, dictOf eO nO) :: (sel, oS) :: (ign, oI) :: led) → Q (.bool (ignV code taken left)) s') :
    codeAny (model prog w) A (.call (.ref 195) ⟨[.ref gd, .str code tc], []⟩) (fun r s' => match r with | .ok (.ret v) => Q v s' | .ok _ => False | .error e => E e s') s := by
  refine' code_defC B F X₀ N T hA hf hke ?k6 ?k7 ?k8 ?k9 ?kB ?kD ?_ ?c2 ?c3 ?c4
  case k6 => k_is
  case k7 => k_is
  case k8 => omega
  case k9 => exact BindsTo.of_eq rfl
  case kB => exact rfl
  case kD => decide +kernel
  case c2 => exact rfl
  case c3 => exact rfl
  case c4 => exact rfl
  intro g' L' h' tk' cells' FG' F' N' Y' B' X' T' l1
  (have hY := CellsAre.one Y'; obtain ⟨o', hE', d1'⟩ := hY; subst hE'; clear Y')
  (try simp only [List.cons_append, List.nil_append] at N')
  (try dsimp only)
  have d1 : o'.data = .cell (some (.str code tc)) := d1'
  clear d1'
  (try k_fold)
  iterate 20 (first | (k_unfold; (try dsimp only)) | walk1 | (dsimp only; walk1))
  walk1
  refine' gx_tuple (c := 194) (P := 190) (K := L' + 1) ?hcode ?hh ?hco ?hclos ?hcell ?h0 ?hx ?hkind ?hroom ?_ ?hs
  case hcode => exact rfl
  case hh => exact hh
  case hco => exact rfl
  case hclos => exact rfl
  case hcell => decide
  case h0 => exact rfl
  case hx => exact rfl
  case hkind => exact rfl
  case hroom => show A.depth + 1 < _; omega
  case hs => intro _; with_unfolding_all rfl
  iterate 5 walk1
  have h190 : (190 : Nat) < L' := l1 _ (List.Mem.head _)
  have kP := (N' (190, tabObj ps) (by k_mem)).1
  have kS := (N' (sel, oS) (by k_mem)).1
  have kC := (N' (L' + 1, o') (by k_mem)).1
  obtain ⟨bm, ob, b1, b2, b3, b4, b5, b6⟩ := T'.bmain
  refine ⟨sel, vS, taken, ps, mg, bm, ob, fun a => Txt.startswith a code, rfl, ⟨oS, kS, hS1, nS, hS2⟩, hS, C.keeps fun b o e => F'.keep b o (FG'.keep b o e), kP, ht, G, T'.nolimit.keeps F'.keep, ⟨T'.g.keeps F'.keep, b1, b2, F'.keep _ _ b3, b4, b5, b6⟩, Heap.lt_size kC, ?elt, ?fin, Nat.le_of_lt (Nat.lt_succ_of_lt h190)⟩
  case elt =>
    intro cd C2 A' E' a t u m₂ hA' hD' hU' ha hn hm hk
    refine MethodCall_ (wpAny_Name (wpAny_loadName_local rfl rfl hn hm ?_))
    refine GM.startswith ?_
    walk1
    walk1
    refine wpAny_Name (wpAny_loadName_free rfl rfl rfl ⟨o', hk _ _ ?_ kC, d1⟩ ?_)
    · exact fun q => Nat.lt_irrefl _ (Nat.lt_trans h190 (q ▸ Nat.lt_succ_self L'))
    walk1
    refine SC.startswith ?_
    exact ⟨rfl, u.heap, u.toks, rfl, fun _ _ e => e⟩
  case fin =>
    intro a5 s5 ps5 G5 os5 k5 kP5 ht5 hPK gen5
    walk1
    refine any_strs gen5 G5 fun s6 G6 os6 k6 => ?_
    obtain ⟨F6, N6⟩ := fr_after F' N' (fun q => Nat.lt_irrefl _ (Nat.lt_trans h190 (q ▸ Nat.lt_succ_self L'))) hne l1 (Nat.le_succ L') (Nat.le_refl _) k5 kP5 k6
    have os7 : s6.os = s.os := os6.trans os5
    clear F' N' os6 os5 k6 k5 gen5 kP kS kC
    iterate 2 walk1
    all_goals repeat' (first | (k_unfold; (try dsimp only)) | walk1 | (dsimp only; walk1))
    all_goals (
      refine ign_end (hQ ps5 _ G6 os7 (by assumption) ht5) (by assumption) ?_
      (first | exact ign_a0 (by assumption) (by assumption) | exact ign_a1 (by assumption) (by assumption) | exact ign_a2 (by assumption) (by assumption) | exact ign_a3 (by assumption) (by assumption) | exact ign_a4 (by assumption) (by assumption)))
  all_goals repeat' (first | (k_unfold; (try dsimp only)) | walk1 | (dsimp only; walk1))
  all_goals (
    refine ign_end (hQ ps _ G rfl (by assumption) ht) (by assumption) ?_
    (first | exact ign_a0 (by assumption) (by assumption) | exact ign_a1 (by assumption) (by assumption) | exact ign_a2 (by assumption) (by assumption) | exact ign_a3 (by assumption) (by assumption) | exact ign_a4 (by assumption) (by assumption)))
end
end Mine
end

section
open PySem PySem.Spec PySem.Calls PySem.W PyProof.Rows
set_option Elab.async false
set_option maxRecDepth 100000
namespace Mine
theorem fill_here2 : (fun (_ : OpenLaw) (_ : Params → Frag) => True) PySem.Challenge.rw_bg5017_01 Mine.hd.heap_39 := by
  w_top off
  k_fill
  trivial
local macro_rules | `(tactic| walk_at "eval Name") => `(tactic| (k_here; (with_reducible show wpAny _ _ (eval (Expr.Name _ _) (compEnvC _ _ _ _)) _ _ _); k_dflt (refine' wpAny_Name (wpAny_loadName_local ?a ?b ?c ?d ?_); (case a => rfl); (case b => rfl); (case c => assumption); (case d => assumption))))
section
variable {prog : Program} {w : World} {A A₀ : Around} {E : Value → Shared → Prop} {s : Shared} {L : Addr} {Q : Value → Shared → Prop} {h₀ base : Heap} {m mg mb : Str → Option Value} {p : Program} {loose : List Str} {mean : ExcName → Option Value} {led : List (Addr × Obj)} {ps : Array Value}

theorem slice_keep {x : Str} {t : Tok} {value slice : PySem.Expr} {H : Heap} {j : Int} {uj : Tok} (hI : ∀ b o, H.get? b = some o → s.heap.get? b = some o) (h : ∀ h' t' k, (∀ b o, H.get? b = some o → h'.get? b = some o) → Q (.str (Txt.slice x none (some j)) t') { s with heap := h', toks := k })
    (hs : subscripted slice false (.str x t) (.ref s.heap.objs.size) = operate [.ref s.heap.objs.size, .str x t] (getItem (.str x t) (.ref s.heap.objs.size)) := by with_unfolding_all rfl)
    (ht : ∀ r, letTemporaryGo value (.str x t) r = pure () := by intro _; with_unfolding_all rfl) (hsz : x.length ≤ sizeLine := by size_fits) :
    wpAny (model prog w) A (subscriptTail value slice (.str x t) (.ref s.heap.objs.size)) Q E { s with heap := s.heap.push { cls := .type "slice", data := .fields #[.none, .int j uj, .none] } } :=
  tail_of_ItemOn (SBH.sliceItem_ns (P := fun h => ∀ b o, H.get? b = some o → h.get? b = some o) (fun h ob k b o e => Heap.get?_push_of_some _ (k b o e)) hI h hsz) hs ht

theorem beg_end {h₀ h : Heap} {L : Addr} {news all : List (Addr × Obj)} {s : Shared} {b b' : Bool} (hQ : News h₀ L h news → Q (.bool b') s) (N : News h₀ L h all) (hs : ∀ q ∈ news, q ∈ all) (e : b = b') : Q (.bool b) s := by
  subst e
  exact hQ fun q hq => N q (hs q hq)
theorem filt_any (q : Str → Bool) (ts : List Str) : (!decide (ts.filter q = [])) = ts.any q := by
  induction ts with
  | nil => rfl
  | cons y r ih =>
    rw [List.filter_cons, List.any_cons]
    by_cases h : q y = true
    · simp [h]
    · rw [if_neg h, ih, Bool.eq_false_iff.mpr h, Bool.false_or]

theorem beg_call {env : Env} {outer : List Env} {a : Addr} {oT : Obj} {nT : Nat} {vT : List Value} {ts : List Str} {word : Str} {tc : Tok}
    (B : Below A₀ base outer h₀) (F : Fr h₀ L s.heap m) (X₀ : (hd.heap_39 w.params).In h₀) (N : News h₀ L s.heap ((a, oT) :: led))
    (T : Top p loose mean mg mb h₀) (hA : A.frames = some (env :: outer)) (hf : env.frame = some L) (hke : env.scope.kind = .function) (hh : A.handled = none) (hroom : A.depth + 5 < recursionLimit) (hun : A.units + 200 < cLine)
    (hlc : word.length ≤ 4) (hS1 : oT.cls = .type "tuple") (hS2 : oT.data = .seq vT.toArray nT) (hS : StrsAre vT ts) (hsz : ∀ y ∈ ts, y.length ≤ 100) (hok : ∀ y ∈ ts, PyData.strOk y = true) (hln : ts.length ≤ 100)
    (hQ : ∀ h' tk', Fr h₀ L h' m → News h₀ L h' ((a, oT) :: led) → Q (.bool (ts.any fun y => Txt.startswith word y)) { s with heap := h', toks := tk' }) :
    wpAny (model prog w) A (call (.ref 214) [.str word tc, .ref a]) Q E s := by
  refine wpAny_call ?_
  refine' code_defC B F X₀ N T hA hf hke ?k6 ?k7 ?k8 ?k9 ?kB ?kD ?_ ?c2 ?c3 ?c4
  case k6 => k_is
  case k7 => k_is
  case k8 => omega
  case k9 => exact BindsTo.of_eq rfl
  case kB => exact rfl
  case kD => decide +kernel
  case c2 => exact rfl
  case c3 => exact rfl
  case c4 => exact rfl
  intro g' L' h' tk' cells' FG' F' N' Y' B' X' T' l1
  (have hY := CellsAre.one Y'; obtain ⟨o', hE', d1'⟩ := hY; subst hE'; clear Y')
  (try simp only [List.cons_append, List.nil_append] at N')
  (try dsimp only)
  have d1 : o'.data = .cell (some (.str word tc)) := d1'
  clear d1'
  (try k_fold)
  iterate 3 (first | (k_unfold; (try dsimp only)) | walk1 | (dsimp only; walk1))
  refine' lc_strs F' ?hclos ?hcell ?hkind ?hnames ?hx ?_ ?hs
  case hclos => exact rfl
  case hcell => decide
  case hkind => exact rfl
  case hnames => decide
  case hx => exact rfl
  case hs => intro _; with_unfolding_all rfl
  iterate 1 walk1
  refine ⟨a, oT, nT, vT, ts, _, fun y => Txt.startswith word y, rfl, hh, F', N', .tail _ (.head _), hS1, hS2, hS, ?hsz, ?test, ?elt, ?fin⟩
  case hsz => rw [hS.length]; exact Nat.le_trans hln (by decide)
  case elt =>
    intro y t C m₂ u E' hy hn hm Fu Nu
    refine wpAny_Name (wpAny_loadName_local rfl rfl hn hm ?_)
    exact ⟨rfl, u.heap, u.toks, rfl, fun _ _ e => e⟩
  case test =>
    intro y t C m₂ u E' hy hn hm Fu Nu
    have hly := hsz _ hy
    iterate 14 (first | (k_unfold; (try dsimp only)) | walk1 | (dsimp only; walk1))
    refine slice_keep (H := u.heap) (fun _ _ e => e) (fun h2 t2 k2 hk2 => ?_) ?_ ?_ ?_
    · have Fu2 := Fu.keeps hk2
      have Nu2 := Nu.grown hk2
      have hn2 := hn.keeps hk2
      clear Fu Nu hn F' N'
      iterate 3 (first | (k_unfold; (try dsimp only)) | walk1 | (dsimp only; walk1))
      exact ⟨slice_sw word y, h2, k2, rfl, hk2⟩
    · with_unfolding_all rfl
    · intro _; with_unfolding_all rfl
    · exact Nat.le_trans hlc (by decide)
  case fin =>
    intro D ys h3 tk3 F3 N3 hys
    clear F' N'
    iterate 3 (first | (k_unfold; (try dsimp only)) | walk1 | (dsimp only; walk1))
    refine ne_listS (oa := LCg.lst ys) (xs := ys) (ys := []) (us := []) (News.get (by k_asm) (by k_mem)) (News.get (by k_asm) (by k_mem)) rfl rfl rfl rfl hys .nil (fun y hy => hok y ((List.mem_filter.mp hy).1)) (fun y hy => nomatch hy) (by show A.units + 3 + 64 < _; omega) ?_
    walk1
    refine beg_end (hQ _ _ (by assumption)) (by assumption) ?_ ?_
    · intro q hq
      exact .tail _ (.tail _ (.tail _ hq))
    · exact filt_any _ _
end
end Mine
end

section
open PySem PySem.Spec PySem.Calls PySem.W PyProof.Rows
set_option Elab.async false
set_option maxRecDepth 100000
namespace Mine
local macro_rules | `(tactic| walk_at "NO SUCH NODE") => `(tactic| fail)
local macro_rules | `(tactic| walk_at "NO SUCH NODE") => `(tactic| fail)
theorem fill_here3 : (fun (_ : OpenLaw) (_ : Params → Frag) => True) PySem.Challenge.rw_bg5017_01 Mine.hd.heap_39 := by
  w_top off
  k_fill
  trivial
def outV (code : Str) (taken left : List Str) : Bool :=
  if decide (code.length < 4) && taken.any (fun y => Txt.startswith y code) then false
  else if taken ≠ [] then !(taken.any fun y => Txt.startswith code y)
  else left.any fun y => Txt.startswith code y
local macro_rules | `(tactic| walk_at "eval Name") => `(tactic| (k_here; (with_reducible show wpAny _ _ (eval (Expr.Name _ _) (compEnvC _ _ _ _)) _ _ _); k_dflt (refine' wpAny_Name (wpAny_loadName_local ?a ?b ?c ?d ?_); (case a => rfl); (case b => rfl); (case c => assumption); (case d => assumption))))
theorem out_a0 {code : Str} {taken left : List Str} (h4 : (code.length : Int) < 4) (h : (taken.any fun y => Txt.startswith y code) = true) : false = outV code taken left := by
  unfold outV
  rw [if_pos]
  rw [h, Bool.and_true]
  exact decide_eq_true (by omega)
theorem out_s1 {code : Str} {taken : List Str} (h4 : ¬ (code.length : Int) < 4) : ¬ (decide (code.length < 4) && taken.any (fun y => Txt.startswith y code)) = true := by
  rw [decide_eq_false (by omega)]
  simp
theorem out_s2 {code : Str} {taken : List Str} (h : (taken.any fun y => Txt.startswith y code) = false) : ¬ (decide (code.length < 4) && taken.any (fun y => Txt.startswith y code)) = true := by
  rw [h]
  simp
theorem out_a1 {code : Str} {taken left : List Str} (h : ¬ (decide (code.length < 4) && taken.any (fun y => Txt.startswith y code)) = true) (he : decide (taken = []) = true) : (left.any fun y => Txt.startswith code y) = outV code taken left := by
  unfold outV
  rw [if_neg h, if_neg (fun q => q (of_decide_eq_true he))]
theorem out_a2 {code : Str} {taken left : List Str} (h : ¬ (decide (code.length < 4) && taken.any (fun y => Txt.startswith y code)) = true) (he : decide (taken = []) = false) : (!(taken.any fun y => Txt.startswith code y)) = outV code taken left := by
  unfold outV
  rw [if_neg h, if_pos (of_decide_eq_false he)]
theorem deeper_frames {A : Around} {e : Env} {outer : List Env} (h : A.frames = some outer) : (A.deeper e).frames = some (e :: outer) := by
  show A.frames.map (e :: ·) = _
  rw [h]
  rfl
section
variable {prog : Program} {w : World} {A A₀ : Around} {E : Value → Shared → Prop} {s : Shared} {L : Addr} {Q : Value → Shared → Prop} {h₀ base : Heap} {m mg mb : Str → Option Value} {p : Program} {loose : List Str} {mean : ExcName → Option Value} {led : List (Addr × Obj)}
theorem beg_callL {env : Env} {outer : List Env} {a : Addr} {oT : Obj} {nT : Nat} {vT : List Value} {ts : List Str} {word : Str} {tc : Tok}
    (B : Below A₀ base outer h₀) (F : Fr h₀ L s.heap m) (X₀ : (hd.heap_39 w.params).In h₀) (N : News h₀ L s.heap led)
    (T : Top p loose mean mg mb h₀) (hA : A.frames = some (env :: outer)) (hf : env.frame = some L) (hke : env.scope.kind = .function) (hh : A.handled = none) (hroom : A.depth + 5 < recursionLimit) (hun : A.units + 200 < cLine)
    (hm : (a, oT) ∈ led) (hlc : word.length ≤ 4) (hS1 : oT.cls = .type "tuple") (hS2 : oT.data = .seq vT.toArray nT) (hS : StrsAre vT ts) (hsz : ∀ y ∈ ts, y.length ≤ 100) (hok : ∀ y ∈ ts, PyData.strOk y = true) (hln : ts.length ≤ 100)
    (hQ : ∀ h' tk', Fr h₀ L h' m → News h₀ L h' led → Q (.bool (ts.any fun y => Txt.startswith word y)) { s with heap := h', toks := tk' }) :
    wpAny (model prog w) A (call (.ref 214) [.str word tc, .ref a]) Q E s :=
  beg_call (led := led) B F X₀ (fun q hq => (List.mem_cons.mp hq).elim (fun e => e ▸ N _ hm) (N q)) T hA hf hke hh hroom hun hlc hS1 hS2 hS hsz hok hln fun h' tk' F' N' => hQ h' tk' F' fun q hq => N' q (.tail _ hq)
end
local macro_rules | `(tactic| walk_at "call ref") => `(tactic| (k_here; (with_reducible show wpAny _ _ (call (Value.ref 214) _) _ _ _); k_dflt (refine' beg_callL ?B ?F ?X ?N ?T ?hA ?hf ?hke ?hh ?hroom ?hun ?hm ?hlc ?h1 ?h2 ?hS ?hsz ?hok ?hln ?_; (case B => k_asm); (case F => k_asm); (case X => k_asm); (case N => k_asm); (case T => k_asm); (case hA => exact deeper_frames (by assumption)); (case hf => exact rfl); (case hke => exact rfl); (case hh => assumption); (case hroom => simp only [depth_deeper]; omega); (case hun => simp only [units_deeper]; omega); (case hm => k_mem); (case hlc => assumption); (case h1 => assumption); (case h2 => assumption); (case hS => assumption); (case hsz => assumption); (case hok => assumption); (case hln => assumption)); intro h9 tk9 F9 N9; (try dsimp only)))
local macro_rules | `(tactic| walk_at "compareOp NotEq ref ref") => `(tactic| (k_here; (with_reducible show wpAny _ _ (compareOp CmpOp.NotEq (Value.ref _) (Value.ref _)) _ _ _); k_dflt (refine' ne_tupS ?ha ?hb ?a1 ?b1 ?a2 ?b2 ?hi ?hj ?ht ?hus ?hu ?_; (case ha => exact News.get (by k_asm) (by k_mem)); (case hb => exact News.get (by k_asm) (by k_mem)); (case a1 => first | assumption | exact rfl); (case b1 => first | assumption | exact rfl); (case a2 => first | assumption | exact rfl); (case b2 => first | assumption | exact rfl); (case hi => first | assumption | exact StrsAre.nil); (case hj => first | assumption | exact StrsAre.nil); (case ht => first | assumption | exact fun y hy => nomatch hy); (case hus => first | assumption | exact fun y hy => nomatch hy); (case hu => simp only [units_deeper]; omega); k_whole)))
section
variable {prog : Program} {w : World} {A A₀ : Around} {E : Value → Shared → Prop} {s : Shared} {L : Addr} {Q : Value → Shared → Prop} {h₀ base : Heap} {m mg mb : Str → Option Value} {p : Program} {loose : List Str} {mean : ExcName → Option Value} {led : List (Addr × Obj)}

theorem out_call {env : Env} {outer : List Env} {a b : Addr} {oT oU : Obj} {nT nU : Nat} {vT vU : List Value} {ts us : List Str} {code : Str} {tc : Tok}
    (B : Below A₀ base outer h₀) (F : Fr h₀ L s.heap m) (X₀ : (hd.heap_39 w.params).In h₀) (N : News h₀ L s.heap ((a, oT) :: (b, oU) :: led))
    (T : Top p loose mean mg mb h₀) (hA : A.frames = some (env :: outer)) (hf : env.frame = some L) (hke : env.scope.kind = .function) (hh : A.handled = none) (hroom : A.depth + 10 < recursionLimit) (hun : A.units + 300 < cLine)
    (hlc : code.length ≤ 4) (hok : PyData.strOk code = true) (hS1 : oT.cls = .type "tuple") (hS2 : oT.data = .seq vT.toArray nT) (hS : StrsAre vT ts) (hsz : ∀ y ∈ ts, y.length ≤ 100) (hok1 : ∀ y ∈ ts, PyData.strOk y = true) (hln : ts.length ≤ 100)
    (hU1 : oU.cls = .type "tuple") (hU2 : oU.data = .seq vU.toArray nU) (hU : StrsAre vU us) (hszU : ∀ y ∈ us, y.length ≤ 100) (hokU : ∀ y ∈ us, PyData.strOk y = true) (hlnU : us.length ≤ 100)
    (hQ : ∀ h' tk', Fr h₀ L h' m → News h₀ L h' ((a, oT) :: (b, oU) :: led) → Q (.bool (outV code ts us)) { s with heap := h', toks := tk' }) :
    wpAny (model prog w) A (call (.ref 219) [.str code tc, .ref a, .ref b]) Q E s := by
  refine wpAny_call ?_
  refine' code_defC B F X₀ N T hA hf hke ?k6 ?k7 ?k8 ?k9 ?kB ?kD ?_ ?c2 ?c3 ?c4
  case k6 => k_is
  case k7 => k_is
  case k8 => omega
  case k9 => exact BindsTo.of_eq rfl
  case kB => exact rfl
  case kD => decide +kernel
  case c2 => exact rfl
  case c3 => exact rfl
  case c4 => exact rfl
  intro g' L' h' tk' cells' FG' F' N' Y' B' X' T' l1
  (have hY := CellsAre.one Y'; obtain ⟨o', hE', d1'⟩ := hY; subst hE'; clear Y')
  (try simp only [List.cons_append, List.nil_append] at N')
  (try dsimp only)
  have d1 : o'.data = .cell (some (.str code tc)) := d1'
  clear d1'
  (try k_fold)
  iterate 17 (first | (k_unfold; (try dsimp only)) | walk1 | (dsimp only; walk1))
  · refine' lc_strs F' ?hclos ?hcell ?hkind ?hnames ?hx ?_ ?hs
    case hclos => exact rfl
    case hcell => decide
    case hkind => exact rfl
    case hnames => decide
    case hx => exact rfl
    case hs => intro _; with_unfolding_all rfl
    iterate 1 walk1
    refine ⟨a, oT, nT, vT, ts, _, fun y => Txt.startswith y code, rfl, hh, F', N', .tail _ (.head _), hS1, hS2, hS, ?hsz, ?test, ?elt, ?fin⟩
    case hsz => rw [hS.length]; exact Nat.le_trans hln (by decide)
    case elt =>
      intro y t C m₂ u E' hy hn hm Fu Nu
      refine wpAny_Name (wpAny_loadName_local rfl rfl hn hm ?_)
      exact ⟨rfl, u.heap, u.toks, rfl, fun _ _ e => e⟩
    case test =>
      intro y t C m₂ u E' hy hn hm Fu Nu
      have hly := hsz _ hy
      iterate 14 (first | (k_unfold; (try dsimp only)) | walk1 | (dsimp only; walk1))
      refine slice_keep (H := u.heap) (fun _ _ e => e) (fun h2 t2 k2 hk2 => ?_) ?_ ?_ ?_
      · have Fu2 := Fu.keeps hk2
        have Nu2 := Nu.grown hk2
        have hn2 := hn.keeps hk2
        clear Fu Nu hn F' N'
        iterate 3 (first | (k_unfold; (try dsimp only)) | walk1 | (dsimp only; walk1))
        exact ⟨slice_sw y code, h2, k2, rfl, hk2⟩
      · with_unfolding_all rfl
      · intro _; with_unfolding_all rfl
      · exact Nat.le_trans hly (by decide)
    case fin =>
      intro D ys h3 tk3 F3 N3 hys
      clear F' N'
      iterate 3 (first | (k_unfold; (try dsimp only)) | walk1 | (dsimp only; walk1))
      refine ne_listS (oa := LCg.lst ys) (xs := ys) (ys := []) (us := []) (News.get (by k_asm) (by k_mem)) (News.get (by k_asm) (by k_mem)) rfl rfl rfl rfl hys .nil (fun y hy => hok1 y (List.mem_filter.mp hy).1) (fun y hy => nomatch hy) (by show A.units + 3 + 64 < _; omega) ?_
      rw [filt_any]
      repeat' (first | (k_unfold; (try dsimp only)) | walk1 | (dsimp only; walk1))
      all_goals (
        refine beg_end (hQ _ _ (by assumption)) (by assumption) ?_ ?_
        · intro q hq
          repeat (first | exact hq | refine List.Mem.tail _ ?_)
        · first | exact out_a0 (by assumption) (by assumption) | exact out_a1 (out_s2 (by assumption)) (by assumption) | exact out_a2 (out_s2 (by assumption)) (by assumption))
  · repeat' (first | (k_unfold; (try dsimp only)) | walk1 | (dsimp only; walk1))
    all_goals (
      refine beg_end (hQ _ _ (by assumption)) (by assumption) ?_ ?_
      · intro q hq
        repeat (first | exact hq | refine List.Mem.tail _ ?_)
      · first | exact out_a1 (out_s1 (by assumption)) (by assumption) | exact out_a2 (out_s1 (by assumption)) (by assumption))
end
end Mine
end

section
open PySem PySem.Spec PySem.Calls PySem.W PyProof.Rows
set_option Elab.async false
set_option maxRecDepth 100000
namespace Mine
theorem fill_here4 : (fun (_ : OpenLaw) (_ : Params → Frag) => True) PySem.Challenge.rw_bg5017_01 Mine.hd.heap_39 := by
  w_top off
  k_fill
  trivial
local macro_rules | `(tactic| k_all) => `(tactic| assumption)
section
variable {prog : Program} {w : World} {A A₀ : Around} {E : Value → Shared → Prop} {s : Shared} {L : Addr} {Q : Value → Shared → Prop} {h₀ base : Heap} {m mg mb : Str → Option Value} {p : Program} {loose : List Str} {mean : ExcName → Option Value} {led : List (Addr × Obj)}

abbrev stObj (sl : Addr) (i : Int) (t1 : Tok) (v : Int) (t2 : Tok) (k : Nat) : Obj := W.listOf #[Value.ref sl, Value.int i t1, Value.int v t2] k

theorem next_call {env : Env} {outer : List Env} {st sl : Addr} {i v many : Int} {t1 t2 tm : Tok} {k k2 : Nat} {vs : List Value} {ns : List Int}
    (B : Below A₀ base outer h₀) (F : Fr h₀ L s.heap m) (X₀ : (hd.heap_39 w.params).In h₀) (N : News h₀ L s.heap ((st, stObj sl i t1 v t2 k) :: (sl, W.listOf vs.toArray k2) :: led))
    (T : Top p loose mean mg mb h₀) (hA : A.frames = some (env :: outer)) (hf : env.frame = some L) (hke : env.scope.kind = .function) (hh : A.handled = none) (hroom : A.depth + 10 < recursionLimit) (hun : A.units + 300 < cLine)
    (hnl : ∀ q ∈ ((sl, W.listOf vs.toArray k2) :: led), q.1 ≠ st) (hi : IntsAre vs ns) (hln : ns.length ≤ 12) (hi0 : 0 ≤ i) (hi1 : i ≤ 12) (hv0 : 0 ≤ v) (hv1 : v < 2147483647) (hm0 : 0 < many) (hm1 : many ≤ 16)
    (hQ : ∀ h' tk' r t i' t1' v' t2' k', Fr h₀ L h' m → News h₀ L h' ((st, stObj sl i' t1' v' t2' k') :: (sl, W.listOf vs.toArray k2) :: led) → 0 ≤ r → r < many → 0 ≤ i' → i' ≤ 12 → 0 ≤ v' → v' < 2147483647 → Q (.int r t) { s with heap := h', toks := tk' }) :
    wpAny (model prog w) A (call (.ref 209) [.ref st, .int many tm]) Q E s := by
  refine wpAny_call ?_
  refine' code_def B F X₀ N T hA hf hke ?k6 ?k7 ?k8 ?k9 ?kB ?_ ?c2 ?c3 ?c4 ?c5
  case k6 => k_is
  case k7 => k_is
  case k8 => omega
  case k9 => exact BindsTo.of_eq rfl
  case kB => exact locs rfl
  case c2 => exact rfl
  case c3 => exact rfl
  case c4 => exact rfl
  case c5 => decide
  intro g' L' h' FG' F' N' B' X' T'
  (try dsimp only)
  (try k_fold)
  repeat' (first | (k_unfold; (try dsimp only)) | walk1 | (dsimp only; walk1))
  · refine hQ _ _ _ _ (i + 1) _ _ _ _ (by assumption) (by assumption) ?_ ?_ ?_ ?_ ?_ ?_
    · exact fmod_lo _ hm0
    · exact fmod_hi _ hm0
    · omega
    · omega
    · exact fmod_lo _ (by decide)
    · exact fmod_hi _ (by decide)
  · refine hQ _ _ _ _ i _ _ _ _ (by assumption) (by assumption) ?_ ?_ ?_ ?_ ?_ ?_
    · exact fmod_lo _ hm0
    · exact fmod_hi _ hm0
    · omega
    · omega
    · exact fmod_lo _ (by decide)
    · exact fmod_hi _ (by decide)
end
end Mine
end

section
open PySem PySem.Spec PySem.Calls PySem.W PyProof.Rows
set_option Elab.async false
set_option maxRecDepth 100000
namespace Mine
section
variable {prog : Program} {w : World} {A A₀ : Around} {E : Value → Shared → Prop} {s : Shared} {L : Addr} {Q : Value → Shared → Prop} {h₀ base : Heap} {m mg mb : Str → Option Value} {p : Program} {loose : List Str} {mean : ExcName → Option Value} {news : List (Addr × Obj)} {g : Obj → List (Addr × Obj)}
theorem next_callU {env : Env} {outer : List Env} {st sl : Addr} {i v many : Int} {t1 t2 tm : Tok} {k k2 : Nat} {vs : List Value} {ns : List Int}
    (B : Below A₀ base outer h₀) (F : Fr h₀ L s.heap m) (X₀ : (hd.heap_39 w.params).In h₀) (N : News h₀ L s.heap news)
    (T : Top p loose mean mg mb h₀) (hA : A.frames = some (env :: outer)) (hf : env.frame = some L) (hke : env.scope.kind = .function) (hh : A.handled = none) (hroom : A.depth + 10 < recursionLimit) (hun : A.units + 300 < cLine)
    (U : UpdF st (stObj sl i t1 v t2 k) news g) (hm : (sl, W.listOf vs.toArray k2) ∈ news) (hi : IntsAre vs ns) (hln : ns.length ≤ 12) (hi0 : 0 ≤ i) (hi1 : i ≤ 12) (hv0 : 0 ≤ v) (hv1 : v < 2147483647) (hm0 : 0 < many) (hm1 : many ≤ 16)
    (hQ : ∀ h' tk' r t i' t1' v' t2' k', Fr h₀ L h' m → News h₀ L h' (g (stObj sl i' t1' v' t2' k')) → 0 ≤ r → r < many → 0 ≤ i' → i' ≤ 12 → 0 ≤ v' → v' < 2147483647 → Q (.int r t) { s with heap := h', toks := tk' }) :
    wpAny (model prog w) A (call (.ref 209) [.ref st, .int many tm]) Q E s := by
  obtain ⟨own, rest, rfl, hg, h1, h2⟩ := U.split
  have hsl : sl ≠ st := by
    rcases List.mem_append.mp hm with q | q
    · exact h1 _ q
    · rcases List.mem_cons.mp q with q | q
      · have e2 := congrArg Prod.snd q
        have e3 : vs.toArray = #[Value.ref sl, Value.int i t1, Value.int v t2] := by
          have e4 := congrArg Obj.data e2
          dsimp only at e4
          injection e4
        have e5 : vs = [Value.ref sl, Value.int i t1, Value.int v t2] := by
          have := congrArg Array.toList e3
          simpa using this
        subst e5
        cases hi
      · exact h2 _ q
  refine next_call (led := own ++ rest) (sl := sl) (t1 := t1) (t2 := t2) (k := k) (k2 := k2) B F X₀ (fun q hq => ?_) T hA hf hke hh hroom hun (fun q hq => ?_) hi hln hi0 hi1 hv0 hv1 hm0 hm1 fun h' tk' r t i' t1' v' t2' k' F' N' r0 r1 a0 a1 b0 b1 => hQ h' tk' r t i' t1' v' t2' k' F' (fun q hq => ?_) r0 r1 a0 a1 b0 b1
  · rcases List.mem_cons.mp hq with rfl | hq
    · exact N _ (List.mem_append_right _ (.head _))
    · rcases List.mem_cons.mp hq with rfl | hq
      · exact N _ hm
      · rcases List.mem_append.mp hq with hq | hq
        · exact N _ (List.mem_append_left _ hq)
        · exact N _ (List.mem_append_right _ (.tail _ hq))
  · rcases List.mem_cons.mp hq with rfl | hq
    · exact hsl
    · rcases List.mem_append.mp hq with hq | hq
      · exact h1 _ hq
      · exact h2 _ hq
  · rw [hg] at hq
    rcases List.mem_append.mp hq with hq | hq
    · exact N' _ (.tail _ (.tail _ (List.mem_append_left _ hq)))
    · rcases List.mem_cons.mp hq with rfl | hq
      · exact N' _ (.head _)
      · exact N' _ (.tail _ (.tail _ (List.mem_append_right _ hq)))

/-- an item of a list of the ledger at a place that is not written -/
theorem menu {value slice : PySem.Expr} {l : Addr} {vs : List Value} {n : Nat} {r : Int} {u : Tok} (N : News h₀ L s.heap news) (hm : (l, W.listOf vs.toArray n) ∈ news) (h0 : 0 ≤ r) (h1 : r < vs.length) (hfit : r < 2 ^ 63) (h : ∀ v, v ∈ vs → Q v s)
    (hs : subscripted slice false (.ref l) (.int r u) = operate [.ref l, .int r u] (getItem (.ref l) (.int r u)) := by with_unfolding_all rfl) :
    wpAny (model prog w) A (subscriptTail value slice (.ref l) (.int r u)) Q E s := by
  have hl : s.heap.IsList l vs.toArray := ⟨_, (N _ hm).1, rfl, n, rfl⟩
  have hlt : r.toNat < vs.length := by omega
  exact tail_any hl.typeIs slot_list_getitem.lookup (wpAny_getItem_list hl h0 hfit (x := vs[r.toNat]) (by simp [hlt]) (h _ (List.getElem_mem hlt))) hs

/-- what was handed over for a menu's item: nothing, or a tuple or list of texts -/
def SelAt (v : Value) (a : Addr) (o : Obj) (ts : List Str) : Prop :=
  (v = .none ∧ ts = []) ∨ (v = .ref a ∧ (o.cls = .type "tuple" ∨ o.cls = .type "list") ∧ ∃ n, ∃ vs : List Value, o.data = .seq vs.toArray n ∧ StrsAre vs ts)
def TxtsOk (ts : List Str) : Prop := (∀ y ∈ ts, y.length ≤ 100) ∧ (∀ y ∈ ts, PyData.strOk y = true) ∧ ts.length ≤ 100
theorem sel_cut {G : Prop} {v : Value} {h : Heap} {big : List (Addr × Obj)} (k : Nat) (N : News h₀ L h big) (hex : ∃ a o ts, SelAt v a o ts ∧ TxtsOk ts ∧ (a, o) ∈ big ∧ AllLt a (big.drop k))
    (key : ∀ a o ts, SelAt v a o ts → TxtsOk ts → AllLt a (big.drop k) → News h₀ L h ((a, o) :: big.drop k) → G) : G := by
  obtain ⟨a, o, ts, h1, h2, h3, h4⟩ := hex
  exact key a o ts h1 h2 h4 fun q hq => (List.mem_cons.mp hq).elim (fun e => e ▸ N _ h3) fun m => N _ (List.mem_of_mem_drop m)
theorem sel_ex {a : Addr} {o : Obj} {ts : List Str} {n : Nat} {vs : List Value} {big small : List (Addr × Obj)} (mm : (a, o) ∈ big) (c : o.cls = .type "tuple" ∨ o.cls = .type "list") (d : o.data = .seq vs.toArray n) (s : StrsAre vs ts) (ok : TxtsOk ts) (lt : AllLt a small) :
    ∃ a' o ts, SelAt (.ref a) a' o ts ∧ TxtsOk ts ∧ (a', o) ∈ big ∧ AllLt a' small := ⟨a, o, ts, .inr ⟨rfl, c, n, vs, d, s⟩, ok, mm, lt⟩
end
end Mine
end

section
open PySem PySem.Spec PySem.Calls PySem.W PyProof.Rows
set_option Elab.async false
set_option maxRecDepth 100000
namespace Mine
section
variable {prog : Program} {w : World} {A A₀ : Around} {s : Shared} {K : Frag} {L : Addr} {h₀ base : Heap} {m mg mb : Str → Option Value} {news : List (Addr × Obj)} {p : Program} {loose : List Str} {mean : ExcName → Option Value}
/-- a def with **more is entered: its dict is written out on the ledger, whatever the values are -/
theorem enter_more {env : Env} {outer : List Env} {R : Result → Shared → Prop} {name qual : Str} {params : Arguments} {body : List Stmt} {scope : Scope} {dV kV doc pm cdv ct oc : Value} {an od : Option Addr} {osl : Array (Option Value)} {f : Addr} {args : Args} {nm : Str} {ex front : List (Str × Value)} {g₁ : Addr → Sem (List (Str × Value))}
    (B : Below A₀ base outer h₀) (F : Fr h₀ L s.heap m) (X₀ : K.In h₀) (N : News h₀ L s.heap news) (T : Top p loose mean mg mb h₀) (hA : A.frames = some (env :: outer)) (hf : env.frame = some L) (hke : env.scope.kind = .function)
    (ho : K.lookup f = some ⟨oc, od, .func (fnOf name qual params body scope dV kV doc pm an cdv ct), osl⟩) (hcd : codeIn K cdv qual = true) (hroom : A.depth < recursionLimit)
    (hx0 : args.kw.filter (fun x => !ownKw params x.1) = ex) (hnm0 : params.kwarg.map (·.arg) = some nm) (hn : kwDistinct ex = true)
    (hfr0 : peek K ⟨prog, w.params⟩ (bindArgs (fnCut (fnOf name qual params body scope dV kV doc pm an cdv ct)) (argsCut params args)) = some front)
    (hp : peekA K ⟨prog, w.params⟩ (bindArgs (fnOf name qual params body scope dV kV doc pm an cdv ct) args) = some (dictOf [] 0, g₁))
    (hk₁ : ∀ D, g₁ D = (forIn ex PUnit.unit (fun x _ => (nsSet D x.1 x.2 >>= fun _ => pure (ForInStep.yield PUnit.unit))) >>= fun _ => pure (front ++ [(nm, Value.ref D)])))
    (hloc : ∀ D, ∀ y ∈ front ++ [(nm, Value.ref D)], scope.names.lookup y.1 = some .local)
    (h : ∀ D t g L' h₁ tk, (∀ p ∈ news, p.1 < D) → Fr h₀ L g m → Fr g L' h₁ (fun y => (front ++ [(nm, Value.ref D)]).reverse.lookup y) → News g L' h₁ ((D, dictOf (kwEs w.params t ex) (0 + ex.length)) :: news) → Below A base (env :: outer) g → K.In g → Top p loose mean mg mb g →
      wpAny (model prog w) (A.deeper (envOf qual scope L' f cdv)) (execs body (envOf qual scope L' f cdv))
        (fun fl s' => LeaveK h₀ L m g R (match fl with | .ret v => v | _ => .none) s')
        (fun e s' => wpAny (model prog w) (A.deeper (envOf qual scope L' f cdv)) (leaving (envOf qual scope L' f cdv) e) (fun _ s'' => R (.error e) s'') (fun e' s'' => R (.error e') s'') s')
        { s with heap := h₁, toks := tk })
    (hco : scope.isCoroutine = false) (hgen : scope.isGenerator = false) (hk : scope.kind = .function)
    (hcell : ∀ x ∈ scope.names, x.2 ≠ .cell) : codeAny (model prog w) A (.call (.ref f) args) R s := by
  refine codeAny_call_function (fd := fnOf name qual params body scope dV kV doc pm an cdv ct) (body := body) hroom ((X₀.keeps F.keep) _ _ ho) rfl hco hgen rfl (codeRec_of (X₀.keeps F.keep) hcd) ?_
  refine wp_of_peekA (o := dictOf [] 0) F N (X₀.keeps F.keep) rfl _ g₁ hp fun h' F' N' l => ?_
  rw [hk₁]
  refine wpAny_bind (kp_fill ex { s with heap := h' } [] 0 F' N' (fun p hp => Nat.ne_of_lt (l p hp)) (fun _ he => nomatch he) (fun _ he => nomatch he) (kwDistinct_nodup hn) fun h'' F'' N'' => wpAny_pure ?_)
  exact kp_frame (cl := []) (s := { s with heap := h'', toks := s.toks + ex.length }) B F'' N'' T.nolimit hA hf hke (hloc _)
    (fun g L' h₁ FG FL NG BG st => h _ _ g L' h₁ _ l FG FL NG BG (X₀.keeps st) (T.keeps st)) hcell hk
theorem findObj_miss {C : Addr} {es : List DictEntry} {n : Nat} {name : Str} (hh : hasDictIn K C = true) (ha : findIn K (.ref C) name = some none) (hc : copiedNames.contains name = false) (hl : getL name es = some none) : findObj K C (some (dictOf es n)) name = some .missing := by
  obtain ⟨cd, hc', hd⟩ := any_some hh
  unfold findObj
  have ho : W.ownOf cd (some (dictOf es n)) name = some none := by unfold W.ownOf; rw [if_pos hd]; show lookIn name (dictOf es n) = _; rw [lookIn_dict]; exact hl
  rw [hc', Option.bind_some, ha, Option.bind_some]
  simp only [Option.bind_some, ho, hc, Bool.false_and, Bool.false_eq_true, if_false]
theorem get_hookF {x C f : Addr} {ox : Obj} {es : List DictEntry} {n : Nat} {name : Str} {expr : Bool} {E : Value → Shared → Prop} {Q : Value → Shared → Prop} (F : Fr h₀ L s.heap m) (X₀ : K.In h₀) (I : InstAt s.heap x ox C (some (dictOf es n))) (hga : findIn K (.ref C) "__getattribute__" = some (some (.builtin "object.__getattribute__")))
    (hh : hasDictIn K C = true) (ha : findIn K (.ref C) name = some none) (hc : copiedNames.contains name = false) (hl : getL name es = some none) (hk : findIn K (.ref C) "__getattr__" = some (some (.ref f))) (hfn : isFn K (.ref f) = true)
    (h : wpAny (model prog w) A.in1 (call (.ref f) [.ref x, .str name s.toks]) (fun v s' => wpAny (model prog w) A (handedOut v) Q E s') (fun e s' => wpAny (model prog w) A (noteIf true (.ref x) (.str name s.toks) e) (fun _ s'' => E e s'') E s') { s with toks := s.toks + 1 }) :
    wpAny (model prog w) A (getAttr (.ref x) name expr) Q E s := get_hook (X₀.keeps F.keep) I hga (findObj_miss hh ha hc hl) hk hfn h
end
end Mine
end

section
open PySem PySem.Spec PySem.Calls PySem.W PyProof.Rows
set_option Elab.async false
set_option maxRecDepth 100000
namespace Mine
section
variable {prog : Program} {w : World} {A : Around} {E : Value → Shared → Prop} {s : Shared} {L : Addr} {h₀ : Heap} {m : Str → Option Value} {news : List (Addr × Obj)}
theorem mapOf_L {h : Heap} {d : Addr} {es : List DictEntry} {n : Nat} (hd : h.get? d = some (dictOf es n)) (hk : KeysLit w.params es) : h.MapOf (strKind prog w) d (fun k => findBy Value.isStrOf es.toArray k) :=
  ⟨_, es.toArray, n, hd, ⟨rfl, rfl, rfl⟩, rfl, fun e he => by
    obtain ⟨x, t, e1, e2⟩ := hk.all e (by simpa using he)
    exact ⟨x, by rw [e1]; exact strKind_is prog w x t, e2⟩, fun _ => rfl⟩
theorem find_L {es : List DictEntry} {x : Str} {v : Value} (e : getL x es = some (some v)) : findBy Value.isStrOf es.toArray x = some v := by
  have q : (fun d : DictEntry => Value.isStrOf x d.key) = fun d => d.key.isStr x := funext fun d => (isStr_of x d.key).symm
  unfold getL at e
  unfold findBy
  rw [List.find?_toArray, q]
  split at e
  · rename_i e' h'; rw [h']; exact Option.some.inj e
  · rename_i h'
    split at e
    · cases e
    · cases Option.some.inj e
/-- an item of a dict of the ledger whose keys are written texts -/
theorem item_dictF {value slice : PySem.Expr} {d : Addr} {es : List DictEntry} {n : Nat} {x : Str} {t : Tok} {v : Value} {Q : Value → Shared → Prop} (N : News h₀ L s.heap news) (hm : (d, dictOf es n) ∈ news) (hk : KeysLit w.params es) (e : getL x es = some (some v))
    (h : Q v { s with toks := s.toks + 1 })
    (hs : subscripted slice false (.ref d) (.str x t) = operate [.ref d, .str x t] (getItem (.ref d) (.str x t)) := by with_unfolding_all rfl) :
    wpAny (model prog w) A (subscriptTail value slice (.ref d) (.str x t)) Q E s :=
  have hm := mapOf_L (prog := prog) (News.get N hm) hk
  tail_any hm.typeIs slot_dict_getitem.lookup (wpAny_getItem_of (strKind_is prog w x t) hm (find_L e) h) hs
theorem handed_sel {v : Value} {Q : Value → Shared → Prop} (e : handedIn v = true) (h : Q v s) : wpAny (model prog w) A (handedOut v) Q E s := by
  rw [handedOut_of e]; exact wpAny_pure h
theorem SelAt.handed {v : Value} {a : Addr} {o : Obj} {ts : List Str} (h : SelAt v a o ts) : handedIn v = true := by
  rcases h with ⟨rfl, _⟩ | ⟨rfl, _⟩ <;> rfl
theorem strsAre_empty {vs : List Value} {ts : List Str} (h : StrsAre vs ts) : (!vs.toArray.isEmpty) = !decide (ts = []) := by
  cases h <;> rfl
theorem truthy_sel {v : Value} {a : Addr} {o : Obj} {ts : List Str} {Q : Bool → Shared → Prop} (hs : SelAt v a o ts) (hk : TxtsOk ts) (N : News h₀ L s.heap news) (hm : (a, o) ∈ news) (h : ∀ tk, Q (!decide (ts = [])) { s with toks := tk }) :
    wpAny (model prog w) A (truthy v) Q E s := by
  rcases hs with ⟨rfl, rfl⟩ | ⟨rfl, hc, n, vs, hd, hi⟩
  · exact wpAny_pure (h s.toks)
  · have hz : (vs.toArray.size : Int) < 2 ^ 63 := by
      have h1 := hk.2.2
      rw [List.size_toArray, hi.length]
      omega
    have hq := strsAre_empty hi
    rcases hc with hc | hc
    · exact truthy_tuple ⟨o, News.get N hm, hc, n, hd⟩ hz (by rw [hq]; exact h _)
    · exact wpAny_truthy_list ⟨o, News.get N hm, hc, n, hd⟩ hz (by rw [hq]; exact h _)
theorem truthy_ne {a : Addr} {o : Obj} {ts : List Str} {vs : List Value} {n : Nat} {Q : Bool → Shared → Prop} (N : News h₀ L s.heap news) (hm : (a, o) ∈ news) (hc : o.cls = .type "tuple") (hd : o.data = .seq vs.toArray n) (hi : StrsAre vs ts) (hk : TxtsOk ts) (hne : ¬ ts = []) (h : ∀ tk, Q true { s with toks := tk }) :
    wpAny (model prog w) A (truthy (.ref a)) Q E s :=
  truthy_sel (.inr ⟨rfl, .inl hc, n, vs, hd, hi⟩) hk N hm (by rw [decide_eq_false hne]; exact h)
/-- tuple(v), v a tuple or list of texts that is not empty -/
theorem tuple_sel {v : Value} {a : Addr} {o : Obj} {ts : List Str} {Q : Value → Shared → Prop} (hs : SelAt v a o ts) (hk : TxtsOk ts) (hne : ¬ ts = []) (F : Fr h₀ L s.heap m) (N : News h₀ L s.heap news) (hm : (a, o) ∈ news)
    (h : ∀ D oT vT nT h', Fr h₀ L h' m → News h₀ L h' ((D, oT) :: news) → (@Eq Nat D a ∨ AllLt D news) → oT.cls = .type "tuple" → oT.data = .seq (List.toArray vT) nT → StrsAre vT ts → Q (.ref D) { s with heap := h' }) :
    wpAny (model prog w) A (call (.type "tuple") [v]) Q E s := by
  rcases hs with ⟨rfl, rfl⟩ | ⟨rfl, hc, n, vs, hd, hi⟩
  · exact absurd rfl hne
  · rcases hc with hc | hc
    · exact call_tuple_tup ⟨o, News.get N hm, hc, n, hd⟩ (h a o vs n s.heap F (fun q hq => (List.mem_cons.mp hq).elim (fun e => e ▸ N _ hm) (N q)) (.inl rfl) hc hd hi)
    · refine kde_tupleOf (zs := vs) F N ⟨o, News.get N hm, hc, n, hd⟩ (by rw [List.size_toArray, hi.length]; exact Nat.le_trans hk.2.2 (by decide)) (by simp) fun D h' F' N' hl => ?_
      exact h D _ vs _ h' F' N' (.inr (allLt_of hl)) rfl rfl hi
theorem truthy_selT {v : Value} {a : Addr} {o : Obj} {ts : List Str} {Q : Bool → Shared → Prop} (hs : SelAt v a o ts) (hk : TxtsOk ts) (N : News h₀ L s.heap news) (hm : (a, o) ∈ news) (hne : ¬ ts = []) (h : ∀ tk, Q true { s with toks := tk }) :
    wpAny (model prog w) A (truthy v) Q E s := truthy_sel hs hk N hm (by rw [decide_eq_false hne]; exact h)
theorem truthy_selF {v : Value} {a : Addr} {o : Obj} {ts : List Str} {Q : Bool → Shared → Prop} (hs : SelAt v a o ts) (hk : TxtsOk ts) (N : News h₀ L s.heap news) (hm : (a, o) ∈ news) (hne : ts = []) (h : ∀ tk, Q false { s with toks := tk }) :
    wpAny (model prog w) A (truthy v) Q E s := truthy_sel hs hk N hm (by rw [decide_eq_true hne]; exact h)
theorem ne_tupE {a b : Addr} {oa ob : Obj} {na nb : Nat} {xs ys : List Value} {ts : List Str} {Q : Value → Shared → Prop} (ha : s.heap.get? a = some oa) (hb : s.heap.get? b = some ob) (a1 : oa.cls = .type "tuple") (b1 : ob.cls = .type "tuple") (a2 : oa.data = .seq xs.toArray na) (b2 : ob.data = .seq ys.toArray nb) (hi : StrsAre xs ts) (hj : StrsAre ys ts) (ht : ∀ y ∈ ts, PyData.strOk y = true) (hu : A.units + 64 < cLine)
    (h : Q (.bool false) s) : wpAny (model prog w) A (compareOp .NotEq (.ref a) (.ref b)) Q E s :=
  ne_tupS ha hb a1 b1 a2 b2 hi hj ht ht hu (by rw [decide_eq_true rfl]; exact h)
theorem ne_tupN {a b : Addr} {oa ob : Obj} {na nb : Nat} {xs ys : List Value} {ts : List Str} {Q : Value → Shared → Prop} (ha : s.heap.get? a = some oa) (hb : s.heap.get? b = some ob) (a1 : oa.cls = .type "tuple") (b1 : ob.cls = .type "tuple") (a2 : oa.data = .seq xs.toArray na) (b2 : ob.data = .seq ys.toArray nb) (hi : StrsAre xs ts) (hj : StrsAre ys []) (ht : ∀ y ∈ ts, PyData.strOk y = true) (hu : A.units + 64 < cLine) (hne : ¬ ts = [])
    (h : Q (.bool true) s) : wpAny (model prog w) A (compareOp .NotEq (.ref a) (.ref b)) Q E s :=
  ne_tupS ha hb a1 b1 a2 b2 hi hj ht (fun y hy => nomatch hy) hu (by rw [decide_eq_false hne]; exact h)
theorem eq_tupE {a b : Addr} {oa ob : Obj} {na nb : Nat} {xs ys : List Value} {ts : List Str} {Q : Value → Shared → Prop} (ha : s.heap.get? a = some oa) (hb : s.heap.get? b = some ob) (a1 : oa.cls = .type "tuple") (b1 : ob.cls = .type "tuple") (a2 : oa.data = .seq xs.toArray na) (b2 : ob.data = .seq ys.toArray nb) (hi : StrsAre xs ts) (hj : StrsAre ys ts) (ht : ∀ y ∈ ts, PyData.strOk y = true) (hu : A.units + 64 < cLine)
    (h : Q (.bool true) s) : wpAny (model prog w) A (compareOp .Eq (.ref a) (.ref b)) Q E s :=
  eq_tupS ha hb a1 b1 a2 b2 hi hj ht ht hu (by rw [decide_eq_true rfl]; exact h)
end
end Mine
end

section
open PySem PySem.Spec PySem.Calls PySem.W PyProof.Rows
set_option Elab.async false
set_option maxRecDepth 100000
namespace Mine
/-- the bound method object of dict.fromkeys -/
def fkObj : Obj := { cls := .type "builtin_function_or_method", data := .fields #[.builtin "dict.fromkeys", .type "dict"] }
theorem fk_type : typeOf (.builtin "dict.fromkeys") = pure (.type "classmethod_descriptor") := by show builtinType _ = _; rw [builtinType_eq_fast]; kernel_rfl
theorem fk_entry : entryFor table "dict.fromkeys" = some Builtin.«dict.fromkeys» := entryFor_of_tree (by kernel_rfl)
theorem fk_entryLoop : entryFor table "dict.fromkeys.loop" = some Builtin.«dict.fromkeys.loop» := entryFor_of_tree (by kernel_rfl)
theorem fk_isType : isType (.type "dict") = pure true := by first | rfl | kernel_rfl | (unfold isType; rw [isSubtype_type]; kernel_rfl)
theorem fk_check {a b : Value} : checkBoundCall "dict.fromkeys" ⟨[.type "dict", a, b], []⟩ = pure () := by first | kernel_rfl | rfl
theorem fk_dictCall0 : checkTypeCall "dict" ⟨[], []⟩ = pure () := by kernel_rfl
theorem fk_dictNew0 : checkBuiltinCall "dict.__new__" ⟨[.type "dict"], []⟩ = pure () := by kernel_rfl
theorem fk_dictInit0 (o : Value) : argsOk "dict.__init__" ⟨[o], []⟩ := by unfold argsOk; kernel_rfl
section
variable {prog : Program} {w : World} {M : Model} {A : Around} {E : Value → Shared → Prop} {s : Shared} {K : Frag} {h₀ : Heap} {L : Addr} {m : Str → Option Value} {news : List (Addr × Obj)}
theorem fk_dict0 {Q : Value → Shared → Prop} (h : ∀ h' tk, h'.DictOf (strKind prog w) s.heap.objs.size [] → (∀ b o, s.heap.get? b = some o → h'.get? b = some o) → Q (.ref s.heap.objs.size) { s with heap := h', toks := tk }) :
    wpAny (model prog w) A (call (.type "dict") []) Q E s := by
  refine callType_codes (Q₁ := fun obj s₁ => obj = .ref s.heap.objs.size ∧ s₁ = { s with heap := s.heap.push { cls := .type "dict", data := .dict #[] } }) F.kt_called_dict fk_dictCall0 F.entry_dict_init ?_ ?_
  · refine codeAny_call_builtin F.kt_plain_dict_new F.kt_entry_dict_new (wpAny_of_eq fk_dictNew0 ?_)
    have hsub := F.kt_sub_dict
    have hmro := F.kt_mro_dict
    obtain ⟨hp, g, d, tk, os⟩ := s
    unfold Builtin.«dict.__new__»
    wp_walk
    exact ⟨rfl, rfl⟩
  · rintro obj s₁ ⟨rfl, rfl⟩
    have hnew : (s.heap.push { cls := .type "dict", data := .dict #[] }).DictOf (strKind prog w) s.heap.objs.size [] := Heap.DictOf.new s.heap
    refine ⟨hnew.typeIs, fk_dictInit0 _, ?_⟩
    unfold Builtin.«dict.__init__»
    refine wpAny_bind ?_
    unfold Builtin.Dict.selfAndRest
    refine wpAny_bind (wpAny_notOrdered_dict hnew.typeIs ?_)
    show wpAny _ _ (pure (s.heap.objs.size, [])) _ _ _
    refine wpAny_pure ?_
    show wpAny _ _ (Builtin.Dict.updateCommon "dict.__init__" "dict" s.heap.objs.size [] []) _ _ _
    unfold Builtin.Dict.updateCommon
    wp_walk
    exact ⟨rfl, h _ _ hnew fun b o e => Heap.get?_push_of_some _ e⟩
theorem fk_loop {d it l : Addr} {v : Value} {H : Heap} {R : Result → Shared → Prop} {vs : List Value} {ts : List Str} (hh : A.handled = none) (hi : StrsAre vs ts) (hn : vs.length ≤ 1000)
    (hR : ∀ h' tk, (∀ b o, H.get? b = some o → h'.get? b = some o) → R (.ok (.ret (.ref d))) { s with heap := h', toks := tk })
    (hdl : d ≠ l) (hil : it ≠ l) (hdi : d ≠ it) (hHd : H.get? d = none) (hHi : H.get? it = none) :
    ∀ (n i : Nat) (kvs : List (Str × Value)) (h : Heap) (tk : Tok), n + i = vs.length → kvs.length ≤ i → h.DictOf (strKind prog w) d kvs → h.IsListIter it l i → h.IsList l vs.toArray → (∀ b o, H.get? b = some o → h.get? b = some o) →
      codeAny (model prog w) A (.builtin "dict.fromkeys.loop" ⟨[.ref d, .ref it, v], []⟩) R { s with heap := h, toks := tk } := by
  intro n
  induction n with
  | zero =>
    intro i kvs h tk e1 e2 hd hit hl hk
    refine codeAny_builtin fk_entryLoop ?_
    unfold Builtin.«dict.fromkeys.loop»
    refine wpAny_bind (wpAny_pyNext_list_end (A := A.under _) hh hit hl (by simp; omega) fun h' hx => ?_)
    exact wpAny_pure (hR _ _ fun b o eb => hx b o (fun q => by subst q; rw [hHi] at eb; cases eb) (hk b o eb))
  | succ n ih =>
    intro i kvs h tk e1 e2 hd hit hl hk
    have hlt : i < vs.length := by omega
    obtain ⟨y, ty, hy⟩ : ∃ y ty, vs[i] = .str y ty := by
      obtain ⟨y, ty, e, _⟩ := hi.item i _ (List.getElem?_eq_getElem hlt)
      exact ⟨y, ty, e⟩
    refine codeAny_builtin fk_entryLoop ?_
    unfold Builtin.«dict.fromkeys.loop»
    refine wpAny_bind (wpAny_pyNext_list_item (x := .str y ty) hit hl (by simp [hlt, hy]) fun h1 hit1 hs1 => ?_)
    have hd1 : h1.DictOf (strKind prog w) d kvs := hd.sameBut hs1 hdi
    have hl1 : h1.IsList l vs.toArray := hl.extBut hs1.extBut (Ne.symm hil)
    refine wpAny_bind (wpAny_typeOf (T := "dict") hd1.typeIs ?_)
    refine wpAny_bind (wpAny_pure ?_)
    refine wpAny_bind (wpAny_holding ?_)
    refine wpAny_dictSet_pairs (hsz := ?hz) (strKind_is prog w y ty) hd1 fun h2 hd2 hs2 => ?_
    case hz => rw [sizeLine_eq]; omega
    refine wpAny_pure ⟨Code.quiet_builtin _ (by decide +kernel), ?_⟩
    refine ih (i + 1) _ _ _ (by omega) ?_ hd2 ?_ ?_ ?_
    · unfold stored
      split
      · rw [List.length_map]; omega
      · rw [List.length_append]; show _ + 1 ≤ _; omega
    · exact hit1.extBut hs2.extBut (Ne.symm hdi)
    · exact hl1.extBut hs2.extBut (Ne.symm hdl)
    · intro b o eb
      have h1b : h1.get? b = some o := (hs1.2 b (fun q => by subst q; rw [hHi] at eb; cases eb)).trans (hk b o eb)
      exact (hs2.2 b (fun q => by subst q; rw [hHd] at eb; cases eb)).trans h1b
theorem fk_call {x l : Addr} {vs : List Value} {ts : List Str} {v : Value} {Q : Value → Shared → Prop} (hh : A.handled = none) (hb : s.heap.get? x = some fkObj) (hl : s.heap.IsList l vs.toArray) (hi : StrsAre vs ts) (hn : vs.length ≤ 1000)
    (h : ∀ d h' tk, (∀ b o, s.heap.get? b = some o → h'.get? b = some o) → Q (.ref d) { s with heap := h', toks := tk }) :
    wpAny (model prog w) A (call (.ref x) [.ref l, v]) Q E s := by
  refine wpAny_call (codeAny_of_tree ?_)
  show wpAny _ A.in1 (callAny (.ref x) ⟨[.ref l, v], []⟩) _ _ s
  simp only [callAny]
  refine wpAny_bind (wpAny_load hb ?_)
  simp only [fkObj, show (Value.type "builtin_function_or_method" == Value.type "method" || Value.type "builtin_function_or_method" == Value.type "builtin_function_or_method" || Value.type "builtin_function_or_method" == Value.type "method-wrapper") = true by decide, if_true]
  refine KFB.if_so (by decide) ?_
  refine wpAny_bind (wpAny_of_eq (a := ()) fk_check ?_)
  refine wpAny_bind (wpAny_pure (wpAny_pure ?_))
  refine ⟨Code.quiet_builtin _ (by decide +kernel), codeAny_builtin fk_entry ?_⟩
  unfold Builtin.«dict.fromkeys»
  refine wpAny_bind (wpAny_of_eq (a := true) fk_isType ?_)
  refine KFB.if_not rfl ?_
  refine wpAny_bind (wpAny_of_eq (a := true) isSubtype_dict_dict ?_)
  refine KFB.if_not rfl ?_
  refine KFB.if_not rfl ?_
  refine wpAny_bind (wpAny_pure ?_)
  refine wpAny_bind (fk_dict0 fun h1 tk1 hd1 k1 => ?_)
  have hl1 : h1.IsList l vs.toArray := let ⟨o, ho, r⟩ := hl; ⟨o, k1 _ _ ho, r⟩
  refine wpAny_holding ?_
  refine wpAny_bind (wpAny_typeOf (T := "list") hl1.typeIs ?_)
  refine wpAny_bind (wpAny_typeOf (T := "dict") hd1.typeIs ?_)
  refine KFB.if_not (by decide) ?_
  refine wpAny_bind (wpAny_typeOf (T := "dict") hd1.typeIs ?_)
  refine KFB.if_not (by decide) ?_
  refine wpAny_bind (wpAny_pyIter_list hl1 ?_)
  refine wpAny_pure ⟨Code.quiet_builtin _ (by decide +kernel), ?_⟩
  have hsz : s.heap.objs.size < h1.objs.size := let ⟨_, _, _, ho, _⟩ := hd1; Heap.lt_size ho
  have hls : l < s.heap.objs.size := let ⟨_, ho, _⟩ := hl; Heap.lt_size ho
  refine fk_loop (H := s.heap) (l := l) (ts := ts) (A := A) hh hi hn (fun h' tk' k' => h _ h' tk' k') (Nat.ne_of_gt hls) (Nat.ne_of_gt (Nat.lt_trans hls hsz)) (Nat.ne_of_lt hsz) ?_ ?_ vs.length 0 [] _ _ rfl (Nat.le_refl 0) (hd1.push _) ?_ (hl1.push _) fun b o e => Heap.get?_push_of_some _ (k1 b o e)
  · cases e : s.heap.get? s.heap.objs.size with
    | none => rfl
    | some o => exact absurd (Heap.lt_size e) (Nat.lt_irrefl _)
  · cases e : s.heap.get? h1.objs.size with
    | none => rfl
    | some o => exact absurd (Heap.lt_size e) (Nat.not_lt.mpr (Nat.le_of_lt hsz))
  · exact ⟨_, Heap.get?_push_size _ rfl, rfl, rfl⟩
theorem fk_sub {o : String} (h : o = "dict") : isSubtype (.type "dict") (.type o) = pure true := by
  subst h
  exact isSubtype_dict_dict
theorem fk_get {P : Fin → Shared → Prop} (h : P (.done (.ret (.ref s.heap.objs.size))) { s with heap := s.heap.push fkObj }) :
    wpAny M A (Builtin.«classmethod_descriptor.__get__» ⟨[.builtin "dict.fromkeys", .none, .type "dict"], []⟩) P E s := by
  unfold Builtin.«classmethod_descriptor.__get__»
  refine wpAny_bind (wpAny_of_eq (a := (.builtin "dict.fromkeys", none, some (.type "dict"))) (by first | rfl | kernel_rfl) ?_)
  refine wpAny_bind (wpAny_of_eq (a := .type "dict") rfl ?_)
  refine wpAny_bind (wpAny_of_eq (a := true) fk_isType ?_)
  refine KFB.if_not rfl ?_
  refine wpAny_bind (wpAny_of_eq (a := true) (fk_sub (by first | decide +kernel | kernel_rfl)) ?_)
  refine KFB.if_not rfl ?_
  exact wpAny_bind (wpAny_newObj_type (wpAny_pure h))
theorem fk_getm {pl : Sem Bool} {Q : Value × List Value → Shared → Prop} (F : Fr h₀ L s.heap m) (N : News h₀ L s.heap news) (X₀ : K.In h₀)
    (e : findCls K (.type "dict") (.type "type") (Str.ofString "fromkeys") = some (.get (.builtin "classmethod_descriptor.__get__") (.builtin "dict.fromkeys") .none (.type "dict")))
    (h : ∀ x h', Fr h₀ L h' m → News h₀ L h' ((x, fkObj) :: news) → (∀ p ∈ news, p.1 < x) → Q (.ref x, []) { s with heap := h', toks := s.toks + 1 }) :
    wpAny (model prog w) A (getMethod (.type "dict") (Str.ofString "fromkeys") pl) Q E s := by
  have X := X₀.keeps F.keep
  have L0 : Looks (model prog w) s.heap (typeOf (.type "dict")) (.type "type") := Looks.of_pure (by first | rfl | kernel_rfl)
  have LO : Looks (model prog w) s.heap (opaqueClassAbove (.type "dict")) none := Looks.of_pure (by unfold opaqueClassAbove; dsimp only; rw [show Manifest.isStub "dict" = false by decide +kernel]; rfl)
  have hg : findIn K (.type "type") "__getattribute__" = some (some (.builtin "type.__getattribute__")) := type_tga
  unfold getMethod specialOf
  refine wpAny_bind (wpAny_bind (L0.here ((looks_findIn X hg).here ?_)))
  dsimp only
  rw [if_pos canon_tga]
  refine wpAny_bind (wpAny_mono (Q := fun v => Q (v, [])) (E := E) ?_ (fun _ _ z => wpAny_pure z) fun _ _ z => z)
  refine cls_open X LO L0 hg (looks_hook X (r := none) (by rfl)) (by show subIn K _ _ = _; rfl) e ?_
  refine wpAny_bind (wpAny_holding (wpAny_call_entry KFB.slot_get fk_type KFB.entry_get (fk_get ⟨_, rfl, wpAny_pure (wpAny_pure (h _ _ (F.push _) (News.push F N _) fun p hp => Heap.lt_size (N p hp).1))⟩) (KFB.args_get _ _ _)))
def FkAt (x : Addr) (h : Heap) : Prop := h.get? x = some fkObj
theorem fk_at {x : Addr} {h : Heap} (N : News h₀ L h news) (hm : (x, fkObj) ∈ news) : FkAt x h := News.get N hm
theorem fk_fields {pos : Pos} {u : Addr} {first : List Value} {args : List (Bool × Sem Value)} {Q : Value → Shared → Prop} (hplain : args.any (·.1) = false)
    (h : wpAny M A (evalArgs (.ref u) true args []) (fun x s₁ => FkAt u s₁.heap ∧ wpAny M A (call (.ref u) (first ++ x.pos) x.kw) Q E s₁) E s) : wpAny M A (callWith pos (.ref u) first args []) Q E s := by
  unfold callWith
  refine wpAny_bind (wpAny_holding (wpAny_mono h (fun x s₁ h₁ => wpAny_bind (wpAny_standAt ?_)) fun _ _ x => x))
  obtain ⟨ho, hcall⟩ := h₁
  simp only [hplain, List.any_nil, Bool.or_false]
  refine wpAny_bind (m := keeperOf (.ref u)) ?_
  unfold keeperOf
  refine wpAny_bind (wpAny_load ho ?_)
  simp only [fkObj, show (Value.type "builtin_function_or_method" != Value.type "method") = true by decide, show (Value.type "builtin_function_or_method" == Value.type "builtin_function_or_method" || Value.type "builtin_function_or_method" == Value.type "method-wrapper") = true by decide, if_true]
  refine wpAny_pure ?_
  exact wpAny_bind (wpAny_mono hcall (fun r s₂ hr => wpAny_bind (wpAny_holding (wpAny_point (wpAny_pure hr)))) fun _ _ x => x)
theorem fk_callWith {pos : Pos} {u : Addr} {first : List Value} {env : Env} {e : PySem.Expr} {rest : List PySem.Expr} {Q : Value → Shared → Prop} (hN0 : News h₀ L s.heap news) (hM0 : (u, fkObj) ∈ news)
    (h : wpAny M A (spliced (backTo pos (starEach (e :: rest) env))) (fun vs s₁ => FkAt u s₁.heap ∧ wpAny M A (call (.ref u) (first ++ vs)) Q E s₁) E s)
    (he : starEach (e :: rest) env = (false, eval e env) :: starEach rest env := by rfl) (hplain : (backTo pos (starEach rest env)).any (·.1) = false := by rfl) :
    wpAny M A (callWith pos (.ref u) first (backTo pos (starEach (e :: rest) env)) []) Q E s := by
  rw [he] at h ⊢
  refine fk_fields (by show (false || (backTo pos (starEach rest env)).any (·.1)) = false; rw [hplain]; rfl) ?_
  exact evalArgs_plain h
theorem fk_callN {x l : Addr} {vs : List Value} {ts : List Str} {v : Value} {k : Nat} {Q : Value → Shared → Prop} (F : Fr h₀ L s.heap m) (N : News h₀ L s.heap news) (hh : A.handled = none) (hx : (x, fkObj) ∈ news) (hl : (l, W.listOf vs.toArray k) ∈ news) (hi : StrsAre vs ts) (hn : vs.length ≤ 1000)
    (h : ∀ d h' tk, Fr h₀ L h' m → News h₀ L h' news → Q (.ref d) { s with heap := h', toks := tk }) :
    wpAny (model prog w) A (call (.ref x) [.ref l, v]) Q E s :=
  fk_call hh (News.get N hx) ⟨_, News.get N hl, rfl, k, rfl⟩ hi hn fun d h' tk k => h d h' tk (F.keeps k) (N.grown k)
end
end Mine
end

section
open PySem PySem.Spec PySem.Calls PySem.W PyProof.Rows
set_option Elab.async false
set_option maxRecDepth 100000
set_option maxHeartbeats 1000000
namespace Mine
local macro_rules | `(tactic| walk_at "NO SUCH NODE") => `(tactic| fail)
theorem fill_here7 : (fun (_ : OpenLaw) (_ : Params → Frag) => True) PySem.Challenge.rw_bg5017_01 Mine.hd.heap_39 := by
  w_top off
  k_fill
  trivial
theorem alt1 {a : Prop} {d : Addr} {l : List (Addr × Obj)} (h : a ∧ AllLt d l) : AllLt d l := h.2
theorem alt2 {a b : Prop} {d : Addr} {l : List (Addr × Obj)} (h : a ∧ b ∧ AllLt d l) : AllLt d l := h.2.2
theorem alt3 {a b c : Prop} {d : Addr} {l : List (Addr × Obj)} (h : a ∧ b ∧ c ∧ AllLt d l) : AllLt d l := h.2.2.2
theorem alt4 {a b c e : Prop} {d : Addr} {l : List (Addr × Obj)} (h : a ∧ b ∧ c ∧ e ∧ AllLt d l) : AllLt d l := h.2.2.2.2
theorem alt5 {a b c e f : Prop} {d : Addr} {l : List (Addr × Obj)} (h : a ∧ b ∧ c ∧ e ∧ f ∧ AllLt d l) : AllLt d l := h.2.2.2.2.2
theorem alt6 {a b c e f g : Prop} {d : Addr} {l : List (Addr × Obj)} (h : a ∧ b ∧ c ∧ e ∧ f ∧ g ∧ AllLt d l) : AllLt d l := h.2.2.2.2.2.2
theorem alt7 {a b c e f g i : Prop} {d : Addr} {l : List (Addr × Obj)} (h : a ∧ b ∧ c ∧ e ∧ f ∧ g ∧ i ∧ AllLt d l) : AllLt d l := h.2.2.2.2.2.2.2
theorem alt8 {a b c e f g i j : Prop} {d : Addr} {l : List (Addr × Obj)} (h : a ∧ b ∧ c ∧ e ∧ f ∧ g ∧ i ∧ j ∧ AllLt d l) : AllLt d l := h.2.2.2.2.2.2.2.2
theorem allNe_of {l : List (Addr × Obj)} {d : Addr} (h : AllLt d l) : ∀ p ∈ l, p.1 ≠ d := by
  induction l with
  | nil => intro p hp; cases hp
  | cons a r ih =>
    intro p hp
    rcases List.mem_cons.mp hp with e | hp
    · rw [e]; exact Nat.ne_of_lt h.1
    · exact ih h.2 p hp
local macro_rules | `(tactic| k_all) => `(tactic| (refine' allNe_of ?_; first | assumption | exact alt1 (by assumption) | exact alt2 (by assumption) | exact alt3 (by assumption) | exact alt4 (by assumption) | exact alt5 (by assumption) | exact alt6 (by assumption) | exact alt7 (by assumption) | exact alt8 (by assumption)))
local macro_rules | `(tactic| k_all) => `(tactic| first | exact List.forall_mem_nil _ | (refine' List.forall_mem_cons.mpr ⟨?a, ?b⟩; (case a => k_ne); (case b => k_all)))
local macro_rules | `(tactic| walk_at "subscriptTail Name") => `(tactic| (k_here; (with_reducible show wpAny _ _ (subscriptTail _ _ (Value.ref _) (Value.str _ _)) _ _ _); k_dflt (refine' item_dictF ?N ?m ?k ?e ?_; (case N => k_asm); (case m => k_mem); (case k => first | assumption | (repeat' (first | exact trivial | exact ⟨_, _, rfl, rfl⟩ | apply And.intro))); (case e => first | assumption | k_get); k_whole)))
local macro_rules | `(tactic| walk_at "getAttr ref") => `(tactic| (k_here; k_dflt (refine' get_hookF ?k1 ?k2 ?k3 ?k4 ?k5 ?k6 ?k7 ?k8 ?k9 ?k10 ?_; (case k1 => k_asm); (case k2 => k_asm); (case k3 => k_inst); (case k4 => k_is); (case k5 => k_is); (case k6 => k_is); (case k7 => decide +kernel); (case k8 => first | assumption | k_get); (case k9 => k_is); (case k10 => k_is); k_whole)))
local macro_rules | `(tactic| walk_at "getAttr ref") => `(tactic| (k_here; k_dflt (refine' get_here ?k1 ?k2 ?k3 ?k4 ?k5 ?k6 ?k7 ?k8 ?k9 ?_; (case k1 => k_asm); (case k2 => k_asm); (case k3 => k_inst); (case k4 => k_is); (case k5 => k_is); (case k6 => k_is); (case k7 => k_is); (case k8 => first | assumption | k_get); (case k9 => k_handed); k_whole)))
local macro_rules | `(tactic| k_enter) => `(tactic| (refine' code_def ?k1 ?k2 ?k3 ?k4 ?k5 ?kA ?kF ?kK ?k6 ?k7 ?k8 ?k9 ?kB ?_ ?c2 ?c3 ?c4 ?c5; (case kA => exact deeper_frames (by assumption)); (case kF => exact rfl); (case kK => exact rfl); (case k1 => k_asm); (case k2 => k_asm); (case k3 => k_asm); (case k4 => k_asm); (case k5 => k_asm); (case k6 => k_is); (case k7 => k_is); (case k8 => k_room); (case k9 => exact BindsTo.of_eq rfl); (case c5 => decide); (case kB => exact locs rfl); (case c2 => exact rfl); (case c3 => exact rfl); (case c4 => exact rfl); k_whole; intro g' L' h' FG' F' N' B' X' T'; (try dsimp only); (try k_lift B'); (try k_fold)))
local macro_rules | `(tactic| k_room) => `(tactic| (simp only [depth_under_make, depth_under_kw, depth_in1, depth_deeper, depth_caller]; omega))
local macro_rules | `(tactic| walk_at "getMethod type:dict") => `(tactic| (k_here; k_dflt (refine' fk_getm ?kF ?kN ?kX ?kE ?_; (case kF => k_asm); (case kN => k_asm); (case kX => k_asm); (case kE => k_is); k_whole; intro x' h' F' N' l1; (try k_lt l1); (try k_sweep))))
local macro_rules | `(tactic| walk_at "callWith ref") => `(tactic| (k_here; (with_reducible show wpAny _ _ (callWith _ (Value.ref _) _ (backTo _ (starEach (_ :: _) _)) []) _ _ _); k_dflt (refine' fk_callWith ?kN ?kM ?_; (case kN => k_asm); (case kM => k_mem); k_whole)))
local macro_rules | `(tactic| walk_at "And") => `(tactic| ((with_reducible show FkAt _ _ ∧ _); k_dflt (refine ⟨fk_at (by k_asm) (by k_mem), ?_⟩); (try dsimp only [List.nil_append, List.cons_append])))
local macro_rules | `(tactic| walk_at "call ref") => `(tactic| (k_here; (with_reducible show wpAny _ _ (call (Value.ref _) [Value.ref _, Value.int _ _]) _ _ _); k_dflt (refine' fk_callN ?F ?N ?hh ?hx ?hl ?hi ?hn ?_; (case F => k_asm); (case N => k_asm); (case hh => first | assumption | exact rfl); (case hx => k_mem); (case hl => k_mem); (case hi => repeat' constructor); (case hn => exact Nat.le_of_ble_eq_true rfl)); intro d9 h9 tk9 F9 N9; (try dsimp only)))
section
variable {w : World} {A A₀ : Around} {E : Value → Shared → Prop} {s : Shared} {L : Addr} {Q : Value → Shared → Prop} {h₀ base : Heap} {m mg mb : Str → Option Value} {p : Program} {loose : List Str} {mean : ExcName → Option Value} {led : List (Addr × Obj)}
theorem rep_end {G : Prop} {h₀ h : Heap} {L : Addr} {news all : List (Addr × Obj)} (hQ : News h₀ L h news → G) (N : News h₀ L h all) (hs : ∀ q ∈ news, q ∈ all) : G := hQ fun q hq => N q (hs q hq)
theorem rep_call {env : Env} {outer : List Env} {op dO td bk iq : Addr} {nO nT nK : Nat} {eO eT : List DictEntry} {k1 k2 k3 k4 : Tok}
    (B : Below A₀ base outer h₀) (F : Fr h₀ L s.heap m) (X₀ : (hd.heap_39 w.params).In h₀) (N : News h₀ L s.heap ((op, instObj 154 dO) :: (dO, dictOf eO nO) :: (td, dictOf eT nT) :: (bk, W.listOf #[.str (Str.ofString "directories") k1, .str (Str.ofString "files") k2, .str (Str.ofString "logical lines") k3, .str (Str.ofString "physical lines") k4] nK) :: led))
    (T : Top p loose mean mg mb h₀) (hA : A.frames = some (env :: outer)) (hf : env.frame = some L) (hke : env.scope.kind = .function) (hh : A.handled = none) (hroom : A.depth + 10 < recursionLimit)
    (g1 : getL "told" eO = some (some (.ref td))) (g2 : getL "benchmark_keys" eO = some (some (.ref bk))) (g3 : getL "ignore_code" eO = some (some (.ref iq))) (g4 : getL "repeat" eO = some none) (g5 : getL "repeat" eT = some (some (.bool true))) (g6 : KeysLit w.params eT)
    (hQ : ∀ x h' tk', Fr h₀ L h' m → News h₀ L h' ((op, instObj 154 dO) :: (dO, dictOf eO nO) :: (td, dictOf eT nT) :: (bk, W.listOf #[.str (Str.ofString "directories") k1, .str (Str.ofString "files") k2, .str (Str.ofString "logical lines") k3, .str (Str.ofString "physical lines") k4] nK) :: led) → Q (.ref x) { s with heap := h', toks := tk' }) :
    wpAny (model PySem.Challenge.pw_bg5017_01 w) A (call (.ref 128) [.ref op]) Q E s := by
  (refine' call_cls F X₀ N ?k4 ?k5 ?k6 ?_; (case k4 => k_is); (case k5 => k_is); (case k6 => k_is))
  intro x' d' h' F' N' l1 l2; (try k_lt l1); (try k_lt2 l2); clear F N; refine' ks_code_super B F' X₀ N' T hA hf hke ?k6 ?k7 ?k8 ?k9 ?kB ?_ ?c1 ?c2 ?c3 ?c4; (case k6 => k_is); (case k7 => k_is); (case k8 => k_room); (case k9 => exact BindsTo.of_eq rfl); (case kB => exact locs rfl); (case c1 => decide); (case c2 => exact rfl); (case c3 => exact rfl); (case c4 => exact rfl); intro g' L' h' FG' F' N' B' X' T' l1; (try k_lt l1); (try dsimp only); (try k_lift B')
  repeat' (first | (k_unfold; (try dsimp only)) | walk1 | (dsimp only; walk1))
  refine rep_end (hQ _ _ _ (by assumption)) (by assumption) ?_
  intro q hq
  repeat (first | exact hq | refine List.Mem.tail _ ?_)
theorem rep_callU {env : Env} {outer : List Env} {op dO td bk iq : Addr} {nO nT nK : Nat} {eO eT : List DictEntry} {k1 k2 k3 k4 : Tok}
    (B : Below A₀ base outer h₀) (F : Fr h₀ L s.heap m) (X₀ : (hd.heap_39 w.params).In h₀) (N : News h₀ L s.heap led)
    (T : Top p loose mean mg mb h₀) (hA : A.frames = some (env :: outer)) (hf : env.frame = some L) (hke : env.scope.kind = .function) (hh : A.handled = none) (hroom : A.depth + 10 < recursionLimit)
    (m1 : (op, instObj 154 dO) ∈ led) (m2 : (dO, dictOf eO nO) ∈ led) (g1 : getL "told" eO = some (some (.ref td))) (m3 : (td, dictOf eT nT) ∈ led) (g2 : getL "benchmark_keys" eO = some (some (.ref bk))) (m4 : (bk, W.listOf #[.str (Str.ofString "directories") k1, .str (Str.ofString "files") k2, .str (Str.ofString "logical lines") k3, .str (Str.ofString "physical lines") k4] nK) ∈ led)
    (g3 : getL "ignore_code" eO = some (some (.ref iq))) (g4 : getL "repeat" eO = some none) (g5 : getL "repeat" eT = some (some (.bool true))) (g6 : KeysLit w.params eT)
    (hQ : ∀ x h' tk', Fr h₀ L h' m → News h₀ L h' led → Q (.ref x) { s with heap := h', toks := tk' }) :
    wpAny (model PySem.Challenge.pw_bg5017_01 w) A (call (.ref 128) [.ref op]) Q E s := by
  refine rep_call (led := led) (dO := dO) (nO := nO) (nT := nT) (nK := nK) (k1 := k1) (k2 := k2) (k3 := k3) (k4 := k4) B F X₀ (fun q hq => ?_) T hA hf hke hh hroom g1 g2 g3 g4 g5 g6 fun x h' tk' F' N' => hQ x h' tk' F' fun q hq => N' q (.tail _ (.tail _ (.tail _ (.tail _ hq))))
  rcases List.mem_cons.mp hq with rfl | hq
  · exact N _ m1
  · rcases List.mem_cons.mp hq with rfl | hq
    · exact N _ m2
    · rcases List.mem_cons.mp hq with rfl | hq
      · exact N _ m3
      · rcases List.mem_cons.mp hq with rfl | hq
        · exact N _ m4
        · exact N _ hq
end
end Mine
end

section
open PySem PySem.Spec PySem.Calls PySem.W PyProof.Rows
set_option Elab.async false
set_option maxRecDepth 100000
namespace Mine
noncomputable def lawParts : List Stmt × Scope := match PySem.Challenge.pw_bg5017_01.main.body.getLast? with
  | some (.FunctionDef _ _ b _ _ _ sc _ _ _) => (b, sc)
  | _ => ([], default)
noncomputable def loopBody : List Stmt := match lawParts.1.drop 13 with
  | .For _ _ b _ _ :: _ => b
  | _ => []
section
variable {prog : Program} {w : World} {A : Around} {E : Value → Shared → Prop} {s : Shared} {Q : Value → Shared → Prop}
theorem ne_same_str {x : Str} {t u : Tok} (h : Q (.bool false) s) : wpAny (model prog w) A (compareOp .NotEq (.str x t) (.str x u)) Q E s :=
  ne_str (by rw [show (x != x) = false by simp]; exact h)
end
theorem ite_ff {α : Prop} {b : Prop} (h : b) : if false = true then α else b := h
theorem ite_tt {α : Prop} {b : Prop} (h : α) : if true = true then α else b := h
abbrev lawM (op : Addr) (v1 v2 : Value) (r3 : Int) (tr : Tok) (std st sc : Addr) : Str → Option Value := fun y =>
  if y = Str.ofString "options" then some (.ref op) else if y = Str.ofString "handed_select" then some v1 else if y = Str.ofString "handed_ignore" then some v2 else if y = Str.ofString "turn" then some (.int r3 tr)
  else if y = Str.ofString "ignore" then some v2 else if y = Str.ofString "select" then some v1 else if y = Str.ofString "standing" then some (.ref std) else if y = Str.ofString "state" then some (.ref st) else List.lookup y [(Str.ofString "script", Value.ref sc)]
/-- the law's names when its loop begins -/
abbrev lawL (cs lf tkn gd op : Addr) (v1 v2 : Value) (r3 : Int) (tr : Tok) (std st sc : Addr) : Str → Option Value := fun y =>
  if y = Str.ofString "codes" then some (.ref cs) else if y = Str.ofString "left" then some (.ref lf) else if y = Str.ofString "taken" then some (.ref tkn) else if y = Str.ofString "guide" then some (.ref gd) else lawM op v1 v2 r3 tr std st sc y
/-- the law's names in its loop: what the loop stores is left open -/
abbrev lawU (u : Str → Option Value) (m : Str → Option Value) : Str → Option Value := fun y =>
  if y = Str.ofString "at" then u y else if y = Str.ofString "code" then u y else if y = Str.ofString "due" then u y else m y
theorem lawU_of {m m' : Str → Option Value} (h : ∀ y, y ≠ Str.ofString "at" → y ≠ Str.ofString "code" → y ≠ Str.ofString "due" → m' y = m y) : m' = lawU m' m := by
  funext y
  unfold lawU
  by_cases h1 : y = Str.ofString "at"
  · rw [if_pos h1]
  · by_cases h2 : y = Str.ofString "code"
    · rw [if_neg h1, if_pos h2]
    · by_cases h3 : y = Str.ofString "due"
      · rw [if_neg h1, if_neg h2, if_pos h3]
      · rw [if_neg h1, if_neg h2, if_neg h3]; exact h y h1 h2 h3
theorem fr_lawU {h₀ h : Heap} {L : Addr} {m m' : Str → Option Value} (F : Fr h₀ L h m') (e : ∀ y, y ≠ Str.ofString "at" → y ≠ Str.ofString "code" → y ≠ Str.ofString "due" → m' y = m y) : Fr h₀ L h (lawU m' m) := by
  have q := lawU_of e
  rw [← q]
  exact F
/-- what the law has made when its loop begins -/
abbrev lawLed (P : Params) (ps : Array Value) (gd dg op dO sel ign tkn lf cs iq : Addr) (tO : Tok) (nG nO : Nat) (eO : List DictEntry) (oS oI oT oL : Obj) (vC : List Value) (it : Addr) (oIt : Obj) : List (Addr × Obj) :=
  [(190, tabObj ps), (gd, instObj 198 dg), (dg, dictOf [⟨PyData.keyHash P (Str.ofString "options"), .str (Str.ofString "options") tO, .ref op⟩] nG), (op, instObj 154 dO), (dO, dictOf eO nO), (sel, oS), (ign, oI), (tkn, oT), (lf, oL), (cs, W.listOf vC.toArray 0), (iq, methodObj (.ref 195) (.ref gd)), (it, oIt)]
def TupAt (o : Obj) (ts : List Str) : Prop := o.cls = .type "tuple" ∧ ∃ vs : List Value, ∃ n, o.data = .seq vs.toArray n ∧ StrsAre vs ts
end Mine
end

section
open PySem PySem.Spec PySem.Calls PySem.W PyProof.Rows
set_option Elab.async false
set_option maxRecDepth 100000
namespace Mine
theorem sw_empty (x : Str) : Txt.startswith x (Str.ofString "") = true := by
  unfold Txt.startswith
  have e : (Str.ofString "").length = 0 := by decide
  have e2 : (Str.ofString "").cps = #[] := by decide
  simp [e, e2, Builtin.Str.subAt]
theorem ign_out {code : Str} {taken left : List Str} (h : taken ≠ [] → left = [Str.ofString ""]) : ignV code taken left = outV code taken left := by
  unfold ignV outV
  by_cases hs : (decide (code.length < 4) && taken.any (fun y => Txt.startswith y code)) = true
  · simp only [hs, if_true]
  · simp only [hs]
    by_cases ht : taken = []
    · subst ht
      simp
    · rw [h ht, if_pos ht]
      simp [sw_empty]
section
variable {prog : Program} {w : World} {A A₀ : Around} {E : Value → Shared → Prop} {s : Shared} {L : Addr} {Q : Value → Shared → Prop} {h₀ base : Heap} {m mg mb : Str → Option Value} {p : Program} {loose : List Str} {mean : ExcName → Option Value} {led : List (Addr × Obj)} {ps : Array Value}
theorem out_callU {env : Env} {outer : List Env} {a b : Addr} {oT oU : Obj} {nT nU : Nat} {vT vU : List Value} {ts us : List Str} {code : Str} {tc : Tok}
    (B : Below A₀ base outer h₀) (F : Fr h₀ L s.heap m) (X₀ : (hd.heap_39 w.params).In h₀) (N : News h₀ L s.heap led)
    (T : Top p loose mean mg mb h₀) (hA : A.frames = some (env :: outer)) (hf : env.frame = some L) (hke : env.scope.kind = .function) (hh : A.handled = none) (hroom : A.depth + 10 < recursionLimit) (hun : A.units + 300 < cLine)
    (m1 : (a, oT) ∈ led) (m2 : (b, oU) ∈ led)
    (hlc : code.length ≤ 4) (hok : PyData.strOk code = true) (hS1 : oT.cls = .type "tuple") (hS2 : oT.data = .seq vT.toArray nT) (hS : StrsAre vT ts) (k1 : TxtsOk ts)
    (hU1 : oU.cls = .type "tuple") (hU2 : oU.data = .seq vU.toArray nU) (hU : StrsAre vU us) (k2 : TxtsOk us)
    (hQ : ∀ h' tk', Fr h₀ L h' m → News h₀ L h' led → Q (.bool (outV code ts us)) { s with heap := h', toks := tk' }) :
    wpAny (model prog w) A (call (.ref 219) [.str code tc, .ref a, .ref b]) Q E s :=
  out_call (led := led) (oT := oT) (oU := oU) B F X₀ (fun q hq => (List.mem_cons.mp hq).elim (fun e => e ▸ N _ m1) fun hq => (List.mem_cons.mp hq).elim (fun e => e ▸ N _ m2) (N q)) T hA hf hke hh hroom hun hlc hok hS1 hS2 hS k1.1 k1.2.1 k1.2.2 hU1 hU2 hU k2.1 k2.2.1 k2.2.2
    fun h' tk' F' N' => hQ h' tk' F' fun q hq => N' q (.tail _ (.tail _ hq))
theorem ne_bool_same {b : Bool} (h : Q (.bool false) s) : wpAny (model prog w) A (compareOp .NotEq (.bool b) (.bool b)) Q E s := by
  exact PySem.EqBoolInt.of_rcne (SeqAt.RcNeAt.bool_bool b b) (by rw [show (!(b == b)) = false by simp]; exact h)
theorem method_hooked {K : Frag} {x C : Addr} {ox : Obj} {od : Option Obj} {name : Str} {pl : Sem Bool} {Q : Value × List Value → Shared → Prop} {f : Value} (X : K.In s.heap) (I : InstAt s.heap x ox C od) (hga : findIn K (.ref C) "__getattribute__" = some (some (.builtin "object.__getattribute__")))
    (hk : findIn K (.ref C) "__getattr__" = some (some f)) (h : wpAny (model prog w) A (getAttr (.ref x) name) (fun v s' => Q (v, []) s') E s) : wpAny (model prog w) A (getMethod (.ref x) name pl) Q E s := by
  have hcan := PySem.F.canon_object_ga
  unfold getMethod specialOf
  refine wpAny_bind (wpAny_bind (I.type.here ((looks_findIn X hga).here ?_)))
  dsimp only
  rw [hcan, if_neg (by decide)]
  refine wpAny_bind (wpAny_bind (I.type.here ((looks_findIn X hk).here ?_)))
  refine wpAny_bind (wpAny_mono h (fun v s' z => wpAny_pure z) fun _ _ z => z)
theorem method_here {K : Frag} {x C : Addr} {ox : Obj} {es : List DictEntry} {n : Nat} {name : Str} {v : Value} {attr : Option Value} {pl : Sem Bool} {Q : Value × List Value → Shared → Prop} {f : Value} (F : Fr h₀ L s.heap m) (X₀ : K.In h₀) (I : InstAt s.heap x ox C (some (dictOf es n))) (hg : findIn K (.ref C) "__getattribute__" = some (some (.builtin "object.__getattribute__"))) (hk : findIn K (.ref C) "__getattr__" = some (some f)) (hh : hasDictIn K C = true)
    (ha : findIn K (.ref C) name = some attr) (hn : noGet K attr = true) (hl : getL name es = some (some v)) (hv : handedIn v = true) (h : Q (v, []) { s with toks := s.toks + 1 }) :
    wpAny (model prog w) A (getMethod (.ref x) name pl) Q E s :=
  method_hooked (X₀.keeps F.keep) I hg hk (get_here F X₀ I hg hh ha hn hl hv h)
theorem ign_codeE {env : Env} {outer : List Env} {gd dg op dO sel ign : Addr} {nG nO : Nat} {tO : Tok} {eO : List DictEntry} {oS oI : Obj} {taken left : List Str} {code : Str} {tc : Tok}
    (B : Below A₀ base outer h₀) (F : Fr h₀ L s.heap m) (X₀ : (hd.heap_39 w.params).In h₀) (N : News h₀ L s.heap ((190, tabObj ps) :: (gd, instObj 198 dg) :: (dg, dictOf [⟨PyData.keyHash w.params "options", .str "options" tO, .ref op⟩] nG) :: (op, instObj 154 dO) :: (dO, dictOf eO nO) :: (sel, oS) :: (ign, oI) :: led))
    (T : Top p loose mean mg mb h₀) (hA : A.frames = some (env :: outer)) (hf : env.frame = some L) (hke : env.scope.kind = .function) (hh : A.handled = none) (hroom : A.depth + 5 < recursionLimit) (hun : A.units + 60 < cLine)
    (C : CodeHd h₀ 194 190) (ht : TriplesOk ps.toList) (G : AllBare s.gens)
    (hes : getL "select" eO = some (some (.ref sel))) (hne : ∀ q ∈ ((gd, instObj 198 dg) :: (dg, dictOf [⟨PyData.keyHash w.params "options", .str "options" tO, .ref op⟩] nG) :: (op, instObj 154 dO) :: (dO, dictOf eO nO) :: (sel, oS) :: (ign, oI) :: led), q.1 ≠ 190) (hei : getL "ignore" eO = some (some (.ref ign)))
    (hlc : code.length ≤ 4) (hS : TupAt oS taken) (hI : TupAt oI left) (hT : taken ≠ [] → left = [Str.ofString ""])
    (hQ : ∀ ps' s', AllBare s'.gens → s'.os = s.os → Fr h₀ L s'.heap m → TriplesOk ps'.toList →
      News h₀ L s'.heap ((190, tabObj ps') :: (gd, instObj 198 dg) :: (dg, dictOf [⟨PyData.keyHash w.params "options", .str "options" tO, .ref op⟩] nG) :: (op, instObj 154 dO) :: (dO, dictOf eO nO) :: (sel, oS) :: (ign, oI) :: led) → Q (.bool (outV code taken left)) s') :
    codeAny (model prog w) A (.call (.ref 195) ⟨[.ref gd, .str code tc], []⟩) (fun r s' => match r with | .ok (.ret v) => Q v s' | .ok _ => False | .error e => E e s') s := by
  obtain ⟨c1, v1, n1, d1, i1⟩ := hS
  obtain ⟨c2, v2, n2, d2, i2⟩ := hI
  refine ign_code B F X₀ N T hA hf hke hh hroom hun C ht G hes hne hei hlc c1 d1 i1 c2 d2 i2 ?_
  rw [ign_out hT]
  exact hQ
theorem ign_callE {env : Env} {outer : List Env} {gd dg op dO sel ign : Addr} {nG nO : Nat} {tO : Tok} {eO : List DictEntry} {oS oI : Obj} {taken left : List Str} {code : Str} {tc : Tok}
    (B : Below A₀ base outer h₀) (F : Fr h₀ L s.heap m) (X₀ : (hd.heap_39 w.params).In h₀) (N : News h₀ L s.heap ((190, tabObj ps) :: (gd, instObj 198 dg) :: (dg, dictOf [⟨PyData.keyHash w.params "options", .str "options" tO, .ref op⟩] nG) :: (op, instObj 154 dO) :: (dO, dictOf eO nO) :: (sel, oS) :: (ign, oI) :: led))
    (T : Top p loose mean mg mb h₀) (hA : A.frames = some (env :: outer)) (hf : env.frame = some L) (hke : env.scope.kind = .function) (hh : A.handled = none) (hroom : A.depth + 5 < recursionLimit) (hun : A.units + 60 < cLine)
    (C : CodeHd h₀ 194 190) (ht : TriplesOk ps.toList) (G : AllBare s.gens)
    (hes : getL "select" eO = some (some (.ref sel))) (hne : ∀ q ∈ ((gd, instObj 198 dg) :: (dg, dictOf [⟨PyData.keyHash w.params "options", .str "options" tO, .ref op⟩] nG) :: (op, instObj 154 dO) :: (dO, dictOf eO nO) :: (sel, oS) :: (ign, oI) :: led), q.1 ≠ 190) (hei : getL "ignore" eO = some (some (.ref ign)))
    (hlc : code.length ≤ 4) (hS : TupAt oS taken) (hI : TupAt oI left) (hT : taken ≠ [] → left = [Str.ofString ""])
    (hQ : ∀ ps' s', AllBare s'.gens → s'.os = s.os → Fr h₀ L s'.heap m → TriplesOk ps'.toList →
      News h₀ L s'.heap ((190, tabObj ps') :: (gd, instObj 198 dg) :: (dg, dictOf [⟨PyData.keyHash w.params "options", .str "options" tO, .ref op⟩] nG) :: (op, instObj 154 dO) :: (dO, dictOf eO nO) :: (sel, oS) :: (ign, oI) :: led) → Q (.bool (outV code taken left)) s') :
    wpAny (model prog w) A (call (.ref 195) [.ref gd, .str code tc]) Q E s :=
  wpAny_call (ign_codeE B F X₀ N T hA hf hke hh hroom hun C ht G hes hne hei hlc hS hI hT hQ)
theorem ign_methE {env : Env} {outer : List Env} {gd dg op dO sel ign iq : Addr} {nG nO : Nat} {tO : Tok} {eO : List DictEntry} {oS oI : Obj} {taken left : List Str} {code : Str} {tc : Tok}
    (B : Below A₀ base outer h₀) (F : Fr h₀ L s.heap m) (X₀ : (hd.heap_39 w.params).In h₀) (N : News h₀ L s.heap ((190, tabObj ps) :: (gd, instObj 198 dg) :: (dg, dictOf [⟨PyData.keyHash w.params "options", .str "options" tO, .ref op⟩] nG) :: (op, instObj 154 dO) :: (dO, dictOf eO nO) :: (sel, oS) :: (ign, oI) :: led))
    (T : Top p loose mean mg mb h₀) (hA : A.frames = some (env :: outer)) (hf : env.frame = some L) (hke : env.scope.kind = .function) (hh : A.handled = none) (hroom : A.depth + 5 < recursionLimit) (hun : A.units + 60 < cLine)
    (C : CodeHd h₀ 194 190) (ht : TriplesOk ps.toList) (G : AllBare s.gens)
    (hes : getL "select" eO = some (some (.ref sel))) (hne : ∀ q ∈ ((gd, instObj 198 dg) :: (dg, dictOf [⟨PyData.keyHash w.params "options", .str "options" tO, .ref op⟩] nG) :: (op, instObj 154 dO) :: (dO, dictOf eO nO) :: (sel, oS) :: (ign, oI) :: led), q.1 ≠ 190) (hei : getL "ignore" eO = some (some (.ref ign)))
    (hlc : code.length ≤ 4) (hS : TupAt oS taken) (hI : TupAt oI left) (hT : taken ≠ [] → left = [Str.ofString ""])
    (hq : (iq, methodObj (.ref 195) (.ref gd)) ∈ led)
    (hQ : ∀ ps' s', AllBare s'.gens → s'.os = s.os → Fr h₀ L s'.heap m → TriplesOk ps'.toList →
      News h₀ L s'.heap ((190, tabObj ps') :: (gd, instObj 198 dg) :: (dg, dictOf [⟨PyData.keyHash w.params "options", .str "options" tO, .ref op⟩] nG) :: (op, instObj 154 dO) :: (dO, dictOf eO nO) :: (sel, oS) :: (ign, oI) :: led) → Q (.bool (outV code taken left)) s') :
    wpAny (model prog w) A (call (.ref iq) [.str code tc]) Q E s :=
  call_meth N (.tail _ (.tail _ (.tail _ (.tail _ (.tail _ (.tail _ (.tail _ hq))))))) (ign_codeE B F X₀ N T hA hf hke hh hroom hun C ht G hes hne hei hlc hS hI hT hQ)
end
end Mine
end

section
open PySem PySem.Spec PySem.Calls PySem.W PyProof.Rows
set_option Elab.async false
set_option maxRecDepth 100000
set_option maxHeartbeats 1000000
namespace Mine
local macro_rules | `(tactic| walk_at "NO SUCH NODE") => `(tactic| fail)
local macro_rules | `(tactic| walk_at "NO SUCH NODE") => `(tactic| fail)
local macro_rules | `(tactic| walk_at "NO SUCH NODE") => `(tactic| fail)
local macro_rules | `(tactic| walk_at "NO SUCH NODE") => `(tactic| fail)
local macro_rules | `(tactic| walk_at "NO SUCH NODE") => `(tactic| fail)
local macro_rules | `(tactic| walk_at "NO SUCH NODE") => `(tactic| fail)
local macro_rules | `(tactic| walk_at "NO SUCH NODE") => `(tactic| fail)
local macro_rules | `(tactic| walk_at "NO SUCH NODE") => `(tactic| fail)
local macro_rules | `(tactic| walk_at "NO SUCH NODE") => `(tactic| fail)
theorem fill_here8 : (fun (_ : OpenLaw) (_ : Params → Frag) => True) PySem.Challenge.rw_bg5017_01 Mine.hd.heap_39 := by
  w_top off
  k_fill
  trivial
local macro_rules | `(tactic| walk_at "ite") => `(tactic| (first | (with_reducible refine ite_ff ?_) | (with_reducible refine ite_tt ?_)))
local macro_rules | `(tactic| walk_at "getAttr ref") => `(tactic| (k_here; k_dflt (refine' get_here ?k1 ?k2 ?k3 ?k4 ?k5 ?k6 ?k7 ?k8 ?k9 ?_; (case k1 => k_asm); (case k2 => k_asm); (case k3 => k_inst); (case k4 => k_is); (case k5 => k_is); (case k6 => k_is); (case k7 => k_is); (case k8 => first | assumption | k_get); (case k9 => k_handed); k_whole)))
local macro_rules | `(tactic| walk_at "call ref") => `(tactic| (k_here; (with_reducible show wpAny _ _ (call (Value.ref 219) _) _ _ _); k_dflt (refine' out_callU ?B ?F ?X ?N ?T ?hA ?hf ?hke ?hh ?hroom ?hun ?m1 ?m2 ?hlc ?hok ?s1 ?s2 ?s3 ?k1 ?u1 ?u2 ?u3 ?k2 ?_; (case B => k_asm); (case F => k_asm); (case X => k_asm); (case N => k_asm); (case T => k_asm); (case hA => exact rfl); (case hf => exact rfl); (case hke => exact rfl); (case hh => exact rfl); (case hroom => exact Nat.le_of_ble_eq_true rfl); (case hun => exact Nat.le_of_ble_eq_true rfl); (case m1 => k_mem); (case m2 => k_mem); (case hlc => assumption); (case hok => assumption); (case s1 => assumption); (case s2 => assumption); (case s3 => assumption); (case k1 => assumption); (case u1 => assumption); (case u2 => assumption); (case u3 => assumption); (case k2 => assumption)); intro h9 tk9 F9 N9; (try dsimp only)))
local macro_rules | `(tactic| walk_at "call ref") => `(tactic| (k_here; (with_reducible show wpAny _ _ (call (Value.ref 195) _) _ _ _); k_dflt (refine' ign_callE ?B ?F ?X ?N ?T ?hA ?hf ?hke ?hh ?hroom ?hun ?C ?ht ?G ?hes ?hne ?hei ?hlc ?hS ?hI ?hT ?_; (case B => k_asm); (case F => k_asm); (case X => k_asm); (case N => k_asm); (case T => k_asm); (case hA => exact rfl); (case hf => exact rfl); (case hke => exact rfl); (case hh => exact rfl); (case hroom => exact Nat.le_of_ble_eq_true rfl); (case hun => exact Nat.le_of_ble_eq_true rfl); (case C => assumption); (case ht => assumption); (case G => assumption); (case hes => assumption); (case hne => assumption); (case hei => assumption); (case hlc => assumption); (case hS => assumption); (case hI => assumption); (case hT => assumption)); intro ps9 s9 G9 os9 F9 ht9 N9))
local macro_rules | `(tactic| walk_at "compareOp NotEq bool bool") => `(tactic| (with_reducible refine ne_bool_same ?_))
local macro_rules | `(tactic| walk_at "subscriptTail Name") => `(tactic| (k_here; (with_reducible rename (∀ v, v ∈ _ → ∃ c tc, v = Value.str c tc ∧ _) => hCx); k_dflt (refine' menu ?N ?hm ?h0 ?h1 ?hfit ?_ ?hs; (case N => k_asm); (case hm => k_mem); (case h0 => assumption); (case h1 => assumption); (case hfit => omega); (case hs => with_unfolding_all rfl)); intro v9 hv9; (obtain ⟨c9, tc9, e9, hc4, hcok⟩ := hCx v9 hv9); subst e9))
local macro_rules | `(tactic| walk_at "getMethod ref") => `(tactic| (k_here; k_dflt (refine' method_here ?k1 ?k2 ?k3 ?k4 ?kk ?k5 ?k6 ?k7 ?k8 ?k9 ?_; (case k1 => k_asm); (case k2 => k_asm); (case k3 => k_inst); (case k4 => k_is); (case kk => k_is); (case k5 => k_is); (case k6 => k_is); (case k7 => k_is); (case k8 => first | assumption | k_get); (case k9 => k_handed); k_whole)))
local macro_rules | `(tactic| walk_at "call ref") => `(tactic| (k_here; (with_reducible show wpAny _ _ (call (Value.ref _) [Value.str _ _]) _ _ _); k_dflt (refine' ign_methE ?B ?F ?X ?N ?T ?hA ?hf ?hke ?hh ?hroom ?hun ?C ?ht ?G ?hes ?hne ?hei ?hlc ?hS ?hI ?hT ?hq ?_; (case B => k_asm); (case F => k_asm); (case X => k_asm); (case N => k_asm); (case T => k_asm); (case hA => exact rfl); (case hf => exact rfl); (case hke => exact rfl); (case hh => exact rfl); (case hroom => exact Nat.le_of_ble_eq_true rfl); (case hun => exact Nat.le_of_ble_eq_true rfl); (case C => assumption); (case ht => assumption); (case G => assumption); (case hes => assumption); (case hne => assumption); (case hei => assumption); (case hlc => assumption); (case hS => assumption); (case hI => assumption); (case hT => assumption); (case hq => k_mem)); intro ps9 s9 G9 os9 F9 ht9 N9))
section
variable {w : World} {E : Value → Shared → Prop} {s : Shared} {L fa sc : Addr} {cd : Value} {Q : Flow → Shared → Prop} {h₀ : Heap} {mg mb : Str → Option Value} {p : Program} {loose : List Str} {mean : ExcName → Option Value}
theorem law_turn {cs lf tkn gd dg op dO sel ign iq std st it : Addr} {v1 v2 : Value} {k r3 : Int} {t tr tO : Tok} {nG nO : Nat} {eO : List DictEntry} {oS oI oT oL oIt : Obj} {vC : List Value} {ps : Array Value} {taken left : List Str} {u : Str → Option Value} {vT vL : List Value} {nT nL : Nat}
    (F : Fr h₀ L s.heap (fun y => if y = Str.ofString "at" then some (.int k t) else lawU u (lawL cs lf tkn gd op v1 v2 r3 tr std st sc) y))
    (N : News h₀ L s.heap (lawLed w.params ps gd dg op dO sel ign tkn lf cs iq tO nG nO eO oS oI oT oL vC it oIt))
    (X : (hd.heap_39 w.params).In h₀) (T : Top p loose mean mg mb h₀) (B : Below callerA h₀ [] h₀) (C : CodeHd h₀ 194 190)
    (G : AllBare s.gens) (ht : TriplesOk ps.toList)
    (hne : ∀ q ∈ ((gd, instObj 198 dg) :: (dg, dictOf [⟨PyData.keyHash w.params (Str.ofString "options"), .str (Str.ofString "options") tO, .ref op⟩] nG) :: (op, instObj 154 dO) :: (dO, dictOf eO nO) :: (sel, oS) :: (ign, oI) :: (tkn, oT) :: (lf, oL) :: (cs, W.listOf vC.toArray 0) :: (iq, methodObj (.ref 195) (.ref gd)) :: [(it, oIt)]), q.1 ≠ 190)
    (hes : getL "select" eO = some (some (.ref sel))) (hei : getL "ignore" eO = some (some (.ref ign))) (heq : getL "ignore_code" eO = some (some (.ref iq)))
    (hS : TupAt oS taken) (hI : TupAt oI left) (cT : oT.cls = .type "tuple") (dT : oT.data = .seq vT.toArray nT) (iT : StrsAre vT taken) (cL : oL.cls = .type "tuple") (dL : oL.data = .seq vL.toArray nL) (iL : StrsAre vL left)
    (kT : TxtsOk taken) (kL : TxtsOk left) (hTL : taken ≠ [] → left = [Str.ofString ""])
    (hC : ∀ v ∈ vC, ∃ c tc, v = .str c tc ∧ c.length ≤ 4 ∧ PyData.strOk c = true) (hCl : vC.length = 16)
    (k0 : 0 ≤ k) (k1 : k < 16) (r0 : 0 ≤ r3) (r1 : r3 < 16)
    (hQ : ∀ ps' u' s', AllBare s'.gens → s'.os = s.os → TriplesOk ps'.toList → Fr h₀ L s'.heap (lawU u' (lawL cs lf tkn gd op v1 v2 r3 tr std st sc)) → News h₀ L s'.heap (lawLed w.params ps' gd dg op dO sel ign tkn lf cs iq tO nG nO eO oS oI oT oL vC it oIt) → Q .next s') :
    wpAny (model PySem.Challenge.pw_bg5017_01 w) (callerA.deeper (envOf (Str.ofString "law") lawParts.2 L fa cd)) (execs loopBody (envOf (Str.ofString "law") lawParts.2 L fa cd)) Q E s := by
  conv in loopBody => whnf
  conv in (occs := *) lawParts.2 => all_goals whnf
  dsimp only [lawLed] at N
  have q0 : 0 ≤ (k + r3).fmod 16 := Int.fmod_nonneg_of_pos _ (by decide)
  have q2 : (k + r3).fmod 16 < 16 := Int.fmod_lt_of_pos _ (by decide)
  have q1 : (k + r3).fmod 16 < (vC.length : Int) := by rw [hCl]; exact q2
  (try k_fold)
  repeat' (first | (k_unfold; (try dsimp only)) | walk1 | (dsimp only; walk1))
  refine hQ _ _ _ (by assumption) ?_ (by assumption) (fr_lawU (by assumption) ?_) (by assumption)
  · refine Eq.trans (by assumption) ?_
    refine Eq.trans (by assumption) rfl
  · intro y a b c
    simp only [lawU, if_neg a, if_neg b, if_neg c]
end
end Mine
end

section
open PySem PySem.Spec PySem.Calls PySem.W PyProof.Rows
set_option Elab.async false
set_option maxRecDepth 100000
set_option maxHeartbeats 1000000
namespace Mine
theorem fill_here9 : (fun (_ : OpenLaw) (_ : Params → Frag) => True) PySem.Challenge.rw_bg5017_01 Mine.hd.heap_39 := by
  w_top off
  k_fill
  trivial
local macro_rules | `(tactic| walk_at "getAttr ref") => `(tactic| (k_here; k_dflt (refine' get_here ?k1 ?k2 ?k3 ?k4 ?k5 ?k6 ?k7 ?k8 ?k9 ?_; (case k1 => k_asm); (case k2 => k_asm); (case k3 => k_inst); (case k4 => k_is); (case k5 => k_is); (case k6 => k_is); (case k7 => k_is); (case k8 => first | assumption | k_get); (case k9 => k_handed); k_whole)))
local macro_rules | `(tactic| walk_at "compareOp Eq ref ref") => `(tactic| (k_here; k_dflt (refine' eq_tupE ?ha ?hb ?a1 ?b1 ?a2 ?b2 ?hi ?hj ?ht ?hu ?_; (case ha => exact News.get (by k_asm) (by k_mem)); (case hb => exact News.get (by k_asm) (by k_mem)); (case a1 => assumption); (case b1 => assumption); (case a2 => assumption); (case b2 => assumption); (case hi => assumption); (case hj => assumption); (case ht => exact (by assumption : TxtsOk _).2.1); (case hu => exact Nat.le_of_ble_eq_true rfl))))
theorem fr_ext {h₀ h h' : Heap} {L d : Addr} {m : Str → Option Value} (F : Fr h₀ L h m) (hx : Heap.ExtBut d h h') (hL : d ≠ L) (hn : h₀.get? d = none) : Fr h₀ L h' m :=
  ⟨F.ns.at' fun o e => hx _ _ hL.symm e, fun b o e => hx b o (fun q => by rw [q, hn] at e; cases e) (F.keep b o e), F.above⟩
def rangeIt (i : Int) : Obj := { cls := .type "range_iterator", data := .fields #[rawInt i, rawInt (16 - i), rawInt 1] }
theorem news_at {h₀ h h' : Heap} {L d : Addr} {own : List (Addr × Obj)} {o o' : Obj} (N : News h₀ L h (own ++ [(d, o)])) (h1 : ∀ p ∈ own, p.1 ≠ d) (hs : Heap.SameBut d h h') (ho : h'.get? d = some o') : News h₀ L h' (own ++ [(d, o')]) := by
  intro q hq
  rcases List.mem_append.mp hq with hq | hq
  · have z := N q (List.mem_append_left _ hq)
    exact ⟨(hs.2 q.1 (h1 q hq)).trans z.1, z.2⟩
  · rw [List.mem_singleton.mp hq]
    have z := N (d, o) (List.mem_append_right _ (List.mem_singleton.mpr rfl))
    exact ⟨ho, z.2⟩
section
variable {w : World} {E : Value → Shared → Prop} {s : Shared} {L fa sc : Addr} {cd : Value} {Q : Flow → Shared → Prop} {h₀ : Heap} {mg mb : Str → Option Value} {p : Program} {loose : List Str} {mean : ExcName → Option Value}
theorem law_loop {cs lf tkn gd dg op dO sel ign iq std st : Addr} {v1 v2 : Value} {r3 : Int} {tr tO : Tok} {nG nO : Nat} {eO : List DictEntry} {oS oI oT oL : Obj} {vC : List Value} {ps : Array Value} {taken left : List Str} {vT vL : List Value} {nT nL : Nat}
    (F : Fr h₀ L s.heap (lawL cs lf tkn gd op v1 v2 r3 tr std st sc))
    (N : News h₀ L s.heap [(190, tabObj ps), (gd, instObj 198 dg), (dg, dictOf [⟨PyData.keyHash w.params (Str.ofString "options"), .str (Str.ofString "options") tO, .ref op⟩] nG), (op, instObj 154 dO), (dO, dictOf eO nO), (sel, oS), (ign, oI), (tkn, oT), (lf, oL), (cs, W.listOf vC.toArray 0), (iq, methodObj (.ref 195) (.ref gd))])
    (X : (hd.heap_39 w.params).In h₀) (T : Top p loose mean mg mb h₀) (B : Below callerA h₀ [] h₀) (C : CodeHd h₀ 194 190)
    (G : AllBare s.gens) (ht : TriplesOk ps.toList)
    (hne : ∀ q ∈ [(gd, instObj 198 dg), (dg, dictOf [⟨PyData.keyHash w.params (Str.ofString "options"), .str (Str.ofString "options") tO, .ref op⟩] nG), (op, instObj 154 dO), (dO, dictOf eO nO), (sel, oS), (ign, oI), (tkn, oT), (lf, oL), (cs, W.listOf vC.toArray 0), (iq, methodObj (.ref 195) (.ref gd))], q.1 ≠ 190)
    (hes : getL "select" eO = some (some (.ref sel))) (hei : getL "ignore" eO = some (some (.ref ign))) (heq : getL "ignore_code" eO = some (some (.ref iq)))
    (hS : TupAt oS taken) (hI : TupAt oI left) (cT : oT.cls = .type "tuple") (dT : oT.data = .seq vT.toArray nT) (iT : StrsAre vT taken) (cL : oL.cls = .type "tuple") (dL : oL.data = .seq vL.toArray nL) (iL : StrsAre vL left)
    (kT : TxtsOk taken) (kL : TxtsOk left) (hTL : taken ≠ [] → left = [Str.ofString ""])
    (hC : ∀ v ∈ vC, ∃ c tc, v = .str c tc ∧ c.length ≤ 4 ∧ PyData.strOk c = true) (hCl : vC.length = 16)
    (r0 : 0 ≤ r3) (r1 : r3 < 16)
    (hQ : ∀ s', AllBare s'.gens → s'.os = s.os → (∀ b o, h₀.get? b = some o → s'.heap.get? b = some o) → (∃ ps, s'.heap.get? 190 = some (tabObj ps)) → Q (.ret (.bool true)) s') :
    wpAny (model PySem.Challenge.pw_bg5017_01 w) (callerA.deeper (envOf (Str.ofString "law") lawParts.2 L fa cd)) (execs (lawParts.1.drop 13) (envOf (Str.ofString "law") lawParts.2 L fa cd)) Q E s := by
  conv in (List.drop _ _) => whnf
  conv in (occs := *) lawParts.2 => all_goals whnf
  (try k_fold)
  iterate 1 walk1
  refine wpAny_For ?_ ?_
  rotate_left
  · intro _; rfl
  iterate 7 walk1
  rename_i h1 tk t1 u1 w1 hr F1 N1 K1
  have ap := News.apart N1
  have e16 : Builtin.Range.rangeSize 0 16 1 = 16 := by decide
  refine wpAny_pyIter_range hr (by decide) ?_
  rw [e16]
  refine codeAny_forLoop (fun n s' => ∃ (i : Int) (ps' : Array Value) (u' : Str → Option Value), 0 ≤ i ∧ i + n = 16 ∧ AllBare s'.gens ∧ s'.os = s.os ∧ TriplesOk ps'.toList ∧ Fr h₀ L s'.heap (lawU u' (lawL cs lf tkn gd op v1 v2 r3 tr std st sc)) ∧
    News h₀ L s'.heap (lawLed w.params ps' gd dg op dO sel ign tkn lf cs iq tO nG nO eO oS oI oT oL vC h1.objs.size (rangeIt i))) ?_ 16 ?_
  · rintro n s' ⟨i, ps', u', i0, i1, G', o', t', F', N'⟩
    cases n with
    | zero =>
      refine wpAny_pyNext_range_end (x := i) (left := 16 - i) (step := 1) rfl (News.get N' (by k_mem)) (by omega) fun h2 hx => ?_
      have hf2 := fun q hq => (N' q hq).2
      have hi2 := (N' (h1.objs.size, rangeIt i) (by k_mem)).2
      have F2 := fr_ext F' hx hi2.1 hi2.2
      have N2 : News h₀ L h2 [(190, tabObj ps'), (gd, instObj 198 dg), (dg, dictOf [⟨PyData.keyHash w.params (Str.ofString "options"), .str (Str.ofString "options") tO, .ref op⟩] nG), (op, instObj 154 dO), (dO, dictOf eO nO), (sel, oS), (ign, oI), (tkn, oT), (lf, oL), (cs, W.listOf vC.toArray 0), (iq, methodObj (.ref 195) (.ref gd))] := by
        intro q hq
        have z := N' q (List.mem_append_left [(h1.objs.size, rangeIt i)] hq)
        refine ⟨hx _ _ ?_ z.1, z.2⟩
        rcases List.mem_cons.mp hq with rfl | hq
        · exact ap (190, tabObj ps) (.head _)
        · exact ap q (.tail _ hq)
      clear F' N' F1 N1 hf2 hi2
      obtain ⟨cS, vS, nS, dS, iS⟩ := hS
      obtain ⟨cI, vI, nI, dI, iI⟩ := hI
      dsimp only
      repeat' (first | (k_unfold; (try dsimp only)) | walk1 | (dsimp only; walk1))
      exact hQ _ G' o' (fun b o e => Fr.keep (by assumption) b o e) ⟨ps', News.get (by assumption) (.head _)⟩
    | succ n =>
      refine wpAny_pyNext_range_item (x := i) (left := 16 - i) (step := 1) (News.get N' (by k_mem)) (by omega) fun h2 hit2 hs2 => ?_
      have F2 := F'.change hs2 (N' (h1.objs.size, rangeIt i) (by k_mem)).2.1 (N' (h1.objs.size, rangeIt i) (by k_mem)).2.2
      have N2 : News h₀ L h2 (lawLed w.params ps' gd dg op dO sel ign tkn lf cs iq tO nG nO eO oS oI oT oL vC h1.objs.size (rangeIt (i + 1))) := by
        refine news_at (own := [(190, tabObj ps'), (gd, instObj 198 dg), (dg, dictOf [⟨PyData.keyHash w.params (Str.ofString "options"), .str (Str.ofString "options") tO, .ref op⟩] nG), (op, instObj 154 dO), (dO, dictOf eO nO), (sel, oS), (ign, oI), (tkn, oT), (lf, oL), (cs, W.listOf vC.toArray 0), (iq, methodObj (.ref 195) (.ref gd))]) N' ?_ hs2 ?_
        · intro q hq
          rcases List.mem_cons.mp hq with rfl | hq
          · exact ap (190, tabObj ps) (.head _)
          · exact ap q (.tail _ hq)
        · have e : (16 - i - 1 : Int) = 16 - (i + 1) := by omega
          rw [e] at hit2
          exact hit2
      dsimp only
      clear F' N' F1 N1
      iterate 2 walk1
      refine law_turn (by assumption) (by assumption) X T B C G' t' ?_ hes hei heq hS hI cT dT iT cL dL iL kT kL hTL hC hCl i0 (by omega) r0 r1 fun ps2 u2 s2 G2 o2 t2 F3 N3 => ⟨n, Nat.lt_succ_self n, i + 1, ps2, u2, by omega, by omega, G2, o2.trans o', t2, F3, N3⟩
      intro q hq
      rcases List.mem_append.mp (show q ∈ [(gd, instObj 198 dg), (dg, dictOf [⟨PyData.keyHash w.params (Str.ofString "options"), .str (Str.ofString "options") tO, .ref op⟩] nG), (op, instObj 154 dO), (dO, dictOf eO nO), (sel, oS), (ign, oI), (tkn, oT), (lf, oL), (cs, W.listOf vC.toArray 0), (iq, methodObj (.ref 195) (.ref gd))] ++ [(h1.objs.size, rangeIt (i + 1))] from hq) with hq | hq
      · exact hne q hq
      · rw [List.mem_singleton.mp hq]
        exact (ap (190, tabObj ps) (.head _)).symm
  · refine ⟨0, ps, lawL cs lf tkn gd op v1 v2 r3 tr std st sc, by decide, by decide, G, rfl, ht, ?_, ?_⟩
    · exact fr_lawU (F1.push _) fun _ _ _ _ => rfl
    · intro q hq
      rcases List.mem_append.mp (show q ∈ [(190, tabObj ps), (gd, instObj 198 dg), (dg, dictOf [⟨PyData.keyHash w.params (Str.ofString "options"), .str (Str.ofString "options") tO, .ref op⟩] nG), (op, instObj 154 dO), (dO, dictOf eO nO), (sel, oS), (ign, oI), (tkn, oT), (lf, oL), (cs, W.listOf vC.toArray 0), (iq, methodObj (.ref 195) (.ref gd))] ++ [(h1.objs.size, rangeIt 0)] from hq) with hq | hq
      · exact (N1.push F1 _) q (.tail _ hq)
      · rw [List.mem_singleton.mp hq]
        exact (N1.push F1 _) _ (.head _)
theorem news_cons {h₀ h : Heap} {L : Addr} {q : Addr × Obj} {big small : List (Addr × Obj)} (N : News h₀ L h big) (hm : q ∈ big) (r : News h₀ L h small) : News h₀ L h (q :: small) := fun x hx => (List.mem_cons.mp hx).elim (fun e => e ▸ N _ hm) (r x)
theorem ne_cons {d : Addr} {q : Addr × Obj} {small : List (Addr × Obj)} (hm : @Ne Nat q.1 d) (r : ∀ x ∈ small, x.1 ≠ d) : ∀ x ∈ q :: small, x.1 ≠ d := fun x hx => (List.mem_cons.mp hx).elim (fun e => e ▸ hm) (r x)
theorem codes_ok {vC : List Value} {cs : List Str} (h : StrsAre vC cs) (hk : ∀ c ∈ cs, c.length ≤ 4 ∧ PyData.strOk c = true) : ∀ v ∈ vC, ∃ c tc, v = .str c tc ∧ c.length ≤ 4 ∧ PyData.strOk c = true := by
  induction h with
  | nil => intro v hv; cases hv
  | cons y t r ih =>
    intro v hv
    rcases List.mem_cons.mp hv with rfl | hv
    · exact ⟨y, t, rfl, hk y (.head _)⟩
    · exact ih (fun c hc => hk c (.tail _ hc)) v hv
theorem law_loopU {led : List (Addr × Obj)} {cs lf tkn gd dg op dO sel ign iq std st : Addr} {v1 v2 : Value} {r3 : Int} {tr tO : Tok} {nG nO : Nat} {eO : List DictEntry} {oS oI oT oL : Obj} {vC : List Value} {cC : List Str} {ps : Array Value} {taken left : List Str}
    (F : Fr h₀ L s.heap (lawL cs lf tkn gd op v1 v2 r3 tr std st sc)) (N : News h₀ L s.heap led)
    (X : (hd.heap_39 w.params).In h₀) (T : Top p loose mean mg mb h₀) (B : Below callerA h₀ [] h₀) (C : CodeHd h₀ 194 190)
    (G : AllBare s.gens) (m1 : (190, tabObj ps) ∈ led) (ht : TriplesOk ps.toList)
    (m2 : (gd, instObj 198 dg) ∈ led) (m3 : (dg, dictOf [⟨PyData.keyHash w.params (Str.ofString "options"), .str (Str.ofString "options") tO, .ref op⟩] nG) ∈ led) (m4 : (op, instObj 154 dO) ∈ led) (m5 : (dO, dictOf eO nO) ∈ led)
    (hes : getL "select" eO = some (some (.ref sel))) (m6 : (sel, oS) ∈ led) (hei : getL "ignore" eO = some (some (.ref ign))) (m7 : (ign, oI) ∈ led) (heq : getL "ignore_code" eO = some (some (.ref iq)))
    (m8 : (tkn, oT) ∈ led) (m9 : (lf, oL) ∈ led) (m10 : (cs, W.listOf vC.toArray 0) ∈ led) (m11 : (iq, methodObj (.ref 195) (.ref gd)) ∈ led)
    (n2 : @Ne Nat gd 190) (n3 : @Ne Nat dg 190) (n4 : @Ne Nat op 190) (n5 : @Ne Nat dO 190) (n6 : @Ne Nat sel 190) (n7 : @Ne Nat ign 190) (n8 : @Ne Nat tkn 190) (n9 : @Ne Nat lf 190) (n10 : @Ne Nat cs 190) (n11 : @Ne Nat iq 190)
    (hS : TupAt oS taken) (hI : TupAt oI left) (hT : TupAt oT taken) (hL : TupAt oL left)
    (kT : TxtsOk taken) (kL : TxtsOk left) (hTL : taken ≠ [] → left = [Str.ofString ""])
    (hC : StrsAre vC cC) (hCk : ∀ c ∈ cC, c.length ≤ 4 ∧ PyData.strOk c = true) (hCl : vC.length = 16)
    (r0 : 0 ≤ r3) (r1 : r3 < 16)
    (hQ : ∀ s', AllBare s'.gens → s'.os = s.os → (∀ b o, h₀.get? b = some o → s'.heap.get? b = some o) → (∃ ps, s'.heap.get? 190 = some (tabObj ps)) → Q (.ret (.bool true)) s') :
    wpAny (model PySem.Challenge.pw_bg5017_01 w) (callerA.deeper (envOf (Str.ofString "law") lawParts.2 L fa cd)) (execs (lawParts.1.drop 13) (envOf (Str.ofString "law") lawParts.2 L fa cd)) Q E s := by
  obtain ⟨cT, vT, nT, dT, iT⟩ := hT
  obtain ⟨cL, vL, nL, dL, iL⟩ := hL
  exact law_loop F (news_cons N m1 (news_cons N m2 (news_cons N m3 (news_cons N m4 (news_cons N m5 (news_cons N m6 (news_cons N m7 (news_cons N m8 (news_cons N m9 (news_cons N m10 (news_cons N m11 News.nil))))))))))) X T B C G ht
    (ne_cons n2 (ne_cons n3 (ne_cons n4 (ne_cons n5 (ne_cons n6 (ne_cons n7 (ne_cons n8 (ne_cons n9 (ne_cons n10 (ne_cons n11 fun x hx => nomatch hx)))))))))) hes hei heq hS hI cT dT iT cL dL iL kT kL hTL (codes_ok hC hCk) hCl r0 r1 hQ
end
end Mine
end

section
open PySem PySem.Spec PySem.Calls PySem.W PyProof.Rows
set_option Elab.async false
set_option maxRecDepth 100000
set_option maxHeartbeats 1000000
namespace Mine
local macro_rules | `(tactic| walk_at "NO SUCH NODE") => `(tactic| fail)
local macro_rules | `(tactic| walk_at "NO SUCH NODE") => `(tactic| fail)
local macro_rules | `(tactic| walk_at "NO SUCH NODE") => `(tactic| fail)
theorem fill_here6 : (fun (_ : OpenLaw) (_ : Params → Frag) => True) PySem.Challenge.rw_bg5017_01 Mine.hd.heap_39 := by
  w_top off
  k_fill
  trivial
local macro_rules | `(tactic| walk_at "ite") => `(tactic| (first | (with_reducible refine ite_ff ?_) | (with_reducible refine ite_tt ?_)))
local macro_rules | `(tactic| walk_at "call ref") => `(tactic| (k_here; (with_reducible show wpAny _ _ (call (Value.ref 209) _) _ _ _); k_dflt (refine' next_callU ?B ?F ?X ?N ?T ?hA ?hf ?hke ?hh ?hroom ?hun ?U ?hm ?hi ?hln ?hi0 ?hi1 ?hv0 ?hv1 ?hm0 ?hm1 ?_; (case B => k_asm); (case F => k_asm); (case X => k_asm); (case N => k_asm); (case T => k_asm); (case hA => exact rfl); (case hf => exact rfl); (case hke => exact rfl); (case hh => exact rfl); (case hroom => exact Nat.le_of_ble_eq_true rfl); (case hun => exact Nat.le_of_ble_eq_true rfl); (case U => k_updF); (case hm => k_mem); (case hi => assumption); (case hln => assumption); (case hi0 => first | assumption | decide); (case hi1 => first | assumption | decide); (case hv0 => first | assumption | decide); (case hv1 => first | assumption | decide); (case hm0 => decide); (case hm1 => decide)); intro h9 tk9 r9 t9 i9 t19 v9 t29 k9 F9 N9 r90 r91 i90 i91 v90 v91; (try dsimp only at N9 ⊢)))
local macro_rules | `(tactic| k_enter) => `(tactic| (kp_kind "more"; (refine' enter_more ?k1 ?k2 ?k3 ?k4 ?k5 ?kA ?kF ?kK ?k6 ?k7 ?k8 ?kX ?kM ?kN ?kR ?kP ?kT ?kB ?_ ?c2 ?c3 ?c4 ?c5; (case kA => exact rfl); (case kF => exact rfl); (case kK => exact rfl); (case k1 => k_asm); (case k2 => k_asm); (case k3 => k_asm); (case k4 => k_asm); (case k5 => k_asm); (case k6 => k_is); (case k7 => k_is); (case k8 => k_room); (case kX => kp_lit); (case kM => exact rfl); (case kN => exact rfl); (case kR => exact rfl); (case kP => exact rfl); (case kT => exact fun _ => rfl); (case kB => exact fun _ => locs rfl); (case c5 => decide); (case c2 => exact rfl); (case c3 => exact rfl); (case c4 => exact rfl); k_whole; intro D' t' g' L' h' tk' l1 FG' F' N' B' X' T'; (try k_lt l1); (try dsimp only [kwEs, List.length_cons, List.length_nil] at N'); (try dsimp only); (try k_lift B'); (try k_fold))))
local macro_rules | `(tactic| walk_at "getAttr ref") => `(tactic| (k_here; k_dflt (refine' get_hookF ?k1 ?k2 ?k3 ?k4 ?k5 ?k6 ?k7 ?k8 ?k9 ?k10 ?_; (case k1 => k_asm); (case k2 => k_asm); (case k3 => k_inst); (case k4 => k_is); (case k5 => k_is); (case k6 => k_is); (case k7 => decide +kernel); (case k8 => k_get); (case k9 => k_is); (case k10 => k_is); k_whole)))
local macro_rules | `(tactic| walk_at "getAttr ref") => `(tactic| (k_here; k_dflt (refine' get_here ?k1 ?k2 ?k3 ?k4 ?k5 ?k6 ?k7 ?k8 ?k9 ?_; (case k1 => k_asm); (case k2 => k_asm); (case k3 => k_inst); (case k4 => k_is); (case k5 => k_is); (case k6 => k_is); (case k7 => k_is); (case k8 => first | assumption | k_get); (case k9 => k_handed); k_whole)))
local macro_rules | `(tactic| walk_at "compareOp NotEq str str") => `(tactic| (with_reducible refine ne_same_str ?_))
local macro_rules | `(tactic| walk_at "subscriptTail Name") => `(tactic| (k_here; (with_reducible show wpAny _ _ (subscriptTail _ _ (Value.ref _) (Value.str _ _)) _ _ _); k_dflt (refine' item_dictF ?N ?m ?k ?e ?_; (case N => k_asm); (case m => k_mem); (case k => (repeat' (first | exact trivial | exact ⟨_, _, rfl, rfl⟩ | apply And.intro))); (case e => k_get); k_whole)))
local macro_rules | `(tactic| walk_at "handedOut") => `(tactic| refine handed_sel (by assumption) ?_)
local macro_rules | `(tactic| walk_at "truthy") => `(tactic| (k_here; k_dflt (refine' truthy_sel ?s ?k ?N ?m ?_; (case s => assumption); (case k => assumption); (case N => k_asm); (case m => k_mem)); intro tk9; (try dsimp only)))
local macro_rules | `(tactic| walk_at "call type:tuple") => `(tactic| (k_here; k_dflt (refine' tuple_sel ?s ?k ?ne ?F ?N ?m ?_; (case s => assumption); (case k => assumption); (case ne => assumption); (case F => k_asm); (case N => k_asm); (case m => k_mem)); intro D9 oT9 vT9 nT9 h9 F9 N9 hD9 c9 d9 i9; (simp only [AllLt, and_true] at hD9); (try dsimp only)))
local macro_rules | `(tactic| walk_at "truthy ref") => `(tactic| (k_here; k_dflt (refine' truthy_ne ?N ?m ?c ?d ?i ?k ?ne ?_; (case N => k_asm); (case m => k_mem); (case c => assumption); (case d => assumption); (case i => assumption); (case k => assumption); (case ne => assumption)); intro tk9; (try dsimp only)))
local macro_rules | `(tactic| kmk_list) => `(tactic| exact lstK (Frag.In.keeps (by k_asm) (Fr.keep (by k_asm))) (by k_is))
local macro_rules | `(tactic| walk_at "truthy") => `(tactic| (k_here; k_dflt (first | (refine' truthy_selT ?s ?k ?N ?m ?ne ?_; (case s => assumption); (case ne => assumption); (case k => assumption); (case N => k_asm); (case m => k_mem)) | (refine' truthy_selF ?s ?k ?N ?m ?ne ?_; (case s => assumption); (case ne => assumption); (case k => assumption); (case N => k_asm); (case m => k_mem))); intro tk9; (try dsimp only)))
local macro_rules | `(tactic| walk_at "call ref") => `(tactic| (k_here; (with_reducible show wpAny _ _ (call (Value.ref 128) _) _ _ _); k_dflt (refine' rep_callU ?B ?F ?X ?N ?T ?hA ?hf ?hke ?hh ?hroom ?m1 ?m2 ?g1 ?m3 ?g2 ?m4 ?g3 ?g4 ?g5 ?g6 ?_; (case B => k_asm); (case F => k_asm); (case X => k_asm); (case N => k_asm); (case T => k_asm); (case hA => exact rfl); (case hf => exact rfl); (case hke => exact rfl); (case hh => exact rfl); (case hroom => exact Nat.le_of_ble_eq_true rfl); (case m1 => k_mem); (case m2 => k_mem); (case g1 => k_get); (case m3 => k_mem); (case g2 => k_get); (case m4 => k_mem); (case g3 => k_get); (case g4 => k_get); (case g5 => k_get); (case g6 => (repeat' (first | exact trivial | exact ⟨_, _, rfl, rfl⟩ | apply And.intro)))); intro x9 h9 tk9 F9 N9; (try dsimp only)))
local macro_rules | `(tactic| walk_at "compareOp NotEq ref ref") => `(tactic| (k_here; k_dflt (refine' ne_tupN ?ha ?hb ?a1 ?b1 ?a2 ?b2 ?hi ?hj ?ht ?hu ?hne ?_; (case ha => exact News.get (by k_asm) (by k_mem)); (case hb => exact News.get (by k_asm) (by k_mem)); (case a1 => first | assumption | exact rfl); (case b1 => first | assumption | exact rfl); (case a2 => first | assumption | exact rfl); (case b2 => first | assumption | exact rfl); (case hi => first | assumption | exact StrsAre.nil); (case hj => first | assumption | exact StrsAre.nil); (case hne => assumption); (case ht => first | exact (by assumption : TxtsOk _).2.1 | assumption | decide +kernel); (case hu => exact Nat.le_of_ble_eq_true rfl))))
local macro_rules | `(tactic| walk_at "compareOp NotEq ref ref") => `(tactic| (k_here; k_dflt (refine' ne_tupE ?ha ?hb ?a1 ?b1 ?a2 ?b2 ?hi ?hj ?ht ?hu ?_; (case ha => exact News.get (by k_asm) (by k_mem)); (case hb => exact News.get (by k_asm) (by k_mem)); (case a1 => first | assumption | exact rfl); (case b1 => first | assumption | exact rfl); (case a2 => first | assumption | exact rfl); (case b2 => first | assumption | exact rfl); (case hi => first | assumption | exact StrsAre.nil | (repeat' constructor; done)); (case hj => first | assumption | exact StrsAre.nil | (repeat' constructor; done)); (case ht => first | exact (by assumption : TxtsOk _).2.1 | assumption | decide +kernel); (case hu => exact Nat.le_of_ble_eq_true rfl))))

local macro_rules | `(tactic| walk_at "LAWEND") => `(tactic| (k_dflt (refine' law_loopU ?F ?N ?X ?T ?B ?C ?G ?m1 ?ht ?m2 ?m3 ?m4 ?m5 ?hes ?m6 ?hei ?m7 ?heq ?m8 ?m9 ?m10 ?m11 ?n2 ?n3 ?n4 ?n5 ?n6 ?n7 ?n8 ?n9 ?n10 ?n11 ?hS ?hI ?hT ?hL ?kT ?kL ?hTL ?hC ?hCk ?hCl ?r0 ?r1 ?hQ; (case F => k_asm); (case N => k_asm); (case X => assumption); (case T => assumption); (case B => assumption); (case C => assumption); (case G => assumption); (case m1 => k_mem); (case ht => first | exact trivial | exact rfl | simp [TriplesOk]); (case m2 => k_mem); (case m3 => k_mem); (case m4 => k_mem); (case m5 => k_mem); (case hes => k_get); (case m6 => k_mem); (case hei => k_get); (case m7 => k_mem); (case heq => k_get); (case m8 => k_mem); (case m9 => k_mem); (case m10 => k_mem); (case m11 => k_mem); (case n2 => omega); (case n3 => omega); (case n4 => omega); (case n5 => omega); (case n6 => omega); (case n7 => omega); (case n8 => omega); (case n9 => omega); (case n10 => omega); (case n11 => omega); (case hC => repeat' constructor); (case hCk => decide +kernel); (case hCl => exact rfl); (case r0 => assumption); (case r1 => assumption); (case hQ => assumption); (case hL => first | exact ⟨by assumption, _, _, by assumption, by assumption⟩ | exact ⟨rfl, _, _, rfl, StrsAre.nil⟩ | exact ⟨rfl, _, _, rfl, StrsAre.cons _ _ StrsAre.nil⟩ | exact ⟨rfl, _, _, rfl, by assumption⟩); (case hI => first | exact ⟨by assumption, _, _, by assumption, by assumption⟩ | exact ⟨rfl, _, _, rfl, StrsAre.nil⟩ | exact ⟨rfl, _, _, rfl, StrsAre.cons _ _ StrsAre.nil⟩ | exact ⟨rfl, _, _, rfl, by assumption⟩); (case hS => first | exact ⟨by assumption, _, _, by assumption, by assumption⟩ | exact ⟨rfl, _, _, rfl, StrsAre.nil⟩ | exact ⟨rfl, _, _, rfl, StrsAre.cons _ _ StrsAre.nil⟩ | exact ⟨rfl, _, _, rfl, by assumption⟩); (case hT => first | exact ⟨by assumption, _, _, by assumption, by assumption⟩ | exact ⟨rfl, _, _, rfl, StrsAre.nil⟩ | exact ⟨rfl, _, _, rfl, StrsAre.cons _ _ StrsAre.nil⟩ | exact ⟨rfl, _, _, rfl, by assumption⟩); (case kT => first | assumption | exact ⟨by decide +kernel, by decide +kernel, by decide +kernel⟩); (case kL => first | assumption | exact ⟨by decide +kernel, by decide +kernel, by decide +kernel⟩); (case hTL => first | exact fun _ => rfl | exact fun h => absurd rfl h))))
section
variable {w : World} {E : Value → Shared → Prop} {s : Shared} {L fa sc : Addr} {cd : Value} {Q : Flow → Shared → Prop} {h₀ base : Heap} {mg mb : Str → Option Value} {p : Program} {loose : List Str} {mean : ExcName → Option Value}
theorem law_mid {op td dO a1 a2 std st : Addr} {v1 v2 : Value} {o1 o2 oStd : Obj} {ts1 ts2 : List Str} {r3 : Int} {tr t1 t2 t3 t4 : Tok} {n1 nStd : Nat} {vStd : List Value}
    (F : Fr h₀ L s.heap (lawM op v1 v2 r3 tr std st sc))
    (N : News h₀ L s.heap [(td, dictOf [⟨PyData.keyHash w.params (Str.ofString "select"), .str (Str.ofString "select") t1, v1⟩, ⟨PyData.keyHash w.params (Str.ofString "ignore"), .str (Str.ofString "ignore") t2, v2⟩, ⟨PyData.keyHash w.params (Str.ofString "repeat"), .str (Str.ofString "repeat") t3, .bool true⟩] n1),
      (op, instObj 154 dO), (dO, dictOf [⟨PyData.keyHash w.params (Str.ofString "told"), .str (Str.ofString "told") t4, .ref td⟩] 1), (a2, o2), (a1, o1), (std, oStd), (190, tabObj #[])])
    (X : (hd.heap_39 w.params).In h₀) (T : Top p loose mean mg mb h₀) (B : Below callerA h₀ [] h₀) (C : CodeHd h₀ 194 190)
    (ord : @LT.lt Nat _ 190 std ∧ @LT.lt Nat _ std a1 ∧ @LT.lt Nat _ a1 a2 ∧ @LT.lt Nat _ a2 dO ∧ @LT.lt Nat _ dO op ∧ @LT.lt Nat _ op td)
    (hs1 : SelAt v1 a1 o1 ts1) (hk1 : TxtsOk ts1) (hs2 : SelAt v2 a2 o2 ts2) (hk2 : TxtsOk ts2) (r0 : 0 ≤ r3) (r1 : r3 < 16)
    (hd1 : oStd.cls = .type "tuple") (hd2 : oStd.data = .seq vStd.toArray nStd) (hd3 : StrsAre vStd [Str.ofString "E121", Str.ofString "E123", Str.ofString "E126", Str.ofString "E226", Str.ofString "E24", Str.ofString "E704", Str.ofString "W503", Str.ofString "W504"])
    (G : AllBare s.gens)
    (hQ : ∀ s', AllBare s'.gens → s'.os = s.os → (∀ b o, h₀.get? b = some o → s'.heap.get? b = some o) → (∃ ps, s'.heap.get? 190 = some (tabObj ps)) → Q (.ret (.bool true)) s') :
    wpAny (model PySem.Challenge.pw_bg5017_01 w) (callerA.deeper (envOf (Str.ofString "law") lawParts.2 L fa cd)) (execs (lawParts.1.drop 8) (envOf (Str.ofString "law") lawParts.2 L fa cd)) Q E s := by
  conv in (List.drop _ _) => whnf
  conv in (occs := *) lawParts.2 => all_goals whnf
  obtain ⟨e1, e2, e3, e4, e5, e6⟩ := ord
  have hh1 := hs1.handed
  have hh2 := hs2.handed
  (try k_fold)
  repeat' ((fail_if_success (with_reducible show wpAny _ _ (execs (Stmt.For _ _ _ _ _ :: _) _) _ _ _)); first | (k_unfold; (try dsimp only)) | walk1 | (dsimp only; walk1))
  all_goals walk_at "LAWEND"
end
end Mine
end

section
open PySem PySem.Spec PySem.Calls PySem.W PyProof.Rows
set_option Elab.async false
set_option maxRecDepth 100000
set_option maxHeartbeats 1000000
namespace Mine
theorem fill_here5 : (fun (_ : OpenLaw) (_ : Params → Frag) => True) PySem.Challenge.rw_bg5017_01 Mine.hd.heap_39 := by
  w_top off
  k_fill
  trivial
local macro_rules | `(tactic| walk_at "ite") => `(tactic| (first | (with_reducible refine ite_ff ?_) | (with_reducible refine ite_tt ?_)))
local macro_rules | `(tactic| walk_at "call ref") => `(tactic| (k_here; (with_reducible show wpAny _ _ (call (Value.ref 209) _) _ _ _); k_dflt (refine' next_callU ?B ?F ?X ?N ?T ?hA ?hf ?hke ?hh ?hroom ?hun ?U ?hm ?hi ?hln ?hi0 ?hi1 ?hv0 ?hv1 ?hm0 ?hm1 ?_; (case B => k_asm); (case F => k_asm); (case X => k_asm); (case N => k_asm); (case T => k_asm); (case hA => exact rfl); (case hf => exact rfl); (case hke => exact rfl); (case hh => exact rfl); (case hroom => exact Nat.le_of_ble_eq_true rfl); (case hun => exact Nat.le_of_ble_eq_true rfl); (case U => k_updF); (case hm => k_mem); (case hi => assumption); (case hln => assumption); (case hi0 => first | assumption | decide); (case hi1 => first | assumption | decide); (case hv0 => first | assumption | decide); (case hv1 => first | assumption | decide); (case hm0 => decide); (case hm1 => decide)); intro h9 tk9 r9 t9 i9 t19 v9 t29 k9 F9 N9 r90 r91 i90 i91 v90 v91; (try dsimp only at N9 ⊢)))
local macro_rules | `(tactic| k_enter) => `(tactic| (kp_kind "more"; (refine' enter_more ?k1 ?k2 ?k3 ?k4 ?k5 ?kA ?kF ?kK ?k6 ?k7 ?k8 ?kX ?kM ?kN ?kR ?kP ?kT ?kB ?_ ?c2 ?c3 ?c4 ?c5; (case kA => exact rfl); (case kF => exact rfl); (case kK => exact rfl); (case k1 => k_asm); (case k2 => k_asm); (case k3 => k_asm); (case k4 => k_asm); (case k5 => k_asm); (case k6 => k_is); (case k7 => k_is); (case k8 => k_room); (case kX => kp_lit); (case kM => exact rfl); (case kN => exact rfl); (case kR => exact rfl); (case kP => exact rfl); (case kT => exact fun _ => rfl); (case kB => exact fun _ => locs rfl); (case c5 => decide); (case c2 => exact rfl); (case c3 => exact rfl); (case c4 => exact rfl); k_whole; intro D' t' g' L' h' tk' l1 FG' F' N' B' X' T'; (try k_lt l1); (try dsimp only [kwEs, List.length_cons, List.length_nil] at N'); (try dsimp only); (try k_lift B'); (try k_fold))))
local macro_rules | `(tactic| walk_at "getAttr ref") => `(tactic| (k_here; k_dflt (refine' get_hookF ?k1 ?k2 ?k3 ?k4 ?k5 ?k6 ?k7 ?k8 ?k9 ?k10 ?_; (case k1 => k_asm); (case k2 => k_asm); (case k3 => k_inst); (case k4 => k_is); (case k5 => k_is); (case k6 => k_is); (case k7 => decide +kernel); (case k8 => k_get); (case k9 => k_is); (case k10 => k_is); k_whole)))
local macro_rules | `(tactic| walk_at "getAttr ref") => `(tactic| (k_here; k_dflt (refine' get_here ?k1 ?k2 ?k3 ?k4 ?k5 ?k6 ?k7 ?k8 ?k9 ?_; (case k1 => k_asm); (case k2 => k_asm); (case k3 => k_inst); (case k4 => k_is); (case k5 => k_is); (case k6 => k_is); (case k7 => k_is); (case k8 => first | assumption | k_get); (case k9 => k_handed); k_whole)))
local macro_rules | `(tactic| walk_at "compareOp NotEq str str") => `(tactic| (with_reducible refine ne_same_str ?_))
section
variable {w : World} {E : Value → Shared → Prop} {s : Shared} {L fa sc : Addr} {cd : Value} {Q : Flow → Shared → Prop} {h₀ base : Heap} {mg mb : Str → Option Value} {p : Program} {loose : List Str} {mean : ExcName → Option Value} {vs : List Value} {ns : List Int}
theorem law_walk
    (F : Fr h₀ L s.heap (fun x => List.lookup x [((Str.ofString "script"), Value.ref sc)])) (N : News h₀ L s.heap [(190, tabObj #[])]) (X : (hd.heap_39 w.params).In h₀) (T : Top p loose mean mg mb h₀) (B : Below callerA h₀ [] h₀) (C : CodeHd h₀ 194 190) (l1 : (190 : Nat) < L)
    (hl : h₀.IsList sc vs.toArray) (hi : IntsAre vs ns) (hln : ns.length ≤ 63) (G : AllBare s.gens)
    (hQ : ∀ s', AllBare s'.gens → s'.os = s.os → (∀ b o, h₀.get? b = some o → s'.heap.get? b = some o) → (∃ ps, s'.heap.get? 190 = some (tabObj ps)) → Q (.ret (.bool true)) s') :
    wpAny (model PySem.Challenge.pw_bg5017_01 w) (callerA.deeper (envOf (Str.ofString "law") lawParts.2 L fa cd)) (execs lawParts.1 (envOf (Str.ofString "law") lawParts.2 L fa cd)) Q E s := by
  conv in lawParts.1 => whnf
  conv in (occs := *) lawParts.2 => all_goals whnf
  (try k_fold)
  iterate 18 (first | (k_unfold; (try dsimp only)) | walk1 | (dsimp only; walk1))
  have hln2 : (ns.take 12).length ≤ 12 := by rw [List.length_take]; omega
  iterate 48 (first | (k_unfold; (try dsimp only)) | walk1 | (dsimp only; walk1))
  iterate 50 (first | (k_unfold; (try dsimp only)) | walk1 | (dsimp only; walk1))
  iterate 3 (first | (k_unfold; (try dsimp only)) | walk1 | (dsimp only; walk1))
  (with_reducible rename News _ _ _ _ => NN)
  refine menu NN (by k_mem) (by assumption) (by show _ < ((9 : Nat) : Int); assumption) (by omega) (fun v1 hv1 => ?_) ?_
  rotate_left
  · with_unfolding_all rfl
  refine sel_cut (v := v1) 9 NN ?_ (fun a1 o1 ts1 hs1 hk1 hlt1 N1 => ?_)
  · clear NN
    simp only [List.mem_cons, List.not_mem_nil, or_false] at hv1
    rcases hv1 with rfl | rfl | rfl | rfl | rfl | rfl | rfl | rfl | rfl
    · exact ⟨_, _, [], .inl ⟨rfl, rfl⟩, ⟨by decide, by decide, by decide⟩, List.Mem.head _, by dsimp only [List.drop]; simp only [AllLt, and_true]; omega⟩
    all_goals (
      refine' sel_ex ?mm ?c ?d ?s ?ok ?lt
      case mm => k_mem
      case c => first | exact .inl rfl | exact .inr rfl
      case d => exact rfl
      case s => repeat' constructor
      case ok => exact ⟨by decide +kernel, by decide +kernel, by decide +kernel⟩
      case lt => dsimp only [List.drop]; simp only [AllLt, and_true]; omega)
  clear NN hv1
  dsimp only [List.drop] at N1 hlt1
  simp only [AllLt, and_true] at hlt1
  iterate 62 (first | (k_unfold; (try dsimp only)) | walk1 | (dsimp only; walk1))
  (with_reducible rename News _ _ _ _ => NN)
  refine menu NN (by k_mem) (by assumption) (by show _ < ((8 : Nat) : Int); assumption) (by omega) (fun v2 hv2 => ?_) ?_
  rotate_left
  · with_unfolding_all rfl
  refine sel_cut (v := v2) 8 NN ?_ (fun a2 o2 ts2 hs2 hk2 hlt2 N2 => ?_)
  · clear NN
    simp only [List.mem_cons, List.not_mem_nil, or_false] at hv2
    rcases hv2 with rfl | rfl | rfl | rfl | rfl | rfl | rfl | rfl
    · exact ⟨_, _, [], .inl ⟨rfl, rfl⟩, ⟨by decide, by decide, by decide⟩, List.Mem.head _, by dsimp only [List.drop]; simp only [AllLt, and_true]; omega⟩
    all_goals (
      refine' sel_ex ?mm ?c ?d ?s ?ok ?lt
      case mm => k_mem
      case c => first | exact .inl rfl | exact .inr rfl
      case d => exact rfl
      case s => repeat' constructor
      case ok => exact ⟨by decide +kernel, by decide +kernel, by decide +kernel⟩
      case lt => dsimp only [List.drop]; simp only [AllLt, and_true]; omega)
  clear NN hv2
  dsimp only [List.drop] at N2 hlt2
  simp only [AllLt, and_true] at hlt2
  repeat' ((fail_if_success (with_reducible show wpAny _ _ (execs (Stmt.Assign [Expr.Name (Str.ofString "guide") _] _ _ :: _) _) _ _ _)); first | (k_unfold; (try dsimp only)) | walk1 | (dsimp only; walk1))
  refine' law_mid ?F ?N X T B C ?ord hs1 hk1 hs2 hk2 ?r0 ?r1 ?d1 ?d2 ?d3 G hQ
  case F => k_dflt k_asm
  case N => k_dflt (refine news_cons (by k_asm) (by k_mem) (news_cons (by k_asm) (by k_mem) (news_cons (by k_asm) (by k_mem) (news_cons (by k_asm) (by k_mem) (news_cons (by k_asm) (by k_mem) (news_cons (by k_asm) (by k_mem) (news_cons (by k_asm) (by k_mem) News.nil)))))))
  case ord => (refine ⟨?_, ?_, ?_, ?_, ?_, ?_⟩ <;> omega)
  case r0 => assumption
  case r1 => assumption
  case d1 => exact rfl
  case d2 => exact rfl
  case d3 => repeat' constructor
end
end Mine
end

section
open PySem PySem.W PyProof.Rows
set_option Elab.async false
set_option maxRecDepth 100000
set_option maxHeartbeats 8000000
namespace Mine
local macro_rules | `(tactic| k_head) => `(tactic| o_head (kmHook Mine.hd.heap_39 [2, 3, 15, 17, 18, 20, 21, 22, 30, 32, 33, 35, 36, 37, 39, 40, 42, 43, 44, 46, 47, 49, 50, 51, 53, 54, 56, 57, 58,
  60, 61, 63, 64, 65, 66, 68, 69, 71, 72, 73, 74, 76, 77, 79, 80, 81, 82, 83, 84, 85, 88, 91, 96, 97, 99, 100, 102, 103,
  104, 106, 107, 109, 110, 111, 112, 114, 115, 117, 118, 119, 121, 122, 124, 125, 126, 127, 128, 138, 140, 141, 143,
  144, 145, 147, 148, 150, 151, 152, 153, 154, 155, 156, 166, 168, 169, 171, 172, 173, 174, 176, 177, 179, 180, 181,
  182, 184, 185, 187, 188, 189, 191, 192, 194, 195, 196, 197, 198, 199, 200, 203, 205, 206, 208, 209, 210, 213, 214,
  215, 218, 219, 220, 222, 223, 225, 226] (fun _ => by kernel_rfl) [190]))
open_top hd2 for PySem.Challenge.rw_bg5017_01
end Mine
end

section
open PySem PySem.Spec PySem.Calls PySem.W PyProof.Rows
set_option Elab.async false
namespace Mine
theorem old_kept {h₁ h' : Heap} {c P : Addr} {ps : Array Value} (hT : TabsAt [(c, P)] h₁) (hk : ∀ b o, (ghostOf h₁ [(c, P)]).get? b = some o → h'.get? b = some o) (hps : h'.get? P = some (tabObj ps)) : OldK h₁ h' := by
  have hq := hT (c, P) (.head _)
  have key : ∀ b o, b ≠ P → h₁.get? b = some o → h'.get? b = some o := fun b o hb e => hk b o (ghost_ne e fun m => hb (List.mem_singleton.mp m))
  refine ⟨fun b o e => ?_, fun b o e => ?_⟩
  · by_cases hb : b = P
    · subst hb
      have e2 := hq.2
      rw [e] at e2
      obtain rfl := Option.some.inj e2
      exact .inr (.inl ⟨(hq.1.tab hq.2).isCodeTable, rfl, #[], ps, rfl, by rw [Array.empty_append]; exact hps⟩)
    · exact .inl (key b o hb e)
  · by_cases hb : b = P
    · subst hb; exact ⟨_, hps⟩
    · exact ⟨o, key b o hb e⟩
theorem good_true {cw : ClaimW} {cl : Str → Option Addr} {mean : ExcName → Option Value} {args : List WData} {s₁ s' : Shared} {c P : Addr} {ps : Array Value} (hr : ∀ x, cw.raises args x = false) (hp : cw.post args (.bool true) args = true)
    (hT : TabsAt [(c, P)] s₁.heap) (hG : AllBare s'.gens) (ho : s'.os = s₁.os) (hk : ∀ b o, (ghostOf s₁.heap [(c, P)]).get? b = some o → s'.heap.get? b = some o) (hps : s'.heap.get? P = some (tabObj ps)) :
    GoodWG cw cl mean args s₁ (.ok (.ret (.bool true))) s' :=
  ⟨.inl ⟨_, _, [], rfl, hr, ReadsW.bool true, hp, fun _ => ⟨List.nodup_nil, fun _ hm => (nomatch hm)⟩⟩, old_kept hT hk hps, ho, hG⟩
end Mine
end

section
open PySem PySem.Spec PySem.Calls PySem.W PyProof.Rows
set_option Elab.async false
set_option maxRecDepth 100000
set_option maxHeartbeats 2000000
namespace Mine
theorem fin : PySem.Challenge.rw_bg5017_01.Holds := by
  refine hd2 ?_
  k_fill
  intro w s₀ s₁ mg mb G Y fa o pm cd doc dV kV ho hd hcd hD hmg hg args vals as hpre hlay hrd hwl hlo
  have KX := km_in_of Y
  have hT8 := km_tabs_of Y
  have X := (Ground.X G).1
  have V := (Ground.X G).2
  refine Ground.open G ?_
  intro T B D TE TW
  try (refine guard_noD D (by decide +kernel) ?_; clear D)
  have hT9 : TabsAt [(194, 190)] s₁.heap := List.forall_mem_cons.mpr ⟨⟨codeHd_of_K (c := 194) (P := 190) KX (by kernel_rfl), hT8 190 (List.Mem.head _)⟩, fun _ h => nomatch h⟩
  clear hmg
  wrow_args hpre hlay hrd hwl hlo
  first | refine callC_kw (enter_call ?_) | refine enter_call ?_
  w_top on
  w_call any ho hd hcd hD T F
  clear hd
  rename_i hL0 _ _ _ hI0 _ hln0 _ _ _ N0
  refine law_walk (ghost_fr hT9 F) (ghost_news hT9 F N0) (ghost_K hT9 KX (by kernel_rfl)) (ghost_top hT9 T) (ghost_below hT9) (ghost_code hT9).1 (ghost_lt hT9 F _ (List.Mem.head _)) (ghost_list hT9 ‹_›) (by assumption) (by omega) (.of_eq hg) ?_
  intro s' hG hos hkeep ⟨ps, hps⟩
  exact good_true (fun _ => rfl) (by wrow_post) hT9 hG hos hkeep hps
end Mine
end

set_option maxRecDepth 100000 in
theorem PySem.Challenge.cw_bg5017_01_holds : PySem.Challenge.rw_bg5017_01.Holds := by
  exact Mine.fin
