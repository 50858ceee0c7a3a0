import PyProof.Rows.All
import Wide.All
import OpenK.AllK
import Wide.FinOn
import PySem.Challenge.RW_dm0039_03
open PySem PySem.W PyProof.Rows PySem.Calls
set_option Elab.async false
set_option linter.unusedSimpArgs false
set_option linter.unusedVariables false
namespace Mine
section

abbrev tupOf (its : Array Value) : Obj := { cls := .type "tuple", data := .seq its }

abbrev Sub (h h' : Heap) : Prop := ∀ b o, h.get? b = some o → h'.get? b = some o

/-- what `pyIter v` hands back, in every heap that keeps `h`: a new iterator that goes through n things, the i-th one P i -/
structure SrcP (prog : Program) (w : World) (v : Value) (n : Nat) (P : Nat → Value → Prop) (h : Heap) (ft : Addr → Prop) : Prop where
  iter : ∀ (A : Around) (E : Value → Shared → Prop) (s : Shared) (Q : Value → Shared → Prop), A.handled = none → Sub h s.heap →
    (∀ (o : Obj) (fp : List Addr) (St : Nat → Heap → Prop), o.isFreed = false →
      (∀ A' : Around, A'.handled = none → Walks prog w A' s.heap.objs.size fp [s.heap.objs.size] n P St) → St 0 (s.heap.push o) →
      (∀ b ∈ fp, b = s.heap.objs.size ∨ ft b) → (∀ i h', St i h' → ∃ o, h'.get? s.heap.objs.size = some o) →
      Q (.ref s.heap.objs.size) { s with heap := s.heap.push o }) →
    wpAny (model prog w) A (pyIter v) Q E s

abbrev Src (prog : Program) (w : World) (v : Value) (items : Array Value) (h : Heap) : Prop := SrcP prog w v items.size (fun i v => items[i]? = some v) h (fun b => ∃ o, h.get? b = some o)

theorem SrcP.foot {prog : Program} {w : World} {v : Value} {n : Nat} {P : Nat → Value → Prop} {h : Heap} {ft ft' : Addr → Prop} (S : SrcP prog w v n P h ft)
    (kf : ∀ b, ft b → ft' b) : SrcP prog w v n P h ft' where
  iter := fun A E s Q hh hk hQ => S.iter A E s Q hh hk fun o fp St a b c d e =>
    hQ o fp St a b c (fun x hx => (d x hx).imp id (kf x)) e

theorem SrcP.list {prog : Program} {w : World} {l : Addr} {items : Array Value} {h : Heap} (hl : h.IsList l items) : SrcP prog w (.ref l) items.size (fun i v => items[i]? = some v) h (fun b => b = l) where
  iter := fun A E s Q hh hk hQ => by
    have hls : s.heap.IsList l items := hl.at fun o e => hk l o e
    have hlt : l < s.heap.objs.size := by obtain ⟨_, e, _⟩ := hls; exact Heap.lt_size e
    refine wpAny_pyIter_list hls ?_
    refine hQ _ [s.heap.objs.size, l] _ rfl (fun A' hA => Walks.list hA _ _ (Nat.ne_of_lt hlt) items) ⟨⟨_, Heap.get?_push_size _ rfl, rfl, rfl⟩, hls.push _⟩ ?_ ?_
    · intro b hb
      rcases List.mem_cons.mp hb with rfl | hb
      · exact .inl rfl
      · exact .inr (List.mem_singleton.mp hb)
    · rintro i h' ⟨⟨o, e, _⟩, _⟩; exact ⟨o, e⟩

theorem SrcP.tuple {prog : Program} {w : World} {l : Addr} {items : Array Value} {h : Heap} (hl : h.IsTuple l items) : SrcP prog w (.ref l) items.size (fun i v => items[i]? = some v) h (fun b => b = l) where
  iter := fun A E s Q hh hk hQ => by
    have hls : s.heap.IsTuple l items := let ⟨o, e, r⟩ := hl; ⟨o, hk _ _ e, r⟩
    have hlt : l < s.heap.objs.size := by obtain ⟨_, e, _⟩ := hls; exact Heap.lt_size e
    refine wpAny_pyIter_tuple hls ?_
    refine hQ _ [s.heap.objs.size, l] _ rfl (fun A' hA => Walks.tuple hA _ _ (Nat.ne_of_lt hlt) items) ⟨⟨_, Heap.get?_push_size _ rfl, rfl, rfl⟩, hls.push _⟩ ?_ ?_
    · intro b hb
      rcases List.mem_cons.mp hb with rfl | hb
      · exact .inl rfl
      · exact .inr (List.mem_singleton.mp hb)
    · rintro i h' ⟨⟨o, e, _⟩, _⟩; exact ⟨o, e⟩

theorem Src.list {prog : Program} {w : World} {l : Addr} {items : Array Value} {h : Heap} (hl : h.IsList l items) : Src prog w (.ref l) items h :=
  (SrcP.list hl).foot fun b e => by obtain ⟨o, ho, _⟩ := hl; exact ⟨o, e ▸ ho⟩
theorem Src.tuple {prog : Program} {w : World} {l : Addr} {items : Array Value} {h : Heap} (hl : h.IsTuple l items) : Src prog w (.ref l) items h :=
  (SrcP.tuple hl).foot fun b e => by obtain ⟨o, ho, _⟩ := hl; exact ⟨o, e ▸ ho⟩

theorem SrcP.range {prog : Program} {w : World} {r : Addr} {n : Nat} {t u v : Tok} {h : Heap} {ft : Addr → Prop} (hr : IsRange h r 0 n 1 t u v) (hn : n < 2 ^ 60) :
    SrcP prog w (.ref r) n (fun i v => ∃ t, v = .int i t) h ft where
  iter := fun A E s Q hh hk hQ => by
    have hrs : IsRange s.heap r 0 n 1 t u v := hk _ _ hr
    have hs : Builtin.Range.small 0 n 1 = true := small_one (by decide) (by decide) (by omega) (by omega)
    have hz : Builtin.Range.rangeSize 0 n 1 = (n : Int) := by rw [rangeSize_nat]; simp
    refine wpAny_pyIter_range hrs hs ?_
    rw [hz]
    have hW : ∀ A' : Around, A'.handled = none → Walks prog w A' s.heap.objs.size [s.heap.objs.size] [s.heap.objs.size] n (fun i v => ∃ t, v = .int i t)
        (fun i h => IsRangeIter h s.heap.objs.size (0 + (i : Nat) * 1) ((n : Int) - (i : Nat)) 1) := fun A' hA => by
      have := Walks.range (prog := prog) (w := w) hA s.heap.objs.size 0 1 n
      simpa only [Int.zero_add, Int.mul_one] using this
    refine hQ _ [s.heap.objs.size] _ rfl hW ?_ ?_ ?_
    · show IsRangeIter _ _ _ _ _
      simpa using Heap.get?_push_size _ rfl
    · intro b hb; exact .inl (List.mem_singleton.mp hb)
    · intro i h' e; exact ⟨_, e⟩

/-- a test of a generator's turn: true just where `pz` says so of the item, and nothing is turned -/
def TestOk (prog : Program) (w : World) (test : Expr) (x : Str) (scope : Scope) (P : Value → Prop) (pz : Value → Bool) (h : Heap) (D U : Nat) : Prop :=
  ∀ (A' : Around) (E' : Value → Shared → Prop) (cenv : Env) (v : Value) (t : Shared) (m₂ : Str → Option Value), A'.handled = none → A'.depth ≤ D → A'.units ≤ U → P v →
    cenv.scope = scope → t.heap.Ns cenv.locals m₂ → m₂ x = some v → (∀ b o, h.get? b = some o → t.heap.get? b = some o) →
    wpAny (model prog w) A' (isTrue test cenv (eval test cenv)) (fun ok s₃ => ok = pz v ∧ Keeps t s₃) E' t

theorem passing_filter {items : Array Value} {pz : Value → Bool} {acc : Array Value}
    (h : ItemsOf (fun j y => ∃ i, (passing (fun i => (items[i]?).any pz) items.size 0)[j]? = some i ∧ items[i]? = some y) acc (passing (fun i => (items[i]?).any pz) items.size 0).length) :
    acc = (items.toList.filter pz).toArray := by
  obtain ⟨xs⟩ := items
  have key : ∀ (ys : List Value) (k : Nat), ((List.range' k ys.length).filter (fun i => (ys[i - k]?).any pz)).map (fun i => (ys[i - k]?).getD .none) = ys.filter pz := by
    intro ys
    induction ys with
    | nil => intro k; rfl
    | cons y ys ih =>
      intro k
      rw [List.length_cons, List.range'_succ]
      have h1 : ∀ i ∈ List.range' (k + 1) ys.length, ((y :: ys)[i - k]?) = ys[i - (k + 1)]? := by
        intro i hi
        have := List.mem_range'_1.mp hi
        rw [show i - k = (i - (k + 1)) + 1 by omega, List.getElem?_cons_succ]
      have h2 : (List.range' (k + 1) ys.length).filter (fun i => ((y :: ys)[i - k]?).any pz) = (List.range' (k + 1) ys.length).filter (fun i => (ys[i - (k + 1)]?).any pz) :=
        List.filter_congr fun i hi => by rw [h1 i hi]
      have h3 : ((List.range' (k + 1) ys.length).filter (fun i => (ys[i - (k + 1)]?).any pz)).map (fun i => ((y :: ys)[i - k]?).getD .none) =
          ((List.range' (k + 1) ys.length).filter (fun i => (ys[i - (k + 1)]?).any pz)).map (fun i => (ys[i - (k + 1)]?).getD .none) :=
        List.map_congr_left fun i hi => by rw [h1 i (List.mem_filter.mp hi).1]
      cases hp : pz y with
      | true =>
        rw [List.filter_cons_of_pos (by simp [hp]), List.filter_cons_of_pos hp, List.map_cons, h2, h3, ih (k + 1)]
        simp
      | false =>
        rw [List.filter_cons_of_neg (by simp [hp]), List.filter_cons_of_neg (by simp [hp]), h2, h3, ih (k + 1)]
  have key0 := key xs 0
  obtain ⟨hs, hv⟩ := h
  have hpas : passing (fun i => (xs.toArray[i]?).any pz) xs.toArray.size 0 = (List.range' 0 xs.length).filter (fun i => (xs[i - 0]?).any pz) := by
    unfold passing
    rw [List.drop_zero, List.range_eq_range']
    simp
  have e0 : xs.toArray = { toList := xs } := rfl
  rw [← e0] at hs hv
  rw [hpas] at hs hv
  have hacc : acc.toList = xs.filter pz := by
    rw [← key0]
    refine List.ext_getElem? fun j => ?_
    rw [List.getElem?_map, Array.getElem?_toList]
    cases hj : acc[j]? with
    | some v =>
      obtain ⟨i, hi, hx⟩ := hv j v hj
      rw [hi]
      have hx' : xs[i - 0]? = some v := by simpa using hx
      simp only [Option.map_some, hx', Option.getD_some]
    | none =>
      have hge : acc.size ≤ j := by simpa using hj
      rw [hs] at hge
      rw [List.getElem?_eq_none hge]; rfl
  rw [show ({ toList := xs } : Array Value).toList = xs from rfl, ← hacc]

section
variable {prog : Program} {w : World} {A : Around} {E : Value → Shared → Prop} {s : Shared} {h₀ : Heap} {c P : Addr} {ps : Array Value} {mg : Str → Option Value} {bm : Addr} {ob : Obj}

theorem tupleGen {env : Env} {x src : Str} {pt pc px px2 psrc pos : Pos} {test : Expr} {scope : Scope} {Q : Value → Shared → Prop} {items : Array Value} {v : Value} {pz : Value → Bool}
    (hh : A.handled = none) (hco : scope.isCoroutine = false) (hclos : closureFor scope env = pure []) (hcell : ∀ y ∈ scope.names, y.2 ≠ .cell) (h0 : scope.names.lookup (".0" : Str) = some NameKind.local)
    (hx : scope.names.lookup x = some .local) (hdbg : (x == ("__debug__" : Str)) = false) (hkind : scope.kind = .function) (hroom : A.depth < recursionLimit)
    (k₀ : ∀ b o, h₀.get? b = some o → s.heap.get? b = some o) (hP₀ : h₀.get? P = none)
    (M : BMod h₀ env.globals mg bm ob) (hlim : h₀.NoLimit) (hcode : env.code = .ref c) (C : CodeHd h₀ c P) (hP : s.heap.get? P = some (tabObj ps)) (ht : TriplesOk ps.toList)
    (htup : ∀ Q' : Value → Shared → Prop, Q' (.type "tuple") s → wpAny (model prog w) A (eval (.Name "tuple" pt) env) Q' E s)
    (hsrc : ∀ Q' : Value → Shared → Prop, Q' v s → wpAny (model prog w) A (eval (.Name src psrc) env) Q' E s)
    (S : Src prog w v items h₀) (hsz : items.size ≤ sizeLine)
    (hT : TestOk prog w test x scope (fun y => y ∈ items) pz h₀ (A.depth + 1) (A.units + 8))
    (hQ : ∀ (t : Addr) (h' : Heap) (tk : Nat) (gens' : Array GenState) (ps' : Array Value), Heap.ExtBut P s.heap h' → h'.get? P = some (tabObj ps') → TriplesOk ps'.toList → s.heap.objs.size ≤ t →
      h'.get? t = some (tupOf (items.toList.filter pz).toArray) → h'.objs.size = t + 1 → (AllBare s.gens → AllBare gens') → Q (.ref t) { s with heap := h', toks := tk, gens := gens' }) :
    wpAny (model prog w) A (eval (.Call (.Name "tuple" pt) [.GeneratorExp (.Name x px) [⟨.Name x px2, .Name src psrc, [test], 0⟩] scope pos] [] pc) env) Q E s := by
  refine Call_ (htup _ ?_)
  refine PyProof.Rows.callWith_type1 ?_
  refine Calls.spliced_cons ?_
  have hclt : cStatics < s.heap.objs.size := let ⟨_, hn, _⟩ := hlim.keeps k₀; hn.lt
  have hPlt : P < s.heap.objs.size := Heap.lt_size hP
  refine wpAny_GeneratorExp_walksQD hh hco hclos hcell h0 hx hkind hroom (hsrc _ ?_) (fun _ => rfl)
  refine S.iter A E s _ hh k₀ fun oI fp St hfree W hst hfo _ => ?_
  generalize hI : s.heap.objs.size = I at W hfo ⊢
  generalize hh₂ : s.heap.push oI = h₂ at hst ⊢
  have k₂ : Sub s.heap h₂ := fun b o e => hh₂ ▸ Heap.get?_push_of_some _ e
  have hsz₂ : s.heap.objs.size ≤ h₂.objs.size := by rw [← hh₂, Heap.size_push]; exact Nat.le_succ _
  have hfp : ∀ b ∈ fp, b < h₂.objs.size := fun b hb => by
    rcases hfo b hb with e | ⟨o, e⟩
    · rw [e, ← hI, ← hh₂, Heap.size_push]; exact Nat.lt_succ_self _
    · exact Heap.lt_size (k₂ _ _ (k₀ _ _ e))
  have hwr : ∀ b ∈ [I], s.heap.objs.size ≤ b := fun b hb => by rw [List.mem_singleton.mp hb, hI]; exact Nat.le_refl _
  have hPf : P ∉ fp := fun hm => by
    rcases hfo P hm with h | ⟨o, h⟩
    · rw [h, ← hI] at hPlt; exact Nat.lt_irrefl _ hPlt
    · rw [hP₀] at h; cases h
  have k₀₂ : ∀ b o, h₀.get? b = some o → h₂.get? b = some o := fun b o e => k₂ b o (k₀ b o e)
  have hP₂ : h₂.get? P = some (tabObj ps) := k₂ _ _ hP
  have C₂ : CodeHd h₂ c P := C.keeps k₀₂
  refine ⟨hlim.keeps k₀₂, ?_⟩
  -- the code of the block: found, or made anew
  have step : ∀ (code : Value) (h₃ : Heap) (tk₃ : Nat) (ps' : Array Value), Heap.ExtBut P h₂ h₃ → h₂.objs.size ≤ h₃.objs.size → h₃.get? P = some (tabObj ps') → TriplesOk ps'.toList →
      wpAny (model prog w) A (builtinsFor env.globals env.builtins) (fun bi s₄ =>
        ∃ I' fp wr n₀ P St₀ pz F, (Value.ref I) = .ref I' ∧ (∀ A' : Around, A'.handled = none → Walks prog w A' I' fp wr n₀ P St₀) ∧ St₀ 0 s₄.heap ∧ (∀ b ∈ fp, b < s₄.heap.objs.size) ∧ s₄.heap.NoLimit ∧ cStatics ∉ wr ∧
          (∀ href : Heap, (∀ b o, s₄.heap.get? b = some o → href.get? b = some o) →
            QuietGenD prog w (genEnv scope [] s₄.heap.objs.size code bi env) x [test] (.Name x px) (List.range s₄.heap.objs.size) wr P pz F href (A.depth + 1) (A.units + 8)) ∧
          (∀ a h₅ tk gs, gs.bare = true → s₄.heap.objs.size < a → h₅.objs.size = a + 1 → (∀ b o, s₄.heap.get? b = some o → h₅.get? b = some o) →
            WalksS prog w A.in4 a (a :: s₄.heap.objs.size :: List.range s₄.heap.objs.size) (s₄.heap.objs.size :: wr) (GenOnlyQ s₄.gens.size) (passing pz n₀ 0).length
              (fun j y => ∃ i, (passing pz n₀ 0)[j]? = some i ∧ F i y) (GenAt prog w A.in4 a s₄.gens.size s₄.heap.objs.size (List.range s₄.heap.objs.size) wr pz n₀ F) →
            GenAt prog w A.in4 a s₄.gens.size s₄.heap.objs.size (List.range s₄.heap.objs.size) wr pz n₀ F 0 { s₄ with gens := s₄.gens.push gs, toks := tk, heap := h₅ } →
            wpAny (model prog w) A (spliced (backTo pc (starEach [] env))) (fun vs s₂ => wpAny (model prog w) A (call (.type "tuple") (.ref a :: vs)) Q E s₂) E { s₄ with gens := s₄.gens.push gs, toks := tk, heap := h₅ })) E
        { s with heap := h₃, toks := tk₃ } := by
    intro code h₃ tk₃ ps' hx₃ hsz₃ hP₃ ht₃
    have k₀₃ : ∀ b o, h₀.get? b = some o → h₃.get? b = some o := fun b o e => hx₃ b o (fun hb => by rw [hb, hP₀] at e; cases e) (k₀₂ b o e)
    have M₃ : BMod h₃ env.globals mg bm ob := M.keeps k₀₃
    refine wpAny_builtinsFor M₃.ns M₃.name M₃.ne M₃.obj M₃.cls M₃.dict M₃.data ?_
    refine ⟨I, fp, [I], items.size, _, St, (fun i => (items[i]?).any pz), (fun i y => items[i]? = some y), rfl, W, (W A hh).frame _ _ _ hst (fun b hb o e => hx₃ b o (fun e' => hPf (e' ▸ hb)) e),
      (fun b hb => Nat.lt_of_lt_of_le (hfp b hb) hsz₃), hlim.keeps k₀₃, (fun hm => Nat.lt_irrefl _ (Nat.lt_of_lt_of_le hclt (hwr _ hm))), (fun href hhref => ?_), fun a h₅ tk gs hgb hag hsz₅ hk₅ W' hat => ?_⟩
    · have inB : ∀ (t : Shared), (∀ b ∈ List.range h₃.objs.size, b ∉ [I] → ∀ o, href.get? b = some o → t.heap.get? b = some o) → ∀ b o, h₀.get? b = some o → t.heap.get? b = some o := fun t hkp b o e => by
        refine hkp b (List.mem_range.mpr (Heap.lt_size (k₀₃ b o e))) (fun hm => ?_) o (hhref b o (k₀₃ b o e))
        exact Nat.lt_irrefl _ (Nat.lt_of_lt_of_le (Heap.lt_size (k₀ b o e)) (hwr b hm))
      refine ⟨fun A' E' i v t m₂ hA hD hU hPv hn hm hkp => ?_, fun A' E' i v t m₂ hA hD hU hPv _ hn hm hkp => ?_⟩
      · have hmem : v ∈ items := Array.mem_of_getElem? hPv
        have key := hT A' E' (genEnv scope [] h₃.objs.size code builtinsNs env) v t m₂ hA hD hU hmem rfl hn hm (inB t hkp)
        have e1 : (forIn [test] true fun c r => if r = true then do let ok ← isTrue c (genEnv scope [] h₃.objs.size code builtinsNs env) (eval c (genEnv scope [] h₃.objs.size code builtinsNs env)); pure (ForInStep.yield ok) else pure (ForInStep.yield r) : Sem Bool)
            = (isTrue test (genEnv scope [] h₃.objs.size code builtinsNs env) (eval test (genEnv scope [] h₃.objs.size code builtinsNs env)) >>= fun ok => pure ok : Sem Bool) := by
          simp only [List.forIn_cons, List.forIn_nil, if_true, bind_assoc, pure_bind]
        rw [e1]
        refine wpAny_bind (wpAny_mono key (fun ok s₃ h₃ => wpAny_pure ⟨?_, h₃.2⟩) fun _ _ e => e)
        rw [h₃.1, hPv]; rfl
      · refine wpAny_Name (wpAny_loadName_local hkind hx hn hm ?_) hdbg
        exact ⟨hPv, t.heap, t.toks, rfl, fun _ _ e => e⟩
    · refine args_nil ?_
      have hsz' : (passing (fun i => (items[i]?).any pz) items.size 0).length ≤ sizeLine := by
        have h1 : (passing (fun i => (items[i]?).any pz) items.size 0).length ≤ items.size := by
          unfold passing
          refine Nat.le_trans (List.length_filter_le _ _) ?_
          rw [List.drop_zero, List.length_range]; exact Nat.le_refl _
        exact Nat.le_trans h1 hsz
      refine call_tuple_gen (hsz := hsz') W'.in4_3 (fun i s' st => st.1.typeIs) hat ?_ List.mem_cons_self fun s' acc hm hacc => ?_
      · intro b hb
        show b < h₅.objs.size
        rw [hsz₅]
        rcases List.mem_cons.mp hb with rfl | hb
        · exact Nat.lt_succ_self _
        · rcases List.mem_cons.mp hb with rfl | hb
          · exact Nat.lt_succ_of_lt hag
          · exact Nat.lt_succ_of_lt (Nat.lt_trans (List.mem_range.mp hb) hag)
      · obtain ⟨hs', gens', drawn', toks', os'⟩ := s'
        have hd : drawn' = s.drawn := hm.drawn
        have ho : os' = s.os := hm.os
        subst hd ho
        have hle₃ : s.heap.objs.size ≤ h₃.objs.size := Nat.le_trans hsz₂ hsz₃
        have hwlt : ∀ b ∈ (h₃.objs.size :: [I]), s.heap.objs.size ≤ b := fun b hb => by
          rcases List.mem_cons.mp hb with rfl | hb
          · exact hle₃
          · exact hwr b hb
        have hoff : ∀ b o, s.heap.get? b = some o → b ∉ (h₃.objs.size :: [I]) := fun b o e hb => Nat.lt_irrefl _ (Nat.lt_of_lt_of_le (Heap.lt_size e) (hwlt b hb))
        have ha : a ∉ (h₃.objs.size :: [I]) := fun hb => by
          rcases List.mem_cons.mp hb with e | hb
          · exact Nat.lt_irrefl _ (e ▸ hag)
          · exact Nat.lt_irrefl _ (Nat.lt_trans (Nat.lt_of_lt_of_le (hfp a ((W A hh).sub a hb)) hsz₃) hag)
        obtain ⟨oa, _, _, hoa, _⟩ := hat.1
        have halt : a < hs'.objs.size := Heap.lt_size (hm.heap a oa ha hoa)
        have hge : s.heap.objs.size ≤ hs'.objs.size := Nat.le_trans hle₃ (Nat.le_of_lt (Nat.lt_trans hag halt))
        have hacc' := passing_filter hacc
        subst hacc'
        refine hQ _ _ _ _ ps' (fun b o hb e => ?_) ?_ ht₃ hge (Heap.get?_push_size _ rfl) (Heap.size_push ..) (fun hb => ?_)
        · exact Heap.get?_push_of_some _ (hm.heap b o (hoff b o e) (hk₅ b o (hx₃ b o hb (k₂ b o e))))
        · exact Heap.get?_push_of_some _ (hm.heap P _ (hoff P _ hP) (hk₅ P _ hP₃))
        · exact hm.gens.bare (AllBare.push hb hgb)
  cases hnf : codeAmong pos ps.toList with
  | some cv => exact wpAny_genexprCode_hit hcode (C₂.code hP₂ ht) hnf (step cv h₂ _ ps (Heap.ExtBut.refl _ _) (Nat.le_refl _) hP₂ ht)
  | none =>
    refine wpAny_genexprCodeX hcode (C₂.code hP₂ ht) (C₂.tab hP₂) hnf fun c' h₃ tk₃ hx₃ hge hlt hcode₃ _ htab₃ _ => ?_
    refine step _ h₃ tk₃ _ hx₃ (Nat.le_trans hge (Nat.le_of_lt hlt)) htab₃.2 ?_
    obtain ⟨o, vs, file, tf, flags, tg, inF, text, tt, op, _, _, _, _, _, _, _, hop, hpd, htr, _⟩ := hcode₃
    exact htr
end

end
section

/-- the truth of an attribute: `getAttr v attr` comes back, and what comes back is true just if `b` -/
def AttrTruth (prog : Program) (w : World) (h : Heap) (D U : Nat) (v : Value) (attr : Str) (b : Bool) : Prop :=
  ∀ (A : Around) (E : Value → Shared → Prop) (t : Shared) (Q : Bool → Shared → Prop), A.handled = none → A.depth ≤ D → A.units ≤ U →
    (∀ b o, h.get? b = some o → t.heap.get? b = some o) →
    (∀ (h' : Heap) (tk : Nat), (∀ b o, t.heap.get? b = some o → h'.get? b = some o) → Q b { t with heap := h', toks := tk }) →
    wpAny (model prog w) A (getAttr v attr true) (fun o s₁ => wpAny (model prog w) A (truthy o) Q E s₁) E t

section
variable {prog : Program} {w : World} {h : Heap} {D U : Nat} {P : Value → Prop} {x : Str} {scope : Scope} {pi pk : Value → Bool}

theorem isTrue_attr {A : Around} {E : Value → Shared → Prop} {t : Shared} {cenv : Env} {m₂ : Str → Option Value} {v : Value} {attr : Str} {b : Bool} {Q : Bool → Shared → Prop} {pn pa : Pos}
    (hh : A.handled = none) (hD : A.depth ≤ D) (hU : A.units ≤ U) (hk : ∀ b o, h.get? b = some o → t.heap.get? b = some o) (hkind : cenv.scope.kind = .function) (hx : cenv.kindOf x = some .local)
    (hdbg : (x == ("__debug__" : Str)) = false) (hn : t.heap.Ns cenv.locals m₂) (hm : m₂ x = some v) (a : AttrTruth prog w h D U v attr b)
    (hQ : ∀ (h' : Heap) (tk : Nat), (∀ b o, t.heap.get? b = some o → h'.get? b = some o) → Q b { t with heap := h', toks := tk }) :
    wpAny (model prog w) A (isTrue (.Attribute (.Name x pn) attr pa) cenv (eval (.Attribute (.Name x pn) attr pa) cenv)) Q E t :=
  isTrue_plain (Attribute_name (wpAny_Name (wpAny_loadName_local hkind hx hn hm (a A E t Q hh hD hU hk hQ)) hdbg)) (by rfl)

theorem test_and_not {p1 p2 p3 p4 p5 p6 : Pos} {at1 at2 : Str} (hkind : scope.kind = .function) (hx : scope.names.lookup x = some .local) (hdbg : (x == ("__debug__" : Str)) = false)
    (hi : ∀ v, P v → AttrTruth prog w h D U v at1 (pi v)) (hw : ∀ v, P v → AttrTruth prog w h D U v at2 (pk v)) :
    TestOk prog w (.BoolOp .And [.Attribute (.Name x p1) at1 p2, .UnaryOp .Not (.Attribute (.Name x p3) at2 p4) p5] p6) x scope P (fun v => pi v && !pk v) h D U := by
  intro A' E' cenv v t m₂ hA hD hU hP hs hn hm hk
  refine isTrue_and (isTrue_attr hA hD hU hk (by rw [hs]; exact hkind) (by show cenv.scope.names.lookup x = _; rw [hs]; exact hx) hdbg hn hm (hi v hP) fun h' tk hk' => ?_)
  cases hp : pi v with
  | false => exact ⟨by simp [hp], h', tk, rfl, hk'⟩
  | true =>
    refine isTrue_and (isTrue_not (isTrue_attr hA hD hU (fun b o e => hk' b o (hk b o e)) (by rw [hs]; exact hkind) (by show cenv.scope.names.lookup x = _; rw [hs]; exact hx) hdbg (hn.keeps hk') hm (hw v hP) fun h'' tk' hk'' => ?_))
    have fin : ∀ q : Bool, pk v = q → if (!q) = true then wpAny (model prog w) A' (isTrue (.BoolOp .And [] p6) cenv (eval (.BoolOp .And [.Attribute (.Name x p1) at1 p2, .UnaryOp .Not (.Attribute (.Name x p3) at2 p4) p5] p6) cenv)) (fun ok s₃ => ok = (pi v && !pk v) ∧ Keeps t s₃) E' { t with heap := h'', toks := tk' } else (false = (pi v && !pk v) ∧ Keeps t { t with heap := h'', toks := tk' }) := by
      intro q hq
      cases q with
      | false => exact isTrue_and_nil ⟨by simp [hq, hp], h'', tk', rfl, fun b o e => hk'' b o (hk' b o e)⟩
      | true => exact ⟨by simp [hq, hp], h'', tk', rfl, fun b o e => hk'' b o (hk' b o e)⟩
    exact fin (pk v) rfl

theorem test_and {p1 p2 p3 p4 p6 : Pos} {at1 at2 : Str} (hkind : scope.kind = .function) (hx : scope.names.lookup x = some .local) (hdbg : (x == ("__debug__" : Str)) = false)
    (hi : ∀ v, P v → AttrTruth prog w h D U v at1 (pi v)) (hw : ∀ v, P v → AttrTruth prog w h D U v at2 (pk v)) :
    TestOk prog w (.BoolOp .And [.Attribute (.Name x p1) at1 p2, .Attribute (.Name x p3) at2 p4] p6) x scope P (fun v => pi v && pk v) h D U := by
  intro A' E' cenv v t m₂ hA hD hU hP hs hn hm hk
  refine isTrue_and (isTrue_attr hA hD hU hk (by rw [hs]; exact hkind) (by show cenv.scope.names.lookup x = _; rw [hs]; exact hx) hdbg hn hm (hi v hP) fun h' tk hk' => ?_)
  cases hp : pi v with
  | false => exact ⟨by simp [hp], h', tk, rfl, hk'⟩
  | true =>
    refine isTrue_and (isTrue_attr hA hD hU (fun b o e => hk' b o (hk b o e)) (by rw [hs]; exact hkind) (by show cenv.scope.names.lookup x = _; rw [hs]; exact hx) hdbg (hn.keeps hk') hm (hw v hP) fun h'' tk' hk'' => ?_)
    have fin : ∀ q : Bool, pk v = q → if q = true then wpAny (model prog w) A' (isTrue (.BoolOp .And [] p6) cenv (eval (.BoolOp .And [.Attribute (.Name x p1) at1 p2, .Attribute (.Name x p3) at2 p4] p6) cenv)) (fun ok s₃ => ok = (pi v && pk v) ∧ Keeps t s₃) E' { t with heap := h'', toks := tk' } else (false = (pi v && pk v) ∧ Keeps t { t with heap := h'', toks := tk' }) := by
      intro q hq
      cases q with
      | true => exact isTrue_and_nil ⟨by simp [hq, hp], h'', tk', rfl, fun b o e => hk'' b o (hk' b o e)⟩
      | false => exact ⟨by simp [hq, hp], h'', tk', rfl, fun b o e => hk'' b o (hk' b o e)⟩
    exact fin (pk v) rfl
end

section
variable {prog : Program} {w : World} {A : Around} {E : Value → Shared → Prop} {s : Shared} {hb : Heap} {c P f : Addr} {ps : Array Value} {mg mb : Str → Option Value} {K : Frag} {p : Program} {loose : List Str} {mean : ExcName → Option Value}
  {name qual : Str} {params : Arguments} {scope sc1 sc2 : Scope} {dV kV doc pm ct oc : Value} {an od : Option Addr} {osl : Array (Option Value)} {x src : Str} {p1 p2 p3 p4 p5 p6 q1 q2 q3 q4 q5 q6 pT pR : Pos} {kk : Nat} {test1 test2 : Expr}
  {items : Array Value} {v : Value} {pz1 pz2 : Value → Bool} {Q : Value → Shared → Prop}

abbrev twoGens (x src : Str) (test1 test2 : Expr) (sc1 sc2 : Scope) (p1 p2 p3 p4 p5 p6 q1 q2 q3 q4 q5 q6 pT pR : Pos) (kk : Nat) : List Stmt :=
  [.Return (some (.Tuple [.Call (.Name "tuple" p1) [.GeneratorExp (.Name x p2) [⟨.Name x p3, .Name src p4, [test1], 0⟩] sc1 p5] [] p6,
      .Call (.Name "tuple" q1) [.GeneratorExp (.Name x q2) [⟨.Name x q3, .Name src q4, [test2], 0⟩] sc2 q5] [] q6] kk pT)) pR]

theorem fio_call (hh : A.handled = none) (hroom : A.depth + 1 < recursionLimit)
    (kb : ∀ b o, hb.get? b = some o → s.heap.get? b = some o) (hbs : hb.objs.size ≤ s.heap.objs.size) (hPb : hb.get? P = none)
    (X : K.In hb) (T : Top p loose mean mg mb hb) (C : CodeHd hb c P) (hP : s.heap.get? P = some (tabObj ps)) (ht : TriplesOk ps.toList)
    (ho : K.lookup f = some ⟨oc, od, .func (fnOf name qual params (twoGens x src test1 test2 sc1 sc2 p1 p2 p3 p4 p5 p6 q1 q2 q3 q4 q5 q6 pT pR kk) scope dV kV doc pm an (.ref c) ct), osl⟩)
    (hcd : codeIn K (.ref c) qual = true)
    (hbind : BindsTo s (fnOf name qual params (twoGens x src test1 test2 sc1 sc2 p1 p2 p3 p4 p5 p6 q1 q2 q3 q4 q5 q6 pT pR kk) scope dV kV doc pm an (.ref c) ct) ⟨[v], []⟩ [(src, v)])
    (htn : nsIn K mainGlobals "tuple" = some none) (hbt : bootBuiltins ("tuple" : Str) = some (.type "tuple"))
    (hco : scope.isCoroutine = false) (hgen : scope.isGenerator = false) (hk : scope.kind = .function) (hcell : ∀ y ∈ scope.names, y.2 ≠ .cell)
    (hsl : scope.names.lookup src = some .local) (htl : scope.names.lookup ("tuple" : Str) = some .globalImplicit) (hsd : (src == ("__debug__" : Str)) = false)
    (hco1 : sc1.isCoroutine = false) (hcl1 : ∀ env, closureFor sc1 env = pure []) (hcell1 : ∀ y ∈ sc1.names, y.2 ≠ .cell) (h01 : sc1.names.lookup (".0" : Str) = some NameKind.local)
    (hx1 : sc1.names.lookup x = some .local) (hk1 : sc1.kind = .function)
    (hco2 : sc2.isCoroutine = false) (hcl2 : ∀ env, closureFor sc2 env = pure []) (hcell2 : ∀ y ∈ sc2.names, y.2 ≠ .cell) (h02 : sc2.names.lookup (".0" : Str) = some NameKind.local)
    (hx2 : sc2.names.lookup x = some .local) (hk2 : sc2.kind = .function) (hdbg : (x == ("__debug__" : Str)) = false)
    (S : Src prog w v items hb) (hsz : items.size ≤ sizeLine)
    (hT1 : TestOk prog w test1 x sc1 (fun y => y ∈ items) pz1 hb (A.depth + 2) (A.units + 11))
    (hT2 : TestOk prog w test2 x sc2 (fun y => y ∈ items) pz2 hb (A.depth + 2) (A.units + 11))
    (hQ : ∀ (t1 t2 t : Addr) (h' : Heap) (tk : Nat) (gens' : Array GenState) (ps' : Array Value), Heap.ExtBut P s.heap h' → h'.get? P = some (tabObj ps') → TriplesOk ps'.toList →
      s.heap.objs.size ≤ t1 → t1 < t2 → t2 < t → h'.get? t1 = some (tupOf (items.toList.filter pz1).toArray) → h'.get? t2 = some (tupOf (items.toList.filter pz2).toArray) →
      h'.get? t = some (tupOf #[.ref t1, .ref t2]) → h'.objs.size = t + 1 → (AllBare s.gens → AllBare gens') → Q (.ref t) { s with heap := h', toks := tk, gens := gens' }) :
    wpAny (model prog w) A (call (.ref f) [v]) Q E s := by
  refine wpAny_call ?_
  refine codeAny_call_def (fd := fnOf name qual params (twoGens x src test1 test2 sc1 sc2 p1 p2 p3 p4 p5 p6 q1 q2 q3 q4 q5 q6 pT pR kk) scope dV kV doc pm an (.ref c) ct) (body := twoGens x src test1 test2 sc1 sc2 p1 p2 p3 p4 p5 p6 q1 q2 q3 q4 q5 q6 pT pR kk)
    (binds := [(src, v)]) (Nat.lt_of_succ_lt hroom) ((X.keeps kb) _ _ ho) rfl (T.nolimit.keeps kb) (codeRec_of (X.keeps kb) hcd) rfl hbind hcell ?_ (fun h₁ hns hk₁ => ?_) hco hgen hk
  · intro y hy
    rw [List.mem_singleton.mp hy]; exact hsl
  refine wpAny_mono (Q := fun f s' => ∃ r, f = .ret r ∧ Q r s') (E := fun _ _ => False) ?_ (fun f s' hq => by obtain ⟨r, rfl, hq⟩ := hq; exact hq) (fun _ _ e => e.elim)
  have kb₁ : ∀ b o, hb.get? b = some o → h₁.get? b = some o := fun b o e => hk₁ b o (kb b o e)
  have Mo := T.bmain
  obtain ⟨bm, ob, M⟩ := bmod_of_top T
  have F₁ : Fr hb s.heap.objs.size h₁ (fun y => [(src, v)].reverse.lookup y) := ⟨hns, kb₁, hbs⟩
  have hsrcv : (fun y : Str => [(src, v)].reverse.lookup y) src = some v := by simp [List.lookup]
  refine wpAny_execs_cons (wpAny_Return_some (Tuple_ ?_))
  refine Calls.spliced_cons ?_
  refine tupleGen (h₀ := hb) (P := P) (v := v) hh hco1 (hcl1 _) hcell1 h01 hx1 hdbg hk1 (by show A.depth + 1 < recursionLimit; exact hroom) kb₁ hPb M T.nolimit rfl C (hk₁ _ _ hP) ht
    (fun Q' hq => name_B F₁ X (topRead_of T) htn hbt (by decide) hq hk htl (by decide))
    (fun Q' hq => wpAny_Name (wpAny_loadName_local hk hsl hns hsrcv hq) hsd) S hsz hT1 fun t1 h₂ tk₂ g₂ ps₂ hx₂ hP₂ ht₂ hge₂ ht1 hs₂ hb₂ => ?_
  have kb₂ : ∀ b o, hb.get? b = some o → h₂.get? b = some o := fun b o e => hx₂ b o (fun q => by rw [q, hPb] at e; cases e) (kb₁ b o e)
  have hLP : s.heap.objs.size ≠ P := fun q => Nat.lt_irrefl _ (q ▸ Heap.lt_size hP)
  have hns₂ := hns.extBut hx₂ hLP
  have F₂ : Fr hb s.heap.objs.size h₂ (fun y => [(src, v)].reverse.lookup y) := ⟨hns₂, kb₂, hbs⟩
  refine Calls.spliced_cons ?_
  refine tupleGen (h₀ := hb) (P := P) (v := v) hh hco2 (hcl2 _) hcell2 h02 hx2 hdbg hk2 (by show A.depth + 1 < recursionLimit; exact hroom) kb₂ hPb M T.nolimit rfl C hP₂ ht₂
    (fun Q' hq => name_B F₂ X (topRead_of T) htn hbt (by decide) hq hk htl (by decide))
    (fun Q' hq => wpAny_Name (wpAny_loadName_local hk hsl hns₂ hsrcv hq) hsd) S hsz hT2 fun t2 h₃ tk₃ g₃ ps₃ hx₃ hP₃ ht₃ hge₃ ht2 hs₃ hb₃ => ?_
  refine args_nil ?_
  refine wpAny_newObj_type ?_ (by size_fits)
  have hle1 : s.heap.objs.size < h₁.objs.size := hns.lt
  have h1P : t1 ≠ P := fun q => by
    have := Heap.lt_size (hk₁ _ _ hP)
    exact Nat.lt_irrefl _ (Nat.lt_of_lt_of_le this (q ▸ hge₂))
  have h12 : t1 < t2 := by
    have h2 : h₂.objs.size ≤ t2 := hge₃
    rw [hs₂] at h2; exact h2
  refine ⟨_, rfl, hQ t1 t2 _ _ _ _ ps₃ (fun b o hb e => Heap.get?_push_of_some _ (hx₃ b o hb (hx₂ b o hb (hk₁ b o e)))) (Heap.get?_push_of_some _ hP₃) ht₃ (Nat.le_trans (Nat.le_of_lt hle1) hge₂) h12 ?_
    (Heap.get?_push_of_some _ (hx₃ _ _ h1P ht1)) (Heap.get?_push_of_some _ ht2) (Heap.get?_push_size _ rfl) (Heap.size_push ..) (fun q => hb₃ (hb₂ q))⟩
  have : h₃.objs.size = t2 + 1 := hs₃
  show t2 < h₃.objs.size
  rw [this]; exact Nat.lt_succ_self _
end

end
section

/-- what is asked of the law's end: nothing of the old is turned but the code tables, which have grown -/
def EndOk (s₁ : Shared) (tabs : List (Addr × Addr)) (s' : Shared) : Prop :=
  (∀ b o, (ghostOf s₁.heap tabs).get? b = some o → s'.heap.get? b = some o) ∧ s'.os = s₁.os ∧ AllBare s'.gens ∧ GrownAll tabs s'.heap

theorem my_post {M : Model} {A : Around} {cd : Code} {s s₁ : Shared} {cw : ClaimW} {cl : Str → Option Addr} {mean : ExcName → Option Value} {args : List WData} {tabs : List (Addr × Addr)} (hT : TabsAt tabs s₁.heap)
    (hr : ∀ cls, cw.raises args cls = false) (hp : cw.post args (.bool true) args = true)
    (h : codeAny M A cd (fun r s' => r = .ok (.ret (.bool true)) ∧ EndOk s₁ tabs s') s) : codeAny M A cd (GoodWG cw cl mean args s₁) s :=
  codeAny_mono h fun r s' ⟨e, hk, hos, hg, hgr⟩ => by
    subst e
    have keep : ∀ b o, b ∉ tabs.map (·.2) → s₁.heap.get? b = some o → s'.heap.get? b = some o := fun b o hb e => hk b o (ghost_ne e hb)
    have grown : ∀ b o, b ∈ tabs.map (·.2) → s₁.heap.get? b = some o → isCodeTable s₁.heap b ∧ o = tabObj #[] ∧ ∃ ps, s'.heap.get? b = some (tabObj ps) := fun b o hb e => by
      obtain ⟨q, hq, rfl⟩ := List.mem_map.mp hb
      have e2 := (hT q hq).2
      rw [e] at e2
      exact ⟨((hT q hq).1.tab (hT q hq).2).isCodeTable, Option.some.inj e2, hgr.get q hq⟩
    refine ⟨.inl ⟨.bool true, .bool true, [], rfl, hr, .bool true, hp, fun _ => ⟨.nil, fun _ ha => nomatch ha⟩⟩, ⟨fun b o e => ?_, fun b o e => ?_⟩, hos, hg⟩
    · by_cases hb : b ∈ tabs.map (·.2)
      · obtain ⟨ht, rfl, ps, hP⟩ := grown b o hb e
        exact .inr (.inl ⟨ht, rfl, #[], ps, rfl, by rw [Array.empty_append]; exact hP⟩)
      · exact .inl (keep b o hb e)
    · by_cases hb : b ∈ tabs.map (·.2)
      · obtain ⟨_, _, ps, hP⟩ := grown b o hb e
        exact ⟨_, hP⟩
      · exact ⟨o, keep b o hb e⟩

/-- a stop of our own in the walk -/
def Held (p : Prop) : Prop := p
theorem Held.mk {p : Prop} (h : Held p) : p := h
theorem Held.of {p : Prop} (h : p) : Held p := h

end
section

abbrev NoE : Value → Shared → Prop := fun _ _ => False

/-- the end of a loop's turn -/
def TurnEnd (s : Shared) (h₀ : Heap) (L : Addr) (own : List (Addr × Obj)) (J : (Str → Option Value) → List (Addr × Obj) → Array GenState → Prop) (Q : Flow → Shared → Prop) (f : Flow) (s₂ : Shared) : Prop :=
  match f with
  | .ret v => Q (.ret v) s₂
  | .brk => Q .next s₂
  | _ => ∃ h' tk g' m' news', s₂ = { s with heap := h', toks := tk, gens := g' } ∧ Fr h₀ L h' m' ∧ News h₀ L h' (news' ++ own) ∧ (∀ p ∈ own, ∀ q ∈ news', p.1 ≠ q.1) ∧ J m' news' g'

theorem next_new {h₀ h : Heap} {L : Addr} {m : Str → Option Value} (F : Fr h₀ L h m) : h₀.get? h.objs.size = none := by
  cases e : h₀.get? h.objs.size with
  | none => rfl
  | some o => exact absurd (Heap.lt_size (F.keep _ _ e)) (Nat.lt_irrefl _)

section
variable {prog : Program} {w : World} {A : Around} {E : Value → Shared → Prop} {s : Shared} {env : Env} {h₀ : Heap} {x : Str} {px pos : Pos} {iter : Expr} {body : List Stmt} {Q : Flow → Shared → Prop}

theorem for_ledE
    (hA : A.handled = none) (hx : env.kindOf x = some .local) (hp : (env.scope.kind == .class || (env.scope.kind == .module && env.locals != env.globals)) = false)
    (hit : wpAny (model prog w) A (eval iter env) (fun v s₁ => ∃ (n : Nat) (Pi : Nat → Value → Prop) (J : Nat → (Str → Option Value) → List (Addr × Obj) → Array GenState → Prop) (hs : Heap) (ft : Addr → Prop) (h₁ : Heap) (tk : Nat) (g : Array GenState) (m₁ : Str → Option Value) (news₁ srcL : List (Addr × Obj)),
      s₁ = { s with heap := h₁, toks := tk, gens := g } ∧ SrcP prog w v n Pi hs ft ∧ Sub hs h₁ ∧ (∀ b, ft b → (∃ o, h₀.get? b = some o) ∨ ∃ o, (b, o) ∈ srcL) ∧
      Fr h₀ env.locals h₁ m₁ ∧ News h₀ env.locals h₁ (news₁ ++ srcL) ∧ (∀ p ∈ srcL, ∀ q ∈ news₁, p.1 ≠ q.1) ∧ J 0 m₁ news₁ g ∧
      (∀ i v m₂ news₂ h tk g own, i < n → Pi i v → J i m₂ news₂ g → (∀ p ∈ own, ∀ q ∈ news₂, p.1 ≠ q.1) → Fr h₀ env.locals h (fun y => if y = x then some v else m₂ y) → News h₀ env.locals h (news₂ ++ own) →
        wpAny (model prog w) A (execs body env) (TurnEnd s h₀ env.locals own (J (i + 1)) Q) NoE { s with heap := h, toks := tk, gens := g }) ∧
      (∀ m₂ news₂ h tk g, J n m₂ news₂ g → Fr h₀ env.locals h m₂ → News h₀ env.locals h (news₂ ++ srcL) → Q .next { s with heap := h, toks := tk, gens := g })) E s)
    (hfold : ∀ x, foldedSetIterable iter env x = pure x := by intro _; rfl) :
    wpAny (model prog w) A (exec (.For (.Name x px) iter body [] pos) env) Q E s := by
  refine wpAny_For (wpAny_mono hit (fun v s₁ hs₁ => ?_) fun _ _ e => e) hfold
  obtain ⟨n, Pi, J, hs, ft, h₁, tk₁, g₁, m₁, news₁, srcL, rfl, S, ks, hfo, F₁, N₁, hoff₁, hJ, turn, done⟩ := hs₁
  refine S.iter A E _ _ hA ks fun oI fp St hfree W hst hfp hlive => ?_
  dsimp only at W hst hfp hlive ⊢
  generalize hI : h₁.objs.size = I at W hst hfp hlive ⊢
  have hIL : I ≠ env.locals := fun e => Nat.lt_irrefl _ (by have := F₁.ns.lt; rw [← e, ← hI] at this; exact this)
  have hI₀ : h₀.get? I = none := hI ▸ next_new F₁
  have hIs : ∀ p ∈ srcL, p.1 ≠ I := fun p hp e => Nat.lt_irrefl _ (by have := Heap.lt_size (N₁ p (List.mem_append_right _ hp)).1; rw [e, hI] at this; exact this)
  have hIn : ∀ p ∈ news₁, p.1 ≠ I := fun p hp e => Nat.lt_irrefl _ (by have := Heap.lt_size (N₁ p (List.mem_append_left _ hp)).1; rw [e, hI] at this; exact this)
  have hLf : env.locals ∉ fp := fun hm => by
    rcases hfp _ hm with e | e
    · exact hIL e.symm
    · rcases hfo _ e with ⟨o, e⟩ | ⟨o, e⟩
      · exact Nat.lt_irrefl _ (Nat.lt_of_lt_of_le (Heap.lt_size e) F₁.above)
      · exact (N₁ _ (List.mem_append_right _ e)).2.1 rfl
  -- the loop's state
  refine codeAny_forLoop_any (fun k s' => ∃ i h tk g m₂ news₂, k = n + 1 - i ∧ i ≤ n ∧ s' = { s with heap := h, toks := tk, gens := g } ∧ St i h ∧ Fr h₀ env.locals h m₂ ∧
      News h₀ env.locals h (news₂ ++ srcL) ∧ (∀ p ∈ srcL, ∀ q ∈ news₂, p.1 ≠ q.1) ∧ (∀ q ∈ news₂, q.1 ≠ I) ∧ J i m₂ news₂ g) ?_ (n + 1)
    ⟨0, _, _, _, m₁, news₁, rfl, Nat.zero_le _, rfl, hst, F₁.push _, fun p hp => ⟨Heap.get?_push_of_some _ (N₁ p hp).1, (N₁ p hp).2⟩, hoff₁, hIn, hJ⟩
  rintro k s' ⟨i, h, tk, g, m₂, news₂, rfl, hi, rfl, hst, F₂, N₂, hoff₂, hI₂, hJ⟩
  by_cases hlt : i < n
  · refine (W A hA).item i _ _ _ hlt hst fun v h₃ tk₃ hPv hst₃ hk₃ => ?_
    show wpAny _ A (letOwnedTupleGo (.Name x px) _ v) _ _ _
    refine wpAny_of_eq (rfl : letOwnedTupleGo (.Name x px) (.ref I) v = pure ()) ?_
    have F₃ : Fr h₀ env.locals h₃ m₂ := ⟨F₂.ns.at' fun o e => hk₃ _ o (fun hm => hIL (List.mem_singleton.mp hm).symm) e,
      fun b o e => hk₃ b o (fun hm => by rw [List.mem_singleton.mp hm, hI₀] at e; cases e) (F₂.keep b o e), F₂.above⟩
    have N₃ : News h₀ env.locals h₃ (news₂ ++ srcL) := fun p hp => ⟨hk₃ _ _ (fun hm => by
      rcases List.mem_append.mp hp with hp | hp
      · exact hI₂ p hp (List.mem_singleton.mp hm)
      · exact hIs p hp (List.mem_singleton.mp hm)) (N₂ p hp).1, (N₂ p hp).2⟩
    obtain ⟨oJ, hoJ⟩ := hlive _ _ hst₃
    refine wpAny_assign_Name (wpAny_storeName_local hx F₃.ns (fun h₄ hn₄ hs₄ => ?_) hp)
    have F₄ := F₃.set hn₄ hs₄
    have N₄ := N₃.set hs₄
    have hoJ₄ : h₄.get? I = some oJ := (hs₄.2 I hIL).trans hoJ
    have hst₄ : St (i + 1) h₄ := (W A hA).frame _ _ _ hst₃ fun b hb o e => hs₄.extBut b o (fun q => hLf (q ▸ hb)) e
    have Nown : News h₀ env.locals h₄ (news₂ ++ ((I, oJ) :: srcL)) := fun p hp => by
      rcases List.mem_append.mp hp with hp | hp
      · exact N₄ p (List.mem_append_left _ hp)
      · rcases List.mem_cons.mp hp with rfl | hp
        · exact ⟨hoJ₄, hIL, hI₀⟩
        · exact N₄ p (List.mem_append_right _ hp)
    have hown : ∀ p ∈ (I, oJ) :: srcL, ∀ q ∈ news₂, p.1 ≠ q.1 := fun p hp q hq => by
      rcases List.mem_cons.mp hp with rfl | hp
      · exact (hI₂ q hq).symm
      · exact hoff₂ p hp q hq
    refine wpAny_mono (turn i v m₂ news₂ h₄ _ g ((I, oJ) :: srcL) hlt hPv hJ hown F₄ Nown) (fun f s₅ hf₅ => ?_) fun _ _ e => e.elim
    have fin : (∃ h' tk g' m' news', s₅ = { s with heap := h', toks := tk, gens := g' } ∧ Fr h₀ env.locals h' m' ∧ News h₀ env.locals h' (news' ++ ((I, oJ) :: srcL)) ∧ (∀ p ∈ (I, oJ) :: srcL, ∀ q ∈ news', p.1 ≠ q.1) ∧ J (i + 1) m' news' g') →
        ∃ m, m < n + 1 - i ∧ ∃ i h tk g m₂ news₂, m = n + 1 - i ∧ i ≤ n ∧ s₅ = { s with heap := h, toks := tk, gens := g } ∧ St i h ∧ Fr h₀ env.locals h m₂ ∧
          News h₀ env.locals h (news₂ ++ srcL) ∧ (∀ p ∈ srcL, ∀ q ∈ news₂, p.1 ≠ q.1) ∧ (∀ q ∈ news₂, q.1 ≠ I) ∧ J i m₂ news₂ g := by
      rintro ⟨h₅, tk₅, g₅, m₅, news₅, rfl, F₅, N₅, hoff₅, hJ₅⟩
      refine ⟨n + 1 - (i + 1), by omega, i + 1, h₅, tk₅, g₅, m₅, news₅, rfl, hlt, rfl, (W A hA).frame _ _ _ hst₄ fun b hb o e => ?_, F₅, fun p hp => ?_, fun p hp => hoff₅ p (List.mem_cons_of_mem _ hp), fun q hq => (hoff₅ _ (List.mem_cons_self ..) q hq).symm, hJ₅⟩
      · rcases hfp b hb with rfl | e'
        · rw [hoJ₄] at e; cases e
          exact (N₅ _ (List.mem_append_right _ (List.mem_cons_self ..))).1
        · rcases hfo _ e' with ⟨o', e'⟩ | ⟨o', e'⟩
          · rw [F₄.keep _ _ e'] at e; cases e; exact F₅.keep _ _ e'
          · have h1 := (N₄ _ (List.mem_append_right _ e')).1
            rw [h1] at e; cases e
            exact (N₅ _ (List.mem_append_right _ (List.mem_cons_of_mem _ e'))).1
      · rcases List.mem_append.mp hp with hp | hp
        · exact N₅ p (List.mem_append_left _ hp)
        · exact N₅ p (List.mem_append_right _ (List.mem_cons_of_mem _ hp))
    cases f with
    | ret v => exact hf₅
    | brk => exact hf₅
    | next => exact fin hf₅
    | cont => exact fin hf₅
  · have hin : i = n := by omega
    subst hin
    refine (W A hA).done _ _ _ hst fun h₃ tk₃ hk₃ => ?_
    have F₃ : Fr h₀ env.locals h₃ m₂ := ⟨F₂.ns.at' fun o e => hk₃ _ o (fun hm => hIL (List.mem_singleton.mp hm).symm) e,
      fun b o e => hk₃ b o (fun hm => by rw [List.mem_singleton.mp hm, hI₀] at e; cases e) (F₂.keep b o e), F₂.above⟩
    have N₃ : News h₀ env.locals h₃ (news₂ ++ srcL) := fun p hp => ⟨hk₃ _ _ (fun hm => by
      rcases List.mem_append.mp hp with hp | hp
      · exact hI₂ p hp (List.mem_singleton.mp hm)
      · exact hIs p hp (List.mem_singleton.mp hm)) (N₂ p hp).1, (N₂ p hp).2⟩
    exact wpAny_execs_nil (done m₂ news₂ h₃ tk₃ g hJ F₃ N₃)

theorem for_led {n : Nat} {Pi : Nat → Value → Prop} (J : Nat → (Str → Option Value) → List (Addr × Obj) → Array GenState → Prop)
    (hA : A.handled = none) (hx : env.kindOf x = some .local) (hp : (env.scope.kind == .class || (env.scope.kind == .module && env.locals != env.globals)) = false)
    (hit : wpAny (model prog w) A (eval iter env) (fun v s₁ => ∃ (hs : Heap) (ft : Addr → Prop) (h₁ : Heap) (tk : Nat) (g : Array GenState) (m₁ : Str → Option Value) (news₁ srcL : List (Addr × Obj)),
      s₁ = { s with heap := h₁, toks := tk, gens := g } ∧ SrcP prog w v n Pi hs ft ∧ Sub hs h₁ ∧ (∀ b, ft b → (∃ o, h₀.get? b = some o) ∨ ∃ o, (b, o) ∈ srcL) ∧
      Fr h₀ env.locals h₁ m₁ ∧ News h₀ env.locals h₁ (news₁ ++ srcL) ∧ (∀ p ∈ srcL, ∀ q ∈ news₁, p.1 ≠ q.1) ∧ J 0 m₁ news₁ g ∧
      (∀ i v m₂ news₂ h tk g own, i < n → Pi i v → J i m₂ news₂ g → (∀ p ∈ own, ∀ q ∈ news₂, p.1 ≠ q.1) → Fr h₀ env.locals h (fun y => if y = x then some v else m₂ y) → News h₀ env.locals h (news₂ ++ own) →
        wpAny (model prog w) A (execs body env) (TurnEnd s h₀ env.locals own (J (i + 1)) Q) NoE { s with heap := h, toks := tk, gens := g }) ∧
      (∀ m₂ news₂ h tk g, J n m₂ news₂ g → Fr h₀ env.locals h m₂ → News h₀ env.locals h (news₂ ++ srcL) → Q .next { s with heap := h, toks := tk, gens := g })) E s)
    (hfold : ∀ x, foldedSetIterable iter env x = pure x := by intro _; rfl) :
    wpAny (model prog w) A (exec (.For (.Name x px) iter body [] pos) env) Q E s := by
  exact for_ledE hA hx hp (wpAny_mono hit (fun v s₁ h => ⟨n, Pi, J, h⟩) fun _ _ e => e) hfold
end

end
section

/-- the end of a comprehension's turn -/
def CEnd (s : Shared) (h₀ : Heap) (L : Addr) (m : Str → Option Value) (own : List (Addr × Obj)) (J : List (Addr × Obj) → Array GenState → Prop) (s₂ : Shared) : Prop :=
  ∃ h' tk g' fam', s₂ = { s with heap := h', toks := tk, gens := g' } ∧ Fr h₀ L h' m ∧ News h₀ L h' (fam' ++ own) ∧ (∀ p ∈ own, ∀ q ∈ fam', p.1 ≠ q.1) ∧ J fam' g'

section
variable {prog : Program} {w : World} {A : Around} {E : Value → Shared → Prop} {s : Shared} {env : Env} {h₀ : Heap} {x : Str} {px pos : Pos} {iter elt : Expr} {ifs : List Expr} {scope : Scope} {cl : List (Str × Addr)} {m : Str → Option Value}

/-- what is asked of each turn of a comprehension -/
def CTurn (prog : Program) (w : World) (A : Around) (s : Shared) (env : Env) (h₀ : Heap) (x : Str) (elt : Expr) (ifs : List Expr) (scope : Scope) (cl : List (Str × Addr)) (m : Str → Option Value) (n : Nat) (Pi : Nat → Value → Prop)
    (J : Nat → List Value → List (Addr × Obj) → Array GenState → Prop) : Prop :=
  ∀ C i v h tk g m₃ fam ys own, i < n → Pi i v → J i ys fam g → h.Ns C m₃ → m₃ x = some v → C ≠ env.locals → (∃ oC, (C, oC) ∈ own) → Fr h₀ env.locals h m → News h₀ env.locals h (fam ++ own) → (∀ p ∈ own, ∀ q ∈ fam, p.1 ≠ q.1) →
    wpAny (model prog w) A (forIn ifs true fun c r => if r = true then do let ok ← isTrue c (compEnvC scope cl C env) (eval c (compEnvC scope cl C env)); pure (ForInStep.yield ok) else pure (ForInStep.yield r))
      (fun ok s₄ => if ok = true then wpAny (model prog w) A (eval elt (compEnvC scope cl C env)) (fun y s₅ => CEnd s h₀ env.locals m own (J (i + 1) (ys ++ [y])) s₅) NoE s₄
        else CEnd s h₀ env.locals m own (J (i + 1) ys) s₄) NoE { s with heap := h, toks := tk, gens := g }

theorem comp_block_led {n : Nat} {Pi : Nat → Value → Prop} {J : Nat → List Value → List (Addr × Obj) → Array GenState → Prop} {RR : Value → Addr → Result → Shared → Prop} {hs : Heap} {ft : Addr → Prop} {h₁ : Heap} {tk₁ : Nat} {g₁ : Array GenState} {news srcL : List (Addr × Obj)} {v₀ : Value}
    (hA : A.handled = none) (hcell : ∀ y ∈ scope.names, y.2 ≠ .cell) (hkind : scope.kind = .function) (hx : scope.names.lookup x = some .local)
    (S : SrcP prog w v₀ n Pi hs ft) (ks : Sub hs h₁) (hfo : ∀ b, ft b → (∃ o, h₀.get? b = some o) ∨ ∃ o, (b, o) ∈ srcL)
    (F₁ : Fr h₀ env.locals h₁ m) (N₁ : News h₀ env.locals h₁ (news ++ srcL)) (hoff₁ : ∀ p ∈ srcL, ∀ q ∈ news, p.1 ≠ q.1) (hJ : J 0 [] news g₁) (hsz : ∀ i ys fam g, J i ys fam g → ys.length ≤ i) (hnz : n ≤ sizeLine)
    (turn : CTurn prog w A s env h₀ x elt ifs scope cl m n Pi J)
    (hRR : ∀ D C h tk g ys fam k oC m', J n ys fam g → Fr h₀ env.locals h m → News h₀ env.locals h (fam ++ ((D, listOf ys.toArray k) :: (C, oC) :: srcL)) → (∀ p ∈ (D, listOf ys.toArray k) :: (C, oC) :: srcL, ∀ q ∈ fam, p.1 ≠ q.1) → (∀ p ∈ srcL, p.1 ≠ D ∧ p.1 ≠ C) → D ≠ C → h.Ns C m' →
      RR (.ref D) C (.ok .next) { s with heap := h, toks := tk, gens := g }) :
    wpAny (model prog w) A (pyIter v₀) (fun it s₂ => wpAny (model prog w) A (newList []) (fun acc s₃ => wpAny (model prog w) A (newFunctionEnv scope env.globals cl [] env.qual none .none (some env)) (fun cenv s₄ =>
      codeAny (model prog w) A (.compStart (.ListComp elt [⟨.Name x px, iter, ifs, 0⟩] scope pos) 0 it acc { cenv with scope := relabel scope env }) (RR acc cenv.locals) s₄) E s₃) E s₂) E { s with heap := h₁, toks := tk₁, gens := g₁ } := by
  refine S.iter A E _ _ hA ks fun oI fp St hfree W hst hfp hlive => ?_
  dsimp only at W hst hfp hlive ⊢
  refine wpAny_newObj_type (wpAny_newFunctionEnv hcell (by intro y hy; simp at hy) (fun h₂ hns₂ hsb₂ => ?_) hkind)
  dsimp only at hns₂ hsb₂ ⊢
  generalize hI : h₁.objs.size = I at W hst hfp hlive ⊢
  generalize hHa : h₁.push oI = Ha at hst hns₂ hsb₂ ⊢
  have hD : Ha.objs.size = I + 1 := by rw [← hHa, Heap.size_push, hI]
  generalize hHb : Ha.push { cls := .type "list", dict := none, data := .seq ([] : List Value).toArray } = Hb at hns₂ hsb₂ ⊢
  have hC : Hb.objs.size = I + 2 := by rw [← hHb, Heap.size_push, hD]
  rw [hD]
  rw [hC] at hns₂ hsb₂
  rw [hC]
  have hLI : env.locals < I := by have := F₁.ns.lt; rw [hI] at this; exact this
  have old : Sub h₁ h₂ := fun b o e => by
    have hb : b < I := by have := Heap.lt_size e; rw [hI] at this; exact this
    exact hsb₂.extBut b o (Nat.ne_of_lt (Nat.lt_of_lt_of_le hb (Nat.le_add_right _ _))) (Heap.get?_push_of_some _ (hHb ▸ Heap.get?_push_of_some _ (hHa ▸ Heap.get?_push_of_some _ e)))
  have hol : ∀ b, I ≤ b → h₀.get? b = none := fun b hb => by
    cases e : h₀.get? b with
    | none => rfl
    | some o =>
      have h3 : b < I := by have := Heap.lt_size (F₁.keep _ _ e); rw [hI] at this; exact this
      exact absurd (Nat.lt_of_lt_of_le h3 hb) (Nat.lt_irrefl _)
  have hnl : ∀ p ∈ news ++ srcL, p.1 < I := fun p hp => by have := Heap.lt_size (N₁ p hp).1; rw [hI] at this; exact this
  have hst₂ : St 0 h₂ := (W A hA).frame _ _ _ hst fun b hb o e => by
    have hb2 : b < Ha.objs.size := Heap.lt_size e
    rw [hD] at hb2
    exact hsb₂.extBut b o (Nat.ne_of_lt (Nat.lt_trans hb2 (Nat.lt_succ_self _))) (Heap.get?_push_of_some _ (hHb ▸ Heap.get?_push_of_some _ e))
  have hDl : h₂.PlainList (I + 1) #[] := ⟨0, by
    have e1 : Hb.get? (I + 1) = some { cls := .type "list", dict := none, data := .seq ([] : List Value).toArray } := by rw [← hHb, ← hD]; exact Heap.get?_push_size _ rfl
    exact hsb₂.extBut _ _ (Nat.ne_of_lt (Nat.lt_succ_self _)) (Heap.get?_push_of_some _ e1)⟩
  have F₂ : Fr h₀ env.locals h₂ m := F₁.keeps old
  have N₂ : News h₀ env.locals h₂ (news ++ srcL) := fun p hp => ⟨old _ _ (N₁ p hp).1, (N₁ p hp).2⟩
  have hCf : I + 2 ∉ fp := fun hm => by
    rcases hfp _ hm with e | e
    · exact absurd e (Nat.ne_of_gt (Nat.lt_succ_of_lt (Nat.lt_succ_self _)))
    · rcases hfo _ e with ⟨o, e⟩ | ⟨o, e⟩
      · rw [hol _ (Nat.le_add_right _ _)] at e; cases e
      · exact absurd (hnl _ (List.mem_append_right _ e)) (Nat.not_lt.mpr (Nat.le_add_right _ _))
  have hDf : I + 1 ∉ fp := fun hm => by
    rcases hfp _ hm with e | e
    · exact absurd e (Nat.ne_of_gt (Nat.lt_succ_self _))
    · rcases hfo _ e with ⟨o, e⟩ | ⟨o, e⟩
      · rw [hol _ (Nat.le_add_right _ _)] at e; cases e
      · exact absurd (hnl _ (List.mem_append_right _ e)) (Nat.not_lt.mpr (Nat.le_add_right _ _))
  have loop : ∀ tk, codeAny (model prog w) A (.compLoop (.ListComp elt [⟨.Name x px, iter, ifs, 0⟩] scope pos) 0 (.ref I) (.ref (I + 1)) (compEnvC scope cl (I + 2) env)) (RR (.ref (I + 1)) (I + 2)) { s with heap := h₂, toks := tk, gens := g₁ } := by
    intro tk
    refine codeAny_compLoop_tests (fun k s' => ∃ i h tk g ys fam m', k = n + 1 - i ∧ i ≤ n ∧ s' = { s with heap := h, toks := tk, gens := g } ∧ St i h ∧ Fr h₀ env.locals h m ∧ News h₀ env.locals h (fam ++ srcL) ∧ (∀ p ∈ srcL, ∀ q ∈ fam, p.1 ≠ q.1) ∧
        (∀ q ∈ fam, q.1 ≠ I ∧ q.1 ≠ I + 1 ∧ q.1 ≠ I + 2) ∧ h.PlainList (I + 1) ys.toArray ∧ h.Ns (I + 2) m' ∧ J i ys fam g) ?_ (n + 1)
      ⟨0, h₂, tk, g₁, [], news, _, rfl, Nat.zero_le _, rfl, hst₂, F₂, N₂, hoff₁, fun q hq => ?_, hDl, hns₂, hJ⟩
    · rintro k s' ⟨i, h, tk, g, ys, fam, m', rfl, hi, rfl, hst, F, N, hoff, hfam, hl, hns, hJ⟩
      have hCL : I + 2 ≠ env.locals := Nat.ne_of_gt (Nat.lt_of_lt_of_le hLI (Nat.le_add_right _ _))
      have hDL : I + 1 ≠ env.locals := Nat.ne_of_gt (Nat.lt_of_lt_of_le hLI (Nat.le_add_right _ _))
      have hIL : I ≠ env.locals := Nat.ne_of_gt hLI
      have hsrcI : ∀ p ∈ srcL, p.1 ≠ I ∧ p.1 ≠ I + 1 ∧ p.1 ≠ I + 2 := fun p hp => by
        have h1 := hnl p (List.mem_append_right _ hp)
        exact ⟨Nat.ne_of_lt h1, Nat.ne_of_lt (Nat.lt_of_lt_of_le h1 (Nat.le_add_right _ _)), Nat.ne_of_lt (Nat.lt_of_lt_of_le h1 (Nat.le_add_right _ _))⟩
      by_cases hlt : i < n
      · refine (W A hA).item i _ _ _ hlt hst fun v h₃ tk₃ hPv hst₃ hk₃ => ?_
        have k₃ : ∀ b o, b ≠ I → h.get? b = some o → h₃.get? b = some o := fun b o hb e => hk₃ b o (fun hm => hb (List.mem_singleton.mp hm)) e
        obtain ⟨oJ, hoJ⟩ := hlive _ _ hst₃
        show wpAny _ A (assign (.Name x px) (compEnvC scope cl (I + 2) env) v) _ _ _
        refine wpAny_assign_Name (wpAny_storeName_local (env := compEnvC scope cl (I + 2) env) (lookup_relabel_local hx) (hns.at' fun o e => k₃ _ o (Nat.ne_of_gt (Nat.lt_succ_of_lt (Nat.lt_succ_self _))) e) (fun h₄ hn₄ hs₄ => ?_) (by simp [compEnvC, relabel, hkind]))
        have hs₄' : Heap.SameBut (I + 2) h₃ h₄ := hs₄
        have k₄ : ∀ b o, b ≠ I → b ≠ I + 2 → h.get? b = some o → h₄.get? b = some o := fun b o hb hb2 e => hs₄'.extBut b o hb2 (k₃ b o hb e)
        have F₄ : Fr h₀ env.locals h₄ m := ⟨F.ns.at' fun o e => k₄ _ o hIL.symm hCL.symm e, fun b o e => k₄ b o (fun q => by rw [q, hol _ (Nat.le_refl _)] at e; cases e) (fun q => by rw [q, hol _ (Nat.le_add_right _ _)] at e; cases e) (F.keep b o e), F.above⟩
        obtain ⟨kk, hD₄⟩ : h₄.PlainList (I + 1) ys.toArray := hl.at fun o e => k₄ _ o (Nat.ne_of_gt (Nat.lt_succ_self _)) (Nat.ne_of_lt (Nat.lt_succ_self _)) e
        obtain ⟨oC, _, _, hoC, _⟩ := id hn₄
        have hoI : h₄.get? I = some oJ := hs₄'.extBut I oJ (Nat.ne_of_lt (Nat.lt_succ_of_lt (Nat.lt_succ_self _))) hoJ
        have hst₄ : St (i + 1) h₄ := (W A hA).frame _ _ _ hst₃ fun b hb o e => hs₄'.extBut b o (fun q => hCf (q ▸ hb)) e
        have Nown : News h₀ env.locals h₄ (fam ++ ((I, oJ) :: (I + 1, listOf ys.toArray kk) :: (I + 2, oC) :: srcL)) := fun p hp => by
          rcases List.mem_append.mp hp with hp | hp
          · exact ⟨k₄ _ _ (hfam p hp).1 (hfam p hp).2.2 (N p (List.mem_append_left _ hp)).1, (N p (List.mem_append_left _ hp)).2⟩
          · rcases List.mem_cons.mp hp with rfl | hp
            · exact ⟨hoI, hIL, hol _ (Nat.le_refl _)⟩
            · rcases List.mem_cons.mp hp with rfl | hp
              · exact ⟨hD₄, hDL, hol _ (Nat.le_add_right _ _)⟩
              · rcases List.mem_cons.mp hp with rfl | hp
                · exact ⟨hoC, hCL, hol _ (Nat.le_add_right _ _)⟩
                · exact ⟨k₄ _ _ (hsrcI p hp).1 (hsrcI p hp).2.2 (N p (List.mem_append_right _ hp)).1, (N p (List.mem_append_right _ hp)).2⟩
        have hown : ∀ p ∈ (I, oJ) :: (I + 1, listOf ys.toArray kk) :: (I + 2, oC) :: srcL, ∀ q ∈ fam, p.1 ≠ q.1 := fun p hp q hq => by
          rcases List.mem_cons.mp hp with rfl | hp
          · exact (hfam q hq).1.symm
          · rcases List.mem_cons.mp hp with rfl | hp
            · exact (hfam q hq).2.1.symm
            · rcases List.mem_cons.mp hp with rfl | hp
              · exact (hfam q hq).2.2.symm
              · exact hoff p hp q hq
        have back : ∀ (ys' : List Value) (s₅ : Shared), CEnd s h₀ env.locals m ((I, oJ) :: (I + 1, listOf ys.toArray kk) :: (I + 2, oC) :: srcL) (J (i + 1) ys') s₅ →
            ∃ h tk g fam, s₅ = { s with heap := h, toks := tk, gens := g } ∧ St (i + 1) h ∧ Fr h₀ env.locals h m ∧ News h₀ env.locals h (fam ++ srcL) ∧ (∀ p ∈ srcL, ∀ q ∈ fam, p.1 ≠ q.1) ∧
              (∀ q ∈ fam, q.1 ≠ I ∧ q.1 ≠ I + 1 ∧ q.1 ≠ I + 2) ∧ h.get? (I + 1) = some (listOf ys.toArray kk) ∧ (∃ m', h.Ns (I + 2) m') ∧ J (i + 1) ys' fam g := by
          rintro ys' s₅ ⟨h₅, tk₅, g₅, fam₅, rfl, F₅, N₅, hoff₅, hJ₅⟩
          have hI5 := (N₅ (I, oJ) (List.mem_append_right _ (List.mem_cons_self ..))).1
          have hD5 := (N₅ (I + 1, listOf ys.toArray kk) (List.mem_append_right _ (List.mem_cons_of_mem _ (List.mem_cons_self ..)))).1
          have hC5 := (N₅ (I + 2, oC) (List.mem_append_right _ (List.mem_cons_of_mem _ (List.mem_cons_of_mem _ (List.mem_cons_self ..))))).1
          have hS5 : ∀ p ∈ srcL, p ∈ fam₅ ++ ((I, oJ) :: (I + 1, listOf ys.toArray kk) :: (I + 2, oC) :: srcL) := fun p hp => List.mem_append_right _ (List.mem_cons_of_mem _ (List.mem_cons_of_mem _ (List.mem_cons_of_mem _ hp)))
          refine ⟨h₅, tk₅, g₅, fam₅, rfl, (W A hA).frame _ _ _ hst₄ fun b hb o e => ?_, F₅, fun p hp => ?_, fun p hp => hoff₅ p (List.mem_cons_of_mem _ (List.mem_cons_of_mem _ (List.mem_cons_of_mem _ hp))), fun q hq => ?_, hD5, ⟨_, hn₄.at' fun o e => ?_⟩, hJ₅⟩
          · rcases hfp b hb with rfl | e'
            · rw [hoI] at e; cases e; exact hI5
            · rcases hfo _ e' with ⟨o', e'⟩ | ⟨o', e'⟩
              · rw [F₄.keep _ _ e'] at e; cases e; exact F₅.keep _ _ e'
              · have h1 := (Nown _ (List.mem_append_right _ (List.mem_cons_of_mem _ (List.mem_cons_of_mem _ (List.mem_cons_of_mem _ e'))))).1
                rw [h1] at e; cases e
                exact (N₅ _ (hS5 _ e')).1
          · rcases List.mem_append.mp hp with hp | hp
            · exact N₅ p (List.mem_append_left _ hp)
            · exact N₅ p (hS5 p hp)
          · exact ⟨(hoff₅ _ (List.mem_cons_self ..) q hq).symm, (hoff₅ _ (List.mem_cons_of_mem _ (List.mem_cons_self ..)) q hq).symm, (hoff₅ _ (List.mem_cons_of_mem _ (List.mem_cons_of_mem _ (List.mem_cons_self ..))) q hq).symm⟩
          · have e' : some oC = some o := hoC.symm.trans e
            cases e'; exact hC5
        refine wpAny_mono (turn (I + 2) i v h₄ _ g _ fam ys _ hlt hPv hJ hn₄ (by simp) hCL ⟨oC, List.mem_cons_of_mem _ (List.mem_cons_of_mem _ (List.mem_cons_self ..))⟩ F₄ Nown hown) (fun ok s₅ hc₅ => ?_) fun _ _ e => e.elim
        cases ok with
        | false =>
          simp only [Bool.false_eq_true, if_false] at hc₅ ⊢
          obtain ⟨h₅, tk₅, g₅, fam₅, rfl, a1, a2, a3, a4, a5, a6, ⟨m₅, a7⟩, a8⟩ := back ys s₅ hc₅
          exact ⟨n + 1 - (i + 1), by omega, i + 1, h₅, tk₅, g₅, ys, fam₅, m₅, rfl, hlt, rfl, a1, a2, a3, a4, a5, ⟨kk, a6⟩, a7, a8⟩
        | true =>
          simp only [if_true] at hc₅ ⊢
          refine wpAny_mono hc₅ (fun y s₆ hc₆ => ?_) fun _ _ e => e.elim
          obtain ⟨h₆, tk₆, g₆, fam₆, rfl, a1, a2, a3, a4, a5, a6, ⟨m₆, a7⟩, a8⟩ := back (ys ++ [y]) s₆ hc₆
          have hys : ys.toArray.size ≤ sizeLine := by
            have := hsz _ _ _ _ hJ
            rw [List.size_toArray]; omega
          refine wpAny_list_append_plain (hsz := hys) ⟨kk, a6⟩ fun h₇ hl₇ hs₇ => ?_
          have k₇ : ∀ b o, b ≠ I + 1 → h₆.get? b = some o → h₇.get? b = some o := fun b o hb e => hs₇.extBut b o hb e
          refine ⟨n + 1 - (i + 1), by omega, i + 1, h₇, tk₆, g₆, ys ++ [y], fam₆, m₆, rfl, hlt, rfl, (W A hA).frame _ _ _ a1 fun b hb o e => k₇ b o (fun q => hDf (q ▸ hb)) e,
            ⟨a2.ns.at' fun o e => k₇ _ o hDL.symm e, fun b o e => k₇ b o (fun q => by rw [q, hol _ (Nat.le_add_right _ _)] at e; cases e) (a2.keep b o e), a2.above⟩,
            fun p hp => ⟨k₇ _ _ ?_ (a3 p hp).1, (a3 p hp).2⟩, a4, a5, ?_, a7.at' fun o e => k₇ _ o (Nat.ne_of_gt (Nat.lt_succ_self _)) e, a8⟩
          · rcases List.mem_append.mp hp with hp | hp
            · exact (a5 p hp).2.1
            · exact (hsrcI p hp).2.1
          · have e1 : (ys ++ [y]).toArray = ys.toArray.push y := by simp
            rw [e1]; exact hl₇
      · have hin : i = n := by omega
        subst hin
        refine (W A hA).done _ _ _ hst fun h₃ tk₃ hk₃ => ?_
        have k₃ : ∀ b o, b ≠ I → h.get? b = some o → h₃.get? b = some o := fun b o hb e => hk₃ b o (fun hm => hb (List.mem_singleton.mp hm)) e
        have F₃ : Fr h₀ env.locals h₃ m := ⟨F.ns.at' fun o e => k₃ _ o hIL.symm e, fun b o e => k₃ b o (fun q => by rw [q, hol _ (Nat.le_refl _)] at e; cases e) (F.keep b o e), F.above⟩
        obtain ⟨kk, hD₃⟩ : h₃.PlainList (I + 1) ys.toArray := hl.at fun o e => k₃ _ o (Nat.ne_of_gt (Nat.lt_succ_self _)) e
        have hns₃ : h₃.Ns (I + 2) m' := hns.at' fun o e => k₃ _ o (Nat.ne_of_gt (Nat.lt_succ_of_lt (Nat.lt_succ_self _))) e
        obtain ⟨oC, _, _, hoC, _⟩ := id hns₃
        refine hRR (I + 1) (I + 2) h₃ tk₃ g ys fam kk oC m' hJ F₃ (fun p hp => ?_) (fun p hp q hq => ?_) (fun p hp => ⟨(hsrcI p hp).2.1, (hsrcI p hp).2.2⟩) (Nat.ne_of_lt (Nat.lt_succ_self _)) hns₃
        · rcases List.mem_append.mp hp with hp | hp
          · exact ⟨k₃ _ _ (hfam p hp).1 (N p (List.mem_append_left _ hp)).1, (N p (List.mem_append_left _ hp)).2⟩
          · rcases List.mem_cons.mp hp with rfl | hp
            · exact ⟨hD₃, hDL, hol _ (Nat.le_add_right _ _)⟩
            · rcases List.mem_cons.mp hp with rfl | hp
              · exact ⟨hoC, hCL, hol _ (Nat.le_add_right _ _)⟩
              · exact ⟨k₃ _ _ (hsrcI p hp).1 (N p (List.mem_append_right _ hp)).1, (N p (List.mem_append_right _ hp)).2⟩
        · rcases List.mem_cons.mp hp with rfl | hp
          · exact (hfam q hq).2.1.symm
          · rcases List.mem_cons.mp hp with rfl | hp
            · exact (hfam q hq).2.2.symm
            · exact hoff p hp q hq
    · have h1 := hnl q (List.mem_append_left _ hq)
      exact ⟨Nat.ne_of_lt h1, Nat.ne_of_lt (Nat.lt_of_lt_of_le h1 (Nat.le_add_right _ _)), Nat.ne_of_lt (Nat.lt_of_lt_of_le h1 (Nat.le_add_right _ _))⟩
  exact codeAny_compStart_list (loop _) ((W A hA).self 0 _ _ _ hst₂ (loop _))

/-- what the source of a comprehension must show -/
def CSrc (prog : Program) (w : World) (s : Shared) (env : Env) (h₀ : Heap) (m : Str → Option Value) (n : Nat) (Pi : Nat → Value → Prop) (J : Nat → List Value → List (Addr × Obj) → Array GenState → Prop) (srcL : List (Addr × Obj)) (v : Value) (s₁ : Shared) : Prop :=
  ∃ (hs : Heap) (ft : Addr → Prop) (h₁ : Heap) (tk : Nat) (g : Array GenState) (news : List (Addr × Obj)), s₁ = { s with heap := h₁, toks := tk, gens := g } ∧ SrcP prog w v n Pi hs ft ∧ Sub hs h₁ ∧ (∀ b, ft b → (∃ o, h₀.get? b = some o) ∨ ∃ o, (b, o) ∈ srcL) ∧
    Fr h₀ env.locals h₁ m ∧ News h₀ env.locals h₁ (news ++ srcL) ∧ (∀ p ∈ srcL, ∀ q ∈ news, p.1 ≠ q.1) ∧ J 0 [] news g

theorem comp_led {n : Nat} {Pi : Nat → Value → Prop} {Q : Value → Shared → Prop} (hF0 : Fr h₀ env.locals s.heap m) (J : Nat → List Value → List (Addr × Obj) → Array GenState → Prop) (srcL : List (Addr × Obj))
    (hA : A.handled = none) (hclos : closureFor scope env = pure cl) (hcell : ∀ y ∈ scope.names, y.2 ≠ .cell) (hkind : scope.kind = .function)
    (hnames : ∀ y ∈ scope.names, y.2 = .local → scope.names.lookup y.1 = some .local) (hx : scope.names.lookup x = some .local)
    (hsrc : wpAny (model prog w) A (eval iter env) (CSrc prog w s env h₀ m n Pi J srcL) E s)
    (hsz : ∀ i ys fam g, J i ys fam g → ys.length ≤ i) (hnz : n ≤ sizeLine)
    (turn : CTurn prog w A s env h₀ x elt ifs scope cl m n Pi J)
    (hQ : ∀ D h tk g ys fam k, J n ys fam g → Fr h₀ env.locals h m → News h₀ env.locals h ((D, listOf ys.toArray k) :: fam ++ srcL) → (∀ p ∈ fam ++ srcL, p.1 ≠ D) → Q (.ref D) { s with heap := h, toks := tk, gens := g })
    (hfold : ∀ x, foldedSetIterable iter env x = pure x := by intro _; rfl) :
    wpAny (model prog w) A (eval (.ListComp elt [⟨.Name x px, iter, ifs, 0⟩] scope pos) env) Q E s := by
  rw [eval_ListComp]
  refine wpAny_comprehension_free (use := none) rfl hfold hclos hkind hnames (wpAny_mono hsrc (fun v s₁ h₁ => ?_) fun _ _ e => e)
  obtain ⟨hs, ft, h₁, tk, g, news, rfl, S, ks, hfo, F₁, N₁, hoff, hJ⟩ := h₁
  refine comp_block_led (J := J) (srcL := srcL) (RR := fun acc C => compPost (model prog w) A E none Q acc C) hA hcell hkind hx S ks hfo F₁ N₁ hoff hJ hsz hnz turn ?_
  intro D C h tk g ys fam k oC m' hJ F N hoff hsrcDC hDC hns
  have hCL : C ≠ env.locals := (N (C, oC) (List.mem_append_right _ (List.mem_cons_of_mem _ (List.mem_cons_self ..)))).2.1
  have hC0 : h₀.get? C = none := (N (C, oC) (List.mem_append_right _ (List.mem_cons_of_mem _ (List.mem_cons_self ..)))).2.2
  refine ⟨m', hns, fun h'' hs'' => hQ D h'' tk g ys fam k hJ ⟨F.ns.sameBut hs'' hCL.symm, fun b o e => hs''.extBut b o (fun q => by rw [q, hC0] at e; cases e) (F.keep b o e), F.above⟩ (fun p hp => ?_) fun p hp => ?_⟩
  · rcases List.mem_cons.mp hp with rfl | hp
    · exact ⟨hs''.extBut _ _ hDC (N _ (List.mem_append_right _ (List.mem_cons_self ..))).1, (N _ (List.mem_append_right _ (List.mem_cons_self ..))).2⟩
    · rcases List.mem_append.mp hp with hp | hp
      · exact ⟨hs''.extBut _ _ (hoff _ (List.mem_cons_of_mem _ (List.mem_cons_self ..)) p hp).symm (N _ (List.mem_append_left _ hp)).1, (N _ (List.mem_append_left _ hp)).2⟩
      · have hm := List.mem_append_right fam (List.mem_cons_of_mem (D, listOf ys.toArray k) (List.mem_cons_of_mem (C, oC) hp))
        exact ⟨hs''.extBut _ _ (hsrcDC p hp).2 (N _ hm).1, (N _ hm).2⟩
  · rcases List.mem_append.mp hp with hp | hp
    · exact (hoff _ (List.mem_cons_self ..) p hp).symm
    · exact (hsrcDC p hp).1

theorem assign_comp_led {n : Nat} {Pi : Nat → Value → Prop} {y : Str} {py spos : Pos} {Q : Flow → Shared → Prop} (hF0 : Fr h₀ env.locals s.heap m) (J : Nat → List Value → List (Addr × Obj) → Array GenState → Prop) (srcL : List (Addr × Obj))
    (hsw : swapsWith (.ListComp elt [⟨.Name x px, iter, ifs, 0⟩] scope pos) (some (.Name y py)) spos.line env = pure true)
    (hA : A.handled = none) (hclos : closureFor scope env = pure cl) (hcell : ∀ y ∈ scope.names, y.2 ≠ .cell) (hkind : scope.kind = .function)
    (hnames : ∀ y ∈ scope.names, y.2 = .local → scope.names.lookup y.1 = some .local) (hx : scope.names.lookup x = some .local)
    (hy : env.kindOf y = some .local) (hp : (env.scope.kind == .class || (env.scope.kind == .module && env.locals != env.globals)) = false)
    (hsrc : wpAny (model prog w) A (eval iter env) (CSrc prog w s env h₀ m n Pi J srcL) E s)
    (hsz : ∀ i ys fam g, J i ys fam g → ys.length ≤ i) (hnz : n ≤ sizeLine)
    (turn : CTurn prog w A s env h₀ x elt ifs scope cl m n Pi J)
    (hQ : ∀ D h tk g ys fam k, J n ys fam g → Fr h₀ env.locals h (fun z => if z = y then some (.ref D) else m z) → News h₀ env.locals h ((D, listOf ys.toArray k) :: fam ++ srcL) → (∀ p ∈ fam ++ srcL, p.1 ≠ D) →
      Q .next { s with heap := h, toks := tk, gens := g })
    (hfold : ∀ x, foldedSetIterable iter env x = pure x := by intro _; rfl) :
    wpAny (model prog w) A (exec (.Assign [.Name y py] (.ListComp elt [⟨.Name x px, iter, ifs, 0⟩] scope pos) spos) env) Q E s := by
  rw [exec_Assign_Name_used _ _ _ _ hsw]
  refine wpAny_bind (wpAny_standAt (wpAny_bind ?_))
  show wpAny _ A (do let _ ← comprehension (.ListComp elt [⟨.Name x px, iter, ifs, 0⟩] scope pos) scope env _ (newList []) false (eval iter env) (some (assign (.Name y py) env))) _ _ s
  refine wpAny_bind (wpAny_mono (wpAny_comprehension_free (use := some (assign (.Name y py) env)) (Q := fun _ s' => Q .next s') rfl hfold hclos hkind hnames
    (wpAny_mono hsrc (fun v s₁ h₁ => ?_) fun _ _ e => e)) (fun _ s' hq => wpAny_pure (wpAny_pure hq)) fun _ _ e => e)
  obtain ⟨hs, ft, h₁, tk, g, news, rfl, S, ks, hfo, F₁, N₁, hoff, hJ⟩ := h₁
  refine comp_block_led (J := J) (srcL := srcL) (RR := fun acc C => compPost (model prog w) A E (some (assign (.Name y py) env)) (fun _ s' => Q .next s') acc C) hA hcell hkind hx S ks hfo F₁ N₁ hoff hJ hsz hnz turn ?_
  intro D C h tk g ys fam k oC m' hJ F N hoff hsrcDC hDC hns
  have hCL : C ≠ env.locals := (N (C, oC) (List.mem_append_right _ (List.mem_cons_of_mem _ (List.mem_cons_self ..)))).2.1
  have hC0 : h₀.get? C = none := (N (C, oC) (List.mem_append_right _ (List.mem_cons_of_mem _ (List.mem_cons_self ..)))).2.2
  show wpAny _ A (assign (.Name y py) env (.ref D)) _ _ _
  refine wpAny_assign_Name (wpAny_storeName_local hy F.ns (fun h₂ hn₂ hs₂ => ?_) hp)
  have F₂ := F.set hn₂ hs₂
  have N₂ := N.set hs₂
  refine ⟨m', hns.sameBut hs₂ hCL, fun h'' hs'' => hQ D h'' _ g ys fam k hJ ⟨F₂.ns.sameBut hs'' hCL.symm, fun b o e => hs''.extBut b o (fun q => by rw [q, hC0] at e; cases e) (F₂.keep b o e), F.above⟩ (fun p hp => ?_) fun p hp => ?_⟩
  · rcases List.mem_cons.mp hp with rfl | hp
    · exact ⟨hs''.extBut _ _ hDC (N₂ _ (List.mem_append_right _ (List.mem_cons_self ..))).1, (N₂ _ (List.mem_append_right _ (List.mem_cons_self ..))).2⟩
    · rcases List.mem_append.mp hp with hp | hp
      · exact ⟨hs''.extBut _ _ (hoff _ (List.mem_cons_of_mem _ (List.mem_cons_self ..)) p hp).symm (N₂ _ (List.mem_append_left _ hp)).1, (N₂ _ (List.mem_append_left _ hp)).2⟩
      · have hm := List.mem_append_right fam (List.mem_cons_of_mem (D, listOf ys.toArray k) (List.mem_cons_of_mem (C, oC) hp))
        exact ⟨hs''.extBut _ _ (hsrcDC p hp).2 (N₂ _ hm).1, (N₂ _ hm).2⟩
  · rcases List.mem_append.mp hp with hp | hp
    · exact (hoff _ (List.mem_cons_self ..) p hp).symm
    · exact (hsrcDC p hp).1
end

end
section

/-- a call of a def of the text's, over the whole heap as its ground -/
theorem def_call {prog : Program} {w : World} {A : Around} {E : Value → Shared → Prop} {s : Shared} {K : Frag} {p : Program} {loose : List Str} {mean : ExcName → Option Value} {mg mb : Str → Option Value}
    {name qual : Str} {params : Arguments} {body : List Stmt} {scope : Scope} {dV kV doc pm cdv ct oc : Value} {an od : Option Addr} {osl : Array (Option Value)} {f : Addr} {args : List Value} {binds : List (Str × Value)} {Q : Value → Shared → Prop}
    (X : K.In s.heap) (T : Top p loose mean mg mb s.heap) (hroom : A.depth < recursionLimit)
    (ho : K.lookup f = some ⟨oc, od, .func (fnOf name qual params body scope dV kV doc pm an cdv ct), osl⟩) (hcd : codeIn K cdv qual = true)
    (hbind : BindsTo s (fnOf name qual params body scope dV kV doc pm an cdv ct) ⟨args, []⟩ binds) (hloc : ∀ y ∈ binds, scope.names.lookup y.1 = some .local)
    (h : ∀ h₁, Fr s.heap s.heap.objs.size h₁ (fun y => binds.reverse.lookup y) →
      wpAny (model prog w) (A.deeper (envOf qual scope s.heap.objs.size f cdv)) (execs body (envOf qual scope s.heap.objs.size f cdv)) (fun fl s' => ∃ r, fl = .ret r ∧ Q r s') NoE { s with heap := h₁, toks := s.toks + binds.length })
    (hco : scope.isCoroutine = false) (hgen : scope.isGenerator = false) (hk : scope.kind = .function) (hcell : ∀ x ∈ scope.names, x.2 ≠ .cell) :
    wpAny (model prog w) A (call (.ref f) args) Q E s := by
  refine wpAny_call ?_
  refine codeAny_call_def (fd := fnOf name qual params body scope dV kV doc pm an cdv ct) (body := body) (binds := binds) hroom (X _ _ ho) rfl T.nolimit (codeRec_of X hcd) rfl hbind hcell hloc (fun h₁ hns hk₁ => ?_) hco hgen hk
  exact wpAny_mono (h h₁ ⟨hns, hk₁, Nat.le_refl _⟩) (fun f s' hq => by obtain ⟨r, rfl, hq⟩ := hq; exact hq) (fun _ _ e => e.elim)

section
variable {M : Model} {A : Around} {E : Value → Shared → Prop} {s : Shared} {K : Frag} {h₀ : Heap} {p : Program} {loose : List Str} {mean : ExcName → Option Value} {mg mb : Str → Option Value} {env : Env} {x : Str} {pos : Pos} {v : Value} {Q : Value → Shared → Prop}
/-- a built-in's name, in any block of the text's -/
theorem name_blt (X : K.In h₀) (T : Top p loose mean mg mb h₀) (k : Sub h₀ s.heap) (e : nsIn K mainGlobals x = some none) (hv : bootBuiltins x = some v) (hn : x ≠ "__name__") (h : Q v s)
    (hgl : env.globals = mainGlobals) (hbl : env.builtins = builtinsNs) (hk : env.scope.kind = .function) (hx : env.kindOf x = some .globalImplicit) (hd : (x == ("__debug__" : Str)) = false) :
    wpAny M A (eval (.Name x pos) env) Q E s :=
  Name_function_global hk hx (loadGlobal_builtin (by rw [hgl]; exact T.g.keeps k) (mg_none_of X T.g e) (by rw [hbl]; exact T.b.keeps k) ((T.builtins x hn).trans hv) h) hd
/-- a global name of the text's, in any block of the text's -/
theorem name_glb (X : K.In h₀) (T : Top p loose mean mg mb h₀) (k : Sub h₀ s.heap) (e : nsIn K mainGlobals x = some (some v)) (h : Q v s)
    (hgl : env.globals = mainGlobals) (hk : env.scope.kind = .function) (hx : env.kindOf x = some .globalImplicit) (hd : (x == ("__debug__" : Str)) = false) :
    wpAny M A (eval (.Name x pos) env) Q E s :=
  Name_function_global hk hx (loadGlobal_global (by rw [hgl]; exact T.g.keeps k) (mg_of X T.g e) h) hd
theorem name_loc {m : Str → Option Value} (hn : s.heap.Ns env.locals m) (hm : m x = some v) (h : Q v s) (hk : env.scope.kind = .function) (hx : env.kindOf x = some .local) (hd : (x == ("__debug__" : Str)) = false) :
    wpAny M A (eval (.Name x pos) env) Q E s := wpAny_Name (wpAny_loadName_local hk hx hn hm h) hd
end

section
variable {prog : Program} {w : World} {A : Around} {E : Value → Shared → Prop} {s : Shared} {K : Frag} {h₀ : Heap} {p : Program} {loose : List Str} {mean : ExcName → Option Value} {mg mb : Str → Option Value} {env : Env} {Q : Value → Shared → Prop}
theorem range_len {y : Str} {py p1 p2 p3 p4 : Pos} {l : Addr} {its : Array Value} (X : K.In h₀) (T : Top p loose mean mg mb h₀) (k : Sub h₀ s.heap) (er : nsIn K mainGlobals "range" = some none) (el : nsIn K mainGlobals "len" = some none)
    (hl : s.heap.IsList l its) (hz : its.size < 2 ^ 60) (hy : ∀ Q' : Value → Shared → Prop, Q' (.ref l) s → wpAny (model prog w) A (eval (.Name y py) env) Q' E s)
    (h : ∀ t u v tk, Q (.ref s.heap.objs.size) { s with heap := s.heap.push { cls := .type "range", data := .fields #[.int 0 t, .int its.size u, .int 1 v] }, toks := tk })
    (hgl : env.globals = mainGlobals) (hbl : env.builtins = builtinsNs) (hk : env.scope.kind = .function) (hxr : env.kindOf "range" = some .globalImplicit) (hxl : env.kindOf "len" = some .globalImplicit) :
    wpAny (model prog w) A (eval (.Call (.Name "range" p1) [.Call (.Name "len" p2) [.Name y py] [] p3] [] p4) env) Q E s := by
  refine Call_ (name_blt X T k er PyProof.Rows.boot_range (by decide) ?_ hgl hbl hk hxr (by decide))
  refine PyProof.Rows.callWith_type1 (Calls.spliced_cons ?_)
  refine Call_ (name_blt X T k el PySem.boot_len (by decide) ?_ hgl hbl hk hxl (by decide))
  refine PyProof.Rows.callWith_builtin1 (Calls.spliced_cons (hy _ (args_nil ?_)))
  refine Calls.call_len_list hl (by omega) (args_nil ?_)
  exact call_range_1 (h _ _ _ _)
end

theorem filter_at {α : Type} {q : α → Bool} {a : α} : ∀ {l : List α} {k : Nat}, l[k]? = some a → q a = true → (l.filter q)[((l.take k).filter q).length]? = some a
  | [], _, h, _ => by simp at h
  | b :: l, 0, h, hq => by
    simp only [List.getElem?_cons_zero, Option.some.injEq] at h
    subst h
    simp [hq]
  | b :: l, k + 1, h, hq => by
    simp only [List.getElem?_cons_succ] at h
    have ih := filter_at (l := l) (k := k) h hq
    cases hb : q b with
    | true => simp [hb, ih]
    | false => simp [hb, ih]
theorem filter_take_succ {α : Type} {q : α → Bool} {a : α} {l : List α} {k : Nat} (h : l[k]? = some a) : ((l.take (k + 1)).filter q).length = ((l.take k).filter q).length + (if q a then 1 else 0) := by
  rw [List.take_add_one, h, List.filter_append, List.length_append]
  cases hq : q a <;> simp [hq]

end
section

theorem walks_imp {prog : Program} {w : World} {A : Around} {I : Addr} {fp wr : List Addr} {n n' : Nat} {P P' : Nat → Value → Prop} {St : Nat → Heap → Prop} (W : Walks prog w A I fp wr n P St) (hn : n = n') (h : ∀ i v, P i v → P' i v) : Walks prog w A I fp wr n' P' St where
  sub := W.sub
  frame := W.frame
  item := fun i s Q E hi st hQ => W.item i s Q E (hn ▸ hi) st fun v h' tk hP st' hk => hQ v h' tk (h i v hP) st' hk
  done := fun s Q E st hQ => W.done s Q E (hn ▸ st) hQ
  self := W.self

section
variable {prog : Program} {w : World} {K : Type} [DecidableEq K] {knd : KeyKind prog w K}
theorem Src.values {v d : Addr} {kvs : List (K × Value)} {ep : Nat} {h : Heap} (hv : h.IsValuesView v d) (hm : h.DictAt knd d kvs ep) : Src prog w (.ref v) (kvs.map (·.2)).toArray h where
  iter := fun A E s Q hh hk hQ => by
    have hvs : s.heap.IsValuesView v d := let ⟨o, e, r⟩ := hv; ⟨o, hk _ _ e, r⟩
    have hms : s.heap.DictAt knd d kvs ep := hm.at' fun o e => hk _ o e
    have hlt : d < s.heap.objs.size := by obtain ⟨_, _, e, _⟩ := hms; exact Heap.lt_size e
    refine wpAny_pyIter_values hvs hms ?_
    refine hQ _ [s.heap.objs.size, d] _ rfl (fun A' hA => walks_imp (Walks.dictValues hA _ _ (Nat.ne_of_lt hlt) kvs ep) (by simp) (fun i v ⟨k, e⟩ => by simp [e])) ⟨⟨_, Heap.get?_push_size _ rfl, rfl, rfl⟩, hms.at' fun o e => Heap.get?_push_of_some _ e⟩ ?_ ?_
    · intro b hb
      rcases List.mem_cons.mp hb with rfl | hb
      · exact .inl rfl
      · rw [List.mem_singleton.mp hb]; obtain ⟨o, _, e, _⟩ := hm; exact .inr ⟨o, e⟩
    · rintro i h' ⟨⟨o, e, _⟩, _⟩; exact ⟨o, e⟩

theorem values_expr {A : Around} {E : Value → Shared → Prop} {s : Shared} {env : Env} {Q : Value → Shared → Prop} {y : Str} {py pa pc : Pos} {d : Addr} {kvs : List (K × Value)} (hm : s.heap.DictOf knd d kvs) (hd : (d == sysModules) = false)
    (hy : ∀ Q' : Value → Shared → Prop, Q' (.ref d) s → wpAny (model prog w) A (eval (.Name y py) env) Q' E s)
    (h : Q (.ref s.heap.objs.size) { s with heap := s.heap.push { cls := .type "dict_values", data := .fields #[.ref d] } })
    (he : ∃ pl, eval (.Call (.Attribute (.Name y py) "values" pa) [] [] pc) env = (do
      let ov ← eval (.Name y py) env
      standAt pa.atName
      let (f, first) ← holding [ov] (getMethod ov "values" pl)
      callWith pc f first (backTo pc (starEach [] env)) [])) :
    wpAny (model prog w) A (eval (.Call (.Attribute (.Name y py) "values" pa) [] [] pc) env) Q E s := by
  obtain ⟨pl, he⟩ := he
  refine MethodCall_ (pl := pl) (hy _ ?_) he
  refine getMethod_builtin hm.typeIs PySem.F.plainAttrs_dict PySem.F.slot_dict_values PySem.F.type_dict_values hm.mapOf.noDict ?_
  refine callWith_method0 ?_
  exact call_meetsIn PySem.F.slot_dict_values hm.typeIs PySem.F.entry_dict_values (PySem.F.args_dict_values_1 _) (meets_dict_values knd d hd) ⟨⟨kvs, hm⟩, h⟩
end

end
section

/-- the end of a loop's turn, where the loop's name is a cell -/
def TurnEndC (s : Shared) (h₀ : Heap) (L c : Addr) (own : List (Addr × Obj)) (J : (Str → Option Value) → List (Addr × Obj) → Array GenState → Prop) (Q : Flow → Shared → Prop) (f : Flow) (s₂ : Shared) : Prop :=
  match f with
  | .ret v => Q (.ret v) s₂
  | .brk => Q .next s₂
  | _ => ∃ h' tk g' m' news' oc' v', s₂ = { s with heap := h', toks := tk, gens := g' } ∧ Fr h₀ L h' m' ∧ News h₀ L h' ((c, oc') :: news' ++ own) ∧ oc'.data = .cell v' ∧ (∀ p ∈ own, ∀ q ∈ news', p.1 ≠ q.1) ∧ (∀ q ∈ news', q.1 ≠ c) ∧ J m' news' g'

section
variable {prog : Program} {w : World} {A : Around} {E : Value → Shared → Prop} {s : Shared} {env : Env} {h₀ : Heap} {x : Str} {px pos : Pos} {iter : Expr} {body : List Stmt} {Q : Flow → Shared → Prop} {c : Addr}

theorem for_ledC {n : Nat} {Pi : Nat → Value → Prop} (J : Nat → (Str → Option Value) → List (Addr × Obj) → Array GenState → Prop)
    (hA : A.handled = none) (hx : env.kindOf x = some .cell) (hk : env.scope.kind = .function) (hc : env.cells.lookup x = some c)
    (hit : wpAny (model prog w) A (eval iter env) (fun v s₁ => ∃ (hs : Heap) (ft : Addr → Prop) (h₁ : Heap) (tk : Nat) (g : Array GenState) (m₁ : Str → Option Value) (news₁ srcL : List (Addr × Obj)) (oc : Obj) (v0 : Option Value),
      s₁ = { s with heap := h₁, toks := tk, gens := g } ∧ SrcP prog w v n Pi hs ft ∧ Sub hs h₁ ∧ (∀ b, ft b → (∃ o, h₀.get? b = some o) ∨ ∃ o, (b, o) ∈ srcL) ∧
      Fr h₀ env.locals h₁ m₁ ∧ News h₀ env.locals h₁ ((c, oc) :: news₁ ++ srcL) ∧ oc.data = .cell v0 ∧ (∀ p ∈ srcL, ∀ q ∈ news₁, p.1 ≠ q.1) ∧ (∀ q ∈ news₁, q.1 ≠ c) ∧ (∀ q ∈ srcL, q.1 ≠ c) ∧ J 0 m₁ news₁ g ∧
      (∀ i v m₂ news₂ h tk g own oc, i < n → Pi i v → J i m₂ news₂ g → oc.data = .cell (some v) → (∀ p ∈ own, ∀ q ∈ news₂, p.1 ≠ q.1) → (∀ p ∈ own, p.1 ≠ c) → (∀ q ∈ news₂, q.1 ≠ c) → Fr h₀ env.locals h m₂ → News h₀ env.locals h ((c, oc) :: news₂ ++ own) →
        wpAny (model prog w) A (execs body env) (TurnEndC s h₀ env.locals c own (J (i + 1)) Q) NoE { s with heap := h, toks := tk, gens := g }) ∧
      (∀ m₂ news₂ h tk g oc v', J n m₂ news₂ g → oc.data = .cell v' → (∀ q ∈ news₂, q.1 ≠ c) → Fr h₀ env.locals h m₂ → News h₀ env.locals h ((c, oc) :: news₂ ++ srcL) → Q .next { s with heap := h, toks := tk, gens := g })) E s)
    (hfold : ∀ x, foldedSetIterable iter env x = pure x := by intro _; rfl) :
    wpAny (model prog w) A (exec (.For (.Name x px) iter body [] pos) env) Q E s := by
  refine wpAny_For (wpAny_mono hit (fun v s₁ hs₁ => ?_) fun _ _ e => e) hfold
  obtain ⟨hs, ft, h₁, tk₁, g₁, m₁, news₁, srcL, oc₁, v0₁, rfl, S, ks, hfo, F₁, N₁, hoc₁, hoff₁, hc₁, hcs, hJ, turn, done⟩ := hs₁
  refine S.iter A E _ _ hA ks fun oI fp St hfree W hst hfp hlive => ?_
  dsimp only at W hst hfp hlive ⊢
  generalize hI : h₁.objs.size = I at W hst hfp hlive ⊢
  have hIL : I ≠ env.locals := fun e => Nat.lt_irrefl _ (by have := F₁.ns.lt; rw [← e, ← hI] at this; exact this)
  have hI₀ : h₀.get? I = none := hI ▸ next_new F₁
  have hIs : ∀ p ∈ srcL, p.1 ≠ I := fun p hp e => Nat.lt_irrefl _ (by have := Heap.lt_size (N₁ p (List.mem_append_right _ hp)).1; rw [e, hI] at this; exact this)
  have hIn : ∀ p ∈ news₁, p.1 ≠ I := fun p hp e => Nat.lt_irrefl _ (by have := Heap.lt_size (N₁ p (List.mem_append_left _ (.tail _ hp))).1; rw [e, hI] at this; exact this)
  have hcI : c ≠ I := fun e => Nat.lt_irrefl _ (by have := Heap.lt_size (N₁ (c, oc₁) (List.mem_append_left _ (.head _))).1; rw [show (c, oc₁).1 = c from rfl, e, hI] at this; exact this)
  have hcL : c ≠ env.locals := (N₁ (c, oc₁) (List.mem_append_left _ (.head _))).2.1
  have hc0 : h₀.get? c = none := (N₁ (c, oc₁) (List.mem_append_left _ (.head _))).2.2
  have hcf : c ∉ fp := fun hm => by
    rcases hfp _ hm with e | e
    · exact hcI e
    · rcases hfo _ e with ⟨o, e⟩ | ⟨o, e⟩
      · rw [hc0] at e; cases e
      · exact hcs _ e rfl
  refine codeAny_forLoop_any (fun k s' => ∃ i h tk g m₂ news₂ oc v0, k = n + 1 - i ∧ i ≤ n ∧ s' = { s with heap := h, toks := tk, gens := g } ∧ St i h ∧ Fr h₀ env.locals h m₂ ∧
      News h₀ env.locals h ((c, oc) :: news₂ ++ srcL) ∧ oc.data = .cell v0 ∧ (∀ p ∈ srcL, ∀ q ∈ news₂, p.1 ≠ q.1) ∧ (∀ q ∈ news₂, q.1 ≠ c) ∧ (∀ q ∈ news₂, q.1 ≠ I) ∧ J i m₂ news₂ g) ?_ (n + 1)
    ⟨0, _, _, _, m₁, news₁, oc₁, v0₁, rfl, Nat.zero_le _, rfl, hst, F₁.push _, fun p hp => ⟨Heap.get?_push_of_some _ (N₁ p hp).1, (N₁ p hp).2⟩, hoc₁, hoff₁, hc₁, hIn, hJ⟩
  rintro k s' ⟨i, h, tk, g, m₂, news₂, oc, v0, rfl, hi, rfl, hst, F₂, N₂, hoc, hoff₂, hc₂, hI₂, hJ⟩
  have keep : ∀ h₃, (∀ b o, b ∉ [I] → h.get? b = some o → h₃.get? b = some o) → Fr h₀ env.locals h₃ m₂ ∧ News h₀ env.locals h₃ ((c, oc) :: news₂ ++ srcL) := fun h₃ hk₃ => by
    refine ⟨⟨F₂.ns.at' fun o e => hk₃ _ o (fun hm => hIL (List.mem_singleton.mp hm).symm) e,
      fun b o e => hk₃ b o (fun hm => by rw [List.mem_singleton.mp hm, hI₀] at e; cases e) (F₂.keep b o e), F₂.above⟩, fun p hp => ⟨hk₃ _ _ (fun hm => ?_) (N₂ p hp).1, (N₂ p hp).2⟩⟩
    rcases List.mem_append.mp hp with hp | hp
    · rcases List.mem_cons.mp hp with rfl | hp
      · exact hcI (List.mem_singleton.mp hm)
      · exact hI₂ p hp (List.mem_singleton.mp hm)
    · exact hIs p hp (List.mem_singleton.mp hm)
  by_cases hlt : i < n
  · refine (W A hA).item i _ _ _ hlt hst fun v h₃ tk₃ hPv hst₃ hk₃ => ?_
    show wpAny _ A (letOwnedTupleGo (.Name x px) _ v) _ _ _
    refine wpAny_of_eq (rfl : letOwnedTupleGo (.Name x px) (.ref I) v = pure ()) ?_
    obtain ⟨F₃, N₃⟩ := keep h₃ fun b o hb e => hk₃ b o hb e
    obtain ⟨oJ, hoJ⟩ := hlive _ _ hst₃
    refine wpAny_assign_Name (wpAny_storeName_cell hk hx hc ⟨_, (N₃ (c, oc) (List.mem_append_left _ (.head _))).1, hoc⟩ fun h₄ ⟨oc₄, hoc₄, hd₄⟩ hs₄ => ?_)
    have F₄ : Fr h₀ env.locals h₄ m₂ := ⟨F₃.ns.sameBut hs₄ (Ne.symm hcL), fun b o e => hs₄.extBut b o (fun q => by rw [q, hc0] at e; cases e) (F₃.keep b o e), F₃.above⟩
    have hoJ₄ : h₄.get? I = some oJ := (hs₄.2 I (Ne.symm hcI)).trans hoJ
    have hst₄ : St (i + 1) h₄ := (W A hA).frame _ _ _ hst₃ fun b hb o e => hs₄.extBut b o (fun q => hcf (q ▸ hb)) e
    have N₄ : News h₀ env.locals h₄ ((c, oc₄) :: news₂ ++ srcL) := fun p hp => by
      rcases List.mem_append.mp hp with hp | hp
      · rcases List.mem_cons.mp hp with rfl | hp
        · exact ⟨hoc₄, hcL, hc0⟩
        · exact ⟨hs₄.extBut _ _ (hc₂ p hp) (N₃ p (List.mem_append_left _ (.tail _ hp))).1, (N₃ p (List.mem_append_left _ (.tail _ hp))).2⟩
      · exact ⟨hs₄.extBut _ _ (hcs p hp) (N₃ p (List.mem_append_right _ hp)).1, (N₃ p (List.mem_append_right _ hp)).2⟩
    have Nown : News h₀ env.locals h₄ ((c, oc₄) :: news₂ ++ ((I, oJ) :: srcL)) := fun p hp => by
      rcases List.mem_append.mp hp with hp | hp
      · exact N₄ p (List.mem_append_left _ hp)
      · rcases List.mem_cons.mp hp with rfl | hp
        · exact ⟨hoJ₄, hIL, hI₀⟩
        · exact N₄ p (List.mem_append_right _ hp)
    have hown : ∀ p ∈ (I, oJ) :: srcL, ∀ q ∈ news₂, p.1 ≠ q.1 := fun p hp q hq => by
      rcases List.mem_cons.mp hp with rfl | hp
      · exact (hI₂ q hq).symm
      · exact hoff₂ p hp q hq
    have hownc : ∀ p ∈ (I, oJ) :: srcL, p.1 ≠ c := fun p hp => by
      rcases List.mem_cons.mp hp with rfl | hp
      · exact Ne.symm hcI
      · exact hcs p hp
    refine wpAny_mono (turn i v m₂ news₂ h₄ _ g ((I, oJ) :: srcL) oc₄ hlt hPv hJ hd₄ hown hownc hc₂ F₄ Nown) (fun f s₅ hf₅ => ?_) fun _ _ e => e.elim
    have fin : (∃ h' tk g' m' news' oc' v', s₅ = { s with heap := h', toks := tk, gens := g' } ∧ Fr h₀ env.locals h' m' ∧ News h₀ env.locals h' ((c, oc') :: news' ++ ((I, oJ) :: srcL)) ∧ oc'.data = .cell v' ∧ (∀ p ∈ (I, oJ) :: srcL, ∀ q ∈ news', p.1 ≠ q.1) ∧ (∀ q ∈ news', q.1 ≠ c) ∧ J (i + 1) m' news' g') →
        ∃ m, m < n + 1 - i ∧ ∃ i h tk g m₂ news₂ oc v0, m = n + 1 - i ∧ i ≤ n ∧ s₅ = { s with heap := h, toks := tk, gens := g } ∧ St i h ∧ Fr h₀ env.locals h m₂ ∧
          News h₀ env.locals h ((c, oc) :: news₂ ++ srcL) ∧ oc.data = .cell v0 ∧ (∀ p ∈ srcL, ∀ q ∈ news₂, p.1 ≠ q.1) ∧ (∀ q ∈ news₂, q.1 ≠ c) ∧ (∀ q ∈ news₂, q.1 ≠ I) ∧ J i m₂ news₂ g := by
      rintro ⟨h₅, tk₅, g₅, m₅, news₅, oc₅, v₅, rfl, F₅, N₅, hoc₅, hoff₅, hc₅, hJ₅⟩
      refine ⟨n + 1 - (i + 1), by omega, i + 1, h₅, tk₅, g₅, m₅, news₅, oc₅, v₅, rfl, hlt, rfl, (W A hA).frame _ _ _ hst₄ fun b hb o e => ?_, F₅, fun p hp => ?_, hoc₅, fun p hp => hoff₅ p (List.mem_cons_of_mem _ hp), hc₅, fun q hq => (hoff₅ _ (List.mem_cons_self ..) q hq).symm, hJ₅⟩
      · rcases hfp b hb with rfl | e'
        · rw [hoJ₄] at e; cases e
          exact (N₅ _ (List.mem_append_right _ (List.mem_cons_self ..))).1
        · rcases hfo _ e' with ⟨o', e'⟩ | ⟨o', e'⟩
          · rw [F₄.keep _ _ e'] at e; cases e; exact F₅.keep _ _ e'
          · have h1 := (N₄ _ (List.mem_append_right _ e')).1
            rw [h1] at e; cases e
            exact (N₅ _ (List.mem_append_right _ (List.mem_cons_of_mem _ e'))).1
      · rcases List.mem_append.mp hp with hp | hp
        · exact N₅ p (List.mem_append_left _ hp)
        · exact N₅ p (List.mem_append_right _ (List.mem_cons_of_mem _ hp))
    cases f with
    | ret v => exact hf₅
    | brk => exact hf₅
    | next => exact fin hf₅
    | cont => exact fin hf₅
  · have hin : i = n := by omega
    subst hin
    refine (W A hA).done _ _ _ hst fun h₃ tk₃ hk₃ => ?_
    obtain ⟨F₃, N₃⟩ := keep h₃ fun b o hb e => hk₃ b o hb e
    exact wpAny_execs_nil (done m₂ news₂ h₃ tk₃ g oc v0 hJ hoc hc₂ F₃ N₃)
end

end
section

section
variable {prog : Program} {w : World} {A : Around} {E : Value → Shared → Prop} {s : Shared} {env : Env} {x : Str} {px pos : Pos} {iter elt : Expr} {scope : Scope} {cl : List (Str × Addr)}

/-- what is asked of each turn of a comprehension that leaves all as it is and makes new things -/
def STurn (prog : Program) (w : World) (A : Around) (s : Shared) (env : Env) (x : Str) (elt : Expr) (scope : Scope) (cl : List (Str × Addr)) (n : Nat) (Pi : Nat → Value → Prop) (J : Nat → List Value → List (Addr × Obj) → Prop) : Prop :=
  ∀ C i v h tk m₃ fam ys, i < n → Pi i v → J i ys fam → h.Ns C m₃ → m₃ x = some v → s.heap.objs.size ≤ C → Sub s.heap h → (∀ p ∈ fam, h.get? p.1 = some p.2) →
    wpAny (model prog w) A (eval elt (compEnvC scope cl C env)) (fun y s₅ => ∃ h' tk' new, s₅ = { s with heap := h', toks := tk' } ∧ Sub h h' ∧ (∀ p ∈ new, h.objs.size ≤ p.1 ∧ h'.get? p.1 = some p.2) ∧ J (i + 1) (ys ++ [y]) (new ++ fam)) NoE { s with heap := h, toks := tk }

theorem comp_blockS {n : Nat} {Pi : Nat → Value → Prop} {J : Nat → List Value → List (Addr × Obj) → Prop} {RR : Value → Addr → Result → Shared → Prop} {hs : Heap} {ft : Addr → Prop} {v₀ : Value}
    (hA : A.handled = none) (hcell : ∀ y ∈ scope.names, y.2 ≠ .cell) (hkind : scope.kind = .function) (hx : scope.names.lookup x = some .local)
    (S : SrcP prog w v₀ n Pi hs ft) (ks : Sub hs s.heap) (hfo : ∀ b, ft b → ∃ o, s.heap.get? b = some o)
    (hJ : J 0 [] []) (hsz : ∀ i ys fam, J i ys fam → ys.length ≤ i) (hnz : n ≤ sizeLine)
    (turn : STurn prog w A s env x elt scope cl n Pi J)
    (hRR : ∀ D C h tk ys fam k m', J n ys fam → Sub s.heap h → s.heap.objs.size ≤ D → s.heap.objs.size ≤ C → D ≠ C → h.get? D = some (listOf ys.toArray k) → h.Ns C m' → (∀ p ∈ fam, s.heap.objs.size ≤ p.1 ∧ p.1 ≠ D ∧ p.1 ≠ C ∧ h.get? p.1 = some p.2) →
      RR (.ref D) C (.ok .next) { s with heap := h, toks := tk }) :
    wpAny (model prog w) A (pyIter v₀) (fun it s₂ => wpAny (model prog w) A (newList []) (fun acc s₃ => wpAny (model prog w) A (newFunctionEnv scope env.globals cl [] env.qual none .none (some env)) (fun cenv s₄ =>
      codeAny (model prog w) A (.compStart (.ListComp elt [⟨.Name x px, iter, [], 0⟩] scope pos) 0 it acc { cenv with scope := relabel scope env }) (RR acc cenv.locals) s₄) E s₃) E s₂) E s := by
  refine S.iter A E _ _ hA ks fun oI fp St hfree W hst hfp hlive => ?_
  refine wpAny_newObj_type (wpAny_newFunctionEnv hcell (by intro y hy; simp at hy) (fun h₂ hns₂ hsb₂ => ?_) hkind)
  dsimp only at hns₂ hsb₂ ⊢
  generalize hI : s.heap.objs.size = I at W hst hfp hlive hRR ⊢
  generalize hHa : s.heap.push oI = Ha at hst hns₂ hsb₂ ⊢
  have hD : Ha.objs.size = I + 1 := by rw [← hHa, Heap.size_push, hI]
  generalize hHb : Ha.push { cls := .type "list", dict := none, data := .seq ([] : List Value).toArray } = Hb at hns₂ hsb₂ ⊢
  have hC : Hb.objs.size = I + 2 := by rw [← hHb, Heap.size_push, hD]
  rw [hD]
  rw [hC] at hns₂ hsb₂
  rw [hC]
  have hlt : ∀ b o, s.heap.get? b = some o → b < I := fun b o e => by have := Heap.lt_size e; rw [hI] at this; exact this
  have old : Sub s.heap h₂ := fun b o e => by
    have hb := hlt b o e
    exact hsb₂.extBut b o (Nat.ne_of_lt (Nat.lt_of_lt_of_le hb (Nat.le_add_right _ _))) (Heap.get?_push_of_some _ (hHb ▸ Heap.get?_push_of_some _ (hHa ▸ Heap.get?_push_of_some _ e)))
  have hst₂ : St 0 h₂ := (W A hA).frame _ _ _ hst fun b hb o e => by
    have hb2 : b < Ha.objs.size := Heap.lt_size e
    rw [hD] at hb2
    exact hsb₂.extBut b o (Nat.ne_of_lt (Nat.lt_trans hb2 (Nat.lt_succ_self _))) (Heap.get?_push_of_some _ (hHb ▸ Heap.get?_push_of_some _ e))
  have hDl : h₂.PlainList (I + 1) #[] := ⟨0, by
    have e1 : Hb.get? (I + 1) = some { cls := .type "list", dict := none, data := .seq ([] : List Value).toArray } := by rw [← hHb, ← hD]; exact Heap.get?_push_size _ rfl
    exact hsb₂.extBut _ _ (Nat.ne_of_lt (Nat.lt_succ_self _)) (Heap.get?_push_of_some _ e1)⟩
  have hfp' : ∀ b ∈ fp, b ≤ I := fun b hb => by
    rcases hfp _ hb with e | e
    · exact Nat.le_of_eq e
    · obtain ⟨o, e⟩ := hfo _ e; exact Nat.le_of_lt (hlt _ _ e)
  have loop : ∀ tk, codeAny (model prog w) A (.compLoop (.ListComp elt [⟨.Name x px, iter, [], 0⟩] scope pos) 0 (.ref I) (.ref (I + 1)) (compEnvC scope cl (I + 2) env)) (RR (.ref (I + 1)) (I + 2)) { s with heap := h₂, toks := tk } := by
    intro tk
    refine codeAny_compLoop_tests (fun k s' => ∃ i h tk ys fam m', k = n + 1 - i ∧ i ≤ n ∧ s' = { s with heap := h, toks := tk } ∧ St i h ∧ Sub s.heap h ∧ I + 2 < h.objs.size ∧
        (∀ p ∈ fam, I + 2 < p.1 ∧ h.get? p.1 = some p.2) ∧ h.PlainList (I + 1) ys.toArray ∧ h.Ns (I + 2) m' ∧ J i ys fam) ?_ (n + 1)
      ⟨0, h₂, tk, [], [], _, rfl, Nat.zero_le _, rfl, hst₂, old, hns₂.lt, (fun _ h => nomatch h), hDl, hns₂, hJ⟩
    rintro k s' ⟨i, h, tk, ys, fam, m', rfl, hi, rfl, hst, hk, hsz', hfam, hl, hns, hJ⟩
    by_cases hlt' : i < n
    · refine (W A hA).item i _ _ _ hlt' hst fun v h₃ tk₃ hPv hst₃ hk₃ => ?_
      have k₃ : ∀ b o, b ≠ I → h.get? b = some o → h₃.get? b = some o := fun b o hb e => hk₃ b o (fun hm => hb (List.mem_singleton.mp hm)) e
      obtain ⟨oJ, hoJ⟩ := hlive _ _ hst₃
      show wpAny _ A (assign (.Name x px) (compEnvC scope cl (I + 2) env) v) _ _ _
      have hns₃ := hns.at' fun o e => k₃ _ o (Nat.ne_of_gt (Nat.lt_succ_of_lt (Nat.lt_succ_self _))) e
      refine wpAny_assign_Name (wpAny_storeName_local (env := compEnvC scope cl (I + 2) env) (lookup_relabel_local hx) hns₃ (fun h₄ hn₄ hs₄ => ?_) (by simp [compEnvC, relabel, hkind]))
      have hs₄' : Heap.SameBut (I + 2) h₃ h₄ := hs₄
      have k₄ : ∀ b o, b ≠ I → b ≠ I + 2 → h.get? b = some o → h₄.get? b = some o := fun b o hb hb2 e => hs₄'.extBut b o hb2 (k₃ b o hb e)
      have hk₄ : Sub s.heap h₄ := fun b o e => k₄ b o (Nat.ne_of_lt (hlt b o e)) (Nat.ne_of_lt (Nat.lt_of_lt_of_le (hlt b o e) (Nat.le_add_right _ _))) (hk b o e)
      have hfam₄ : ∀ p ∈ fam, h₄.get? p.1 = some p.2 := fun p hp => by
        have h1 := (hfam p hp).1
        exact k₄ _ _ (by omega) (by omega) (hfam p hp).2
      obtain ⟨kk, hD₄⟩ : h₄.PlainList (I + 1) ys.toArray := hl.at fun o e => k₄ _ o (Nat.ne_of_gt (Nat.lt_succ_self _)) (Nat.ne_of_lt (Nat.lt_succ_self _)) e
      have hst₄ : St (i + 1) h₄ := (W A hA).frame _ _ _ hst₃ fun b hb o e => hs₄'.extBut b o (Nat.ne_of_lt (Nat.lt_of_le_of_lt (hfp' b hb) (Nat.lt_succ_of_lt (Nat.lt_succ_self _)))) e
      have hsz₄ : I + 2 < h₄.objs.size := hn₄.lt
      refine wpAny_tests_nil ?_
      simp only [if_true]
      refine wpAny_mono (turn (I + 2) i v h₄ _ _ fam ys hlt' hPv hJ hn₄ (by simp) (by omega) hk₄ hfam₄) (fun y s₅ hc₅ => ?_) fun _ _ e => e.elim
      obtain ⟨h₅, tk₅, new, rfl, hk₅, hnew, hJ₅⟩ := hc₅
      have hys : ys.toArray.size ≤ sizeLine := by
        have := hsz _ _ _ hJ
        rw [List.size_toArray]; omega
      refine wpAny_list_append_plain (hsz := hys) ⟨kk, hk₅ _ _ hD₄⟩ fun h₇ hl₇ hs₇ => ?_
      have k₇ : ∀ b o, b ≠ I + 1 → h₅.get? b = some o → h₇.get? b = some o := fun b o hb e => hs₇.extBut b o hb e
      refine ⟨n + 1 - (i + 1), by omega, i + 1, h₇, tk₅, ys ++ [y], new ++ fam, _, rfl, hlt', rfl, (W A hA).frame _ _ _ hst₄ (fun b hb o e => k₇ b o (Nat.ne_of_lt (Nat.lt_of_le_of_lt (hfp' b hb) (Nat.lt_succ_self _))) (hk₅ b o e)),
        (fun b o e => k₇ b o (Nat.ne_of_lt (Nat.lt_of_lt_of_le (hlt b o e) (Nat.le_add_right _ _))) (hk₅ b o (hk₄ b o e))), ?_, fun p hp => ?_, ?_, hn₄.at' fun o e => k₇ _ o (Nat.ne_of_gt (Nat.lt_succ_self _)) (hk₅ _ o e), hJ₅⟩
      · obtain ⟨oC, _, _, hoC, _⟩ := id hn₄
        exact Heap.lt_size (k₇ (I + 2) oC (Nat.ne_of_gt (Nat.lt_succ_self _)) (hk₅ _ _ hoC))
      · rcases List.mem_append.mp hp with hp | hp
        · have h1 := hnew p hp
          have h2 : I + 2 < p.1 := Nat.lt_of_lt_of_le hsz₄ h1.1
          exact ⟨h2, k₇ _ _ (by omega) h1.2⟩
        · have h1 := (hfam p hp).1
          exact ⟨h1, k₇ _ _ (by omega) (hk₅ _ _ (hfam₄ p hp))⟩
      · have e1 : (ys ++ [y]).toArray = ys.toArray.push y := by simp
        rw [e1]; exact hl₇
    · have hin : i = n := by omega
      subst hin
      refine (W A hA).done _ _ _ hst fun h₃ tk₃ hk₃ => ?_
      have k₃ : ∀ b o, b ≠ I → h.get? b = some o → h₃.get? b = some o := fun b o hb e => hk₃ b o (fun hm => hb (List.mem_singleton.mp hm)) e
      obtain ⟨kk, hD₃⟩ : h₃.PlainList (I + 1) ys.toArray := hl.at fun o e => k₃ _ o (Nat.ne_of_gt (Nat.lt_succ_self _)) e
      have hns₃ : h₃.Ns (I + 2) m' := hns.at' fun o e => k₃ _ o (Nat.ne_of_gt (Nat.lt_succ_of_lt (Nat.lt_succ_self _))) e
      refine hRR (I + 1) (I + 2) h₃ tk₃ ys fam kk m' hJ (fun b o e => k₃ b o (Nat.ne_of_lt (hlt b o e)) (hk b o e)) (Nat.le_add_right _ _) (Nat.le_add_right _ _) (Nat.ne_of_lt (Nat.lt_succ_self _)) hD₃ hns₃ fun p hp => ?_
      have h1 := (hfam p hp).1
      exact ⟨Nat.le_of_lt (Nat.lt_of_le_of_lt (Nat.le_add_right _ _) h1), Nat.ne_of_gt (Nat.lt_of_succ_lt h1), Nat.ne_of_gt h1, k₃ _ _ (Nat.ne_of_gt (Nat.lt_of_succ_lt (Nat.lt_of_succ_lt h1))) (hfam p hp).2⟩
  exact codeAny_compStart_list (loop _) ((W A hA).self 0 _ _ _ hst₂ (loop _))

/-- what the source of such a comprehension must show -/
structure SSrc (prog : Program) (w : World) (n : Nat) (Pi : Nat → Value → Prop) (v : Value) (s₁ : Shared) : Prop where
  src : ∃ (hs : Heap) (ft : Addr → Prop), SrcP prog w v n Pi hs ft ∧ Sub hs s₁.heap ∧ ∀ b, ft b → ∃ o, s₁.heap.get? b = some o

theorem SSrc.list {l : Addr} {items : Array Value} (hl : s.heap.IsList l items) : SSrc prog w items.size (fun i v => items[i]? = some v) (.ref l) s :=
  ⟨s.heap, _, SrcP.list hl, fun _ _ e => e, fun b e => by obtain ⟨o, ho, _⟩ := hl; cases e; exact ⟨o, ho⟩⟩
theorem SSrc.tuple {l : Addr} {items : Array Value} (hl : s.heap.IsTuple l items) : SSrc prog w items.size (fun i v => items[i]? = some v) (.ref l) s :=
  ⟨s.heap, _, SrcP.tuple hl, fun _ _ e => e, fun b e => by obtain ⟨o, ho, _⟩ := hl; cases e; exact ⟨o, ho⟩⟩

theorem comp_S {n : Nat} {Pi : Nat → Value → Prop} {Q : Value → Shared → Prop} (J : Nat → List Value → List (Addr × Obj) → Prop)
    (hA : A.handled = none) (hclos : closureFor scope env = pure cl) (hcell : ∀ y ∈ scope.names, y.2 ≠ .cell) (hkind : scope.kind = .function)
    (hnames : ∀ y ∈ scope.names, y.2 = .local → scope.names.lookup y.1 = some .local) (hx : scope.names.lookup x = some .local)
    (hJ : J 0 [] []) (hsz : ∀ i ys fam, J i ys fam → ys.length ≤ i) (hnz : n ≤ sizeLine)
    (hsrc : wpAny (model prog w) A (eval iter env) (fun v s₁ => SSrc prog w n Pi v s₁ ∧ STurn prog w A s₁ env x elt scope cl n Pi J ∧
      ∀ D h tk ys fam k, J n ys fam → Sub s₁.heap h → s₁.heap.objs.size ≤ D → h.get? D = some (listOf ys.toArray k) → (∀ p ∈ fam, s₁.heap.objs.size ≤ p.1 ∧ p.1 ≠ D ∧ h.get? p.1 = some p.2) → Q (.ref D) { s₁ with heap := h, toks := tk }) E s)
    (hfold : ∀ x, foldedSetIterable iter env x = pure x := by intro _; rfl) :
    wpAny (model prog w) A (eval (.ListComp elt [⟨.Name x px, iter, [], 0⟩] scope pos) env) Q E s := by
  rw [eval_ListComp]
  refine wpAny_comprehension_free (use := none) rfl hfold hclos hkind hnames (wpAny_mono hsrc (fun v s₁ h₁ => ?_) fun _ _ e => e)
  obtain ⟨⟨hs, ft, S, ks, hfo⟩, turn, hQ⟩ := h₁
  refine comp_blockS (J := J) (RR := fun acc C => compPost (model prog w) A E none Q acc C) hA hcell hkind hx S ks hfo hJ hsz hnz turn ?_
  intro D C h tk ys fam k m' hJ hk hDs hCs hDC hD hns hfam
  refine ⟨m', hns, fun h'' hs'' => hQ D h'' tk ys fam k hJ (fun b o e => hs''.extBut b o (fun q => ?_) (hk b o e)) hDs (hs''.extBut _ _ hDC hD) fun p hp => ?_⟩
  · exact Nat.lt_irrefl _ (Nat.lt_of_lt_of_le (q ▸ Heap.lt_size e) hCs)
  · obtain ⟨a, b, c, d⟩ := hfam p hp
    exact ⟨a, b, hs''.extBut _ _ c d⟩

theorem assign_comp_S {n : Nat} {Pi : Nat → Value → Prop} {y : Str} {py spos : Pos} {Q : Flow → Shared → Prop} {h₀ : Heap} {m : Str → Option Value} (J : Nat → List Value → List (Addr × Obj) → Prop)
    (hsw : swapsWith (.ListComp elt [⟨.Name x px, iter, [], 0⟩] scope pos) (some (.Name y py)) spos.line env = pure true)
    (hA : A.handled = none) (hclos : closureFor scope env = pure cl) (hcell : ∀ y ∈ scope.names, y.2 ≠ .cell) (hkind : scope.kind = .function)
    (hnames : ∀ y ∈ scope.names, y.2 = .local → scope.names.lookup y.1 = some .local) (hx : scope.names.lookup x = some .local)
    (hy : env.kindOf y = some .local) (hp : (env.scope.kind == .class || (env.scope.kind == .module && env.locals != env.globals)) = false)
    (hJ : J 0 [] []) (hsz : ∀ i ys fam, J i ys fam → ys.length ≤ i) (hnz : n ≤ sizeLine)
    (hsrc : wpAny (model prog w) A (eval iter env) (fun v s₁ => SSrc prog w n Pi v s₁ ∧ STurn prog w A s₁ env x elt scope cl n Pi J ∧ Fr h₀ env.locals s₁.heap m ∧
      ∀ D h tk ys fam k, J n ys fam → Fr h₀ env.locals h (fun z => if z = y then some (.ref D) else m z) → (∀ b o, b ≠ env.locals → s₁.heap.get? b = some o → h.get? b = some o) → s₁.heap.objs.size ≤ D → h.get? D = some (listOf ys.toArray k) → (∀ p ∈ fam, s₁.heap.objs.size ≤ p.1 ∧ p.1 ≠ D ∧ h.get? p.1 = some p.2) → Q .next { s₁ with heap := h, toks := tk }) E s)
    (hfold : ∀ x, foldedSetIterable iter env x = pure x := by intro _; rfl) :
    wpAny (model prog w) A (exec (.Assign [.Name y py] (.ListComp elt [⟨.Name x px, iter, [], 0⟩] scope pos) spos) env) Q E s := by
  rw [exec_Assign_Name_used _ _ _ _ hsw]
  refine wpAny_bind (wpAny_standAt (wpAny_bind ?_))
  show wpAny _ A (do let _ ← comprehension (.ListComp elt [⟨.Name x px, iter, [], 0⟩] scope pos) scope env _ (newList []) false (eval iter env) (some (assign (.Name y py) env))) _ _ s
  refine wpAny_bind (wpAny_mono (wpAny_comprehension_free (use := some (assign (.Name y py) env)) (Q := fun _ s' => Q .next s') rfl hfold hclos hkind hnames
    (wpAny_mono hsrc (fun v s₁ h₁ => ?_) fun _ _ e => e)) (fun _ s' hq => wpAny_pure (wpAny_pure hq)) fun _ _ e => e)
  obtain ⟨⟨hs, ft, S, ks, hfo⟩, turn, F, hQ⟩ := h₁
  refine comp_blockS (J := J) (RR := fun acc C => compPost (model prog w) A E (some (assign (.Name y py) env)) (fun _ s' => Q .next s') acc C) hA hcell hkind hx S ks hfo hJ hsz hnz turn ?_
  intro D C h tk ys fam k m' hJ hk hDs hCs hDC hD hns hfam
  show wpAny _ A (assign (.Name y py) env (.ref D)) _ _ _
  have hL := F.ns.lt
  have F₁ : Fr h₀ env.locals h m := F.keeps hk
  refine wpAny_assign_Name (wpAny_storeName_local hy F₁.ns (fun h₂ hn₂ hs₂ => ?_) hp)
  have F₂ := F₁.set hn₂ hs₂
  have hCL : C ≠ env.locals := fun e => Nat.lt_irrefl _ (Nat.lt_of_lt_of_le hL (e ▸ hCs))
  have hDL : D ≠ env.locals := fun e => Nat.lt_irrefl _ (Nat.lt_of_lt_of_le hL (e ▸ hDs))
  refine ⟨m', hns.sameBut hs₂ hCL, fun h'' hs'' => hQ D h'' _ ys fam k hJ ⟨F₂.ns.sameBut hs'' hCL.symm, fun b o e => hs''.extBut b o (fun q => ?_) (F₂.keep b o e), F.above⟩ (fun b o hb e => hs''.extBut b o (fun q => ?_) (hs₂.extBut b o hb (hk b o e))) hDs (hs''.extBut _ _ hDC (hs₂.extBut _ _ hDL hD)) fun p hp => ?_⟩
  · exact Nat.lt_irrefl _ (Nat.lt_of_lt_of_le (q ▸ Heap.lt_size (F.keep b o e)) hCs)
  · exact Nat.lt_irrefl _ (Nat.lt_of_lt_of_le (q ▸ Heap.lt_size e) hCs)
  · obtain ⟨a, b, c, d⟩ := hfam p hp
    have hpL : p.1 ≠ env.locals := fun e => Nat.lt_irrefl _ (Nat.lt_of_lt_of_le hL (e ▸ a))
    exact ⟨a, b, hs''.extBut _ _ c (hs₂.extBut _ _ hpL d)⟩
end

end
section

/-- things whose attribute `name` is such a text -/
def Named (prog : Program) (w : World) (h : Heap) (v : Value) (x : Str) : Prop :=
  ∀ (A : Around) (E : Value → Shared → Prop) (t : Shared) (Q : Value → Shared → Prop), Sub h t.heap → (∀ t' tk', Q (.str x t') { t with toks := tk' }) → wpAny (model prog w) A (getAttr v "name" true) Q E t
structure NamesOk (prog : Program) (w : World) (h : Heap) (its : List Value) (nm : List Str) : Prop where
  len : its.length = nm.length
  short : nm.length ≤ 1000
  at_ : ∀ (i : Nat) (v : Value) (x : Str), its[i]? = some v → nm[i]? = some x → Named prog w h v x
theorem Named.keeps {prog : Program} {w : World} {h h' : Heap} {v : Value} {x : Str} (H : Named prog w h v x) (k : Sub h h') : Named prog w h' v x := fun A E t Q hk hQ => H A E t Q (fun b o e => hk b o (k b o e)) hQ
theorem NamesOk.keeps {prog : Program} {w : World} {h h' : Heap} {its : List Value} {nm : List Str} (H : NamesOk prog w h its nm) (k : Sub h h') : NamesOk prog w h' its nm := ⟨H.len, H.short, fun i v x a b => (H.at_ i v x a b).keeps k⟩

section
variable {prog : Program} {w : World} {A : Around} {E : Value → Shared → Prop} {s : Shared} {env : Env}

/-- what is asked of a plain comprehension's scope -/
structure ScOk (sc : Scope) (env : Env) (x : Str) : Prop where
  clos : closureFor sc env = pure []
  cell : ∀ y ∈ sc.names, y.2 ≠ .cell
  kind : sc.kind = .function
  names : ∀ y ∈ sc.names, y.2 = .local → sc.names.lookup y.1 = some .local
  x : sc.names.lookup x = some .local

/-- [one.name for one in part] -/
theorem names_part {sc : Scope} {p1 p2 p3 p4 p5 : Pos} {m : Str → Option Value} {Q : Value → Shared → Prop} {t : Addr} {its : List Value} {nm : List Str} (hA : A.handled = none) (O : ScOk sc env "one")
    (hk : env.scope.kind = .function) (hp : env.kindOf "part" = some .local) (hns : s.heap.Ns env.locals m) (hm : m "part" = some (.ref t)) (ht : s.heap.get? t = some (tupOf its.toArray)) (H : NamesOk prog w s.heap its nm)
    (h : ∀ D h tk vs k, Sub s.heap h → s.heap.objs.size ≤ D → h.get? D = some (listOf vs.toArray k) → StrsAre vs nm → Q (.ref D) { s with heap := h, toks := tk }) :
    wpAny (model prog w) A (eval (.ListComp (.Attribute (.Name "one" p1) "name" p2) [⟨.Name "one" p3, .Name "part" p4, [], 0⟩] sc p5) env) Q E s := by
  refine comp_S (cl := []) (n := its.toArray.size) (Pi := fun i v => its.toArray[i]? = some v) (fun i ys fam => fam = [] ∧ StrsAre ys (nm.take i) ∧ ys.length = i) hA O.clos O.cell O.kind O.names O.x ⟨rfl, by rw [List.take_zero]; exact .nil, rfl⟩
    (fun i ys fam h => Nat.le_of_eq h.2.2) (by rw [List.size_toArray, H.len]; exact Nat.le_trans H.short (by decide)) ?_
  refine name_loc hns hm ⟨SSrc.tuple ⟨_, ht, rfl, 0, rfl⟩, ?_, ?_⟩ hk hp (by decide)
  · rintro C i v h tk m₃ fam ys hin hv ⟨rfl, hys, hyl⟩ hC hmx _ hkk _
    have hil : i < nm.length := by rw [← H.len]; simpa using hin
    refine Attribute_name (name_loc (m := m₃) (v := v) hC hmx ?_ O.kind (lookup_relabel_local O.x) (by decide))
    refine H.at_ i v nm[i] (by simpa using hv) (by simp [hil]) A NoE _ _ hkk fun t' tk' => ?_
    refine ⟨h, tk', [], rfl, fun _ _ e => e, (fun _ h => nomatch h), rfl, ?_, by rw [List.length_append, hyl]; rfl⟩
    rw [List.take_add_one, List.getElem?_eq_getElem hil]
    exact hys.append' (.cons _ _ .nil)
  · rintro D h' tk ys fam k ⟨rfl, hys, hyl⟩ hkk hD hDl _
    refine h D h' tk ys k hkk hD hDl ?_
    rwa [List.size_toArray, H.len, List.take_length] at hys

abbrev namesTwo (p1 p2 p3 p4 p5 p6 p7 : Pos) (iter : Expr) (sc sc2 : Scope) : Expr :=
  .ListComp (.ListComp (.Attribute (.Name "one" p1) "name" p2) [⟨.Name "one" p3, .Name "part" p4, [], 0⟩] sc p5) [⟨.Name "part" p6, iter, [], 0⟩] sc2 p7

/-- [[one.name for one in part] for part in ..] over a tuple of two tuples -/
theorem names_two {sc sc2 : Scope} {p1 p2 p3 p4 p5 p6 p7 : Pos} {iter : Expr} {Q : Value → Shared → Prop} (hA : A.handled = none) (O2 : ScOk sc2 env "part") (O : ∀ C, ScOk sc (compEnvC sc2 [] C env) "one")
    (hit : wpAny (model prog w) A (eval iter env) (fun v s₁ => ∃ t t1 t2 its1 its2 nm1 nm2, v = .ref t ∧ s₁.heap.get? t = some (tupOf #[.ref t1, .ref t2]) ∧ s₁.heap.get? t1 = some (tupOf (its1 : List Value).toArray) ∧ s₁.heap.get? t2 = some (tupOf (its2 : List Value).toArray) ∧
      NamesOk prog w s₁.heap its1 nm1 ∧ NamesOk prog w s₁.heap its2 nm2 ∧
      ∀ D d1 d2 h tk vs1 vs2 k k1 k2, Sub s₁.heap h → s₁.heap.objs.size ≤ D → s₁.heap.objs.size ≤ d1 → s₁.heap.objs.size ≤ d2 → h.get? D = some (listOf #[.ref d1, .ref d2] k) → h.get? d1 = some (listOf (vs1 : List Value).toArray k1) → h.get? d2 = some (listOf (vs2 : List Value).toArray k2) →
        StrsAre vs1 nm1 → StrsAre vs2 nm2 → Q (.ref D) { s₁ with heap := h, toks := tk }) E s)
    (hfold : ∀ x, foldedSetIterable iter env x = pure x := by intro _; rfl) :
    wpAny (model prog w) A (eval (namesTwo p1 p2 p3 p4 p5 p6 p7 iter sc sc2) env) Q E s := by
  -- the two texts' lists are not known before the source is read
  unfold namesTwo
  rw [eval_ListComp]
  refine wpAny_comprehension_free (use := none) rfl hfold O2.clos O2.kind O2.names (wpAny_mono hit (fun v s₁ h₁ => ?_) fun _ _ e => e)
  obtain ⟨t, t1, t2, its1, its2, nm1, nm2, rfl, ht, ht1, ht2, H1, H2, hQ⟩ := h₁
  have SS : SSrc prog w 2 (fun i v => #[Value.ref t1, .ref t2][i]? = some v) (.ref t) s₁ := SSrc.tuple (items := #[.ref t1, .ref t2]) ⟨_, ht, rfl, 0, rfl⟩
  obtain ⟨⟨hs, ft, S, ks, hfo⟩⟩ := SS
  let J : Nat → List Value → List (Addr × Obj) → Prop := fun i ys fam => (i = 0 ∧ ys = [] ∧ fam = []) ∨ (i = 1 ∧ ∃ d1 k1 vs1, ys = [Value.ref d1] ∧ fam = [(d1, listOf (vs1 : List Value).toArray k1)] ∧ StrsAre vs1 nm1) ∨
    (i = 2 ∧ ∃ d1 k1 vs1 d2 k2 vs2, ys = [Value.ref d1, Value.ref d2] ∧ fam = [(d2, listOf (vs2 : List Value).toArray k2), (d1, listOf (vs1 : List Value).toArray k1)] ∧ StrsAre vs1 nm1 ∧ StrsAre vs2 nm2)
  refine comp_blockS (J := J) (RR := fun acc C => compPost (model prog w) A E none Q acc C) hA O2.cell O2.kind O2.x S ks hfo (.inl ⟨rfl, rfl, rfl⟩) ?sz (by decide) ?turn ?_
  case sz =>
    rintro i ys fam (⟨rfl, rfl, rfl⟩ | ⟨rfl, d1, k1, vs1, rfl, _⟩ | ⟨rfl, d1, k1, vs1, d2, k2, vs2, rfl, _⟩) <;> simp
  case turn =>
    rintro C i v h tk m₃ fam ys hin hv hJ hC hmx hCs hkk hfam
    have hcase : ∀ (tt : Addr) (its : List Value) (nm : List Str), v = .ref tt → s₁.heap.get? tt = some (tupOf its.toArray) → NamesOk prog w s₁.heap its nm → (∀ D k vs, StrsAre vs nm → J (i + 1) (ys ++ [.ref D]) ((D, listOf (vs : List Value).toArray k) :: fam)) →
        wpAny (model prog w) A (eval (.ListComp (.Attribute (.Name "one" p1) "name" p2) [⟨.Name "one" p3, .Name "part" p4, [], 0⟩] sc p5) (compEnvC sc2 [] C env)) (fun y s₅ => ∃ h' tk' new, s₅ = { s₁ with heap := h', toks := tk' } ∧ Sub h h' ∧ (∀ p ∈ new, h.objs.size ≤ p.1 ∧ h'.get? p.1 = some p.2) ∧ J (i + 1) (ys ++ [y]) (new ++ fam)) NoE { s₁ with heap := h, toks := tk } := by
      intro tt its nm ev htt HH hJ'
      subst ev
      refine names_part (s := { s₁ with heap := h, toks := tk }) (t := tt) (its := its) (nm := nm) hA (O C) O2.kind (lookup_relabel_local O2.x) hC hmx (hkk _ _ htt) (HH.keeps hkk) fun D h' tk' vs k hk' hD hDl hvs => ?_
      exact ⟨h', tk', [(D, listOf vs.toArray k)], rfl, hk', (fun p hp => by rw [List.mem_singleton.mp hp]; exact ⟨hD, hDl⟩), hJ' D k vs hvs⟩
    rcases hJ with ⟨rfl, rfl, rfl⟩ | ⟨rfl, d1, k1, vs1, rfl, rfl, hs1⟩ | ⟨rfl, _⟩
    · cases hv
      exact hcase t1 its1 nm1 rfl ht1 H1 fun D k vs hvs => .inr (.inl ⟨rfl, D, k, vs, rfl, rfl, hvs⟩)
    · cases hv
      exact hcase t2 its2 nm2 rfl ht2 H2 fun D k vs hvs => .inr (.inr ⟨rfl, d1, k1, vs1, D, k, vs, rfl, rfl, hs1, hvs⟩)
    · omega
  intro D C h tk ys fam k m' hJ hk hDs hCs hDC hD hns hfam
  rcases hJ with ⟨e, _⟩ | ⟨e, _⟩ | ⟨_, d1, k1, vs1, d2, k2, vs2, rfl, rfl, hs1, hs2⟩
  · cases e
  · cases e
  obtain ⟨a1, b1, c1, e1⟩ := hfam (d1, listOf vs1.toArray k1) (.tail _ (.head _))
  obtain ⟨a2, b2, c2, e2⟩ := hfam (d2, listOf vs2.toArray k2) (.head _)
  refine ⟨m', hns, fun h'' hs'' => hQ D d1 d2 h'' tk vs1 vs2 k k1 k2 (fun b o e => hs''.extBut b o (fun q => ?_) (hk b o e)) hDs a1 a2 (hs''.extBut _ _ hDC hD) (hs''.extBut _ _ c1 e1) (hs''.extBut _ _ c2 e2) hs1 hs2⟩
  exact Nat.lt_irrefl _ (Nat.lt_of_lt_of_le (q ▸ Heap.lt_size e) hCs)
end

end
section

/-- the law's own book: the row's order, the two flags -/
structure Book where
  perm : List Nat
  ini : Nat → Bool
  kwo : Nat → Bool

def Book.side (b : Book) (k : Bool) : List Nat := b.perm.filter fun i => b.ini i && (b.kwo i == k)

def flip1 (f : Nat → Bool) (i : Nat) : Nat → Bool := fun j => if j = i then !f i else f j
def flipI (b : Book) (i : Nat) : Book := { b with ini := flip1 b.ini i }
def flipK (b : Book) (i : Nat) : Book := { b with kwo := flip1 b.kwo i }
def goLast (b : Book) (i : Nat) : Book := { b with perm := b.perm.filter (· != i) ++ [i] }

def Book.step (b : Book) (i : Nat) (what : Int) : Book := if what = 0 then flipI b i else if what = 1 then flipK b i else goLast b i

structure Book.Ok (b : Book) : Prop where
  nodup : b.perm.Nodup
  lt : ∀ i ∈ b.perm, i < 8
  all : ∀ i, i < 8 → i ∈ b.perm
  len : b.perm.length = 8

theorem filter_ne_length {l : List Nat} {i : Nat} (h : l.Nodup) (hi : i ∈ l) : (l.filter (· != i)).length + 1 = l.length := by
  induction l with
  | nil => cases hi
  | cons a l ih =>
    rw [List.nodup_cons] at h
    by_cases e : a = i
    · subst e
      have : l.filter (· != a) = l := List.filter_eq_self.mpr fun x hx => by
        simp only [bne_iff_ne, ne_eq]; intro q; exact h.1 (q ▸ hx)
      simp [this]
    · have hi' : i ∈ l := by rcases List.mem_cons.mp hi with q | q; exact absurd q.symm e; exact q
      have := ih h.2 hi'
      simp [e]; omega

theorem Book.Ok.step {b : Book} (h : b.Ok) {i : Nat} (hi : i < 8) (what : Int) : (b.step i what).Ok := by
  unfold Book.step
  split
  · exact ⟨h.nodup, h.lt, h.all, h.len⟩
  · split
    · exact ⟨h.nodup, h.lt, h.all, h.len⟩
    · refine ⟨?_, ?_, ?_, ?_⟩
      · show (b.perm.filter (· != i) ++ [i]).Nodup
        rw [List.nodup_append]
        refine ⟨h.nodup.filter _, by simp, fun x hx y hy e => ?_⟩
        rw [List.mem_singleton.mp hy] at e
        have := (List.mem_filter.mp hx).2
        simp [e] at this
      · intro j hj
        rcases List.mem_append.mp hj with hj | hj
        · exact h.lt j (List.mem_filter.mp hj).1
        · rw [List.mem_singleton.mp hj]; exact hi
      · intro j hj
        by_cases e : j = i
        · exact List.mem_append_right _ (by simp [e])
        · exact List.mem_append_left _ (List.mem_filter.mpr ⟨h.all j hj, by simp [e]⟩)
      · show (b.perm.filter (· != i) ++ [i]).length = 8
        rw [List.length_append, List.length_singleton, filter_ne_length h.nodup (h.all i hi), h.len]

/-- taken out -/
def Book.bare (b : Book) (i : Nat) (k : Bool) : List Nat := b.perm.filter fun j => (j != i) && (b.ini j && (b.kwo j == k))

theorem Book.mem_side {b : Book} {i : Nat} {k : Bool} : i ∈ b.side k ↔ i ∈ b.perm ∧ b.ini i = true ∧ b.kwo i = k := by
  unfold Book.side
  rw [List.mem_filter]
  simp

theorem Book.bare_of_not {b : Book} {i : Nat} {k : Bool} (h : (b.ini i && (b.kwo i == k)) = false) : b.bare i k = b.side k := by
  unfold Book.bare Book.side
  refine List.filter_congr fun j hj => ?_
  by_cases e : j = i
  · subst e; simp [h]
  · simp [e]

theorem side_split {l1 l2 : List Nat} {i : Nat} {q : Nat → Bool} (hn : (l1 ++ i :: l2).Nodup) (hq : q i = true) : (l1 ++ i :: l2).filter q = l1.filter q ++ i :: l2.filter q ∧ (l1 ++ i :: l2).filter (fun j => (j != i) && q j) = l1.filter q ++ l2.filter q := by
  have hn' := hn
  rw [List.nodup_append, List.nodup_cons] at hn
  obtain ⟨_, ⟨h2, _⟩, h3⟩ := hn
  constructor
  · rw [List.filter_append, List.filter_cons_of_pos hq]
  · rw [List.filter_append, List.filter_cons_of_neg (by simp)]
    congr 1
    · refine List.filter_congr fun j hj => ?_
      have : j ≠ i := h3 j hj i (.head _)
      simp [this]
    · refine List.filter_congr fun j hj => ?_
      have : j ≠ i := fun e => h2 (e ▸ hj)
      simp [this]

/-- removing the one name from the side that has it -/
theorem Book.removed {b : Book} (hb : b.Ok) {i : Nat} (hi : i < 8) (hq : b.ini i = true) : ∃ j : Nat, (b.side (b.kwo i))[j]? = some i ∧ (∀ m, m < j → (b.side (b.kwo i))[m]? ≠ some i) ∧ (b.side (b.kwo i)).eraseIdx j = b.bare i (b.kwo i) := by
  obtain ⟨l1, l2, e⟩ := List.append_of_mem (hb.all i hi)
  have hn := hb.nodup
  have hs := side_split (q := fun j => b.ini j && (b.kwo j == b.kwo i)) (e ▸ hn) (by simp [hq])
  refine ⟨(l1.filter fun j => b.ini j && (b.kwo j == b.kwo i)).length, ?_, fun m hm h => ?_, ?_⟩
  · unfold Book.side; rw [e, hs.1, List.getElem?_append_right (Nat.le_refl _)]; simp
  · unfold Book.side at h
    rw [e, hs.1, List.getElem?_append_left hm] at h
    have hm' := (List.mem_filter.mp (List.mem_of_getElem? h)).1
    rw [e, List.nodup_append] at hn
    exact hn.2.2 i hm' i (.head _) rfl
  · unfold Book.side Book.bare
    rw [e, hs.1, hs.2, List.eraseIdx_append_of_length_le (Nat.le_refl _)]
    simp

theorem step_perm {b : Book} (hb : b.Ok) {i : Nat} (hi : i < 8) (what : Int) : ∃ l1 l2, (b.step i what).perm = l1 ++ i :: l2 ∧ (b.perm.filter (· != i)) = l1 ++ l2 := by
  unfold Book.step
  have key : ∃ l1 l2, b.perm = l1 ++ i :: l2 ∧ (b.perm.filter (· != i)) = l1 ++ l2 := by
    obtain ⟨l1, l2, e⟩ := List.append_of_mem (hb.all i hi)
    refine ⟨l1, l2, e, ?_⟩
    have := (side_split (q := fun _ => true) (e ▸ hb.nodup) rfl).2
    have t1 : ∀ l : List Nat, l.filter (fun _ => true) = l := fun l => List.filter_eq_self.mpr fun _ _ => rfl
    simp only [Bool.and_true, t1] at this
    rw [e]; exact this
  split
  · exact key
  · split
    · exact key
    · exact ⟨b.perm.filter (· != i), [], rfl, by simp⟩

theorem step_ini {b : Book} {i : Nat} {what : Int} {j : Nat} (h : j ≠ i) : (b.step i what).ini j = b.ini j := by
  unfold Book.step; split
  · show flip1 b.ini i j = _; unfold flip1; rw [if_neg h]
  · split <;> rfl
theorem step_kwo {b : Book} {i : Nat} {what : Int} {j : Nat} (h : j ≠ i) : (b.step i what).kwo j = b.kwo j := by
  unfold Book.step; split
  · rfl
  · split
    · show flip1 b.kwo i j = _; unfold flip1; rw [if_neg h]
    · rfl

theorem bare_eq {b : Book} {i : Nat} {k : Bool} : b.bare i k = (b.perm.filter (· != i)).filter fun j => b.ini j && (b.kwo j == k) := by
  unfold Book.bare
  rw [List.filter_filter]
  exact List.filter_congr fun j _ => by rw [Bool.and_comm]

/-- put in anew at the place that the row gives it -/
theorem Book.put {b : Book} (hb : b.Ok) {i : Nat} (hi : i < 8) (what : Int) {l1 l2 : List Nat} (e1 : (b.step i what).perm = l1 ++ i :: l2) (e2 : (b.perm.filter (· != i)) = l1 ++ l2) (k : Bool) :
    (b.step i what).side k = if ((b.step i what).ini i && ((b.step i what).kwo i == k)) = true then (l1.filter fun j => b.ini j && (b.kwo j == k)) ++ i :: (l2.filter fun j => b.ini j && (b.kwo j == k)) else b.bare i k := by
  have hb' := hb.step hi what
  have hn := hb'.nodup
  rw [e1, List.nodup_append, List.nodup_cons] at hn
  obtain ⟨_, ⟨h2, _⟩, h3⟩ := hn
  have c1 : l1.filter (fun j => (b.step i what).ini j && ((b.step i what).kwo j == k)) = l1.filter (fun j => b.ini j && (b.kwo j == k)) := List.filter_congr fun j hj => by
    have : j ≠ i := h3 j hj i (.head _)
    rw [step_ini this, step_kwo this]
  have c2 : l2.filter (fun j => (b.step i what).ini j && ((b.step i what).kwo j == k)) = l2.filter (fun j => b.ini j && (b.kwo j == k)) := List.filter_congr fun j hj => by
    have : j ≠ i := fun e => h2 (e ▸ hj)
    rw [step_ini this, step_kwo this]
  rw [bare_eq, e2]
  unfold Book.side
  rw [e1, List.filter_append]
  split
  · next h => rw [List.filter_cons_of_pos (p := fun j => (b.step i what).ini j && ((b.step i what).kwo j == k)) h, c1, c2]
  · next h => rw [List.filter_cons_of_neg (p := fun j => (b.step i what).ini j && ((b.step i what).kwo j == k)) h, c1, c2, List.filter_append]

/-- the ones ahead, by the order's places -/
theorem ahead_eq {b : Book} (hb : b.Ok) {i : Nat} (hi : i < 8) (what : Int) {l1 l2 : List Nat} (e1 : (b.step i what).perm = l1 ++ i :: l2) (e2 : (b.perm.filter (· != i)) = l1 ++ l2) (k : Bool) :
    (b.bare i k).filter (fun j => decide ((b.step i what).perm.idxOf j < (b.step i what).perm.idxOf i)) = l1.filter fun j => b.ini j && (b.kwo j == k) := by
  have hb' := hb.step hi what
  have hn := hb'.nodup
  rw [e1, List.nodup_append, List.nodup_cons] at hn
  obtain ⟨_, ⟨h2, _⟩, h3⟩ := hn
  have hi1 : i ∉ l1 := fun h => h3 i h i (.head _) rfl
  have hidx : (l1 ++ i :: l2).idxOf i = l1.length := by
    rw [List.idxOf_append, if_neg hi1, List.idxOf_cons_self]; omega
  rw [bare_eq, e2, List.filter_append, List.filter_append, e1, hidx]
  have a1 : (l1.filter fun j => b.ini j && (b.kwo j == k)).filter (fun j => decide ((l1 ++ i :: l2).idxOf j < l1.length)) = l1.filter fun j => b.ini j && (b.kwo j == k) := List.filter_eq_self.mpr fun j hj => by
    have hj' := (List.mem_filter.mp hj).1
    rw [List.idxOf_append, if_pos hj']
    exact decide_eq_true (List.idxOf_lt_length_of_mem hj')
  have a2 : (l2.filter fun j => b.ini j && (b.kwo j == k)).filter (fun j => decide ((l1 ++ i :: l2).idxOf j < l1.length)) = [] := List.filter_eq_nil_iff.mpr fun j hj => by
    have hj' := (List.mem_filter.mp hj).1
    have hj1 : j ∉ l1 := fun h => h3 j h j (.tail _ hj') rfl
    rw [List.idxOf_append, if_neg hj1]
    simp only [decide_eq_true_eq]; omega
  rw [a1, a2, List.append_nil]

end
section

theorem eraseIdx_idxOf {l : List Nat} {i : Nat} (hn : l.Nodup) (hi : i ∈ l) : l.eraseIdx (l.idxOf i) = l.filter (· != i) := by
  induction l with
  | nil => cases hi
  | cons a l ih =>
    rw [List.nodup_cons] at hn
    by_cases e : a = i
    · subst e
      have : l.filter (· != a) = l := List.filter_eq_self.mpr fun x hx => by
        simp only [bne_iff_ne, ne_eq]; intro q; exact hn.1 (q ▸ hx)
      simp [this]
    · have hi' : i ∈ l := by rcases List.mem_cons.mp hi with q | q; exact absurd q.symm e; exact q
      have hb : (a == i) = false := by simpa using e
      rw [List.idxOf_cons, hb]
      simp [ih hn.2 hi', e]

theorem bare_not_in {b : Book} {i : Nat} (h : b.ini i = false) : b.side = b.bare i := by
  funext k
  exact (Book.bare_of_not (by rw [h]; rfl)).symm

theorem removed_all {b : Book} (hb : b.Ok) {i : Nat} (hi : i < 8) (hq : b.ini i = true) : ∃ j : Nat, (b.side (b.kwo i))[j]? = some i ∧ (∀ m, m < j → (b.side (b.kwo i))[m]? ≠ some i) ∧ (fun k => if k = b.kwo i then (b.side (b.kwo i)).eraseIdx j else b.side k) = b.bare i := by
  obtain ⟨j, h1, h2, h3⟩ := Book.removed hb hi hq
  refine ⟨j, h1, h2, ?_⟩
  funext k
  split
  · next e => rw [e, h3]
  · next e => 
    refine (Book.bare_of_not ?_).symm
    have : (b.kwo i == k) = false := by rw [beq_eq_false_iff_ne]; exact fun q => e q.symm
    rw [this, Bool.and_false]

theorem put_out {b : Book} (hb : b.Ok) {i : Nat} (hi : i < 8) {what : Int} (h : (b.step i what).ini i = false) : b.bare i = (b.step i what).side := by
  obtain ⟨l1, l2, e1, e2⟩ := step_perm hb hi what
  funext k
  rw [Book.put hb hi what e1 e2 k, if_neg (by rw [h]; simp)]

theorem put_in {b : Book} (hb : b.Ok) {i : Nat} (hi : i < 8) {what : Int} (h : (b.step i what).ini i = true) {n : Nat}
    (hn : n = ((b.bare i ((b.step i what).kwo i)).filter fun j => decide ((b.step i what).perm.idxOf j < (b.step i what).perm.idxOf i)).length) :
    (fun k => if k = (b.step i what).kwo i then (b.bare i ((b.step i what).kwo i)).take n ++ i :: (b.bare i ((b.step i what).kwo i)).drop n else b.bare i k) = (b.step i what).side ∧ n ≤ (b.bare i ((b.step i what).kwo i)).length := by
  obtain ⟨l1, l2, e1, e2⟩ := step_perm hb hi what
  rw [ahead_eq hb hi what e1 e2] at hn
  constructor
  · funext k
    rw [Book.put hb hi what e1 e2 k]
    by_cases e : k = (b.step i what).kwo i
    · subst e
      rw [if_pos rfl, if_pos (by rw [h]; simp)]
      rw [bare_eq, e2, List.filter_append, hn, List.take_left, List.drop_left]
    · rw [if_neg e, if_neg]
      rw [h, Bool.true_and, beq_iff_eq]
      exact fun q => e q.symm
  · rw [hn, bare_eq, e2, List.filter_append, List.length_append]; omega

theorem within_eq {b : Book} (hb : b.Ok) {i : Nat} (hi : i < 8) : (decide (i ∈ b.side false) || decide (i ∈ b.side true)) = b.ini i := by
  have hm := hb.all i hi
  rw [Bool.eq_iff_iff]
  simp only [Bool.or_eq_true, decide_eq_true_eq, Book.mem_side]
  constructor
  · rintro (h | h) <;> exact h.2.1
  · intro h
    cases hk : b.kwo i
    · exact .inl ⟨hm, h, rfl⟩
    · exact .inr ⟨hm, h, rfl⟩

theorem side_len {b : Book} (hb : b.Ok) (k : Bool) : (b.side k).length ≤ 8 := hb.len ▸ List.length_filter_le _ _
theorem bare_len {b : Book} (hb : b.Ok) (i : Nat) (k : Bool) : (b.bare i k).length ≤ 8 := hb.len ▸ List.length_filter_le _ _
theorem bare_mem {b : Book} (hb : b.Ok) {i j : Nat} (hi : i < 8) (k : Bool) (what : Int) (h : j ∈ b.bare i k) : j ∈ (b.step i what).perm := (hb.step hi what).all j (hb.lt j (List.mem_filter.mp h).1)
theorem side_f {b : Book} : (b.perm.filter fun i => b.ini i && !b.kwo i) = b.side false := List.filter_congr fun j _ => by cases b.kwo j <;> rfl
theorem side_t {b : Book} : (b.perm.filter fun i => b.ini i && b.kwo i) = b.side true := List.filter_congr fun j _ => by cases b.kwo j <;> rfl
def book0 : Book := ⟨[0, 1, 2, 3, 4, 5, 6, 7], fun _ => true, fun _ => false⟩
theorem book0_ok : book0.Ok := by
  refine ⟨by decide, by decide, fun i hi => ?_, rfl⟩
  show i ∈ [0, 1, 2, 3, 4, 5, 6, 7]
  have : i = 0 ∨ i = 1 ∨ i = 2 ∨ i = 3 ∨ i = 4 ∨ i = 5 ∨ i = 6 ∨ i = 7 := by omega
  rcases this with rfl | rfl | rfl | rfl | rfl | rfl | rfl | rfl <;> decide

end
section
set_option maxRecDepth 100000 in
set_option maxHeartbeats 8000000 in
open_top hd03 for PySem.Challenge.rw_dm0039_03

end
section
set_option maxRecDepth 100000

theorem upd_list {h : Heap} {l : Addr} {its : Array Value} {n : Nat} (f : Array Value → Array Value) (e : h.get? l = some (listOf its n)) : ∃ n', (h.update l (Obj.mapSeq f)).get? l = some (listOf (f its) n') :=
  ⟨_, by rw [Heap.get?_update_self _ e rfl]; rfl⟩

theorem strs_at_inv {vs : List Value} {ys : List Str} (h : StrsAre vs ys) {j : Nat} (hj : j < vs.length) {k : Str} : isStrOf k vs[j] = (ys[j]?.any (· == k)) := by
  obtain ⟨y, t, e, e2⟩ := h.item j vs[j] (by simp)
  rw [e, e2]; rfl

theorem strs_eraseIdx : ∀ {vs : List Value} {ys : List Str}, StrsAre vs ys → ∀ j : Nat, StrsAre (vs.eraseIdx j) (ys.eraseIdx j)
  | _, _, .nil, _ => .nil
  | _, _, .cons _ _ h, 0 => h
  | _, _, .cons y t h, j + 1 => .cons y t (strs_eraseIdx h j)
theorem strs_take : ∀ {vs : List Value} {ys : List Str}, StrsAre vs ys → ∀ j : Nat, StrsAre (vs.take j) (ys.take j)
  | _, _, .nil, _ => by simp; exact .nil
  | _, _, .cons _ _ h, 0 => by simp; exact .nil
  | _, _, .cons y t h, j + 1 => .cons y t (strs_take h j)
theorem strs_drop : ∀ {vs : List Value} {ys : List Str}, StrsAre vs ys → ∀ j : Nat, StrsAre (vs.drop j) (ys.drop j)
  | _, _, .nil, _ => by simp; exact .nil
  | _, _, .cons _ _ h, 0 => .cons _ _ h
  | _, _, .cons y t h, j + 1 => strs_drop h j
theorem strs_len : ∀ {vs : List Value} {ys : List Str}, StrsAre vs ys → vs.length = ys.length
  | _, _, .nil => rfl
  | _, _, .cons _ _ h => by simp only [List.length_cons, strs_len h]

section
variable {prog : Program} {w : World} {A : Around} {E : Value → Shared → Prop} {s : Shared} {l : Addr} {its : Array Value} {n : Nat}

theorem getM_list {name : Str} {id : String} {pl : Sem Bool} {Q : Value × List Value → Shared → Prop} (hl : s.heap.get? l = some (listOf its n)) (slot : Slot "list" name id)
    (hty : typeOf (.builtin id) = pure (.type "method_descriptor")) (h : Q (.builtin id, [.ref l]) s) : wpAny (model prog w) A (getMethod (.ref l) name pl) Q E s :=
  getMethod_builtin ⟨_, hl, rfl⟩ PySem.F.plainAttrs_list slot hty (fun a e => by cases e; exact ⟨_, hl, rfl⟩) h

theorem call_index {vs : List Value} {ys : List Str} {k : Str} {t : Tok} {j : Nat} {Q : Value → Shared → Prop} (hl : s.heap.get? l = some (listOf vs.toArray n)) (hi : StrsAre vs ys) (hj : ys[j]? = some k) (hno : ∀ m, m < j → ys[m]? ≠ some k) (hz : ys.length ≤ 1000)
    (h : ∀ t' tk, Q (.int j t') { s with toks := tk }) : wpAny (model prog w) A (call (.builtin "list.index") [.ref l, .str k t]) Q E s := by
  have hjl : j < vs.length := by
    have := strs_len hi
    rcases Nat.lt_or_ge j ys.length with h' | h'
    · omega
    · rw [List.getElem?_eq_none h'] at hj; cases hj
  have hlen := strs_len hi
  refine call_meets PySem.F.slot_list_index ⟨_, hl, rfl⟩ PySem.F.entry_list_index (PySem.F.args_list_index_2 _ _) (MeetsSeq.list_index l vs.toArray n (.str k t) (isStrOf k) (fun y hy => eq_isStrOf k t hi y (by simpa using hy)) j (by simpa using hjl) (by omega) ?_ ?_) ⟨hl, h _ _⟩
  · show isStrOf k vs[j] = true
    rw [strs_at_inv hi hjl, hj]; simp
  · intro m hm hmj
    have hm' : m < vs.length := by simpa using hm
    show isStrOf k vs[m] = false
    rw [strs_at_inv hi hm']
    have := hno m hmj
    cases e : ys[m]? with
    | none => rfl
    | some y => rw [e] at this; simp only [Option.any_some, beq_eq_false_iff_ne]; exact fun q => this (by rw [q])

theorem call_remove {vs : List Value} {ys : List Str} {k : Str} {t : Tok} {j : Nat} {Q : Value → Shared → Prop} (hl : s.heap.get? l = some (listOf vs.toArray n)) (hi : StrsAre vs ys) (hj : ys[j]? = some k) (hno : ∀ m, m < j → ys[m]? ≠ some k) (hz : ys.length ≤ 1000)
    (h : ∀ h' n', h'.get? l = some (listOf (vs.eraseIdx j).toArray n') → Heap.SameBut l s.heap h' → Q .none { s with heap := h' }) : wpAny (model prog w) A (call (.builtin "list.remove") [.ref l, .str k t]) Q E s := by
  have hjl : j < vs.length := by
    have := strs_len hi
    rcases Nat.lt_or_ge j ys.length with h' | h'
    · omega
    · rw [List.getElem?_eq_none h'] at hj; cases hj
  have hlen := strs_len hi
  obtain ⟨n', hn'⟩ := upd_list (fun xs => xs.eraseIdxIfInBounds j) hl
  have e1 : vs.toArray.eraseIdxIfInBounds j = (vs.eraseIdx j).toArray := by
    simp [Array.eraseIdxIfInBounds, hjl]
  refine call_meets PySem.F.slot_list_remove ⟨_, hl, rfl⟩ PySem.F.entry_list_remove (PySem.F.args_list_remove_2 _ _) (MeetsSeq.list_remove l vs.toArray n (.str k t) (isStrOf k) (fun y hy => eq_isStrOf k t hi y (by simpa using hy)) j (by simpa using hjl) ?_ ?_ ?_) ⟨hl, h _ n' (by rw [hn', e1]) (Heap.SameBut.update ..)⟩
  · show isStrOf k vs[j] = true
    rw [strs_at_inv hi hjl, hj]; simp
  · intro m hm hmj
    have hm' : m < vs.length := by simpa using hm
    show isStrOf k vs[m] = false
    rw [strs_at_inv hi hm']
    have := hno m hmj
    cases e : ys[m]? with
    | none => rfl
    | some y => rw [e] at this; simp only [Option.any_some, beq_eq_false_iff_ne]; exact fun q => this (by rw [q])
  · rw [List.size_toArray, hlen]; exact Nat.le_trans hz (by decide)

theorem call_pop {vs : List Value} {v : Value} {i : Int} {j : Nat} {u : Tok} {Q : Value → Shared → Prop} (hij : i = j) (hl : s.heap.get? l = some (listOf vs.toArray n)) (hj : vs[j]? = some v) (hz : vs.length ≤ 1000)
    (h : ∀ h' n', h'.get? l = some (listOf (vs.eraseIdx j).toArray n') → Heap.SameBut l s.heap h' → Q v { s with heap := h' }) : wpAny (model prog w) A (call (.builtin "list.pop") [.ref l, .int i u]) Q E s := by
  have hjl : j < vs.length := by
    rcases Nat.lt_or_ge j vs.length with h' | h'
    · exact h'
    · rw [List.getElem?_eq_none h'] at hj; cases hj
  obtain ⟨n', hn'⟩ := upd_list (fun xs => xs.eraseIdxIfInBounds j) hl
  have e1 : vs.toArray.eraseIdxIfInBounds j = (vs.eraseIdx j).toArray := by
    simp [Array.eraseIdxIfInBounds, hjl]
  have hM := MeetsSeq.list_pop_at l vs.toArray n i u j v ?_ ?_ (by simpa using hj) (by rw [List.size_toArray]; exact Nat.le_trans hz (by decide))
  · exact call_meets PySem.F.slot_list_pop ⟨_, hl, rfl⟩ PySem.F.entry_list_pop (PySem.F.args_list_pop_2 _ _) hM ⟨hl, h _ n' (by rw [hn', e1]) (Heap.SameBut.update ..)⟩
  · unfold Builtin.List.listFitsIndex; simp; omega
  · unfold seqIndex?
    subst hij
    simp only [if_neg (show ¬ (j : Int) < 0 by omega), List.size_toArray]
    rw [if_pos (by simp; omega)]
    simp

theorem call_append {vs : List Value} {v : Value} {Q : Value → Shared → Prop} (hl : s.heap.get? l = some (listOf vs.toArray n)) (hz : vs.length ≤ 1000)
    (h : ∀ h' n', h'.get? l = some (listOf (vs ++ [v]).toArray n') → Heap.SameBut l s.heap h' → Q .none { s with heap := h' }) : wpAny (model prog w) A (call (.builtin "list.append") [.ref l, v]) Q E s := by
  obtain ⟨n', hn'⟩ := upd_list (fun xs => xs.push v) hl
  exact call_meets PySem.F.slot_list_append ⟨_, hl, rfl⟩ PySem.F.entry_list_append (PySem.F.args_list_append_2 _ _) (AutoListH.list_append_list_val_0 l vs.toArray n v (by rw [List.size_toArray]; exact Nat.le_trans hz (by decide))) ⟨hl, h _ n' (by rw [hn']; simp) (Heap.SameBut.update ..)⟩

theorem call_insert {vs : List Value} {v : Value} {i : Int} {j : Nat} {u : Tok} {Q : Value → Shared → Prop} (hij : i = j) (hl : s.heap.get? l = some (listOf vs.toArray n)) (hj : j ≤ vs.length) (hz : vs.length ≤ 1000)
    (h : ∀ h' n', h'.get? l = some (listOf (vs.take j ++ v :: vs.drop j).toArray n') → Heap.SameBut l s.heap h' → Q .none { s with heap := h' }) : wpAny (model prog w) A (call (.builtin "list.insert") [.ref l, .int i u, v]) Q E s := by
  obtain ⟨n', hn'⟩ := upd_list (fun xs => have k := if i < 0 then (i + ((xs.size : Nat) : Int)).toNat else min i.toNat xs.size; (xs.extract 0 k).push v ++ xs.extract k) hl
  have hM := AutoListH.list_insert_list_int_val_1 l vs.toArray n i u v ?_ (by rw [List.size_toArray]; exact Nat.le_trans hz (by decide))
  · refine call_meets PySem.F.slot_list_insert ⟨_, hl, rfl⟩ PySem.F.entry_list_insert (PySem.F.args_list_insert_3 _ _ _) hM ⟨hl, h _ n' ?_ (Heap.SameBut.update ..)⟩
    rw [hn']
    congr 2
    have e : (if i < 0 then (i + ((vs.toArray.size : Nat) : Int)).toNat else min i.toNat vs.toArray.size) = j := by
      rw [if_neg (by omega), List.size_toArray]; omega
    show (vs.toArray.extract 0 _).push v ++ vs.toArray.extract _ = _
    rw [e]
    simp
    exact List.take_of_length_le (by simp)
  · unfold Builtin.List.listFitsIndex; simp; omega
end

end
section
set_option maxRecDepth 100000

/-- a ledger of 27 places that may be turned, and of others that stay -/
def led (ad : Nat → Addr) (φ : Nat → Obj) (G : List (Addr × Obj)) : List (Addr × Obj) := (List.range 27).map (fun i => (ad i, φ i)) ++ G
def upd (φ : Nat → Obj) (k : Nat) (o : Obj) : Nat → Obj := fun i => if i = k then o else φ i
theorem upd_same {φ : Nat → Obj} {k : Nat} {o : Obj} : upd φ k o k = o := if_pos rfl
theorem upd_ne {φ : Nat → Obj} {k i : Nat} {o : Obj} (h : i ≠ k) : upd φ k o i = φ i := if_neg h

structure St (h₀ : Heap) (L : Addr) (ad : Nat → Addr) (h : Heap) (m : Str → Option Value) (φ : Nat → Obj) (G : List (Addr × Obj)) : Prop where
  fr : Fr h₀ L h m
  news : News h₀ L h (led ad φ G)
  inj : ∀ i j, i < 27 → j < 27 → ad i = ad j → i = j
  off : ∀ p ∈ G, ∀ i, i < 27 → p.1 ≠ ad i

theorem mem_led {ad : Nat → Addr} {φ : Nat → Obj} {G : List (Addr × Obj)} {p : Addr × Obj} : p ∈ led ad φ G ↔ (∃ i, i < 27 ∧ p = (ad i, φ i)) ∨ p ∈ G := by
  unfold led
  rw [List.mem_append, List.mem_map]
  constructor
  · rintro (⟨i, hi, rfl⟩ | h)
    · exact .inl ⟨i, List.mem_range.mp hi, rfl⟩
    · exact .inr h
  · rintro (⟨i, hi, rfl⟩ | h)
    · exact .inl ⟨i, List.mem_range.mpr hi, rfl⟩
    · exact .inr h

section
variable {h₀ h h' : Heap} {L : Addr} {ad : Nat → Addr} {m : Str → Option Value} {φ : Nat → Obj} {G : List (Addr × Obj)}

theorem St.at (S : St h₀ L ad h m φ G) {i : Nat} (hi : i < 27) : h.get? (ad i) = some (φ i) := (S.news _ (mem_led.mpr (.inl ⟨i, hi, rfl⟩))).1
theorem St.neL (S : St h₀ L ad h m φ G) {i : Nat} (hi : i < 27) : ad i ≠ L := (S.news _ (mem_led.mpr (.inl ⟨i, hi, rfl⟩))).2.1
theorem St.new (S : St h₀ L ad h m φ G) {i : Nat} (hi : i < 27) : h₀.get? (ad i) = none := (S.news _ (mem_led.mpr (.inl ⟨i, hi, rfl⟩))).2.2
theorem St.g (S : St h₀ L ad h m φ G) {p : Addr × Obj} (hp : p ∈ G) : h.get? p.1 = some p.2 := (S.news _ (mem_led.mpr (.inr hp))).1

theorem St.set (S : St h₀ L ad h m φ G) {k : Nat} (hk : k < 27) {o' : Obj} (ho : h'.get? (ad k) = some o') (hs : Heap.SameBut (ad k) h h') : St h₀ L ad h' m (upd φ k o') G where
  fr := ⟨S.fr.ns.sameBut hs (Ne.symm (S.neL hk)), fun b o e => hs.extBut b o (fun q => by rw [q, S.new hk] at e; cases e) (S.fr.keep b o e), S.fr.above⟩
  news := fun p hp => by
    rcases mem_led.mp hp with ⟨i, hi, rfl⟩ | hp
    · by_cases e : i = k
      · subst e; rw [upd_same]; exact ⟨ho, S.neL hi, S.new hi⟩
      · rw [upd_ne e]; exact ⟨hs.extBut _ _ (fun q => e (S.inj _ _ hi hk q)) (S.at hi), S.neL hi, S.new hi⟩
    · exact ⟨hs.extBut _ _ (S.off p hp k hk) (S.g hp), (S.news _ (mem_led.mpr (.inr hp))).2⟩
  inj := S.inj
  off := S.off

theorem St.keeps (S : St h₀ L ad h m φ G) (k : Sub h h') : St h₀ L ad h' m φ G where
  fr := S.fr.keeps k
  news := fun p hp => ⟨k _ _ (S.news p hp).1, (S.news p hp).2⟩
  inj := S.inj
  off := S.off

theorem St.fresh (S : St h₀ L ad h m φ G) {b : Addr} (hb : h.objs.size ≤ b) : b ≠ L ∧ h₀.get? b = none ∧ ∀ i, i < 27 → b ≠ ad i := by
  refine ⟨fun e => ?_, ?_, fun i hi e => ?_⟩
  · exact Nat.lt_irrefl _ (Nat.lt_of_lt_of_le S.fr.ns.lt (e ▸ hb))
  · cases e : h₀.get? b with
    | none => rfl
    | some o => exact absurd (Nat.lt_of_lt_of_le (Heap.lt_size (S.fr.keep _ _ e)) hb) (Nat.lt_irrefl _)
  · exact Nat.lt_irrefl _ (Nat.lt_of_lt_of_le (Heap.lt_size (S.at hi)) (e ▸ hb))

theorem St.grow (S : St h₀ L ad h m φ G) {P : List (Addr × Obj)} (k : Sub h h') (hP : ∀ p ∈ P, h.objs.size ≤ p.1 ∧ h'.get? p.1 = some p.2) : St h₀ L ad h' m φ (P ++ G) where
  fr := S.fr.keeps k
  news := fun p hp => by
    rcases mem_led.mp hp with hp | hp
    · exact ⟨k _ _ (S.news p (mem_led.mpr (.inl hp))).1, (S.news p (mem_led.mpr (.inl hp))).2⟩
    · rcases List.mem_append.mp hp with hp | hp
      · exact ⟨(hP p hp).2, (S.fresh (hP p hp).1).1, (S.fresh (hP p hp).1).2.1⟩
      · exact ⟨k _ _ (S.g hp), (S.news p (mem_led.mpr (.inr hp))).2⟩
  inj := S.inj
  off := fun p hp i hi => by
    rcases List.mem_append.mp hp with hp | hp
    · exact (S.fresh (hP p hp).1).2.2 i hi
    · exact S.off p hp i hi

theorem St.push (S : St h₀ L ad h m φ G) (o : Obj) (ho : o.isFreed = false) : St h₀ L ad (h.push o) m φ ((h.objs.size, o) :: G) :=
  S.grow (P := [(h.objs.size, o)]) (fun b o' e => Heap.get?_push_of_some _ e) fun p hp => by rw [List.mem_singleton.mp hp]; exact ⟨Nat.le_refl _, Heap.get?_push_size _ ho⟩

theorem St.loc (S : St h₀ L ad h m φ G) {x : Str} {v : Value} (hn : h'.Ns L (fun y => if y = x then some v else m y)) (hs : Heap.SameBut L h h') : St h₀ L ad h' (fun y => if y = x then some v else m y) φ G :=
  ⟨S.fr.set hn hs, S.news.set hs, S.inj, S.off⟩

/-- the one code table turned, all else kept -/
theorem St.table (S : St h₀ L ad h m φ G) {o' : Obj} (hx : Heap.ExtBut (ad 0) h h') (ho : h'.get? (ad 0) = some o') : St h₀ L ad h' m (upd φ 0 o') G where
  fr := ⟨S.fr.ns.extBut hx (Ne.symm (S.neL (by decide))), fun b o e => hx b o (fun q => by rw [q, S.new (by decide)] at e; cases e) (S.fr.keep b o e), S.fr.above⟩
  news := fun p hp => by
    rcases mem_led.mp hp with ⟨i, hi, rfl⟩ | hp
    · by_cases e : i = 0
      · subst e; rw [upd_same]; exact ⟨ho, S.neL hi, S.new hi⟩
      · rw [upd_ne e]; exact ⟨hx _ _ (fun q => e (S.inj _ _ hi (by decide) q)) (S.at hi), S.neL hi, S.new hi⟩
    · exact ⟨hx _ _ (S.off p hp 0 (by decide)) (S.g hp), (S.news _ (mem_led.mpr (.inr hp))).2⟩
  inj := S.inj
  off := S.off
end

/-- what is known of the law's block -/
structure EO (env : Env) (L cn co : Addr) : Prop where
  loc : env.locals = L
  knd : env.scope.kind = .function
  glb : env.globals = mainGlobals
  blt : env.builtins = builtinsNs
  cn : env.cells.lookup ("name" : Str) = some cn
  co : env.cells.lookup ("order" : Str) = some co
  kn : env.kindOf "name" = some .cell
  ko : env.kindOf "order" = some .cell
  kl : ∀ y ∈ (["script", "row", "one", "marks", "sides", "told", "due", "x", "what", "place", "within", "ahead"] : List Str), env.kindOf y = some .local
  kg : ∀ y ∈ (["_FIELD_BASE", "list", "_fields_in_init_order", "len"] : List Str), env.kindOf y = some .globalImplicit

/-- the names that stay -/
structure Mok (ad : Nat → Addr) (m : Str → Option Value) : Prop where
  row : m "row" = some (.ref (ad 3))
  marks : m "marks" = some (.ref (ad 5))
  sides : m "sides" = some (.ref (ad 6))
  told : m "told" = some (.ref (ad 9))
  due : m "due" = some (.ref (ad 10))

theorem Mok.set {ad : Nat → Addr} {m : Str → Option Value} (M : Mok ad m) {x : Str} {v : Value} (hx : x ∈ (["one", "x", "what", "place", "within", "ahead"] : List Str)) : Mok ad (fun y => if y = x then some v else m y) := by
  have h : ∀ y : Str, y ∈ (["row", "marks", "sides", "told", "due"] : List Str) → y ≠ x := fun y hy e => by
    subst e
    simp only [List.mem_cons, List.not_mem_nil, or_false] at hy hx
    rcases hy with rfl | rfl | rfl | rfl | rfl <;> revert hx <;> decide
  exact ⟨(if_neg (h _ (by simp))).trans M.row, (if_neg (h _ (by simp))).trans M.marks, (if_neg (h _ (by simp))).trans M.sides, (if_neg (h _ (by simp))).trans M.told, (if_neg (h _ (by simp))).trans M.due⟩

end
section
set_option maxRecDepth 100000

def letter (i : Nat) : Str := ⟨#[97 + i]⟩
theorem letter_inj {i j : Nat} (h : letter i = letter j) : i = j := by
  unfold letter at h
  injection h with h
  have := congrArg (fun a : Array Nat => a[0]?) h
  simp at this
  omega
def sideAt (k : Bool) : Nat := if k then 8 else 7
theorem sideAt_lt (k : Bool) : sideAt k < 27 := by cases k <;> decide
theorem sideAt_inj {k k' : Bool} (h : sideAt k = sideAt k') : k = k' := by cases k <;> cases k' <;> first | rfl | (exact absurd h (by decide))
def bit (b : Bool) : Int := if b then 1 else 0

abbrev fieldDict (P : Params) (i : Nat) (bi bk : Bool) (t1 t2 t3 tn : Tok) : Obj :=
  dictOf [⟨PyData.keyHash P "name", .str "name" t1, .str (letter i) tn⟩, ⟨PyData.keyHash P "init", .str "init" t2, .bool bi⟩, ⟨PyData.keyHash P "kw_only", .str "kw_only" t3, .bool bk⟩] 3

/-- what lies at the 27 places -/
structure Good (prog : Program) (w : World) (ad : Nat → Addr) (φ : Nat → Obj) (rowp ordp : List Nat) (ini kwo mk : Nat → Bool) (A : Bool → List Nat) (told due : List Value) : Prop where
  tab : ∃ ps, φ 0 = tabObj ps ∧ TriplesOk ps.toList
  cn : ∃ v, (φ 1).data = .cell v
  co : (φ 2).data = .cell (some (.ref (ad 4)))
  row : ∃ n, φ 3 = listOf (rowp.map fun i => Value.ref (ad (11 + i))).toArray n
  ord : ∃ n vs, φ 4 = listOf vs.toArray n ∧ StrsAre vs (ordp.map letter)
  mks : ∃ kvs, (φ 5).IsDictOf (strKind prog w) kvs ∧ kvs.length ≤ 8 ∧ ∀ i, i < 8 → ∃ t, valueAt kvs (letter i) = some (.int (bit (mk i)) t)
  sd : ∃ n, φ 6 = listOf #[.ref (ad 7), .ref (ad 8)] n
  sid : ∀ k, ∃ n vs, φ (sideAt k) = listOf vs.toArray n ∧ StrsAre vs ((A k).map letter)
  tl : ∃ n, φ 9 = listOf told.toArray n
  du : ∃ n, φ 10 = listOf due.toArray n
  one : ∀ i, i < 8 → φ (11 + i) = instObj 38 (ad (19 + i))
  dct : ∀ i, i < 8 → ∃ t1 t2 t3 tn, φ (19 + i) = fieldDict w.params i (ini i) (kwo i) t1 t2 t3 tn

section
variable {prog : Program} {w : World} {ad : Nat → Addr} {φ : Nat → Obj} {rowp ordp : List Nat} {ini kwo mk : Nat → Bool} {A : Bool → List Nat} {told due : List Value}

theorem sid_ne {φ : Nat → Obj} {k : Nat} {o : Obj} (h7 : k ≠ 7) (h8 : k ≠ 8) (b : Bool) : upd φ k o (sideAt b) = φ (sideAt b) := by
  cases b
  · exact upd_ne (Ne.symm h7)
  · exact upd_ne (Ne.symm h8)
theorem fam_ne {φ : Nat → Obj} {k : Nat} {o : Obj} (hk : k < 11) {i : Nat} (hi : 11 ≤ i) : upd φ k o i = φ i := upd_ne (by omega)

theorem Good.setTab (G : Good prog w ad φ rowp ordp ini kwo mk A told due) {ps : Array Value} (h : TriplesOk ps.toList) : Good prog w ad (upd φ 0 (tabObj ps)) rowp ordp ini kwo mk A told due :=
  ⟨⟨ps, rfl, h⟩, G.cn, G.co, G.row, G.ord, G.mks, G.sd, fun k => by rw [sid_ne (by decide) (by decide)]; exact G.sid k, G.tl, G.du, fun i hi => by rw [fam_ne (by decide) (by omega)]; exact G.one i hi, fun i hi => by rw [fam_ne (by decide) (by omega)]; exact G.dct i hi⟩
theorem Good.setCell (G : Good prog w ad φ rowp ordp ini kwo mk A told due) {o : Obj} {v : Option Value} (h : o.data = .cell v) : Good prog w ad (upd φ 1 o) rowp ordp ini kwo mk A told due :=
  ⟨G.tab, ⟨v, h⟩, G.co, G.row, G.ord, G.mks, G.sd, fun k => by rw [sid_ne (by decide) (by decide)]; exact G.sid k, G.tl, G.du, fun i hi => by rw [fam_ne (by decide) (by omega)]; exact G.one i hi, fun i hi => by rw [fam_ne (by decide) (by omega)]; exact G.dct i hi⟩
theorem Good.setRow (G : Good prog w ad φ rowp ordp ini kwo mk A told due) {rowp' : List Nat} {n : Nat} : Good prog w ad (upd φ 3 (listOf (rowp'.map fun i => Value.ref (ad (11 + i))).toArray n)) rowp' ordp ini kwo mk A told due :=
  ⟨G.tab, G.cn, G.co, ⟨n, rfl⟩, G.ord, G.mks, G.sd, fun k => by rw [sid_ne (by decide) (by decide)]; exact G.sid k, G.tl, G.du, fun i hi => by rw [fam_ne (by decide) (by omega)]; exact G.one i hi, fun i hi => by rw [fam_ne (by decide) (by omega)]; exact G.dct i hi⟩
theorem Good.setOrd (G : Good prog w ad φ rowp ordp ini kwo mk A told due) {ordp' : List Nat} {vs : List Value} {n : Nat} (h : StrsAre vs (ordp'.map letter)) : Good prog w ad (upd φ 4 (listOf vs.toArray n)) rowp ordp' ini kwo mk A told due :=
  ⟨G.tab, G.cn, G.co, G.row, ⟨n, vs, rfl, h⟩, G.mks, G.sd, fun k => by rw [sid_ne (by decide) (by decide)]; exact G.sid k, G.tl, G.du, fun i hi => by rw [fam_ne (by decide) (by omega)]; exact G.one i hi, fun i hi => by rw [fam_ne (by decide) (by omega)]; exact G.dct i hi⟩
theorem Good.setMk (G : Good prog w ad φ rowp ordp ini kwo mk A told due) {mk' : Nat → Bool} {o : Obj} {kvs : List (Str × Value)} (h : o.IsDictOf (strKind prog w) kvs) (hl : kvs.length ≤ 8) (hv : ∀ i, i < 8 → ∃ t, valueAt kvs (letter i) = some (.int (bit (mk' i)) t)) :
    Good prog w ad (upd φ 5 o) rowp ordp ini kwo mk' A told due :=
  ⟨G.tab, G.cn, G.co, G.row, G.ord, ⟨kvs, h, hl, hv⟩, G.sd, fun k => by rw [sid_ne (by decide) (by decide)]; exact G.sid k, G.tl, G.du, fun i hi => by rw [fam_ne (by decide) (by omega)]; exact G.one i hi, fun i hi => by rw [fam_ne (by decide) (by omega)]; exact G.dct i hi⟩
theorem Good.setSide (G : Good prog w ad φ rowp ordp ini kwo mk A told due) {k : Bool} {l : List Nat} {vs : List Value} {n : Nat} (h : StrsAre vs (l.map letter)) : Good prog w ad (upd φ (sideAt k) (listOf vs.toArray n)) rowp ordp ini kwo mk (fun k' => if k' = k then l else A k') told due := by
  have h0 : ∀ j, j < 7 ∨ 8 < j → upd φ (sideAt k) (listOf vs.toArray n) j = φ j := fun j hj => upd_ne (by cases k <;> simp [sideAt] <;> omega)
  refine ⟨?_, ?_, ?_, ?_, ?_, ?_, ?_, fun k' => ?_, ?_, ?_, fun i hi => ?_, fun i hi => ?_⟩
  · rw [h0 0 (by omega)]; exact G.tab
  · rw [h0 1 (by omega)]; exact G.cn
  · rw [h0 2 (by omega)]; exact G.co
  · rw [h0 3 (by omega)]; exact G.row
  · rw [h0 4 (by omega)]; exact G.ord
  · rw [h0 5 (by omega)]; exact G.mks
  · rw [h0 6 (by omega)]; exact G.sd
  · by_cases e : k' = k
    · subst e; exact ⟨n, vs, upd_same, by rw [if_pos rfl]; exact h⟩
    · rw [upd_ne (fun q => e (sideAt_inj q)), if_neg e]; exact G.sid k'
  · rw [h0 9 (by omega)]; exact G.tl
  · rw [h0 10 (by omega)]; exact G.du
  · rw [h0 _ (by omega)]; exact G.one i hi
  · rw [h0 _ (by omega)]; exact G.dct i hi
theorem Good.setTold (G : Good prog w ad φ rowp ordp ini kwo mk A told due) {told' : List Value} {n : Nat} : Good prog w ad (upd φ 9 (listOf told'.toArray n)) rowp ordp ini kwo mk A told' due :=
  ⟨G.tab, G.cn, G.co, G.row, G.ord, G.mks, G.sd, fun k => by rw [sid_ne (by decide) (by decide)]; exact G.sid k, ⟨n, rfl⟩, G.du, fun i hi => by rw [fam_ne (by decide) (by omega)]; exact G.one i hi, fun i hi => by rw [fam_ne (by decide) (by omega)]; exact G.dct i hi⟩
theorem Good.setDue (G : Good prog w ad φ rowp ordp ini kwo mk A told due) {due' : List Value} {n : Nat} : Good prog w ad (upd φ 10 (listOf due'.toArray n)) rowp ordp ini kwo mk A told due' :=
  ⟨G.tab, G.cn, G.co, G.row, G.ord, G.mks, G.sd, fun k => by rw [sid_ne (by decide) (by decide)]; exact G.sid k, G.tl, ⟨n, rfl⟩, fun i hi => by rw [fam_ne (by decide) (by omega)]; exact G.one i hi, fun i hi => by rw [fam_ne (by decide) (by omega)]; exact G.dct i hi⟩
theorem Good.setDct (G : Good prog w ad φ rowp ordp ini kwo mk A told due) {j : Nat} {ini' kwo' : Nat → Bool} {t1 t2 t3 tn : Tok} (hi : ∀ i, i ≠ j → ini' i = ini i) (hk : ∀ i, i ≠ j → kwo' i = kwo i) :
    Good prog w ad (upd φ (19 + j) (fieldDict w.params j (ini' j) (kwo' j) t1 t2 t3 tn)) rowp ordp ini' kwo' mk A told due := by
  have h0 : ∀ i o, i < 19 → upd φ (19 + j) o i = φ i := fun i o hi => upd_ne (by omega)
  refine ⟨?_, ?_, ?_, ?_, ?_, ?_, ?_, fun k' => ?_, ?_, ?_, fun i h8 => ?_, fun i h8 => ?_⟩
  · rw [h0 0 _ (by omega)]; exact G.tab
  · rw [h0 1 _ (by omega)]; exact G.cn
  · rw [h0 2 _ (by omega)]; exact G.co
  · rw [h0 3 _ (by omega)]; exact G.row
  · rw [h0 4 _ (by omega)]; exact G.ord
  · rw [h0 5 _ (by omega)]; exact G.mks
  · rw [h0 6 _ (by omega)]; exact G.sd
  · rw [h0 _ _ (by cases k' <;> decide)]; exact G.sid k'
  · rw [h0 9 _ (by omega)]; exact G.tl
  · rw [h0 10 _ (by omega)]; exact G.du
  · rw [h0 _ _ (by omega)]; exact G.one i h8
  · by_cases e : i = j
    · subst e; exact ⟨t1, t2, t3, tn, upd_same⟩
    · rw [upd_ne (by omega), hi i e, hk i e]; exact G.dct i h8
end

end
section
set_option maxRecDepth 100000

section
variable {prog : Program} {w : World} {A : Around} {E : Value → Shared → Prop} {s : Shared} {env : Env} {h₀ : Heap} {L : Addr} {ad : Nat → Addr} {m : Str → Option Value} {φ : Nat → Obj} {G : List (Addr × Obj)}
  {rowp ordp : List Nat} {ini kwo mk : Nat → Bool} {AA : Bool → List Nat} {told due : List Value} {v : Value}

theorem rd_name {p : Pos} {Q : Value → Shared → Prop} (O : EO env L (ad 1) (ad 2)) (S : St h₀ L ad s.heap m φ G) (hc : (φ 1).data = .cell (some v)) (h : Q v s) : wpAny (model prog w) A (eval (.Name "name" p) env) Q E s :=
  wpAny_Name (wpAny_loadName_cell O.knd O.kn O.cn ⟨_, S.at (by decide), hc⟩ h) (by decide)
theorem rd_order {p : Pos} {Q : Value → Shared → Prop} (O : EO env L (ad 1) (ad 2)) (S : St h₀ L ad s.heap m φ G) (hc : (φ 2).data = .cell (some v)) (h : Q v s) : wpAny (model prog w) A (eval (.Name "order" p) env) Q E s :=
  wpAny_Name (wpAny_loadName_cell O.knd O.ko O.co ⟨_, S.at (by decide), hc⟩ h) (by decide)
theorem rd_loc {p : Pos} {y : Str} {Q : Value → Shared → Prop} (O : EO env L (ad 1) (ad 2)) (S : St h₀ L ad s.heap m φ G) (hm : m y = some v) (h : Q v s)
    (hy : y ∈ (["script", "row", "one", "marks", "sides", "told", "due", "x", "what", "place", "within", "ahead"] : List Str) := by decide) (hd : (y == ("__debug__" : Str)) = false := by decide) : wpAny (model prog w) A (eval (.Name y p) env) Q E s :=
  name_loc (by rw [O.loc]; exact S.fr.ns) hm h O.knd (O.kl y hy) hd
theorem st_loc {y : Str} {Q : Unit → Shared → Prop} (O : EO env L (ad 1) (ad 2)) (S : St h₀ L ad s.heap m φ G) (h : ∀ h', St h₀ L ad h' (fun z => if z = y then some v else m z) φ G → Q () { s with heap := h', toks := s.toks + 1 })
    (hy : y ∈ (["script", "row", "one", "marks", "sides", "told", "due", "x", "what", "place", "within", "ahead"] : List Str) := by decide) : wpAny (model prog w) A (storeName env y v) Q E s :=
  wpAny_storeName_local (m := m) (O.kl y hy) (by rw [O.loc]; exact S.fr.ns) (fun h' hn hs => h h' (S.loc (by rw [← O.loc]; exact hn) (by rw [← O.loc]; exact hs))) (by rw [O.knd]; rfl)
theorem st_name {Q : Unit → Shared → Prop} {v0 : Option Value} (O : EO env L (ad 1) (ad 2)) (S : St h₀ L ad s.heap m φ G) (hc : (φ 1).data = .cell v0) (h : ∀ h' o, St h₀ L ad h' m (upd φ 1 o) G → o.data = .cell (some v) → Q () { s with heap := h' }) :
    wpAny (model prog w) A (storeName env "name" v) Q E s :=
  wpAny_storeName_cell O.knd O.kn O.cn ⟨_, S.at (by decide), hc⟩ fun h' ⟨o, ho, hd⟩ hs => h h' o (S.set (by decide) ho hs) hd

/-- name = 'abcdefgh'[x % 8] -/
theorem s_name {p1 p2 p3 p4 p5 p6 p7 : Pos} {k1 k2 : Nat} {Q : Flow → Shared → Prop} {x : Int} {tx : Tok} (O : EO env L (ad 1) (ad 2)) (S : St h₀ L ad s.heap m φ G) (Go : Good prog w ad φ rowp ordp ini kwo mk AA told due) (hx : m "x" = some (.int x tx))
    (h : ∀ h' tk o t, St h₀ L ad h' m (upd φ 1 o) G → Good prog w ad (upd φ 1 o) rowp ordp ini kwo mk AA told due → o.data = .cell (some (.str (letter (x.fmod 8).toNat) t)) → Q .next { s with heap := h', toks := tk }) :
    wpAny (model prog w) A (exec (.Assign [.Name "name" p1] (.Subscript (.Constant (.str "abcdefgh") k1 p2) (.BinOp (.Name "x" p3) .Mod (.Constant (.int 8) k2 p4) p5) p6) p7) env) Q E s := by
  refine wpAny_Assign_Name ?_
  refine Subscript_ (wpAny_Constant_str (wpAny_BinOp (rd_loc (s := { s with toks := s.toks + 1 }) O S hx ?_)))
  refine wpAny_Constant_int ?_
  refine AutoIntOps.mod_1 (by decide) ?_
  have h0 : 0 ≤ x.fmod 8 := Int.fmod_nonneg_of_pos _ (by decide)
  have h8 : x.fmod 8 < 8 := Int.fmod_lt_of_pos _ (by decide)
  have hit : Txt.item (Str.ofString "abcdefgh") (x.fmod 8) = letter (x.fmod 8).toNat := by
    have : x.fmod 8 = 0 ∨ x.fmod 8 = 1 ∨ x.fmod 8 = 2 ∨ x.fmod 8 = 3 ∨ x.fmod 8 = 4 ∨ x.fmod 8 = 5 ∨ x.fmod 8 = 6 ∨ x.fmod 8 = 7 := by omega
    rcases this with e | e | e | e | e | e | e | e <;> rw [e] <;> decide
  show wpAny _ _ (subscriptTail _ _ _ _) _ _ _
  refine item_str (by unfold fitsSsize; simp; omega) (by have : (Str.ofString "abcdefgh").length = 8 := rfl; rw [this]; omega) (by have : (Str.ofString "abcdefgh").length = 8 := rfl; rw [this]; omega) (fun _ => ?_)
  rw [hit]
  obtain ⟨v0, hv0⟩ := Go.cn
  exact st_name (v0 := v0) O S hv0 fun h' o S' ho => h h' _ o _ S' (Go.setCell ho) ho

/-- what = x // 8 % 3 -/
theorem s_what {p1 p2 p3 p4 p5 p6 p7 : Pos} {k1 k2 : Nat} {Q : Flow → Shared → Prop} {x : Int} {tx : Tok} (O : EO env L (ad 1) (ad 2)) (S : St h₀ L ad s.heap m φ G) (hx : m "x" = some (.int x tx))
    (h : ∀ h' tk t, St h₀ L ad h' (fun z => if z = Str.ofString "what" then some (.int ((x.fdiv 8).fmod 3) t) else m z) φ G → Q .next { s with heap := h', toks := tk }) :
    wpAny (model prog w) A (exec (.Assign [.Name "what" p1] (.BinOp (.BinOp (.Name "x" p2) .FloorDiv (.Constant (.int 8) k1 p3) p4) .Mod (.Constant (.int 3) k2 p5) p6) p7) env) Q E s := by
  refine wpAny_Assign_Name (wpAny_BinOp (wpAny_BinOp (rd_loc O S hx (wpAny_Constant_int ?_))))
  refine AutoIntOps.floordiv_1 (by decide) (by rw [PyProof.noPylong_of_log2 (by decide)]; decide) ?_
  show wpAny _ _ (eval _ _) _ _ _
  refine wpAny_Constant_int (AutoIntOps.mod_1 (by decide) ?_)
  exact st_loc (y := Str.ofString "what") O S fun h' S' => h h' _ _ S'

/-- place = order.index(name) -/
theorem s_place {p1 p2 p3 p4 p5 p6 : Pos} {Q : Flow → Shared → Prop} {i j : Nat} {t : Tok} (O : EO env L (ad 1) (ad 2)) (S : St h₀ L ad s.heap m φ G) (Go : Good prog w ad φ rowp ordp ini kwo mk AA told due) (hc : (φ 1).data = .cell (some (.str (letter i) t)))
    (hj : ordp[j]? = some i) (hno : ∀ q, q < j → ordp[q]? ≠ some i) (hz : ordp.length ≤ 1000)
    (h : ∀ h' tk t, St h₀ L ad h' (fun z => if z = Str.ofString "place" then some (.int j t) else m z) φ G → Q .next { s with heap := h', toks := tk })
    (he : ∃ pl, eval (.Call (.Attribute (.Name "order" p2) "index" p3) [.Name "name" p4] [] p5) env = (do
      let ov ← eval (.Name "order" p2) env
      standAt p3.atName
      let (f, first) ← holding [ov] (getMethod ov "index" pl)
      callWith p5 f first (backTo p5 (starEach [.Name "name" p4] env)) []) := by exact ⟨_, rfl⟩) :
    wpAny (model prog w) A (exec (.Assign [.Name "place" p1] (.Call (.Attribute (.Name "order" p2) "index" p3) [.Name "name" p4] [] p5) p6) env) Q E s := by
  obtain ⟨n, vs, e, hs⟩ := Go.ord
  have hl := S.at (i := 4) (by decide)
  rw [e] at hl
  obtain ⟨pl, he⟩ := he
  refine wpAny_Assign_Name (MethodCall_ (pl := pl) (rd_order O S Go.co ?_) he)
  refine getM_list hl PySem.F.slot_list_index PySem.F.type_list_index ?_
  refine callWith_method1 (Calls.spliced_cons (rd_name O S hc (args_nil ?_)))
  refine call_index (j := j) hl hs (by rw [List.getElem?_map, hj]; rfl) (fun q hq e' => ?_) (by rw [List.length_map]; exact hz) fun t' tk => ?_
  · rw [List.getElem?_map] at e'
    cases e2 : ordp[q]? with
    | none => rw [e2] at e'; cases e'
    | some i' =>
      rw [e2] at e'
      exact hno q hq (by rw [e2, letter_inj (Option.some.inj e')])
  · exact st_loc (y := Str.ofString "place") (s := { s with toks := tk }) O S fun h' S' => h h' _ _ S'

theorem any_letter {l : List Nat} {i : Nat} : ((l.map letter).any (· == letter i)) = decide (i ∈ l) := by
  rw [Bool.eq_iff_iff, decide_eq_true_eq, List.any_eq_true]
  constructor
  · rintro ⟨x, hx, e⟩
    obtain ⟨j, hj, rfl⟩ := List.mem_map.mp hx
    have := letter_inj (eq_of_beq e)
    exact this ▸ hj
  · intro hi
    exact ⟨letter i, List.mem_map.mpr ⟨i, hi, rfl⟩, by simp⟩

theorem rd_side {Q : Value → Shared → Prop} {value slice : Expr} {kb : Bool} {k : Int} {u : Tok} (S : St h₀ L ad s.heap m φ G) (Go : Good prog w ad φ rowp ordp ini kwo mk AA told due) (hk : k = bit kb) (h : Q (.ref (ad (sideAt kb))) s)
    (hs : subscripted slice false (.ref (ad 6)) (.int k u) = operate [.ref (ad 6), .int k u] (getItem (.ref (ad 6)) (.int k u)) := by with_unfolding_all rfl) (hg : ∀ r, letTemporaryGo value (.ref (ad 6)) r = pure () := by intro _; with_unfolding_all rfl) :
    wpAny (model prog w) A (subscriptTail value slice (.ref (ad 6)) (.int k u)) Q E s := by
  obtain ⟨n, e⟩ := Go.sd
  have hl := S.at (i := 6) (by decide)
  rw [e] at hl
  refine item_list (items := #[.ref (ad 7), .ref (ad 8)]) ⟨_, hl, rfl, n, rfl⟩ ?_ ?_ ?_ h hs hg
  · subst hk; cases kb <;> decide
  · subst hk; cases kb <;> decide
  · subst hk; cases kb <;> rfl

/-- within = name in sides[0] or name in sides[1] -/
theorem s_within {p1 p2 p3 p4 p5 p6 p7 p8 p9 p10 p11 p12 : Pos} {k1 k2 : Nat} {Q : Flow → Shared → Prop} {i : Nat} {t : Tok} (O : EO env L (ad 1) (ad 2)) (S : St h₀ L ad s.heap m φ G) (M : Mok ad m) (Go : Good prog w ad φ rowp ordp ini kwo mk AA told due) (hc : (φ 1).data = .cell (some (.str (letter i) t)))
    (h : ∀ h' tk, St h₀ L ad h' (fun z => if z = Str.ofString "within" then some (.bool (decide (i ∈ AA false) || decide (i ∈ AA true))) else m z) φ G → Q .next { s with heap := h', toks := tk }) :
    wpAny (model prog w) A (exec (.Assign [.Name "within" p1] (.BoolOp .Or [.Compare (.Name "name" p2) [.In] [.Subscript (.Name "sides" p3) (.Constant (.int 0) k1 p4) p5] p6, .Compare (.Name "name" p7) [.In] [.Subscript (.Name "sides" p8) (.Constant (.int 1) k2 p9) p10] p11] p12) p12) env) Q E s := by
  obtain ⟨n0, vs0, e0, hs0⟩ := Go.sid false
  obtain ⟨n1, vs1, e1, hs1⟩ := Go.sid true
  have hl0 := S.at (i := sideAt false) (by decide)
  have hl1 := S.at (i := sideAt true) (by decide)
  rw [e0] at hl0; rw [e1] at hl1
  refine wpAny_Assign_Name (BoolOp_or (wpAny_Compare1 (rd_name O S hc (Subscript_ (rd_loc O S M.sides (wpAny_Constant_int ?_))))))
  refine rd_side (kb := false) (s := { s with toks := s.toks + 1 }) S Go rfl ?_
  refine in_list_strs (s := { s with toks := s.toks + 1 }) (vs := vs0) ⟨_, hl0, rfl, n0, rfl⟩ hs0 ?_
  rw [any_letter]
  refine wpAny_truthy_bool ?_
  cases hd : decide (i ∈ AA false) with
  | true =>
    rw [if_pos rfl]
    refine st_loc (y := Str.ofString "within") (s := { s with toks := s.toks + 1 }) O S fun h' S' => h h' _ ?_
    rw [hd]; exact S'
  | false =>
    rw [if_neg Bool.false_ne_true]
    refine BoolOp_one (wpAny_Compare1 (rd_name (s := { s with toks := s.toks + 1 }) O S hc (Subscript_ (rd_loc (s := { s with toks := s.toks + 1 }) O S M.sides (wpAny_Constant_int ?_)))))
    refine rd_side (kb := true) (s := { s with toks := s.toks + 1 + 1 }) S Go rfl ?_
    refine in_list_strs (s := { s with toks := s.toks + 1 + 1 }) (vs := vs1) ⟨_, hl1, rfl, n1, rfl⟩ hs1 ?_
    rw [any_letter]
    refine st_loc (y := Str.ofString "within") (s := { s with toks := s.toks + 1 + 1 }) O S fun h' S' => h h' _ ?_
    rw [hd, Bool.false_or]; exact S'
end

end
section
set_option maxRecDepth 100000

theorem eraseIdx_map' {α β : Type} {f : α → β} : ∀ (l : List α) (j : Nat), (l.map f).eraseIdx j = (l.eraseIdx j).map f
  | [], _ => rfl
  | _ :: _, 0 => rfl
  | a :: l, j + 1 => by simp [eraseIdx_map' l j]
theorem stored_len {kvs : List (Str × Value)} {k : Str} {v v' : Value} (h : valueAt kvs k = some v') : (stored kvs k v).length = kvs.length := by
  unfold stored
  have : kvs.any (fun kv => kv.1 = k) = true := by
    unfold valueAt at h
    obtain ⟨q, hq, _⟩ := Option.map_eq_some_iff.mp h
    rw [List.any_eq_true]
    exact ⟨q, List.mem_of_find?_eq_some hq, by have := List.find?_some hq; simpa using this⟩
  rw [if_pos this, List.length_map]
theorem valueAt_stored {v : Value} {k k' : Str} : ∀ {kvs : List (Str × Value)}, valueAt (stored kvs k v) k' = if k' = k then some v else valueAt kvs k' := by
  intro kvs
  unfold stored
  split
  · next h =>
    unfold valueAt
    by_cases e : k' = k
    · rw [if_pos e]
      subst e
      induction kvs with
      | nil => simp at h
      | cons a r ih =>
        by_cases ea : a.1 = k'
        · simp [ea]
        · simp only [List.any_cons, ea, decide_false, Bool.false_or] at h
          have := ih h
          simp only [List.map_cons, ea, if_false, List.find?_cons, decide_false] at this ⊢
          exact this
    · rw [if_neg e]
      congr 1
      clear h
      induction kvs with
      | nil => rfl
      | cons a r ih => 
        by_cases ea : a.1 = k
        · have e2 : ¬ k = k' := fun q => e q.symm
          have e3 : ¬ a.1 = k' := fun q => e2 (ea ▸ q)
          simp only [List.map_cons, ea, if_true, List.find?_cons, e2, decide_false, ih]
        · simp only [List.map_cons, ea, if_false, List.find?_cons]
          by_cases e3 : a.1 = k'
          · simp [e3]
          · simp only [e3, decide_false, ih]
  · next h =>
    unfold valueAt
    have hn : kvs.find? (fun kv => decide (kv.1 = k)) = none := List.find?_eq_none.mpr fun x hx q => h (List.any_eq_true.mpr ⟨x, hx, q⟩)
    rw [List.find?_append]
    by_cases e : k' = k
    · subst e; rw [hn, if_pos rfl]; simp
    · have e2 : ¬ k = k' := fun q => e q.symm
      rw [if_neg e]; simp [e2]

section
variable {prog : Program} {w : World} {A : Around} {E : Value → Shared → Prop} {s : Shared} {env : Env} {h₀ : Heap} {L : Addr} {ad : Nat → Addr} {m : Str → Option Value} {φ : Nat → Obj} {G : List (Addr × Obj)}
  {rowp ordp : List Nat} {ini kwo mk : Nat → Bool} {AA : Bool → List Nat} {told due : List Value} {v : Value} {i : Nat} {t : Tok}

/-- marks[name] -/
theorem rd_mark {p1 p2 p3 : Pos} {Q : Value → Shared → Prop} (O : EO env L (ad 1) (ad 2)) (S : St h₀ L ad s.heap m φ G) (M : Mok ad m) (Go : Good prog w ad φ rowp ordp ini kwo mk AA told due) (hc : (φ 1).data = .cell (some (.str (letter i) t))) (hi : i < 8)
    (h : ∀ t' tk, Q (.int (bit (mk i)) t') { s with toks := tk }) : wpAny (model prog w) A (eval (.Subscript (.Name "marks" p1) (.Name "name" p2) p3) env) Q E s := by
  obtain ⟨kvs, hd, _, hv⟩ := Go.mks
  obtain ⟨t', hv⟩ := hv i hi
  have hD : s.heap.DictOf (strKind prog w) (ad 5) kvs := Heap.dictOf_iff.mpr ⟨_, S.at (by decide), hd⟩
  refine Subscript_ (rd_loc O S M.marks (rd_name O S hc ?_))
  exact subscriptTail_builtin hD.typeIs slot_dict_getitem.lookup (wpAny_getItem_of (strKind_is prog w _ t) hD.mapOf hv (h _ _)) (by with_unfolding_all rfl) (by intro _; with_unfolding_all rfl)

/-- sides[marks[name]] -/
theorem rd_own {p0 p1 p2 p3 p4 : Pos} {Q : Value → Shared → Prop} (O : EO env L (ad 1) (ad 2)) (S : St h₀ L ad s.heap m φ G) (M : Mok ad m) (Go : Good prog w ad φ rowp ordp ini kwo mk AA told due) (hc : (φ 1).data = .cell (some (.str (letter i) t))) (hi : i < 8)
    (h : ∀ tk, Q (.ref (ad (sideAt (mk i)))) { s with toks := tk }) : wpAny (model prog w) A (eval (.Subscript (.Name "sides" p0) (.Subscript (.Name "marks" p1) (.Name "name" p2) p3) p4) env) Q E s := by
  refine Subscript_ (rd_loc O S M.sides (rd_mark O S M Go hc hi fun t' tk => ?_))
  exact rd_side (s := { s with toks := tk }) (kb := mk i) S Go rfl (h _)

/-- sides[marks[name]].remove(name) -/
theorem s_remove {p0 p1 p2 p3 p4 p5 p6 p7 p8 : Pos} {Q : Flow → Shared → Prop} {j : Nat} (O : EO env L (ad 1) (ad 2)) (S : St h₀ L ad s.heap m φ G) (M : Mok ad m) (Go : Good prog w ad φ rowp ordp ini kwo mk AA told due) (hc : (φ 1).data = .cell (some (.str (letter i) t))) (hi : i < 8)
    (hj : (AA (mk i))[j]? = some i) (hno : ∀ q, q < j → (AA (mk i))[q]? ≠ some i) (hz : (AA (mk i)).length ≤ 1000)
    (h : ∀ h' tk φ', St h₀ L ad h' m φ' G → Good prog w ad φ' rowp ordp ini kwo mk (fun k => if k = mk i then (AA (mk i)).eraseIdx j else AA k) told due → (φ' 1).data = .cell (some (.str (letter i) t)) → Q .next { s with heap := h', toks := tk })
    (hint : interactive env = false)
    (he : ∃ pl, eval (.Call (.Attribute (.Subscript (.Name "sides" p0) (.Subscript (.Name "marks" p1) (.Name "name" p2) p3) p4) "remove" p5) [.Name "name" p6] [] p7) env = (do
      let ov ← eval (.Subscript (.Name "sides" p0) (.Subscript (.Name "marks" p1) (.Name "name" p2) p3) p4) env
      standAt p5.atName
      let (f, first) ← holding [ov] (getMethod ov "remove" pl)
      callWith p7 f first (backTo p7 (starEach [.Name "name" p6] env)) []) := by exact ⟨_, rfl⟩) :
    wpAny (model prog w) A (exec (.Expr (.Call (.Attribute (.Subscript (.Name "sides" p0) (.Subscript (.Name "marks" p1) (.Name "name" p2) p3) p4) "remove" p5) [.Name "name" p6] [] p7) p8) env) Q E s := by
  obtain ⟨n, vs, e, hs⟩ := Go.sid (mk i)
  have hl := S.at (i := sideAt (mk i)) (sideAt_lt _)
  rw [e] at hl
  obtain ⟨pl, he⟩ := he
  refine wpAny_Expr (MethodCall_ (pl := pl) (rd_own O S M Go hc hi fun tk => ?_) he) hint
  refine getM_list (s := { s with toks := tk }) hl PySem.F.slot_list_remove PySem.F.type_list_remove ?_
  refine callWith_method1 (Calls.spliced_cons (rd_name (s := { s with toks := tk }) O S hc (args_nil ?_)))
  refine call_remove (s := { s with toks := tk }) (j := j) hl hs (by rw [List.getElem?_map, hj]; rfl) (fun q hq e' => ?_) (by rw [List.length_map]; exact hz) fun h' n' hl' hsb => ?_
  · rw [List.getElem?_map] at e'
    cases e2 : (AA (mk i))[q]? with
    | none => rw [e2] at e'; cases e'
    | some i' =>
      rw [e2] at e'
      exact hno q hq (by rw [e2, letter_inj (Option.some.inj e')])
  · have hs' := strs_eraseIdx hs j
    rw [eraseIdx_map'] at hs'
    exact h h' _ _ (S.set (sideAt_lt _) hl' hsb) (Go.setSide hs') (by rw [upd_ne (by cases mk i <;> decide)]; exact hc)
end

end
section
set_option maxRecDepth 100000

/-- what is asked of the class of the fields -/
structure FieldK (K : Frag) : Prop where
  sa : findIn K (.ref 38) "__setattr__" = some (some (.builtin "object.__setattr__"))
  ga : findIn K (.ref 38) "__getattribute__" = some (some (.builtin "object.__getattribute__"))
  po : plainOver K 38 = true
  ti : takerIn K 38 "init" = some none
  tk : takerIn K 38 "kw_only" = some none
  hd : hasDictIn K 38 = true
  fn : findIn K (.ref 38) "name" = some none
  fi : findIn K (.ref 38) "init" = some none
  fk : findIn K (.ref 38) "kw_only" = some none

section
variable {prog : Program} {w : World} {A : Around} {E : Value → Shared → Prop} {s : Shared} {env : Env} {h₀ : Heap} {L : Addr} {ad : Nat → Addr} {m : Str → Option Value} {φ : Nat → Obj} {G : List (Addr × Obj)}
  {rowp ordp : List Nat} {ini kwo mk : Nat → Bool} {AA : Bool → List Nat} {told due : List Value} {v : Value} {i : Nat} {t : Tok} {K : Frag}

/-- an attribute of a field whose dict lies at d -/
theorem get_fld {one d : Addr} {bi bk ex : Bool} {t1 t2 t3 tn : Tok} {Q : Value → Shared → Prop} (FK : FieldK K) (X : K.In s.heap) (h1 : s.heap.get? one = some (instObj 38 d)) (h2 : s.heap.get? d = some (fieldDict w.params i bi bk t1 t2 t3 tn)) :
    (Q (.str (letter i) tn) { s with toks := s.toks + 1 } → wpAny (model prog w) A (getAttr (.ref one) "name" ex) Q E s) ∧
    (Q (.bool bi) { s with toks := s.toks + 1 } → wpAny (model prog w) A (getAttr (.ref one) "init" ex) Q E s) ∧
    (Q (.bool bk) { s with toks := s.toks + 1 } → wpAny (model prog w) A (getAttr (.ref one) "kw_only" ex) Q E s) := by
  have I : InstAt s.heap one (instObj 38 d) 38 (some (fieldDict w.params i bi bk t1 t2 t3 tn)) := ⟨h1, rfl, rfl, h2⟩
  refine ⟨fun h => ?_, fun h => ?_, fun h => ?_⟩
  · exact get_value X I FK.ga (findObj_own (attr := none) FK.hd FK.fn rfl (by rw [lookIn_dict]; rfl)) rfl h
  · exact get_value X I FK.ga (findObj_own (attr := none) FK.hd FK.fi rfl (by rw [lookIn_dict]; rfl)) rfl h
  · exact get_value X I FK.ga (findObj_own (attr := none) FK.hd FK.fk rfl (by rw [lookIn_dict]; rfl)) rfl h

theorem St.ofHead (S : St h₀ L ad s.heap m φ G) {k : Nat} (hk : k < 27) {h' : Heap} {o' : Obj} (F' : Fr h₀ L h' m) (N' : News h₀ L h' ((ad k, o') :: (led ad φ G).filter (fun p => p.1 != ad k))) : St h₀ L ad h' m (upd φ k o') G where
  fr := F'
  news := fun p hp => by
    rcases mem_led.mp hp with ⟨i, hi, rfl⟩ | hp
    · by_cases e : i = k
      · subst e; rw [upd_same]; exact N' _ (.head _)
      · rw [upd_ne e]
        exact N' _ (.tail _ (List.mem_filter.mpr ⟨mem_led.mpr (.inl ⟨i, hi, rfl⟩), by simp only [bne_iff_ne, ne_eq]; exact fun q => e (S.inj _ _ hi hk q)⟩))
    · exact N' _ (.tail _ (List.mem_filter.mpr ⟨mem_led.mpr (.inr hp), by simp only [bne_iff_ne, ne_eq]; exact S.off p hp k hk⟩))
  inj := S.inj
  off := S.off

theorem St.toHead (S : St h₀ L ad s.heap m φ G) {k : Nat} (hk : k < 27) : News h₀ L s.heap ((ad k, φ k) :: (led ad φ G).filter (fun p => p.1 != ad k)) := fun p hp => by
  rcases List.mem_cons.mp hp with rfl | hp
  · exact S.news _ (mem_led.mpr (.inl ⟨k, hk, rfl⟩))
  · exact S.news p (List.mem_filter.mp hp).1

theorem set_init {b : Bool} {Q : Unit → Shared → Prop} (FK : FieldK K) (X : K.In h₀) (S : St h₀ L ad s.heap m φ G) (Go : Good prog w ad φ rowp ordp ini kwo mk AA told due) (hi : i < 8)
    (h : ∀ h' tk φ', St h₀ L ad h' m φ' G → Good prog w ad φ' rowp ordp (fun j => if j = i then b else ini j) kwo mk AA told due → φ' 1 = φ 1 → Q () { s with heap := h', toks := tk }) :
    wpAny (model prog w) A (setAttr (.ref (ad (11 + i))) "init" (.bool b)) Q E s := by
  obtain ⟨t1, t2, t3, tn, e⟩ := Go.dct i hi
  have h1 := S.at (i := 11 + i) (by omega)
  have h2 := S.at (i := 19 + i) (by omega)
  rw [Go.one i hi] at h1
  rw [e] at h2
  have I : InstAt s.heap (ad (11 + i)) (instObj 38 (ad (19 + i))) 38 (some (fieldDict w.params i (ini i) (kwo i) t1 t2 t3 tn)) := ⟨h1, rfl, rfl, h2⟩
  have N := S.toHead (k := 19 + i) (by omega)
  rw [e] at N
  refine set_dict S.fr X N I rfl FK.sa FK.po FK.ti FK.hd rfl rfl (Upd.head fun p hp => by have := (List.mem_filter.mp hp).2; simpa using this) (show (3 : Nat) ≤ 1000 by decide) fun h' F' N' => ?_
  have S' := S.ofHead (k := 19 + i) (by omega) F' N'
  have Go' := Go.setDct (j := i) (ini' := fun j => if j = i then b else ini j) (kwo' := kwo) (t1 := t1) (t2 := t2) (t3 := t3) (tn := tn) (fun j hj => if_neg hj) (fun _ _ => rfl)
  rw [if_pos rfl] at Go'
  exact h h' _ _ S' Go' (upd_ne (by omega))

theorem set_kw {b : Bool} {Q : Unit → Shared → Prop} (FK : FieldK K) (X : K.In h₀) (S : St h₀ L ad s.heap m φ G) (Go : Good prog w ad φ rowp ordp ini kwo mk AA told due) (hi : i < 8)
    (h : ∀ h' tk φ', St h₀ L ad h' m φ' G → Good prog w ad φ' rowp ordp ini (fun j => if j = i then b else kwo j) mk AA told due → φ' 1 = φ 1 → Q () { s with heap := h', toks := tk }) :
    wpAny (model prog w) A (setAttr (.ref (ad (11 + i))) "kw_only" (.bool b)) Q E s := by
  obtain ⟨t1, t2, t3, tn, e⟩ := Go.dct i hi
  have h1 := S.at (i := 11 + i) (by omega)
  have h2 := S.at (i := 19 + i) (by omega)
  rw [Go.one i hi] at h1
  rw [e] at h2
  have I : InstAt s.heap (ad (11 + i)) (instObj 38 (ad (19 + i))) 38 (some (fieldDict w.params i (ini i) (kwo i) t1 t2 t3 tn)) := ⟨h1, rfl, rfl, h2⟩
  have N := S.toHead (k := 19 + i) (by omega)
  rw [e] at N
  refine set_dict S.fr X N I rfl FK.sa FK.po FK.tk FK.hd rfl rfl (Upd.head fun p hp => by have := (List.mem_filter.mp hp).2; simpa using this) (show (3 : Nat) ≤ 1000 by decide) fun h' F' N' => ?_
  have S' := S.ofHead (k := 19 + i) (by omega) F' N'
  have Go' := Go.setDct (j := i) (ini' := ini) (kwo' := fun j => if j = i then b else kwo j) (t1 := t1) (t2 := t2) (t3 := t3) (tn := tn) (fun _ _ => rfl) (fun j hj => if_neg hj)
  rw [if_pos rfl] at Go'
  exact h h' _ _ S' Go' (upd_ne (by omega))

/-- row[place] -/
theorem rd_row {p1 p2 p3 : Pos} {Q : Value → Shared → Prop} {j : Nat} (O : EO env L (ad 1) (ad 2)) (S : St h₀ L ad s.heap m φ G) (M : Mok ad m) (Go : Good prog w ad φ rowp ordp ini kwo mk AA told due) (hp : m "place" = some (.int j t)) (hj : rowp[j]? = some i) (hz : j < 1000)
    (h : Q (.ref (ad (11 + i))) s) : wpAny (model prog w) A (eval (.Subscript (.Name "row" p1) (.Name "place" p2) p3) env) Q E s := by
  obtain ⟨n, e⟩ := Go.row
  have hl := S.at (i := 3) (by decide)
  rw [e] at hl
  refine Subscript_ (rd_loc O S M.row (rd_loc O S hp ?_))
  exact item_list (items := (rowp.map fun i => Value.ref (ad (11 + i))).toArray) ⟨_, hl, rfl, n, rfl⟩ (by omega) (by omega) (by simp [hj]) h (by with_unfolding_all rfl) (by intro _; with_unfolding_all rfl)

/-- row[place].init = not row[place].init -/
theorem s_init {p1 p2 p3 p4 p5 p6 p7 p8 p9 p10 : Pos} {Q : Flow → Shared → Prop} {j : Nat} (FK : FieldK K) (X : K.In h₀) (O : EO env L (ad 1) (ad 2)) (S : St h₀ L ad s.heap m φ G) (M : Mok ad m) (Go : Good prog w ad φ rowp ordp ini kwo mk AA told due) (hp : m "place" = some (.int j t)) (hj : rowp[j]? = some i) (hz : j < 1000) (hi : i < 8)
    (h : ∀ h' tk φ', St h₀ L ad h' m φ' G → Good prog w ad φ' rowp ordp (flip1 ini i) kwo mk AA told due → φ' 1 = φ 1 → Q .next { s with heap := h', toks := tk }) :
    wpAny (model prog w) A (exec (.Assign [.Attribute (.Subscript (.Name "row" p1) (.Name "place" p2) p3) "init" p4] (.UnaryOp .Not (.Attribute (.Subscript (.Name "row" p5) (.Name "place" p6) p7) "init" p8) p9) p10) env) Q E s := by
  refine plainObj_wpAny_Assign_Attribute (UnaryOp_ (Attribute_any_ (rd_row O S M Go hp hj hz ?_)))
  obtain ⟨t1, t2, t3, tn, e⟩ := Go.dct i hi
  have h1 := S.at (i := 11 + i) (by omega)
  have h2 := S.at (i := 19 + i) (by omega)
  rw [Go.one i hi] at h1
  rw [e] at h2
  refine (get_fld FK (X.keeps S.fr.keep) h1 h2).2.1 ?_
  refine not_of (wpAny_truthy_bool ?_)
  refine rd_row (s := { s with toks := s.toks + 1 }) O S M Go hp hj hz ?_
  exact set_init (s := { s with toks := s.toks + 1 }) FK X S Go hi fun h' tk φ' S' Go' e' => h h' tk φ' S' Go' e'

/-- row[place].kw_only = not row[place].kw_only -/
theorem s_kw {p1 p2 p3 p4 p5 p6 p7 p8 p9 p10 : Pos} {Q : Flow → Shared → Prop} {j : Nat} (FK : FieldK K) (X : K.In h₀) (O : EO env L (ad 1) (ad 2)) (S : St h₀ L ad s.heap m φ G) (M : Mok ad m) (Go : Good prog w ad φ rowp ordp ini kwo mk AA told due) (hp : m "place" = some (.int j t)) (hj : rowp[j]? = some i) (hz : j < 1000) (hi : i < 8)
    (h : ∀ h' tk φ', St h₀ L ad h' m φ' G → Good prog w ad φ' rowp ordp ini (flip1 kwo i) mk AA told due → φ' 1 = φ 1 → Q .next { s with heap := h', toks := tk }) :
    wpAny (model prog w) A (exec (.Assign [.Attribute (.Subscript (.Name "row" p1) (.Name "place" p2) p3) "kw_only" p4] (.UnaryOp .Not (.Attribute (.Subscript (.Name "row" p5) (.Name "place" p6) p7) "kw_only" p8) p9) p10) env) Q E s := by
  refine plainObj_wpAny_Assign_Attribute (UnaryOp_ (Attribute_any_ (rd_row O S M Go hp hj hz ?_)))
  obtain ⟨t1, t2, t3, tn, e⟩ := Go.dct i hi
  have h1 := S.at (i := 11 + i) (by omega)
  have h2 := S.at (i := 19 + i) (by omega)
  rw [Go.one i hi] at h1
  rw [e] at h2
  refine (get_fld FK (X.keeps S.fr.keep) h1 h2).2.2 ?_
  refine not_of (wpAny_truthy_bool ?_)
  refine rd_row (s := { s with toks := s.toks + 1 }) O S M Go hp hj hz ?_
  exact set_kw (s := { s with toks := s.toks + 1 }) FK X S Go hi fun h' tk φ' S' Go' e' => h h' tk φ' S' Go' e'

/-- within = not within -/
theorem s_not {p1 p2 p3 p4 : Pos} {Q : Flow → Shared → Prop} {b : Bool} (O : EO env L (ad 1) (ad 2)) (S : St h₀ L ad s.heap m φ G) (hb : m "within" = some (.bool b))
    (h : ∀ h' tk, St h₀ L ad h' (fun z => if z = Str.ofString "within" then some (.bool (!b)) else m z) φ G → Q .next { s with heap := h', toks := tk }) :
    wpAny (model prog w) A (exec (.Assign [.Name "within" p1] (.UnaryOp .Not (.Name "within" p2) p3) p4) env) Q E s := by
  refine wpAny_Assign_Name (UnaryOp_ (rd_loc O S hb (not_of (wpAny_truthy_bool ?_))))
  exact st_loc (y := Str.ofString "within") O S fun h' S' => h h' _ S'

/-- marks[name] = 1 - marks[name] -/
theorem s_mark {p1 p2 p3 p4 p5 p6 p7 p8 p9 : Pos} {k1 : Nat} {Q : Flow → Shared → Prop} (O : EO env L (ad 1) (ad 2)) (S : St h₀ L ad s.heap m φ G) (M : Mok ad m) (Go : Good prog w ad φ rowp ordp ini kwo mk AA told due) (hc : (φ 1).data = .cell (some (.str (letter i) t))) (hi : i < 8)
    (h : ∀ h' tk φ', St h₀ L ad h' m φ' G → Good prog w ad φ' rowp ordp ini kwo (flip1 mk i) AA told due → φ' 1 = φ 1 → Q .next { s with heap := h', toks := tk }) :
    wpAny (model prog w) A (exec (.Assign [.Subscript (.Name "marks" p1) (.Name "name" p2) p3] (.BinOp (.Constant (.int 1) k1 p4) .Sub (.Subscript (.Name "marks" p5) (.Name "name" p6) p7) p8) p9) env) Q E s := by
  refine wpAny_Assign_Subscript (wpAny_BinOp (wpAny_Constant_int (rd_mark (s := { s with toks := s.toks + 1 }) O S M Go hc hi fun t' tk => ?_)))
  refine sub_int ?_
  refine rd_loc (s := { s with toks := tk + 1 }) O S M.marks (rd_name (s := { s with toks := tk + 1 }) O S hc ?_)
  obtain ⟨kvs, hd, hlen, hv⟩ := Go.mks
  have hD : s.heap.DictOf (strKind prog w) (ad 5) kvs := Heap.dictOf_iff.mpr ⟨_, S.at (by decide), hd⟩
  refine wpAny_setItem_pairs (s := { s with toks := tk + 1 }) (knd := strKind prog w) (k := letter i) (strKind_is prog w _ t) hD (fun h'' hm'' hs'' => ?_) (Nat.le_trans hlen (by decide))
  obtain ⟨o'', ho'', hid''⟩ := Heap.dictOf_iff.mp hm''
  obtain ⟨t0, hv0⟩ := hv i hi
  refine h h'' _ _ (S.set (by decide) ho'' hs'') (Go.setMk hid'' (by rw [stored_len hv0]; exact hlen) fun j hj => ?_) (upd_ne (by decide))
  rw [valueAt_stored]
  by_cases e : j = i
  · subst e
    rw [if_pos rfl]
    refine ⟨tk, ?_⟩
    unfold flip1; rw [if_pos rfl]
    cases mk j <;> rfl
  · rw [if_neg (fun q => e (letter_inj q))]
    unfold flip1; rw [if_neg e]
    exact hv j hj
end

end
section
set_option maxRecDepth 100000

section
variable {prog : Program} {w : World} {A : Around} {E : Value → Shared → Prop} {s : Shared} {env : Env} {h₀ : Heap} {L : Addr} {ad : Nat → Addr} {m : Str → Option Value} {φ : Nat → Obj} {G : List (Addr × Obj)}
  {rowp ordp : List Nat} {ini kwo mk : Nat → Bool} {AA : Bool → List Nat} {told due : List Value} {v : Value} {i : Nat} {t : Tok} {K : Frag}

/-- row.append(row.pop(place)) -/
theorem s_rowLast {p1 p2 p3 p4 p5 p6 p7 p8 : Pos} {Q : Flow → Shared → Prop} {j : Nat} (O : EO env L (ad 1) (ad 2)) (S : St h₀ L ad s.heap m φ G) (M : Mok ad m) (Go : Good prog w ad φ rowp ordp ini kwo mk AA told due) (hp : m "place" = some (.int j t)) (hj : rowp[j]? = some i) (hz : rowp.length ≤ 900)
    (h : ∀ h' tk φ', St h₀ L ad h' m φ' G → Good prog w ad φ' (rowp.eraseIdx j ++ [i]) ordp ini kwo mk AA told due → φ' 1 = φ 1 → Q .next { s with heap := h', toks := tk })
    (hint : interactive env = false)
    (he1 : ∃ pl, eval (.Call (.Attribute (.Name "row" p1) "append" p2) [.Call (.Attribute (.Name "row" p3) "pop" p4) [.Name "place" p5] [] p6] [] p7) env = (do
      let ov ← eval (.Name "row" p1) env
      standAt p2.atName
      let (f, first) ← holding [ov] (getMethod ov "append" pl)
      callWith p7 f first (backTo p7 (starEach [.Call (.Attribute (.Name "row" p3) "pop" p4) [.Name "place" p5] [] p6] env)) []) := by exact ⟨_, rfl⟩)
    (he2 : ∃ pl, eval (.Call (.Attribute (.Name "row" p3) "pop" p4) [.Name "place" p5] [] p6) env = (do
      let ov ← eval (.Name "row" p3) env
      standAt p4.atName
      let (f, first) ← holding [ov] (getMethod ov "pop" pl)
      callWith p6 f first (backTo p6 (starEach [.Name "place" p5] env)) []) := by exact ⟨_, rfl⟩) :
    wpAny (model prog w) A (exec (.Expr (.Call (.Attribute (.Name "row" p1) "append" p2) [.Call (.Attribute (.Name "row" p3) "pop" p4) [.Name "place" p5] [] p6] [] p7) p8) env) Q E s := by
  obtain ⟨n, e⟩ := Go.row
  have hl := S.at (i := 3) (by decide)
  rw [e] at hl
  obtain ⟨pl1, he1⟩ := he1
  obtain ⟨pl2, he2⟩ := he2
  refine wpAny_Expr (MethodCall_ (pl := pl1) (rd_loc O S M.row ?_) he1) hint
  refine getM_list hl PySem.F.slot_list_append PySem.F.type_list_append ?_
  refine callWith_method1 (Calls.spliced_cons (MethodCall_ (pl := pl2) (rd_loc O S M.row ?_) he2))
  refine getM_list hl PySem.F.slot_list_pop PySem.F.type_list_pop ?_
  refine callWith_method1 (Calls.spliced_cons (rd_loc O S hp (args_nil ?_)))
  refine call_pop (j := j) (v := .ref (ad (11 + i))) rfl hl (by simp [hj]) (by rw [List.length_map]; omega) fun h1 n1 hl1 hs1 => args_nil ?_
  have S1 := S.set (k := 3) (by decide) hl1 hs1
  rw [eraseIdx_map'] at hl1 S1
  have hlen : (rowp.eraseIdx j).length ≤ rowp.length := List.length_eraseIdx_le ..
  refine call_append (s := { s with heap := h1 }) hl1 (by rw [List.length_map]; omega) fun h2 n2 hl2 hs2 => ?_
  have S2 := S1.set (k := 3) (by decide) hl2 hs2
  have e3 : (rowp.eraseIdx j).map (fun i => Value.ref (ad (11 + i))) ++ [Value.ref (ad (11 + i))] = (rowp.eraseIdx j ++ [i]).map (fun i => Value.ref (ad (11 + i))) := by simp
  rw [e3] at S2
  exact h h2 _ _ S2 (Go.setRow.setRow) rfl

/-- order.append(order.pop(place)) -/
theorem s_ordLast {p1 p2 p3 p4 p5 p6 p7 p8 : Pos} {Q : Flow → Shared → Prop} {j : Nat} (O : EO env L (ad 1) (ad 2)) (S : St h₀ L ad s.heap m φ G) (Go : Good prog w ad φ rowp ordp ini kwo mk AA told due) (hp : m "place" = some (.int j t)) (hj : ordp[j]? = some i) (hz : ordp.length ≤ 900)
    (h : ∀ h' tk φ', St h₀ L ad h' m φ' G → Good prog w ad φ' rowp (ordp.eraseIdx j ++ [i]) ini kwo mk AA told due → φ' 1 = φ 1 → Q .next { s with heap := h', toks := tk })
    (hint : interactive env = false)
    (he1 : ∃ pl, eval (.Call (.Attribute (.Name "order" p1) "append" p2) [.Call (.Attribute (.Name "order" p3) "pop" p4) [.Name "place" p5] [] p6] [] p7) env = (do
      let ov ← eval (.Name "order" p1) env
      standAt p2.atName
      let (f, first) ← holding [ov] (getMethod ov "append" pl)
      callWith p7 f first (backTo p7 (starEach [.Call (.Attribute (.Name "order" p3) "pop" p4) [.Name "place" p5] [] p6] env)) []) := by exact ⟨_, rfl⟩)
    (he2 : ∃ pl, eval (.Call (.Attribute (.Name "order" p3) "pop" p4) [.Name "place" p5] [] p6) env = (do
      let ov ← eval (.Name "order" p3) env
      standAt p4.atName
      let (f, first) ← holding [ov] (getMethod ov "pop" pl)
      callWith p6 f first (backTo p6 (starEach [.Name "place" p5] env)) []) := by exact ⟨_, rfl⟩) :
    wpAny (model prog w) A (exec (.Expr (.Call (.Attribute (.Name "order" p1) "append" p2) [.Call (.Attribute (.Name "order" p3) "pop" p4) [.Name "place" p5] [] p6] [] p7) p8) env) Q E s := by
  obtain ⟨n, vs, e, hs⟩ := Go.ord
  have hl := S.at (i := 4) (by decide)
  rw [e] at hl
  obtain ⟨pl1, he1⟩ := he1
  obtain ⟨pl2, he2⟩ := he2
  have hvl : vs.length = ordp.length := by rw [strs_len hs, List.length_map]
  obtain ⟨tj, hvj⟩ := hs.at (j := j) (y := letter i) (by rw [List.getElem?_map, hj]; rfl)
  refine wpAny_Expr (MethodCall_ (pl := pl1) (rd_order O S Go.co ?_) he1) hint
  refine getM_list hl PySem.F.slot_list_append PySem.F.type_list_append ?_
  refine callWith_method1 (Calls.spliced_cons (MethodCall_ (pl := pl2) (rd_order O S Go.co ?_) he2))
  refine getM_list hl PySem.F.slot_list_pop PySem.F.type_list_pop ?_
  refine callWith_method1 (Calls.spliced_cons (rd_loc O S hp (args_nil ?_)))
  refine call_pop (j := j) rfl hl hvj (by omega) fun h1 n1 hl1 hs1 => args_nil ?_
  have S1 := S.set (k := 4) (by decide) hl1 hs1
  have hlen : (vs.eraseIdx j).length ≤ vs.length := List.length_eraseIdx_le ..
  refine call_append (s := { s with heap := h1 }) hl1 (by omega) fun h2 n2 hl2 hs2 => ?_
  have S2 := S1.set (k := 4) (by decide) hl2 hs2
  have hs' := strs_eraseIdx hs j
  rw [eraseIdx_map'] at hs'
  have hs3 : StrsAre (vs.eraseIdx j ++ [.str (letter i) tj]) ((ordp.eraseIdx j ++ [i]).map letter) := by
    rw [List.map_append]; exact hs'.append' (.cons _ _ .nil)
  exact h h2 _ _ S2 ((Go.setOrd hs').setOrd hs3) rfl
end

end
section
set_option maxRecDepth 100000

theorem idxOf_first {l : List Nat} {i : Nat} (h : i ∈ l) : l[l.idxOf i]? = some i ∧ ∀ q, q < l.idxOf i → l[q]? ≠ some i := by
  refine ⟨?_, fun q hq e => ?_⟩
  · rw [List.getElem?_eq_getElem (List.idxOf_lt_length_of_mem h), List.getElem_idxOf]
  · induction l generalizing q with
    | nil => simp at e
    | cons a r ih =>
      by_cases ea : a = i
      · subst ea; simp at hq
      · have hir : i ∈ r := by rcases List.mem_cons.mp h with x | x; exact absurd x.symm ea; exact x
        rw [List.idxOf_cons] at hq
        have hb : (a == i) = false := by simpa using ea
        rw [hb] at hq
        cases q with
        | zero => simp at e; exact ea e
        | succ q => exact ih hir q (by simpa using hq) (by simpa using e)

section
variable {prog : Program} {w : World} {A : Around} {E : Value → Shared → Prop} {s : Shared} {env : Env} {h₀ : Heap} {L : Addr} {ad : Nat → Addr} {m : Str → Option Value} {φ : Nat → Obj} {G : List (Addr × Obj)}
  {rowp ordp : List Nat} {ini kwo mk : Nat → Bool} {AA : Bool → List Nat} {told due : List Value} {v : Value} {i : Nat} {t : Tok} {K : Frag}

/-- order.index(y), in the comprehension's block -/
theorem c_index {cenv : Env} {p1 p2 p3 : Pos} {ex : Expr} {Q : Value → Shared → Prop} {n : Nat} {vs : List Value} {o2 : Obj} {j : Nat} {tj : Tok} (hk : cenv.scope.kind = .function) (ko : cenv.kindOf "order" = some .cell) (co : cenv.cells.lookup ("order" : Str) = some (ad 2))
    (h2 : s.heap.get? (ad 2) = some o2) (hd2 : o2.data = .cell (some (.ref (ad 4)))) (h4 : s.heap.get? (ad 4) = some (listOf vs.toArray n)) (hs : StrsAre vs (ordp.map letter)) (hz : ordp.length ≤ 1000) (hj : j ∈ ordp)
    (hy : ∀ Q' : Value → Shared → Prop, Q' (.str (letter j) tj) s → wpAny (model prog w) A (eval ex cenv) Q' E s)
    (h : ∀ t' tk, Q (.int (ordp.idxOf j : Nat) t') { s with toks := tk })
    (he : ∃ pl, eval (.Call (.Attribute (.Name "order" p1) "index" p2) [ex] [] p3) cenv = (do
      let ov ← eval (.Name "order" p1) cenv
      standAt p2.atName
      let (f, first) ← holding [ov] (getMethod ov "index" pl)
      callWith p3 f first (backTo p3 (starEach [ex] cenv)) []))
    (hst : starEach [ex] cenv = (false, eval ex cenv) :: starEach [] cenv) :
    wpAny (model prog w) A (eval (.Call (.Attribute (.Name "order" p1) "index" p2) [ex] [] p3) cenv) Q E s := by
  obtain ⟨pl, he⟩ := he
  obtain ⟨f1, f2⟩ := idxOf_first hj
  refine MethodCall_ (pl := pl) (wpAny_Name (wpAny_loadName_cell hk ko co ⟨_, h2, hd2⟩ ?_) (by decide)) he
  refine getM_list h4 PySem.F.slot_list_index PySem.F.type_list_index ?_
  refine callWith_method1 ?_ hst
  rw [hst]
  refine Calls.spliced_cons (hy _ (args_nil ?_))
  refine call_index (j := ordp.idxOf j) h4 hs (by rw [List.getElem?_map, f1]; rfl) (fun q hq e' => ?_) (by rw [List.length_map]; exact hz) h
  rw [List.getElem?_map] at e'
  cases e2 : ordp[q]? with
  | none => rw [e2] at e'; cases e'
  | some i' =>
    rw [e2] at e'
    exact f2 q hq (by rw [e2, letter_inj (Option.some.inj e')])

abbrev aheadTest (q1 q2 q3 q4 r1 r2 r3 r4 q5 : Pos) : Expr :=
  .Compare (.Call (.Attribute (.Name "order" q1) "index" q2) [.Name "other" q3] [] q4) [.Lt] [.Call (.Attribute (.Name "order" r1) "index" r2) [.Name "name" r3] [] r4] q5

/-- ahead = [other for other in sides[marks[name]] if order.index(other) < order.index(name)] -/
theorem s_ahead {py pe px p0 p1 p2 p3 p4 q1 q2 q3 q4 r1 r2 r3 r4 q5 pos spos : Pos} {sc : Scope} {Q : Flow → Shared → Prop} (O : EO env L (ad 1) (ad 2)) (S : St h₀ L ad s.heap m φ G) (M : Mok ad m) (Go : Good prog w ad φ rowp ordp ini kwo mk AA told due)
    (hc : (φ 1).data = .cell (some (.str (letter i) t))) (hi : i < 8) (hio : i ∈ ordp) (hall : ∀ j ∈ AA (mk i), j ∈ ordp) (hz : ordp.length ≤ 1000) (hza : (AA (mk i)).length ≤ 1000) (hA : A.handled = none)
    (hsw : swapsWith (.ListComp (.Name "other" pe) [⟨.Name "other" px, .Subscript (.Name "sides" p0) (.Subscript (.Name "marks" p1) (.Name "name" p2) p3) p4, [aheadTest q1 q2 q3 q4 r1 r2 r3 r4 q5], 0⟩] sc pos) (some (.Name "ahead" py)) spos.line env = pure true)
    (hclos : closureFor sc env = pure [(Str.ofString "order", ad 2), (Str.ofString "name", ad 1)]) (hcell : ∀ y ∈ sc.names, y.2 ≠ .cell) (hkind : sc.kind = .function) (hnames : ∀ y ∈ sc.names, y.2 = .local → sc.names.lookup y.1 = some .local) (hx : sc.names.lookup ("other" : Str) = some .local)
    (ck : ∀ C, (compEnvC sc [(Str.ofString "order", ad 2), (Str.ofString "name", ad 1)] C env).kindOf "order" = some .cell ∧ (compEnvC sc [(Str.ofString "order", ad 2), (Str.ofString "name", ad 1)] C env).kindOf "name" = some .cell ∧ (compEnvC sc [(Str.ofString "order", ad 2), (Str.ofString "name", ad 1)] C env).kindOf "other" = some .local)
    (he1 : ∀ C, ∃ pl, eval (.Call (.Attribute (.Name "order" q1) "index" q2) [.Name "other" q3] [] q4) (compEnvC sc [(Str.ofString "order", ad 2), (Str.ofString "name", ad 1)] C env) = (do
      let ov ← eval (.Name "order" q1) (compEnvC sc [(Str.ofString "order", ad 2), (Str.ofString "name", ad 1)] C env)
      standAt q2.atName
      let (f, first) ← holding [ov] (getMethod ov "index" pl)
      callWith q4 f first (backTo q4 (starEach [.Name "other" q3] (compEnvC sc [(Str.ofString "order", ad 2), (Str.ofString "name", ad 1)] C env))) []) := by intro _; exact ⟨_, rfl⟩)
    (he2 : ∀ C, ∃ pl, eval (.Call (.Attribute (.Name "order" r1) "index" r2) [.Name "name" r3] [] r4) (compEnvC sc [(Str.ofString "order", ad 2), (Str.ofString "name", ad 1)] C env) = (do
      let ov ← eval (.Name "order" r1) (compEnvC sc [(Str.ofString "order", ad 2), (Str.ofString "name", ad 1)] C env)
      standAt r2.atName
      let (f, first) ← holding [ov] (getMethod ov "index" pl)
      callWith r4 f first (backTo r4 (starEach [.Name "name" r3] (compEnvC sc [(Str.ofString "order", ad 2), (Str.ofString "name", ad 1)] C env))) []) := by intro _; exact ⟨_, rfl⟩)
    (h : ∀ h' tk D k (ys : List Value), ys.length = ((AA (mk i)).filter fun j => decide (ordp.idxOf j < ordp.idxOf i)).length → St h₀ L ad h' (fun z => if z = Str.ofString "ahead" then some (.ref D) else m z) φ ((D, listOf ys.toArray k) :: G) → Q .next { s with heap := h', toks := tk }) :
    wpAny (model prog w) A (exec (.Assign [.Name "ahead" py] (.ListComp (.Name "other" pe) [⟨.Name "other" px, .Subscript (.Name "sides" p0) (.Subscript (.Name "marks" p1) (.Name "name" p2) p3) p4, [aheadTest q1 q2 q3 q4 r1 r2 r3 r4 q5], 0⟩] sc pos) spos) env) Q E s := by
  obtain ⟨n, vs, e, hs⟩ := Go.sid (mk i)
  obtain ⟨n4, vs4, e4, hs4⟩ := Go.ord
  have hF : Fr h₀ env.locals s.heap m := by rw [O.loc]; exact S.fr
  have hlen : vs.length = (AA (mk i)).length := by rw [strs_len hs, List.length_map]
  refine assign_comp_led (cl := [(Str.ofString "order", ad 2), (Str.ofString "name", ad 1)]) (n := vs.length) (Pi := fun q v => vs[q]? = some v) hF
    (fun q ys fam g => g = s.gens ∧ fam = (led ad φ G).filter (fun p => p.1 != ad (sideAt (mk i))) ∧ ys.length = (((AA (mk i)).take q).filter fun j => decide (ordp.idxOf j < ordp.idxOf i)).length) [(ad (sideAt (mk i)), φ (sideAt (mk i)))]
    hsw hA hclos hcell hkind hnames hx (O.kl _ (by decide)) (by rw [O.knd]; rfl) ?src ?sz ?nz ?turn ?Q
  case sz =>
    rintro q ys fam g ⟨_, _, hy⟩
    rw [hy]
    exact Nat.le_trans (List.length_filter_le _ _) (by rw [List.length_take]; exact Nat.min_le_left _ _)
  case nz => rw [hlen]; exact Nat.le_trans hza (by decide)
  case src =>
    refine rd_own O S M Go hc hi fun tk => ?_
    have hl := S.at (i := sideAt (mk i)) (sideAt_lt _)
    have N := S.toHead (k := sideAt (mk i)) (sideAt_lt _)
    refine ⟨s.heap, _, s.heap, _, s.gens, (led ad φ G).filter (fun p => p.1 != ad (sideAt (mk i))), rfl, by
        have := SrcP.list (prog := prog) (w := w) (l := ad (sideAt (mk i))) (items := vs.toArray) (h := s.heap) ⟨_, hl.trans (by rw [e]), rfl, n, rfl⟩
        simpa using this, fun _ _ e => e, fun b eb => .inr ⟨φ (sideAt (mk i)), by cases eb; exact .head _⟩, hF, ?_, ?_, rfl, rfl, by simp⟩
    · rw [O.loc]
      intro p hp
      rcases List.mem_append.mp hp with hp | hp
      · exact N p (.tail _ hp)
      · rw [List.mem_singleton.mp hp]; exact N _ (.head _)
    · intro p hp q hq
      rw [List.mem_singleton.mp hp]
      have := (List.mem_filter.mp hq).2
      simp only [bne_iff_ne, ne_eq] at this
      exact fun e => this e.symm
  case turn =>
    rintro C q v h' tk g m₃ fam ys own hin hv ⟨rfl, rfl, hyl⟩ hns hm hCL hC F' N' hoff
    have get : ∀ k, k < 7 → h'.get? (ad k) = some (φ k) := fun k hk => (N' (ad k, φ k) (List.mem_append_left _ (List.mem_filter.mpr ⟨mem_led.mpr (.inl ⟨k, by omega, rfl⟩), by
      simp only [bne_iff_ne, ne_eq]
      intro q
      have := S.inj _ _ (by omega) (sideAt_lt _) q
      cases hmk : mk i <;> rw [hmk] at this <;> simp [sideAt] at this <;> omega⟩))).1
    obtain ⟨y, ty, rfl, hyq⟩ := hs.item q v hv
    rw [List.getElem?_map] at hyq
    obtain ⟨j, hjq, rfl⟩ := Option.map_eq_some_iff.mp hyq
    have hjo : j ∈ ordp := hall j (List.mem_of_getElem? hjq)
    obtain ⟨k1, k2, k3⟩ := ck C
    refine wpAny_tests_one (wpAny_isTrue_Compare1 ?_)
    have kfun : (compEnvC sc [(Str.ofString "order", ad 2), (Str.ofString "name", ad 1)] C env).scope.kind = .function := hkind
    refine c_index (ordp := ordp) (ad := ad) (j := j) (tj := ty) kfun k1 rfl (get 2 (by decide)) Go.co ((get 4 (by decide)).trans (by rw [e4])) hs4 hz hjo (fun Q' hq => name_loc hns hm hq kfun k3 (by decide)) (fun t1 tk1 => ?_) (he1 C) rfl
    refine c_index (ordp := ordp) (ad := ad) (j := i) (tj := t) kfun k1 rfl (get 2 (by decide)) Go.co ((get 4 (by decide)).trans (by rw [e4])) hs4 hz hio (fun Q' hq => wpAny_Name (wpAny_loadName_cell kfun k2 rfl ⟨_, get 1 (by decide), hc⟩ hq) (by decide)) (fun t2 tk2 => ?_) (he2 C) rfl
    refine lt_int ?_
    refine wpAny_truthy_bool ?_
    have hstep := filter_take_succ (q := fun j => decide (ordp.idxOf j < ordp.idxOf i)) hjq
    have hdec : decide (((ordp.idxOf j : Nat) : Int) < ((ordp.idxOf i : Nat) : Int)) = decide (ordp.idxOf j < ordp.idxOf i) := by simp
    rw [hdec]
    cases hd : decide (ordp.idxOf j < ordp.idxOf i) with
    | true =>
      rw [if_pos rfl]
      refine name_loc hns hm ?_ kfun k3 (by decide)
      refine ⟨h', _, s.gens, _, rfl, F', N', hoff, rfl, rfl, ?_⟩
      rw [hstep, List.length_append, hyl]; simp [hd]
    | false =>
      rw [if_neg Bool.false_ne_true]
      refine ⟨h', _, s.gens, _, rfl, F', N', hoff, rfl, rfl, ?_⟩
      rw [hstep, hyl]; simp [hd]
  case Q =>
    rintro D h' tk g ys fam k ⟨rfl, rfl, hyl⟩ F' N' hD
    rw [O.loc] at F' N'
    refine h h' _ D k ys (by rw [hyl, hlen, List.take_length]) ⟨F', fun p hp => ?_, S.inj, fun p hp q hq => ?_⟩
    · rcases mem_led.mp hp with ⟨q, hq, rfl⟩ | hp
      · by_cases ek : q = sideAt (mk i)
        · subst ek; exact N' _ (List.mem_append_right _ (.head _))
        · exact N' _ (List.mem_append_left _ (.tail _ (List.mem_filter.mpr ⟨mem_led.mpr (.inl ⟨q, hq, rfl⟩), by
            simp only [bne_iff_ne, ne_eq]; exact fun z => ek (S.inj _ _ hq (sideAt_lt _) z)⟩)))
      · rcases List.mem_cons.mp hp with rfl | hp
        · exact N' _ (List.mem_append_left _ (.head _))
        · exact N' _ (List.mem_append_left _ (.tail _ (List.mem_filter.mpr ⟨mem_led.mpr (.inr hp), by
            simp only [bne_iff_ne, ne_eq]; exact S.off p hp _ (sideAt_lt _)⟩)))
    · rcases List.mem_cons.mp hp with rfl | hp
      · by_cases ek : q = sideAt (mk i)
        · subst ek; exact (hD _ (List.mem_append_right _ (.head _))).symm
        · exact (hD (ad q, φ q) (List.mem_append_left _ (List.mem_filter.mpr ⟨mem_led.mpr (.inl ⟨q, hq, rfl⟩), by
            simp only [bne_iff_ne, ne_eq]; exact fun z => ek (S.inj _ _ hq (sideAt_lt _) z)⟩))).symm
      · exact S.off p hp q hq
end

end
section
set_option maxRecDepth 100000

section
variable {prog : Program} {w : World} {A : Around} {E : Value → Shared → Prop} {s : Shared} {env : Env} {h₀ : Heap} {L : Addr} {ad : Nat → Addr} {m : Str → Option Value} {φ : Nat → Obj} {G : List (Addr × Obj)}
  {rowp ordp : List Nat} {ini kwo mk : Nat → Bool} {AA : Bool → List Nat} {told due : List Value} {v : Value} {i : Nat} {t : Tok} {K : Frag} {p : Program} {loose : List Str} {mean : ExcName → Option Value} {mg mb : Str → Option Value}

/-- sides[marks[name]].insert(len(ahead), name) -/
theorem s_insert {p0 p1 p2 p3 p4 p5 p6 p7 p8 p9 p10 p11 : Pos} {Q : Flow → Shared → Prop} {D : Addr} {ys : List Value} {k : Nat} (X : K.In h₀) (T : Top p loose mean mg mb h₀) (el : nsIn K mainGlobals "len" = some none)
    (O : EO env L (ad 1) (ad 2)) (S : St h₀ L ad s.heap m φ G) (M : Mok ad m) (Go : Good prog w ad φ rowp ordp ini kwo mk AA told due) (hc : (φ 1).data = .cell (some (.str (letter i) t))) (hi : i < 8)
    (ha : m "ahead" = some (.ref D)) (hD : (D, listOf ys.toArray k) ∈ G) (hy : ys.length ≤ (AA (mk i)).length) (hz : (AA (mk i)).length ≤ 1000)
    (h : ∀ h' tk φ', St h₀ L ad h' m φ' G → Good prog w ad φ' rowp ordp ini kwo mk (fun k => if k = mk i then (AA (mk i)).take ys.length ++ i :: (AA (mk i)).drop ys.length else AA k) told due → (φ' 1).data = .cell (some (.str (letter i) t)) → Q .next { s with heap := h', toks := tk })
    (hint : interactive env = false)
    (he : ∃ pl, eval (.Call (.Attribute (.Subscript (.Name "sides" p0) (.Subscript (.Name "marks" p1) (.Name "name" p2) p3) p4) "insert" p5) [.Call (.Name "len" p6) [.Name "ahead" p7] [] p8, .Name "name" p9] [] p10) env = (do
      let ov ← eval (.Subscript (.Name "sides" p0) (.Subscript (.Name "marks" p1) (.Name "name" p2) p3) p4) env
      standAt p5.atName
      let (f, first) ← holding [ov] (getMethod ov "insert" pl)
      callWith p10 f first (backTo p10 (starEach [.Call (.Name "len" p6) [.Name "ahead" p7] [] p8, .Name "name" p9] env)) []) := by exact ⟨_, rfl⟩) :
    wpAny (model prog w) A (exec (.Expr (.Call (.Attribute (.Subscript (.Name "sides" p0) (.Subscript (.Name "marks" p1) (.Name "name" p2) p3) p4) "insert" p5) [.Call (.Name "len" p6) [.Name "ahead" p7] [] p8, .Name "name" p9] [] p10) p11) env) Q E s := by
  obtain ⟨n, vs, e, hs⟩ := Go.sid (mk i)
  have hl := S.at (i := sideAt (mk i)) (sideAt_lt _)
  rw [e] at hl
  have hlen : vs.length = (AA (mk i)).length := by rw [strs_len hs, List.length_map]
  obtain ⟨pl, he⟩ := he
  refine wpAny_Expr (MethodCall_ (pl := pl) (rd_own O S M Go hc hi fun tk => ?_) he) hint
  refine getM_list (s := { s with toks := tk }) hl PySem.F.slot_list_insert PySem.F.type_list_insert ?_
  refine callWith_method1 (Calls.spliced_cons (Call_ (name_blt X T S.fr.keep el PySem.boot_len (by decide) ?_ O.glb O.blt O.knd (O.kg _ (by decide)) (by decide))))
  refine PyProof.Rows.callWith_builtin1 (Calls.spliced_cons (rd_loc (s := { s with toks := tk }) O S ha (args_nil ?_)))
  refine Calls.call_len_list (s := { s with toks := tk }) (items := ys.toArray) ⟨_, S.g hD, rfl, k, rfl⟩ (by rw [List.size_toArray]; omega) ?_
  refine Calls.spliced_cons (rd_name (s := { s with toks := tk + 1 + 1 }) O S hc (args_nil ?_))
  refine call_insert (s := { s with toks := tk + 1 + 1 }) (j := ys.length) (by simp) hl (by omega) (by omega) fun h' n' hl' hsb => ?_
  have hs' : StrsAre (vs.take ys.length ++ .str (letter i) t :: vs.drop ys.length) (((AA (mk i)).take ys.length ++ i :: (AA (mk i)).drop ys.length).map letter) := by
    rw [List.map_append, List.map_cons, List.map_take, List.map_drop]
    exact (strs_take hs _).append' (.cons _ _ (strs_drop hs _))
  exact h h' _ _ (S.set (sideAt_lt _) hl' hsb) (Go.setSide hs') (by rw [upd_ne (by cases mk i <;> decide)]; exact hc)

/-- due.append([list(sides[0]), list(sides[1])]) -/
theorem s_due {p1 p2 p3 p4 p5 p6 p7 q3 q4 q5 q6 q7 p8 p9 p10 : Pos} {k0 k1 : Nat} {Q : Flow → Shared → Prop} (X : K.In h₀) (T : Top p loose mean mg mb h₀) (el : nsIn K mainGlobals "list" = some none)
    (O : EO env L (ad 1) (ad 2)) (S : St h₀ L ad s.heap m φ G) (M : Mok ad m) (Go : Good prog w ad φ rowp ordp ini kwo mk AA told due)
    (hz : ∀ k, (AA k).length ≤ 1000) (hzd : due.length ≤ 1000)
    (h : ∀ h' tk φ' u0 u1 u c0 c1 vs0 vs1, St h₀ L ad h' m φ' ((u, listOf #[.ref u0, .ref u1] 0) :: (u1, listOf vs1.toArray c1) :: (u0, listOf vs0.toArray c0) :: G) → Good prog w ad φ' rowp ordp ini kwo mk AA told (due ++ [.ref u]) →
      StrsAre vs0 ((AA false).map letter) → StrsAre vs1 ((AA true).map letter) → s.heap.objs.size ≤ u0 → s.heap.objs.size ≤ u1 → s.heap.objs.size ≤ u → φ' 1 = φ 1 → Q .next { s with heap := h', toks := tk })
    (hint : interactive env = false)
    (he : ∃ pl, eval (.Call (.Attribute (.Name "due" p1) "append" p2) [.List [.Call (.Name "list" p3) [.Subscript (.Name "sides" p4) (.Constant (.int 0) k0 p5) p6] [] p7, .Call (.Name "list" q3) [.Subscript (.Name "sides" q4) (.Constant (.int 1) k1 q5) q6] [] q7] p8] [] p9) env = (do
      let ov ← eval (.Name "due" p1) env
      standAt p2.atName
      let (f, first) ← holding [ov] (getMethod ov "append" pl)
      callWith p9 f first (backTo p9 (starEach [.List [.Call (.Name "list" p3) [.Subscript (.Name "sides" p4) (.Constant (.int 0) k0 p5) p6] [] p7, .Call (.Name "list" q3) [.Subscript (.Name "sides" q4) (.Constant (.int 1) k1 q5) q6] [] q7] p8] env)) []) := by exact ⟨_, rfl⟩) :
    wpAny (model prog w) A (exec (.Expr (.Call (.Attribute (.Name "due" p1) "append" p2) [.List [.Call (.Name "list" p3) [.Subscript (.Name "sides" p4) (.Constant (.int 0) k0 p5) p6] [] p7, .Call (.Name "list" q3) [.Subscript (.Name "sides" q4) (.Constant (.int 1) k1 q5) q6] [] q7] p8] [] p9) p10) env) Q E s := by
  obtain ⟨n0, vs0, e0, hs0⟩ := Go.sid false
  obtain ⟨n1, vs1, e1, hs1⟩ := Go.sid true
  obtain ⟨nd, ed⟩ := Go.du
  have hlen0 : vs0.length = (AA false).length := by rw [strs_len hs0, List.length_map]
  have hlen1 : vs1.length = (AA true).length := by rw [strs_len hs1, List.length_map]
  have hz0 := hz false
  have hz1 := hz true
  obtain ⟨pl, he⟩ := he
  refine wpAny_Expr (MethodCall_ (pl := pl) (rd_loc O S M.due ?_) he) hint
  refine getM_list ((S.at (i := 10) (by decide)).trans (by rw [ed])) PySem.F.slot_list_append PySem.F.type_list_append ?_
  refine callWith_method1 (Calls.spliced_cons (wpAny_List ?_))
  -- the first copy
  refine Calls.spliced_cons (Call_ (name_blt X T S.fr.keep el PyProof.Rows.boot_list (by decide) (PyProof.Rows.callWith_type1 (Calls.spliced_cons ?_)) O.glb O.blt O.knd (O.kg _ (by decide)) (by decide)))
  refine Subscript_ (rd_loc O S M.sides (wpAny_Constant_int ?_))
  refine rd_side (s := { s with toks := s.toks + 1 }) (kb := false) S Go rfl (args_nil ?_)
  refine call_list_seq (s := { s with toks := s.toks + 1 }) (ad (sideAt false)) (.inl rfl) ((S.at (sideAt_lt false)).trans (by rw [e0])) rfl rfl (fun h1 c0 hk1 hu0 => ?_) (by rw [List.size_toArray]; exact Nat.le_trans (by omega : vs0.length ≤ 1000) (by decide))
  have S1 : St h₀ L ad h1 m φ ((s.heap.objs.size, listOf vs0.toArray c0) :: G) := S.grow (P := [(s.heap.objs.size, listOf vs0.toArray c0)]) hk1 fun q hq => by
    rw [List.mem_singleton.mp hq]; exact ⟨Nat.le_refl _, hu0⟩
  have hsz1 : s.heap.objs.size < h1.objs.size := Heap.lt_size hu0
  generalize hu : s.heap.objs.size = u0 at S1 hsz1 ⊢
  -- the second copy
  refine Calls.spliced_cons (Call_ (name_blt X T S1.fr.keep el PyProof.Rows.boot_list (by decide) (PyProof.Rows.callWith_type1 (Calls.spliced_cons ?_)) O.glb O.blt O.knd (O.kg _ (by decide)) (by decide)))
  refine Subscript_ (rd_loc (s := { s with heap := h1, toks := s.toks + 1 }) O S1 M.sides (wpAny_Constant_int ?_))
  refine rd_side (s := { s with heap := h1, toks := s.toks + 1 + 1 }) (kb := true) S1 Go rfl (args_nil ?_)
  refine call_list_seq (s := { s with heap := h1, toks := s.toks + 1 + 1 }) (ad (sideAt true)) (.inl rfl) ((S1.at (sideAt_lt true)).trans (by rw [e1])) rfl rfl (fun h2 c1 hk2 hu1 => ?_) (by rw [List.size_toArray]; exact Nat.le_trans (by omega : vs1.length ≤ 1000) (by decide))
  have S2 : St h₀ L ad h2 m φ ((h1.objs.size, listOf vs1.toArray c1) :: (u0, listOf vs0.toArray c0) :: G) := S1.grow (P := [(h1.objs.size, listOf vs1.toArray c1)]) hk2 fun q hq => by
    rw [List.mem_singleton.mp hq]; exact ⟨Nat.le_refl _, hu1⟩
  have hsz2 : h1.objs.size < h2.objs.size := Heap.lt_size hu1
  dsimp only at hsz2 S2 ⊢
  generalize hu' : h1.objs.size = u1 at S2 hsz1 hsz2 ⊢
  refine args_nil ⟨show (2 : Nat) ≤ sizeLine by decide, args_nil ?_⟩
  have S3 := S2.push { cls := .type "list", data := .seq #[.ref u0, .ref u1] } rfl
  dsimp only
  generalize hu'' : h2.objs.size = u at S3 hsz2 ⊢
  refine call_append (s := { s with heap := h2.push { cls := .type "list", data := .seq #[.ref u0, .ref u1] }, toks := s.toks + 1 + 1 }) ((S3.at (i := 10) (by decide)).trans (by rw [ed])) hzd fun h4 n4 hl4 hs4 => ?_
  have S4 := S3.set (k := 10) (by decide) hl4 hs4
  exact h h4 _ _ u0 u1 u c0 c1 vs0 vs1 S4 Go.setDue hs0 hs1 (by omega) (by omega) (by omega) rfl
end

end
section

def tellB (ad : Nat → Addr) (f : Nat → Bool) (v : Value) : Bool := (List.range 8).any fun i => (v == .ref (ad (11 + i))) && f i
theorem tellB_at {ad : Nat → Addr} (inj : ∀ i j, i < 27 → j < 27 → ad i = ad j → i = j) {f : Nat → Bool} {i : Nat} (hi : i < 8) : tellB ad f (.ref (ad (11 + i))) = f i := by
  unfold tellB
  rw [Bool.eq_iff_iff, List.any_eq_true]
  constructor
  · rintro ⟨j, hj, e⟩
    rw [Bool.and_eq_true, beq_iff_eq] at e
    have hj := List.mem_range.mp hj
    have := inj _ _ (by omega) (by omega) (Value.ref.inj e.1)
    have : i = j := by omega
    subst this; exact e.2
  · intro h
    exact ⟨i, List.mem_range.mpr hi, by simp [h]⟩
theorem filter_map_of {f : Nat → Value} {q : Value → Bool} {q' : Nat → Bool} : ∀ {l : List Nat}, (∀ i ∈ l, q (f i) = q' i) → (l.map f).filter q = (l.filter q').map f
  | [], _ => rfl
  | a :: l, h => by
    have ih := filter_map_of (f := f) (q := q) (q' := q') (l := l) fun i hi => h i (.tail _ hi)
    have h0 := h a (.head _)
    rw [List.map_cons]
    cases hq : q' a with
    | true => rw [List.filter_cons_of_pos (by rw [h0, hq]), List.filter_cons_of_pos hq, List.map_cons, ih]
    | false => rw [List.filter_cons_of_neg (by rw [h0, hq]; exact Bool.false_ne_true), List.filter_cons_of_neg (by rw [hq]; exact Bool.false_ne_true), ih]

set_option maxRecDepth 100000 in
set_option maxHeartbeats 8000000 in
theorem fieldK03 : ∀ {w : World} {h₀ : Heap}, PySem.Challenge.rw_dm0039_03.row.prog = PySem.Challenge.rw_dm0039_03.row.prog → (hd03.heap_39 w.params).In h₀ → FieldK (hd03.heap_39 w.params) := by
  w_on
  k_fill
  intro w h₀ _ X
  refine ⟨?_, ?_, ?_, ?_, ?_, ?_, ?_, ?_, ?_⟩ <;> k_is

set_option maxRecDepth 100000 in
set_option maxHeartbeats 8000000 in
theorem fio03 : ∀ {w : World} {s : Shared} {h₀ : Heap} {L : Addr} {ad : Nat → Addr} {m mg mb : Str → Option Value} {φ : Nat → Obj} {G : List (Addr × Obj)} {rowp ordp : List Nat} {ini kwo mk : Nat → Bool} {AA : Bool → List Nat} {told due : List Value} {env : Env} {p : Program} {loose : List Str} {mean : ExcName → Option Value} {Q : Value → Shared → Prop} {E : Value → Shared → Prop},
    (hd03.heap_39 w.params).In h₀ → Top p loose mean mg mb h₀ → CodeHd h₀ 48 44 → ad 0 = 44 → St h₀ L ad s.heap m φ G → Good PySem.Challenge.rw_dm0039_03.row.prog w ad φ rowp ordp ini kwo mk AA told due → (∀ i ∈ rowp, i < 8) → rowp.length ≤ 1000 →
    (∀ (t1 t2 t : Addr) (h' : Heap) (tk : Nat) (g' : Array GenState) (ps' : Array Value), TriplesOk ps'.toList →
      St h₀ L ad h' m (upd φ 0 (tabObj ps')) ((t, tupOf #[.ref t1, .ref t2]) :: (t2, tupOf ((rowp.filter fun i => ini i && kwo i).map fun i => Value.ref (ad (11 + i))).toArray) :: (t1, tupOf ((rowp.filter fun i => ini i && !kwo i).map fun i => Value.ref (ad (11 + i))).toArray) :: G) →
      s.heap.objs.size ≤ t1 → s.heap.objs.size ≤ t2 → s.heap.objs.size ≤ t → (AllBare s.gens → AllBare g') → Q (.ref t) { s with heap := h', toks := tk, gens := g' }) →
    wpAny (model PySem.Challenge.rw_dm0039_03.row.prog w) (callerA.deeper env) (call (.ref 49) [.ref (ad 3)]) Q E s := by
  w_on
  k_fill
  intro w s h₀ L ad m mg mb φ G rowp ordp ini kwo mk AA told due env p loose mean Q E X T C h44 S Go hlt hlen hQ
  obtain ⟨ps, e0, ht⟩ := Go.tab
  obtain ⟨n, e3⟩ := Go.row
  have hP := S.at (i := 0) (by decide)
  have hP0 := S.new (i := 0) (by decide)
  rw [e0, h44] at hP
  rw [h44] at hP0
  have k0 : Sub h₀ (hideAll s.heap [44]) := fun b o e => hideAll_get _ (S.fr.keep b o e) fun hm => by rw [List.mem_singleton.mp hm, hP0] at e; cases e
  have hat : ∀ i, i < 27 → i ≠ 0 → (hideAll s.heap [44]).get? (ad i) = some (φ i) := fun i hi h0 => hideAll_get _ (S.at hi) fun hm => by
    have := List.mem_singleton.mp hm
    rw [← h44] at this
    exact h0 (S.inj _ _ hi (by decide) this)
  have Sr : Src PySem.Challenge.rw_dm0039_03.row.prog w (.ref (ad 3)) (rowp.map fun i => Value.ref (ad (11 + i))).toArray (hideAll s.heap [44]) := Src.list ⟨_, (hat 3 (by decide) (by decide)).trans (by rw [e3]), rfl, n, rfl⟩
  have at_ : ∀ u ∈ (rowp.map fun i => Value.ref (ad (11 + i))).toArray, ∃ i, i < 8 ∧ u = .ref (ad (11 + i)) := fun u hu => by
    have hu' : u ∈ rowp.map fun i => Value.ref (ad (11 + i)) := by simpa using hu
    obtain ⟨i, hi, rfl⟩ := List.mem_map.mp hu'
    exact ⟨i, hlt i hi, rfl⟩
  have hi : ∀ D U u, u ∈ (rowp.map fun i => Value.ref (ad (11 + i))).toArray → AttrTruth PySem.Challenge.rw_dm0039_03.row.prog w (hideAll s.heap [44]) D U u "init" (tellB ad ini u) := fun D U u hu => by
    obtain ⟨i, h8, rfl⟩ := at_ u hu
    obtain ⟨t1, t2, t3, tn, e⟩ := Go.dct i h8
    intro A E t Q _ _ _ hk hQ
    have a1 := hk _ _ (hat (11 + i) (by omega) (by omega))
    have a2 := hk _ _ (hat (19 + i) (by omega) (by omega))
    rw [Go.one i h8] at a1
    rw [e] at a2
    refine (get_fld (fieldK03 rfl X) ((X.keeps k0).keeps hk) a1 a2).2.1 (wpAny_truthy_bool ?_)
    have hq := hQ t.heap (t.toks + 1) fun _ _ e => e
    rw [tellB_at S.inj h8] at hq
    exact hq
  have hw : ∀ D U u, u ∈ (rowp.map fun i => Value.ref (ad (11 + i))).toArray → AttrTruth PySem.Challenge.rw_dm0039_03.row.prog w (hideAll s.heap [44]) D U u "kw_only" (tellB ad kwo u) := fun D U u hu => by
    obtain ⟨i, h8, rfl⟩ := at_ u hu
    obtain ⟨t1, t2, t3, tn, e⟩ := Go.dct i h8
    intro A E t Q _ _ _ hk hQ
    have a1 := hk _ _ (hat (11 + i) (by omega) (by omega))
    have a2 := hk _ _ (hat (19 + i) (by omega) (by omega))
    rw [Go.one i h8] at a1
    rw [e] at a2
    refine (get_fld (fieldK03 rfl X) ((X.keeps k0).keeps hk) a1 a2).2.2 (wpAny_truthy_bool ?_)
    have hq := hQ t.heap (t.toks + 1) fun _ _ e => e
    rw [tellB_at S.inj h8] at hq
    exact hq
  have e1 : (rowp.map fun i => Value.ref (ad (11 + i))).toArray.toList.filter (fun u => tellB ad ini u && !tellB ad kwo u) = (rowp.filter fun i => ini i && !kwo i).map fun i => Value.ref (ad (11 + i)) :=
    filter_map_of fun i h => by rw [tellB_at S.inj (hlt i h), tellB_at S.inj (hlt i h)]
  have e2 : (rowp.map fun i => Value.ref (ad (11 + i))).toArray.toList.filter (fun u => tellB ad ini u && tellB ad kwo u) = (rowp.filter fun i => ini i && kwo i).map fun i => Value.ref (ad (11 + i)) :=
    filter_map_of fun i h => by rw [tellB_at S.inj (hlt i h), tellB_at S.inj (hlt i h)]
  refine' fio_call (P := 44) (c := 48) (hb := hideAll s.heap [44]) rfl ?room (fun b o e => of_hideAll _ e) (Nat.le_of_eq (hideAll_size _ _)) (hideAll_none _ (.head _)) (X.keeps k0) (T.keeps k0) (C.keeps k0) hP ht ?ho ?hcd ?hb ?htn boot_tuple ?c1 ?c2 ?c3 ?c4 ?c5 ?c6 ?c7 ?d1 ?d2 ?d3 ?d4 ?d5 ?d6 ?e1 ?e2 ?e3 ?e4 ?e5 ?e6 ?f Sr ?sz (test_and_not ?g1 ?g2 ?g3 (hi _ _) (hw _ _)) (test_and ?i1 ?i2 ?i3 (hi _ _) (hw _ _)) ?Q
  case room => simp only [depth_deeper, depth_caller]; decide
  case ho => k_is
  case hcd => k_is
  case hb => exact BindsTo.of_eq rfl
  case htn => k_is
  case c1 => exact rfl
  case c2 => exact rfl
  case c3 => exact rfl
  case c4 => decide
  case c5 => exact rfl
  case c6 => exact rfl
  case c7 => decide
  case d1 => exact rfl
  case d2 => intro _; exact rfl
  case d3 => decide
  case d4 => exact rfl
  case d5 => exact rfl
  case d6 => exact rfl
  case e1 => exact rfl
  case e2 => intro _; exact rfl
  case e3 => decide
  case e4 => exact rfl
  case e5 => exact rfl
  case e6 => exact rfl
  case f => decide
  case sz => rw [List.size_toArray, List.length_map]; exact Nat.le_trans hlen (by decide)
  case g1 => exact rfl
  case g2 => exact rfl
  case g3 => decide
  case i1 => exact rfl
  case i2 => exact rfl
  case i3 => decide
  case Q =>
    intro t1 t2 t h' tk g' ps' hx hP' ht' l1 l2 l3 a1 a2 a3 _ hb
    rw [e1] at a1; rw [e2] at a2
    have S1 : St h₀ L ad h' m (upd φ 0 (tabObj ps')) G := S.table (by rw [h44]; exact hx) (by rw [h44]; exact hP')
    have fr : ∀ b, s.heap.objs.size ≤ b → b ≠ L ∧ h₀.get? b = none ∧ ∀ i, i < 27 → b ≠ ad i := fun b hb => S.fresh hb
    have hl2 : s.heap.objs.size ≤ t2 := Nat.le_trans l1 (Nat.le_of_lt l2)
    have hl3 : s.heap.objs.size ≤ t := Nat.le_trans hl2 (Nat.le_of_lt l3)
    refine hQ t1 t2 t h' tk g' ps' ht' ⟨S1.fr, fun q hq => ?_, S1.inj, fun q hq i hi => ?_⟩ l1 hl2 hl3 hb
    · rcases mem_led.mp hq with hq | hq
      · exact S1.news q (mem_led.mpr (.inl hq))
      · rcases List.mem_cons.mp hq with rfl | hq
        · exact ⟨a3, (fr _ hl3).1, (fr _ hl3).2.1⟩
        · rcases List.mem_cons.mp hq with rfl | hq
          · exact ⟨a2, (fr _ hl2).1, (fr _ hl2).2.1⟩
          · rcases List.mem_cons.mp hq with rfl | hq
            · exact ⟨a1, (fr _ l1).1, (fr _ l1).2.1⟩
            · exact S1.news q (mem_led.mpr (.inr hq))
    · rcases List.mem_cons.mp hq with rfl | hq
      · exact (fr _ hl3).2.2 i hi
      · rcases List.mem_cons.mp hq with rfl | hq
        · exact (fr _ hl2).2.2 i hi
        · rcases List.mem_cons.mp hq with rfl | hq
          · exact (fr _ l1).2.2 i hi
          · exact S1.off q hq i hi

end
section

/-- told.append(_fields_in_init_order(row)) -/
theorem s_told {w : World} {s : Shared} {h₀ : Heap} {L : Addr} {ad : Nat → Addr} {m mg mb : Str → Option Value} {φ : Nat → Obj} {G : List (Addr × Obj)} {rowp ordp : List Nat} {ini kwo mk : Nat → Bool} {AA : Bool → List Nat} {told due : List Value} {env : Env} {p : Program} {loose : List Str} {mean : ExcName → Option Value} {Q : Flow → Shared → Prop} {E : Value → Shared → Prop}
    {p1 p2 p3 p4 p5 p6 p7 : Pos} (X : (hd03.heap_39 w.params).In h₀) (T : Top p loose mean mg mb h₀) (C : CodeHd h₀ 48 44) (h44 : ad 0 = 44) (O : EO env L (ad 1) (ad 2)) (S : St h₀ L ad s.heap m φ G) (M : Mok ad m) (Go : Good PySem.Challenge.rw_dm0039_03.row.prog w ad φ rowp ordp ini kwo mk AA told due)
    (hlt : ∀ i ∈ rowp, i < 8) (hlen : rowp.length ≤ 1000) (hzt : told.length ≤ 1000) (ef : nsIn (hd03.heap_39 w.params) mainGlobals "_fields_in_init_order" = some (some (.ref 49))) (hk : keepIn (hd03.heap_39 w.params) (.ref 49) = true)
    (h : ∀ (t1 t2 t : Addr) (h' : Heap) (tk : Nat) (g' : Array GenState) φ',
      St h₀ L ad h' m φ' ((t, tupOf #[.ref t1, .ref t2]) :: (t2, tupOf ((rowp.filter fun i => ini i && kwo i).map fun i => Value.ref (ad (11 + i))).toArray) :: (t1, tupOf ((rowp.filter fun i => ini i && !kwo i).map fun i => Value.ref (ad (11 + i))).toArray) :: G) →
      Good PySem.Challenge.rw_dm0039_03.row.prog w ad φ' rowp ordp ini kwo mk AA (told ++ [.ref t]) due → s.heap.objs.size ≤ t1 → s.heap.objs.size ≤ t2 → s.heap.objs.size ≤ t → (AllBare s.gens → AllBare g') → Q .next { s with heap := h', toks := tk, gens := g' })
    (hint : interactive env = false)
    (he : ∃ pl, eval (.Call (.Attribute (.Name "told" p1) "append" p2) [.Call (.Name "_fields_in_init_order" p3) [.Name "row" p4] [] p5] [] p6) env = (do
      let ov ← eval (.Name "told" p1) env
      standAt p2.atName
      let (f, first) ← holding [ov] (getMethod ov "append" pl)
      callWith p6 f first (backTo p6 (starEach [.Call (.Name "_fields_in_init_order" p3) [.Name "row" p4] [] p5] env)) []) := by exact ⟨_, rfl⟩) :
    wpAny (model PySem.Challenge.rw_dm0039_03.row.prog w) (callerA.deeper env) (exec (.Expr (.Call (.Attribute (.Name "told" p1) "append" p2) [.Call (.Name "_fields_in_init_order" p3) [.Name "row" p4] [] p5] [] p6) p7) env) Q E s := by
  obtain ⟨nt, et⟩ := Go.tl
  obtain ⟨pl, he⟩ := he
  refine wpAny_Expr (MethodCall_ (pl := pl) (rd_loc O S M.told ?_) he) hint
  refine getM_list ((S.at (i := 9) (by decide)).trans (by rw [et])) PySem.F.slot_list_append PySem.F.type_list_append ?_
  refine callWith_method1 (Calls.spliced_cons (Call_ (name_glb X T S.fr.keep ef ?_ O.glb O.knd (O.kg _ (by decide)) (by decide))))
  refine callWith_K X hk (Calls.spliced_cons (rd_loc O S M.row (args_nil ⟨X.keeps S.fr.keep, ?_⟩)))
  refine fio03 X T C h44 S Go hlt hlen fun t1 t2 t h' tk g' ps' ht S' l1 l2 l3 hb => args_nil ?_
  have Go' := Go.setTab ht
  obtain ⟨nt', et'⟩ := Go'.tl
  refine call_append (s := { s with heap := h', toks := tk, gens := g' }) ((S'.at (i := 9) (by decide)).trans (by rw [et'])) hzt fun h2 n2 hl2 hs2 => ?_
  exact h t1 t2 t h2 tk g' _ (S'.set (k := 9) (by decide) hl2 hs2) Go'.setTold l1 l2 l3 hb

end
section

theorem newsSub {h₀ h : Heap} {L : Addr} {r r' : List (Addr × Obj)} (N : News h₀ L h r) (k : ∀ p ∈ r', p ∈ r) : News h₀ L h r' := fun p hp => N p (k p hp)
theorem allLt_mem {d : Nat} {l : List (Addr × Obj)} (h : AllLt d l) : ∀ p ∈ l, p.1 < d := by
  induction l with
  | nil => intro p hp; cases hp
  | cons q r ih =>
    intro p hp
    rcases List.mem_cons.mp hp with rfl | hp
    · exact h.1
    · exact ih h.2 p hp
theorem SrcP.str {prog : Program} {w : World} {x : Str} {t : Tok} {h : Heap} {ft : Addr → Prop} (ha : x.cps.all (· < 128) = true) : SrcP prog w (.str x t) x.cps.size (SignAt x) h ft where
  iter := fun A E s Q hh hk hQ => by
    refine wpAny_pyIter_ascii ha ?_
    refine hQ _ [s.heap.objs.size] _ rfl (fun A' hA => Walks.strAscii hA _ x t) ⟨_, Heap.get?_push_size _ rfl, rfl, rfl⟩ ?_ ?_
    · intro b hb; exact .inl (List.mem_singleton.mp hb)
    · rintro i h' ⟨o, e, _⟩; exact ⟨o, e⟩

theorem sign_letter {i : Nat} {v : Value} (h : SignAt (Str.ofString "abcdefgh") i v) : ∃ t, v = .str (letter i) t ∧ i < 8 := by
  obtain ⟨c, u, hc, rfl⟩ := h
  have hi : i < 8 := by
    rcases Nat.lt_or_ge i 8 with h | h
    · exact h
    · rw [Array.getElem?_eq_none (by exact h)] at hc; cases hc
  refine ⟨u, ?_, hi⟩
  have : i = 0 ∨ i = 1 ∨ i = 2 ∨ i = 3 ∨ i = 4 ∨ i = 5 ∨ i = 6 ∨ i = 7 := by omega
  rcases this with rfl | rfl | rfl | rfl | rfl | rfl | rfl | rfl <;> (cases hc; rfl)

theorem letters_of {acc : Array Value} (h : ItemsOf (SignAt (Str.ofString "abcdefgh")) acc 8) : StrsAre acc.toList ([0, 1, 2, 3, 4, 5, 6, 7].map letter) := by
  obtain ⟨hs, hv⟩ := h
  refine kdy_strs (by simp [hs]) fun j v e => ?_
  rw [Array.getElem?_toList] at e
  obtain ⟨t, rfl, hj⟩ := sign_letter (hv j v e)
  refine ⟨letter j, ?_, t, rfl⟩
  have : j = 0 ∨ j = 1 ∨ j = 2 ∨ j = 3 ∨ j = 4 ∨ j = 5 ∨ j = 6 ∨ j = 7 := by omega
  rcases this with rfl | rfl | rfl | rfl | rfl | rfl | rfl | rfl <;> rfl

/-- the fields built so far -/
structure Fields (P : Params) (R : Addr) (i : Nat) (ys : List Value) (fam : List (Addr × Obj)) (one dct : Nat → Addr) : Prop where
  len : ys.length = i
  at_ : ∀ j, j < i → ys[j]? = some (.ref (one j)) ∧ (one j, instObj 38 (dct j)) ∈ fam ∧ ∃ t1 t2 t3 tn, (dct j, fieldDict P j true false t1 t2 t3 tn) ∈ fam
  lt : ∀ j, j < i → R < dct j ∧ dct j < one j
  up : ∀ j j', j < j' → j' < i → one j < dct j'
  big : ∀ p ∈ fam, R < p.1

theorem Fields.succ {P : Params} {R : Addr} {i : Nat} {ys : List Value} {fam : List (Addr × Obj)} {one dct : Nat → Addr} (F : Fields P R i ys fam one dct) {o d : Addr} {t1 t2 t3 tn : Tok} (hR : R < d) (hd : d < o) (hfam : ∀ p ∈ fam, p.1 < d) :
    Fields P R (i + 1) (ys ++ [.ref o]) ((o, instObj 38 d) :: (d, fieldDict P i true false t1 t2 t3 tn) :: fam) (fun j => if j = i then o else one j) (fun j => if j = i then d else dct j) where
  len := by rw [List.length_append, F.len]; rfl
  at_ := fun j hj => by
    by_cases e : j = i
    · subst e
      rw [if_pos rfl, if_pos rfl, List.getElem?_append_right (by rw [F.len]; exact Nat.le_refl _), F.len]
      exact ⟨by simp, .head _, t1, t2, t3, tn, .tail _ (.head _)⟩
    · obtain ⟨a, b, t1, t2, t3, tn, c⟩ := F.at_ j (by omega)
      rw [if_neg e, if_neg e, List.getElem?_append_left (by rw [F.len]; omega)]
      exact ⟨a, .tail _ (.tail _ b), t1, t2, t3, tn, .tail _ (.tail _ c)⟩
  lt := fun j hj => by
    by_cases e : j = i
    · rw [if_pos e, if_pos e]; exact ⟨hR, hd⟩
    · rw [if_neg e, if_neg e]; exact F.lt j (by omega)
  up := fun j j' h1 h2 => by
    rw [if_neg (show ¬ j = i by omega)]
    by_cases e : j' = i
    · rw [if_pos e]; exact hfam _ (F.at_ j (by omega)).2.1
    · rw [if_neg e]; exact F.up j j' h1 (by omega)
  big := fun p hp => by
    rcases List.mem_cons.mp hp with rfl | hp
    · exact Nat.lt_trans hR hd
    · rcases List.mem_cons.mp hp with rfl | hp
      · exact hR
      · exact F.big p hp

end
section
set_option maxRecDepth 100000

/-- all but the block's own names is kept -/
abbrev SubBut (L : Addr) (h h' : Heap) : Prop := ∀ b o, b ≠ L → h.get? b = some o → h'.get? b = some o

section
variable {prog : Program} {w : World} {A : Around} {E : Value → Shared → Prop} {s : Shared} {env : Env} {h₀ : Heap} {L cn co : Addr} {m : Str → Option Value} {K : Frag} {p : Program} {loose : List Str} {mean : ExcName → Option Value} {mg mb : Str → Option Value}

theorem st_locE {y : Str} {v : Value} {Q : Unit → Shared → Prop} (O : EO env L cn co) (F : Fr h₀ L s.heap m) (h : ∀ h', Fr h₀ L h' (fun z => if z = y then some v else m z) → SubBut L s.heap h' → Q () { s with heap := h', toks := s.toks + 1 })
    (hy : y ∈ (["script", "row", "one", "marks", "sides", "told", "due", "x", "what", "place", "within", "ahead"] : List Str) := by decide) : wpAny (model prog w) A (storeName env y v) Q E s :=
  wpAny_storeName_local (m := m) (O.kl y hy) (by rw [O.loc]; exact F.ns) (fun h' hn hs => h h' (F.set (by rw [← O.loc]; exact hn) (by rw [← O.loc]; exact hs)) (fun b o hb e => hs.extBut b o (by rw [O.loc]; exact hb) e)) (by rw [O.knd]; rfl)
theorem rd_locE {pp : Pos} {y : Str} {v : Value} {Q : Value → Shared → Prop} (O : EO env L cn co) (F : Fr h₀ L s.heap m) (hm : m y = some v) (h : Q v s)
    (hy : y ∈ (["script", "row", "one", "marks", "sides", "told", "due", "x", "what", "place", "within", "ahead"] : List Str) := by decide) (hd : (y == ("__debug__" : Str)) = false := by decide) : wpAny (model prog w) A (eval (.Name y pp) env) Q E s :=
  name_loc (by rw [O.loc]; exact F.ns) hm h O.knd (O.kl y hy) hd

/-- sides = [list(order), []] -/
theorem s_sides0 {p1 p2 p3 p4 p5 p6 p7 : Pos} {Q : Flow → Shared → Prop} {o2 : Obj} {OA : Addr} {acc : Array Value} {c1 : Nat} (X : K.In h₀) (T : Top p loose mean mg mb h₀) (el : nsIn K mainGlobals "list" = some none) (O : EO env L cn co) (F : Fr h₀ L s.heap m)
    (h2 : s.heap.get? co = some o2) (hd2 : o2.data = .cell (some (.ref OA))) (hO : s.heap.get? OA = some (listOf acc c1)) (hz : acc.size ≤ 1000)
    (h : ∀ h' tk s0 s1 sd c0, Fr h₀ L h' (fun z => if z = Str.ofString "sides" then some (.ref sd) else m z) → SubBut L s.heap h' → h'.get? s0 = some (listOf acc c0) → h'.get? s1 = some (listOf #[] 0) → h'.get? sd = some (listOf #[.ref s0, .ref s1] 0) →
      s.heap.objs.size ≤ s0 → s0 < s1 → s1 < sd → Q .next { s with heap := h', toks := tk }) :
    wpAny (model prog w) A (exec (.Assign [.Name "sides" p1] (.List [.Call (.Name "list" p2) [.Name "order" p3] [] p4, .List [] p5] p6) p7) env) Q E s := by
  refine wpAny_Assign_Name (wpAny_List ?_)
  refine Calls.spliced_cons (Call_ (name_blt X T F.keep el PyProof.Rows.boot_list (by decide) (PyProof.Rows.callWith_type1 (Calls.spliced_cons ?_)) O.glb O.blt O.knd (O.kg _ (by decide)) (by decide)))
  refine wpAny_Name (wpAny_loadName_cell O.knd O.ko O.co ⟨_, h2, hd2⟩ (args_nil ?_)) (by decide)
  refine call_list_seq OA (.inl rfl) hO rfl rfl (fun h1 c0 hk1 hu0 => ?_) (Nat.le_trans hz (by decide))
  have hsz1 : s.heap.objs.size < h1.objs.size := Heap.lt_size hu0
  refine Calls.spliced_cons (wpAny_List (args_nil ⟨show (0 : Nat) ≤ sizeLine by decide, args_nil ⟨show (2 : Nat) ≤ sizeLine by decide, ?_⟩⟩))
  have F1 : Fr h₀ L h1 m := F.keeps hk1
  have a1 := Heap.get?_push_size h1 (o := { cls := .type "list", data := .seq #[] }) rfl
  have hsz2 : (h1.push { cls := .type "list", data := .seq #[] }).objs.size = h1.objs.size + 1 := Heap.size_push ..
  have a2 := Heap.get?_push_size (h1.push { cls := .type "list", data := .seq #[] }) (o := { cls := .type "list", data := .seq #[.ref s.heap.objs.size, .ref h1.objs.size] }) rfl
  have F2 := (F1.push { cls := .type "list", data := .seq #[] }).push { cls := .type "list", data := .seq #[.ref s.heap.objs.size, .ref h1.objs.size] }
  refine st_locE (y := Str.ofString "sides") O F2 fun h' F' hk' => ?_
  have nL : ∀ b, s.heap.objs.size ≤ b → b ≠ L := fun b hb e => Nat.lt_irrefl _ (Nat.lt_of_lt_of_le F.ns.lt (e ▸ hb))
  refine h h' _ s.heap.objs.size h1.objs.size _ c0 F' (fun b o hb e => hk' b o hb (Heap.get?_push_of_some _ (Heap.get?_push_of_some _ (hk1 b o e)))) (hk' _ _ (nL _ (Nat.le_refl _)) (Heap.get?_push_of_some _ (Heap.get?_push_of_some _ hu0)))
    (hk' _ _ (nL _ (Nat.le_of_lt hsz1)) (Heap.get?_push_of_some _ a1)) (hk' _ _ (nL _ (by rw [hsz2]; exact Nat.le_of_lt (Nat.lt_succ_of_lt hsz1))) a2) (Nat.le_refl _) hsz1 (by rw [hsz2]; exact Nat.lt_succ_self _)

/-- due = [[list(sides[0]), list(sides[1])]] -/
theorem s_due0 {p1 p3 p4 p5 p6 p7 q3 q4 q5 q6 q7 p8 p9 p10 : Pos} {k0 k1 : Nat} {Q : Flow → Shared → Prop} {sd s0 s1 : Addr} {a0 a1 : Array Value} {n n0 n1 : Nat} (X : K.In h₀) (T : Top p loose mean mg mb h₀) (el : nsIn K mainGlobals "list" = some none) (O : EO env L cn co) (F : Fr h₀ L s.heap m)
    (hm : m "sides" = some (.ref sd)) (hd : s.heap.get? sd = some (listOf #[.ref s0, .ref s1] n)) (h0 : s.heap.get? s0 = some (listOf a0 n0)) (h1 : s.heap.get? s1 = some (listOf a1 n1)) (hz0 : a0.size ≤ 1000) (hz1 : a1.size ≤ 1000)
    (h : ∀ h' tk u0 u1 u du c0 c1, Fr h₀ L h' (fun z => if z = Str.ofString "due" then some (.ref du) else m z) → SubBut L s.heap h' → h'.get? u0 = some (listOf a0 c0) → h'.get? u1 = some (listOf a1 c1) → h'.get? u = some (listOf #[.ref u0, .ref u1] 0) → h'.get? du = some (listOf #[.ref u] 0) →
      s.heap.objs.size ≤ u0 → u0 < u1 → u1 < u → u < du → Q .next { s with heap := h', toks := tk }) :
    wpAny (model prog w) A (exec (.Assign [.Name "due" p1] (.List [.List [.Call (.Name "list" p3) [.Subscript (.Name "sides" p4) (.Constant (.int 0) k0 p5) p6] [] p7, .Call (.Name "list" q3) [.Subscript (.Name "sides" q4) (.Constant (.int 1) k1 q5) q6] [] q7] p8] p9) p10) env) Q E s := by
  refine wpAny_Assign_Name (wpAny_List (Calls.spliced_cons (wpAny_List ?_)))
  refine Calls.spliced_cons (Call_ (name_blt X T F.keep el PyProof.Rows.boot_list (by decide) (PyProof.Rows.callWith_type1 (Calls.spliced_cons ?_)) O.glb O.blt O.knd (O.kg _ (by decide)) (by decide)))
  refine Subscript_ (rd_locE O F hm (wpAny_Constant_int ?_))
  refine item_list (items := #[.ref s0, .ref s1]) ⟨_, hd, rfl, n, rfl⟩ (by decide) (by decide) rfl (args_nil ?_) (by with_unfolding_all rfl) (by intro _; with_unfolding_all rfl)
  refine call_list_seq s0 (.inl rfl) h0 rfl rfl (fun g1 c0 hk1 hu0 => ?_) (Nat.le_trans hz0 (by decide))
  have F1 : Fr h₀ L g1 m := F.keeps hk1
  have hsz1 : s.heap.objs.size < g1.objs.size := Heap.lt_size hu0
  refine Calls.spliced_cons (Call_ (name_blt X T F1.keep el PyProof.Rows.boot_list (by decide) (PyProof.Rows.callWith_type1 (Calls.spliced_cons ?_)) O.glb O.blt O.knd (O.kg _ (by decide)) (by decide)))
  refine Subscript_ (rd_locE (s := { s with heap := g1, toks := s.toks + 1 }) O F1 hm (wpAny_Constant_int ?_))
  refine item_list (items := #[.ref s0, .ref s1]) ⟨_, hk1 _ _ hd, rfl, n, rfl⟩ (by decide) (by decide) rfl (args_nil ?_) (by with_unfolding_all rfl) (by intro _; with_unfolding_all rfl)
  refine call_list_seq s1 (.inl rfl) (hk1 _ _ h1) rfl rfl (fun g2 c1 hk2 hu1 => ?_) (Nat.le_trans hz1 (by decide))
  have F2 : Fr h₀ L g2 m := F1.keeps hk2
  have hsz2 : g1.objs.size < g2.objs.size := Heap.lt_size hu1
  refine args_nil ⟨show (2 : Nat) ≤ sizeLine by decide, args_nil ⟨show (1 : Nat) ≤ sizeLine by decide, ?_⟩⟩
  have e1 := Heap.get?_push_size g2 (o := { cls := .type "list", data := .seq #[.ref s.heap.objs.size, .ref g1.objs.size] }) rfl
  have hsz3 : (g2.push { cls := .type "list", data := .seq #[.ref s.heap.objs.size, .ref g1.objs.size] }).objs.size = g2.objs.size + 1 := Heap.size_push ..
  have e2 := Heap.get?_push_size (g2.push { cls := .type "list", data := .seq #[.ref s.heap.objs.size, .ref g1.objs.size] }) (o := { cls := .type "list", data := .seq #[.ref g2.objs.size] }) rfl
  have F3 := (F2.push { cls := .type "list", data := .seq #[.ref s.heap.objs.size, .ref g1.objs.size] }).push { cls := .type "list", data := .seq #[.ref g2.objs.size] }
  refine st_locE (y := Str.ofString "due") O F3 fun h' F' hk' => ?_
  have nL : ∀ b, s.heap.objs.size ≤ b → b ≠ L := fun b hb e => Nat.lt_irrefl _ (Nat.lt_of_lt_of_le F.ns.lt (e ▸ hb))
  refine h h' _ s.heap.objs.size g1.objs.size g2.objs.size _ c0 c1 F' (fun b o hb e => hk' b o hb (Heap.get?_push_of_some _ (Heap.get?_push_of_some _ (hk2 b o (hk1 b o e))))) (hk' _ _ (nL _ (Nat.le_refl _)) (Heap.get?_push_of_some _ (Heap.get?_push_of_some _ (hk2 _ _ hu0))))
    (hk' _ _ (nL _ (Nat.le_of_lt hsz1)) (Heap.get?_push_of_some _ (Heap.get?_push_of_some _ hu1))) (hk' _ _ (nL _ (Nat.le_of_lt (Nat.lt_trans hsz1 hsz2))) (Heap.get?_push_of_some _ e1))
    (hk' _ _ (nL _ (by rw [hsz3]; exact Nat.le_of_lt (Nat.lt_succ_of_lt (Nat.lt_trans hsz1 hsz2)))) e2) (Nat.le_refl _) hsz1 hsz2 (by rw [hsz3]; exact Nat.lt_succ_self _)
end

end
section

set_option maxRecDepth 100000 in
set_option maxHeartbeats 8000000 in
theorem fio03r : ∀ {w : World} {s : Shared} {h₀ : Heap} {L R : Addr} {m mg mb : Str → Option Value} {ps : Array Value} {ys : List Value} {n : Nat} {env : Env} {p : Program} {loose : List Str} {mean : ExcName → Option Value} {Q : Value → Shared → Prop} {E : Value → Shared → Prop},
    (hd03.heap_39 w.params).In h₀ → Top p loose mean mg mb h₀ → CodeHd h₀ 48 44 → Fr h₀ L s.heap m → s.heap.get? 44 = some (tabObj ps) → h₀.get? 44 = none → TriplesOk ps.toList → R ≠ 44 → s.heap.get? R = some (listOf ys.toArray n) → ys.length ≤ 1000 →
    (∀ v ∈ ys, ∃ i one d t1 t2 t3 tn, v = .ref one ∧ one ≠ 44 ∧ d ≠ 44 ∧ s.heap.get? one = some (instObj 38 d) ∧ s.heap.get? d = some (fieldDict w.params i true false t1 t2 t3 tn)) →
    (∀ (t1 t2 t : Addr) (h' : Heap) (tk : Nat) (g' : Array GenState) (ps' : Array Value), Heap.ExtBut 44 s.heap h' → h'.get? 44 = some (tabObj ps') → TriplesOk ps'.toList → h'.get? t1 = some (tupOf ys.toArray) → h'.get? t2 = some (tupOf #[]) → h'.get? t = some (tupOf #[.ref t1, .ref t2]) →
      s.heap.objs.size ≤ t1 → t1 < t2 → t2 < t → h'.objs.size = t + 1 → (AllBare s.gens → AllBare g') → Q (.ref t) { s with heap := h', toks := tk, gens := g' }) →
    wpAny (model PySem.Challenge.rw_dm0039_03.row.prog w) (callerA.deeper env) (call (.ref 49) [.ref R]) Q E s := by
  w_on
  k_fill
  intro w s h₀ L R m mg mb ps ys n env p loose mean Q E X T C F hP hP0 ht hR hrow hlen hys hQ
  have k0 : Sub h₀ (hideAll s.heap [44]) := fun b o e => hideAll_get _ (F.keep b o e) fun hm => by rw [List.mem_singleton.mp hm, hP0] at e; cases e
  have hat : ∀ b o, b ≠ 44 → s.heap.get? b = some o → (hideAll s.heap [44]).get? b = some o := fun b o hb e => hideAll_get _ e fun hm => hb (List.mem_singleton.mp hm)
  have Sr : Src PySem.Challenge.rw_dm0039_03.row.prog w (.ref R) ys.toArray (hideAll s.heap [44]) := Src.list ⟨_, hat _ _ hR hrow, rfl, n, rfl⟩
  have hi : ∀ D U u, u ∈ ys.toArray → AttrTruth PySem.Challenge.rw_dm0039_03.row.prog w (hideAll s.heap [44]) D U u "init" ((fun _ => true) u) := fun D U u hu => by
    obtain ⟨i, one, d, t1, t2, t3, tn, rfl, n1, n2, a1, a2⟩ := hys u (by simpa using hu)
    intro A E t Q _ _ _ hk hQ
    exact (get_fld (fieldK03 rfl X) ((X.keeps k0).keeps hk) (hk _ _ (hat _ _ n1 a1)) (hk _ _ (hat _ _ n2 a2))).2.1 (wpAny_truthy_bool (hQ t.heap _ fun _ _ e => e))
  have hw : ∀ D U u, u ∈ ys.toArray → AttrTruth PySem.Challenge.rw_dm0039_03.row.prog w (hideAll s.heap [44]) D U u "kw_only" ((fun _ => false) u) := fun D U u hu => by
    obtain ⟨i, one, d, t1, t2, t3, tn, rfl, n1, n2, a1, a2⟩ := hys u (by simpa using hu)
    intro A E t Q _ _ _ hk hQ
    exact (get_fld (fieldK03 rfl X) ((X.keeps k0).keeps hk) (hk _ _ (hat _ _ n1 a1)) (hk _ _ (hat _ _ n2 a2))).2.2 (wpAny_truthy_bool (hQ t.heap _ fun _ _ e => e))
  have e1 : ys.toArray.toList.filter (fun u => (fun _ => true) u && !(fun _ => false) u) = ys := List.filter_eq_self.mpr fun _ _ => rfl
  have e2 : ys.toArray.toList.filter (fun u => (fun _ => true) u && (fun _ => false) u) = [] := List.filter_eq_nil_iff.mpr fun _ _ h => by cases h
  refine' fio_call (P := 44) (c := 48) (hb := hideAll s.heap [44]) rfl ?room (fun b o e => of_hideAll _ e) (Nat.le_of_eq (hideAll_size _ _)) (hideAll_none _ (.head _)) (X.keeps k0) (T.keeps k0) (C.keeps k0) hP ht ?ho ?hcd ?hb ?htn boot_tuple ?c1 ?c2 ?c3 ?c4 ?c5 ?c6 ?c7 ?d1 ?d2 ?d3 ?d4 ?d5 ?d6 ?e1 ?e2 ?e3 ?e4 ?e5 ?e6 ?f Sr ?sz (test_and_not ?g1 ?g2 ?g3 (hi _ _) (hw _ _)) (test_and ?i1 ?i2 ?i3 (hi _ _) (hw _ _)) ?Q
  case room => simp only [depth_deeper, depth_caller]; decide
  case ho => k_is
  case hcd => k_is
  case hb => exact BindsTo.of_eq rfl
  case htn => k_is
  case c1 => exact rfl
  case c2 => exact rfl
  case c3 => exact rfl
  case c4 => decide
  case c5 => exact rfl
  case c6 => exact rfl
  case c7 => decide
  case d1 => exact rfl
  case d2 => intro _; exact rfl
  case d3 => decide
  case d4 => exact rfl
  case d5 => exact rfl
  case d6 => exact rfl
  case e1 => exact rfl
  case e2 => intro _; exact rfl
  case e3 => decide
  case e4 => exact rfl
  case e5 => exact rfl
  case e6 => exact rfl
  case f => decide
  case sz => rw [List.size_toArray]; exact Nat.le_trans hlen (by decide)
  case g1 => exact rfl
  case g2 => exact rfl
  case g3 => decide
  case i1 => exact rfl
  case i2 => exact rfl
  case i3 => decide
  case Q =>
    intro t1 t2 t h' tk g' ps' hx hP' ht' l1 l2 l3 a1 a2 a3 hsz hb
    rw [e1] at a1; rw [e2] at a2
    exact hQ t1 t2 t h' tk g' ps' hx hP' ht' a1 a2 a3 l1 l2 l3 hsz hb

end
section

/-- told = [_fields_in_init_order(row)] -/
theorem s_told0 {w : World} {s : Shared} {h₀ : Heap} {L cn co R : Addr} {m mg mb : Str → Option Value} {ps : Array Value} {ys : List Value} {n : Nat} {env : Env} {p : Program} {loose : List Str} {mean : ExcName → Option Value} {Q : Flow → Shared → Prop} {E : Value → Shared → Prop}
    {p1 p3 p4 p5 p6 p7 : Pos} (X : (hd03.heap_39 w.params).In h₀) (T : Top p loose mean mg mb h₀) (C : CodeHd h₀ 48 44) (O : EO env L cn co) (F : Fr h₀ L s.heap m) (hm : m "row" = some (.ref R)) (hP : s.heap.get? 44 = some (tabObj ps)) (hP0 : h₀.get? 44 = none) (hPL : 44 ≠ L) (ht : TriplesOk ps.toList) (hR : R ≠ 44) (hrow : s.heap.get? R = some (listOf ys.toArray n)) (hlen : ys.length ≤ 1000)
    (hys : ∀ v ∈ ys, ∃ i one d t1 t2 t3 tn, v = .ref one ∧ one ≠ 44 ∧ d ≠ 44 ∧ s.heap.get? one = some (instObj 38 d) ∧ s.heap.get? d = some (fieldDict w.params i true false t1 t2 t3 tn))
    (ef : nsIn (hd03.heap_39 w.params) mainGlobals "_fields_in_init_order" = some (some (.ref 49))) (hk : keepIn (hd03.heap_39 w.params) (.ref 49) = true)
    (h : ∀ (t1 t2 t tl : Addr) (h' : Heap) (tk : Nat) (g' : Array GenState) (ps' : Array Value), Fr h₀ L h' (fun z => if z = Str.ofString "told" then some (.ref tl) else m z) → (∀ b o, b ≠ L → b ≠ 44 → s.heap.get? b = some o → h'.get? b = some o) → h'.get? 44 = some (tabObj ps') → TriplesOk ps'.toList →
      h'.get? t1 = some (tupOf ys.toArray) → h'.get? t2 = some (tupOf #[]) → h'.get? t = some (tupOf #[.ref t1, .ref t2]) → h'.get? tl = some (listOf #[.ref t] 0) → s.heap.objs.size ≤ t1 → t1 < t2 → t2 < t → t < tl → (AllBare s.gens → AllBare g') → Q .next { s with heap := h', toks := tk, gens := g' }) :
    wpAny (model PySem.Challenge.rw_dm0039_03.row.prog w) (callerA.deeper env) (exec (.Assign [.Name "told" p1] (.List [.Call (.Name "_fields_in_init_order" p3) [.Name "row" p4] [] p5] p6) p7) env) Q E s := by
  refine wpAny_Assign_Name (wpAny_List (Calls.spliced_cons (Call_ (name_glb X T F.keep ef ?_ O.glb O.knd (O.kg _ (by decide)) (by decide)))))
  refine callWith_K X hk (Calls.spliced_cons (rd_locE O F hm (args_nil ⟨X.keeps F.keep, ?_⟩)))
  refine fio03r X T C F hP hP0 ht hR hrow hlen hys fun t1 t2 t h' tk g' ps' hx hP' ht' a1 a2 a3 l1 l2 l3 hsz hb => ?_
  refine args_nil ⟨show (1 : Nat) ≤ sizeLine by decide, ?_⟩
  have F1 : Fr h₀ L h' m := ⟨F.ns.extBut hx hPL.symm, fun b o e => hx b o (fun q => by rw [q, hP0] at e; cases e) (F.keep b o e), F.above⟩
  have F2 := F1.push { cls := .type "list", data := .seq #[.ref t] }
  have e1 := Heap.get?_push_size h' (o := { cls := .type "list", data := .seq #[.ref t] }) rfl
  refine st_locE (y := Str.ofString "told") O F2 fun h2 F' hk' => ?_
  have nL : ∀ b, s.heap.objs.size ≤ b → b ≠ L := fun b hb e => Nat.lt_irrefl _ (Nat.lt_of_lt_of_le F.ns.lt (e ▸ hb))
  have hl2 : s.heap.objs.size ≤ t2 := Nat.le_trans l1 (Nat.le_of_lt l2)
  have hl3 : s.heap.objs.size ≤ t := Nat.le_trans hl2 (Nat.le_of_lt l3)
  have htl : t < h'.objs.size := by rw [hsz]; exact Nat.lt_succ_self _
  refine h t1 t2 t h'.objs.size h2 _ g' ps' F' (fun b o hb hb' e => hk' b o hb (Heap.get?_push_of_some _ (hx b o hb' e))) (hk' _ _ hPL (Heap.get?_push_of_some _ hP')) ht' (hk' _ _ (nL _ l1) (Heap.get?_push_of_some _ a1)) (hk' _ _ (nL _ hl2) (Heap.get?_push_of_some _ a2)) (hk' _ _ (nL _ hl3) (Heap.get?_push_of_some _ a3))
    (hk' _ _ (nL _ (Nat.le_of_lt (Nat.lt_of_le_of_lt hl3 htl))) e1) l1 l2 l3 htl hb

end
section

/-- an answer and what is due at it: the same two rows of fields, as tuples of fields and as lists of letters -/
def Pair (ad : Nat → Addr) (G : List (Addr × Obj)) (vt vd : Value) : Prop :=
  ∃ (a0 a1 : List Nat) (t t1 t2 u u0 u1 : Addr) (c0 c1 : Nat) (vs0 vs1 : List Value), vt = .ref t ∧ vd = .ref u ∧ (∀ i ∈ a0, i < 8) ∧ (∀ i ∈ a1, i < 8) ∧ a0.length ≤ 8 ∧ a1.length ≤ 8 ∧
    (t, tupOf #[.ref t1, .ref t2]) ∈ G ∧ (t1, tupOf (a0.map fun i => Value.ref (ad (11 + i))).toArray) ∈ G ∧ (t2, tupOf (a1.map fun i => Value.ref (ad (11 + i))).toArray) ∈ G ∧
    (u, listOf #[.ref u0, .ref u1] 0) ∈ G ∧ (u0, listOf vs0.toArray c0) ∈ G ∧ (u1, listOf vs1.toArray c1) ∈ G ∧ StrsAre vs0 (a0.map letter) ∧ StrsAre vs1 (a1.map letter)
theorem Pair.mono {ad : Nat → Addr} {G G' : List (Addr × Obj)} {vt vd : Value} (k : ∀ p ∈ G, p ∈ G') (h : Pair ad G vt vd) : Pair ad G' vt vd := by
  obtain ⟨a0, a1, t, t1, t2, u, u0, u1, c0, c1, vs0, vs1, b1, b2, b3, b4, b5, b6, c1', c2', c3', c4', c5', c6', d1, d2⟩ := h
  exact ⟨a0, a1, t, t1, t2, u, u0, u1, c0, c1, vs0, vs1, b1, b2, b3, b4, b5, b6, k _ c1', k _ c2', k _ c3', k _ c4', k _ c5', k _ c6', d1, d2⟩

/-- the main loop's state -/
def J03 (prog : Program) (w : World) (ad : Nat → Addr) (i : Nat) (m : Str → Option Value) (news : List (Addr × Obj)) (g : Array GenState) : Prop :=
  AllBare g ∧ Mok ad m ∧ ∃ (φ : Nat → Obj) (G : List (Addr × Obj)) (b : Book) (told due : List Value), news = led ad φ G ∧ (∀ p ∈ G, ∀ i, i < 27 → p.1 ≠ ad i) ∧ b.Ok ∧ Good prog w ad φ b.perm b.perm b.ini b.kwo b.kwo b.side told due ∧ told.length = i + 1 ∧ due.length = i + 1 ∧
    ∀ (j : Nat) (vt vd : Value), told[j]? = some vt → due[j]? = some vd → Pair ad G vt vd

theorem led_append {ad : Nat → Addr} {φ : Nat → Obj} {G own : List (Addr × Obj)} : led ad φ G ++ own = led ad φ (G ++ own) := by unfold led; rw [List.append_assoc]

/-- the ledger without some that came in between -/
theorem St.drop {h₀ : Heap} {L : Addr} {ad : Nat → Addr} {h : Heap} {m : Str → Option Value} {φ : Nat → Obj} {G G' : List (Addr × Obj)} (S : St h₀ L ad h m φ G) (k : ∀ p ∈ G', p ∈ G) : St h₀ L ad h m φ G' :=
  ⟨S.fr, fun p hp => by
    rcases mem_led.mp hp with hp | hp
    · exact S.news p (mem_led.mpr (.inl hp))
    · exact S.news p (mem_led.mpr (.inr (k p hp))), S.inj, fun p hp => S.off p (k p hp)⟩

/-- an answer appended, and what is due at it -/
theorem pairs_snoc {ad : Nat → Addr} {G G' : List (Addr × Obj)} {told due : List Value} {i : Nat} {vt vd : Value} (ht : told.length = i) (hd : due.length = i) (k : ∀ p ∈ G, p ∈ G') (h : ∀ (j : Nat) (vt vd : Value), told[j]? = some vt → due[j]? = some vd → Pair ad G vt vd) (hn : Pair ad G' vt vd) :
    ∀ (j : Nat) (vt' vd' : Value), (told ++ [vt])[j]? = some vt' → (due ++ [vd])[j]? = some vd' → Pair ad G' vt' vd' := by
  intro j vt' vd' e1 e2
  rcases Nat.lt_or_ge j i with hj | hj
  · rw [List.getElem?_append_left (by omega)] at e1 e2
    exact (h j vt' vd' e1 e2).mono k
  · rw [List.getElem?_append_right (by omega)] at e1 e2
    have hj0 : j - told.length = 0 := by
      rcases Nat.eq_zero_or_pos (j - told.length) with h | h
      · exact h
      · rw [List.getElem?_eq_none (by simp; omega)] at e1; cases e1
    rw [hj0] at e1
    rw [hd, ← ht, hj0] at e2
    cases e1; cases e2
    exact hn

end
section

def lawDef (p : Program) : List Stmt × Scope := match p.main.body.getLast? with
  | some (.FunctionDef _ _ body _ _ _ scope ..) => (body, scope)
  | _ => ([], default)
def forBody : Option Stmt → List Stmt
  | some (.For _ _ body _ _) => body
  | _ => []
def body03 : List Stmt := (lawDef PySem.Challenge.pw_dm0039_03).1
def scope03 : Scope := (lawDef PySem.Challenge.pw_dm0039_03).2
def turn03 : List Stmt := forBody body03[8]?
abbrev env03 (L fa : Addr) (cd : Value) : Env := envOfC (Str.ofString "law") scope03 L fa cd

theorem eo03 {L fa : Addr} {cd : Value} : EO (env03 L fa cd) L (L + 1) (L + 1 + 1) := by
  refine ⟨rfl, rfl, rfl, rfl, rfl, rfl, rfl, rfl, ?_, ?_⟩
  · intro y hy
    simp only [List.mem_cons, List.not_mem_nil, or_false] at hy
    rcases hy with rfl | rfl | rfl | rfl | rfl | rfl | rfl | rfl | rfl | rfl | rfl | rfl <;> rfl
  · intro y hy
    simp only [List.mem_cons, List.not_mem_nil, or_false] at hy
    rcases hy with rfl | rfl | rfl | rfl <;> rfl
theorem int03 {L fa : Addr} {cd : Value} : interactive (env03 L fa cd) = false := rfl

end
section

/-- between two statements of the turn -/
def Mid03 (w : World) (s : Shared) (h₀ : Heap) (L : Addr) (ad : Nat → Addr) (G : List (Addr × Obj)) (g : Array GenState) (b : Book) (A : Bool → List Nat) (told due : List Value) (k : Nat) (t : Tok) (q : (Str → Option Value) → Prop) (f : Flow) (s' : Shared) : Prop :=
  f = .next ∧ ∃ h' tk m' φ', s' = { s with heap := h', toks := tk, gens := g } ∧ Mok ad m' ∧ q m' ∧ St h₀ L ad h' m' φ' G ∧ Good PySem.Challenge.rw_dm0039_03.row.prog w ad φ' b.perm b.perm b.ini b.kwo b.kwo A told due ∧ (φ' 1).data = .cell (some (.str (letter k) t))

theorem Mid03.cont {w : World} {s : Shared} {h₀ : Heap} {L : Addr} {ad : Nat → Addr} {G : List (Addr × Obj)} {g : Array GenState} {b : Book} {A : Bool → List Nat} {told due : List Value} {k : Nat} {t : Tok} {q : (Str → Option Value) → Prop}
    {Ar : Around} {env : Env} {st : Stmt} {rest : List Stmt} {Q : Flow → Shared → Prop} {s₁ : Shared} {prog : Program}
    (h : wpAny (model prog w) Ar (exec st env) (Mid03 w s h₀ L ad G g b A told due k t q) NoE s₁)
    (hc : ∀ h' tk m' φ', Mok ad m' → q m' → St h₀ L ad h' m' φ' G → Good PySem.Challenge.rw_dm0039_03.row.prog w ad φ' b.perm b.perm b.ini b.kwo b.kwo A told due → (φ' 1).data = .cell (some (.str (letter k) t)) →
      wpAny (model prog w) Ar (execs rest env) Q NoE { s with heap := h', toks := tk, gens := g }) :
    wpAny (model prog w) Ar (execs (st :: rest) env) Q NoE s₁ :=
  wpAny_execs_cons (wpAny_mono h (fun f s' hm => by
    obtain ⟨rfl, h', tk, m', φ', rfl, a, b, c, d, e⟩ := hm
    exact hc h' tk m' φ' a b c d e) fun _ _ e => e)

theorem wne {x y : Str} (h : x ≠ y) {m : Str → Option Value} {v : Value} {r : Option Value} (e : m x = r) : (fun z => if z = y then some v else m z) x = r := (if_neg h).trans e

set_option maxRecDepth 100000 in
set_option maxHeartbeats 8000000 in
theorem turn03_ok {w : World} {s : Shared} {h₀ h : Heap} {L fa : Addr} {cd : Value} {ad : Nat → Addr} {m mg mb : Str → Option Value} {p : Program} {loose : List Str} {mean : ExcName → Option Value} {i tk : Nat} {x : Int} {tx : Tok} {news own : List (Addr × Obj)} {g : Array GenState} {Q : Flow → Shared → Prop}
    (X : (hd03.heap_39 w.params).In h₀) (T : Top p loose mean mg mb h₀) (C : CodeHd h₀ 48 44) (h44 : ad 0 = 44) (hn : ad 1 = L + 1) (ho : ad 2 = L + 1 + 1) (inj : ∀ i j, i < 27 → j < 27 → ad i = ad j → i = j)
    (hJ : J03 PySem.Challenge.rw_dm0039_03.row.prog w ad i m news g) (hi : i ≤ 63) (hoff : ∀ p ∈ own, ∀ q ∈ news, p.1 ≠ q.1) (F : Fr h₀ L h (fun y => if y = Str.ofString "x" then some (.int x tx) else m y)) (N : News h₀ L h (news ++ own))
    (el : nsIn (hd03.heap_39 w.params) mainGlobals "list" = some none) (en : nsIn (hd03.heap_39 w.params) mainGlobals "len" = some none) (ef : nsIn (hd03.heap_39 w.params) mainGlobals "_fields_in_init_order" = some (some (.ref 49))) (hk : keepIn (hd03.heap_39 w.params) (.ref 49) = true) :
    wpAny (model PySem.Challenge.rw_dm0039_03.row.prog w) (callerA.deeper (env03 L fa cd)) (execs turn03 (env03 L fa cd)) (TurnEnd s h₀ L own (J03 PySem.Challenge.rw_dm0039_03.row.prog w ad (i + 1)) Q) NoE { s with heap := h, toks := tk, gens := g } := by
  obtain ⟨hgb, M0, φ, G, b, told, due, rfl, hGo, hb, Go, htl, hdl, hpairs⟩ := hJ
  have O : EO (env03 L fa cd) L (ad 1) (ad 2) := by rw [hn, ho]; exact eo03
  have FK := fieldK03 rfl X
  have hint : interactive (env03 L fa cd) = false := int03
  rw [led_append] at N
  have S0 : St h₀ L ad h _ φ (G ++ own) := ⟨F, N, inj, fun p hp j hj => by
    rcases List.mem_append.mp hp with hp | hp
    · exact hGo p hp j hj
    · exact hoff p hp (ad j, φ j) (mem_led.mpr (.inl ⟨j, hj, rfl⟩))⟩
  have M1 : Mok ad (fun y => if y = Str.ofString "x" then some (.int x tx) else m y) := M0.set (by decide)
  have hk8 : (x.fmod 8).toNat < 8 := by
    have h0 : 0 ≤ x.fmod 8 := Int.fmod_nonneg_of_pos _ (by decide)
    have h8 : x.fmod 8 < 8 := Int.fmod_lt_of_pos _ (by decide)
    omega
  generalize hkk : (x.fmod 8).toNat = k at hk8
  generalize hww : (x.fdiv 8).fmod 3 = what
  have hkm := hb.all k hk8
  obtain ⟨f1, f2⟩ := idxOf_first hkm
  have hjl : b.perm.idxOf k < 8 := hb.len ▸ List.idxOf_lt_length_of_mem hkm
  refine wpAny_execs_cons (s_name (s := { s with heap := h, toks := tk, gens := g }) O S0 Go (if_pos rfl) fun h1 tk1 o1 t1 S1 Go1 hc => ?_)
  rw [hkk] at hc
  refine wpAny_execs_cons (s_what (s := { s with heap := h1, toks := tk1, gens := g }) O S1 (if_pos rfl) fun h2 tk2 t2 S2 => ?_)
  rw [hww] at S2
  have M2 := M1.set (x := Str.ofString "what") (v := .int what t2) (by decide)
  have hw2 : (fun z => if z = Str.ofString "what" then some (Value.int what t2) else if z = Str.ofString "x" then some (Value.int x tx) else m z) (Str.ofString "what") = some (.int what t2) := if_pos rfl
  generalize (fun z => if z = Str.ofString "what" then some (Value.int what t2) else if z = Str.ofString "x" then some (Value.int x tx) else m z) = m2 at S2 M2 hw2
  have hc1 : (upd φ 1 o1 1).data = .cell (some (.str (letter k) t1)) := hc
  generalize upd φ 1 o1 = φ1 at S2 Go1 hc1
  refine wpAny_execs_cons (s_place (s := { s with heap := h2, toks := tk2, gens := g }) (j := b.perm.idxOf k) O S2 Go1 hc1 f1 f2 (by rw [hb.len]; decide) (fun h3 tk3 t3 S3 => ?_) ⟨_, rfl⟩)
  have M3 := M2.set (x := Str.ofString "place") (v := .int (b.perm.idxOf k : Nat) t3) (by decide)
  have hw3 := wne (x := Str.ofString "what") (y := Str.ofString "place") (by decide) (v := .int (b.perm.idxOf k : Nat) t3) hw2
  have hp3 : (fun z => if z = Str.ofString "place" then some (Value.int (b.perm.idxOf k : Nat) t3) else m2 z) (Str.ofString "place") = some (.int (b.perm.idxOf k : Nat) t3) := if_pos rfl
  generalize (fun z => if z = Str.ofString "place" then some (Value.int (b.perm.idxOf k : Nat) t3) else m2 z) = m3 at S3 M3 hw3 hp3
  refine wpAny_execs_cons (s_within (s := { s with heap := h3, toks := tk3, gens := g }) O S3 M3 Go1 hc1 fun h4 tk4 S4 => ?_)
  rw [within_eq hb hk8] at S4
  have M4 := M3.set (x := Str.ofString "within") (v := .bool (b.ini k)) (by decide)
  have hw4 := wne (x := Str.ofString "what") (y := Str.ofString "within") (by decide) (v := .bool (b.ini k)) hw3
  have hp4 := wne (x := Str.ofString "place") (y := Str.ofString "within") (by decide) (v := .bool (b.ini k)) hp3
  have hi4 : (fun z => if z = Str.ofString "within" then some (Value.bool (b.ini k)) else m3 z) (Str.ofString "within") = some (.bool (b.ini k)) := if_pos rfl
  generalize (fun z => if z = Str.ofString "within" then some (Value.bool (b.ini k)) else m3 z) = m4 at S4 M4 hw4 hp4 hi4
  -- if within: taken out
  refine Mid03.cont (s := s) (w := w) (h₀ := h₀) (L := L) (ad := ad) (G := G ++ own) (g := g) (b := b) (A := b.bare k) (told := told) (due := due) (k := k) (t := t1) (q := fun m' => m' = m4) (wpAny_If (isTrue_plain (rd_loc (s := { s with heap := h4, toks := tk4, gens := g }) O S4 hi4 (wpAny_truthy_bool ?_)))) ?_
  · cases hin : b.ini k with
    | true =>
      rw [if_pos rfl]
      obtain ⟨j, r1, r2, r3⟩ := removed_all hb hk8 hin
      refine wpAny_execs_cons (s_remove (s := { s with heap := h4, toks := tk4, gens := g }) (j := j) O S4 M4 Go1 hc1 hk8 r1 r2 (Nat.le_trans (side_len hb _) (by decide)) (fun h5 tk5 φ5 S5 Go5 hc5 => ?_) hint ⟨_, rfl⟩)
      rw [r3] at Go5
      exact wpAny_execs_nil ⟨rfl, h5, tk5, m4, φ5, rfl, M4, rfl, S5, Go5, hc5⟩
    | false =>
      rw [if_neg Bool.false_ne_true]
      rw [bare_not_in hin] at Go1
      exact wpAny_execs_nil ⟨rfl, h4, tk4, m4, φ1, rfl, M4, rfl, S4, Go1, hc1⟩
  clear S4 S3 S2 S1 S0 N F M3 M2 M1 M0 Go Go1 hc1 hc hw2 hw3 hp3
  rintro h5 tk5 m5 φ5 M5 rfl S5 Go5 hc5
  -- what is changed
  refine Mid03.cont (s := s) (w := w) (h₀ := h₀) (L := L) (ad := ad) (G := G ++ own) (g := g) (b := b.step k what) (A := b.bare k) (told := told) (due := due) (k := k) (t := t1) (q := fun m' => m' "within" = some (.bool ((b.step k what).ini k))) (wpAny_If (wpAny_isTrue_Compare1 (rd_loc (s := { s with heap := h5, toks := tk5, gens := g }) O S5 hw4 (wpAny_Constant_int (PyProof.Rows.eq_int (wpAny_truthy_bool ?_)))))) ?_
  · cases h0 : (what == 0) with
    | true =>
      have e0 : what = 0 := by simpa using h0
      have est : b.step k what = flipI b k := if_pos e0
      rw [if_pos rfl]
      refine wpAny_execs_cons (s_init (s := { s with heap := h5, toks := tk5 + 1, gens := g }) FK X O S5 M5 Go5 hp4 f1 (Nat.lt_trans hjl (by decide)) hk8 fun h6 tk6 φ6 S6 Go6 e6 => ?_)
      refine wpAny_execs_cons (s_not (s := { s with heap := h6, toks := tk6, gens := g }) O S6 hi4 fun h7 tk7 S7 => ?_)
      refine wpAny_execs_nil ⟨rfl, h7, tk7, _, φ6, rfl, M5.set (by decide), ?_, S7, ?_, by rw [e6]; exact hc5⟩
      · rw [est]
        refine (if_pos rfl).trans ?_
        show _ = some (Value.bool (flip1 b.ini k k))
        unfold flip1; rw [if_pos rfl]
      · rw [est]; exact Go6
    | false =>
      have n0 : ¬ what = 0 := by simpa using h0
      rw [if_neg Bool.false_ne_true]
      refine wpAny_execs_cons (wpAny_If (wpAny_isTrue_Compare1 (rd_loc (s := { s with heap := h5, toks := tk5 + 1, gens := g }) O S5 hw4 (wpAny_Constant_int (PyProof.Rows.eq_int (wpAny_truthy_bool ?_))))))
      cases h1 : (what == 1) with
      | true =>
        have e1 : what = 1 := by simpa using h1
        have est : b.step k what = flipK b k := (if_neg n0).trans (if_pos e1)
        rw [if_pos rfl]
        refine wpAny_execs_cons (s_kw (s := { s with heap := h5, toks := tk5 + 1 + 1, gens := g }) FK X O S5 M5 Go5 hp4 f1 (Nat.lt_trans hjl (by decide)) hk8 fun h6 tk6 φ6 S6 Go6 e6 => ?_)
        refine wpAny_execs_cons (s_mark (s := { s with heap := h6, toks := tk6, gens := g }) O S6 M5 Go6 (by rw [e6]; exact hc5) hk8 fun h7 tk7 φ7 S7 Go7 e7 => ?_)
        refine wpAny_execs_nil (wpAny_execs_nil ⟨rfl, h7, tk7, _, φ7, rfl, M5, ?_, S7, ?_, by rw [e7, e6]; exact hc5⟩)
        · rw [est]; exact hi4
        · rw [est]; exact Go7
      | false =>
        have n1 : ¬ what = 1 := by simpa using h1
        have est : b.step k what = goLast b k := (if_neg n0).trans (if_neg n1)
        rw [if_neg Bool.false_ne_true]
        refine wpAny_execs_cons (s_rowLast (s := { s with heap := h5, toks := tk5 + 1 + 1, gens := g }) O S5 M5 Go5 hp4 f1 (by rw [hb.len]; decide) (fun h6 tk6 φ6 S6 Go6 e6 => ?_) hint ⟨_, rfl⟩ ⟨_, rfl⟩)
        refine wpAny_execs_cons (s_ordLast (s := { s with heap := h6, toks := tk6, gens := g }) O S6 Go6 hp4 f1 (by rw [hb.len]; decide) (fun h7 tk7 φ7 S7 Go7 e7 => ?_) hint ⟨_, rfl⟩ ⟨_, rfl⟩)
        rw [eraseIdx_idxOf hb.nodup hkm] at Go7
        refine wpAny_execs_nil (wpAny_execs_nil ⟨rfl, h7, tk7, _, φ7, rfl, M5, ?_, S7, ?_, by rw [e7, e6]; exact hc5⟩)
        · rw [est]; exact hi4
        · rw [est]; exact Go7
  clear S5 M5 Go5 hc5 hw4 hp4 hi4
  intro h6 tk6 m6 φ6 M6 hi6 S6 Go6 hc6
  have hb' := hb.step hk8 what
  -- if within: put in anew
  refine Mid03.cont (s := s) (w := w) (h₀ := h₀) (L := L) (ad := ad) (G := G ++ own) (g := g) (b := b.step k what) (A := (b.step k what).side) (told := told) (due := due) (k := k) (t := t1) (q := fun m' => True) (wpAny_If (isTrue_plain (rd_loc (s := { s with heap := h6, toks := tk6, gens := g }) O S6 hi6 (wpAny_truthy_bool ?_)))) ?_
  · cases hin : (b.step k what).ini k with
    | true =>
      rw [if_pos rfl]
      refine wpAny_execs_cons (s_ahead (s := { s with heap := h6, toks := tk6, gens := g }) O S6 M6 Go6 hc6 hk8 (hb'.all k hk8) (fun j hj => bare_mem hb hk8 _ what hj) (by rw [hb'.len]; decide) (Nat.le_trans (bare_len hb _ _) (by decide)) rfl rfl (by rw [hn, ho]; rfl) ?cell rfl ?names rfl ?ck (fun _ => ⟨_, rfl⟩) (fun _ => ⟨_, rfl⟩) fun h7 tk7 D kk ys hys S7 => ?_)
      case cell => decide
      case names => decide
      case ck => intro C; exact ⟨rfl, rfl, rfl⟩
      obtain ⟨p1, p2⟩ := put_in hb hk8 hin hys
      refine wpAny_execs_cons (s_insert (s := { s with heap := h7, toks := tk7, gens := g }) (D := D) (ys := ys) (k := kk) X T en O S7 (M6.set (by decide)) Go6 hc6 hk8 (if_pos rfl) (.head _) p2 (Nat.le_trans (bare_len hb _ _) (by decide)) (fun h8 tk8 φ8 S8 Go8 hc8 => ?_) hint ⟨_, rfl⟩)
      rw [p1] at Go8
      exact wpAny_execs_nil ⟨rfl, h8, tk8, _, φ8, rfl, M6.set (by decide), trivial, S8.drop fun p hp => .tail _ hp, Go8, hc8⟩
    | false =>
      rw [if_neg Bool.false_ne_true]
      rw [put_out hb hk8 hin] at Go6
      exact wpAny_execs_nil ⟨rfl, h6, tk6, m6, φ6, rfl, M6, trivial, S6, Go6, hc6⟩
  clear S6 M6 Go6 hc6 hi6
  intro h7 tk7 m7 φ7 M7 _ S7 Go7 hc7
  generalize b.step k what = b' at hb' Go7
  -- the answer
  refine wpAny_execs_cons (s_told (s := { s with heap := h7, toks := tk7, gens := g }) X T C h44 O S7 M7 Go7 hb'.lt (by rw [hb'.len]; decide) (by omega) ef hk (fun ta tb t h8 tk8 g8 φ8 S8 Go8 la lb lt hbare => ?_) hint ⟨_, rfl⟩)
  rw [side_f, side_t] at S8
  have hown : ∀ p ∈ own, p.1 < h7.objs.size := fun p hp => Heap.lt_size (S7.g (List.mem_append_right _ hp))
  have hsz : h7.objs.size ≤ h8.objs.size := Nat.le_trans lt (Nat.le_of_lt (Heap.lt_size (S8.g (.head _))))
  refine wpAny_execs_cons (s_due (s := { s with heap := h8, toks := tk8, gens := g8 }) X T el O S8 M7 Go8 (fun k => Nat.le_trans (side_len hb' k) (by decide)) (by omega) (fun h9 tk9 φ9 u0 u1 u c0 c1 vs0 vs1 S9 Go9 hs0 hs1 l0 l1 lu _ => ?_) hint ⟨_, rfl⟩)
  refine wpAny_execs_nil ⟨h9, tk9, g8, m7, led ad φ9 ((u, listOf #[.ref u0, .ref u1] 0) :: (u1, listOf vs1.toArray c1) :: (u0, listOf vs0.toArray c0) :: (t, tupOf #[.ref ta, .ref tb]) :: (tb, tupOf ((b'.side true).map fun i => Value.ref (ad (11 + i))).toArray) :: (ta, tupOf ((b'.side false).map fun i => Value.ref (ad (11 + i))).toArray) :: G),
    rfl, S9.fr, ?news, ?off, hbare hgb, M7, φ9, _, b', told ++ [.ref t], due ++ [.ref u], rfl, ?offG, hb', Go9, ?lt, ?ld, ?pairs⟩
  case news =>
    rw [led_append]
    exact S9.news
  case offG =>
    intro p hp j hj
    refine S9.off p ?_ j hj
    have : p ∈ ((u, listOf #[.ref u0, .ref u1] 0) :: (u1, listOf vs1.toArray c1) :: (u0, listOf vs0.toArray c0) :: (t, tupOf #[.ref ta, .ref tb]) :: (tb, tupOf ((b'.side true).map fun i => Value.ref (ad (11 + i))).toArray) :: (ta, tupOf ((b'.side false).map fun i => Value.ref (ad (11 + i))).toArray) :: G) ++ own := List.mem_append_left _ hp
    exact this
  case off =>
    intro p hp q hq
    have hpl := hown p hp
    rcases mem_led.mp hq with ⟨j, hj, rfl⟩ | hq
    · exact hoff p hp (ad j, φ j) (mem_led.mpr (.inl ⟨j, hj, rfl⟩))
    · simp only [List.mem_cons] at hq
      rcases hq with rfl | rfl | rfl | rfl | rfl | rfl | hq
      · exact Nat.ne_of_lt (Nat.lt_of_lt_of_le hpl (Nat.le_trans hsz lu))
      · exact Nat.ne_of_lt (Nat.lt_of_lt_of_le hpl (Nat.le_trans hsz l1))
      · exact Nat.ne_of_lt (Nat.lt_of_lt_of_le hpl (Nat.le_trans hsz l0))
      · exact Nat.ne_of_lt (Nat.lt_of_lt_of_le hpl lt)
      · exact Nat.ne_of_lt (Nat.lt_of_lt_of_le hpl lb)
      · exact Nat.ne_of_lt (Nat.lt_of_lt_of_le hpl la)
      · exact hoff p hp q (mem_led.mpr (.inr hq))
  case lt => rw [List.length_append, htl]; rfl
  case ld => rw [List.length_append, hdl]; rfl
  case pairs =>
    refine pairs_snoc htl hdl (fun p hp => .tail _ (.tail _ (.tail _ (.tail _ (.tail _ (.tail _ hp)))))) hpairs ?_
    refine ⟨b'.side false, b'.side true, t, ta, tb, u, u0, u1, c0, c1, vs0, vs1, rfl, rfl, fun j hj => hb'.lt j (List.mem_filter.mp hj).1, fun j hj => hb'.lt j (List.mem_filter.mp hj).1, side_len hb' _, side_len hb' _, ?_, ?_, ?_, ?_, ?_, ?_, hs0, hs1⟩ <;> simp

end
section

def letterData (l : List Nat) : PyData := .list (l.map fun i => .str (letter i))
def twoData (a0 a1 : List Nat) : PyData := .list [letterData a0, letterData a1]

theorem letters_ok : ∀ {l : List Nat}, (∀ i ∈ l, i < 8) → PyData.canLayAll0 (l.map fun i => .str (letter i)) = true ∧ PyData.depthAll (l.map fun i => .str (letter i)) = 0
  | [], _ => ⟨rfl, rfl⟩
  | i :: l, h => by
    obtain ⟨a, b⟩ := letters_ok (l := l) fun j hj => h j (.tail _ hj)
    have hi := h i (.head _)
    have hs : PyData.strOk (letter i) = true := by
      unfold letter PyData.strOk
      simp
      omega
    constructor
    · rw [List.map_cons, PyData.canLayAll0, PyData.canLay0, a, hs]; rfl
    · rw [List.map_cons, PyData.depthAll, PyData.depth, b]; rfl
theorem two_ok {a0 a1 : List Nat} (h0 : ∀ i ∈ a0, i < 8) (h1 : ∀ i ∈ a1, i < 8) : (twoData a0 a1).canLay0 = true ∧ (twoData a0 a1).depth ≤ 2 := by
  obtain ⟨p, q⟩ := letters_ok h0
  obtain ⟨p', q'⟩ := letters_ok h1
  unfold twoData letterData
  simp [PyData.canLay0, PyData.canLayAll0, PyData.depth, PyData.depthAll, p, q, p', q']

/-- a list of two lists of letters, in a ledger -/
def RL (fam : List (Addr × Obj)) (v : Value) (a0 a1 : List Nat) : Prop :=
  ∃ (D d1 d2 : Addr) (k k1 k2 : Nat) (vs1 vs2 : List Value), v = .ref D ∧ (D, listOf #[.ref d1, .ref d2] k) ∈ fam ∧ (d1, listOf vs1.toArray k1) ∈ fam ∧ (d2, listOf vs2.toArray k2) ∈ fam ∧ StrsAre vs1 (a0.map letter) ∧ StrsAre vs2 (a1.map letter)
theorem RL.mono {fam fam' : List (Addr × Obj)} {v : Value} {a0 a1 : List Nat} (k : ∀ p ∈ fam, p ∈ fam') (h : RL fam v a0 a1) : RL fam' v a0 a1 := by
  obtain ⟨D, d1, d2, kk, k1, k2, vs1, vs2, a, b, c, d, e, f⟩ := h
  exact ⟨D, d1, d2, kk, k1, k2, vs1, vs2, a, k _ b, k _ c, k _ d, e, f⟩
theorem RL.reads {fam : List (Addr × Obj)} {v : Value} {a0 a1 : List Nat} {h : Heap} (H : RL fam v a0 a1) (hf : ∀ p ∈ fam, h.get? p.1 = some p.2) : ∃ as, Reads h v (twoData a0 a1) as := by
  obtain ⟨D, d1, d2, kk, k1, k2, vs1, vs2, rfl, b, c, d, e, f⟩ := H
  have r1 : Reads h (.ref d1) (letterData a0) _ := .list (hf _ c) rfl rfl (by have := strs_readAll h e; rw [List.map_map] at this; exact this)
  have r2 : Reads h (.ref d2) (letterData a1) _ := .list (hf _ d) rfl rfl (by have := strs_readAll h f; rw [List.map_map] at this; exact this)
  exact ⟨_, .list (hf _ b) rfl rfl (.cons r1 (.cons r2 .nil))⟩

theorem reads_both {h : Heap} : ∀ {ys ds : List Value}, ys.length = ds.length → (∀ (j : Nat) (y d : Value), ys[j]? = some y → ds[j]? = some d → ∃ x as bs, Reads h y x as ∧ Reads h d x bs ∧ x.canLay0 = true ∧ x.depth ≤ 2) →
    ∃ xs as bs, ReadsAll h ys xs as ∧ ReadsAll h ds xs bs ∧ PyData.canLayAll0 xs = true ∧ PyData.depthAll xs ≤ 2
  | [], [], _, _ => ⟨[], _, _, .nil, .nil, rfl, Nat.zero_le _⟩
  | [], _ :: _, e, _ => by cases e
  | _ :: _, [], e, _ => by cases e
  | y :: ys, d :: ds, e, H => by
    obtain ⟨xs, as, bs, r1, r2, c, dp⟩ := reads_both (h := h) (ys := ys) (ds := ds) (by simpa using e) fun j y' d' e1 e2 => H (j + 1) y' d' (by simpa using e1) (by simpa using e2)
    obtain ⟨x, as', bs', q1, q2, c', dp'⟩ := H 0 y d rfl rfl
    refine ⟨x :: xs, _, _, .cons q1 r1, .cons q2 r2, ?_, ?_⟩
    · rw [PyData.canLayAll0, c, c']; rfl
    · rw [PyData.depthAll]; omega

def end03 : List Stmt := body03.drop 9

set_option maxRecDepth 100000 in
set_option maxHeartbeats 8000000 in
theorem end03_ok {w : World} {s : Shared} {h₀ : Heap} {L fa : Addr} {cd : Value} {ad : Nat → Addr} {m : Str → Option Value} {i : Nat} {news : List (Addr × Obj)} {Q : Flow → Shared → Prop} {E : Value → Shared → Prop}
    (X : (hd03.heap_39 w.params).In h₀) (hn : ad 1 = L + 1) (ho : ad 2 = L + 1 + 1) (inj : ∀ i j, i < 27 → j < 27 → ad i = ad j → i = j)
    (hJ : J03 PySem.Challenge.rw_dm0039_03.row.prog w ad i m news s.gens) (hi : i ≤ 63) (F : Fr h₀ L s.heap m) (N : News h₀ L s.heap news)
    (h : ∀ h' tk, Sub s.heap h' → Q (.ret (.bool true)) { s with heap := h', toks := tk }) :
    wpAny (model PySem.Challenge.rw_dm0039_03.row.prog w) (callerA.deeper (env03 L fa cd)) (execs end03 (env03 L fa cd)) Q E s := by
  obtain ⟨hgb, M, φ, G, b, told, due, rfl, hGo, hb, Go, htl, hdl, hpairs⟩ := hJ
  have O : EO (env03 L fa cd) L (ad 1) (ad 2) := by rw [hn, ho]; exact eo03
  have FK := fieldK03 rfl X
  have S0 : St h₀ L ad s.heap m φ G := ⟨F, N, inj, hGo⟩
  obtain ⟨nt, et⟩ := Go.tl
  obtain ⟨nd, ed⟩ := Go.du
  have ht9 : s.heap.get? (ad 9) = some (listOf told.toArray nt) := (S0.at (by decide)).trans (by rw [et])
  have ht10 : s.heap.get? (ad 10) = some (listOf due.toArray nd) := (S0.at (by decide)).trans (by rw [ed])
  have named : ∀ i, i < 8 → Named PySem.Challenge.rw_dm0039_03.row.prog w s.heap (.ref (ad (11 + i))) (letter i) := fun i h8 A E t Q hk hQ => by
    obtain ⟨t1, t2, t3, tn, e⟩ := Go.dct i h8
    have a1 := hk _ _ (S0.at (i := 11 + i) (by omega))
    have a2 := hk _ _ (S0.at (i := 19 + i) (by omega))
    rw [Go.one i h8] at a1
    rw [e] at a2
    exact (get_fld FK ((X.keeps S0.fr.keep).keeps hk) a1 a2).1 (hQ _ _)
  have namesOk : ∀ (a : List Nat), (∀ i ∈ a, i < 8) → a.length ≤ 8 → NamesOk PySem.Challenge.rw_dm0039_03.row.prog w s.heap (a.map fun i => Value.ref (ad (11 + i))) (a.map letter) := fun a ha hl => by
    refine ⟨by simp, by rw [List.length_map]; exact Nat.le_trans hl (by decide), fun j v x e1 e2 => ?_⟩
    rw [List.getElem?_map] at e1 e2
    obtain ⟨i, hi, rfl⟩ := Option.map_eq_some_iff.mp e1
    rw [hi] at e2
    cases e2
    exact named i (ha i (List.mem_of_getElem? hi))
  refine wpAny_execs_cons (wpAny_Return_some (wpAny_Compare1 ?_))
  refine comp_S (cl := []) (n := told.toArray.size) (Pi := fun i v => told.toArray[i]? = some v)
    (fun i ys fam => ys.length = i ∧ ∀ (j : Nat) (y vd : Value), ys[j]? = some y → due[j]? = some vd → ∃ a0 a1, (∀ i ∈ a0, i < 8) ∧ (∀ i ∈ a1, i < 8) ∧ RL fam y a0 a1 ∧ RL G vd a0 a1) rfl rfl (by decide) rfl (by decide) rfl
    ⟨rfl, fun j y vd e => by simp at e⟩ (fun i ys fam h => Nat.le_of_eq h.1) (by rw [List.size_toArray, htl]; exact Nat.le_trans (Nat.succ_le_succ hi) (by decide)) ?_
  refine rd_loc O S0 M.told ⟨SSrc.list ⟨_, ht9, rfl, nt, rfl⟩, ?_, ?_⟩
  · rintro C q v h1 tk m₃ fam ys hin hv ⟨hyl, hys⟩ hC hmx hCs hk hfam
    have hv' : told[q]? = some v := by simpa using hv
    have hq : q < due.length := by
      have h1 : q < told.length := by simpa using hin
      omega
    obtain ⟨a0, a1, t, t1, t2, u, u0, u1, c0, c1, vs0, vs1, rfl, hvd, ha0, ha1, hl0, hl1, g1, g2, g3, g4, g5, g6, hs0, hs1⟩ := hpairs q v due[q] hv' (by simp [hq])
    refine names_two (s := { s with heap := h1, toks := tk }) (env := compEnvC _ [] C (env03 L fa cd)) rfl ⟨rfl, by decide, rfl, by decide, rfl⟩ (fun C' => ⟨rfl, by decide, rfl, by decide, rfl⟩) ?_
    refine name_loc (s := { s with heap := h1, toks := tk }) (m := m₃) (v := .ref t) hC hmx ?_ rfl rfl (by decide)
    refine ⟨t, t1, t2, _, _, _, _, rfl, hk _ _ (S0.g g1), hk _ _ (S0.g g2), hk _ _ (S0.g g3), (namesOk a0 ha0 hl0).keeps hk, (namesOk a1 ha1 hl1).keeps hk, ?_⟩
    intro D d1 d2 h2 tk2 ws1 ws2 k k1 k2 hk2 lD l1 l2 e e1 e2 hw1 hw2
    refine ⟨h2, tk2, [(D, listOf #[.ref d1, .ref d2] k), (d1, listOf ws1.toArray k1), (d2, listOf ws2.toArray k2)], rfl, hk2, fun p hp => ?_, by rw [List.length_append, hyl]; rfl, fun j y vd ey ed => ?_⟩
    · simp only [List.mem_cons, List.not_mem_nil, or_false] at hp
      rcases hp with rfl | rfl | rfl
      · exact ⟨lD, e⟩
      · exact ⟨l1, e1⟩
      · exact ⟨l2, e2⟩
    · rcases Nat.lt_or_ge j q with hj | hj
      · rw [List.getElem?_append_left (by omega)] at ey
        obtain ⟨b0, b1, hb0, hb1, r1, r2⟩ := hys j y vd ey ed
        exact ⟨b0, b1, hb0, hb1, r1.mono fun p hp => List.mem_append_right _ hp, r2⟩
      · have hjq : j = q := by
          rcases Nat.lt_or_ge q j with h | h
          · rw [List.getElem?_eq_none (by rw [List.length_append, hyl]; exact h)] at ey; cases ey
          · omega
        subst hjq
        rw [List.getElem?_append_right (by omega), hyl, Nat.sub_self] at ey
        cases ey
        rw [List.getElem?_eq_getElem hq, hvd] at ed
        cases ed
        exact ⟨a0, a1, ha0, ha1, ⟨D, d1, d2, k, k1, k2, ws1, ws2, rfl, by simp, by simp, by simp, hw1, hw2⟩, ⟨u, u0, u1, 0, c0, c1, vs0, vs1, rfl, g4, g5, g6, hs0, hs1⟩⟩
  · rintro D h1 tk ys fam k ⟨hyl, hys⟩ hk hD hDl hfam
    refine rd_loc (s := { s with heap := h1, toks := tk }) O (S0.keeps hk) M.due ?_
    have hlen : ys.length = due.length := by rw [hyl, List.size_toArray, htl, hdl]
    obtain ⟨xs, as, bs, r1, r2, hc, hdp⟩ := reads_both (h := h1) hlen fun j y d ey ed => by
      obtain ⟨a0, a1, h0, h1', r1, r2⟩ := hys j y d ey ed
      obtain ⟨as, q1⟩ := r1.reads (h := h1) fun p hp => (hfam p hp).2.2
      obtain ⟨bs, q2⟩ := r2.reads (h := h1) fun p hp => hk _ _ (S0.g hp)
      obtain ⟨c, dp⟩ := two_ok h0 h1'
      exact ⟨_, as, bs, q1, q2, c, dp⟩
    have hsh : SeqAt.shaped (.list xs) = true := by
      unfold SeqAt.shaped
      rw [PyData.canLay0, hc, PyData.depth, Bool.true_and, decide_eq_true_eq]
      omega
    refine SeqAt.compareEq_shaped (s := { s with heap := h1, toks := tk }) (.list hDl rfl rfl r1) (.list (hk _ _ ht10) rfl rfl r2) hsh hsh (by units_room) ?_
    rw [SeqAt.eqv_refl _ (SeqAt.canLay_of_shaped hsh)]
    exact h h1 tk hk

end
section

section
variable (L R OA dm s0 s1 sd tl du : Addr) (one dct : Nat → Addr)
/-- the 27 places -/
def ad03 (n : Nat) : Addr :=
  if n < 11 then (match n with | 0 => 44 | 1 => L + 1 | 2 => L + 1 + 1 | 3 => R | 4 => OA | 5 => dm | 6 => sd | 7 => s0 | 8 => s1 | 9 => tl | _ => du)
  else if n < 19 then one (n - 11) else dct (n - 19)
/-- the same ones, in their order -/
def sq03 (k : Nat) : Addr :=
  if k < 4 then (match k with | 0 => 44 | 1 => L + 1 | 2 => L + 1 + 1 | _ => R)
  else if k < 20 then (if k % 2 = 0 then dct ((k - 4) / 2) else one ((k - 4) / 2))
  else (match k with | 20 => OA | 21 => dm | 22 => s0 | 23 => s1 | 24 => sd | 25 => tl | _ => du)
end
def rk03 (n : Nat) : Nat :=
  if n < 11 then (match n with | 0 => 0 | 1 => 1 | 2 => 2 | 3 => 3 | 4 => 20 | 5 => 21 | 6 => 24 | 7 => 22 | 8 => 23 | 9 => 25 | _ => 26)
  else if n < 19 then 5 + 2 * (n - 11) else 4 + 2 * (n - 19)

set_option maxRecDepth 100000 in
theorem rk03_inj : ∀ i, i < 27 → ∀ j, j < 27 → rk03 i = rk03 j → i = j := by decide +kernel
theorem rk03_le : ∀ i, i < 27 → rk03 i < 27 := by decide +kernel

theorem mono_of {sq : Nat → Addr} (h : ∀ k, k < 26 → sq k < sq (k + 1)) : ∀ i j, i < j → j < 27 → sq i < sq j := by
  intro i j hij hj
  induction j with
  | zero => cases hij
  | succ j ih =>
    rcases Nat.lt_or_ge i j with h' | h'
    · exact Nat.lt_trans (ih h' (by omega)) (h j (by omega))
    · have : i = j := by omega
      subst this; exact h i (by omega)
theorem gap_of {sq : Nat → Addr} (h : ∀ i j, i < j → j < 27 → sq i < sq j) {k : Nat} (hk : k < 26) {x : Addr} (h1 : sq k < x) (h2 : x < sq (k + 1)) : ∀ j, j < 27 → x ≠ sq j := by
  intro j hj e
  subst e
  rcases Nat.lt_or_ge k j with h' | h'
  · rcases Nat.lt_or_ge (k + 1) j with h3 | h3
    · exact Nat.lt_asymm h2 (h _ _ h3 hj)
    · have : j = k + 1 := by omega
      subst this; exact Nat.lt_irrefl _ h2
  · rcases Nat.lt_or_ge j k with h3 | h3
    · exact Nat.lt_asymm h1 (h _ _ h3 (by omega))
    · have : j = k := by omega
      subst this; exact Nat.lt_irrefl _ h1

section
variable {L R OA dm s0 s1 sd tl du : Addr} {one dct : Nat → Addr}
theorem ad_sq : ∀ i, i < 27 → ad03 L R OA dm s0 s1 sd tl du one dct i = sq03 L R OA dm s0 s1 sd tl du one dct (rk03 i) := fun i hi =>
  match i, hi with
  | 0, _ => rfl
  | 1, _ => rfl
  | 2, _ => rfl
  | 3, _ => rfl
  | 4, _ => rfl
  | 5, _ => rfl
  | 6, _ => rfl
  | 7, _ => rfl
  | 8, _ => rfl
  | 9, _ => rfl
  | 10, _ => rfl
  | 11, _ => rfl
  | 12, _ => rfl
  | 13, _ => rfl
  | 14, _ => rfl
  | 15, _ => rfl
  | 16, _ => rfl
  | 17, _ => rfl
  | 18, _ => rfl
  | 19, _ => rfl
  | 20, _ => rfl
  | 21, _ => rfl
  | 22, _ => rfl
  | 23, _ => rfl
  | 24, _ => rfl
  | 25, _ => rfl
  | 26, _ => rfl
  | n + 27, h => absurd h (by omega)
theorem ad_one {i : Nat} (hi : i < 8) : ad03 L R OA dm s0 s1 sd tl du one dct (11 + i) = one i := by
  unfold ad03; rw [if_neg (by omega), if_pos (by omega), Nat.add_sub_cancel_left]
theorem ad_dct {i : Nat} : ad03 L R OA dm s0 s1 sd tl du one dct (19 + i) = dct i := by
  unfold ad03; rw [if_neg (by omega), if_neg (by omega), Nat.add_sub_cancel_left]
theorem sq_step {P : Params} {ys : List Value} {fam : List (Addr × Obj)} (FS : Fields P R 8 ys fam one dct) (h44 : 44 < L) (hR : L + 1 + 1 < R) (hO : one 7 < OA) (hm : OA < dm) (h0 : dm < s0) (h1 : s0 < s1) (h2 : s1 < sd) (h3 : sd < tl) (h4 : tl < du) :
    ∀ k, k < 26 → sq03 L R OA dm s0 s1 sd tl du one dct k < sq03 L R OA dm s0 s1 sd tl du one dct (k + 1) := fun k hk =>
  match k, hk with
  | 0, _ => Nat.lt_succ_of_lt h44
  | 1, _ => Nat.lt_succ_self _
  | 2, _ => hR
  | 3, _ => (FS.lt 0 (by decide)).1
  | 4, _ => (FS.lt 0 (by decide)).2
  | 5, _ => FS.up 0 1 (by decide) (by decide)
  | 6, _ => (FS.lt 1 (by decide)).2
  | 7, _ => FS.up 1 2 (by decide) (by decide)
  | 8, _ => (FS.lt 2 (by decide)).2
  | 9, _ => FS.up 2 3 (by decide) (by decide)
  | 10, _ => (FS.lt 3 (by decide)).2
  | 11, _ => FS.up 3 4 (by decide) (by decide)
  | 12, _ => (FS.lt 4 (by decide)).2
  | 13, _ => FS.up 4 5 (by decide) (by decide)
  | 14, _ => (FS.lt 5 (by decide)).2
  | 15, _ => FS.up 5 6 (by decide) (by decide)
  | 16, _ => (FS.lt 6 (by decide)).2
  | 17, _ => FS.up 6 7 (by decide) (by decide)
  | 18, _ => (FS.lt 7 (by decide)).2
  | 19, _ => hO
  | 20, _ => hm
  | 21, _ => h0
  | 22, _ => h1
  | 23, _ => h2
  | 24, _ => h3
  | 25, _ => h4
  | n + 26, h => absurd h (by omega)
end

end
section

def tail03 : List Stmt := body03.drop 5

set_option maxRecDepth 100000 in
set_option maxHeartbeats 8000000 in
theorem tail03_ok {w : World} {s : Shared} {h₀ : Heap} {L fa R OA dm l : Addr} {cd : Value} {m mg mb : Str → Option Value} {p : Program} {loose : List Str} {mean : ExcName → Option Value} {ps : Array Value} {oc oc2 om : Obj} {v0 : Option Value}
    {ys vs : List Value} {acc : Array Value} {k c1 : Nat} {ns : List Int} {kvs : List (Str × Value)} {fam : List (Addr × Obj)} {one dct : Nat → Addr} {Q : Flow → Shared → Prop} {E : Value → Shared → Prop}
    (X : (hd03.heap_39 w.params).In h₀) (T : Top p loose mean mg mb h₀) (C : CodeHd h₀ 48 44) (F : Fr h₀ L s.heap m)
    (hms : m "script" = some (.ref l)) (hmr : m "row" = some (.ref R)) (hmm : m "marks" = some (.ref dm))
    (N : News h₀ L s.heap ((L + 1, oc) :: (dm, om) :: (R, listOf ys.toArray k) :: (L + 1 + 1, oc2) :: (44, tabObj ps) :: fam ++ [(OA, listOf acc c1)]))
    (ht : TriplesOk ps.toList) (hoc : oc.data = .cell v0) (hd2 : oc2.data = .cell (some (.ref OA))) (hacc : StrsAre acc.toList ([0, 1, 2, 3, 4, 5, 6, 7].map letter)) (hid : om.IsDictOf (strKind PySem.Challenge.rw_dm0039_03.row.prog w) kvs) (hkl : kvs.length ≤ 8)
    (hkv : ∀ j, j < 8 → ∃ t, valueAt kvs (letter j) = some (.int 0 t)) (FS : Fields w.params R 8 ys fam one dct) (h44 : 44 < L) (hR : L + 1 + 1 < R) (hO : ∀ q ∈ fam, q.1 < OA) (hm : OA < dm)
    (hl : h₀.IsList l vs.toArray) (hi : IntsAre vs ns) (hlen : ns.length ≤ 63) (hgb : AllBare s.gens)
    (el : nsIn (hd03.heap_39 w.params) mainGlobals "list" = some none) (en : nsIn (hd03.heap_39 w.params) mainGlobals "len" = some none) (ef : nsIn (hd03.heap_39 w.params) mainGlobals "_fields_in_init_order" = some (some (.ref 49))) (hk : keepIn (hd03.heap_39 w.params) (.ref 49) = true)
    (h : ∀ h' tk g', Sub h₀ h' → AllBare g' → (∃ ps, h'.get? 44 = some (tabObj ps)) → Q (.ret (.bool true)) { s with heap := h', toks := tk, gens := g' }) :
    wpAny (model PySem.Challenge.rw_dm0039_03.row.prog w) (callerA.deeper (env03 L fa cd)) (execs tail03 (env03 L fa cd)) Q E s := by
  have O : EO (env03 L fa cd) L (L + 1) (L + 1 + 1) := eo03
  have g1 := N (L + 1, oc) (.head _)
  have gm := N (dm, om) (.tail _ (.head _))
  have gR := N (R, listOf ys.toArray k) (.tail _ (.tail _ (.head _)))
  have g2 := N (L + 1 + 1, oc2) (.tail _ (.tail _ (.tail _ (.head _))))
  have g44 := N (44, tabObj ps) (.tail _ (.tail _ (.tail _ (.tail _ (.head _)))))
  have gO := N (OA, listOf acc c1) (List.mem_append_right _ (.head _))
  have gF : ∀ q ∈ fam, _ := fun q hq => N q (List.mem_append_left _ (.tail _ (.tail _ (.tail _ (.tail _ (.tail _ hq))))))
  dsimp only at g1 gm gR g2 g44 gO
  have hacc8 : acc.size = 8 := by have := strs_len hacc; simpa using this
  have sz : ∀ {b o}, s.heap.get? b = some o → b < s.heap.objs.size := fun e => Heap.lt_size e
  refine wpAny_execs_cons (s_sides0 X T el O F g2.1 hd2 gO.1 (by rw [hacc8]; decide) fun h1 tk1 s0 s1 sd c0 F1 k1 e0 e1 esd l0 l1 l2 => ?_)
  have up1 : ∀ b o, b ≠ L → s.heap.get? b = some o → h1.get? b = some o := k1
  have hsz1 : s.heap.objs.size ≤ h1.objs.size := Nat.le_of_lt (Nat.lt_of_le_of_lt l0 (Heap.lt_size e0))
  have hsd1 : sd < h1.objs.size := Heap.lt_size esd
  have nL : ∀ b, s.heap.objs.size ≤ b → b ≠ L := fun b hb e => Nat.lt_irrefl _ (Nat.lt_of_lt_of_le F.ns.lt (e ▸ hb))
  have n44 : ∀ b, 44 < b → b ≠ 44 := fun b hb e => Nat.lt_irrefl _ (e ▸ hb)
  have hR44 : R ≠ 44 := n44 _ (Nat.lt_trans h44 (Nat.lt_of_succ_lt (Nat.lt_of_succ_lt hR)))
  have hfR : ∀ q ∈ fam, q.1 ≠ 44 := fun q hq => n44 _ (Nat.lt_trans (Nat.lt_trans h44 (Nat.lt_of_succ_lt (Nat.lt_of_succ_lt hR))) (FS.big q hq))
  have hys : ∀ v ∈ ys, ∃ j, j < 8 ∧ v = .ref (one j) := fun v hv => by
    obtain ⟨j, hj, e⟩ := List.mem_iff_getElem.mp hv
    have hj8 : j < 8 := by have := FS.len; omega
    have := (FS.at_ j hj8).1
    rw [List.getElem?_eq_getElem hj, e] at this
    exact ⟨j, hj8, Option.some.inj this⟩
  refine wpAny_execs_cons (s_told0 (s := { s with heap := h1, toks := tk1 }) X T C O F1 ((if_neg (by decide : ¬ Str.ofString "row" = Str.ofString "sides")).trans hmr) (up1 _ _ g44.2.1 g44.1) g44.2.2 g44.2.1 ht hR44 (up1 _ _ gR.2.1 gR.1) (by rw [FS.len]; decide) (fun v hv => ?_) ef hk
    fun t1 t2 t tl h2 tk2 g' ps' F2 k2 e44 ht' a1 a2 a3 atl lt1 lt2 lt3 lt4 hb => ?_)
  · obtain ⟨j, hj8, rfl⟩ := hys v hv
    obtain ⟨_, f1, b1, b2, b3, b4, f2⟩ := FS.at_ j hj8
    exact ⟨j, one j, dct j, b1, b2, b3, b4, rfl, hfR _ f1, hfR _ f2, up1 _ _ (gF _ f1).2.1 (gF _ f1).1, up1 _ _ (gF _ f2).2.1 (gF _ f2).1⟩
  have htl2 : tl < h2.objs.size := Heap.lt_size atl
  have l44 : ∀ b, s.heap.objs.size ≤ b → b ≠ 44 := fun b hb => n44 _ (Nat.lt_of_lt_of_le (sz g44.1) hb)
  have ls1 : s.heap.objs.size ≤ s1 := Nat.le_trans l0 (Nat.le_of_lt l1)
  have lsd : s.heap.objs.size ≤ sd := Nat.le_trans ls1 (Nat.le_of_lt l2)
  refine wpAny_execs_cons (s_due0 (s := { s with heap := h2, toks := tk2, gens := g' }) (sd := sd) (s0 := s0) (s1 := s1) (a0 := acc) (a1 := #[]) X T el O F2 ((if_neg (by decide : ¬ Str.ofString "sides" = Str.ofString "told")).trans (if_pos rfl)) (k2 _ _ (nL _ lsd) (l44 _ lsd) esd) (k2 _ _ (nL _ l0) (l44 _ l0) e0) (k2 _ _ (nL _ ls1) (l44 _ ls1) e1) (by rw [hacc8]; decide) (by decide)
    fun h3 tk3 u0 u1 u du d0 d1 F3 k3 b0 b1 bu bdu lu0 lu1 lu lud => ?_)
  -- the 27 places
  generalize hm3 : (fun z => if z = Str.ofString "due" then some (Value.ref du) else if z = Str.ofString "told" then some (Value.ref tl) else if z = Str.ofString "sides" then some (Value.ref sd) else m z) = m3 at F3
  have M3 : Mok (ad03 L R OA dm s0 s1 sd tl du one dct) m3 := by
    subst hm3
    exact ⟨((if_neg (by decide : ¬ Str.ofString "row" = Str.ofString "due")).trans ((if_neg (by decide : ¬ Str.ofString "row" = Str.ofString "told")).trans ((if_neg (by decide : ¬ Str.ofString "row" = Str.ofString "sides")).trans hmr))), ((if_neg (by decide : ¬ Str.ofString "marks" = Str.ofString "due")).trans ((if_neg (by decide : ¬ Str.ofString "marks" = Str.ofString "told")).trans ((if_neg (by decide : ¬ Str.ofString "marks" = Str.ofString "sides")).trans hmm))), ((if_neg (by decide : ¬ Str.ofString "sides" = Str.ofString "due")).trans ((if_neg (by decide : ¬ Str.ofString "sides" = Str.ofString "told")).trans (if_pos rfl))), ((if_neg (by decide : ¬ Str.ofString "told" = Str.ofString "due")).trans (if_pos rfl)), if_pos rfl⟩
  have hms3 : m3 "script" = some (.ref l) := by subst hm3; exact ((if_neg (by decide : ¬ Str.ofString "script" = Str.ofString "due")).trans ((if_neg (by decide : ¬ Str.ofString "script" = Str.ofString "told")).trans ((if_neg (by decide : ¬ Str.ofString "script" = Str.ofString "sides")).trans hms)))
  have hsz2 : h1.objs.size ≤ h2.objs.size := Nat.le_trans (Nat.le_trans lt1 (Nat.le_of_lt (Nat.lt_trans lt2 (Nat.lt_trans lt3 lt4)))) (Nat.le_of_lt htl2)
  have up3 : ∀ b o, b ≠ 44 → b ≠ L → s.heap.get? b = some o → h3.get? b = some o := fun b o hb hL e => k3 _ _ hL (k2 _ _ hL hb (up1 _ _ hL e))
  have lL : ∀ b, h1.objs.size ≤ b → b ≠ L := fun b hb => nL b (Nat.le_trans hsz1 hb)
  have mono := mono_of (sq_step (L := L) (R := R) (OA := OA) (dm := dm) (s0 := s0) (s1 := s1) (sd := sd) (tl := tl) (du := du) FS h44 hR (hO _ (FS.at_ 7 (by decide)).2.1) hm (Nat.lt_of_lt_of_le (sz gm.1) l0) l1 l2 (Nat.lt_trans (Nat.lt_of_lt_of_le hsd1 lt1) (Nat.lt_trans lt2 (Nat.lt_trans lt3 lt4))) (Nat.lt_trans (Nat.lt_of_lt_of_le htl2 lu0) (Nat.lt_trans lu1 (Nat.lt_trans lu lud))))
  have inj : ∀ i j, i < 27 → j < 27 → ad03 L R OA dm s0 s1 sd tl du one dct i = ad03 L R OA dm s0 s1 sd tl du one dct j → i = j := fun i j hi hj e => by
    rw [ad_sq i hi, ad_sq j hj] at e
    refine rk03_inj i hi j hj ?_
    rcases Nat.lt_trichotomy (rk03 i) (rk03 j) with q | q | q
    · exact absurd e (Nat.ne_of_lt (mono _ _ q (rk03_le j hj)))
    · exact q
    · exact absurd e (Nat.ne_of_gt (mono _ _ q (rk03_le i hi)))
  have gap : ∀ (kk : Nat) (x : Addr), kk < 26 → sq03 L R OA dm s0 s1 sd tl du one dct kk < x → x < sq03 L R OA dm s0 s1 sd tl du one dct (kk + 1) → ∀ j, j < 27 → x ≠ ad03 L R OA dm s0 s1 sd tl du one dct j := fun kk x hkk q1 q2 j hj => by
    rw [ad_sq j hj]; exact gap_of mono hkk q1 q2 _ (rk03_le j hj)
  have gapT : ∀ x, sd < x → x < tl → ∀ j, j < 27 → x ≠ ad03 L R OA dm s0 s1 sd tl du one dct j := fun x q1 q2 => gap 24 x (by decide) q1 q2
  have gapU : ∀ x, tl < x → x < du → ∀ j, j < 27 → x ≠ ad03 L R OA dm s0 s1 sd tl du one dct j := fun x q1 q2 => gap 25 x (by decide) q1 q2
  have a1e : (ad03 L R OA dm s0 s1 sd tl du one dct) 1 = L + 1 := rfl
  have a2e : (ad03 L R OA dm s0 s1 sd tl du one dct) 2 = L + 1 + 1 := rfl
  have a0e : (ad03 L R OA dm s0 s1 sd tl du one dct) 0 = 44 := rfl
  have ne44 : ∀ b, L < b → b ≠ 44 := fun b hb => n44 _ (Nat.lt_trans h44 hb)
  have f0 : h3.get? 44 = some (tabObj ps') := k3 _ _ g44.2.1 e44
  have f1 := up3 _ _ (ne44 _ (Nat.lt_succ_self _)) g1.2.1 g1.1
  have f2 := up3 _ _ (ne44 _ (Nat.lt_succ_of_lt (Nat.lt_succ_self _))) g2.2.1 g2.1
  have f3 := up3 _ _ hR44 gR.2.1 gR.1
  have hOA44 : OA ≠ 44 := n44 _ (Nat.lt_trans (Nat.lt_trans h44 (Nat.lt_of_succ_lt (Nat.lt_of_succ_lt hR))) (Nat.lt_trans (FS.big _ (FS.at_ 0 (by decide)).2.1) (hO _ (FS.at_ 0 (by decide)).2.1)))
  have hdm44 : dm ≠ 44 := n44 _ (Nat.lt_trans (Nat.lt_trans (Nat.lt_trans h44 (Nat.lt_of_succ_lt (Nat.lt_of_succ_lt hR))) (Nat.lt_trans (FS.big _ (FS.at_ 0 (by decide)).2.1) (hO _ (FS.at_ 0 (by decide)).2.1))) hm)
  have f4 := up3 _ _ hOA44 gO.2.1 gO.1
  have f5 := up3 _ _ hdm44 gm.2.1 gm.1
  have f6 : h3.get? sd = some (listOf #[.ref s0, .ref s1] 0) := k3 _ _ (nL _ lsd) (k2 _ _ (nL _ lsd) (l44 _ lsd) esd)
  have f7 : h3.get? s0 = some (listOf acc c0) := k3 _ _ (nL _ l0) (k2 _ _ (nL _ l0) (l44 _ l0) e0)
  have f8 : h3.get? s1 = some (listOf #[] 0) := k3 _ _ (nL _ ls1) (k2 _ _ (nL _ ls1) (l44 _ ls1) e1)
  have lt1' : h1.objs.size ≤ t2 := Nat.le_trans lt1 (Nat.le_of_lt lt2)
  have lt' : h1.objs.size ≤ t := Nat.le_trans lt1' (Nat.le_of_lt lt3)
  have ltl' : h1.objs.size ≤ tl := Nat.le_trans lt' (Nat.le_of_lt lt4)
  have lu1' : h2.objs.size ≤ u1 := Nat.le_trans lu0 (Nat.le_of_lt lu1)
  have lu' : h2.objs.size ≤ u := Nat.le_trans lu1' (Nat.le_of_lt lu)
  have ldu' : h2.objs.size ≤ du := Nat.le_trans lu' (Nat.le_of_lt lud)
  have f9 : h3.get? tl = some (listOf #[.ref t] 0) := k3 _ _ (lL _ ltl') atl
  have fone : ∀ i, i < 8 → h3.get? (one i) = some (instObj 38 (dct i)) ∧ one i ≠ L ∧ h₀.get? (one i) = none := fun i hi => by
    have f := (FS.at_ i hi).2.1
    exact ⟨up3 _ _ (hfR _ f) (gF _ f).2.1 (gF _ f).1, (gF _ f).2.1, (gF _ f).2.2⟩
  have fdct : ∀ i, i < 8 → ∃ b1 b2 b3 b4, h3.get? (dct i) = some (fieldDict w.params i true false b1 b2 b3 b4) ∧ dct i ≠ L ∧ h₀.get? (dct i) = none := fun i hi => by
    obtain ⟨_, _, b1, b2, b3, b4, f⟩ := FS.at_ i hi
    exact ⟨b1, b2, b3, b4, up3 _ _ (hfR _ f) (gF _ f).2.1 (gF _ f).1, (gF _ f).2.1, (gF _ f).2.2⟩
  have new0 : ∀ b, s.heap.objs.size ≤ b → h₀.get? b = none := fun b hb => by
    cases e : h₀.get? b with
    | none => rfl
    | some o => exact absurd (Nat.lt_of_lt_of_le (Heap.lt_size (F.keep _ _ e)) hb) (Nat.lt_irrefl _)
  have hat : ∀ j, j < 27 → ∃ o, h3.get? (ad03 L R OA dm s0 s1 sd tl du one dct j) = some o ∧ ad03 L R OA dm s0 s1 sd tl du one dct j ≠ L ∧ h₀.get? (ad03 L R OA dm s0 s1 sd tl du one dct j) = none := fun j hj => by
    rcases Nat.lt_or_ge j 11 with h11 | h11
    · have : j = 0 ∨ j = 1 ∨ j = 2 ∨ j = 3 ∨ j = 4 ∨ j = 5 ∨ j = 6 ∨ j = 7 ∨ j = 8 ∨ j = 9 ∨ j = 10 := by omega
      rcases this with rfl | rfl | rfl | rfl | rfl | rfl | rfl | rfl | rfl | rfl | rfl
      · exact ⟨_, f0, g44.2.1, g44.2.2⟩
      · exact ⟨_, f1, g1.2.1, g1.2.2⟩
      · exact ⟨_, f2, g2.2.1, g2.2.2⟩
      · exact ⟨_, f3, gR.2.1, gR.2.2⟩
      · exact ⟨_, f4, gO.2.1, gO.2.2⟩
      · exact ⟨_, f5, gm.2.1, gm.2.2⟩
      · exact ⟨_, f6, nL _ lsd, new0 _ lsd⟩
      · exact ⟨_, f7, nL _ l0, new0 _ l0⟩
      · exact ⟨_, f8, nL _ ls1, new0 _ ls1⟩
      · exact ⟨_, f9, lL _ ltl', new0 _ (Nat.le_trans hsz1 ltl')⟩
      · exact ⟨_, bdu, lL _ (Nat.le_trans hsz2 ldu'), new0 _ (Nat.le_trans hsz1 (Nat.le_trans hsz2 ldu'))⟩
    · rcases Nat.lt_or_ge j 19 with h19 | h19
      · obtain ⟨i, rfl⟩ : ∃ i, j = 11 + i := ⟨j - 11, by omega⟩
        rw [ad_one (by omega)]
        exact ⟨_, fone i (by omega)⟩
      · obtain ⟨i, rfl⟩ : ∃ i, j = 19 + i := ⟨j - 19, by omega⟩
        rw [ad_dct]
        obtain ⟨b1, b2, b3, b4, f⟩ := fdct i (by omega)
        exact ⟨_, f⟩
  obtain ⟨φ, hφ⟩ : ∃ φ : Nat → Obj, ∀ j, φ j = (h3.get? (ad03 L R OA dm s0 s1 sd tl du one dct j)).getD oc := ⟨fun j => (h3.get? (ad03 L R OA dm s0 s1 sd tl du one dct j)).getD oc, fun _ => rfl⟩
  have is_ : ∀ j b o, ad03 L R OA dm s0 s1 sd tl du one dct j = b → h3.get? b = some o → φ j = o := fun j b o eb e => by rw [hφ, eb, e]; rfl
  have φat : ∀ j, j < 27 → h3.get? (ad03 L R OA dm s0 s1 sd tl du one dct j) = some (φ j) := fun j hj => by
    obtain ⟨o, e, _⟩ := hat j hj
    rw [is_ j _ o rfl e]; exact e
  have hyl : ys = ([0, 1, 2, 3, 4, 5, 6, 7] : List Nat).map fun i => Value.ref (ad03 L R OA dm s0 s1 sd tl du one dct (11 + i)) := by
    refine List.ext_getElem? fun j => ?_
    rcases Nat.lt_or_ge j 8 with h8 | h8
    · rw [(FS.at_ j h8).1, List.getElem?_map]
      have : ([0, 1, 2, 3, 4, 5, 6, 7] : List Nat)[j]? = some j := by
        have : j = 0 ∨ j = 1 ∨ j = 2 ∨ j = 3 ∨ j = 4 ∨ j = 5 ∨ j = 6 ∨ j = 7 := by omega
        rcases this with rfl | rfl | rfl | rfl | rfl | rfl | rfl | rfl <;> rfl
      rw [this, Option.map_some, ad_one h8]
    · rw [List.getElem?_eq_none (by rw [FS.len]; exact h8), List.getElem?_eq_none (by simpa using h8)]
  have Go : Good PySem.Challenge.rw_dm0039_03.row.prog w (ad03 L R OA dm s0 s1 sd tl du one dct) φ book0.perm book0.perm book0.ini book0.kwo book0.kwo book0.side [.ref t] [.ref u] := by
    refine ⟨⟨ps', is_ 0 _ _ rfl f0, ht'⟩, ⟨v0, by rw [is_ 1 _ _ rfl f1]; exact hoc⟩, by rw [is_ 2 _ _ rfl f2]; exact hd2, ⟨k, by rw [is_ 3 _ _ rfl f3, hyl]; rfl⟩, ⟨c1, acc.toList, by rw [is_ 4 _ _ rfl f4], hacc⟩, ⟨kvs, by rw [is_ 5 _ _ rfl f5]; exact hid, hkl, hkv⟩, ⟨0, is_ 6 _ _ rfl f6⟩, fun kk => ?_, ⟨0, is_ 9 _ _ rfl f9⟩, ⟨0, is_ 10 _ _ rfl bdu⟩, fun i h8 => ?_, fun i h8 => ?_⟩
    · cases kk
      · exact ⟨c0, acc.toList, is_ 7 _ _ rfl f7, hacc⟩
      · exact ⟨0, [], is_ 8 _ _ rfl f8, .nil⟩
    · rw [is_ (11 + i) _ _ (ad_one h8) (fone i h8).1, ad_dct]
    · obtain ⟨b1, b2, b3, b4, f⟩ := fdct i h8
      exact ⟨b1, b2, b3, b4, is_ (19 + i) _ _ ad_dct f.1⟩
  obtain ⟨ad, had⟩ : ∃ ad, ad = ad03 L R OA dm s0 s1 sd tl du one dct := ⟨_, rfl⟩
  rw [← had] at M3 inj gapT gapU a1e a2e a0e hat φat hyl Go
  clear mono gap is_ hφ
  let G0 : List (Addr × Obj) := [(t, tupOf #[.ref t1, .ref t2]), (t1, tupOf ys.toArray), (t2, tupOf #[]), (u, listOf #[.ref u0, .ref u1] 0), (u0, listOf acc d0), (u1, listOf #[] d1)]
  have hG0 : ∀ q ∈ G0, h3.get? q.1 = some q.2 ∧ h1.objs.size ≤ q.1 ∧ ∀ j, j < 27 → q.1 ≠ ad j := by
    intro q hq
    have sdt1 : sd < t1 := Nat.lt_of_lt_of_le hsd1 lt1
    have tlu0 : tl < u0 := Nat.lt_of_lt_of_le htl2 lu0
    simp only [G0, List.mem_cons, List.not_mem_nil, or_false] at hq
    rcases hq with rfl | rfl | rfl | rfl | rfl | rfl
    · exact ⟨k3 _ _ (lL _ lt') a3, lt', gapT _ (Nat.lt_trans sdt1 (Nat.lt_trans lt2 lt3)) lt4⟩
    · exact ⟨k3 _ _ (lL _ lt1) a1, lt1, gapT _ sdt1 (Nat.lt_trans lt2 (Nat.lt_trans lt3 lt4))⟩
    · exact ⟨k3 _ _ (lL _ lt1') a2, lt1', gapT _ (Nat.lt_trans sdt1 lt2) (Nat.lt_trans lt3 lt4)⟩
    · exact ⟨bu, Nat.le_trans hsz2 lu', gapU _ (Nat.lt_trans tlu0 (Nat.lt_trans lu1 lu)) lud⟩
    · exact ⟨b0, Nat.le_trans hsz2 lu0, gapU _ tlu0 (Nat.lt_trans lu1 (Nat.lt_trans lu lud))⟩
    · exact ⟨b1, Nat.le_trans hsz2 lu1', gapU _ (Nat.lt_trans tlu0 lu1) (Nat.lt_trans lu lud)⟩
  have N3 : News h₀ L h3 (led ad φ G0) := fun q hq => by
    rcases mem_led.mp hq with ⟨j, hj, rfl⟩ | hq
    · obtain ⟨_, _, e2, e3⟩ := hat j hj
      exact ⟨φat j hj, e2, e3⟩
    · obtain ⟨e1, e2, _⟩ := hG0 q hq
      exact ⟨e1, lL _ e2, new0 _ (Nat.le_trans hsz1 e2)⟩
  have J0 : J03 PySem.Challenge.rw_dm0039_03.row.prog w ad 0 m3 (led ad φ G0) g' := by
    refine ⟨hb hgb, M3, φ, G0, book0, [.ref t], [.ref u], rfl, fun q hq => (hG0 q hq).2.2, book0_ok, Go, rfl, rfl, fun j vt vd e1 e2 => ?_⟩
    have hj0 : j = 0 := by
      rcases Nat.eq_zero_or_pos j with h | h
      · exact h
      · rw [List.getElem?_eq_none (show ([Value.ref t] : List Value).length ≤ j from h)] at e1; cases e1
    subst hj0
    cases e1; cases e2
    refine ⟨[0, 1, 2, 3, 4, 5, 6, 7], [], t, t1, t2, u, u0, u1, d0, d1, acc.toList, [], rfl, rfl, by decide, by decide, by decide, by decide, ?_, ?_, ?_, ?_, ?_, ?_, hacc, .nil⟩
    · simp [G0]
    · rw [← hyl]; simp [G0]
    · simp [G0]
    · simp [G0]
    · simp [G0]
    · simp [G0]
  refine wpAny_execs_cons ?_
  have O3 : EO (env03 L fa cd) L (L + 1) (L + 1 + 1) := eo03
  have hnl : vs.toArray.size = ns.length := by rw [List.size_toArray]; exact IntsAre.length hi
  refine for_led (h₀ := h₀) (n := vs.toArray.size) (Pi := fun i v => vs.toArray[i]? = some v) (J03 PySem.Challenge.rw_dm0039_03.row.prog w ad) rfl rfl rfl ?_
  refine rd_locE (s := { s with heap := h3, toks := tk3, gens := g' }) O3 F3 hms3 ?_
  refine ⟨h₀, _, h3, tk3, g', m3, led ad φ G0, [], rfl, SrcP.list hl, F3.keep, (fun b e => .inl (by obtain ⟨o, ho, _⟩ := hl; cases e; exact ⟨o, ho⟩)), F3, by rw [List.append_nil]; exact N3, (fun _ h => nomatch h), J0, ?turn, ?done⟩
  case turn =>
    intro i v m₂ news₂ h' tk g own hin hv hJ hoff F' N'
    obtain ⟨x, tx, rfl⟩ : ∃ x tx, v = .int x tx := by
      obtain ⟨n, tn, e, _⟩ := hi.at i v (by simpa using hv)
      exact ⟨n, tn, e⟩
    exact turn03_ok (s := { s with heap := h3, toks := tk3, gens := g' }) X T C a0e a1e a2e inj hJ (by omega) hoff F' N' el en ef hk
  case done =>
    intro m₂ news₂ h' tk g hJ F' N'
    rw [List.append_nil] at N'
    refine end03_ok (s := { s with heap := h', toks := tk, gens := g }) X a1e a2e inj hJ (by omega) F' N' fun h'' tk'' hk'' => ?_
    obtain ⟨hgb', _, φ', G', b', told', due', rfl, _, _, Go', _⟩ := hJ
    obtain ⟨ps'', e0, _⟩ := Go'.tab
    refine h h'' tk'' g (fun b o e => hk'' b o (F'.keep b o e)) hgb' ⟨ps'', ?_⟩
    have := (N' (ad 0, φ' 0) (mem_led.mpr (.inl ⟨0, by decide, rfl⟩))).1
    rw [e0, a0e] at this
    exact hk'' _ _ this

end
section
local macro_rules | `(tactic| walk_at "exec For Name Constant cons nil") => `(tactic| (refine Held.mk ?_))
local macro_rules | `(tactic| walk_at "exec For") => `(tactic| (refine Held.mk ?_))
set_option maxRecDepth 100000 in
set_option maxHeartbeats 8000000 in
theorem main03 : PySem.Challenge.rw_dm0039_03.Holds := hd03 (by
  w_on
  k_fill
  intro w s₀ s₁ mg mb G Y fa o pm cd doc dV kV ho hd hcd hD hmg hg args vals as hpre hlay hrd hwl hlo
  have KX := kIn_of Y
  refine Ground.open G ?_
  intro T B D TE TW
  try (refine guard_noD D (by decide +kernel) ?_; clear D)
  have hT9 : TabsAt [((48 : Addr), (44 : Addr))] s₁.heap :=
    List.forall_mem_cons.mpr ⟨tab_of (x := PySem.Str.ofString "_fields_in_init_order") (c := 48) (P := 44) T KX rfl (by kernel_rfl), fun _ h => nomatch h⟩
  clear hmg
  wrow_args hpre hlay hrd hwl hlo
  refine enter_call ?_
  w_top off
  refine my_post hT9 (fun _ => rfl) (postW_of rfl (w_eq_bool (w_res rfl) w_lit) rfl) ?_
  w_call any ho hd hcd hD T F
  clear hd
  kn_ghosts F T
  k_drop
  k_unmd
  k_fold
  w_strict (k_steps)
  rename IntsAre _ _ => hi
  rename Heap.IsList (ghostOf _ _) _ _ => hl
  rename Top topProg _ _ _ _ _ => T'
  rename Frag.In _ (ghostOf _ _) => X
  rename Below _ _ _ _ => B'
  rename CodeHd _ _ _ => C'
  rename Fr (ghostOf _ _) _ _ _ => F
  rename News (ghostOf _ _) _ _ _ => N
  rename (44 < s₁.heap.objs.size) => h44
  rename (s₁.heap.objs.size + 1 + 1 < _ ∧ _) => l1
  rename (_ : Obj).data = Data.cell _ => hd1
  revert hd1
  rename (_ : Obj).data = Data.cell _ => hd2
  intro hd1
  obtain ⟨R, oc2, oc1, l, vs, ns, m0, F0, N0, hl, hi, hlen, hms, hmr, hd2, hd1, hR⟩ : ∃ (R : Addr) (oc2 oc1 : Obj) (l : Addr) (vs : List Value) (ns : List Int) (m0 : Str → Option Value),
      Fr (ghostOf s₁.heap [((48 : Addr), (44 : Addr))]) s₁.heap.objs.size _ m0 ∧ News (ghostOf s₁.heap [((48 : Addr), (44 : Addr))]) s₁.heap.objs.size _ [(R, listOf #[] 0), (s₁.heap.objs.size + 1 + 1, oc2), (s₁.heap.objs.size + 1, oc1), (44, tabObj #[])] ∧
      (ghostOf s₁.heap [((48 : Addr), (44 : Addr))]).IsList l vs.toArray ∧ IntsAre vs ns ∧ ns.length ≤ 63 ∧ m0 "script" = some (.ref l) ∧ m0 "row" = some (.ref R) ∧ oc2.data = .cell none ∧ oc1.data = .cell none ∧ s₁.heap.objs.size + 1 + 1 < R :=
    ⟨_, _, _, _, _, _, _, F, N, hl, hi, by omega, rfl, rfl, hd2.trans rfl, hd1.trans rfl, l1.1⟩
  clear F N
  refine Held.of ?_
  refine for_ledC (h₀ := ghostOf s₁.heap [((48 : Addr), (44 : Addr))]) (c := s₁.heap.objs.size + 1) (n := 8) (Pi := SignAt (Str.ofString "abcdefgh")) (fun i m₂ news₂ g => g = s₁.gens ∧ m₂ "script" = some (.ref l) ∧ m₂ "row" = some (.ref R) ∧
      ∃ ys k fam one dct, news₂ = (R, listOf ys.toArray k) :: (s₁.heap.objs.size + 1 + 1, oc2) :: (44, tabObj #[]) :: fam ∧ Fields w.params R i ys fam one dct) rfl rfl rfl rfl ?_
  refine wpAny_Constant_str ?_
  refine ⟨_, fun _ => False, _, _, s₁.gens, m0, [(R, listOf #[] 0), (s₁.heap.objs.size + 1 + 1, oc2), (44, tabObj #[])], [], oc1, none, rfl, SrcP.str (by decide +kernel), fun _ _ e => e, fun b e => e.elim, F0, ?n0, hd1, (fun _ h => nomatch h), ?nc, (fun _ h => nomatch h), ?j0, ?turn, ?done⟩
  case n0 =>
    refine newsSub N0 fun p hp => ?_
    simp only [List.append_nil, List.mem_cons, List.not_mem_nil, or_false] at hp ⊢
    rcases hp with hp | hp | hp | hp <;> simp [hp]
  case nc =>
    intro q hq
    simp only [List.mem_cons, List.not_mem_nil, or_false] at hq
    rcases hq with rfl | rfl | rfl
    · exact Nat.ne_of_gt (Nat.lt_of_succ_lt hR)
    · exact Nat.ne_of_gt (Nat.lt_succ_self _)
    · exact Nat.ne_of_lt (Nat.lt_succ_of_lt h44)
  case j0 => exact ⟨rfl, hms, hmr, [], 0, [], (fun _ => 0), (fun _ => 0), rfl, rfl, (fun j h => absurd h (Nat.not_lt_zero _)), (fun j h => absurd h (Nat.not_lt_zero _)), (fun j j' _ h => absurd h (Nat.not_lt_zero _)), (fun _ h => nomatch h)⟩
  case turn =>
    rintro i v m₂ news₂ h tk g own oc hin hv ⟨rfl, hm1, hm2, ys, k, fam, one, dct, rfl, FS⟩ hoc hoff hownc hnc F N
    obtain ⟨tv, rfl, _⟩ := sign_letter hv
    have hyl : ys.length ≤ 8 := FS.len ▸ Nat.le_of_lt hin
    clear N0 F0
    generalize hG : fam ++ own = G1 at N
    rw [show (s₁.heap.objs.size + 1, oc) :: ((R, listOf ys.toArray k) :: (s₁.heap.objs.size + 1 + 1, oc2) :: (44, tabObj #[]) :: fam) ++ own = (s₁.heap.objs.size + 1, oc) :: (R, listOf ys.toArray k) :: (s₁.heap.objs.size + 1 + 1, oc2) :: (44, tabObj #[]) :: (fam ++ own) from rfl] at N
    dsimp only
    w_strict (k_steps)
    rename Fr (ghostOf _ _) s₁.heap.objs.size _ _ => F1
    rename News (ghostOf _ _) s₁.heap.objs.size _ _ => N1
    rename (_ ∧ _ ∧ _ ∧ _ ∧ AllLt _ (fam ++ own)) => l1
    rename (_ < _) => l2
    obtain ⟨xo, xd, t1, t2, t3, h1, tk1, F1, N1, l1, l2, g1⟩ : ∃ (xo xd : Addr) (t1 t2 t3 : Tok) (h1 : Heap) (tk1 : Nat), Fr (ghostOf s₁.heap [((48 : Addr), (44 : Addr))]) s₁.heap.objs.size h1 (fun y => if y = Str.ofString "one" then some (.ref xo) else m₂ y) ∧
        News (ghostOf s₁.heap [((48 : Addr), (44 : Addr))]) s₁.heap.objs.size h1 ((xo, instObj 38 xd) :: (xd, fieldDict w.params i true false t1 t2 t3 tv) :: (s₁.heap.objs.size + 1, oc) :: (R, listOf ys.toArray k) :: (s₁.heap.objs.size + 1 + 1, oc2) :: (44, tabObj #[]) :: (fam ++ own)) ∧
        (s₁.heap.objs.size + 1 < xd ∧ R < xd ∧ s₁.heap.objs.size + 1 + 1 < xd ∧ 44 < xd ∧ AllLt xd (fam ++ own)) ∧ xd < xo ∧
        (_ = ({ heap := h1, gens := s₁.gens, drawn := s₁.drawn, toks := tk1, os := s₁.os } : Shared)) := ⟨_, _, _, _, _, _, _, F1, N1, l1, l2, rfl⟩
    rw [g1]
    clear g1
    have hro : Str.ofString "row" ≠ Str.ofString "one" := by decide
    have hso : Str.ofString "script" ≠ Str.ofString "one" := by decide
    have hRm := N1 (R, listOf ys.toArray k) (.tail _ (.tail _ (.tail _ (.head _))))
    refine name_loc F1.ns (v := .ref R) ((if_neg hro).trans hm2) ?_ rfl rfl (by decide)
    refine getM_list hRm.1 PySem.F.slot_list_append PySem.F.type_list_append ?_
    refine callWith_method1 (Calls.spliced_cons (name_loc F1.ns (v := .ref xo) (if_pos rfl) (args_nil ?_) rfl rfl (by decide)))
    refine call_append hRm.1 (by omega) fun h2 n2 hl2 hs2 => ?_
    have F2 := ksk_fr F1 hs2 hRm.2.1 hRm.2.2
    have hRs : ∀ q ∈ fam ++ own, q.1 ≠ R := fun q hq => by
      rcases List.mem_append.mp hq with hq | hq
      · exact (Nat.ne_of_lt (FS.big q hq)).symm
      · exact hoff q hq (R, listOf ys.toArray k) (.head _)
    have hall := allLt_mem l1.2.2.2.2
    refine wpAny_execs_nil ⟨h2, tk1, s₁.gens, _, (R, listOf (ys ++ [Value.ref xo] : List Value).toArray n2) :: (s₁.heap.objs.size + 1 + 1, oc2) :: (44, tabObj #[]) :: (xo, instObj 38 xd) :: (xd, fieldDict w.params i true false t1 t2 t3 tv) :: fam, oc, _, rfl, F2, fun p hp => ?_, hoc, fun p hp q hq => ?_, fun q hq => ?_,
      rfl, (if_neg hso).trans hm1, (if_neg hro).trans hm2, ys ++ [.ref xo], n2, (xo, instObj 38 xd) :: (xd, fieldDict w.params i true false t1 t2 t3 tv) :: fam, _, _, rfl, FS.succ l1.2.1 l2 (fun p hp => hall p (List.mem_append_left _ hp))⟩
    · have hp' : p = (R, listOf (ys ++ [Value.ref xo] : List Value).toArray n2) ∨ (p ∈ ((xo, instObj 38 xd) :: (xd, fieldDict w.params i true false t1 t2 t3 tv) :: (s₁.heap.objs.size + 1, oc) :: (R, listOf ys.toArray k) :: (s₁.heap.objs.size + 1 + 1, oc2) :: (44, tabObj #[]) :: (fam ++ own)) ∧ p.1 ≠ R) := by
        simp only [List.mem_append, List.mem_cons] at hp
        rcases hp with (rfl | rfl | rfl | rfl | rfl | rfl | hp) | hp
        · exact .inr ⟨by simp, Nat.ne_of_lt (Nat.lt_of_succ_lt hR)⟩
        · exact .inl rfl
        · exact .inr ⟨by simp, Nat.ne_of_lt hR⟩
        · exact .inr ⟨by simp, Nat.ne_of_lt (Nat.lt_trans h44 (Nat.lt_of_succ_lt (Nat.lt_of_succ_lt hR)))⟩
        · exact .inr ⟨by simp, Nat.ne_of_gt (Nat.lt_trans l1.2.1 l2)⟩
        · exact .inr ⟨by simp, Nat.ne_of_gt l1.2.1⟩
        · exact .inr ⟨by simp [hp], hRs p (List.mem_append_left _ hp)⟩
        · exact .inr ⟨by simp [hp], hRs p (List.mem_append_right _ hp)⟩
      rcases hp' with rfl | ⟨hp', hne⟩
      · exact ⟨hl2, hRm.2⟩
      · exact ⟨hs2.extBut _ _ hne (N1 p hp').1, (N1 p hp').2⟩
    · have hpx : p.1 < xd := hall p (List.mem_append_right _ hp)
      simp only [List.mem_cons] at hq
      rcases hq with rfl | rfl | rfl | rfl | rfl | hq
      · exact hoff p hp (R, listOf ys.toArray k) (.head _)
      · exact hoff p hp (s₁.heap.objs.size + 1 + 1, oc2) (.tail _ (.head _))
      · exact hoff p hp (44, tabObj #[]) (.tail _ (.tail _ (.head _)))
      · exact Nat.ne_of_lt (Nat.lt_trans hpx l2)
      · exact Nat.ne_of_lt hpx
      · exact hoff p hp q (.tail _ (.tail _ (.tail _ hq)))
    · simp only [List.mem_cons] at hq
      rcases hq with rfl | rfl | rfl | rfl | rfl | hq
      · exact Nat.ne_of_gt (Nat.lt_of_succ_lt hR)
      · exact Nat.ne_of_gt (Nat.lt_succ_self _)
      · exact Nat.ne_of_lt (Nat.lt_succ_of_lt h44)
      · exact Nat.ne_of_gt (Nat.lt_trans l1.1 l2)
      · exact Nat.ne_of_gt l1.1
      · exact hnc q (.tail _ (.tail _ (.tail _ hq)))
  case done =>
    rintro m₂ news₂ h tk g oc v' ⟨rfl, hm1, hm2, ys, k, fam, one, dct, rfl, FS⟩ hoc hnc F N
    clear N0 F0
    rw [List.append_nil] at N
    have hRm := N (R, listOf ys.toArray k) (.tail _ (.head _))
    have h2m := N (s₁.heap.objs.size + 1 + 1, oc2) (.tail _ (.tail _ (.head _)))
    refine wpAny_execs_cons (wpAny_Assign_Name (Call_ (name_blt X T' F.keep (by k_is) PyProof.Rows.boot_list (by decide) ?_ rfl rfl rfl rfl (by decide))))
    refine PyProof.Rows.callWith_type1 (args_cons ?_)
    refine wpAny_Constant_str (args_nil ?_)
    refine call_list_str rfl _ _ (fun h1 tk1 acc c1 hk1 hu1 hacc => ?_) (show (8 : Nat) ≤ sizeLine by decide)
    have F1 := F.keeps hk1
    have N1 : News (ghostOf s₁.heap [((48 : Addr), (44 : Addr))]) s₁.heap.objs.size h1 ((h.objs.size, listOf acc c1) :: (s₁.heap.objs.size + 1, oc) :: (R, listOf ys.toArray k) :: (s₁.heap.objs.size + 1 + 1, oc2) :: (44, tabObj #[]) :: fam) := fun p hp => by
      rcases List.mem_cons.mp hp with rfl | hp
      · exact ⟨hu1, fun e => Nat.lt_irrefl _ (e ▸ F.ns.lt), next_new F⟩
      · exact ⟨hk1 _ _ (N p hp).1, (N p hp).2⟩
    have hO : ∀ p ∈ (s₁.heap.objs.size + 1, oc) :: (R, listOf ys.toArray k) :: (s₁.heap.objs.size + 1 + 1, oc2) :: (44, tabObj #[]) :: fam, p.1 < h.objs.size := fun p hp => Heap.lt_size (N p hp).1
    dsimp only at N1 hO ⊢
    generalize hOA : h.objs.size = OA at N1 hO ⊢
    refine wpAny_storeName_cell rfl rfl rfl ⟨_, (N1 _ (.tail _ (.tail _ (.tail _ (.head _))))).1, hd2⟩ fun h2 ⟨oc2', hc2', hd2'⟩ hs2 => ?_
    have F2 := ksk_fr F1 hs2 (N1 _ (.tail _ (.tail _ (.tail _ (.head _))))).2.1 (N1 _ (.tail _ (.tail _ (.tail _ (.head _))))).2.2
    have hLf : ∀ p ∈ fam, p.1 ≠ s₁.heap.objs.size + 1 + 1 := fun p hp => Nat.ne_of_gt (Nat.lt_trans hR (FS.big p hp))
    have N2 : News (ghostOf s₁.heap [((48 : Addr), (44 : Addr))]) s₁.heap.objs.size h2 ((OA, listOf acc c1) :: (s₁.heap.objs.size + 1, oc) :: (R, listOf ys.toArray k) :: (s₁.heap.objs.size + 1 + 1, oc2') :: (44, tabObj #[]) :: fam) := fun p hp => by
      have hp' : p = (s₁.heap.objs.size + 1 + 1, oc2') ∨ (p ∈ ((OA, listOf acc c1) :: (s₁.heap.objs.size + 1, oc) :: (R, listOf ys.toArray k) :: (s₁.heap.objs.size + 1 + 1, oc2) :: (44, tabObj #[]) :: fam) ∧ p.1 ≠ s₁.heap.objs.size + 1 + 1) := by
        simp only [List.mem_cons] at hp
        rcases hp with rfl | rfl | rfl | rfl | rfl | hp
        · exact .inr ⟨by simp, Nat.ne_of_gt (hO (s₁.heap.objs.size + 1 + 1, oc2) (.tail _ (.tail _ (.head _))))⟩
        · exact .inr ⟨by simp, Nat.ne_of_lt (Nat.lt_succ_self _)⟩
        · exact .inr ⟨by simp, Nat.ne_of_gt hR⟩
        · exact .inl rfl
        · exact .inr ⟨by simp, Nat.ne_of_lt (Nat.lt_succ_of_lt (Nat.lt_succ_of_lt h44))⟩
        · exact .inr ⟨by simp [hp], hLf p hp⟩
      rcases hp' with rfl | ⟨hp', hne⟩
      · exact ⟨hc2', (N1 _ (.tail _ (.tail _ (.tail _ (.head _))))).2⟩
      · exact ⟨hs2.extBut _ _ hne (N1 p hp').1, (N1 p hp').2⟩
    clear N1 F1 N F hRm h2m
    dsimp only
    w_strict (k_steps)
    rename Fr (ghostOf _ _) s₁.heap.objs.size _ _ => F3
    rename News (ghostOf _ _) s₁.heap.objs.size _ _ => N3
    rename Obj.IsDictOf (PySem.strKind _ _) _ _ => hid
    rename (_ == sysModules) = false => lo
    rename (_ ∧ _ ∧ _ ∧ _ ∧ _ ∧ AllLt _ fam) => lm
    obtain ⟨dm, om, F3, N3, hid, lo, lm⟩ : ∃ (dm : Addr) (om : Obj), Fr (ghostOf s₁.heap [((48 : Addr), (44 : Addr))]) s₁.heap.objs.size _ (fun y => if y = Str.ofString "marks" then some (.ref dm) else m₂ y) ∧
        News (ghostOf s₁.heap [((48 : Addr), (44 : Addr))]) s₁.heap.objs.size _ ((dm, om) :: (OA, listOf acc c1) :: (s₁.heap.objs.size + 1, oc) :: (R, listOf ys.toArray k) :: (s₁.heap.objs.size + 1 + 1, oc2') :: (44, tabObj #[]) :: fam) ∧
        om.IsDictOf (PySem.strKind PySem.Challenge.rw_dm0039_03.row.prog w) [] ∧ (dm == sysModules) = false ∧ (OA < dm ∧ s₁.heap.objs.size + 1 < dm ∧ R < dm ∧ s₁.heap.objs.size + 1 + 1 < dm ∧ 44 < dm ∧ AllLt dm fam) := ⟨_, _, F3, N3, hid, lo, lm⟩
    have hSt := letters_of hacc
    have hme : Str.ofString "script" ≠ Str.ofString "marks" := by decide
    have hmr' : Str.ofString "row" ≠ Str.ofString "marks" := by decide
    have hacc8 : acc.size = 8 := hacc.1
    have hlm := allLt_mem lm.2.2.2.2.2
    have hOA : ∀ p ∈ (R, listOf ys.toArray k) :: (s₁.heap.objs.size + 1 + 1, oc2') :: (44, tabObj #[]) :: fam, p.1 < OA := fun p hp => by
      rcases List.mem_cons.mp hp with rfl | hp
      · exact hO (R, listOf ys.toArray k) (.tail _ (.head _))
      · rcases List.mem_cons.mp hp with rfl | hp
        · exact hO (s₁.heap.objs.size + 1 + 1, oc2) (.tail _ (.tail _ (.head _)))
        · exact hO p (.tail _ (.tail _ (.tail _ hp)))
    have hdm : ∀ p ∈ (R, listOf ys.toArray k) :: (s₁.heap.objs.size + 1 + 1, oc2') :: (44, tabObj #[]) :: fam, p.1 < dm := fun p hp => Nat.lt_trans (hOA p hp) lm.1
    refine Held.of ?_
    refine for_ledC (h₀ := ghostOf s₁.heap [((48 : Addr), (44 : Addr))]) (c := s₁.heap.objs.size + 1) (n := acc.size) (Pi := fun i v => acc[i]? = some v) (fun i m₂ news₂ g => g = s₁.gens ∧ m₂ "script" = some (.ref l) ∧ m₂ "row" = some (.ref R) ∧ m₂ "marks" = some (.ref dm) ∧
      ∃ o kvs, o.IsDictOf (PySem.strKind PySem.Challenge.rw_dm0039_03.row.prog w) kvs ∧ kvs.length ≤ i ∧ (∀ j, j < i → ∃ t, valueAt kvs (letter j) = some (.int 0 t)) ∧
        news₂ = (dm, o) :: (R, listOf ys.toArray k) :: (s₁.heap.objs.size + 1 + 1, oc2') :: (44, tabObj #[]) :: fam) rfl rfl rfl rfl ?_
    refine wpAny_Name (wpAny_loadName_cell rfl rfl rfl ⟨_, (N3 _ (.tail _ (.tail _ (.tail _ (.tail _ (.head _)))))).1, hd2'⟩ ?_) (by decide)
    refine ⟨_, _, _, _, s₁.gens, _, (dm, om) :: (R, listOf ys.toArray k) :: (s₁.heap.objs.size + 1 + 1, oc2') :: (44, tabObj #[]) :: fam, [(OA, listOf acc c1)], oc, v', rfl, SrcP.list (l := OA) ⟨_, (N3 _ (.tail _ (.head _))).1, rfl, c1, rfl⟩, fun _ _ e => e, fun b e => .inr ⟨listOf acc c1, by cases e; exact .head _⟩, F3, ?n0, hoc, ?off, ?nc, ?cs, ?j0, ?turn, ?done⟩
    case n0 =>
      refine newsSub N3 fun p hp => ?_
      simp only [List.mem_append, List.mem_cons, List.not_mem_nil, or_false] at hp ⊢
      rcases hp with (hp | hp | hp | hp | hp | hp) | hp <;> simp [hp]
    case off =>
      intro p hp q hq
      rw [List.mem_singleton.mp hp]
      rcases List.mem_cons.mp hq with rfl | hq
      · exact Nat.ne_of_lt lm.1
      · exact Nat.ne_of_gt (hOA q hq)
    case nc =>
      intro q hq
      rcases List.mem_cons.mp hq with rfl | hq
      · exact Nat.ne_of_gt lm.2.1
      · simp only [List.mem_cons] at hq
        rcases hq with rfl | rfl | rfl | hq
        · exact hnc (R, listOf ys.toArray k) (.head _)
        · exact hnc (s₁.heap.objs.size + 1 + 1, oc2) (.tail _ (.head _))
        · exact hnc (44, tabObj #[]) (.tail _ (.tail _ (.head _)))
        · exact hnc q (.tail _ (.tail _ (.tail _ hq)))
    case cs =>
      intro q hq
      rw [List.mem_singleton.mp hq]
      exact Nat.ne_of_gt (hO (s₁.heap.objs.size + 1, oc) (.head _))
    case j0 => exact ⟨rfl, (if_neg hme).trans hm1, (if_neg hmr').trans hm2, if_pos rfl, om, [], hid, Nat.le_refl _, (fun j h => absurd h (Nat.not_lt_zero _)), rfl⟩
    case turn =>
      rintro i v m₃ news₂ h tk g own oc' hin hv ⟨rfl, hm1, hm2, hm3, o', kvs, hid', hkl, hkv, rfl⟩ hoc' hoff hownc hnc' F N
      obtain ⟨tv, rfl⟩ : ∃ tv, v = .str (letter i) tv := by
        obtain ⟨tv, e, _⟩ := sign_letter (hacc.2 i v hv)
        exact ⟨tv, e⟩
      have hdn := N (dm, o') (.tail _ (.head _))
      have hD : h.DictOf (PySem.strKind PySem.Challenge.rw_dm0039_03.row.prog w) dm kvs := Heap.dictOf_iff.mpr ⟨_, hdn.1, hid'⟩
      refine wpAny_execs_cons (wpAny_Assign_Subscript (wpAny_Constant_int (name_loc F.ns hm3 ?_ rfl rfl (by decide))))
      refine wpAny_Name (wpAny_loadName_cell rfl rfl rfl ⟨_, (N _ (.head _)).1, hoc'⟩ ?_) (by decide)
      refine wpAny_setItem_pairs (knd := PySem.strKind PySem.Challenge.rw_dm0039_03.row.prog w) (k := letter i) (strKind_is _ w _ tv) hD (fun h'' hm'' hs'' => ?_) (Nat.le_trans hkl (Nat.le_trans (Nat.le_of_lt hin) (by rw [hacc8]; decide)))
      obtain ⟨o'', ho'', hid''⟩ := Heap.dictOf_iff.mp hm''
      refine wpAny_execs_nil ⟨h'', _, s₁.gens, m₃, (dm, o'') :: (R, listOf ys.toArray k) :: (s₁.heap.objs.size + 1 + 1, oc2') :: (44, tabObj #[]) :: fam, oc', _, rfl, ksk_fr F hs'' hdn.2.1 hdn.2.2, fun p hp => ?_, hoc', fun p hp q hq => ?_, fun q hq => ?_, rfl, hm1, hm2, hm3, o'', _, hid'', Nat.le_trans (stored_length_le _ _ _) (Nat.succ_le_succ hkl), fun j hj => ?_, rfl⟩
      · have hp' : p = (dm, o'') ∨ (p ∈ (s₁.heap.objs.size + 1, oc') :: ((dm, o') :: (R, listOf ys.toArray k) :: (s₁.heap.objs.size + 1 + 1, oc2') :: (44, tabObj #[]) :: fam) ++ own ∧ p.1 ≠ dm) := by
          rcases List.mem_append.mp hp with hp | hp
          · rcases List.mem_cons.mp hp with rfl | hp
            · exact .inr ⟨by simp, Nat.ne_of_lt lm.2.1⟩
            · rcases List.mem_cons.mp hp with rfl | hp
              · exact .inl rfl
              · exact .inr ⟨List.mem_append_left _ (.tail _ (.tail _ hp)), Nat.ne_of_lt (hdm p hp)⟩
          · exact .inr ⟨List.mem_append_right _ hp, hoff p hp (dm, o') (.head _)⟩
        rcases hp' with rfl | ⟨hp', hne⟩
        · exact ⟨ho'', hdn.2⟩
        · exact ⟨hs''.extBut _ _ hne (N p hp').1, (N p hp').2⟩
      · rcases List.mem_cons.mp hq with rfl | hq
        · exact hoff p hp (dm, o') (.head _)
        · exact hoff p hp q (.tail _ hq)
      · rcases List.mem_cons.mp hq with rfl | hq
        · exact hnc' (dm, o') (.head _)
        · exact hnc' q (.tail _ hq)
      · rw [valueAt_stored]
        by_cases e : j = i
        · subst e; exact ⟨_, if_pos rfl⟩
        · rw [if_neg (fun q => e (letter_inj q))]; exact hkv j (by omega)
    case done =>
      rintro m₃ news₂ h tk g oc' v' ⟨rfl, hm1, hm2, hm3, o', kvs, hid', hkl, hkv, rfl⟩ hoc' hnc' F N
      refine tail03_ok (ys := ys) (vs := vs) (acc := acc) (ns := ns) (kvs := kvs) (fam := fam) (one := one) (dct := dct) (oc := oc') (oc2 := oc2') (om := o') (ps := #[]) (k := k) (c1 := c1) (R := R) (OA := OA) (dm := dm) (l := l) X T' C' F hm1 hm2 hm3 N trivial hoc' hd2' hSt hid' (by omega) (by rw [← hacc8]; exact hkv) FS h44 hR (fun q hq => hOA q (.tail _ (.tail _ (.tail _ hq)))) lm.1 hl hi hlen ?gb (by k_is) (by k_is) (by k_is) (by k_is) fun h' tk' g' hk' hgb' ⟨ps', hps'⟩ => ?_
      case gb => exact hg ▸ AllBare.empty
      exact ⟨rfl, hk', rfl, hgb', ⟨ps', hps'⟩, trivial⟩)

end
end Mine
set_option maxRecDepth 100000 in
set_option maxHeartbeats 8000000 in
theorem PySem.Challenge.cw_dm0039_03_holds : PySem.Challenge.rw_dm0039_03.Holds := by
  exact Mine.main03
