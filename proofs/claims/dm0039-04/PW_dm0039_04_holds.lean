import PyProof.Rows.All
import Wide.All
import OpenK.AllK
import Wide.FinOn
import PySem.Challenge.RW_dm0039_04
open PySem PySem.W PyProof.Rows PySem.Calls
set_option Elab.async false
set_option linter.unusedSimpArgs false
set_option linter.unusedVariables false
namespace Mine
section

abbrev tupOf (its : Array Value) : Obj := { cls := .type "tuple", data := .seq its }

abbrev Sub (h h' : Heap) : Prop := ∀ b o, h.get? b = some o → h'.get? b = some o

/-- what `pyIter v` hands back, in every heap that keeps `h`: a new iterator that goes through n things, the i-th one P i -/
structure SrcP (prog : Program) (w : World) (v : Value) (n : Nat) (P : Nat → Value → Prop) (h : Heap) (ft : Addr → Prop) : Prop where
  iter : ∀ (A : Around) (E : Value → Shared → Prop) (s : Shared) (Q : Value → Shared → Prop), A.handled = none → Sub h s.heap →
    (∀ (o : Obj) (fp : List Addr) (St : Nat → Heap → Prop), o.isFreed = false →
      (∀ A' : Around, A'.handled = none → Walks prog w A' s.heap.objs.size fp [s.heap.objs.size] n P St) → St 0 (s.heap.push o) →
      (∀ b ∈ fp, b = s.heap.objs.size ∨ ft b) → (∀ i h', St i h' → ∃ o, h'.get? s.heap.objs.size = some o) →
      Q (.ref s.heap.objs.size) { s with heap := s.heap.push o }) →
    wpAny (model prog w) A (pyIter v) Q E s

abbrev Src (prog : Program) (w : World) (v : Value) (items : Array Value) (h : Heap) : Prop := SrcP prog w v items.size (fun i v => items[i]? = some v) h (fun b => ∃ o, h.get? b = some o)

theorem SrcP.foot {prog : Program} {w : World} {v : Value} {n : Nat} {P : Nat → Value → Prop} {h : Heap} {ft ft' : Addr → Prop} (S : SrcP prog w v n P h ft)
    (kf : ∀ b, ft b → ft' b) : SrcP prog w v n P h ft' where
  iter := fun A E s Q hh hk hQ => S.iter A E s Q hh hk fun o fp St a b c d e =>
    hQ o fp St a b c (fun x hx => (d x hx).imp id (kf x)) e

theorem SrcP.list {prog : Program} {w : World} {l : Addr} {items : Array Value} {h : Heap} (hl : h.IsList l items) : SrcP prog w (.ref l) items.size (fun i v => items[i]? = some v) h (fun b => b = l) where
  iter := fun A E s Q hh hk hQ => by
    have hls : s.heap.IsList l items := hl.at fun o e => hk l o e
    have hlt : l < s.heap.objs.size := by obtain ⟨_, e, _⟩ := hls; exact Heap.lt_size e
    refine wpAny_pyIter_list hls ?_
    refine hQ _ [s.heap.objs.size, l] _ rfl (fun A' hA => Walks.list hA _ _ (Nat.ne_of_lt hlt) items) ⟨⟨_, Heap.get?_push_size _ rfl, rfl, rfl⟩, hls.push _⟩ ?_ ?_
    · intro b hb
      rcases List.mem_cons.mp hb with rfl | hb
      · exact .inl rfl
      · exact .inr (List.mem_singleton.mp hb)
    · rintro i h' ⟨⟨o, e, _⟩, _⟩; exact ⟨o, e⟩

theorem SrcP.tuple {prog : Program} {w : World} {l : Addr} {items : Array Value} {h : Heap} (hl : h.IsTuple l items) : SrcP prog w (.ref l) items.size (fun i v => items[i]? = some v) h (fun b => b = l) where
  iter := fun A E s Q hh hk hQ => by
    have hls : s.heap.IsTuple l items := let ⟨o, e, r⟩ := hl; ⟨o, hk _ _ e, r⟩
    have hlt : l < s.heap.objs.size := by obtain ⟨_, e, _⟩ := hls; exact Heap.lt_size e
    refine wpAny_pyIter_tuple hls ?_
    refine hQ _ [s.heap.objs.size, l] _ rfl (fun A' hA => Walks.tuple hA _ _ (Nat.ne_of_lt hlt) items) ⟨⟨_, Heap.get?_push_size _ rfl, rfl, rfl⟩, hls.push _⟩ ?_ ?_
    · intro b hb
      rcases List.mem_cons.mp hb with rfl | hb
      · exact .inl rfl
      · exact .inr (List.mem_singleton.mp hb)
    · rintro i h' ⟨⟨o, e, _⟩, _⟩; exact ⟨o, e⟩

theorem Src.list {prog : Program} {w : World} {l : Addr} {items : Array Value} {h : Heap} (hl : h.IsList l items) : Src prog w (.ref l) items h :=
  (SrcP.list hl).foot fun b e => by obtain ⟨o, ho, _⟩ := hl; exact ⟨o, e ▸ ho⟩
theorem Src.tuple {prog : Program} {w : World} {l : Addr} {items : Array Value} {h : Heap} (hl : h.IsTuple l items) : Src prog w (.ref l) items h :=
  (SrcP.tuple hl).foot fun b e => by obtain ⟨o, ho, _⟩ := hl; exact ⟨o, e ▸ ho⟩

theorem SrcP.range {prog : Program} {w : World} {r : Addr} {n : Nat} {t u v : Tok} {h : Heap} {ft : Addr → Prop} (hr : IsRange h r 0 n 1 t u v) (hn : n < 2 ^ 60) :
    SrcP prog w (.ref r) n (fun i v => ∃ t, v = .int i t) h ft where
  iter := fun A E s Q hh hk hQ => by
    have hrs : IsRange s.heap r 0 n 1 t u v := hk _ _ hr
    have hs : Builtin.Range.small 0 n 1 = true := small_one (by decide) (by decide) (by omega) (by omega)
    have hz : Builtin.Range.rangeSize 0 n 1 = (n : Int) := by rw [rangeSize_nat]; simp
    refine wpAny_pyIter_range hrs hs ?_
    rw [hz]
    have hW : ∀ A' : Around, A'.handled = none → Walks prog w A' s.heap.objs.size [s.heap.objs.size] [s.heap.objs.size] n (fun i v => ∃ t, v = .int i t)
        (fun i h => IsRangeIter h s.heap.objs.size (0 + (i : Nat) * 1) ((n : Int) - (i : Nat)) 1) := fun A' hA => by
      have := Walks.range (prog := prog) (w := w) hA s.heap.objs.size 0 1 n
      simpa only [Int.zero_add, Int.mul_one] using this
    refine hQ _ [s.heap.objs.size] _ rfl hW ?_ ?_ ?_
    · show IsRangeIter _ _ _ _ _
      simpa using Heap.get?_push_size _ rfl
    · intro b hb; exact .inl (List.mem_singleton.mp hb)
    · intro i h' e; exact ⟨_, e⟩

/-- a test of a generator's turn: true just where `pz` says so of the item, and nothing is turned -/
def TestOk (prog : Program) (w : World) (test : Expr) (x : Str) (scope : Scope) (P : Value → Prop) (pz : Value → Bool) (h : Heap) (D U : Nat) : Prop :=
  ∀ (A' : Around) (E' : Value → Shared → Prop) (cenv : Env) (v : Value) (t : Shared) (m₂ : Str → Option Value), A'.handled = none → A'.depth ≤ D → A'.units ≤ U → P v →
    cenv.scope = scope → t.heap.Ns cenv.locals m₂ → m₂ x = some v → (∀ b o, h.get? b = some o → t.heap.get? b = some o) →
    wpAny (model prog w) A' (isTrue test cenv (eval test cenv)) (fun ok s₃ => ok = pz v ∧ Keeps t s₃) E' t

theorem passing_filter {items : Array Value} {pz : Value → Bool} {acc : Array Value}
    (h : ItemsOf (fun j y => ∃ i, (passing (fun i => (items[i]?).any pz) items.size 0)[j]? = some i ∧ items[i]? = some y) acc (passing (fun i => (items[i]?).any pz) items.size 0).length) :
    acc = (items.toList.filter pz).toArray := by
  obtain ⟨xs⟩ := items
  have key : ∀ (ys : List Value) (k : Nat), ((List.range' k ys.length).filter (fun i => (ys[i - k]?).any pz)).map (fun i => (ys[i - k]?).getD .none) = ys.filter pz := by
    intro ys
    induction ys with
    | nil => intro k; rfl
    | cons y ys ih =>
      intro k
      rw [List.length_cons, List.range'_succ]
      have h1 : ∀ i ∈ List.range' (k + 1) ys.length, ((y :: ys)[i - k]?) = ys[i - (k + 1)]? := by
        intro i hi
        have := List.mem_range'_1.mp hi
        rw [show i - k = (i - (k + 1)) + 1 by omega, List.getElem?_cons_succ]
      have h2 : (List.range' (k + 1) ys.length).filter (fun i => ((y :: ys)[i - k]?).any pz) = (List.range' (k + 1) ys.length).filter (fun i => (ys[i - (k + 1)]?).any pz) :=
        List.filter_congr fun i hi => by rw [h1 i hi]
      have h3 : ((List.range' (k + 1) ys.length).filter (fun i => (ys[i - (k + 1)]?).any pz)).map (fun i => ((y :: ys)[i - k]?).getD .none) =
          ((List.range' (k + 1) ys.length).filter (fun i => (ys[i - (k + 1)]?).any pz)).map (fun i => (ys[i - (k + 1)]?).getD .none) :=
        List.map_congr_left fun i hi => by rw [h1 i (List.mem_filter.mp hi).1]
      cases hp : pz y with
      | true =>
        rw [List.filter_cons_of_pos (by simp [hp]), List.filter_cons_of_pos hp, List.map_cons, h2, h3, ih (k + 1)]
        simp
      | false =>
        rw [List.filter_cons_of_neg (by simp [hp]), List.filter_cons_of_neg (by simp [hp]), h2, h3, ih (k + 1)]
  have key0 := key xs 0
  obtain ⟨hs, hv⟩ := h
  have hpas : passing (fun i => (xs.toArray[i]?).any pz) xs.toArray.size 0 = (List.range' 0 xs.length).filter (fun i => (xs[i - 0]?).any pz) := by
    unfold passing
    rw [List.drop_zero, List.range_eq_range']
    simp
  have e0 : xs.toArray = { toList := xs } := rfl
  rw [← e0] at hs hv
  rw [hpas] at hs hv
  have hacc : acc.toList = xs.filter pz := by
    rw [← key0]
    refine List.ext_getElem? fun j => ?_
    rw [List.getElem?_map, Array.getElem?_toList]
    cases hj : acc[j]? with
    | some v =>
      obtain ⟨i, hi, hx⟩ := hv j v hj
      rw [hi]
      have hx' : xs[i - 0]? = some v := by simpa using hx
      simp only [Option.map_some, hx', Option.getD_some]
    | none =>
      have hge : acc.size ≤ j := by simpa using hj
      rw [hs] at hge
      rw [List.getElem?_eq_none hge]; rfl
  rw [show ({ toList := xs } : Array Value).toList = xs from rfl, ← hacc]

section
variable {prog : Program} {w : World} {A : Around} {E : Value → Shared → Prop} {s : Shared} {h₀ : Heap} {c P : Addr} {ps : Array Value} {mg : Str → Option Value} {bm : Addr} {ob : Obj}

theorem tupleGen {env : Env} {x src : Str} {pt pc px px2 psrc pos : Pos} {test : Expr} {scope : Scope} {Q : Value → Shared → Prop} {items : Array Value} {v : Value} {pz : Value → Bool}
    (hh : A.handled = none) (hco : scope.isCoroutine = false) (hclos : closureFor scope env = pure []) (hcell : ∀ y ∈ scope.names, y.2 ≠ .cell) (h0 : scope.names.lookup (".0" : Str) = some NameKind.local)
    (hx : scope.names.lookup x = some .local) (hdbg : (x == ("__debug__" : Str)) = false) (hkind : scope.kind = .function) (hroom : A.depth < recursionLimit)
    (k₀ : ∀ b o, h₀.get? b = some o → s.heap.get? b = some o) (hP₀ : h₀.get? P = none)
    (M : BMod h₀ env.globals mg bm ob) (hlim : h₀.NoLimit) (hcode : env.code = .ref c) (C : CodeHd h₀ c P) (hP : s.heap.get? P = some (tabObj ps)) (ht : TriplesOk ps.toList)
    (htup : ∀ Q' : Value → Shared → Prop, Q' (.type "tuple") s → wpAny (model prog w) A (eval (.Name "tuple" pt) env) Q' E s)
    (hsrc : ∀ Q' : Value → Shared → Prop, Q' v s → wpAny (model prog w) A (eval (.Name src psrc) env) Q' E s)
    (S : Src prog w v items h₀) (hsz : items.size ≤ sizeLine)
    (hT : TestOk prog w test x scope (fun y => y ∈ items) pz h₀ (A.depth + 1) (A.units + 8))
    (hQ : ∀ (t : Addr) (h' : Heap) (tk : Nat) (gens' : Array GenState) (ps' : Array Value), Heap.ExtBut P s.heap h' → h'.get? P = some (tabObj ps') → TriplesOk ps'.toList → s.heap.objs.size ≤ t →
      h'.get? t = some (tupOf (items.toList.filter pz).toArray) → h'.objs.size = t + 1 → (AllBare s.gens → AllBare gens') → Q (.ref t) { s with heap := h', toks := tk, gens := gens' }) :
    wpAny (model prog w) A (eval (.Call (.Name "tuple" pt) [.GeneratorExp (.Name x px) [⟨.Name x px2, .Name src psrc, [test], 0⟩] scope pos] [] pc) env) Q E s := by
  refine Call_ (htup _ ?_)
  refine PyProof.Rows.callWith_type1 ?_
  refine Calls.spliced_cons ?_
  have hclt : cStatics < s.heap.objs.size := let ⟨_, hn, _⟩ := hlim.keeps k₀; hn.lt
  have hPlt : P < s.heap.objs.size := Heap.lt_size hP
  refine wpAny_GeneratorExp_walksQD hh hco hclos hcell h0 hx hkind hroom (hsrc _ ?_) (fun _ => rfl)
  refine S.iter A E s _ hh k₀ fun oI fp St hfree W hst hfo _ => ?_
  generalize hI : s.heap.objs.size = I at W hfo ⊢
  generalize hh₂ : s.heap.push oI = h₂ at hst ⊢
  have k₂ : Sub s.heap h₂ := fun b o e => hh₂ ▸ Heap.get?_push_of_some _ e
  have hsz₂ : s.heap.objs.size ≤ h₂.objs.size := by rw [← hh₂, Heap.size_push]; exact Nat.le_succ _
  have hfp : ∀ b ∈ fp, b < h₂.objs.size := fun b hb => by
    rcases hfo b hb with e | ⟨o, e⟩
    · rw [e, ← hI, ← hh₂, Heap.size_push]; exact Nat.lt_succ_self _
    · exact Heap.lt_size (k₂ _ _ (k₀ _ _ e))
  have hwr : ∀ b ∈ [I], s.heap.objs.size ≤ b := fun b hb => by rw [List.mem_singleton.mp hb, hI]; exact Nat.le_refl _
  have hPf : P ∉ fp := fun hm => by
    rcases hfo P hm with h | ⟨o, h⟩
    · rw [h, ← hI] at hPlt; exact Nat.lt_irrefl _ hPlt
    · rw [hP₀] at h; cases h
  have k₀₂ : ∀ b o, h₀.get? b = some o → h₂.get? b = some o := fun b o e => k₂ b o (k₀ b o e)
  have hP₂ : h₂.get? P = some (tabObj ps) := k₂ _ _ hP
  have C₂ : CodeHd h₂ c P := C.keeps k₀₂
  refine ⟨hlim.keeps k₀₂, ?_⟩
  -- the code of the block: found, or made anew
  have step : ∀ (code : Value) (h₃ : Heap) (tk₃ : Nat) (ps' : Array Value), Heap.ExtBut P h₂ h₃ → h₂.objs.size ≤ h₃.objs.size → h₃.get? P = some (tabObj ps') → TriplesOk ps'.toList →
      wpAny (model prog w) A (builtinsFor env.globals env.builtins) (fun bi s₄ =>
        ∃ I' fp wr n₀ P St₀ pz F, (Value.ref I) = .ref I' ∧ (∀ A' : Around, A'.handled = none → Walks prog w A' I' fp wr n₀ P St₀) ∧ St₀ 0 s₄.heap ∧ (∀ b ∈ fp, b < s₄.heap.objs.size) ∧ s₄.heap.NoLimit ∧ cStatics ∉ wr ∧
          (∀ href : Heap, (∀ b o, s₄.heap.get? b = some o → href.get? b = some o) →
            QuietGenD prog w (genEnv scope [] s₄.heap.objs.size code bi env) x [test] (.Name x px) (List.range s₄.heap.objs.size) wr P pz F href (A.depth + 1) (A.units + 8)) ∧
          (∀ a h₅ tk gs, gs.bare = true → s₄.heap.objs.size < a → h₅.objs.size = a + 1 → (∀ b o, s₄.heap.get? b = some o → h₅.get? b = some o) →
            WalksS prog w A.in4 a (a :: s₄.heap.objs.size :: List.range s₄.heap.objs.size) (s₄.heap.objs.size :: wr) (GenOnlyQ s₄.gens.size) (passing pz n₀ 0).length
              (fun j y => ∃ i, (passing pz n₀ 0)[j]? = some i ∧ F i y) (GenAt prog w A.in4 a s₄.gens.size s₄.heap.objs.size (List.range s₄.heap.objs.size) wr pz n₀ F) →
            GenAt prog w A.in4 a s₄.gens.size s₄.heap.objs.size (List.range s₄.heap.objs.size) wr pz n₀ F 0 { s₄ with gens := s₄.gens.push gs, toks := tk, heap := h₅ } →
            wpAny (model prog w) A (spliced (backTo pc (starEach [] env))) (fun vs s₂ => wpAny (model prog w) A (call (.type "tuple") (.ref a :: vs)) Q E s₂) E { s₄ with gens := s₄.gens.push gs, toks := tk, heap := h₅ })) E
        { s with heap := h₃, toks := tk₃ } := by
    intro code h₃ tk₃ ps' hx₃ hsz₃ hP₃ ht₃
    have k₀₃ : ∀ b o, h₀.get? b = some o → h₃.get? b = some o := fun b o e => hx₃ b o (fun hb => by rw [hb, hP₀] at e; cases e) (k₀₂ b o e)
    have M₃ : BMod h₃ env.globals mg bm ob := M.keeps k₀₃
    refine wpAny_builtinsFor M₃.ns M₃.name M₃.ne M₃.obj M₃.cls M₃.dict M₃.data ?_
    refine ⟨I, fp, [I], items.size, _, St, (fun i => (items[i]?).any pz), (fun i y => items[i]? = some y), rfl, W, (W A hh).frame _ _ _ hst (fun b hb o e => hx₃ b o (fun e' => hPf (e' ▸ hb)) e),
      (fun b hb => Nat.lt_of_lt_of_le (hfp b hb) hsz₃), hlim.keeps k₀₃, (fun hm => Nat.lt_irrefl _ (Nat.lt_of_lt_of_le hclt (hwr _ hm))), (fun href hhref => ?_), fun a h₅ tk gs hgb hag hsz₅ hk₅ W' hat => ?_⟩
    · have inB : ∀ (t : Shared), (∀ b ∈ List.range h₃.objs.size, b ∉ [I] → ∀ o, href.get? b = some o → t.heap.get? b = some o) → ∀ b o, h₀.get? b = some o → t.heap.get? b = some o := fun t hkp b o e => by
        refine hkp b (List.mem_range.mpr (Heap.lt_size (k₀₃ b o e))) (fun hm => ?_) o (hhref b o (k₀₃ b o e))
        exact Nat.lt_irrefl _ (Nat.lt_of_lt_of_le (Heap.lt_size (k₀ b o e)) (hwr b hm))
      refine ⟨fun A' E' i v t m₂ hA hD hU hPv hn hm hkp => ?_, fun A' E' i v t m₂ hA hD hU hPv _ hn hm hkp => ?_⟩
      · have hmem : v ∈ items := Array.mem_of_getElem? hPv
        have key := hT A' E' (genEnv scope [] h₃.objs.size code builtinsNs env) v t m₂ hA hD hU hmem rfl hn hm (inB t hkp)
        have e1 : (forIn [test] true fun c r => if r = true then do let ok ← isTrue c (genEnv scope [] h₃.objs.size code builtinsNs env) (eval c (genEnv scope [] h₃.objs.size code builtinsNs env)); pure (ForInStep.yield ok) else pure (ForInStep.yield r) : Sem Bool)
            = (isTrue test (genEnv scope [] h₃.objs.size code builtinsNs env) (eval test (genEnv scope [] h₃.objs.size code builtinsNs env)) >>= fun ok => pure ok : Sem Bool) := by
          simp only [List.forIn_cons, List.forIn_nil, if_true, bind_assoc, pure_bind]
        rw [e1]
        refine wpAny_bind (wpAny_mono key (fun ok s₃ h₃ => wpAny_pure ⟨?_, h₃.2⟩) fun _ _ e => e)
        rw [h₃.1, hPv]; rfl
      · refine wpAny_Name (wpAny_loadName_local hkind hx hn hm ?_) hdbg
        exact ⟨hPv, t.heap, t.toks, rfl, fun _ _ e => e⟩
    · refine args_nil ?_
      have hsz' : (passing (fun i => (items[i]?).any pz) items.size 0).length ≤ sizeLine := by
        have h1 : (passing (fun i => (items[i]?).any pz) items.size 0).length ≤ items.size := by
          unfold passing
          refine Nat.le_trans (List.length_filter_le _ _) ?_
          rw [List.drop_zero, List.length_range]; exact Nat.le_refl _
        exact Nat.le_trans h1 hsz
      refine call_tuple_gen (hsz := hsz') W'.in4_3 (fun i s' st => st.1.typeIs) hat ?_ List.mem_cons_self fun s' acc hm hacc => ?_
      · intro b hb
        show b < h₅.objs.size
        rw [hsz₅]
        rcases List.mem_cons.mp hb with rfl | hb
        · exact Nat.lt_succ_self _
        · rcases List.mem_cons.mp hb with rfl | hb
          · exact Nat.lt_succ_of_lt hag
          · exact Nat.lt_succ_of_lt (Nat.lt_trans (List.mem_range.mp hb) hag)
      · obtain ⟨hs', gens', drawn', toks', os'⟩ := s'
        have hd : drawn' = s.drawn := hm.drawn
        have ho : os' = s.os := hm.os
        subst hd ho
        have hle₃ : s.heap.objs.size ≤ h₃.objs.size := Nat.le_trans hsz₂ hsz₃
        have hwlt : ∀ b ∈ (h₃.objs.size :: [I]), s.heap.objs.size ≤ b := fun b hb => by
          rcases List.mem_cons.mp hb with rfl | hb
          · exact hle₃
          · exact hwr b hb
        have hoff : ∀ b o, s.heap.get? b = some o → b ∉ (h₃.objs.size :: [I]) := fun b o e hb => Nat.lt_irrefl _ (Nat.lt_of_lt_of_le (Heap.lt_size e) (hwlt b hb))
        have ha : a ∉ (h₃.objs.size :: [I]) := fun hb => by
          rcases List.mem_cons.mp hb with e | hb
          · exact Nat.lt_irrefl _ (e ▸ hag)
          · exact Nat.lt_irrefl _ (Nat.lt_trans (Nat.lt_of_lt_of_le (hfp a ((W A hh).sub a hb)) hsz₃) hag)
        obtain ⟨oa, _, _, hoa, _⟩ := hat.1
        have halt : a < hs'.objs.size := Heap.lt_size (hm.heap a oa ha hoa)
        have hge : s.heap.objs.size ≤ hs'.objs.size := Nat.le_trans hle₃ (Nat.le_of_lt (Nat.lt_trans hag halt))
        have hacc' := passing_filter hacc
        subst hacc'
        refine hQ _ _ _ _ ps' (fun b o hb e => ?_) ?_ ht₃ hge (Heap.get?_push_size _ rfl) (Heap.size_push ..) (fun hb => ?_)
        · exact Heap.get?_push_of_some _ (hm.heap b o (hoff b o e) (hk₅ b o (hx₃ b o hb (k₂ b o e))))
        · exact Heap.get?_push_of_some _ (hm.heap P _ (hoff P _ hP) (hk₅ P _ hP₃))
        · exact hm.gens.bare (AllBare.push hb hgb)
  cases hnf : codeAmong pos ps.toList with
  | some cv => exact wpAny_genexprCode_hit hcode (C₂.code hP₂ ht) hnf (step cv h₂ _ ps (Heap.ExtBut.refl _ _) (Nat.le_refl _) hP₂ ht)
  | none =>
    refine wpAny_genexprCodeX hcode (C₂.code hP₂ ht) (C₂.tab hP₂) hnf fun c' h₃ tk₃ hx₃ hge hlt hcode₃ _ htab₃ _ => ?_
    refine step _ h₃ tk₃ _ hx₃ (Nat.le_trans hge (Nat.le_of_lt hlt)) htab₃.2 ?_
    obtain ⟨o, vs, file, tf, flags, tg, inF, text, tt, op, _, _, _, _, _, _, _, hop, hpd, htr, _⟩ := hcode₃
    exact htr
end

end
section

/-- the truth of an attribute: `getAttr v attr` comes back, and what comes back is true just if `b` -/
def AttrTruth (prog : Program) (w : World) (h : Heap) (D U : Nat) (v : Value) (attr : Str) (b : Bool) : Prop :=
  ∀ (A : Around) (E : Value → Shared → Prop) (t : Shared) (Q : Bool → Shared → Prop), A.handled = none → A.depth ≤ D → A.units ≤ U →
    (∀ b o, h.get? b = some o → t.heap.get? b = some o) →
    (∀ (h' : Heap) (tk : Nat), (∀ b o, t.heap.get? b = some o → h'.get? b = some o) → Q b { t with heap := h', toks := tk }) →
    wpAny (model prog w) A (getAttr v attr true) (fun o s₁ => wpAny (model prog w) A (truthy o) Q E s₁) E t

section
variable {prog : Program} {w : World} {h : Heap} {D U : Nat} {P : Value → Prop} {x : Str} {scope : Scope} {pi pk : Value → Bool}

theorem isTrue_attr {A : Around} {E : Value → Shared → Prop} {t : Shared} {cenv : Env} {m₂ : Str → Option Value} {v : Value} {attr : Str} {b : Bool} {Q : Bool → Shared → Prop} {pn pa : Pos}
    (hh : A.handled = none) (hD : A.depth ≤ D) (hU : A.units ≤ U) (hk : ∀ b o, h.get? b = some o → t.heap.get? b = some o) (hkind : cenv.scope.kind = .function) (hx : cenv.kindOf x = some .local)
    (hdbg : (x == ("__debug__" : Str)) = false) (hn : t.heap.Ns cenv.locals m₂) (hm : m₂ x = some v) (a : AttrTruth prog w h D U v attr b)
    (hQ : ∀ (h' : Heap) (tk : Nat), (∀ b o, t.heap.get? b = some o → h'.get? b = some o) → Q b { t with heap := h', toks := tk }) :
    wpAny (model prog w) A (isTrue (.Attribute (.Name x pn) attr pa) cenv (eval (.Attribute (.Name x pn) attr pa) cenv)) Q E t :=
  isTrue_plain (Attribute_name (wpAny_Name (wpAny_loadName_local hkind hx hn hm (a A E t Q hh hD hU hk hQ)) hdbg)) (by rfl)

theorem test_and_not {p1 p2 p3 p4 p5 p6 : Pos} {at1 at2 : Str} (hkind : scope.kind = .function) (hx : scope.names.lookup x = some .local) (hdbg : (x == ("__debug__" : Str)) = false)
    (hi : ∀ v, P v → AttrTruth prog w h D U v at1 (pi v)) (hw : ∀ v, P v → AttrTruth prog w h D U v at2 (pk v)) :
    TestOk prog w (.BoolOp .And [.Attribute (.Name x p1) at1 p2, .UnaryOp .Not (.Attribute (.Name x p3) at2 p4) p5] p6) x scope P (fun v => pi v && !pk v) h D U := by
  intro A' E' cenv v t m₂ hA hD hU hP hs hn hm hk
  refine isTrue_and (isTrue_attr hA hD hU hk (by rw [hs]; exact hkind) (by show cenv.scope.names.lookup x = _; rw [hs]; exact hx) hdbg hn hm (hi v hP) fun h' tk hk' => ?_)
  cases hp : pi v with
  | false => exact ⟨by simp [hp], h', tk, rfl, hk'⟩
  | true =>
    refine isTrue_and (isTrue_not (isTrue_attr hA hD hU (fun b o e => hk' b o (hk b o e)) (by rw [hs]; exact hkind) (by show cenv.scope.names.lookup x = _; rw [hs]; exact hx) hdbg (hn.keeps hk') hm (hw v hP) fun h'' tk' hk'' => ?_))
    have fin : ∀ q : Bool, pk v = q → if (!q) = true then wpAny (model prog w) A' (isTrue (.BoolOp .And [] p6) cenv (eval (.BoolOp .And [.Attribute (.Name x p1) at1 p2, .UnaryOp .Not (.Attribute (.Name x p3) at2 p4) p5] p6) cenv)) (fun ok s₃ => ok = (pi v && !pk v) ∧ Keeps t s₃) E' { t with heap := h'', toks := tk' } else (false = (pi v && !pk v) ∧ Keeps t { t with heap := h'', toks := tk' }) := by
      intro q hq
      cases q with
      | false => exact isTrue_and_nil ⟨by simp [hq, hp], h'', tk', rfl, fun b o e => hk'' b o (hk' b o e)⟩
      | true => exact ⟨by simp [hq, hp], h'', tk', rfl, fun b o e => hk'' b o (hk' b o e)⟩
    exact fin (pk v) rfl

theorem test_and {p1 p2 p3 p4 p6 : Pos} {at1 at2 : Str} (hkind : scope.kind = .function) (hx : scope.names.lookup x = some .local) (hdbg : (x == ("__debug__" : Str)) = false)
    (hi : ∀ v, P v → AttrTruth prog w h D U v at1 (pi v)) (hw : ∀ v, P v → AttrTruth prog w h D U v at2 (pk v)) :
    TestOk prog w (.BoolOp .And [.Attribute (.Name x p1) at1 p2, .Attribute (.Name x p3) at2 p4] p6) x scope P (fun v => pi v && pk v) h D U := by
  intro A' E' cenv v t m₂ hA hD hU hP hs hn hm hk
  refine isTrue_and (isTrue_attr hA hD hU hk (by rw [hs]; exact hkind) (by show cenv.scope.names.lookup x = _; rw [hs]; exact hx) hdbg hn hm (hi v hP) fun h' tk hk' => ?_)
  cases hp : pi v with
  | false => exact ⟨by simp [hp], h', tk, rfl, hk'⟩
  | true =>
    refine isTrue_and (isTrue_attr hA hD hU (fun b o e => hk' b o (hk b o e)) (by rw [hs]; exact hkind) (by show cenv.scope.names.lookup x = _; rw [hs]; exact hx) hdbg (hn.keeps hk') hm (hw v hP) fun h'' tk' hk'' => ?_)
    have fin : ∀ q : Bool, pk v = q → if q = true then wpAny (model prog w) A' (isTrue (.BoolOp .And [] p6) cenv (eval (.BoolOp .And [.Attribute (.Name x p1) at1 p2, .Attribute (.Name x p3) at2 p4] p6) cenv)) (fun ok s₃ => ok = (pi v && pk v) ∧ Keeps t s₃) E' { t with heap := h'', toks := tk' } else (false = (pi v && pk v) ∧ Keeps t { t with heap := h'', toks := tk' }) := by
      intro q hq
      cases q with
      | true => exact isTrue_and_nil ⟨by simp [hq, hp], h'', tk', rfl, fun b o e => hk'' b o (hk' b o e)⟩
      | false => exact ⟨by simp [hq, hp], h'', tk', rfl, fun b o e => hk'' b o (hk' b o e)⟩
    exact fin (pk v) rfl
end

section
variable {prog : Program} {w : World} {A : Around} {E : Value → Shared → Prop} {s : Shared} {hb : Heap} {c P f : Addr} {ps : Array Value} {mg mb : Str → Option Value} {K : Frag} {p : Program} {loose : List Str} {mean : ExcName → Option Value}
  {name qual : Str} {params : Arguments} {scope sc1 sc2 : Scope} {dV kV doc pm ct oc : Value} {an od : Option Addr} {osl : Array (Option Value)} {x src : Str} {p1 p2 p3 p4 p5 p6 q1 q2 q3 q4 q5 q6 pT pR : Pos} {kk : Nat} {test1 test2 : Expr}
  {items : Array Value} {v : Value} {pz1 pz2 : Value → Bool} {Q : Value → Shared → Prop}

abbrev twoGens (x src : Str) (test1 test2 : Expr) (sc1 sc2 : Scope) (p1 p2 p3 p4 p5 p6 q1 q2 q3 q4 q5 q6 pT pR : Pos) (kk : Nat) : List Stmt :=
  [.Return (some (.Tuple [.Call (.Name "tuple" p1) [.GeneratorExp (.Name x p2) [⟨.Name x p3, .Name src p4, [test1], 0⟩] sc1 p5] [] p6,
      .Call (.Name "tuple" q1) [.GeneratorExp (.Name x q2) [⟨.Name x q3, .Name src q4, [test2], 0⟩] sc2 q5] [] q6] kk pT)) pR]

theorem fio_call (hh : A.handled = none) (hroom : A.depth + 1 < recursionLimit)
    (kb : ∀ b o, hb.get? b = some o → s.heap.get? b = some o) (hbs : hb.objs.size ≤ s.heap.objs.size) (hPb : hb.get? P = none)
    (X : K.In hb) (T : Top p loose mean mg mb hb) (C : CodeHd hb c P) (hP : s.heap.get? P = some (tabObj ps)) (ht : TriplesOk ps.toList)
    (ho : K.lookup f = some ⟨oc, od, .func (fnOf name qual params (twoGens x src test1 test2 sc1 sc2 p1 p2 p3 p4 p5 p6 q1 q2 q3 q4 q5 q6 pT pR kk) scope dV kV doc pm an (.ref c) ct), osl⟩)
    (hcd : codeIn K (.ref c) qual = true)
    (hbind : BindsTo s (fnOf name qual params (twoGens x src test1 test2 sc1 sc2 p1 p2 p3 p4 p5 p6 q1 q2 q3 q4 q5 q6 pT pR kk) scope dV kV doc pm an (.ref c) ct) ⟨[v], []⟩ [(src, v)])
    (htn : nsIn K mainGlobals "tuple" = some none) (hbt : bootBuiltins ("tuple" : Str) = some (.type "tuple"))
    (hco : scope.isCoroutine = false) (hgen : scope.isGenerator = false) (hk : scope.kind = .function) (hcell : ∀ y ∈ scope.names, y.2 ≠ .cell)
    (hsl : scope.names.lookup src = some .local) (htl : scope.names.lookup ("tuple" : Str) = some .globalImplicit) (hsd : (src == ("__debug__" : Str)) = false)
    (hco1 : sc1.isCoroutine = false) (hcl1 : ∀ env, closureFor sc1 env = pure []) (hcell1 : ∀ y ∈ sc1.names, y.2 ≠ .cell) (h01 : sc1.names.lookup (".0" : Str) = some NameKind.local)
    (hx1 : sc1.names.lookup x = some .local) (hk1 : sc1.kind = .function)
    (hco2 : sc2.isCoroutine = false) (hcl2 : ∀ env, closureFor sc2 env = pure []) (hcell2 : ∀ y ∈ sc2.names, y.2 ≠ .cell) (h02 : sc2.names.lookup (".0" : Str) = some NameKind.local)
    (hx2 : sc2.names.lookup x = some .local) (hk2 : sc2.kind = .function) (hdbg : (x == ("__debug__" : Str)) = false)
    (S : Src prog w v items hb) (hsz : items.size ≤ sizeLine)
    (hT1 : TestOk prog w test1 x sc1 (fun y => y ∈ items) pz1 hb (A.depth + 2) (A.units + 11))
    (hT2 : TestOk prog w test2 x sc2 (fun y => y ∈ items) pz2 hb (A.depth + 2) (A.units + 11))
    (hQ : ∀ (t1 t2 t : Addr) (h' : Heap) (tk : Nat) (gens' : Array GenState) (ps' : Array Value), Heap.ExtBut P s.heap h' → h'.get? P = some (tabObj ps') → TriplesOk ps'.toList →
      s.heap.objs.size ≤ t1 → t1 < t2 → t2 < t → h'.get? t1 = some (tupOf (items.toList.filter pz1).toArray) → h'.get? t2 = some (tupOf (items.toList.filter pz2).toArray) →
      h'.get? t = some (tupOf #[.ref t1, .ref t2]) → h'.objs.size = t + 1 → (AllBare s.gens → AllBare gens') → Q (.ref t) { s with heap := h', toks := tk, gens := gens' }) :
    wpAny (model prog w) A (call (.ref f) [v]) Q E s := by
  refine wpAny_call ?_
  refine codeAny_call_def (fd := fnOf name qual params (twoGens x src test1 test2 sc1 sc2 p1 p2 p3 p4 p5 p6 q1 q2 q3 q4 q5 q6 pT pR kk) scope dV kV doc pm an (.ref c) ct) (body := twoGens x src test1 test2 sc1 sc2 p1 p2 p3 p4 p5 p6 q1 q2 q3 q4 q5 q6 pT pR kk)
    (binds := [(src, v)]) (Nat.lt_of_succ_lt hroom) ((X.keeps kb) _ _ ho) rfl (T.nolimit.keeps kb) (codeRec_of (X.keeps kb) hcd) rfl hbind hcell ?_ (fun h₁ hns hk₁ => ?_) hco hgen hk
  · intro y hy
    rw [List.mem_singleton.mp hy]; exact hsl
  refine wpAny_mono (Q := fun f s' => ∃ r, f = .ret r ∧ Q r s') (E := fun _ _ => False) ?_ (fun f s' hq => by obtain ⟨r, rfl, hq⟩ := hq; exact hq) (fun _ _ e => e.elim)
  have kb₁ : ∀ b o, hb.get? b = some o → h₁.get? b = some o := fun b o e => hk₁ b o (kb b o e)
  have Mo := T.bmain
  obtain ⟨bm, ob, M⟩ := bmod_of_top T
  have F₁ : Fr hb s.heap.objs.size h₁ (fun y => [(src, v)].reverse.lookup y) := ⟨hns, kb₁, hbs⟩
  have hsrcv : (fun y : Str => [(src, v)].reverse.lookup y) src = some v := by simp [List.lookup]
  refine wpAny_execs_cons (wpAny_Return_some (Tuple_ ?_))
  refine Calls.spliced_cons ?_
  refine tupleGen (h₀ := hb) (P := P) (v := v) hh hco1 (hcl1 _) hcell1 h01 hx1 hdbg hk1 (by show A.depth + 1 < recursionLimit; exact hroom) kb₁ hPb M T.nolimit rfl C (hk₁ _ _ hP) ht
    (fun Q' hq => name_B F₁ X (topRead_of T) htn hbt (by decide) hq hk htl (by decide))
    (fun Q' hq => wpAny_Name (wpAny_loadName_local hk hsl hns hsrcv hq) hsd) S hsz hT1 fun t1 h₂ tk₂ g₂ ps₂ hx₂ hP₂ ht₂ hge₂ ht1 hs₂ hb₂ => ?_
  have kb₂ : ∀ b o, hb.get? b = some o → h₂.get? b = some o := fun b o e => hx₂ b o (fun q => by rw [q, hPb] at e; cases e) (kb₁ b o e)
  have hLP : s.heap.objs.size ≠ P := fun q => Nat.lt_irrefl _ (q ▸ Heap.lt_size hP)
  have hns₂ := hns.extBut hx₂ hLP
  have F₂ : Fr hb s.heap.objs.size h₂ (fun y => [(src, v)].reverse.lookup y) := ⟨hns₂, kb₂, hbs⟩
  refine Calls.spliced_cons ?_
  refine tupleGen (h₀ := hb) (P := P) (v := v) hh hco2 (hcl2 _) hcell2 h02 hx2 hdbg hk2 (by show A.depth + 1 < recursionLimit; exact hroom) kb₂ hPb M T.nolimit rfl C hP₂ ht₂
    (fun Q' hq => name_B F₂ X (topRead_of T) htn hbt (by decide) hq hk htl (by decide))
    (fun Q' hq => wpAny_Name (wpAny_loadName_local hk hsl hns₂ hsrcv hq) hsd) S hsz hT2 fun t2 h₃ tk₃ g₃ ps₃ hx₃ hP₃ ht₃ hge₃ ht2 hs₃ hb₃ => ?_
  refine args_nil ?_
  refine wpAny_newObj_type ?_ (by size_fits)
  have hle1 : s.heap.objs.size < h₁.objs.size := hns.lt
  have h1P : t1 ≠ P := fun q => by
    have := Heap.lt_size (hk₁ _ _ hP)
    exact Nat.lt_irrefl _ (Nat.lt_of_lt_of_le this (q ▸ hge₂))
  have h12 : t1 < t2 := by
    have h2 : h₂.objs.size ≤ t2 := hge₃
    rw [hs₂] at h2; exact h2
  refine ⟨_, rfl, hQ t1 t2 _ _ _ _ ps₃ (fun b o hb e => Heap.get?_push_of_some _ (hx₃ b o hb (hx₂ b o hb (hk₁ b o e)))) (Heap.get?_push_of_some _ hP₃) ht₃ (Nat.le_trans (Nat.le_of_lt hle1) hge₂) h12 ?_
    (Heap.get?_push_of_some _ (hx₃ _ _ h1P ht1)) (Heap.get?_push_of_some _ ht2) (Heap.get?_push_size _ rfl) (Heap.size_push ..) (fun q => hb₃ (hb₂ q))⟩
  have : h₃.objs.size = t2 + 1 := hs₃
  show t2 < h₃.objs.size
  rw [this]; exact Nat.lt_succ_self _
end

end
section

/-- what is asked of the law's end: nothing of the old is turned but the code tables, which have grown -/
def EndOk (s₁ : Shared) (tabs : List (Addr × Addr)) (s' : Shared) : Prop :=
  (∀ b o, (ghostOf s₁.heap tabs).get? b = some o → s'.heap.get? b = some o) ∧ s'.os = s₁.os ∧ AllBare s'.gens ∧ GrownAll tabs s'.heap

theorem my_post {M : Model} {A : Around} {cd : Code} {s s₁ : Shared} {cw : ClaimW} {cl : Str → Option Addr} {mean : ExcName → Option Value} {args : List WData} {tabs : List (Addr × Addr)} (hT : TabsAt tabs s₁.heap)
    (hr : ∀ cls, cw.raises args cls = false) (hp : cw.post args (.bool true) args = true)
    (h : codeAny M A cd (fun r s' => r = .ok (.ret (.bool true)) ∧ EndOk s₁ tabs s') s) : codeAny M A cd (GoodWG cw cl mean args s₁) s :=
  codeAny_mono h fun r s' ⟨e, hk, hos, hg, hgr⟩ => by
    subst e
    have keep : ∀ b o, b ∉ tabs.map (·.2) → s₁.heap.get? b = some o → s'.heap.get? b = some o := fun b o hb e => hk b o (ghost_ne e hb)
    have grown : ∀ b o, b ∈ tabs.map (·.2) → s₁.heap.get? b = some o → isCodeTable s₁.heap b ∧ o = tabObj #[] ∧ ∃ ps, s'.heap.get? b = some (tabObj ps) := fun b o hb e => by
      obtain ⟨q, hq, rfl⟩ := List.mem_map.mp hb
      have e2 := (hT q hq).2
      rw [e] at e2
      exact ⟨((hT q hq).1.tab (hT q hq).2).isCodeTable, Option.some.inj e2, hgr.get q hq⟩
    refine ⟨.inl ⟨.bool true, .bool true, [], rfl, hr, .bool true, hp, fun _ => ⟨.nil, fun _ ha => nomatch ha⟩⟩, ⟨fun b o e => ?_, fun b o e => ?_⟩, hos, hg⟩
    · by_cases hb : b ∈ tabs.map (·.2)
      · obtain ⟨ht, rfl, ps, hP⟩ := grown b o hb e
        exact .inr (.inl ⟨ht, rfl, #[], ps, rfl, by rw [Array.empty_append]; exact hP⟩)
      · exact .inl (keep b o hb e)
    · by_cases hb : b ∈ tabs.map (·.2)
      · obtain ⟨_, _, ps, hP⟩ := grown b o hb e
        exact ⟨_, hP⟩
      · exact ⟨o, keep b o hb e⟩

/-- a stop of our own in the walk -/
def Held (p : Prop) : Prop := p
theorem Held.mk {p : Prop} (h : Held p) : p := h
theorem Held.of {p : Prop} (h : p) : Held p := h

end
section

abbrev NoE : Value → Shared → Prop := fun _ _ => False

/-- the end of a loop's turn -/
def TurnEnd (s : Shared) (h₀ : Heap) (L : Addr) (own : List (Addr × Obj)) (J : (Str → Option Value) → List (Addr × Obj) → Array GenState → Prop) (Q : Flow → Shared → Prop) (f : Flow) (s₂ : Shared) : Prop :=
  match f with
  | .ret v => Q (.ret v) s₂
  | .brk => Q .next s₂
  | _ => ∃ h' tk g' m' news', s₂ = { s with heap := h', toks := tk, gens := g' } ∧ Fr h₀ L h' m' ∧ News h₀ L h' (news' ++ own) ∧ (∀ p ∈ own, ∀ q ∈ news', p.1 ≠ q.1) ∧ J m' news' g'

theorem next_new {h₀ h : Heap} {L : Addr} {m : Str → Option Value} (F : Fr h₀ L h m) : h₀.get? h.objs.size = none := by
  cases e : h₀.get? h.objs.size with
  | none => rfl
  | some o => exact absurd (Heap.lt_size (F.keep _ _ e)) (Nat.lt_irrefl _)

section
variable {prog : Program} {w : World} {A : Around} {E : Value → Shared → Prop} {s : Shared} {env : Env} {h₀ : Heap} {x : Str} {px pos : Pos} {iter : Expr} {body : List Stmt} {Q : Flow → Shared → Prop}

theorem for_ledE
    (hA : A.handled = none) (hx : env.kindOf x = some .local) (hp : (env.scope.kind == .class || (env.scope.kind == .module && env.locals != env.globals)) = false)
    (hit : wpAny (model prog w) A (eval iter env) (fun v s₁ => ∃ (n : Nat) (Pi : Nat → Value → Prop) (J : Nat → (Str → Option Value) → List (Addr × Obj) → Array GenState → Prop) (hs : Heap) (ft : Addr → Prop) (h₁ : Heap) (tk : Nat) (g : Array GenState) (m₁ : Str → Option Value) (news₁ srcL : List (Addr × Obj)),
      s₁ = { s with heap := h₁, toks := tk, gens := g } ∧ SrcP prog w v n Pi hs ft ∧ Sub hs h₁ ∧ (∀ b, ft b → (∃ o, h₀.get? b = some o) ∨ ∃ o, (b, o) ∈ srcL) ∧
      Fr h₀ env.locals h₁ m₁ ∧ News h₀ env.locals h₁ (news₁ ++ srcL) ∧ (∀ p ∈ srcL, ∀ q ∈ news₁, p.1 ≠ q.1) ∧ J 0 m₁ news₁ g ∧
      (∀ i v m₂ news₂ h tk g own, i < n → Pi i v → J i m₂ news₂ g → (∀ p ∈ own, ∀ q ∈ news₂, p.1 ≠ q.1) → Fr h₀ env.locals h (fun y => if y = x then some v else m₂ y) → News h₀ env.locals h (news₂ ++ own) →
        wpAny (model prog w) A (execs body env) (TurnEnd s h₀ env.locals own (J (i + 1)) Q) NoE { s with heap := h, toks := tk, gens := g }) ∧
      (∀ m₂ news₂ h tk g, J n m₂ news₂ g → Fr h₀ env.locals h m₂ → News h₀ env.locals h (news₂ ++ srcL) → Q .next { s with heap := h, toks := tk, gens := g })) E s)
    (hfold : ∀ x, foldedSetIterable iter env x = pure x := by intro _; rfl) :
    wpAny (model prog w) A (exec (.For (.Name x px) iter body [] pos) env) Q E s := by
  refine wpAny_For (wpAny_mono hit (fun v s₁ hs₁ => ?_) fun _ _ e => e) hfold
  obtain ⟨n, Pi, J, hs, ft, h₁, tk₁, g₁, m₁, news₁, srcL, rfl, S, ks, hfo, F₁, N₁, hoff₁, hJ, turn, done⟩ := hs₁
  refine S.iter A E _ _ hA ks fun oI fp St hfree W hst hfp hlive => ?_
  dsimp only at W hst hfp hlive ⊢
  generalize hI : h₁.objs.size = I at W hst hfp hlive ⊢
  have hIL : I ≠ env.locals := fun e => Nat.lt_irrefl _ (by have := F₁.ns.lt; rw [← e, ← hI] at this; exact this)
  have hI₀ : h₀.get? I = none := hI ▸ next_new F₁
  have hIs : ∀ p ∈ srcL, p.1 ≠ I := fun p hp e => Nat.lt_irrefl _ (by have := Heap.lt_size (N₁ p (List.mem_append_right _ hp)).1; rw [e, hI] at this; exact this)
  have hIn : ∀ p ∈ news₁, p.1 ≠ I := fun p hp e => Nat.lt_irrefl _ (by have := Heap.lt_size (N₁ p (List.mem_append_left _ hp)).1; rw [e, hI] at this; exact this)
  have hLf : env.locals ∉ fp := fun hm => by
    rcases hfp _ hm with e | e
    · exact hIL e.symm
    · rcases hfo _ e with ⟨o, e⟩ | ⟨o, e⟩
      · exact Nat.lt_irrefl _ (Nat.lt_of_lt_of_le (Heap.lt_size e) F₁.above)
      · exact (N₁ _ (List.mem_append_right _ e)).2.1 rfl
  -- the loop's state
  refine codeAny_forLoop_any (fun k s' => ∃ i h tk g m₂ news₂, k = n + 1 - i ∧ i ≤ n ∧ s' = { s with heap := h, toks := tk, gens := g } ∧ St i h ∧ Fr h₀ env.locals h m₂ ∧
      News h₀ env.locals h (news₂ ++ srcL) ∧ (∀ p ∈ srcL, ∀ q ∈ news₂, p.1 ≠ q.1) ∧ (∀ q ∈ news₂, q.1 ≠ I) ∧ J i m₂ news₂ g) ?_ (n + 1)
    ⟨0, _, _, _, m₁, news₁, rfl, Nat.zero_le _, rfl, hst, F₁.push _, fun p hp => ⟨Heap.get?_push_of_some _ (N₁ p hp).1, (N₁ p hp).2⟩, hoff₁, hIn, hJ⟩
  rintro k s' ⟨i, h, tk, g, m₂, news₂, rfl, hi, rfl, hst, F₂, N₂, hoff₂, hI₂, hJ⟩
  by_cases hlt : i < n
  · refine (W A hA).item i _ _ _ hlt hst fun v h₃ tk₃ hPv hst₃ hk₃ => ?_
    show wpAny _ A (letOwnedTupleGo (.Name x px) _ v) _ _ _
    refine wpAny_of_eq (rfl : letOwnedTupleGo (.Name x px) (.ref I) v = pure ()) ?_
    have F₃ : Fr h₀ env.locals h₃ m₂ := ⟨F₂.ns.at' fun o e => hk₃ _ o (fun hm => hIL (List.mem_singleton.mp hm).symm) e,
      fun b o e => hk₃ b o (fun hm => by rw [List.mem_singleton.mp hm, hI₀] at e; cases e) (F₂.keep b o e), F₂.above⟩
    have N₃ : News h₀ env.locals h₃ (news₂ ++ srcL) := fun p hp => ⟨hk₃ _ _ (fun hm => by
      rcases List.mem_append.mp hp with hp | hp
      · exact hI₂ p hp (List.mem_singleton.mp hm)
      · exact hIs p hp (List.mem_singleton.mp hm)) (N₂ p hp).1, (N₂ p hp).2⟩
    obtain ⟨oJ, hoJ⟩ := hlive _ _ hst₃
    refine wpAny_assign_Name (wpAny_storeName_local hx F₃.ns (fun h₄ hn₄ hs₄ => ?_) hp)
    have F₄ := F₃.set hn₄ hs₄
    have N₄ := N₃.set hs₄
    have hoJ₄ : h₄.get? I = some oJ := (hs₄.2 I hIL).trans hoJ
    have hst₄ : St (i + 1) h₄ := (W A hA).frame _ _ _ hst₃ fun b hb o e => hs₄.extBut b o (fun q => hLf (q ▸ hb)) e
    have Nown : News h₀ env.locals h₄ (news₂ ++ ((I, oJ) :: srcL)) := fun p hp => by
      rcases List.mem_append.mp hp with hp | hp
      · exact N₄ p (List.mem_append_left _ hp)
      · rcases List.mem_cons.mp hp with rfl | hp
        · exact ⟨hoJ₄, hIL, hI₀⟩
        · exact N₄ p (List.mem_append_right _ hp)
    have hown : ∀ p ∈ (I, oJ) :: srcL, ∀ q ∈ news₂, p.1 ≠ q.1 := fun p hp q hq => by
      rcases List.mem_cons.mp hp with rfl | hp
      · exact (hI₂ q hq).symm
      · exact hoff₂ p hp q hq
    refine wpAny_mono (turn i v m₂ news₂ h₄ _ g ((I, oJ) :: srcL) hlt hPv hJ hown F₄ Nown) (fun f s₅ hf₅ => ?_) fun _ _ e => e.elim
    have fin : (∃ h' tk g' m' news', s₅ = { s with heap := h', toks := tk, gens := g' } ∧ Fr h₀ env.locals h' m' ∧ News h₀ env.locals h' (news' ++ ((I, oJ) :: srcL)) ∧ (∀ p ∈ (I, oJ) :: srcL, ∀ q ∈ news', p.1 ≠ q.1) ∧ J (i + 1) m' news' g') →
        ∃ m, m < n + 1 - i ∧ ∃ i h tk g m₂ news₂, m = n + 1 - i ∧ i ≤ n ∧ s₅ = { s with heap := h, toks := tk, gens := g } ∧ St i h ∧ Fr h₀ env.locals h m₂ ∧
          News h₀ env.locals h (news₂ ++ srcL) ∧ (∀ p ∈ srcL, ∀ q ∈ news₂, p.1 ≠ q.1) ∧ (∀ q ∈ news₂, q.1 ≠ I) ∧ J i m₂ news₂ g := by
      rintro ⟨h₅, tk₅, g₅, m₅, news₅, rfl, F₅, N₅, hoff₅, hJ₅⟩
      refine ⟨n + 1 - (i + 1), by omega, i + 1, h₅, tk₅, g₅, m₅, news₅, rfl, hlt, rfl, (W A hA).frame _ _ _ hst₄ fun b hb o e => ?_, F₅, fun p hp => ?_, fun p hp => hoff₅ p (List.mem_cons_of_mem _ hp), fun q hq => (hoff₅ _ (List.mem_cons_self ..) q hq).symm, hJ₅⟩
      · rcases hfp b hb with rfl | e'
        · rw [hoJ₄] at e; cases e
          exact (N₅ _ (List.mem_append_right _ (List.mem_cons_self ..))).1
        · rcases hfo _ e' with ⟨o', e'⟩ | ⟨o', e'⟩
          · rw [F₄.keep _ _ e'] at e; cases e; exact F₅.keep _ _ e'
          · have h1 := (N₄ _ (List.mem_append_right _ e')).1
            rw [h1] at e; cases e
            exact (N₅ _ (List.mem_append_right _ (List.mem_cons_of_mem _ e'))).1
      · rcases List.mem_append.mp hp with hp | hp
        · exact N₅ p (List.mem_append_left _ hp)
        · exact N₅ p (List.mem_append_right _ (List.mem_cons_of_mem _ hp))
    cases f with
    | ret v => exact hf₅
    | brk => exact hf₅
    | next => exact fin hf₅
    | cont => exact fin hf₅
  · have hin : i = n := by omega
    subst hin
    refine (W A hA).done _ _ _ hst fun h₃ tk₃ hk₃ => ?_
    have F₃ : Fr h₀ env.locals h₃ m₂ := ⟨F₂.ns.at' fun o e => hk₃ _ o (fun hm => hIL (List.mem_singleton.mp hm).symm) e,
      fun b o e => hk₃ b o (fun hm => by rw [List.mem_singleton.mp hm, hI₀] at e; cases e) (F₂.keep b o e), F₂.above⟩
    have N₃ : News h₀ env.locals h₃ (news₂ ++ srcL) := fun p hp => ⟨hk₃ _ _ (fun hm => by
      rcases List.mem_append.mp hp with hp | hp
      · exact hI₂ p hp (List.mem_singleton.mp hm)
      · exact hIs p hp (List.mem_singleton.mp hm)) (N₂ p hp).1, (N₂ p hp).2⟩
    exact wpAny_execs_nil (done m₂ news₂ h₃ tk₃ g hJ F₃ N₃)

theorem for_led {n : Nat} {Pi : Nat → Value → Prop} (J : Nat → (Str → Option Value) → List (Addr × Obj) → Array GenState → Prop)
    (hA : A.handled = none) (hx : env.kindOf x = some .local) (hp : (env.scope.kind == .class || (env.scope.kind == .module && env.locals != env.globals)) = false)
    (hit : wpAny (model prog w) A (eval iter env) (fun v s₁ => ∃ (hs : Heap) (ft : Addr → Prop) (h₁ : Heap) (tk : Nat) (g : Array GenState) (m₁ : Str → Option Value) (news₁ srcL : List (Addr × Obj)),
      s₁ = { s with heap := h₁, toks := tk, gens := g } ∧ SrcP prog w v n Pi hs ft ∧ Sub hs h₁ ∧ (∀ b, ft b → (∃ o, h₀.get? b = some o) ∨ ∃ o, (b, o) ∈ srcL) ∧
      Fr h₀ env.locals h₁ m₁ ∧ News h₀ env.locals h₁ (news₁ ++ srcL) ∧ (∀ p ∈ srcL, ∀ q ∈ news₁, p.1 ≠ q.1) ∧ J 0 m₁ news₁ g ∧
      (∀ i v m₂ news₂ h tk g own, i < n → Pi i v → J i m₂ news₂ g → (∀ p ∈ own, ∀ q ∈ news₂, p.1 ≠ q.1) → Fr h₀ env.locals h (fun y => if y = x then some v else m₂ y) → News h₀ env.locals h (news₂ ++ own) →
        wpAny (model prog w) A (execs body env) (TurnEnd s h₀ env.locals own (J (i + 1)) Q) NoE { s with heap := h, toks := tk, gens := g }) ∧
      (∀ m₂ news₂ h tk g, J n m₂ news₂ g → Fr h₀ env.locals h m₂ → News h₀ env.locals h (news₂ ++ srcL) → Q .next { s with heap := h, toks := tk, gens := g })) E s)
    (hfold : ∀ x, foldedSetIterable iter env x = pure x := by intro _; rfl) :
    wpAny (model prog w) A (exec (.For (.Name x px) iter body [] pos) env) Q E s := by
  exact for_ledE hA hx hp (wpAny_mono hit (fun v s₁ h => ⟨n, Pi, J, h⟩) fun _ _ e => e) hfold
end

end
section

/-- a call of a def of the text's, over the whole heap as its ground -/
theorem def_call {prog : Program} {w : World} {A : Around} {E : Value → Shared → Prop} {s : Shared} {K : Frag} {p : Program} {loose : List Str} {mean : ExcName → Option Value} {mg mb : Str → Option Value}
    {name qual : Str} {params : Arguments} {body : List Stmt} {scope : Scope} {dV kV doc pm cdv ct oc : Value} {an od : Option Addr} {osl : Array (Option Value)} {f : Addr} {args : List Value} {binds : List (Str × Value)} {Q : Value → Shared → Prop}
    (X : K.In s.heap) (T : Top p loose mean mg mb s.heap) (hroom : A.depth < recursionLimit)
    (ho : K.lookup f = some ⟨oc, od, .func (fnOf name qual params body scope dV kV doc pm an cdv ct), osl⟩) (hcd : codeIn K cdv qual = true)
    (hbind : BindsTo s (fnOf name qual params body scope dV kV doc pm an cdv ct) ⟨args, []⟩ binds) (hloc : ∀ y ∈ binds, scope.names.lookup y.1 = some .local)
    (h : ∀ h₁, Fr s.heap s.heap.objs.size h₁ (fun y => binds.reverse.lookup y) →
      wpAny (model prog w) (A.deeper (envOf qual scope s.heap.objs.size f cdv)) (execs body (envOf qual scope s.heap.objs.size f cdv)) (fun fl s' => ∃ r, fl = .ret r ∧ Q r s') NoE { s with heap := h₁, toks := s.toks + binds.length })
    (hco : scope.isCoroutine = false) (hgen : scope.isGenerator = false) (hk : scope.kind = .function) (hcell : ∀ x ∈ scope.names, x.2 ≠ .cell) :
    wpAny (model prog w) A (call (.ref f) args) Q E s := by
  refine wpAny_call ?_
  refine codeAny_call_def (fd := fnOf name qual params body scope dV kV doc pm an cdv ct) (body := body) (binds := binds) hroom (X _ _ ho) rfl T.nolimit (codeRec_of X hcd) rfl hbind hcell hloc (fun h₁ hns hk₁ => ?_) hco hgen hk
  exact wpAny_mono (h h₁ ⟨hns, hk₁, Nat.le_refl _⟩) (fun f s' hq => by obtain ⟨r, rfl, hq⟩ := hq; exact hq) (fun _ _ e => e.elim)

section
variable {M : Model} {A : Around} {E : Value → Shared → Prop} {s : Shared} {K : Frag} {h₀ : Heap} {p : Program} {loose : List Str} {mean : ExcName → Option Value} {mg mb : Str → Option Value} {env : Env} {x : Str} {pos : Pos} {v : Value} {Q : Value → Shared → Prop}
/-- a built-in's name, in any block of the text's -/
theorem name_blt (X : K.In h₀) (T : Top p loose mean mg mb h₀) (k : Sub h₀ s.heap) (e : nsIn K mainGlobals x = some none) (hv : bootBuiltins x = some v) (hn : x ≠ "__name__") (h : Q v s)
    (hgl : env.globals = mainGlobals) (hbl : env.builtins = builtinsNs) (hk : env.scope.kind = .function) (hx : env.kindOf x = some .globalImplicit) (hd : (x == ("__debug__" : Str)) = false) :
    wpAny M A (eval (.Name x pos) env) Q E s :=
  Name_function_global hk hx (loadGlobal_builtin (by rw [hgl]; exact T.g.keeps k) (mg_none_of X T.g e) (by rw [hbl]; exact T.b.keeps k) ((T.builtins x hn).trans hv) h) hd
/-- a global name of the text's, in any block of the text's -/
theorem name_glb (X : K.In h₀) (T : Top p loose mean mg mb h₀) (k : Sub h₀ s.heap) (e : nsIn K mainGlobals x = some (some v)) (h : Q v s)
    (hgl : env.globals = mainGlobals) (hk : env.scope.kind = .function) (hx : env.kindOf x = some .globalImplicit) (hd : (x == ("__debug__" : Str)) = false) :
    wpAny M A (eval (.Name x pos) env) Q E s :=
  Name_function_global hk hx (loadGlobal_global (by rw [hgl]; exact T.g.keeps k) (mg_of X T.g e) h) hd
theorem name_loc {m : Str → Option Value} (hn : s.heap.Ns env.locals m) (hm : m x = some v) (h : Q v s) (hk : env.scope.kind = .function) (hx : env.kindOf x = some .local) (hd : (x == ("__debug__" : Str)) = false) :
    wpAny M A (eval (.Name x pos) env) Q E s := wpAny_Name (wpAny_loadName_local hk hx hn hm h) hd
end

section
variable {prog : Program} {w : World} {A : Around} {E : Value → Shared → Prop} {s : Shared} {K : Frag} {h₀ : Heap} {p : Program} {loose : List Str} {mean : ExcName → Option Value} {mg mb : Str → Option Value} {env : Env} {Q : Value → Shared → Prop}
theorem range_len {y : Str} {py p1 p2 p3 p4 : Pos} {l : Addr} {its : Array Value} (X : K.In h₀) (T : Top p loose mean mg mb h₀) (k : Sub h₀ s.heap) (er : nsIn K mainGlobals "range" = some none) (el : nsIn K mainGlobals "len" = some none)
    (hl : s.heap.IsList l its) (hz : its.size < 2 ^ 60) (hy : ∀ Q' : Value → Shared → Prop, Q' (.ref l) s → wpAny (model prog w) A (eval (.Name y py) env) Q' E s)
    (h : ∀ t u v tk, Q (.ref s.heap.objs.size) { s with heap := s.heap.push { cls := .type "range", data := .fields #[.int 0 t, .int its.size u, .int 1 v] }, toks := tk })
    (hgl : env.globals = mainGlobals) (hbl : env.builtins = builtinsNs) (hk : env.scope.kind = .function) (hxr : env.kindOf "range" = some .globalImplicit) (hxl : env.kindOf "len" = some .globalImplicit) :
    wpAny (model prog w) A (eval (.Call (.Name "range" p1) [.Call (.Name "len" p2) [.Name y py] [] p3] [] p4) env) Q E s := by
  refine Call_ (name_blt X T k er PyProof.Rows.boot_range (by decide) ?_ hgl hbl hk hxr (by decide))
  refine PyProof.Rows.callWith_type1 (Calls.spliced_cons ?_)
  refine Call_ (name_blt X T k el PySem.boot_len (by decide) ?_ hgl hbl hk hxl (by decide))
  refine PyProof.Rows.callWith_builtin1 (Calls.spliced_cons (hy _ (args_nil ?_)))
  refine Calls.call_len_list hl (by omega) (args_nil ?_)
  exact call_range_1 (h _ _ _ _)
end

theorem filter_at {α : Type} {q : α → Bool} {a : α} : ∀ {l : List α} {k : Nat}, l[k]? = some a → q a = true → (l.filter q)[((l.take k).filter q).length]? = some a
  | [], _, h, _ => by simp at h
  | b :: l, 0, h, hq => by
    simp only [List.getElem?_cons_zero, Option.some.injEq] at h
    subst h
    simp [hq]
  | b :: l, k + 1, h, hq => by
    simp only [List.getElem?_cons_succ] at h
    have ih := filter_at (l := l) (k := k) h hq
    cases hb : q b with
    | true => simp [hb, ih]
    | false => simp [hb, ih]
theorem filter_take_succ {α : Type} {q : α → Bool} {a : α} {l : List α} {k : Nat} (h : l[k]? = some a) : ((l.take (k + 1)).filter q).length = ((l.take k).filter q).length + (if q a then 1 else 0) := by
  rw [List.take_add_one, h, List.filter_append, List.length_append]
  cases hq : q a <;> simp [hq]

end
section

section
variable {prog : Program} {w : World} {A : Around} {E : Value → Shared → Prop} {s : Shared} {env : Env} {x : Str} {px pos : Pos} {iter elt : Expr} {scope : Scope} {cl : List (Str × Addr)}

/-- what is asked of each turn of a comprehension that leaves all as it is and makes new things -/
def STurn (prog : Program) (w : World) (A : Around) (s : Shared) (env : Env) (x : Str) (elt : Expr) (scope : Scope) (cl : List (Str × Addr)) (n : Nat) (Pi : Nat → Value → Prop) (J : Nat → List Value → List (Addr × Obj) → Prop) : Prop :=
  ∀ C i v h tk m₃ fam ys, i < n → Pi i v → J i ys fam → h.Ns C m₃ → m₃ x = some v → s.heap.objs.size ≤ C → Sub s.heap h → (∀ p ∈ fam, h.get? p.1 = some p.2) →
    wpAny (model prog w) A (eval elt (compEnvC scope cl C env)) (fun y s₅ => ∃ h' tk' new, s₅ = { s with heap := h', toks := tk' } ∧ Sub h h' ∧ (∀ p ∈ new, h.objs.size ≤ p.1 ∧ h'.get? p.1 = some p.2) ∧ J (i + 1) (ys ++ [y]) (new ++ fam)) NoE { s with heap := h, toks := tk }

theorem comp_blockS {n : Nat} {Pi : Nat → Value → Prop} {J : Nat → List Value → List (Addr × Obj) → Prop} {RR : Value → Addr → Result → Shared → Prop} {hs : Heap} {ft : Addr → Prop} {v₀ : Value}
    (hA : A.handled = none) (hcell : ∀ y ∈ scope.names, y.2 ≠ .cell) (hkind : scope.kind = .function) (hx : scope.names.lookup x = some .local)
    (S : SrcP prog w v₀ n Pi hs ft) (ks : Sub hs s.heap) (hfo : ∀ b, ft b → ∃ o, s.heap.get? b = some o)
    (hJ : J 0 [] []) (hsz : ∀ i ys fam, J i ys fam → ys.length ≤ i) (hnz : n ≤ sizeLine)
    (turn : STurn prog w A s env x elt scope cl n Pi J)
    (hRR : ∀ D C h tk ys fam k m', J n ys fam → Sub s.heap h → s.heap.objs.size ≤ D → s.heap.objs.size ≤ C → D ≠ C → h.get? D = some (listOf ys.toArray k) → h.Ns C m' → (∀ p ∈ fam, s.heap.objs.size ≤ p.1 ∧ p.1 ≠ D ∧ p.1 ≠ C ∧ h.get? p.1 = some p.2) →
      RR (.ref D) C (.ok .next) { s with heap := h, toks := tk }) :
    wpAny (model prog w) A (pyIter v₀) (fun it s₂ => wpAny (model prog w) A (newList []) (fun acc s₃ => wpAny (model prog w) A (newFunctionEnv scope env.globals cl [] env.qual none .none (some env)) (fun cenv s₄ =>
      codeAny (model prog w) A (.compStart (.ListComp elt [⟨.Name x px, iter, [], 0⟩] scope pos) 0 it acc { cenv with scope := relabel scope env }) (RR acc cenv.locals) s₄) E s₃) E s₂) E s := by
  refine S.iter A E _ _ hA ks fun oI fp St hfree W hst hfp hlive => ?_
  refine wpAny_newObj_type (wpAny_newFunctionEnv hcell (by intro y hy; simp at hy) (fun h₂ hns₂ hsb₂ => ?_) hkind)
  dsimp only at hns₂ hsb₂ ⊢
  generalize hI : s.heap.objs.size = I at W hst hfp hlive hRR ⊢
  generalize hHa : s.heap.push oI = Ha at hst hns₂ hsb₂ ⊢
  have hD : Ha.objs.size = I + 1 := by rw [← hHa, Heap.size_push, hI]
  generalize hHb : Ha.push { cls := .type "list", dict := none, data := .seq ([] : List Value).toArray } = Hb at hns₂ hsb₂ ⊢
  have hC : Hb.objs.size = I + 2 := by rw [← hHb, Heap.size_push, hD]
  rw [hD]
  rw [hC] at hns₂ hsb₂
  rw [hC]
  have hlt : ∀ b o, s.heap.get? b = some o → b < I := fun b o e => by have := Heap.lt_size e; rw [hI] at this; exact this
  have old : Sub s.heap h₂ := fun b o e => by
    have hb := hlt b o e
    exact hsb₂.extBut b o (Nat.ne_of_lt (Nat.lt_of_lt_of_le hb (Nat.le_add_right _ _))) (Heap.get?_push_of_some _ (hHb ▸ Heap.get?_push_of_some _ (hHa ▸ Heap.get?_push_of_some _ e)))
  have hst₂ : St 0 h₂ := (W A hA).frame _ _ _ hst fun b hb o e => by
    have hb2 : b < Ha.objs.size := Heap.lt_size e
    rw [hD] at hb2
    exact hsb₂.extBut b o (Nat.ne_of_lt (Nat.lt_trans hb2 (Nat.lt_succ_self _))) (Heap.get?_push_of_some _ (hHb ▸ Heap.get?_push_of_some _ e))
  have hDl : h₂.PlainList (I + 1) #[] := ⟨0, by
    have e1 : Hb.get? (I + 1) = some { cls := .type "list", dict := none, data := .seq ([] : List Value).toArray } := by rw [← hHb, ← hD]; exact Heap.get?_push_size _ rfl
    exact hsb₂.extBut _ _ (Nat.ne_of_lt (Nat.lt_succ_self _)) (Heap.get?_push_of_some _ e1)⟩
  have hfp' : ∀ b ∈ fp, b ≤ I := fun b hb => by
    rcases hfp _ hb with e | e
    · exact Nat.le_of_eq e
    · obtain ⟨o, e⟩ := hfo _ e; exact Nat.le_of_lt (hlt _ _ e)
  have loop : ∀ tk, codeAny (model prog w) A (.compLoop (.ListComp elt [⟨.Name x px, iter, [], 0⟩] scope pos) 0 (.ref I) (.ref (I + 1)) (compEnvC scope cl (I + 2) env)) (RR (.ref (I + 1)) (I + 2)) { s with heap := h₂, toks := tk } := by
    intro tk
    refine codeAny_compLoop_tests (fun k s' => ∃ i h tk ys fam m', k = n + 1 - i ∧ i ≤ n ∧ s' = { s with heap := h, toks := tk } ∧ St i h ∧ Sub s.heap h ∧ I + 2 < h.objs.size ∧
        (∀ p ∈ fam, I + 2 < p.1 ∧ h.get? p.1 = some p.2) ∧ h.PlainList (I + 1) ys.toArray ∧ h.Ns (I + 2) m' ∧ J i ys fam) ?_ (n + 1)
      ⟨0, h₂, tk, [], [], _, rfl, Nat.zero_le _, rfl, hst₂, old, hns₂.lt, (fun _ h => nomatch h), hDl, hns₂, hJ⟩
    rintro k s' ⟨i, h, tk, ys, fam, m', rfl, hi, rfl, hst, hk, hsz', hfam, hl, hns, hJ⟩
    by_cases hlt' : i < n
    · refine (W A hA).item i _ _ _ hlt' hst fun v h₃ tk₃ hPv hst₃ hk₃ => ?_
      have k₃ : ∀ b o, b ≠ I → h.get? b = some o → h₃.get? b = some o := fun b o hb e => hk₃ b o (fun hm => hb (List.mem_singleton.mp hm)) e
      obtain ⟨oJ, hoJ⟩ := hlive _ _ hst₃
      show wpAny _ A (assign (.Name x px) (compEnvC scope cl (I + 2) env) v) _ _ _
      have hns₃ := hns.at' fun o e => k₃ _ o (Nat.ne_of_gt (Nat.lt_succ_of_lt (Nat.lt_succ_self _))) e
      refine wpAny_assign_Name (wpAny_storeName_local (env := compEnvC scope cl (I + 2) env) (lookup_relabel_local hx) hns₃ (fun h₄ hn₄ hs₄ => ?_) (by simp [compEnvC, relabel, hkind]))
      have hs₄' : Heap.SameBut (I + 2) h₃ h₄ := hs₄
      have k₄ : ∀ b o, b ≠ I → b ≠ I + 2 → h.get? b = some o → h₄.get? b = some o := fun b o hb hb2 e => hs₄'.extBut b o hb2 (k₃ b o hb e)
      have hk₄ : Sub s.heap h₄ := fun b o e => k₄ b o (Nat.ne_of_lt (hlt b o e)) (Nat.ne_of_lt (Nat.lt_of_lt_of_le (hlt b o e) (Nat.le_add_right _ _))) (hk b o e)
      have hfam₄ : ∀ p ∈ fam, h₄.get? p.1 = some p.2 := fun p hp => by
        have h1 := (hfam p hp).1
        exact k₄ _ _ (by omega) (by omega) (hfam p hp).2
      obtain ⟨kk, hD₄⟩ : h₄.PlainList (I + 1) ys.toArray := hl.at fun o e => k₄ _ o (Nat.ne_of_gt (Nat.lt_succ_self _)) (Nat.ne_of_lt (Nat.lt_succ_self _)) e
      have hst₄ : St (i + 1) h₄ := (W A hA).frame _ _ _ hst₃ fun b hb o e => hs₄'.extBut b o (Nat.ne_of_lt (Nat.lt_of_le_of_lt (hfp' b hb) (Nat.lt_succ_of_lt (Nat.lt_succ_self _)))) e
      have hsz₄ : I + 2 < h₄.objs.size := hn₄.lt
      refine wpAny_tests_nil ?_
      simp only [if_true]
      refine wpAny_mono (turn (I + 2) i v h₄ _ _ fam ys hlt' hPv hJ hn₄ (by simp) (by omega) hk₄ hfam₄) (fun y s₅ hc₅ => ?_) fun _ _ e => e.elim
      obtain ⟨h₅, tk₅, new, rfl, hk₅, hnew, hJ₅⟩ := hc₅
      have hys : ys.toArray.size ≤ sizeLine := by
        have := hsz _ _ _ hJ
        rw [List.size_toArray]; omega
      refine wpAny_list_append_plain (hsz := hys) ⟨kk, hk₅ _ _ hD₄⟩ fun h₇ hl₇ hs₇ => ?_
      have k₇ : ∀ b o, b ≠ I + 1 → h₅.get? b = some o → h₇.get? b = some o := fun b o hb e => hs₇.extBut b o hb e
      refine ⟨n + 1 - (i + 1), by omega, i + 1, h₇, tk₅, ys ++ [y], new ++ fam, _, rfl, hlt', rfl, (W A hA).frame _ _ _ hst₄ (fun b hb o e => k₇ b o (Nat.ne_of_lt (Nat.lt_of_le_of_lt (hfp' b hb) (Nat.lt_succ_self _))) (hk₅ b o e)),
        (fun b o e => k₇ b o (Nat.ne_of_lt (Nat.lt_of_lt_of_le (hlt b o e) (Nat.le_add_right _ _))) (hk₅ b o (hk₄ b o e))), ?_, fun p hp => ?_, ?_, hn₄.at' fun o e => k₇ _ o (Nat.ne_of_gt (Nat.lt_succ_self _)) (hk₅ _ o e), hJ₅⟩
      · obtain ⟨oC, _, _, hoC, _⟩ := id hn₄
        exact Heap.lt_size (k₇ (I + 2) oC (Nat.ne_of_gt (Nat.lt_succ_self _)) (hk₅ _ _ hoC))
      · rcases List.mem_append.mp hp with hp | hp
        · have h1 := hnew p hp
          have h2 : I + 2 < p.1 := Nat.lt_of_lt_of_le hsz₄ h1.1
          exact ⟨h2, k₇ _ _ (by omega) h1.2⟩
        · have h1 := (hfam p hp).1
          exact ⟨h1, k₇ _ _ (by omega) (hk₅ _ _ (hfam₄ p hp))⟩
      · have e1 : (ys ++ [y]).toArray = ys.toArray.push y := by simp
        rw [e1]; exact hl₇
    · have hin : i = n := by omega
      subst hin
      refine (W A hA).done _ _ _ hst fun h₃ tk₃ hk₃ => ?_
      have k₃ : ∀ b o, b ≠ I → h.get? b = some o → h₃.get? b = some o := fun b o hb e => hk₃ b o (fun hm => hb (List.mem_singleton.mp hm)) e
      obtain ⟨kk, hD₃⟩ : h₃.PlainList (I + 1) ys.toArray := hl.at fun o e => k₃ _ o (Nat.ne_of_gt (Nat.lt_succ_self _)) e
      have hns₃ : h₃.Ns (I + 2) m' := hns.at' fun o e => k₃ _ o (Nat.ne_of_gt (Nat.lt_succ_of_lt (Nat.lt_succ_self _))) e
      refine hRR (I + 1) (I + 2) h₃ tk₃ ys fam kk m' hJ (fun b o e => k₃ b o (Nat.ne_of_lt (hlt b o e)) (hk b o e)) (Nat.le_add_right _ _) (Nat.le_add_right _ _) (Nat.ne_of_lt (Nat.lt_succ_self _)) hD₃ hns₃ fun p hp => ?_
      have h1 := (hfam p hp).1
      exact ⟨Nat.le_of_lt (Nat.lt_of_le_of_lt (Nat.le_add_right _ _) h1), Nat.ne_of_gt (Nat.lt_of_succ_lt h1), Nat.ne_of_gt h1, k₃ _ _ (Nat.ne_of_gt (Nat.lt_of_succ_lt (Nat.lt_of_succ_lt h1))) (hfam p hp).2⟩
  exact codeAny_compStart_list (loop _) ((W A hA).self 0 _ _ _ hst₂ (loop _))

/-- what the source of such a comprehension must show -/
structure SSrc (prog : Program) (w : World) (n : Nat) (Pi : Nat → Value → Prop) (v : Value) (s₁ : Shared) : Prop where
  src : ∃ (hs : Heap) (ft : Addr → Prop), SrcP prog w v n Pi hs ft ∧ Sub hs s₁.heap ∧ ∀ b, ft b → ∃ o, s₁.heap.get? b = some o

theorem SSrc.list {l : Addr} {items : Array Value} (hl : s.heap.IsList l items) : SSrc prog w items.size (fun i v => items[i]? = some v) (.ref l) s :=
  ⟨s.heap, _, SrcP.list hl, fun _ _ e => e, fun b e => by obtain ⟨o, ho, _⟩ := hl; cases e; exact ⟨o, ho⟩⟩
theorem SSrc.tuple {l : Addr} {items : Array Value} (hl : s.heap.IsTuple l items) : SSrc prog w items.size (fun i v => items[i]? = some v) (.ref l) s :=
  ⟨s.heap, _, SrcP.tuple hl, fun _ _ e => e, fun b e => by obtain ⟨o, ho, _⟩ := hl; cases e; exact ⟨o, ho⟩⟩

theorem comp_S {n : Nat} {Pi : Nat → Value → Prop} {Q : Value → Shared → Prop} (J : Nat → List Value → List (Addr × Obj) → Prop)
    (hA : A.handled = none) (hclos : closureFor scope env = pure cl) (hcell : ∀ y ∈ scope.names, y.2 ≠ .cell) (hkind : scope.kind = .function)
    (hnames : ∀ y ∈ scope.names, y.2 = .local → scope.names.lookup y.1 = some .local) (hx : scope.names.lookup x = some .local)
    (hJ : J 0 [] []) (hsz : ∀ i ys fam, J i ys fam → ys.length ≤ i) (hnz : n ≤ sizeLine)
    (hsrc : wpAny (model prog w) A (eval iter env) (fun v s₁ => SSrc prog w n Pi v s₁ ∧ STurn prog w A s₁ env x elt scope cl n Pi J ∧
      ∀ D h tk ys fam k, J n ys fam → Sub s₁.heap h → s₁.heap.objs.size ≤ D → h.get? D = some (listOf ys.toArray k) → (∀ p ∈ fam, s₁.heap.objs.size ≤ p.1 ∧ p.1 ≠ D ∧ h.get? p.1 = some p.2) → Q (.ref D) { s₁ with heap := h, toks := tk }) E s)
    (hfold : ∀ x, foldedSetIterable iter env x = pure x := by intro _; rfl) :
    wpAny (model prog w) A (eval (.ListComp elt [⟨.Name x px, iter, [], 0⟩] scope pos) env) Q E s := by
  rw [eval_ListComp]
  refine wpAny_comprehension_free (use := none) rfl hfold hclos hkind hnames (wpAny_mono hsrc (fun v s₁ h₁ => ?_) fun _ _ e => e)
  obtain ⟨⟨hs, ft, S, ks, hfo⟩, turn, hQ⟩ := h₁
  refine comp_blockS (J := J) (RR := fun acc C => compPost (model prog w) A E none Q acc C) hA hcell hkind hx S ks hfo hJ hsz hnz turn ?_
  intro D C h tk ys fam k m' hJ hk hDs hCs hDC hD hns hfam
  refine ⟨m', hns, fun h'' hs'' => hQ D h'' tk ys fam k hJ (fun b o e => hs''.extBut b o (fun q => ?_) (hk b o e)) hDs (hs''.extBut _ _ hDC hD) fun p hp => ?_⟩
  · exact Nat.lt_irrefl _ (Nat.lt_of_lt_of_le (q ▸ Heap.lt_size e) hCs)
  · obtain ⟨a, b, c, d⟩ := hfam p hp
    exact ⟨a, b, hs''.extBut _ _ c d⟩

theorem assign_comp_S {n : Nat} {Pi : Nat → Value → Prop} {y : Str} {py spos : Pos} {Q : Flow → Shared → Prop} {h₀ : Heap} {m : Str → Option Value} (J : Nat → List Value → List (Addr × Obj) → Prop)
    (hsw : swapsWith (.ListComp elt [⟨.Name x px, iter, [], 0⟩] scope pos) (some (.Name y py)) spos.line env = pure true)
    (hA : A.handled = none) (hclos : closureFor scope env = pure cl) (hcell : ∀ y ∈ scope.names, y.2 ≠ .cell) (hkind : scope.kind = .function)
    (hnames : ∀ y ∈ scope.names, y.2 = .local → scope.names.lookup y.1 = some .local) (hx : scope.names.lookup x = some .local)
    (hy : env.kindOf y = some .local) (hp : (env.scope.kind == .class || (env.scope.kind == .module && env.locals != env.globals)) = false)
    (hJ : J 0 [] []) (hsz : ∀ i ys fam, J i ys fam → ys.length ≤ i) (hnz : n ≤ sizeLine)
    (hsrc : wpAny (model prog w) A (eval iter env) (fun v s₁ => SSrc prog w n Pi v s₁ ∧ STurn prog w A s₁ env x elt scope cl n Pi J ∧ Fr h₀ env.locals s₁.heap m ∧
      ∀ D h tk ys fam k, J n ys fam → Fr h₀ env.locals h (fun z => if z = y then some (.ref D) else m z) → (∀ b o, b ≠ env.locals → s₁.heap.get? b = some o → h.get? b = some o) → s₁.heap.objs.size ≤ D → h.get? D = some (listOf ys.toArray k) → (∀ p ∈ fam, s₁.heap.objs.size ≤ p.1 ∧ p.1 ≠ D ∧ h.get? p.1 = some p.2) → Q .next { s₁ with heap := h, toks := tk }) E s)
    (hfold : ∀ x, foldedSetIterable iter env x = pure x := by intro _; rfl) :
    wpAny (model prog w) A (exec (.Assign [.Name y py] (.ListComp elt [⟨.Name x px, iter, [], 0⟩] scope pos) spos) env) Q E s := by
  rw [exec_Assign_Name_used _ _ _ _ hsw]
  refine wpAny_bind (wpAny_standAt (wpAny_bind ?_))
  show wpAny _ A (do let _ ← comprehension (.ListComp elt [⟨.Name x px, iter, [], 0⟩] scope pos) scope env _ (newList []) false (eval iter env) (some (assign (.Name y py) env))) _ _ s
  refine wpAny_bind (wpAny_mono (wpAny_comprehension_free (use := some (assign (.Name y py) env)) (Q := fun _ s' => Q .next s') rfl hfold hclos hkind hnames
    (wpAny_mono hsrc (fun v s₁ h₁ => ?_) fun _ _ e => e)) (fun _ s' hq => wpAny_pure (wpAny_pure hq)) fun _ _ e => e)
  obtain ⟨⟨hs, ft, S, ks, hfo⟩, turn, F, hQ⟩ := h₁
  refine comp_blockS (J := J) (RR := fun acc C => compPost (model prog w) A E (some (assign (.Name y py) env)) (fun _ s' => Q .next s') acc C) hA hcell hkind hx S ks hfo hJ hsz hnz turn ?_
  intro D C h tk ys fam k m' hJ hk hDs hCs hDC hD hns hfam
  show wpAny _ A (assign (.Name y py) env (.ref D)) _ _ _
  have hL := F.ns.lt
  have F₁ : Fr h₀ env.locals h m := F.keeps hk
  refine wpAny_assign_Name (wpAny_storeName_local hy F₁.ns (fun h₂ hn₂ hs₂ => ?_) hp)
  have F₂ := F₁.set hn₂ hs₂
  have hCL : C ≠ env.locals := fun e => Nat.lt_irrefl _ (Nat.lt_of_lt_of_le hL (e ▸ hCs))
  have hDL : D ≠ env.locals := fun e => Nat.lt_irrefl _ (Nat.lt_of_lt_of_le hL (e ▸ hDs))
  refine ⟨m', hns.sameBut hs₂ hCL, fun h'' hs'' => hQ D h'' _ ys fam k hJ ⟨F₂.ns.sameBut hs'' hCL.symm, fun b o e => hs''.extBut b o (fun q => ?_) (F₂.keep b o e), F.above⟩ (fun b o hb e => hs''.extBut b o (fun q => ?_) (hs₂.extBut b o hb (hk b o e))) hDs (hs''.extBut _ _ hDC (hs₂.extBut _ _ hDL hD)) fun p hp => ?_⟩
  · exact Nat.lt_irrefl _ (Nat.lt_of_lt_of_le (q ▸ Heap.lt_size (F.keep b o e)) hCs)
  · exact Nat.lt_irrefl _ (Nat.lt_of_lt_of_le (q ▸ Heap.lt_size e) hCs)
  · obtain ⟨a, b, c, d⟩ := hfam p hp
    have hpL : p.1 ≠ env.locals := fun e => Nat.lt_irrefl _ (Nat.lt_of_lt_of_le hL (e ▸ a))
    exact ⟨a, b, hs''.extBut _ _ c (hs₂.extBut _ _ hpL d)⟩
end

end
section

/-- things whose attribute `name` is such a text -/
def Named (prog : Program) (w : World) (h : Heap) (v : Value) (x : Str) : Prop :=
  ∀ (A : Around) (E : Value → Shared → Prop) (t : Shared) (Q : Value → Shared → Prop), Sub h t.heap → (∀ t' tk', Q (.str x t') { t with toks := tk' }) → wpAny (model prog w) A (getAttr v "name" true) Q E t
structure NamesOk (prog : Program) (w : World) (h : Heap) (its : List Value) (nm : List Str) : Prop where
  len : its.length = nm.length
  short : nm.length ≤ 1000
  at_ : ∀ (i : Nat) (v : Value) (x : Str), its[i]? = some v → nm[i]? = some x → Named prog w h v x
theorem Named.keeps {prog : Program} {w : World} {h h' : Heap} {v : Value} {x : Str} (H : Named prog w h v x) (k : Sub h h') : Named prog w h' v x := fun A E t Q hk hQ => H A E t Q (fun b o e => hk b o (k b o e)) hQ
theorem NamesOk.keeps {prog : Program} {w : World} {h h' : Heap} {its : List Value} {nm : List Str} (H : NamesOk prog w h its nm) (k : Sub h h') : NamesOk prog w h' its nm := ⟨H.len, H.short, fun i v x a b => (H.at_ i v x a b).keeps k⟩

section
variable {prog : Program} {w : World} {A : Around} {E : Value → Shared → Prop} {s : Shared} {env : Env}

/-- what is asked of a plain comprehension's scope -/
structure ScOk (sc : Scope) (env : Env) (x : Str) : Prop where
  clos : closureFor sc env = pure []
  cell : ∀ y ∈ sc.names, y.2 ≠ .cell
  kind : sc.kind = .function
  names : ∀ y ∈ sc.names, y.2 = .local → sc.names.lookup y.1 = some .local
  x : sc.names.lookup x = some .local

/-- [one.name for one in part] -/
theorem names_part {sc : Scope} {p1 p2 p3 p4 p5 : Pos} {m : Str → Option Value} {Q : Value → Shared → Prop} {t : Addr} {its : List Value} {nm : List Str} (hA : A.handled = none) (O : ScOk sc env "one")
    (hk : env.scope.kind = .function) (hp : env.kindOf "part" = some .local) (hns : s.heap.Ns env.locals m) (hm : m "part" = some (.ref t)) (ht : s.heap.get? t = some (tupOf its.toArray)) (H : NamesOk prog w s.heap its nm)
    (h : ∀ D h tk vs k, Sub s.heap h → s.heap.objs.size ≤ D → h.get? D = some (listOf vs.toArray k) → StrsAre vs nm → Q (.ref D) { s with heap := h, toks := tk }) :
    wpAny (model prog w) A (eval (.ListComp (.Attribute (.Name "one" p1) "name" p2) [⟨.Name "one" p3, .Name "part" p4, [], 0⟩] sc p5) env) Q E s := by
  refine comp_S (cl := []) (n := its.toArray.size) (Pi := fun i v => its.toArray[i]? = some v) (fun i ys fam => fam = [] ∧ StrsAre ys (nm.take i) ∧ ys.length = i) hA O.clos O.cell O.kind O.names O.x ⟨rfl, by rw [List.take_zero]; exact .nil, rfl⟩
    (fun i ys fam h => Nat.le_of_eq h.2.2) (by rw [List.size_toArray, H.len]; exact Nat.le_trans H.short (by decide)) ?_
  refine name_loc hns hm ⟨SSrc.tuple ⟨_, ht, rfl, 0, rfl⟩, ?_, ?_⟩ hk hp (by decide)
  · rintro C i v h tk m₃ fam ys hin hv ⟨rfl, hys, hyl⟩ hC hmx _ hkk _
    have hil : i < nm.length := by rw [← H.len]; simpa using hin
    refine Attribute_name (name_loc (m := m₃) (v := v) hC hmx ?_ O.kind (lookup_relabel_local O.x) (by decide))
    refine H.at_ i v nm[i] (by simpa using hv) (by simp [hil]) A NoE _ _ hkk fun t' tk' => ?_
    refine ⟨h, tk', [], rfl, fun _ _ e => e, (fun _ h => nomatch h), rfl, ?_, by rw [List.length_append, hyl]; rfl⟩
    rw [List.take_add_one, List.getElem?_eq_getElem hil]
    exact hys.append' (.cons _ _ .nil)
  · rintro D h' tk ys fam k ⟨rfl, hys, hyl⟩ hkk hD hDl _
    refine h D h' tk ys k hkk hD hDl ?_
    rwa [List.size_toArray, H.len, List.take_length] at hys

abbrev namesTwo (p1 p2 p3 p4 p5 p6 p7 : Pos) (iter : Expr) (sc sc2 : Scope) : Expr :=
  .ListComp (.ListComp (.Attribute (.Name "one" p1) "name" p2) [⟨.Name "one" p3, .Name "part" p4, [], 0⟩] sc p5) [⟨.Name "part" p6, iter, [], 0⟩] sc2 p7

/-- [[one.name for one in part] for part in ..] over a tuple of two tuples -/
theorem names_two {sc sc2 : Scope} {p1 p2 p3 p4 p5 p6 p7 : Pos} {iter : Expr} {Q : Value → Shared → Prop} (hA : A.handled = none) (O2 : ScOk sc2 env "part") (O : ∀ C, ScOk sc (compEnvC sc2 [] C env) "one")
    (hit : wpAny (model prog w) A (eval iter env) (fun v s₁ => ∃ t t1 t2 its1 its2 nm1 nm2, v = .ref t ∧ s₁.heap.get? t = some (tupOf #[.ref t1, .ref t2]) ∧ s₁.heap.get? t1 = some (tupOf (its1 : List Value).toArray) ∧ s₁.heap.get? t2 = some (tupOf (its2 : List Value).toArray) ∧
      NamesOk prog w s₁.heap its1 nm1 ∧ NamesOk prog w s₁.heap its2 nm2 ∧
      ∀ D d1 d2 h tk vs1 vs2 k k1 k2, Sub s₁.heap h → s₁.heap.objs.size ≤ D → s₁.heap.objs.size ≤ d1 → s₁.heap.objs.size ≤ d2 → h.get? D = some (listOf #[.ref d1, .ref d2] k) → h.get? d1 = some (listOf (vs1 : List Value).toArray k1) → h.get? d2 = some (listOf (vs2 : List Value).toArray k2) →
        StrsAre vs1 nm1 → StrsAre vs2 nm2 → Q (.ref D) { s₁ with heap := h, toks := tk }) E s)
    (hfold : ∀ x, foldedSetIterable iter env x = pure x := by intro _; rfl) :
    wpAny (model prog w) A (eval (namesTwo p1 p2 p3 p4 p5 p6 p7 iter sc sc2) env) Q E s := by
  -- the two texts' lists are not known before the source is read
  unfold namesTwo
  rw [eval_ListComp]
  refine wpAny_comprehension_free (use := none) rfl hfold O2.clos O2.kind O2.names (wpAny_mono hit (fun v s₁ h₁ => ?_) fun _ _ e => e)
  obtain ⟨t, t1, t2, its1, its2, nm1, nm2, rfl, ht, ht1, ht2, H1, H2, hQ⟩ := h₁
  have SS : SSrc prog w 2 (fun i v => #[Value.ref t1, .ref t2][i]? = some v) (.ref t) s₁ := SSrc.tuple (items := #[.ref t1, .ref t2]) ⟨_, ht, rfl, 0, rfl⟩
  obtain ⟨⟨hs, ft, S, ks, hfo⟩⟩ := SS
  let J : Nat → List Value → List (Addr × Obj) → Prop := fun i ys fam => (i = 0 ∧ ys = [] ∧ fam = []) ∨ (i = 1 ∧ ∃ d1 k1 vs1, ys = [Value.ref d1] ∧ fam = [(d1, listOf (vs1 : List Value).toArray k1)] ∧ StrsAre vs1 nm1) ∨
    (i = 2 ∧ ∃ d1 k1 vs1 d2 k2 vs2, ys = [Value.ref d1, Value.ref d2] ∧ fam = [(d2, listOf (vs2 : List Value).toArray k2), (d1, listOf (vs1 : List Value).toArray k1)] ∧ StrsAre vs1 nm1 ∧ StrsAre vs2 nm2)
  refine comp_blockS (J := J) (RR := fun acc C => compPost (model prog w) A E none Q acc C) hA O2.cell O2.kind O2.x S ks hfo (.inl ⟨rfl, rfl, rfl⟩) ?sz (by decide) ?turn ?_
  case sz =>
    rintro i ys fam (⟨rfl, rfl, rfl⟩ | ⟨rfl, d1, k1, vs1, rfl, _⟩ | ⟨rfl, d1, k1, vs1, d2, k2, vs2, rfl, _⟩) <;> simp
  case turn =>
    rintro C i v h tk m₃ fam ys hin hv hJ hC hmx hCs hkk hfam
    have hcase : ∀ (tt : Addr) (its : List Value) (nm : List Str), v = .ref tt → s₁.heap.get? tt = some (tupOf its.toArray) → NamesOk prog w s₁.heap its nm → (∀ D k vs, StrsAre vs nm → J (i + 1) (ys ++ [.ref D]) ((D, listOf (vs : List Value).toArray k) :: fam)) →
        wpAny (model prog w) A (eval (.ListComp (.Attribute (.Name "one" p1) "name" p2) [⟨.Name "one" p3, .Name "part" p4, [], 0⟩] sc p5) (compEnvC sc2 [] C env)) (fun y s₅ => ∃ h' tk' new, s₅ = { s₁ with heap := h', toks := tk' } ∧ Sub h h' ∧ (∀ p ∈ new, h.objs.size ≤ p.1 ∧ h'.get? p.1 = some p.2) ∧ J (i + 1) (ys ++ [y]) (new ++ fam)) NoE { s₁ with heap := h, toks := tk } := by
      intro tt its nm ev htt HH hJ'
      subst ev
      refine names_part (s := { s₁ with heap := h, toks := tk }) (t := tt) (its := its) (nm := nm) hA (O C) O2.kind (lookup_relabel_local O2.x) hC hmx (hkk _ _ htt) (HH.keeps hkk) fun D h' tk' vs k hk' hD hDl hvs => ?_
      exact ⟨h', tk', [(D, listOf vs.toArray k)], rfl, hk', (fun p hp => by rw [List.mem_singleton.mp hp]; exact ⟨hD, hDl⟩), hJ' D k vs hvs⟩
    rcases hJ with ⟨rfl, rfl, rfl⟩ | ⟨rfl, d1, k1, vs1, rfl, rfl, hs1⟩ | ⟨rfl, _⟩
    · cases hv
      exact hcase t1 its1 nm1 rfl ht1 H1 fun D k vs hvs => .inr (.inl ⟨rfl, D, k, vs, rfl, rfl, hvs⟩)
    · cases hv
      exact hcase t2 its2 nm2 rfl ht2 H2 fun D k vs hvs => .inr (.inr ⟨rfl, d1, k1, vs1, D, k, vs, rfl, rfl, hs1, hvs⟩)
    · omega
  intro D C h tk ys fam k m' hJ hk hDs hCs hDC hD hns hfam
  rcases hJ with ⟨e, _⟩ | ⟨e, _⟩ | ⟨_, d1, k1, vs1, d2, k2, vs2, rfl, rfl, hs1, hs2⟩
  · cases e
  · cases e
  obtain ⟨a1, b1, c1, e1⟩ := hfam (d1, listOf vs1.toArray k1) (.tail _ (.head _))
  obtain ⟨a2, b2, c2, e2⟩ := hfam (d2, listOf vs2.toArray k2) (.head _)
  refine ⟨m', hns, fun h'' hs'' => hQ D d1 d2 h'' tk vs1 vs2 k k1 k2 (fun b o e => hs''.extBut b o (fun q => ?_) (hk b o e)) hDs a1 a2 (hs''.extBut _ _ hDC hD) (hs''.extBut _ _ c1 e1) (hs''.extBut _ _ c2 e2) hs1 hs2⟩
  exact Nat.lt_irrefl _ (Nat.lt_of_lt_of_le (q ▸ Heap.lt_size e) hCs)
end

end
section

/-- the number that a place holds -/
def ix (xs : Array Keyed) (i : Nat) : Int := match xs[i]? with
  | some p => numOf p.2
  | none => 0
theorem ix_congr {xs ys : Array Keyed} {i j : Nat} (h : xs[i]? = ys[j]?) : ix xs i = ix ys j := by unfold ix; rw [h]

/-- ahead of it in a sort that keeps the order of equals -/
def Lt2 (xs : Array Keyed) (i j : Nat) : Prop := K xs i < K xs j ∨ (K xs i = K xs j ∧ ix xs i < ix xs j)
def SS (xs : Array Keyed) (k : Nat) : Prop := ∀ i j, i < j → j < k → Lt2 xs i j
def RS (xs : Array Keyed) (k : Nat) : Prop := ∀ i j, i < j → j < k → Lt2 xs j i
/-- untouched from k on; ahead of it the first k ones -/
structure Un (a₀ xs : Array Keyed) (k : Nat) : Prop where
  rest : ∀ i : Nat, k ≤ i → xs[i]? = a₀[i]?
  low : ∀ i : Nat, i < k → ix xs i < k
def Numbered (a₀ : Array Keyed) : Prop := ∀ i, i < a₀.size → ix a₀ i = i

theorem SS.le {xs : Array Keyed} {k : Nat} (h : SS xs k) {i j : Nat} (hij : i ≤ j) (hj : j < k) : K xs i ≤ K xs j := by
  rcases Nat.lt_or_ge i j with q | q
  · rcases h i j q hj with a | ⟨a, _⟩ <;> omega
  · have : i = j := by omega
    subst this; exact Int.le_refl _
theorem Un.at {a₀ xs : Array Keyed} {k : Nat} (U : Un a₀ xs k) (hN : Numbered a₀) {i : Nat} (h1 : k ≤ i) (h2 : i < a₀.size) : ix xs i = i := by
  rw [ix_congr (U.rest i h1)]; exact hN i h2
theorem Un.more {a₀ xs : Array Keyed} {k : Nat} (U : Un a₀ xs k) (hN : Numbered a₀) (h2 : k < a₀.size) : Un a₀ xs (k + 1) where
  rest := fun i hi => U.rest i (by omega)
  low := fun i hi => by
    rcases Nat.lt_or_ge i k with q | q
    · have := U.low i q; omega
    · have : i = k := by omega
      subst this; rw [U.at hN (Nat.le_refl _) h2]; omega

theorem ix_bubble {xs : Array Keyed} {src d : Nat} (hs : src < xs.size) (hd : d ≤ src) (k : Nat) :
    ix (bubble xs src d) k = if k = src - d then ix xs src else if src - d < k ∧ k ≤ src then ix xs (k - 1) else ix xs k := by
  have e := getElem?_bubble hs d hd k
  by_cases h1 : k = src - d
  · rw [if_pos h1] at e ⊢; exact ix_congr e
  · rw [if_neg h1] at e ⊢
    by_cases h2 : src - d < k ∧ k ≤ src
    · rw [if_pos h2] at e ⊢; exact ix_congr e
    · rw [if_neg h2] at e ⊢; exact ix_congr e
theorem ix_mirror {xs : Array Keyed} {i j : Nat} (hj : j ≤ xs.size) (k : Nat) :
    ix (mirror xs i j ((j - i) / 2)) k = if i ≤ k ∧ k < j then ix xs (i + j - 1 - k) else ix xs k := by
  have e := getElem?_mirror_all (i := i) hj k
  by_cases h1 : i ≤ k ∧ k < j
  · rw [if_pos h1] at e ⊢; exact ix_congr e
  · rw [if_neg h1] at e ⊢; exact ix_congr e

theorem Un.mirror {a₀ xs : Array Keyed} {k i j : Nat} (U : Un a₀ xs k) (hj : j ≤ k) (hk : k ≤ xs.size) : Un a₀ (mirror xs i j ((j - i) / 2)) k where
  rest := fun q hq => by rw [getElem?_mirror_all (by omega), if_neg (by omega)]; exact U.rest q hq
  low := fun q hq => by
    rw [ix_mirror (by omega)]
    split
    · exact U.low _ (by omega)
    · exact U.low _ hq

section
variable {prog : Program} {w : World} {A : Around} {E : Value → Shared → Prop} {s : Shared} {a₀ : Array Keyed}

theorem st_binarySort {st : SortSt} {n ok : Nat} {Q : Bool → SortSt → Prop} (h0 : IntKeys a₀) (hN : Numbered a₀) (hn : n ≤ a₀.size) (hok : ok ≤ n) (hok1 : 1 ≤ ok) (hB : SBase a₀ st) (hs : SS (arrOf st) ok) (hU : Un a₀ (arrOf st) ok)
    (h : ∀ st', SBase a₀ st' → SS (arrOf st') n → Q true st') : wpS (model prog w) A E s (binarySort' 0 n ok) Q st := by
  rw [binarySort'_eq]
  simp only [Nat.zero_add]
  refine wpS_bind (wpS_mono (wpS_forRange (I := fun k c st' => c = (none, ()) ∧ SBase a₀ st' ∧ SS (arrOf st') (min k n) ∧ Un a₀ (arrOf st') (min k n))
    (Q := fun c st' => c = (none, ()) ∧ SBase a₀ st' ∧ SS (arrOf st') n) ?step ?fin ?init) ?post)
  case post =>
    rintro c st' ⟨rfl, hB', hs'⟩
    exact wpS_pure (h st' hB' hs')
  case init =>
    rw [show min (max ok 1) n = ok by omega]
    exact ⟨rfl, hB, hs, hU⟩
  case fin =>
    rintro c st' ⟨hc, hB', hs', _⟩
    refine ⟨hc, hB', ?_⟩
    rwa [show min (max (max ok 1) n) n = n by omega] at hs'
  case step =>
    rintro k c st' hak hkn ⟨rfl, hB', hs', hU'⟩
    rw [show min k n = k by omega] at hs' hU'
    have hk : k < a₀.size := by omega
    refine wpS_bind (wpS_mono (wpS_forRange (I := fun x c st'' => st'' = st' ∧ ∃ l r, c = (none, l, r) ∧ l ≤ r ∧ r ≤ k ∧ r - l ≤ k - x ∧
        (∀ i, i < l → K (arrOf st') i ≤ K (arrOf st') k) ∧ (∀ i, r ≤ i → i < k → K (arrOf st') k < K (arrOf st') i))
      (Q := fun c st'' => st'' = st' ∧ ∃ l r, c = (none, l, r) ∧ l ≤ k ∧
        (∀ i, i < l → K (arrOf st') i ≤ K (arrOf st') k) ∧ (∀ i, l ≤ i → i < k → K (arrOf st') k < K (arrOf st') i)) ?istep ?ifin ?iinit) ?ipost)
    case iinit => exact ⟨rfl, 0, k, rfl, by omega, by omega, by omega, fun i hi => by omega, fun i h1 h2 => by omega⟩
    case ifin =>
      rintro c st'' ⟨rfl, l, r, rfl, hlr, hrk, hm, hlo, hhi⟩
      have : l = r := by omega
      subst this
      exact ⟨rfl, l, l, rfl, hrk, hlo, hhi⟩
    case istep =>
      rintro x c st'' _ hxk ⟨rfl, l, r, rfl, hlr, hrk, hm, hlo, hhi⟩
      dsimp only
      by_cases hge : l ≥ r
      · rw [if_pos hge]
        have : l = r := by omega
        subst this
        exact wpS_pure ⟨rfl, l, l, rfl, hrk, hlo, hhi⟩
      · rw [if_neg hge]
        refine wpS_bind (wpS_ltK hB' h0 hk (by omega) ?_)
        by_cases hless : K (arrOf st'') k < K (arrOf st'') ((l + r) / 2)
        · simp only [hless, decide_true, if_true]
          refine wpS_pure ⟨rfl, l, (l + r) / 2, rfl, by omega, by omega, by omega, hlo, fun i h1 h2 => ?_⟩
          exact Int.lt_of_lt_of_le hless (hs'.le h1 h2)
        · simp only [hless, decide_false, Bool.false_eq_true, if_false]
          refine wpS_pure ⟨rfl, (l + r) / 2 + 1, r, rfl, by omega, by omega, by omega, fun i h1 => ?_, hhi⟩
          exact Int.le_trans (hs'.le (j := (l + r) / 2) (by omega) (by omega)) (Int.not_lt.mp hless)
    case ipost =>
      rintro c st'' ⟨rfl, l, r, rfl, hlk, hlo, hhi⟩
      show wpS _ _ _ _ (do moveDown' k l; pure (ForInStep.yield (none, ()))) _ _
      rw [moveDown'_eq]
      have hks : k < (arrOf st'').size := by rw [hB'.size]; exact hk
      have eK := fun q => K_bubble hks (d := k - l) (by omega) q
      have eI := fun q => ix_bubble hks (d := k - l) (by omega) q
      simp only [show k - (k - l) = l by omega] at eK eI
      refine wpS_bind (wpS_modify (wpS_pure ⟨rfl, hB'.setArr (bubble_perm _ _ _), ?_, ?_⟩))
      · rw [show min (k + 1) n = k + 1 by omega]
        intro i j hij hj
        show Lt2 (bubble (arrOf st'') k (k - l)) i j
        have hik := hU'.at hN (Nat.le_refl _) hk
        unfold Lt2
        rw [eK, eK, eI, eI]
        by_cases hjl : j = l
        · subst hjl
          rw [if_pos rfl, if_pos rfl, if_neg (by omega), if_neg (by omega), if_neg (by omega), if_neg (by omega)]
          have a1 := hlo i hij
          have a2 := hU'.low i (by omega)
          rw [hik]
          omega
        · rw [if_neg hjl, if_neg hjl]
          by_cases hil : i = l
          · subst hil
            rw [if_pos rfl, if_pos rfl, if_pos ⟨by omega, by omega⟩, if_pos ⟨by omega, by omega⟩]
            exact .inl (hhi (j - 1) (by omega) (by omega))
          · rw [if_neg hil, if_neg hil]
            by_cases hj1 : l < j ∧ j ≤ k
            · rw [if_pos hj1, if_pos hj1]
              by_cases hi1 : l < i ∧ i ≤ k
              · rw [if_pos hi1, if_pos hi1]; exact hs' (i - 1) (j - 1) (by omega) (by omega)
              · rw [if_neg hi1, if_neg hi1]; exact hs' i (j - 1) (by omega) (by omega)
            · rw [if_neg hj1, if_neg hj1, if_neg (by omega), if_neg (by omega)]
              exact hs' i j hij (by omega)
      · rw [show min (k + 1) n = k + 1 by omega]
        refine ⟨fun q hq => ?_, fun q hq => ?_⟩
        · show (bubble (arrOf st'') k (k - l))[q]? = _
          rw [getElem?_bubble hks _ (by omega), if_neg (by omega), if_neg (by omega)]
          exact hU'.rest q (by omega)
        · show ix (bubble (arrOf st'') k (k - l)) q < _
          have hik := hU'.at hN (Nat.le_refl _) hk
          rw [eI]
          split
          · rw [hik]; omega
          · split
            · have := hU'.low (q - 1) (by omega); omega
            · have := hU'.low q (by omega); omega

theorem st_ascLoop {st : SortSt} {a nrem : Nat} {Q : AscSt → SortSt → Prop} (h0 : IntKeys a₀) (hN : Numbered a₀) (hn : nrem ≤ a₀.size) (ha : 1 ≤ a) (han : a ≤ nrem) (hB : SBase a₀ st)
    (hs : SS (arrOf st) a) (hU : Un a₀ (arrOf st) a)
    (h : ∀ n, a ≤ n → n ≤ nrem → SS (arrOf st) n → Un a₀ (arrOf st) n → (n = nrem ∨ K (arrOf st) n < K (arrOf st) (n - 1)) → Q (none, n) st) :
    wpS (model prog w) A E s (ascLoop a nrem) Q st := by
  unfold ascLoop
  refine wpS_forRange (I := fun x c st' => st' = st ∧ c = (none, x) ∧ SS (arrOf st) x ∧ Un a₀ (arrOf st) x) ?step ?fin ⟨rfl, rfl, hs, hU⟩
  case fin =>
    rintro c st' ⟨rfl, rfl, hs', hU'⟩
    rw [show max a nrem = nrem by omega] at hs' hU' ⊢
    exact h nrem han (Nat.le_refl _) hs' hU' (.inl rfl)
  case step =>
    rintro x c st' hax hxn ⟨rfl, rfl, hs', hU'⟩
    dsimp only
    refine wpS_bind (wpS_ltK hB h0 (by omega) (by omega) ?_)
    by_cases hless : K (arrOf st') x < K (arrOf st') (x - 1)
    · simp only [hless, decide_true, if_true]
      exact wpS_pure (h x hax (by omega) hs' hU' (.inr hless))
    · simp only [hless, decide_false, Bool.false_eq_true, if_false]
      refine wpS_pure ⟨rfl, rfl, fun i j hij hj => ?_, hU'.more hN (by omega)⟩
      by_cases hjx : j < x
      · exact hs' i j hij hjx
      · have hj' : j = x := by omega
        subst hj'
        have a1 := hs'.le (i := i) (j := j - 1) (by omega) (by omega)
        have a2 := hU'.low i hij
        have a3 := hU'.at hN (Nat.le_refl _) (show j < a₀.size by omega)
        unfold Lt2
        rw [a3]
        omega

theorem st_tail3 {st : SortSt} {n nrem : Nat} {Q : Option Nat → SortSt → Prop} (h0 : IntKeys a₀) (hN : Numbered a₀) (hn : nrem ≤ a₀.size) (h1 : 1 ≤ n) (hnn : n ≤ nrem) (hB : SBase a₀ st)
    (hs : RS (arrOf st) n) (hU : Un a₀ (arrOf st) n) (h : ∀ m st', SBase a₀ st' → 1 ≤ m → m ≤ nrem → SS (arrOf st') m → Un a₀ (arrOf st') m → Q (some m) st') :
    wpS (model prog w) A E s (tail3 n nrem) Q st := by
  unfold tail3
  have hsz : n ≤ (arrOf st).size := by rw [hB.size]; omega
  refine wpS_bind (wpS_reverse ?_)
  have hB' : SBase a₀ (setArr st (mirror (arrOf st) 0 n ((n - 0) / 2))) := hB.setArr (mirror_perm _ _ _ _)
  refine wpS_bind (st_ascLoop h0 hN hn h1 hnn hB' ?_ (hU.mirror (Nat.le_refl _) hsz) fun m hm1 hm2 hsm hUm _ => wpS_pure (h m _ hB' (by omega) hm2 hsm hUm))
  intro i j hij hj
  show Lt2 (mirror (arrOf st) 0 n ((n - 0) / 2)) i j
  unfold Lt2
  rw [K_mirror hsz, K_mirror hsz, ix_mirror hsz, ix_mirror hsz, if_pos (by omega), if_pos (by omega), if_pos (by omega), if_pos (by omega)]
  exact hs _ _ (by omega) (by omega)

/-- the descending part: the last group of equals stands as it came -/
structure DD (xs : Array Keyed) (x neq : Nat) : Prop where
  le : neq + 1 ≤ x
  a : ∀ i j, i < j → j < x - (neq + 1) → Lt2 xs j i
  b : ∀ i j, i < x - (neq + 1) → x - (neq + 1) ≤ j → j < x → K xs j < K xs i
  c : ∀ i j, x - (neq + 1) ≤ i → i < j → j < x → K xs i = K xs j ∧ ix xs i < ix xs j

theorem DD.eq {xs : Array Keyed} {x neq : Nat} (D : DD xs x neq) : ∀ k, x - (neq + 1) ≤ k → k < x → K xs k = K xs (x - 1) := fun k h1 h2 => by
  rcases Nat.lt_or_ge k (x - 1) with q | q
  · exact (D.c k (x - 1) h1 q (by have := D.le; omega)).1
  · congr 1; omega
theorem DD.rs {xs : Array Keyed} {x : Nat} (D : DD xs x 0) : RS xs x := fun i j hij hj => by
  have hle := D.le
  rcases Nat.lt_or_ge j (x - 1) with q | q
  · exact D.a i j hij (by omega)
  · exact .inl (D.b i j (by omega) (by omega) hj)
theorem DD.rev {xs : Array Keyed} {x neq : Nat} (D : DD xs x neq) (hx : x ≤ xs.size) : RS (mirror xs (x - (neq + 1)) x ((x - (x - (neq + 1))) / 2)) x := fun i j hij hj => by
  have hle := D.le
  generalize hg : x - (neq + 1) = g at *
  unfold Lt2
  rw [K_mirror hx, K_mirror hx, ix_mirror hx, ix_mirror hx]
  have Da := D.a; have Db := D.b; have Dc := D.c
  rw [hg] at Da Db Dc
  by_cases hi : g ≤ i
  · rw [if_pos ⟨by omega, hj⟩, if_pos ⟨hi, by omega⟩, if_pos ⟨by omega, hj⟩, if_pos ⟨hi, by omega⟩]
    have := Dc (g + x - 1 - j) (g + x - 1 - i) (by omega) (by omega) (by omega)
    exact .inr ⟨this.1, this.2⟩
  · rw [if_neg (c := g ≤ i ∧ i < x) (by omega), if_neg (c := g ≤ i ∧ i < x) (by omega)]
    by_cases hj' : g ≤ j
    · rw [if_pos ⟨hj', hj⟩, if_pos ⟨hj', hj⟩]
      exact .inl (Db i _ (by omega) (by omega) (by omega))
    · rw [if_neg (by omega), if_neg (by omega)]
      exact Da i j hij (by omega)
theorem RS.more {xs : Array Keyed} {x : Nat} (R : RS xs x) (h1 : 1 ≤ x) (h : K xs x < K xs (x - 1)) : DD xs (x + 1) 0 where
  le := by omega
  a := fun i j hij hj => R i j hij (by omega)
  b := fun i j hi h1 h2 => by
    have hj : j = x := by omega
    subst hj
    rcases Nat.lt_or_ge i (j - 1) with q | q
    · rcases R i (j - 1) q (by omega) with a | ⟨a, _⟩ <;> omega
    · have : i = j - 1 := by omega
      subst this; exact h
  c := fun i j h1 h2 h3 => by omega

theorem st_descLoop {st : SortSt} {n nrem : Nat} {Q : DescSt → SortSt → Prop} (h0 : IntKeys a₀) (hN : Numbered a₀) (hn : nrem ≤ a₀.size) (h1 : 1 ≤ n) (hnn : n ≤ nrem) (hB : SBase a₀ st)
    (hs : DD (arrOf st) n 0) (hU : Un a₀ (arrOf st) n)
    (h : ∀ m neq st', SBase a₀ st' → n ≤ m → m ≤ nrem → DD (arrOf st') m neq → Un a₀ (arrOf st') m → Q (none, m, neq) st') :
    wpS (model prog w) A E s (descLoop n nrem) Q st := by
  unfold descLoop
  refine wpS_forRange (I := fun x c st' => ∃ neq, c = (none, x, neq) ∧ SBase a₀ st' ∧ DD (arrOf st') x neq ∧ Un a₀ (arrOf st') x) ?step ?fin ⟨0, rfl, hB, hs, hU⟩
  case fin =>
    rintro c st' ⟨neq, rfl, hB', hs', hU'⟩
    rw [show max n nrem = nrem by omega] at hs' hU' ⊢
    exact h nrem neq st' hB' hnn (Nat.le_refl _) hs' hU'
  case step =>
    rintro x c st' hax hxn ⟨neq, rfl, hB', hs', hU'⟩
    dsimp only
    have hsz : x ≤ (arrOf st').size := by rw [hB'.size]; omega
    refine wpS_bind (wpS_ltK hB' h0 (by omega) (by omega) ?_)
    by_cases hless : K (arrOf st') x < K (arrOf st') (x - 1)
    · simp only [hless, decide_true, if_true]
      by_cases hneq : neq > 0
      · rw [if_pos hneq]
        refine wpS_bind (wpS_reverse (wpS_pure ⟨0, rfl, hB'.setArr (mirror_perm _ _ _ _), ?_, (hU'.mirror (Nat.le_refl _) hsz).more hN (by omega)⟩))
        refine RS.more (hs'.rev hsz) (by omega) ?_
        rw [K_mirror_equal hsz hs'.eq, K_mirror_equal hsz hs'.eq]
        exact hless
      · rw [if_neg hneq]
        have : neq = 0 := by omega
        subst this
        exact wpS_pure ⟨0, rfl, hB', RS.more hs'.rs (by omega) hless, hU'.more hN (by omega)⟩
    · simp only [hless, decide_false, Bool.false_eq_true, if_false]
      refine wpS_bind (wpS_ltK hB' h0 (by omega) (by omega) ?_)
      by_cases hlarger : K (arrOf st') (x - 1) < K (arrOf st') x
      · simp only [hlarger, decide_true, if_true]
        exact wpS_pure (h x neq st' hB' hax (by omega) hs' hU')
      · simp only [hlarger, decide_false, Bool.false_eq_true, if_false]
        have heqx : K (arrOf st') x = K (arrOf st') (x - 1) := by omega
        have hle := hs'.le
        have hg : x + 1 - (neq + 1 + 1) = x - (neq + 1) := by omega
        refine wpS_pure ⟨neq + 1, rfl, hB', ⟨by omega, ?_, ?_, ?_⟩, hU'.more hN (by omega)⟩
        · rw [hg]; exact hs'.a
        · rw [hg]
          intro i j a1 a2 a3
          by_cases hjx : j = x
          · subst hjx; rw [heqx]; exact hs'.b i _ a1 (by omega) (by omega)
          · exact hs'.b i j a1 a2 (by omega)
        · rw [hg]
          intro i j a1 a2 a3
          by_cases hjx : j = x
          · subst hjx
            rw [heqx, hs'.eq i a1 a2, hU'.at hN (Nat.le_refl _) (show j < a₀.size by omega)]
            exact ⟨rfl, hU'.low i a2⟩
          · exact hs'.c i j a1 a2 (by omega)

theorem st_descPart {st : SortSt} {n nrem : Nat} {Q : Option Nat → SortSt → Prop} (h0 : IntKeys a₀) (hN : Numbered a₀) (hn : nrem ≤ a₀.size) (hnn : n + 1 ≤ nrem) (hB : SBase a₀ st)
    (hs : DD (arrOf st) (n + 1) 0) (hU : Un a₀ (arrOf st) (n + 1)) (h : ∀ m st', SBase a₀ st' → 1 ≤ m → m ≤ nrem → SS (arrOf st') m → Un a₀ (arrOf st') m → Q (some m) st') :
    wpS (model prog w) A E s (descPart n nrem) Q st := by
  unfold descPart
  refine wpS_bind (wpS_lift (wpAny_rule ⟨rfl, ?_⟩))
  refine wpS_bind (st_descLoop h0 hN hn (by omega) hnn hB hs hU fun m neq st' hB' hm1 hm2 hs' hU' => ?_)
  dsimp only
  have hsz : m ≤ (arrOf st').size := by rw [hB'.size]; omega
  by_cases hneq : neq > 0
  · rw [if_pos hneq]
    exact wpS_bind (wpS_reverse (st_tail3 h0 hN hn (by omega) hm2 (hB'.setArr (mirror_perm _ _ _ _)) (hs'.rev hsz) (hU'.mirror (Nat.le_refl _) hsz) h))
  · rw [if_neg hneq]
    have : neq = 0 := by omega
    subst this
    exact st_tail3 h0 hN hn (by omega) hm2 hB' hs'.rs hU' h

theorem st_countRun {st : SortSt} {nrem : Nat} {Q : Option Nat → SortSt → Prop} (h0 : IntKeys a₀) (hN : Numbered a₀) (hn : nrem ≤ a₀.size) (h1 : 1 ≤ nrem) (hB : SBase a₀ st) (hU : Un a₀ (arrOf st) 1)
    (h : ∀ m st', SBase a₀ st' → 1 ≤ m → m ≤ nrem → SS (arrOf st') m → Un a₀ (arrOf st') m → Q (some m) st') :
    wpS (model prog w) A E s (countRun' 0 nrem) Q st := by
  rw [countRun0_eq]
  refine wpS_bind (st_ascLoop h0 hN hn (Nat.le_refl 1) h1 hB (fun i j hij hj => by omega) hU fun n hn1 hn2 hsn hUn hor => ?_)
  dsimp only
  by_cases hnn : n = nrem
  · rw [if_pos (by simpa using hnn)]
    exact wpS_pure (h n st hB hn1 hn2 hsn hUn)
  · rw [if_neg (by simpa using hnn)]
    have hlt : K (arrOf st) n < K (arrOf st) (n - 1) := hor.resolve_left hnn
    by_cases hgt : n > 1
    · rw [if_pos hgt]
      refine wpS_bind (wpS_ltK hB h0 (by omega) (by omega) ?_)
      by_cases hrose : K (arrOf st) 0 < K (arrOf st) (n - 1)
      · simp only [hrose, decide_true, if_true]
        exact wpS_pure (h n st hB hn1 hn2 hsn hUn)
      · simp only [hrose, decide_false, Bool.false_eq_true, if_false]
        have hsz : n ≤ (arrOf st).size := by rw [hB.size]; omega
        have hall : ∀ k, 0 ≤ k → k < n → K (arrOf st) k = K (arrOf st) (n - 1) := by
          intro k _ hk
          have a1 := hsn.le (i := 0) (j := k) (by omega) hk
          have a2 := hsn.le (i := k) (j := n - 1) (by omega) (by omega)
          omega
        refine wpS_bind (wpS_reverse (st_descPart h0 hN hn (by omega) (hB.setArr (mirror_perm _ _ _ _)) ?_ ((hUn.mirror (Nat.le_refl _) hsz).more hN (by omega)) h))
        refine RS.more (fun i j hij hj => ?_) (by omega) ?_
        · show Lt2 (mirror (arrOf st) 0 n ((n - 0) / 2)) j i
          unfold Lt2
          rw [K_mirror_equal hsz hall, K_mirror_equal hsz hall, ix_mirror hsz, ix_mirror hsz, if_pos (by omega), if_pos (by omega)]
          refine .inr ⟨(hall j (by omega) hj).trans (hall i (by omega) (by omega)).symm, ?_⟩
          rcases hsn (0 + n - 1 - j) (0 + n - 1 - i) (by omega) (by omega) with a | ⟨_, a⟩
          · rw [hall _ (by omega) (by omega), hall (0 + n - 1 - i) (by omega) (by omega)] at a; omega
          · exact a
        · show K (mirror (arrOf st) 0 n ((n - 0) / 2)) n < K (mirror (arrOf st) 0 n ((n - 0) / 2)) (n - 1)
          rw [K_mirror_equal hsz hall, K_mirror_equal hsz hall]; exact hlt
    · rw [if_neg hgt]
      have hn1' : n = 1 := by omega
      subst hn1'
      exact st_descPart h0 hN hn (by omega) hB (RS.more (fun i j hij hj => by omega) (by omega) hlt) (hUn.more hN (by omega)) h
end

end
section

section
variable {prog : Program} {w : World} {A : Around} {E : Value → Shared → Prop} {s : Shared} {a₀ : Array Keyed}

def DoneS (a₀ : Array Keyed) (st : SortSt) : Prop :=
  (arrOf st).Perm a₀ ∧ failedOf st = none ∧ pendingOf st = #[(0, a₀.size, 0)] ∧ SS (arrOf st) a₀.size

theorem doneS {st : SortSt} (hB : SBase a₀ st) (hs : SS (arrOf st) a₀.size) : DoneS a₀ (setPending st ((pendingOf st).push (0, a₀.size, 0))) :=
  ⟨hB.perm, hB.failed, by show (pendingOf st).push _ = _; rw [hB.pend]; rfl, hs⟩

theorem st_sortRuns {st : SortSt} {Q : Unit → SortSt → Prop} (h0 : IntKeys a₀) (hN : Numbered a₀) (hB : SBase a₀ st) (hst : arrOf st = a₀) (h2 : 2 ≤ a₀.size) (h64 : a₀.size < 64)
    (h : ∀ st', (arrOf st').Perm a₀ → failedOf st' = none → SS (arrOf st') a₀.size → Q () st') : wpS (model prog w) A E s sortRuns' Q st := by
  have hU0 : Un a₀ (arrOf st) 1 := by
    rw [hst]
    refine ⟨fun _ _ => rfl, fun i hi => ?_⟩
    have : i = 0 := by omega
    subst this
    rw [hN 0 (by omega)]; decide
  rw [sortRuns'_eq]
  refine wpS_bind (wpS_get ?_)
  dsimp only
  have hmr : minRun' a₀.size a₀.size 0 = a₀.size := by
    obtain ⟨f, hf⟩ : ∃ f, a₀.size = f + 1 := ⟨a₀.size - 1, by omega⟩
    have : minRun' (f + 1) a₀.size 0 = a₀.size := by rw [minRun'_succ, if_pos h64]; rfl
    rwa [← hf] at this
  simp only [hB.size, hmr]
  refine wpS_bind (wpS_mono (wpS_forRange
    (I := fun x c st' => (x = 0 ∧ c = (none, 0) ∧ SBase a₀ st' ∧ Un a₀ (arrOf st') 1) ∨ (1 ≤ x ∧ c = (none, a₀.size) ∧ DoneS a₀ st'))
    (Q := fun c st' => c = (none, a₀.size) ∧ DoneS a₀ st') ?step ?fin (.inl ⟨rfl, rfl, hB, hU0⟩)) ?post)
  case fin =>
    rintro c st' (⟨hx, _, _⟩ | ⟨_, hc, hD⟩)
    · omega
    · exact ⟨hc, hD⟩
  case step =>
    rintro x c st' _ hx (⟨rfl, rfl, hB', hU'⟩ | ⟨hx1, rfl, hD⟩)
    · dsimp only
      rw [if_neg (by omega)]
      simp only [Nat.sub_zero, Nat.min_self, Nat.zero_add]
      refine wpS_bind (st_countRun h0 hN (Nat.le_refl _) (by omega) hB' hU' fun m st2 hB2 hm1 hm2 hs2 hU2 => ?_)
      dsimp only
      by_cases hlt : m < a₀.size
      · rw [if_pos hlt]
        refine wpS_bind (wpS_lift (wpAny_rule ⟨rfl, ?_⟩))
        refine wpS_bind (st_binarySort h0 hN (Nat.le_refl _) hm2 hm1 hB2 hs2 hU2 fun st3 hB3 hs3 => ?_)
        simp only [Bool.not_true, Bool.false_eq_true, if_false]
        refine wpS_bind (wpS_get ?_)
        have hb : (pendingOf st3).back? = none := by rw [hB3.pend]; rfl
        rw [hb]
        dsimp only
        exact wpS_bind (wpS_modify (wpS_pure (.inr ⟨by omega, rfl, doneS hB3 hs3⟩)))
      · rw [if_neg hlt]
        have hm : m = a₀.size := by omega
        subst hm
        refine wpS_bind (wpS_get ?_)
        have hb : (pendingOf st2).back? = none := by rw [hB2.pend]; rfl
        rw [hb]
        dsimp only
        exact wpS_bind (wpS_modify (wpS_pure (.inr ⟨by omega, rfl, doneS hB2 hs2⟩)))
    · dsimp only
      rw [if_pos (Nat.le_refl _)]
      exact wpS_pure ⟨rfl, hD⟩
  case post =>
    rintro c st' ⟨rfl, hD⟩
    dsimp only
    refine wpS_bind (wpS_mono (wpS_forRange (I := fun _ c st'' => st'' = st' ∧ c = (none, ())) (Q := fun c st'' => st'' = st' ∧ c = (none, ())) ?_ (fun _ _ hh => hh) ⟨rfl, rfl⟩) ?_)
    · rintro x c st'' _ _ ⟨rfl, rfl⟩
      refine wpS_bind (wpS_get ?_)
      rw [if_pos (by rw [hD.2.2.1]; exact Nat.le_refl 1)]
      exact wpS_pure ⟨rfl, rfl⟩
    · rintro c st'' ⟨rfl, rfl⟩
      exact wpS_pure (h _ hD.1 hD.2.1 hD.2.2.2)
end

end
section
set_option maxRecDepth 100000
set_option maxHeartbeats 4000000

/-- sorted by the keys kz, equals in the order of their numbers -/
def StOut (kz : List Int) (out : List Value) : Prop :=
  ∃ os : List Nat, IntsAre out (os.map fun (i : Nat) => (i : Int)) ∧ os.Perm (List.range kz.length) ∧ os.Pairwise (fun i j => kz.getD i 0 < kz.getD j 0 ∨ (kz.getD i 0 = kz.getD j 0 ∧ i < j))

/-- the numbers 0, 1, 2, .. -/
def CountUp (vs : List Value) : Prop := ∀ (i : Nat) (v : Value), vs[i]? = some v → ∃ t, v = .int i t

theorem zip_at {keys : Array Value} {vs : List Value} {kz : List Int} (hk : IntsAre keys.toList kz) (hc : CountUp vs) {p : Keyed} (hp : p ∈ keys.toList.zip vs) :
    ∃ i : Nat, i < vs.length ∧ (∃ t, p.2 = .int i t) ∧ numOf p.1 = kz.getD i 0 := by
  obtain ⟨i, hi, e⟩ := List.mem_iff_getElem.mp hp
  rw [List.getElem_zip] at e
  have hi' : i < keys.toList.length ∧ i < vs.length := by rw [List.length_zip] at hi; omega
  refine ⟨i, hi'.2, ?_, ?_⟩
  · rw [← e]; exact hc i _ (List.getElem?_eq_getElem hi'.2)
  · rw [← e]
    obtain ⟨n, t, e1, e2⟩ := hk.at i _ (List.getElem?_eq_getElem hi'.1)
    show numOf keys.toList[i] = _
    rw [e1]
    show n = _
    rw [List.getD_eq_getElem?_getD, e2]; rfl

theorem numbered_zip {keys : Array Value} {vs : List Value} {kz : List Int} (hk : IntsAre keys.toList kz) (hc : CountUp vs) (hsz : keys.size = vs.length) : Numbered (keys.zip vs.toArray) := by
  intro i hi
  have hzs : (keys.zip vs.toArray).size = vs.length := by rw [Array.size_zip, hsz, List.size_toArray, Nat.min_self]
  have hiv : i < vs.length := by omega
  unfold ix
  rw [getElem?_pos _ i hi]
  obtain ⟨t, e⟩ := hc i _ (List.getElem?_eq_getElem hiv)
  have : (keys.zip vs.toArray)[i].2 = vs[i] := by simp
  show numOf (keys.zip vs.toArray)[i].2 = _
  rw [this, e]; rfl

theorem stOut_of {keys : Array Value} {vs : List Value} {kz : List Int} (hk : IntsAre keys.toList kz) (hc : CountUp vs) (hsz : keys.size = vs.length) (hlen : kz.length = vs.length) {xs : Array Keyed} (hp : xs.Perm (keys.zip vs.toArray)) (hs : SS xs xs.size) :
    StOut kz (xs.map (·.2)).toList := by
  have hl : xs.toList.Perm (keys.toList.zip vs) := by rw [← ksk_zip]; exact Array.perm_iff_toList_perm.mp hp
  have hat : ∀ p ∈ xs.toList, ∃ i : Nat, i < vs.length ∧ (∃ t, p.2 = .int i t) ∧ numOf p.1 = kz.getD i 0 := fun p hp => zip_at hk hc (hl.mem_iff.mp hp)
  have ho : (xs.map (·.2)).toList = xs.toList.map (·.2) := by rw [Array.toList_map]
  refine ⟨xs.toList.map fun p => (numOf p.2).toNat, ?_, ?_, ?_⟩
  · rw [ho, List.map_map]
    have h1 := intsAre_map (xs.toList.map (·.2)) fun v hv => by
      obtain ⟨p, hp, rfl⟩ := List.mem_map.mp hv
      obtain ⟨i, _, ⟨t, e⟩, _⟩ := hat p hp
      exact ⟨i, t, e⟩
    rw [List.map_map] at h1
    have e2 : xs.toList.map (numOf ∘ fun p : Keyed => p.2) = xs.toList.map ((fun i : Nat => (i : Int)) ∘ fun p : Keyed => (numOf p.2).toNat) := List.map_congr_left fun p hp => by
      obtain ⟨i, _, ⟨t, e⟩, _⟩ := hat p hp
      show numOf p.2 = ((numOf p.2).toNat : Int)
      rw [e]; show (i : Int) = ((i : Int).toNat : Int); simp
    rw [← e2]; exact h1
  · have h1 := hl.map fun p : Keyed => (numOf p.2).toNat
    have e1 : (keys.toList.zip vs).map (fun p : Keyed => (numOf p.2).toNat) = List.range kz.length := by
      refine List.ext_getElem? fun i => ?_
      rcases Nat.lt_or_ge i vs.length with h | h
      · have hi1 : i < keys.toList.length := by rw [Array.length_toList, hsz]; exact h
        obtain ⟨t, e⟩ := hc i _ (List.getElem?_eq_getElem h)
        rw [List.getElem?_map, List.getElem?_range (by omega), List.getElem?_eq_getElem (by rw [List.length_zip]; omega), List.getElem_zip, Option.map_some]
        show some (numOf vs[i]).toNat = _
        rw [e]; show some ((i : Int).toNat) = _; simp
      · rw [List.getElem?_eq_none (by rw [List.length_map, List.length_zip]; omega), List.getElem?_eq_none (by rw [List.length_range]; omega)]
    rw [e1] at h1; exact h1
  · rw [List.pairwise_map, List.pairwise_iff_getElem]
    intro i j hi hj hij
    have hi' : i < xs.size := by simpa using hi
    have hj' : j < xs.size := by simpa using hj
    have q := hs i j hij hj'
    unfold Lt2 ix at q
    rw [K_eq hi', K_eq hj', getElem?_pos xs i hi', getElem?_pos xs j hj'] at q
    obtain ⟨a, _, ⟨ta, ea⟩, ka⟩ := hat xs[i] (by simp)
    obtain ⟨b, _, ⟨tb, eb⟩, kb⟩ := hat xs[j] (by simp)
    dsimp only at q
    rw [ka, kb, ea, eb] at q
    simp only [Array.getElem_toList]
    rw [ea, eb]
    show kz.getD ((a : Int).toNat) 0 < kz.getD ((b : Int).toNat) 0 ∨ _
    have qa : numOf (Value.int (a : Int) ta) = (a : Int) := rfl
    have qb : numOf (Value.int (b : Int) tb) = (b : Int) := rfl
    rw [qa, qb] at q
    simp only [qa, qb, Int.toNat_natCast]
    rcases q with q | ⟨q1, q2⟩
    · exact .inl q
    · exact .inr ⟨q1, by omega⟩

section
variable {prog : Program} {w : World} {A : Around} {E : Value → Shared → Prop} {s : Shared} {a kS : Addr} {vs : List Value} {kz : List Int} {keys : Array Value} {e e1 : Nat} {P : PySem.Fin → Shared → Prop}

theorem st_tail {st : SortSt} (nk : s.heap.get? kS = some (seqObj "list" keys e)) (na : s.heap.get? a = some (seqObj "list" #[] e1)) (hka : kS ≠ a)
    (hk : IntsAre keys.toList kz) (hc : CountUp vs) (hlen : kz.length = vs.length) (h64 : vs.length < 64) (hp : (arrOf st).Perm (keys.zip vs.toArray)) (hs : SS (arrOf st) (arrOf st).size) (hfl : failedOf st = none)
    (h : ∀ h' out c, (∀ b o, b ≠ a → b ≠ kS → s.heap.get? b = some o → h'.get? b = some o) → h'.get? a = some (seqObj "list" out c) → StOut kz out.toList → P (.done (.ret .none)) { s with heap := h' }) :
    wpAny (model prog w) A (ksk_tail a false e1 (.ref kS) st) P E s := by
  have hsz : keys.size = vs.length := by
    have h1 := hk.length
    rw [Array.length_toList] at h1
    omega
  have hsz2 : (arrOf st).size = vs.length := by rw [hp.size_eq, Array.size_zip, hsz, List.size_toArray, Nat.min_self]
  have s1 := Heap.SameBut.update s.heap kS (Obj.mapSeq fun _ => (#[] : Array Value))
  have na1 : (s.heap.update kS (Obj.mapSeq fun _ => (#[] : Array Value))).get? a = some (seqObj "list" #[] e1) := (s1.2 a hka.symm).trans na
  have s2 := Heap.SameBut.update (s.heap.update kS (Obj.mapSeq fun _ => (#[] : Array Value))) a (Obj.mapSeq fun _ => (arrOf st).map (·.2))
  obtain ⟨c2, hc2⟩ : ∃ c2, ((s.heap.update kS (Obj.mapSeq fun _ => (#[] : Array Value))).update a (Obj.mapSeq fun _ => (arrOf st).map (·.2))).get? a = some (seqObj "list" ((arrOf st).map (·.2)) c2) :=
    ⟨_, get?_update_seq na1 fun _ => (arrOf st).map (·.2)⟩
  unfold ksk_tail
  try dsimp only
  refine wpAny_bind (listUpdate_at nk rfl ?_ (by rw [hsz, sizeLine_eq]; omega) (Nat.zero_le _))
  refine wpAny_bind (wpAny_letGo ?_)
  refine wpAny_bind (seqEpoch_at na1 rfl ?_)
  refine wpAny_bind (listUpdate_at na1 rfl ?_ (Nat.zero_le _) (Nat.le_trans (Nat.le_of_eq ((Array.size_map ..).trans hsz2)) (by rw [sizeLine_eq]; omega)))
  rw [hfl]
  simp only [bne_self_eq_false, Bool.false_eq_true, if_false]
  exact wpAny_pure (h _ _ c2 (fun b o hb hb' e => s2.extBut b o hb (s1.extBut b o hb' e)) hc2 (stOut_of hk hc hsz hlen hp hs))

theorem st_end (nk : s.heap.get? kS = some (seqObj "list" keys e)) (na : s.heap.get? a = some (seqObj "list" #[] e1)) (hka : kS ≠ a)
    (hk : IntsAre keys.toList kz) (hc : CountUp vs) (hlen : kz.length = vs.length) (h64 : vs.length < 64)
    (h : ∀ h' out c, (∀ b o, b ≠ a → b ≠ kS → s.heap.get? b = some o → h'.get? b = some o) → h'.get? a = some (seqObj "list" out c) → StOut kz out.toList → P (.done (.ret .none)) { s with heap := h' }) :
    wpAny (model prog w) A (ksk_end a false vs.toArray e1 (.ref kS) keys) P E s := by
  have hsz : keys.size = vs.length := by
    have h1 := hk.length
    rw [Array.length_toList] at h1
    omega
  have hzs : (keys.zip vs.toArray).size = vs.length := by rw [Array.size_zip, hsz, List.size_toArray, Nat.min_self]
  unfold ksk_end
  simp only [Bool.false_eq_true, if_false]
  by_cases h2 : vs.toArray.size < 2
  · rw [if_pos h2, if_pos h2]
    refine wpAny_bind (wpAny_pure ?_)
    rw [StateT.run_pure]
    refine wpAny_bind (wpAny_pure ?_)
    try dsimp only
    refine st_tail (st := SortSt.mk' general' (keys.zip vs.toArray) #[] 7 none) nk na hka hk hc hlen h64 (Array.Perm.refl _) ?_ rfl h
    intro i j hij hj
    have hj2 : j < (keys.zip vs.toArray).size := hj
    rw [hzs] at hj2
    rw [List.size_toArray] at h2
    omega
  · rw [if_neg h2, if_neg h2]
    rw [List.size_toArray] at h2
    rw [ksk_kind hk (by rw [hsz]; omega)]
    refine wpAny_bind (wpAny_pure ?_)
    refine wpAny_bind (wpAny_mono (st_sortRuns (a₀ := keys.zip vs.toArray) (st := SortSt.mk' oneType' (keys.zip vs.toArray) #[] 7 none)
      (Q := fun _ st' => (arrOf st').Perm (keys.zip vs.toArray) ∧ failedOf st' = none ∧ SS (arrOf st') (keys.zip vs.toArray).size)
      (ksk_intKeys hk) (numbered_zip hk hc hsz) ⟨Array.Perm.refl _, rfl, rfl, rfl⟩ rfl (by rw [hzs]; omega) (by rw [hzs]; exact h64) fun st' a1 a2 a3 => ⟨a1, a2, a3⟩) ?_ fun _ _ e => e)
    rintro ⟨⟨⟩, st'⟩ s' ⟨rfl, hp, hf, hs⟩
    try dsimp only
    exact st_tail nk na hka hk hc hlen h64 hp (by rw [hp.size_eq]; exact hs) hf h

/-- what is asked of the key's calls -/
def KeyOk (prog : Program) (w : World) (A : Around) (s : Shared) (base : Heap) (f : Value) (vs : List Value) (kz : List Int) : Prop :=
  ∀ (i : Nat) (v : Value) (k : Int), vs[i]? = some v → kz[i]? = some k → ∀ (h : Heap) (tk : Nat), Sub base h →
    wpAny (model prog w) A (call f [v]) (fun r s'' => ∃ h' tk' t', s'' = { s with heap := h', toks := tk' } ∧ r = .int k t' ∧ Sub h h') NoE { s with heap := h, toks := tk }

theorem st_rest {f : Value} {base : Heap} (hb : Sub base s.heap) (nk : s.heap.get? kS = some (seqObj "list" #[] 0)) (na : s.heap.get? a = some (seqObj "list" #[] e1)) (hka : kS ≠ a) (hkb : base.objs.size ≤ kS) (hab : base.objs.size ≤ a)
    (hc : CountUp vs) (hlen : kz.length = vs.length) (h64 : vs.length < 64) (turn : KeyOk prog w A s base f vs kz)
    (h : ∀ h' tk out c, Sub base h' → h'.get? a = some (seqObj "list" out c) → StOut kz out.toList → P (.done (.ret .none)) { s with heap := h', toks := tk }) :
    wpAny (model prog w) A (ksk_rest a f false vs.toArray e1 (.ref kS)) P E s := by
  have low : ∀ b o, base.get? b = some o → b < base.objs.size := fun b o e => Heap.lt_size e
  unfold ksk_rest
  refine wpAny_bind (wpAny_rule ?_)
  first
    | rw [List.forIn_toArray]
    | (rw [← Array.forIn_toList]; simp only [List.toList_toArray])
    | rw [← Array.forIn_toList]
  refine wpAny_bind (ksk_fold (fun i s' => ∃ h' tk kA e, s' = { s with heap := h', toks := tk } ∧ Sub base h' ∧ h'.get? kS = some (seqObj "list" kA e) ∧ h'.get? a = some (seqObj "list" #[] e1) ∧ IntsAre kA.toList (kz.take i)) vs 0 s
    ⟨s.heap, s.toks, #[], 0, rfl, hb, nk, na, by simpa using IntsAre.nil⟩ ?step ?done)
  case step =>
    rintro j x s' hx ⟨h', tk, kA, e, rfl, hb', nk', na', hk⟩
    simp only [Nat.zero_add] at hk ⊢
    have hj : j < vs.length := (List.getElem?_eq_some_iff.mp hx).1
    obtain ⟨k, hkj⟩ : ∃ k, kz[j]? = some k := ⟨_, List.getElem?_eq_getElem (by omega)⟩
    have hz : kA.size ≤ vs.length := by
      have h1 := hk.length
      rw [Array.length_toList, List.length_take] at h1
      omega
    refine wpAny_bind (wpAny_attempt (wpAny_mono (turn j x k hx hkj h' tk hb') (fun v s'' he => ?_) fun _ _ hF => hF.elim))
    obtain ⟨g, tk2, t2, rfl, rfl, hg⟩ := he
    try dsimp only
    have s1 := Heap.SameBut.update g kS (Obj.mapSeq (·.push (.int k t2)))
    obtain ⟨c2, hc2⟩ : ∃ c2, (g.update kS (Obj.mapSeq (·.push (.int k t2)))).get? kS = some (seqObj "list" (kA.push (.int k t2)) c2) := ⟨_, get?_update_seq (hg _ _ nk') (·.push (.int k t2))⟩
    have ek : kz.take (j + 1) = kz.take j ++ [k] := by rw [List.take_add_one, hkj]; simp
    have ea : (kA.push (Value.int k t2)).toList = kA.toList ++ [Value.int k t2] := by simp
    refine wpAny_bind (listUpdate_at (hg _ _ nk') rfl ?_ (by rw [sizeLine_eq]; omega) (Nat.le_trans (Nat.le_of_eq (Array.size_push ..)) (by rw [sizeLine_eq]; omega)))
    refine wpAny_pure ⟨rfl, _, _, kA.push (.int k t2), c2, rfl, fun b o e => s1.extBut b o (fun q => ?_) (hg b o (hb' b o e)), hc2, (s1.2 a hka.symm).trans (hg _ _ na'), by rw [ea, ek]; exact ksk_snoc hk⟩
    exact Nat.lt_irrefl _ (Nat.lt_of_lt_of_le (q ▸ low b o e) hkb)
  case done =>
    rintro s' ⟨h', tk, kA, e, rfl, hb', nk', na', hk⟩
    have hk' : IntsAre kA.toList kz := by
      have e3 : kz.take (0 + vs.length) = kz := List.take_of_length_le (by omega)
      rw [e3] at hk
      exact hk
    try dsimp only
    refine wpAny_bind (listItems_at nk' rfl ?_)
    exact st_end nk' na' hka hk' hc hlen h64 fun h3 out c k3 na3 ho => h h3 _ out c (fun b o e => k3 b o (fun q => Nat.lt_irrefl _ (Nat.lt_of_lt_of_le (q ▸ low b o e) hab)) (fun q => Nat.lt_irrefl _ (Nat.lt_of_lt_of_le (q ▸ low b o e) hkb)) (hb' b o e)) na3 ho

theorem st_sort {f : Value} {n : Nat} {base : Heap} (hb : Sub base s.heap) (ho : s.heap.get? a = some (seqObj "list" vs.toArray n)) (hab : base.objs.size ≤ a)
    (hc : CountUp vs) (hlen : kz.length = vs.length) (h64 : vs.length < 64) (turn : KeyOk prog w A s base f vs kz)
    (h : ∀ h' tk out c, Sub base h' → h'.get? a = some (seqObj "list" out c) → StOut kz out.toList → P (.done (.ret .none)) { s with heap := h', toks := tk }) :
    wpAny (model prog w) A (ksk_tree a f false) P E s := by
  have ha : a < s.heap.objs.size := Heap.lt_size ho
  have s1 := Heap.SameBut.update s.heap a (Obj.mapSeq fun _ => (#[] : Array Value))
  obtain ⟨e1, ho1⟩ : ∃ e1, (s.heap.update a (Obj.mapSeq fun _ => (#[] : Array Value))).get? a = some (seqObj "list" #[] e1) := ⟨_, get?_update_seq ho fun _ => #[]⟩
  have hkS : ((s.heap.update a (Obj.mapSeq fun _ => (#[] : Array Value))).push (seqObj "tuple" vs.toArray 0)).objs.size = s.heap.objs.size + 1 := by rw [size_push', Heap.size_update]
  unfold ksk_tree
  refine wpAny_bind (listItems_at ho rfl ?_)
  refine wpAny_bind (listUpdate_at ho rfl ?_ (by rw [List.size_toArray, sizeLine_eq]; omega) (Nat.zero_le _))
  refine wpAny_bind (seqEpoch_at ho1 rfl ?_)
  refine wpAny_bind (wpAny_newTuple ?_ (by show vs.length ≤ _; rw [sizeLine_eq]; omega))
  refine wpAny_bind (wpAny_newList ?_ (Nat.zero_le _))
  refine wpAny_holding ?_
  have hbs : base.objs.size ≤ s.heap.objs.size + 1 := Nat.le_trans hab (Nat.le_succ_of_le (Nat.le_of_lt ha))
  refine st_rest (s := { s with heap := ((s.heap.update a (Obj.mapSeq fun _ => (#[] : Array Value))).push (seqObj "tuple" vs.toArray 0)).push (seqObj "list" #[] 0) }) (kS := ((s.heap.update a (Obj.mapSeq fun _ => (#[] : Array Value))).push (seqObj "tuple" vs.toArray 0)).objs.size)
    (base := base) (fun b o e => Heap.get?_push_of_some _ (Heap.get?_push_of_some _ (s1.extBut b o (fun q => Nat.lt_irrefl _ (Nat.lt_of_lt_of_le (q ▸ Heap.lt_size e) hab)) (hb b o e)))) (Heap.get?_push_size _ rfl) (Heap.get?_push_of_some _ (Heap.get?_push_of_some _ ho1))
    (by rw [hkS]; exact Nat.ne_of_gt (Nat.lt_succ_of_lt ha)) (by rw [hkS]; exact hbs) hab hc hlen h64 turn h

theorem collect_range {r : Addr} {n : Nat} {t u v : Tok} {Q : List Value → Shared → Prop} (hh : A.handled = none) (hr : IsRange s.heap r 0 n 1 t u v) (hlen : n ≤ 2 ^ 24)
    (h : ∀ h' tk vs, Sub s.heap h' → s.heap.objs.size < h'.objs.size → CountUp vs → vs.length = n → Q vs { s with heap := h', toks := tk }) : wpAny (model prog w) A (collect (.ref r)) Q E s := by
  have hs : Builtin.Range.small 0 n 1 = true := small_one (by decide) (by decide) (by omega) (by omega)
  have hz : Builtin.Range.rangeSize 0 n 1 = (n : Int) := by rw [rangeSize_nat]; simp
  unfold collect
  refine wpAny_bind (wpAny_runValue (codeAny_builtin PySem.F.entry_proto_collect ?_))
  rw [Around.under_plainId PySem.F.plain_proto_collect _]
  show wpAny _ A.in1 (newList [] >>= fun l => again (.builtin "list.__iadd__" ⟨[l, .ref r], []⟩)) _ _ s
  refine wpAny_bind (wpAny_newObj_type ?_)
  refine wpAny_pure ⟨plainId_quiet PySem.F.plain_list_iadd _, codeAny_builtin PySem.F.entry_list_iadd ?_⟩
  rw [Around.under_plainId PySem.F.plain_list_iadd _]
  show wpAny _ A.in1 (Builtin.List.listExtendWith (.ref s.heap.objs.size) (.ref r) (.ref s.heap.objs.size)) _ _ _
  refine wpAny_extend_range (R := fun r s' => match r with
      | .ok (.ret v) => wpAny (model prog w) A (match v with
          | .ref a => (do
            let o ← load a
            match o.data with
            | .seq xs _ => pure xs.toList
            | _ => unsupported "internal:collect")
          | _ => unsupported "internal:collect") Q E s'
      | .ok _ => False
      | .error e => E e s') (s := { s with heap := s.heap.push { cls := .type "list", data := .seq ([] : List Value).toArray } }) hh (Heap.get?_push_of_some _ hr) hs hz hlen s.heap.objs.size (.ref s.heap.objs.size) 0 (Heap.get?_push_size _ rfl) fun h' tk acc c' hk hS hacc => ?_
  show wpAny (model prog w) A (do
      let o ← load s.heap.objs.size
      match o.data with
      | .seq xs _ => pure xs.toList
      | _ => unsupported "internal:collect") Q E _
  refine wpAny_bind (wpAny_load hS ?_)
  refine wpAny_pure (h h' tk acc.toList (fun b o e => hk b o (Nat.ne_of_lt (Heap.lt_size e)) (Heap.get?_push_of_some _ e)) (Heap.lt_size hS) (fun i x hx => ?_) (by rw [Array.length_toList, hacc.1]))
  rw [Array.getElem?_toList] at hx
  obtain ⟨t, e⟩ := hacc.2 i x hx
  exact ⟨t, by rw [e, Int.zero_add, Int.mul_one]⟩

/-- sorted(range(n), key=f) -/
theorem st_sorted {r q : Addr} {n : Nat} {t u v : Tok} {Q : Value → Shared → Prop} (hh : A.handled = none) (hr : IsRange s.heap r 0 n 1 t u v) (hlen : kz.length = n) (h64 : n < 64)
    (turn : ∀ vs, CountUp vs → vs.length = n → KeyOk prog w A.in1.in1 s s.heap (.ref q) vs kz)
    (h : ∀ D h' tk out c, Sub s.heap h' → s.heap.objs.size ≤ D → h'.get? D = some (listOf out c) → StOut kz out.toList → Q (.ref D) { s with heap := h', toks := tk }) :
    wpAny (model prog w) A (call (.builtin "sorted") [.ref r] [(Str.ofString "key", .ref q)]) Q E s := by
  refine call_function_entry_kw kind_sorted plain_sorted entry_sorted (ksk_s1 _ _) ?_
  unfold Builtin.«sorted»
  refine wpAny_bind (m := checkCount "sorted" 1 1 _) (wpAny_pure ?_)
  refine wpAny_bind (collect_range hh hr (by omega) fun h1 tk1 vs hk1 hlt1 hc hvl => ?_)
  refine wpAny_bind (wpAny_newList ?_ (by rw [sizeLine_eq]; omega))
  have hsz : s.heap.objs.size ≤ h1.objs.size := Nat.le_of_lt hlt1
  refine wpAny_bind (wpAny_holding (wpAny_call_entry_kw slot_list_sort ⟨_, Heap.get?_push_size _ rfl, rfl⟩ entry_list_sort ?body (ksk_l1 _ _)))
  case body =>
    show wpAny (model prog w) A.in1.in1 (Builtin.«list.sort» ⟨[.ref h1.objs.size], _⟩) _ _ _
    rw [ksk_t1]
    refine st_sort (s := { s with heap := h1.push (seqObj "list" vs.toArray 0), toks := tk1 }) (base := s.heap) (fun b o e => Heap.get?_push_of_some _ (hk1 b o e)) (Heap.get?_push_size _ rfl) hsz hc (by omega) (by omega) (turn vs hc hvl) fun h' tk out c hb' ha' ho => ⟨_, rfl, ?_⟩
    exact wpAny_pure ⟨_, rfl, h _ h' tk out c hb' hsz ha' ho⟩
end

end
section

/-- two lists sorted by one strict order that have the same things are the same -/
theorem sorted_unique {α : Type} {R : α → α → Prop} (ha : ∀ a b, R a b → R b a → False) : ∀ {l₁ l₂ : List α}, l₁.Perm l₂ → l₁.Pairwise R → l₂.Pairwise R → l₁ = l₂
  | [], l₂, p, _, _ => by have := p.length_eq; cases l₂ with | nil => rfl | cons => simp at this
  | a :: l₁, [], p, _, _ => by have := p.length_eq; simp at this
  | a :: l₁, b :: l₂, p, h₁, h₂ => by
    rw [List.pairwise_cons] at h₁ h₂
    have hab : a = b := by
      have h3 : a ∈ b :: l₂ := p.mem_iff.mp (.head _)
      have h4 : b ∈ a :: l₁ := p.mem_iff.mpr (.head _)
      rcases List.mem_cons.mp h3 with e | h3
      · exact e
      · rcases List.mem_cons.mp h4 with e | h4
        · exact e.symm
        · exact (ha a b (h₁.1 b h4) (h₂.1 a h3)).elim
    subst hab
    rw [sorted_unique ha (List.Perm.cons_inv p) h₁.2 h₂.2]

def srt (j : Nat) : Int := ([0, 1, 2, 1, 0, 2] : List Int).getD j 0
def idx6 (x : Int) : Nat := (x.fmod 6).toNat
theorem idx6_lt (x : Int) : idx6 x < 6 := by
  have h0 : 0 ≤ x.fmod 6 := Int.fmod_nonneg_of_pos _ (by decide)
  have h8 : x.fmod 6 < 6 := Int.fmod_lt_of_pos _ (by decide)
  unfold idx6; omega
theorem idx6_int (x : Int) : x.fmod 6 = (idx6 x : Nat) := by
  have h0 : 0 ≤ x.fmod 6 := Int.fmod_nonneg_of_pos _ (by decide)
  unfold idx6; omega
theorem srt_three : ∀ j, j < 6 → srt j = 0 ∨ srt j = 1 ∨ srt j = 2 := by decide

/-- the places of one sort -/
def cls (kz : List Int) (c : Int) : List Nat := (List.range kz.length).filter fun i => kz.getD i 0 == c

theorem order_is {kz : List Int} (h3 : ∀ k ∈ kz, k = 0 ∨ k = 1 ∨ k = 2) {os : List Nat} (hp : os.Perm (List.range kz.length)) (hs : os.Pairwise (fun i j => kz.getD i 0 < kz.getD j 0 ∨ (kz.getD i 0 = kz.getD j 0 ∧ i < j))) :
    os = cls kz 0 ++ (cls kz 1 ++ cls kz 2) := by
  have mem : ∀ {c i}, i ∈ cls kz c ↔ i < kz.length ∧ kz.getD i 0 = c := fun {c i} => by
    unfold cls; rw [List.mem_filter, List.mem_range, beq_iff_eq]
  have hat : ∀ i, i < kz.length → kz.getD i 0 = 0 ∨ kz.getD i 0 = 1 ∨ kz.getD i 0 = 2 := fun i hi => by
    have : kz.getD i 0 ∈ kz := by rw [List.getD_eq_getElem?_getD, List.getElem?_eq_getElem hi]; simp
    exact h3 _ this
  have lt1 : ∀ c, (cls kz c).Pairwise (· < ·) := fun c => List.pairwise_lt_range.filter _
  have own : ∀ c, (cls kz c).Pairwise (fun i j => kz.getD i 0 < kz.getD j 0 ∨ (kz.getD i 0 = kz.getD j 0 ∧ i < j)) := fun c => (lt1 c).imp_of_mem fun {a b} ha hb hab => .inr ⟨(mem.mp ha).2.trans (mem.mp hb).2.symm, hab⟩
  have cross : ∀ {c d : Int}, c < d → ∀ a ∈ cls kz c, ∀ b ∈ cls kz d, kz.getD a 0 < kz.getD b 0 ∨ (kz.getD a 0 = kz.getD b 0 ∧ a < b) := fun {c d} h a ha b hb => by
    left; rw [(mem.mp ha).2, (mem.mp hb).2]; exact h
  have pw : (cls kz 0 ++ (cls kz 1 ++ cls kz 2)).Pairwise (fun i j => kz.getD i 0 < kz.getD j 0 ∨ (kz.getD i 0 = kz.getD j 0 ∧ i < j)) := by
    rw [List.pairwise_append, List.pairwise_append]
    refine ⟨own 0, ⟨own 1, own 2, cross (by decide)⟩, fun a ha b hb => ?_⟩
    rcases List.mem_append.mp hb with hb | hb
    · exact cross (by decide) a ha b hb
    · exact cross (by decide) a ha b hb
  have anti : ∀ a b : Nat, (kz.getD a 0 < kz.getD b 0 ∨ (kz.getD a 0 = kz.getD b 0 ∧ a < b)) → (kz.getD b 0 < kz.getD a 0 ∨ (kz.getD b 0 = kz.getD a 0 ∧ b < a)) → False := fun a b h1 h2 => by omega
  have nd : (cls kz 0 ++ (cls kz 1 ++ cls kz 2)).Nodup := pw.imp fun {a b} h e => by subst e; omega
  refine sorted_unique anti (hp.trans ?_) hs pw
  refine (List.perm_ext_iff_of_nodup List.nodup_range nd).mpr fun a => ?_
  rw [List.mem_range, List.mem_append, List.mem_append, mem, mem, mem]
  constructor
  · intro h
    rcases hat a h with q | q | q
    · exact .inl ⟨h, q⟩
    · exact .inr (.inl ⟨h, q⟩)
    · exact .inr (.inr ⟨h, q⟩)
  · rintro (h | h | h) <;> exact h.1

theorem range_map_getD {α : Type} (l : List α) (d : α) : (List.range l.length).map (fun i => l.getD i d) = l := by
  refine List.ext_getElem? fun i => ?_
  rcases Nat.lt_or_ge i l.length with h | h
  · rw [List.getElem?_map, List.getElem?_range h, Option.map_some, List.getD_eq_getElem?_getD, List.getElem?_eq_getElem h]; rfl
  · rw [List.getElem?_eq_none (by simpa using h), List.getElem?_eq_none h]

/-- the picks of one sort -/
theorem cls_map {P : List Nat} {β : Type} (g : Nat → β) (c : Int) : (cls (P.map srt) c).map (fun i => g (P.getD i 0)) = (P.filter fun j => srt j == c).map g := by
  have e1 : ∀ i, i < P.length → (P.map srt).getD i 0 = srt (P.getD i 0) := fun i hi => by
    rw [List.getD_eq_getElem?_getD, List.getD_eq_getElem?_getD, List.getElem?_map, List.getElem?_eq_getElem hi]; rfl
  have e2 : cls (P.map srt) c = (List.range P.length).filter fun i => srt (P.getD i 0) == c := by
    unfold cls
    rw [List.length_map]
    exact List.filter_congr fun i hi => by rw [e1 i (List.mem_range.mp hi)]
  have e3 : (P.filter fun j => srt j == c) = ((List.range P.length).filter fun i => srt (P.getD i 0) == c).map fun i => P.getD i 0 := by
    conv => lhs; rw [← range_map_getD P 0]
    rw [List.filter_map]; rfl
  rw [e2, e3, List.map_map]; rfl

theorem cls_len {P : List Nat} (c : Int) : (cls (P.map srt) c).length = (P.map srt).count c := by
  have h := congrArg List.length (cls_map (P := P) (fun j => j) c)
  rw [List.length_map, List.length_map] at h
  rw [h, List.count, List.countP_map, List.countP_eq_length_filter]; rfl

theorem map_take_drop {β : Type} {a b c : List Nat} {f : Nat → β} {na nb : Nat} (ha : a.length = na) (hb : b.length = nb) : ((a ++ (b ++ c)).map f).take na = a.map f ∧ (((a ++ (b ++ c)).map f).drop na).take nb = b.map f := by
  subst ha hb
  rw [List.map_append, List.map_append]
  constructor
  · rw [List.take_append_of_le_length (by simp), List.take_of_length_le (by simp)]
  · rw [List.drop_left' (by simp), List.take_append_of_le_length (by simp), List.take_of_length_le (by simp)]

def ini6 (j : Nat) : Bool := ((j : Int).fmod 3 != 2)
def kwo6 (j : Nat) : Bool := ((j : Int).fmod 2 == 1)
theorem sort_std : ∀ j, j < 6 → (srt j == 0) = (ini6 j && !kwo6 j) := by decide
theorem sort_kw : ∀ j, j < 6 → (srt j == 1) = (ini6 j && kwo6 j) := by decide
/-- the picks by place, by word -/
def std6 (P : List Nat) : List Nat := P.filter fun j => ini6 j && !kwo6 j
def kws6 (P : List Nat) : List Nat := P.filter fun j => ini6 j && kwo6 j
theorem std6_eq {P : List Nat} (h : ∀ j ∈ P, j < 6) : (P.filter fun j => srt j == 0) = std6 P := List.filter_congr fun j hj => sort_std j (h j hj)
theorem kws6_eq {P : List Nat} (h : ∀ j ∈ P, j < 6) : (P.filter fun j => srt j == 1) = kws6 P := List.filter_congr fun j hj => sort_kw j (h j hj)
theorem std6_rev (P : List Nat) : std6 (P ++ P.reverse) = std6 P ++ (std6 P).reverse := by unfold std6; rw [List.filter_append, List.filter_reverse]
theorem kws6_rev (P : List Nat) : kws6 (P ++ P.reverse) = kws6 P ++ (kws6 P).reverse := by unfold kws6; rw [List.filter_append, List.filter_reverse]
theorem std6_std (P : List Nat) : std6 (std6 P) = std6 P ∧ kws6 (std6 P) = [] := by
  unfold std6 kws6
  constructor
  · exact List.filter_eq_self.mpr fun j hj => (List.mem_filter.mp hj).2
  · refine List.filter_eq_nil_iff.mpr fun j hj => ?_
    have := (List.mem_filter.mp hj).2
    cases h1 : ini6 j <;> cases h2 : kwo6 j <;> simp [h1, h2] at this ⊢
theorem kws6_kws (P : List Nat) : std6 (kws6 P) = [] ∧ kws6 (kws6 P) = kws6 P := by
  unfold std6 kws6
  constructor
  · refine List.filter_eq_nil_iff.mpr fun j hj => ?_
    have := (List.mem_filter.mp hj).2
    cases h1 : ini6 j <;> cases h2 : kwo6 j <;> simp [h1, h2] at this ⊢
  · exact List.filter_eq_self.mpr fun j hj => (List.mem_filter.mp hj).2

end
section
set_option maxRecDepth 100000 in
set_option maxHeartbeats 8000000 in
open_top hd04 for PySem.Challenge.rw_dm0039_04

end
section

def letter (i : Nat) : Str := ⟨#[97 + i]⟩
abbrev fieldDict (P : Params) (i : Nat) (bi bk : Bool) (t1 t2 t3 tn : Tok) : Obj :=
  dictOf [⟨PyData.keyHash P "name", .str "name" t1, .str (letter i) tn⟩, ⟨PyData.keyHash P "init", .str "init" t2, .bool bi⟩, ⟨PyData.keyHash P "kw_only", .str "kw_only" t3, .bool bk⟩] 3

/-- what is asked of the class of the fields -/
structure FieldK (K : Frag) : Prop where
  ga : findIn K (.ref 38) "__getattribute__" = some (some (.builtin "object.__getattribute__"))
  hd : hasDictIn K 38 = true
  fn : findIn K (.ref 38) "name" = some none
  fi : findIn K (.ref 38) "init" = some none
  fk : findIn K (.ref 38) "kw_only" = some none

/-- an attribute of a field whose dict lies at d -/
theorem get_fld {prog : Program} {w : World} {A : Around} {E : Value → Shared → Prop} {s : Shared} {K : Frag} {i : Nat} {one d : Addr} {bi bk ex : Bool} {t1 t2 t3 tn : Tok} {Q : Value → Shared → Prop} (FK : FieldK K) (X : K.In s.heap) (h1 : s.heap.get? one = some (instObj 38 d)) (h2 : s.heap.get? d = some (fieldDict w.params i bi bk t1 t2 t3 tn)) :
    (Q (.str (letter i) tn) { s with toks := s.toks + 1 } → wpAny (model prog w) A (getAttr (.ref one) "name" ex) Q E s) ∧
    (Q (.bool bi) { s with toks := s.toks + 1 } → wpAny (model prog w) A (getAttr (.ref one) "init" ex) Q E s) ∧
    (Q (.bool bk) { s with toks := s.toks + 1 } → wpAny (model prog w) A (getAttr (.ref one) "kw_only" ex) Q E s) := by
  have I : InstAt s.heap one (instObj 38 d) 38 (some (fieldDict w.params i bi bk t1 t2 t3 tn)) := ⟨h1, rfl, rfl, h2⟩
  refine ⟨fun h => ?_, fun h => ?_, fun h => ?_⟩
  · exact get_value X I FK.ga (findObj_own (attr := none) FK.hd FK.fn rfl (by rw [lookIn_dict]; rfl)) rfl h
  · exact get_value X I FK.ga (findObj_own (attr := none) FK.hd FK.fi rfl (by rw [lookIn_dict]; rfl)) rfl h
  · exact get_value X I FK.ga (findObj_own (attr := none) FK.hd FK.fk rfl (by rw [lookIn_dict]; rfl)) rfl h

set_option maxRecDepth 100000 in
set_option maxHeartbeats 8000000 in
theorem fieldK04 : ∀ {w : World} {h₀ : Heap}, PySem.Challenge.rw_dm0039_04.row.prog = PySem.Challenge.rw_dm0039_04.row.prog → (hd04.heap_39 w.params).In h₀ → FieldK (hd04.heap_39 w.params) := by
  w_on
  k_fill
  intro w h₀ _ X
  refine ⟨?_, ?_, ?_, ?_, ?_⟩ <;> k_is

/-- the six fields -/
structure Pool (P : Params) (h : Heap) (one dct : Nat → Addr) : Prop where
  at_ : ∀ j, j < 6 → h.get? (one j) = some (instObj 38 (dct j)) ∧ ∃ t1 t2 t3 tn, h.get? (dct j) = some (fieldDict P j (ini6 j) (kwo6 j) t1 t2 t3 tn)
  inj : ∀ i j, i < 6 → j < 6 → one i = one j → i = j
theorem Pool.but {P : Params} {h h' : Heap} {one dct : Nat → Addr} {B : Addr → Prop} (p : Pool P h one dct) (ho : ∀ j, j < 6 → ¬ B (one j) ∧ ¬ B (dct j)) (k : ∀ b o, ¬ B b → h.get? b = some o → h'.get? b = some o) : Pool P h' one dct :=
  ⟨fun j hj => ⟨k _ _ (ho j hj).1 (p.at_ j hj).1, let ⟨t1, t2, t3, tn, e⟩ := (p.at_ j hj).2; ⟨t1, t2, t3, tn, k _ _ (ho j hj).2 e⟩⟩, p.inj⟩
theorem Pool.keeps {P : Params} {h h' : Heap} {one dct : Nat → Addr} (p : Pool P h one dct) (k : Sub h h') : Pool P h' one dct := p.but (B := fun _ => False) (fun _ _ => ⟨id, id⟩) fun b o _ e => k b o e

abbrev refs (one : Nat → Addr) (P : List Nat) : List Value := P.map fun j => Value.ref (one j)

def tell6 (one : Nat → Addr) (f : Nat → Bool) (v : Value) : Bool := (List.range 6).any fun i => (v == .ref (one i)) && f i
theorem tell6_at {one : Nat → Addr} (inj : ∀ i j, i < 6 → j < 6 → one i = one j → i = j) {f : Nat → Bool} {i : Nat} (hi : i < 6) : tell6 one f (.ref (one i)) = f i := by
  unfold tell6
  rw [Bool.eq_iff_iff, List.any_eq_true]
  constructor
  · rintro ⟨j, hj, e⟩
    rw [Bool.and_eq_true, beq_iff_eq] at e
    have hj := List.mem_range.mp hj
    have := inj _ _ hi hj (Value.ref.inj e.1)
    subst this; exact e.2
  · intro h
    exact ⟨i, List.mem_range.mpr hi, by simp [h]⟩
theorem filter_map_of {f : Nat → Value} {q : Value → Bool} {q' : Nat → Bool} : ∀ {l : List Nat}, (∀ i ∈ l, q (f i) = q' i) → (l.map f).filter q = (l.filter q').map f
  | [], _ => rfl
  | a :: l, h => by
    have ih := filter_map_of (f := f) (q := q) (q' := q') (l := l) fun i hi => h i (.tail _ hi)
    have h0 := h a (.head _)
    rw [List.map_cons]
    cases hq : q' a with
    | true => rw [List.filter_cons_of_pos (by rw [h0, hq]), List.filter_cons_of_pos hq, List.map_cons, ih]
    | false => rw [List.filter_cons_of_neg (by rw [h0, hq]; exact Bool.false_ne_true), List.filter_cons_of_neg (by rw [hq]; exact Bool.false_ne_true), ih]

/-- a list or a tuple of the picks -/
def IsRow (h : Heap) (l : Addr) (one : Nat → Addr) (P : List Nat) : Prop := (∃ n, h.get? l = some (listOf (refs one P).toArray n)) ∨ h.get? l = some (tupOf (refs one P).toArray)

set_option maxRecDepth 100000 in
set_option maxHeartbeats 8000000 in
theorem fio04 : ∀ {w : World} {s : Shared} {h₀ : Heap} {l : Addr} {one dct : Nat → Addr} {mg mb : Str → Option Value} {ps : Array Value} {R : List Nat} {A : Around} {p : Program} {loose : List Str} {mean : ExcName → Option Value} {Q : Value → Shared → Prop} {E : Value → Shared → Prop},
    (hd04.heap_39 w.params).In h₀ → Top p loose mean mg mb h₀ → CodeHd h₀ 48 44 → A.handled = none → A.depth + 1 < recursionLimit → Sub h₀ s.heap → s.heap.get? 44 = some (tabObj ps) → h₀.get? 44 = none → TriplesOk ps.toList → l ≠ 44 → IsRow s.heap l one R →
    Pool w.params s.heap one dct → (∀ j, j < 6 → one j ≠ 44 ∧ dct j ≠ 44) → (∀ j ∈ R, j < 6) → R.length ≤ 1000 →
    (∀ (t1 t2 t : Addr) (h' : Heap) (tk : Nat) (g' : Array GenState) (ps' : Array Value), Heap.ExtBut 44 s.heap h' → h'.get? 44 = some (tabObj ps') → TriplesOk ps'.toList → h'.get? t1 = some (tupOf (refs one (std6 R)).toArray) → h'.get? t2 = some (tupOf (refs one (kws6 R)).toArray) → h'.get? t = some (tupOf #[.ref t1, .ref t2]) →
      s.heap.objs.size ≤ t1 → t1 < t2 → t2 < t → h'.objs.size = t + 1 → (AllBare s.gens → AllBare g') → Q (.ref t) { s with heap := h', toks := tk, gens := g' }) →
    wpAny (model PySem.Challenge.rw_dm0039_04.row.prog w) A (call (.ref 49) [.ref l]) Q E s := by
  w_on
  k_fill
  intro w s h₀ l one dct mg mb ps R A p loose mean Q E X T C hA hroom hsub hP hP0 ht hl hrow po hne hlt hlen hQ
  have k0 : Sub h₀ (hideAll s.heap [44]) := fun b o e => hideAll_get _ (hsub b o e) fun hm => by rw [List.mem_singleton.mp hm, hP0] at e; cases e
  have hat : ∀ b o, b ≠ 44 → s.heap.get? b = some o → (hideAll s.heap [44]).get? b = some o := fun b o hb e => hideAll_get _ e fun hm => hb (List.mem_singleton.mp hm)
  have Sr : Src PySem.Challenge.rw_dm0039_04.row.prog w (.ref l) (refs one R).toArray (hideAll s.heap [44]) := by
    rcases hrow with ⟨n, hrow⟩ | hrow
    · exact Src.list ⟨_, hat _ _ hl hrow, rfl, n, rfl⟩
    · exact Src.tuple ⟨_, hat _ _ hl hrow, rfl, 0, rfl⟩
  have at_ : ∀ u ∈ (refs one R).toArray, ∃ i, i < 6 ∧ u = .ref (one i) := fun u hu => by
    have hu' : u ∈ refs one R := by simpa using hu
    obtain ⟨i, hi, rfl⟩ := List.mem_map.mp hu'
    exact ⟨i, hlt i hi, rfl⟩
  have hi : ∀ D U u, u ∈ (refs one R).toArray → AttrTruth PySem.Challenge.rw_dm0039_04.row.prog w (hideAll s.heap [44]) D U u "init" (tell6 one ini6 u) := fun D U u hu => by
    obtain ⟨i, h6, rfl⟩ := at_ u hu
    obtain ⟨a1, t1, t2, t3, tn, a2⟩ := po.at_ i h6
    intro A E t Q _ _ _ hk hQ
    refine (get_fld (fieldK04 rfl X) ((X.keeps k0).keeps hk) (hk _ _ (hat _ _ (hne i h6).1 a1)) (hk _ _ (hat _ _ (hne i h6).2 a2))).2.1 (wpAny_truthy_bool ?_)
    have hq := hQ t.heap (t.toks + 1) fun _ _ e => e
    rw [tell6_at po.inj h6] at hq
    exact hq
  have hw : ∀ D U u, u ∈ (refs one R).toArray → AttrTruth PySem.Challenge.rw_dm0039_04.row.prog w (hideAll s.heap [44]) D U u "kw_only" (tell6 one kwo6 u) := fun D U u hu => by
    obtain ⟨i, h6, rfl⟩ := at_ u hu
    obtain ⟨a1, t1, t2, t3, tn, a2⟩ := po.at_ i h6
    intro A E t Q _ _ _ hk hQ
    refine (get_fld (fieldK04 rfl X) ((X.keeps k0).keeps hk) (hk _ _ (hat _ _ (hne i h6).1 a1)) (hk _ _ (hat _ _ (hne i h6).2 a2))).2.2 (wpAny_truthy_bool ?_)
    have hq := hQ t.heap (t.toks + 1) fun _ _ e => e
    rw [tell6_at po.inj h6] at hq
    exact hq
  have e1 : (refs one R).toArray.toList.filter (fun u => tell6 one ini6 u && !tell6 one kwo6 u) = refs one (std6 R) :=
    filter_map_of fun i h => by rw [tell6_at po.inj (hlt i h), tell6_at po.inj (hlt i h)]
  have e2 : (refs one R).toArray.toList.filter (fun u => tell6 one ini6 u && tell6 one kwo6 u) = refs one (kws6 R) :=
    filter_map_of fun i h => by rw [tell6_at po.inj (hlt i h), tell6_at po.inj (hlt i h)]
  refine' fio_call (P := 44) (c := 48) (hb := hideAll s.heap [44]) hA hroom (fun b o e => of_hideAll _ e) (Nat.le_of_eq (hideAll_size _ _)) (hideAll_none _ (.head _)) (X.keeps k0) (T.keeps k0) (C.keeps k0) hP ht ?ho ?hcd ?hb ?htn boot_tuple ?c1 ?c2 ?c3 ?c4 ?c5 ?c6 ?c7 ?d1 ?d2 ?d3 ?d4 ?d5 ?d6 ?e1 ?e2 ?e3 ?e4 ?e5 ?e6 ?f Sr ?sz (test_and_not ?g1 ?g2 ?g3 (hi _ _) (hw _ _)) (test_and ?i1 ?i2 ?i3 (hi _ _) (hw _ _)) ?Q
  case ho => k_is
  case hcd => k_is
  case hb => exact BindsTo.of_eq rfl
  case htn => k_is
  case c1 => exact rfl
  case c2 => exact rfl
  case c3 => exact rfl
  case c4 => decide
  case c5 => exact rfl
  case c6 => exact rfl
  case c7 => decide
  case d1 => exact rfl
  case d2 => intro _; exact rfl
  case d3 => decide
  case d4 => exact rfl
  case d5 => exact rfl
  case d6 => exact rfl
  case e1 => exact rfl
  case e2 => intro _; exact rfl
  case e3 => decide
  case e4 => exact rfl
  case e5 => exact rfl
  case e6 => exact rfl
  case f => decide
  case sz => rw [List.size_toArray, List.length_map]; exact Nat.le_trans hlen (by decide)
  case g1 => exact rfl
  case g2 => exact rfl
  case g3 => decide
  case i1 => exact rfl
  case i2 => exact rfl
  case i3 => decide
  case Q =>
    intro t1 t2 t h' tk g' ps' hx hP' ht' l1 l2 l3 a1 a2 a3 hsz hb
    rw [e1] at a1; rw [e2] at a2
    exact hQ t1 t2 t h' tk g' ps' hx hP' ht' a1 a2 a3 l1 l2 l3 hsz hb

/-- the names of picks -/
theorem names6 {w : World} {h₀ h : Heap} {one dct : Nat → Addr} {R : List Nat} (X : (hd04.heap_39 w.params).In h₀) (k : Sub h₀ h) (po : Pool w.params h one dct) (hlt : ∀ j ∈ R, j < 6) (hlen : R.length ≤ 1000) :
    NamesOk PySem.Challenge.rw_dm0039_04.row.prog w h (refs one R) (R.map letter) := by
  refine ⟨by simp, by rw [List.length_map]; exact hlen, fun j v x e1 e2 => ?_⟩
  rw [List.getElem?_map] at e1 e2
  obtain ⟨i, hi, rfl⟩ := Option.map_eq_some_iff.mp e1
  rw [hi] at e2
  cases e2
  have h6 := hlt i (List.mem_of_getElem? hi)
  intro A E t Q hk hQ
  obtain ⟨a1, t1, t2, t3, tn, a2⟩ := po.at_ i h6
  exact (get_fld (fieldK04 rfl X) ((X.keeps k).keeps hk) (hk _ _ a1) (hk _ _ a2)).1 (hQ _ _)

end
section

theorem std6_mem {R : List Nat} {j : Nat} (h : j ∈ std6 R) : j ∈ R := (List.mem_filter.mp h).1
theorem kws6_mem {R : List Nat} {j : Nat} (h : j ∈ kws6 R) : j ∈ R := (List.mem_filter.mp h).1
theorem std6_len (R : List Nat) : (std6 R).length ≤ R.length := List.length_filter_le _ _
theorem kws6_len (R : List Nat) : (kws6 R).length ≤ R.length := List.length_filter_le _ _

set_option maxRecDepth 100000 in
set_option maxHeartbeats 8000000 in
theorem names04 : ∀ {w : World} {s : Shared} {h₀ : Heap} {l : Addr} {one dct : Nat → Addr} {mg mb : Str → Option Value} {ps : Array Value} {R : List Nat} {A : Around} {p : Program} {loose : List Str} {mean : ExcName → Option Value} {Q : Value → Shared → Prop} {E : Value → Shared → Prop},
    (hd04.heap_39 w.params).In h₀ → Top p loose mean mg mb h₀ → CodeHd h₀ 48 44 → A.handled = none → A.depth + 2 < recursionLimit → Sub h₀ s.heap → s.heap.get? 44 = some (tabObj ps) → h₀.get? 44 = none → TriplesOk ps.toList → l ≠ 44 → IsRow s.heap l one R →
    Pool w.params s.heap one dct → (∀ j, j < 6 → one j ≠ 44 ∧ dct j ≠ 44) → (∀ j ∈ R, j < 6) → R.length ≤ 1000 →
    (∀ (D d1 d2 : Addr) (h' : Heap) (tk : Nat) (g' : Array GenState) (ps' : Array Value) (vs1 vs2 : List Value) (k k1 k2 : Nat), Heap.ExtBut 44 s.heap h' → h'.get? 44 = some (tabObj ps') → TriplesOk ps'.toList → s.heap.objs.size ≤ D → s.heap.objs.size ≤ d1 → s.heap.objs.size ≤ d2 →
      h'.get? D = some (listOf #[.ref d1, .ref d2] k) → h'.get? d1 = some (listOf vs1.toArray k1) → h'.get? d2 = some (listOf vs2.toArray k2) → StrsAre vs1 ((std6 R).map letter) → StrsAre vs2 ((kws6 R).map letter) → (AllBare s.gens → AllBare g') → Q (.ref D) { s with heap := h', toks := tk, gens := g' }) →
    wpAny (model PySem.Challenge.rw_dm0039_04.row.prog w) A (call (.ref 54) [.ref l]) Q E s := by
  w_on
  k_fill
  intro w s h₀ l one dct mg mb ps R A p loose mean Q E X T C hA hroom hsub hP hP0 ht hl hrow po hne hlt hlen hQ
  have hsz0 : h₀.objs.size ≤ h₀.objs.size := Nat.le_refl _
  refine' def_call (K := hd04.heap_39 w.params) (X.keeps hsub) (T.keeps hsub) (Nat.lt_of_succ_lt (Nat.lt_of_succ_lt hroom)) ?ho ?hcd ?hb ?hloc ?body ?hco ?hgen ?hk ?hcell
  case ho => k_is
  case hcd => k_is
  case hb => exact BindsTo.of_eq rfl
  case hloc => exact locs rfl
  case hco => exact rfl
  case hgen => exact rfl
  case hk => exact rfl
  case hcell => decide
  case body =>
    intro h₁ F1
    have hsub1 : Sub h₀ h₁ := fun b o e => F1.keep b o (hsub b o e)
    have h44L : (44 : Addr) ≠ s.heap.objs.size := Nat.ne_of_lt (Heap.lt_size hP)
    refine wpAny_execs_cons (wpAny_Return_some ?_)
    refine names_two (s := { s with heap := h₁, toks := _ }) hA ⟨rfl, by decide, rfl, by decide, rfl⟩ (fun C' => ⟨rfl, by decide, rfl, by decide, rfl⟩) ?_
    refine Call_ (name_glb X T hsub1 (by k_is) ?_ rfl rfl rfl (by decide))
    refine callWith_K X (by k_is) (Calls.spliced_cons (name_loc F1.ns (v := .ref l) rfl (args_nil ⟨X.keeps hsub1, ?_⟩) rfl rfl (by decide)))
    have hrow1 : IsRow h₁ l one R := by
      rcases hrow with ⟨n, hr⟩ | hr
      · exact .inl ⟨n, F1.keep _ _ hr⟩
      · exact .inr (F1.keep _ _ hr)
    refine fio04 (s := { s with heap := h₁, toks := _ }) X T C hA (by exact Nat.lt_of_le_of_lt (Nat.le_refl _) hroom) hsub1 (F1.keep _ _ hP) hP0 ht hl hrow1 (po.keeps F1.keep) hne hlt hlen fun t1 t2 t h2 tk2 g2 ps2 hx hP2 ht2 a1 a2 a3 l1 l2 l3 hsz hb => ?_
    have hsub2 : Sub h₀ h2 := fun b o e => hx b o (fun q => by rw [q, hP0] at e; cases e) (hsub1 b o e)
    have po2 : Pool w.params h2 one dct := (po.keeps F1.keep).but (B := fun b => b = 44) (fun j hj => hne j hj) fun b o hb e => hx b o hb e
    refine ⟨t, t1, t2, _, _, _, _, rfl, a3, a1, a2, names6 X hsub2 po2 (fun j hj => hlt j (std6_mem hj)) (Nat.le_trans (std6_len _) hlen), names6 X hsub2 po2 (fun j hj => hlt j (kws6_mem hj)) (Nat.le_trans (kws6_len _) hlen), ?_⟩
    intro D d1 d2 h3 tk3 vs1 vs2 k k1 k2 hk3 lD ld1 ld2 eD e1 e2 hs1 hs2
    have hle : s.heap.objs.size ≤ h2.objs.size := by
      have : s.heap.objs.size < h₁.objs.size := F1.ns.lt
      have h4 : h₁.objs.size ≤ t1 := l1
      exact Nat.le_of_lt (Nat.lt_of_lt_of_le this (Nat.le_trans h4 (Nat.le_of_lt (Heap.lt_size a1))))
    refine ⟨_, rfl, hQ D d1 d2 h3 tk3 g2 ps2 vs1 vs2 k k1 k2 (fun b o hb e => hk3 b o (hx b o hb (F1.keep b o e))) (hk3 _ _ hP2) ht2 (Nat.le_trans hle lD) (Nat.le_trans hle ld1) (Nat.le_trans hle ld2) eD e1 e2 hs1 hs2 hb⟩

end
section

def lawDef (p : Program) : List Stmt × Scope := match p.main.body.getLast? with
  | some (.FunctionDef _ _ body _ _ _ scope ..) => (body, scope)
  | _ => ([], default)
def body04 : List Stmt := (lawDef PySem.Challenge.pw_dm0039_04).1
def scope04 : Scope := (lawDef PySem.Challenge.pw_dm0039_04).2
def stmt04 (k : Nat) : Stmt := (body04[k]?).getD (.Pass default)
abbrev env04 (L fa : Addr) : Env := envOfC (Str.ofString "law") scope04 L fa (.ref 58)

/-- what may be turned: the block's names, the two code tables, the cell of sorts -/
def Bad (L b : Addr) : Prop := b = L ∨ b = 44 ∨ b = 56 ∨ b = L + 1 + 1 + 1

structure S4 (w : World) (h₀ : Heap) (L : Addr) (one dct : Nat → Addr) (l PA : Addr) (h : Heap) (m : Str → Option Value) (B : List (Addr × Obj)) (cv : Option Value) (ps qs : Array Value) : Prop where
  fr : Fr h₀ L h m
  led : ∀ p ∈ B, h.get? p.1 = some p.2 ∧ ¬ Bad L p.1
  pool : Pool w.params h one dct
  pool_ok : ∀ j, j < 6 → ¬ Bad L (one j) ∧ ¬ Bad L (dct j)
  c1 : h.IsCell (L + 1) (some (.ref l))
  c2 : h.IsCell (L + 1 + 1) (some (.ref PA))
  c3 : h.IsCell (L + 1 + 1 + 1) cv
  pa : ∃ n, h.get? PA = some (listOf (refs one [0, 1, 2, 3, 4, 5]).toArray n)
  pa_ok : ¬ Bad L PA
  t44 : h.get? 44 = some (tabObj ps)
  ok44 : TriplesOk ps.toList
  t56 : h.get? 56 = some (tabObj qs)
  z44 : h₀.get? 44 = none
  z56 : h₀.get? 56 = none
  z3 : h₀.get? (L + 1 + 1 + 1) = none
  lt44 : 44 < L
  lt56 : 56 < L

section
variable {w : World} {h₀ h h' : Heap} {L l PA : Addr} {one dct : Nat → Addr} {m m' : Str → Option Value} {B B' : List (Addr × Obj)} {cv cv' : Option Value} {ps qs ps' qs' : Array Value}

theorem S4.fresh (S : S4 w h₀ L one dct l PA h m B cv ps qs) {b : Addr} (hb : h.objs.size ≤ b) : ¬ Bad L b := by
  rintro (e | e | e | e)
  · exact Nat.lt_irrefl _ (Nat.lt_of_lt_of_le S.fr.ns.lt (e ▸ hb))
  · exact Nat.lt_irrefl _ (Nat.lt_of_lt_of_le (Heap.lt_size S.t44) (e ▸ hb))
  · exact Nat.lt_irrefl _ (Nat.lt_of_lt_of_le (Heap.lt_size S.t56) (e ▸ hb))
  · obtain ⟨o, ho, _⟩ := S.c3
    exact Nat.lt_irrefl _ (Nat.lt_of_lt_of_le (Heap.lt_size ho) (e ▸ hb))
theorem S4.ok1 (S : S4 w h₀ L one dct l PA h m B cv ps qs) : ¬ Bad L (L + 1) ∧ ¬ Bad L (L + 1 + 1) := by
  have h1 : 44 < L := S.lt44
  have h2 : 56 < L := S.lt56
  constructor
  · rintro (e | e | e | e)
    · exact Nat.succ_ne_self _ e
    · exact Nat.ne_of_gt (Nat.lt_succ_of_lt h1) e
    · exact Nat.ne_of_gt (Nat.lt_succ_of_lt h2) e
    · exact Nat.ne_of_lt (Nat.lt_succ_of_lt (Nat.lt_succ_self _)) e
  · rintro (e | e | e | e)
    · exact Nat.ne_of_gt (Nat.lt_succ_of_lt (Nat.lt_succ_self _)) e
    · exact Nat.ne_of_gt (Nat.lt_succ_of_lt (Nat.lt_succ_of_lt h1)) e
    · exact Nat.ne_of_gt (Nat.lt_succ_of_lt (Nat.lt_succ_of_lt h2)) e
    · exact Nat.ne_of_lt (Nat.lt_succ_self _) e
/-- one step -/
theorem S4.step (S : S4 w h₀ L one dct l PA h m B cv ps qs) (F : Fr h₀ L h' m') (k : ∀ b o, ¬ Bad L b → h.get? b = some o → h'.get? b = some o) (hB : ∀ p ∈ B', p ∈ B ∨ (h'.get? p.1 = some p.2 ∧ ¬ Bad L p.1))
    (c3 : h'.IsCell (L + 1 + 1 + 1) cv') (t44 : h'.get? 44 = some (tabObj ps')) (ok44 : TriplesOk ps'.toList) (t56 : h'.get? 56 = some (tabObj qs')) : S4 w h₀ L one dct l PA h' m' B' cv' ps' qs' where
  fr := F
  led := fun p hp => by
    rcases hB p hp with q | q
    · exact ⟨k _ _ (S.led p q).2 (S.led p q).1, (S.led p q).2⟩
    · exact q
  pool := S.pool.but (B := Bad L) S.pool_ok k
  pool_ok := S.pool_ok
  c1 := let ⟨o, e, d⟩ := S.c1; ⟨o, k _ _ S.ok1.1 e, d⟩
  c2 := let ⟨o, e, d⟩ := S.c2; ⟨o, k _ _ S.ok1.2 e, d⟩
  c3 := c3
  pa := let ⟨n, e⟩ := S.pa; ⟨n, k _ _ S.pa_ok e⟩
  pa_ok := S.pa_ok
  t44 := t44
  ok44 := ok44
  t56 := t56
  z44 := S.z44
  z56 := S.z56
  z3 := S.z3
  lt44 := S.lt44
  lt56 := S.lt56
/-- all kept, and some new -/
theorem S4.sub (S : S4 w h₀ L one dct l PA h m B cv ps qs) (k : Sub h h') {N : List (Addr × Obj)} (hN : ∀ p ∈ N, h.objs.size ≤ p.1 ∧ h'.get? p.1 = some p.2) : S4 w h₀ L one dct l PA h' m (N ++ B) cv ps qs :=
  S.step (S.fr.keeps k) (fun b o _ e => k b o e) (fun p hp => by
    rcases List.mem_append.mp hp with hp | hp
    · exact .inr ⟨(hN p hp).2, S.fresh (hN p hp).1⟩
    · exact .inl hp) (let ⟨o, e, d⟩ := S.c3; ⟨o, k _ _ e, d⟩) (k _ _ S.t44) S.ok44 (k _ _ S.t56)
/-- the names turned, all else kept, and some new -/
theorem S4.loc (S : S4 w h₀ L one dct l PA h m B cv ps qs) (F : Fr h₀ L h' m') (k : ∀ b o, b ≠ L → h.get? b = some o → h'.get? b = some o) {N : List (Addr × Obj)} (hN : ∀ p ∈ N, h.objs.size ≤ p.1 ∧ h'.get? p.1 = some p.2) : S4 w h₀ L one dct l PA h' m' (N ++ B) cv ps qs :=
  S.step F (fun b o hb e => k b o (fun q => hb (.inl q)) e) (fun p hp => by
    rcases List.mem_append.mp hp with hp | hp
    · exact .inr ⟨(hN p hp).2, S.fresh (hN p hp).1⟩
    · exact .inl hp) (let ⟨o, e, d⟩ := S.c3; ⟨o, k _ _ (Nat.ne_of_gt (Nat.lt_succ_of_lt (Nat.lt_succ_of_lt (Nat.lt_succ_self _)))) e, d⟩) (k _ _ (Nat.ne_of_lt S.lt44) S.t44) S.ok44 (k _ _ (Nat.ne_of_lt S.lt56) S.t56)
/-- the table of _fields_in_init_order grown -/
theorem S4.tab44 (S : S4 w h₀ L one dct l PA h m B cv ps qs) (k : Heap.ExtBut 44 h h') (hP : h'.get? 44 = some (tabObj ps')) (ht : TriplesOk ps'.toList) {N : List (Addr × Obj)} (hN : ∀ p ∈ N, h.objs.size ≤ p.1 ∧ h'.get? p.1 = some p.2) : S4 w h₀ L one dct l PA h' m (N ++ B) cv ps' qs :=
  S.step ⟨S.fr.ns.extBut k (Nat.ne_of_gt S.lt44), fun b o e => k b o (fun q => by rw [q, S.z44] at e; cases e) (S.fr.keep b o e), S.fr.above⟩ (fun b o hb e => k b o (fun q => hb (.inr (.inl q))) e) (fun p hp => by
    rcases List.mem_append.mp hp with hp | hp
    · exact .inr ⟨(hN p hp).2, S.fresh (hN p hp).1⟩
    · exact .inl hp) (let ⟨o, e, d⟩ := S.c3; ⟨o, k _ _ (Nat.ne_of_gt (Nat.lt_succ_of_lt (Nat.lt_succ_of_lt (Nat.lt_succ_of_lt S.lt44)))) e, d⟩) hP ht (k _ _ (by decide) S.t56)
/-- the law's own table grown -/
theorem S4.tab56 (S : S4 w h₀ L one dct l PA h m B cv ps qs) (k : Heap.ExtBut 56 h h') (hP : h'.get? 56 = some (tabObj qs')) {N : List (Addr × Obj)} (hN : ∀ p ∈ N, h.objs.size ≤ p.1 ∧ h'.get? p.1 = some p.2) : S4 w h₀ L one dct l PA h' m (N ++ B) cv ps qs' :=
  S.step ⟨S.fr.ns.extBut k (Nat.ne_of_gt S.lt56), fun b o e => k b o (fun q => by rw [q, S.z56] at e; cases e) (S.fr.keep b o e), S.fr.above⟩ (fun b o hb e => k b o (fun q => hb (.inr (.inr (.inl q)))) e) (fun p hp => by
    rcases List.mem_append.mp hp with hp | hp
    · exact .inr ⟨(hN p hp).2, S.fresh (hN p hp).1⟩
    · exact .inl hp) (let ⟨o, e, d⟩ := S.c3; ⟨o, k _ _ (Nat.ne_of_gt (Nat.lt_succ_of_lt (Nat.lt_succ_of_lt (Nat.lt_succ_of_lt S.lt56)))) e, d⟩) (k _ _ (by decide) S.t44) S.ok44 hP
/-- the cell of sorts set -/
theorem S4.cell (S : S4 w h₀ L one dct l PA h m B cv ps qs) (hs : Heap.SameBut (L + 1 + 1 + 1) h h') (hc : h'.IsCell (L + 1 + 1 + 1) cv') : S4 w h₀ L one dct l PA h' m B cv' ps qs :=
  S.step ⟨S.fr.ns.sameBut hs (Nat.ne_of_lt (Nat.lt_succ_of_lt (Nat.lt_succ_of_lt (Nat.lt_succ_self _)))), fun b o e => hs.extBut b o (fun q => by rw [q, S.z3] at e; cases e) (S.fr.keep b o e), S.fr.above⟩
    (fun b o hb e => hs.extBut b o (fun q => hb (.inr (.inr (.inr q)))) e) (fun p hp => .inl hp) hc (hs.extBut _ _ (Nat.ne_of_lt (Nat.lt_succ_of_lt (Nat.lt_succ_of_lt (Nat.lt_succ_of_lt S.lt44)))) S.t44) S.ok44 (hs.extBut _ _ (Nat.ne_of_lt (Nat.lt_succ_of_lt (Nat.lt_succ_of_lt (Nat.lt_succ_of_lt S.lt56)))) S.t56)
theorem S4.mono (S : S4 w h₀ L one dct l PA h m B cv ps qs) (k : ∀ p ∈ B', p ∈ B) : S4 w h₀ L one dct l PA h m B' cv ps qs := { S with led := fun p hp => S.led p (k p hp) }
end

section
variable {prog : Program} {w : World} {A : Around} {E : Value → Shared → Prop} {s : Shared} {h₀ : Heap} {L l PA fa : Addr} {one dct : Nat → Addr} {m : Str → Option Value} {B : List (Addr × Obj)} {cv : Option Value} {ps qs : Array Value} {v : Value}

theorem rd4_script {p : Pos} {Q : Value → Shared → Prop} (S : S4 w h₀ L one dct l PA s.heap m B cv ps qs) (h : Q (.ref l) s) : wpAny (model prog w) A (eval (.Name "script" p) (env04 L fa)) Q E s :=
  wpAny_Name (wpAny_loadName_cell rfl rfl rfl S.c1 h) (by decide)
theorem rd4_sorts {p : Pos} {Q : Value → Shared → Prop} (S : S4 w h₀ L one dct l PA s.heap m B (some v) ps qs) (h : Q v s) : wpAny (model prog w) A (eval (.Name "sorts" p) (env04 L fa)) Q E s :=
  wpAny_Name (wpAny_loadName_cell rfl rfl rfl S.c3 h) (by decide)
theorem kl04 : ∀ y ∈ (["row", "order", "names", "first", "second", "std", "rest"] : List Str), (env04 L fa).kindOf y = some .local := by
  intro y hy
  simp only [List.mem_cons, List.not_mem_nil, or_false] at hy
  rcases hy with rfl | rfl | rfl | rfl | rfl | rfl | rfl <;> rfl
theorem rd4 {p : Pos} {y : Str} {Q : Value → Shared → Prop} (S : S4 w h₀ L one dct l PA s.heap m B cv ps qs) (hm : m y = some v) (h : Q v s)
    (hy : y ∈ (["row", "order", "names", "first", "second", "std", "rest"] : List Str) := by decide) (hd : (y == ("__debug__" : Str)) = false := by decide) : wpAny (model prog w) A (eval (.Name y p) (env04 L fa)) Q E s :=
  name_loc S.fr.ns hm h rfl (kl04 y hy) hd
theorem st4 {y : Str} {Q : Unit → Shared → Prop} (S : S4 w h₀ L one dct l PA s.heap m B cv ps qs) (h : ∀ h', S4 w h₀ L one dct l PA h' (fun z => if z = y then some v else m z) B cv ps qs → Q () { s with heap := h', toks := s.toks + 1 })
    (hy : y ∈ (["row", "order", "names", "first", "second", "std", "rest"] : List Str) := by decide) : wpAny (model prog w) A (storeName (env04 L fa) y v) Q E s :=
  wpAny_storeName_local (m := m) (kl04 y hy) S.fr.ns (fun h' hn hs => h h' ((S.loc (N := []) (S.fr.set hn hs) (fun b o hb e => hs.extBut b o hb e) fun _ h => nomatch h).mono fun p hp => hp)) rfl
end

end
section

section
variable {w : World} {A : Around} {E : Value → Shared → Prop} {s : Shared} {h₀ : Heap} {L l PA fa : Addr} {one dct : Nat → Addr} {m : Str → Option Value} {B : List (Addr × Obj)} {cv : Option Value} {ps qs : Array Value} {vs : List Value} {ns : List Int}

theorem mod6 {prog : Program} {x : Int} {tx u : Tok} {Q : Value → Shared → Prop} (h : ∀ t tk, Q (.int (idx6 x : Nat) t) { s with toks := tk }) : wpAny (model prog w) A (binaryOp .Mod (.int x tx) (.int 6 u)) Q E s := by
  refine AutoIntOps.mod_1 (by decide) ?_
  rw [idx6_int]; exact h _ _

set_option maxRecDepth 100000 in
/-- row = [pool[x % 6] for x in script] -/
theorem s4_row {Q : Flow → Shared → Prop} (hA : A.handled = none) (S : S4 w h₀ L one dct l PA s.heap m B cv ps qs) (hl : h₀.IsList l vs.toArray) (hi : IntsAre vs ns) (hlen : ns.length ≤ 63)
    (h : ∀ D h' tk k, S4 w h₀ L one dct l PA h' (fun z => if z = Str.ofString "row" then some (.ref D) else m z) ((D, listOf (refs one (ns.map idx6)).toArray k) :: B) cv ps qs → Q .next { s with heap := h', toks := tk }) :
    wpAny (model PySem.Challenge.rw_dm0039_04.row.prog w) A (exec (stmt04 2) (env04 L fa)) Q E s := by
  have hvl : vs.toArray.size = ns.length := by rw [List.size_toArray]; exact hi.length
  obtain ⟨npa, hpa⟩ := S.pa
  refine assign_comp_S (h₀ := h₀) (m := m) (cl := [(Str.ofString "pool", L + 1 + 1)]) (n := vs.toArray.size) (Pi := fun i v => vs.toArray[i]? = some v) (fun i ys fam => fam = [] ∧ ys = refs one ((ns.map idx6).take i) ∧ ys.length = i) rfl hA rfl (by decide) rfl (by decide) rfl rfl rfl ⟨rfl, by rw [List.take_zero]; rfl, rfl⟩
    (fun i ys fam h => Nat.le_of_eq h.2.2) (by rw [hvl]; exact Nat.le_trans hlen (by decide)) ?_
  refine rd4_script S ⟨SSrc.list (hl.at fun o e => S.fr.keep _ o e), ?_, S.fr, ?_⟩
  · rintro C i v h1 tk m₃ fam ys hin hv ⟨rfl, rfl, hyl⟩ hC hmx hCs hk _
    obtain ⟨x, tx, rfl, hx⟩ := hi.at i v (by simpa using hv)
    refine Subscript_ (wpAny_Name (wpAny_loadName_cell rfl rfl rfl (let ⟨o, e, d⟩ := S.c2; ⟨o, hk _ _ e, d⟩) ?_) (by decide))
    refine wpAny_BinOp (name_loc (m := m₃) hC hmx (wpAny_Constant_int (mod6 fun t tk' => ?_)) rfl rfl (by decide))
    have h6 := idx6_lt x
    refine item_list (x := .ref (one (idx6 x))) ⟨_, hk _ _ hpa, rfl, npa, rfl⟩ (by omega) (by omega) ?_ ?_
    · rw [Int.toNat_natCast]
      have : idx6 x = 0 ∨ idx6 x = 1 ∨ idx6 x = 2 ∨ idx6 x = 3 ∨ idx6 x = 4 ∨ idx6 x = 5 := by omega
      rcases this with e | e | e | e | e | e <;> rw [e] <;> rfl
    · refine ⟨h1, _, [], rfl, fun _ _ e => e, (fun _ h => nomatch h), rfl, ?_, by rw [List.length_append, hyl]; rfl⟩
      have e2 : (ns.map idx6)[i]? = some (idx6 x) := by rw [List.getElem?_map, hx]; rfl
      rw [List.take_add_one, e2]; simp [refs]
  · rintro D h1 tk ys fam k ⟨rfl, rfl, hyl⟩ F hk hD hDl _
    have e3 : (ns.map idx6).take vs.toArray.size = ns.map idx6 := List.take_of_length_le (by rw [List.length_map, hvl]; exact Nat.le_refl _)
    rw [e3] at hDl
    exact h D h1 tk k (S.loc (N := [(D, listOf (refs one (ns.map idx6)).toArray k)]) F hk fun p hp => by rw [List.mem_singleton.mp hp]; exact ⟨hD, hDl⟩)

theorem item_tmp {prog : Program} {value slice : PySem.Expr} {a : Addr} {items : Array Value} {k : Int} {u : Tok} {x : Value} {Q : Value → Shared → Prop} (hl : s.heap.IsList a items) (h0 : 0 ≤ k) (hfit : k < 2 ^ 63) (hx : items[k.toNat]? = some x) (h : Q x s)
    (hs : subscripted slice false (.ref a) (.int k u) = operate [.ref a, .int k u] (getItem (.ref a) (.int k u)) := by with_unfolding_all rfl) :
    wpAny (model prog w) A (subscriptTail value slice (.ref a) (.int k u)) Q E s :=
  kba_turn (value' := PySem.Expr.Name (PySem.Str.ofString "pool") ⟨0, 0, 0, 0⟩) (fun _ => rfl) (item_list hl h0 hfit hx h hs (fun _ => rfl))

set_option maxRecDepth 100000 in
/-- sorts = [[0, 1, 2, 1, 0, 2][x % 6] for x in script] -/
theorem s4_sorts {Q : Flow → Shared → Prop} (hA : A.handled = none) (S : S4 w h₀ L one dct l PA s.heap m B cv ps qs) (hl : h₀.IsList l vs.toArray) (hi : IntsAre vs ns) (hlen : ns.length ≤ 63)
    (h : ∀ D h' tk k us, IntsAre us ((ns.map idx6).map srt) → S4 w h₀ L one dct l PA h' m ((D, listOf us.toArray k) :: B) (some (.ref D)) ps qs → Q .next { s with heap := h', toks := tk }) :
    wpAny (model PySem.Challenge.rw_dm0039_04.row.prog w) A (exec (stmt04 3) (env04 L fa)) Q E s := by
  have hvl : vs.toArray.size = ns.length := by rw [List.size_toArray]; exact hi.length
  refine wpAny_Assign_Name ?_
  refine comp_S (cl := []) (n := vs.toArray.size) (Pi := fun i v => vs.toArray[i]? = some v) (fun i ys fam => fam = [] ∧ IntsAre ys (((ns.map idx6).map srt).take i) ∧ ys.length = i) hA rfl (by decide) rfl (by decide) rfl ⟨rfl, by rw [List.take_zero]; exact .nil, rfl⟩
    (fun i ys fam h => Nat.le_of_eq h.2.2) (by rw [hvl]; exact Nat.le_trans hlen (by decide)) ?_
  refine rd4_script S ⟨SSrc.list (hl.at fun o e => S.fr.keep _ o e), ?_, ?_⟩
  · rintro C i v h1 tk m₃ fam ys hin hv ⟨rfl, hys, hyl⟩ hC hmx hCs hk _
    obtain ⟨x, tx, rfl, hx⟩ := hi.at i v (by simpa using hv)
    refine Subscript_ (wpAny_List ?_)
    refine Calls.spliced_cons ?_
    refine wpAny_Constant_int (k := 0) (pos := ⟨0, 0, 0, 0⟩) ?_
    refine Calls.spliced_cons ?_
    refine wpAny_Constant_int (k := 0) (pos := ⟨0, 0, 0, 0⟩) ?_
    refine Calls.spliced_cons ?_
    refine wpAny_Constant_int (k := 0) (pos := ⟨0, 0, 0, 0⟩) ?_
    refine Calls.spliced_cons ?_
    refine wpAny_Constant_int (k := 0) (pos := ⟨0, 0, 0, 0⟩) ?_
    refine Calls.spliced_cons ?_
    refine wpAny_Constant_int (k := 0) (pos := ⟨0, 0, 0, 0⟩) ?_
    refine Calls.spliced_cons ?_
    refine wpAny_Constant_int (k := 0) (pos := ⟨0, 0, 0, 0⟩) ?_
    refine args_nil ⟨show (6 : Nat) ≤ sizeLine by decide, ?_⟩
    refine wpAny_BinOp (name_loc (m := m₃) (hC.keeps fun b o e => Heap.get?_push_of_some _ e) hmx (wpAny_Constant_int (mod6 fun t tk' => ?_)) rfl rfl (by decide))
    have h6 := idx6_lt x
    obtain ⟨ty, hit⟩ : ∃ ty, (#[Value.int 0 tk, .int 1 (tk + 1), .int 2 (tk + 1 + 1), .int 1 (tk + 1 + 1 + 1), .int 0 (tk + 1 + 1 + 1 + 1), .int 2 (tk + 1 + 1 + 1 + 1 + 1)] : Array Value)[((idx6 x : Nat) : Int).toNat]? = some (.int (srt (idx6 x)) ty) := by
      rw [Int.toNat_natCast]
      have : idx6 x = 0 ∨ idx6 x = 1 ∨ idx6 x = 2 ∨ idx6 x = 3 ∨ idx6 x = 4 ∨ idx6 x = 5 := by omega
      rcases this with e | e | e | e | e | e <;> rw [e] <;> exact ⟨_, rfl⟩
    refine item_tmp ⟨_, Heap.get?_push_size _ rfl, rfl, 0, rfl⟩ (by omega) (by omega) hit ?_
    refine ⟨_, _, [], rfl, fun b o e => Heap.get?_push_of_some _ e, (fun _ h => nomatch h), rfl, ?_, by rw [List.length_append, hyl]; rfl⟩
    have e2 : ((ns.map idx6).map srt)[i]? = some (srt (idx6 x)) := by rw [List.getElem?_map, List.getElem?_map, hx]; rfl
    rw [List.take_add_one, e2]
    exact hys.append (.cons _ _ .nil)
  · rintro D h1 tk ys fam k ⟨rfl, hys, hyl⟩ hk hD hDl _
    have e3 : ((ns.map idx6).map srt).take vs.toArray.size = (ns.map idx6).map srt := List.take_of_length_le (by rw [List.length_map, List.length_map, hvl]; exact Nat.le_refl _)
    rw [e3] at hys
    have S1 := S.sub (N := [(D, listOf ys.toArray k)]) hk fun p hp => by rw [List.mem_singleton.mp hp]; exact ⟨hD, hDl⟩
    exact wpAny_storeName_cell rfl rfl rfl S1.c3 fun h' hc hs => h D h' tk k ys hys (S1.cell hs hc)
end

end
section

section
variable {w : World} {A : Around} {E : Value → Shared → Prop} {s : Shared} {h₀ : Heap} {L l PA fa : Addr} {one dct : Nat → Addr} {m mg mb : Str → Option Value} {B : List (Addr × Obj)} {cv : Option Value} {ps qs : Array Value} {vs : List Value} {ns : List Int} {K : Frag} {p : Program} {loose : List Str} {mean : ExcName → Option Value}

theorem CallKw4 {M : Model} {env : Env} {func : PySem.Expr} {args : List PySem.Expr} {kws : List Keyword} {pos : Pos} {Q : Value → Shared → Prop}
    (h : wpAny M A (eval func env) (fun f s₁ => wpAny M A (callWith pos f [] (backTo pos (starEach args env)) (backToKw pos (keywordEach kws env))) Q E s₁) E s)
    (he : eval (.Call func args kws pos) env = (do callWith pos (← eval func env) [] (backTo pos (starEach args env)) (backToKw pos (keywordEach kws env))) := by rfl) :
    wpAny M A (eval (.Call func args kws pos) env) Q E s := by
  rw [he]; exact wpAny_bind h

theorem codeRec_keeps {h h' : Heap} {v : Value} {q : Str} (H : h.CodeRec v q) (k : Sub h h') : h'.CodeRec v q := by
  obtain ⟨c, oc, us, t, e, ho, hd, hv⟩ := H
  exact ⟨c, oc, us, t, e, k _ _ ho, hd, hv⟩

set_option maxRecDepth 100000 in
/-- order = sorted(range(len(script)), key=lambda k: sorts[k]) -/
theorem s4_order {SA : Addr} {ks : Nat} {us : List Value} {kz : List Int} {Q : Flow → Shared → Prop} (hA : A.handled = none) (hroom : A.depth < recursionLimit) (X : K.In h₀) (T : Top p loose mean mg mb h₀) (C : CodeHd h₀ 58 56)
    (es : nsIn K mainGlobals "sorted" = some none) (er : nsIn K mainGlobals "range" = some none) (el : nsIn K mainGlobals "len" = some none)
    (S : S4 w h₀ L one dct l PA s.heap m B (some (.ref SA)) ps #[]) (hl : h₀.IsList l vs.toArray) (hi : IntsAre vs ns) (hlen : ns.length ≤ 63) (hSA : (SA, listOf us.toArray ks) ∈ B) (hus : IntsAre us kz) (hkz : kz.length = ns.length)
    (h : ∀ D h' tk out c qs', StOut kz out.toList → S4 w h₀ L one dct l PA h' (fun z => if z = Str.ofString "order" then some (.ref D) else m z) ((D, listOf out c) :: B) (some (.ref SA)) ps qs' → Q .next { s with heap := h', toks := tk }) :
    wpAny (model PySem.Challenge.rw_dm0039_04.row.prog w) A (exec (stmt04 4) (env04 L fa)) Q E s := by
  have hvl : vs.toArray.size = ns.length := by rw [List.size_toArray]; exact hi.length
  refine wpAny_Assign_Name ?_
  refine CallKw4 (name_blt X T S.fr.keep es PyProof.Rows.boot_sorted (by decide) ?_ rfl rfl rfl rfl (by decide))
  refine callWith_kw ?_
  refine Calls.spliced_cons (range_len X T S.fr.keep er el (hl.at fun o e => S.fr.keep _ o e) (by rw [hvl]; omega) (fun Q' hq => rd4_script S hq) (fun t u v tk1 => args_nil ?_) rfl rfl rfl rfl rfl)
  have S1 := S.sub (N := []) (h' := s.heap.push { cls := .type "range", data := .fields #[.int 0 t, .int vs.toArray.size u, .int 1 v] }) (fun b o e => Heap.get?_push_of_some _ e) fun _ h => nomatch h
  have hr1 : IsRange (s.heap.push { cls := .type "range", data := .fields #[.int 0 t, .int vs.toArray.size u, .int 1 v] }) s.heap.objs.size 0 vs.toArray.size 1 t u v := Heap.get?_push_size _ rfl
  generalize s.heap.push { cls := .type "range", data := .fields #[.int 0 t, .int vs.toArray.size u, .int 1 v] } = h1 at S1 hr1
  generalize s.heap.objs.size = r at hr1
  refine kws_cons ?_
  refine kla_eval rfl ?_
  obtain ⟨bm, ob, b1, b2, b3, b4, b5, b6⟩ := T.bmain
  have hgs := T.g.keeps S1.fr.keep
  have hgP : mainGlobals ≠ 56 := by decide
  have hbP : bm ≠ 56 := fun q => by rw [q, S.z56] at b3; cases b3
  have hbG : bm ≠ mainGlobals := fun q => by
    obtain ⟨o, es', ep, e, hd, _⟩ := T.g
    rw [q, e] at b3; cases b3; rw [hd] at b6; cases b6
  refine kla_makeFunction (s := { s with heap := h1, toks := tk1 }) (mg := mg) (clos := [(Str.ofString "sorts", L + 1 + 1 + 1)]) (c := 58) (P := 56) (ps := #[]) rfl rfl hgs rfl (C.keeps S1.fr.keep) S1.t56 trivial rfl hgP ⟨bm, ob, b1, b2, hbG, hbP, S1.fr.keep _ _ b3, b4, b5, b6⟩ fun c' ctv h2 tk2 hx hge hlt hrec htb => ?_
  refine kws_nil ?_
  have S2 := (S1.tab56 (N := []) hx htb fun _ h => nomatch h)
  have hr2 : IsRange h2 r 0 vs.toArray.size 1 t u v := hx _ _ (fun q => by
    have e := hr1
    unfold IsRange at e
    rw [q, S1.t56] at e
    cases e) hr1
  generalize hob : kla_obj _ _ _ _ _ _ _ c' ctv = fob
  have S3 := S2.sub (N := []) (h' := h2.push fob) (fun b o e => Heap.get?_push_of_some _ e) fun _ h => nomatch h
  have hfo : (h2.push fob).get? h2.objs.size = some fob := Heap.get?_push_size _ (by rw [← hob]; rfl)
  have hr3 : IsRange (h2.push fob) r 0 vs.toArray.size 1 t u v := Heap.get?_push_of_some _ hr2
  have hsub3 : Sub h2 (h2.push fob) := fun b o e => Heap.get?_push_of_some _ e
  have hrec3 := codeRec_keeps hrec hsub3
  refine st_sorted (s := { s with heap := h2.push fob, toks := tk2 }) (kz := kz) hA hr3 (by rw [hkz, hvl]) (by rw [hvl]; omega) (fun us' hc hul => ?key) fun D h4 tk4 out c hk4 hD hDl hso => ?_
  case key =>
    intro i v' k' hv' hk' g tk5 hg
    obtain ⟨ti, rfl⟩ := hc i v' hv'
    obtain ⟨tk', hkt⟩ := hus.get i k' hk'
    have hfg := hg _ _ hfo
    rw [← hob] at hfg
    refine wpAny_call ?_
    refine kla_callFunE (s := { s with heap := g, toks := tk5 }) (by exact hroom) hfg rfl rfl rfl rfl (codeRec_keeps hrec3 hg) ?_
    refine wpAny_of_eq (show bindArgs _ _ = pure [(Str.ofString "k", Value.int i ti)] from rfl) ?_
    refine wpAny_newFunctionEnv (show ∀ x ∈ ([(Str.ofString "k", NameKind.local), (Str.ofString "sorts", NameKind.free)] : List (Str × NameKind)), x.2 ≠ NameKind.cell by decide) (locs rfl) (fun g1 hns hsb => ⟨((T.nolimit.keeps S3.fr.keep).keeps hg).fresh _ hsb, ?_⟩) rfl
    have hk1 : Sub g g1 := fun b o e => hsb.extBut b o (Nat.ne_of_lt (Heap.lt_size e)) (Heap.get?_push_of_some _ e)
    have hSB := S3.led (SA, listOf us.toArray ks) (by simpa using hSA)
    refine kla_codeExpr ?_
    refine Subscript_ (wpAny_Name (wpAny_loadName_free rfl rfl rfl (let ⟨o, e, d⟩ := S3.c3; ⟨o, hk1 _ _ (hg _ _ e), d⟩) ?_) (by decide))
    refine name_loc hns (v := .int i ti) rfl ?_ rfl rfl (by decide)
    have hil : i < kz.length := by
      rcases Nat.lt_or_ge i kz.length with q | q
      · exact q
      · rw [List.getElem?_eq_none q] at hk'; cases hk'
    refine item_list (x := .int k' tk') ⟨_, hk1 _ _ (hg _ _ hSB.1), rfl, ks, rfl⟩ (by omega) (by omega) (by simpa using hkt) ?_ (by with_unfolding_all rfl) (by intro _; with_unfolding_all rfl)
    exact ⟨g1, _, tk', rfl, rfl, hk1⟩
  have S4' := S3.sub (N := [(D, listOf out c)]) hk4 fun q hq => by rw [List.mem_singleton.mp hq]; exact ⟨hD, hDl⟩
  exact st4 (s := { s with heap := h4, toks := tk4 }) (y := Str.ofString "order") S4' fun h5 S5 => h D h5 _ out c _ hso (S5.mono fun q hq => by simpa using hq)
end

end
section

section
variable {w : World} {A : Around} {E : Value → Shared → Prop} {s : Shared} {h₀ : Heap} {L l PA fa : Addr} {one dct : Nat → Addr} {m : Str → Option Value} {B : List (Addr × Obj)} {cv : Option Value} {ps qs : Array Value} {vs : List Value} {ns : List Int}

theorem letter_item {prog : Program} {value slice : PySem.Expr} {t u : Tok} {j : Nat} {Q : Value → Shared → Prop} (hj : j < 6) (h : ∀ t' tk', Q (.str (letter j) t') { s with toks := tk' })
    (hs : subscripted slice false (.str (Str.ofString "abcdef") t) (.int j u) = operate [.str (Str.ofString "abcdef") t, .int j u] (getItem (.str (Str.ofString "abcdef") t) (.int j u)) := by with_unfolding_all rfl)
    (ht : ∀ r, letTemporaryGo value (.str (Str.ofString "abcdef") t) r = pure () := by intro _; with_unfolding_all rfl) :
    wpAny (model prog w) A (subscriptTail value slice (.str (Str.ofString "abcdef") t) (.int j u)) Q E s := by
  have hlen : (Str.ofString "abcdef").length = 6 := rfl
  have hit : Txt.item (Str.ofString "abcdef") (j : Int) = letter j := by
    have : j = 0 ∨ j = 1 ∨ j = 2 ∨ j = 3 ∨ j = 4 ∨ j = 5 := by omega
    rcases this with e | e | e | e | e | e <;> rw [e] <;> decide
  refine item_str (by unfold fitsSsize; simp; omega) (by rw [hlen]; omega) (by rw [hlen]; omega) (fun _ => ?_) hs ht
  rw [hit]; exact h _ _

set_option maxRecDepth 100000 in
/-- names = ['abcdef'[script[k] % 6] for k in order] -/
theorem s4_names {OA : Addr} {c : Nat} {out : Array Value} {os : List Nat} {Q : Flow → Shared → Prop} (hA : A.handled = none) (S : S4 w h₀ L one dct l PA s.heap m B cv ps qs) (hl : h₀.IsList l vs.toArray) (hi : IntsAre vs ns) (hlen : ns.length ≤ 63)
    (hOA : (OA, listOf out c) ∈ B) (hm : m "order" = some (.ref OA)) (hout : IntsAre out.toList (os.map fun (i : Nat) => (i : Int))) (hos : ∀ q ∈ os, q < ns.length) (hol : os.length ≤ 63)
    (h : ∀ D h' tk k ws, StrsAre ws (os.map fun q => letter ((ns.map idx6).getD q 0)) → S4 w h₀ L one dct l PA h' (fun z => if z = Str.ofString "names" then some (.ref D) else m z) ((D, listOf ws.toArray k) :: B) cv ps qs → Q .next { s with heap := h', toks := tk }) :
    wpAny (model PySem.Challenge.rw_dm0039_04.row.prog w) A (exec (stmt04 5) (env04 L fa)) Q E s := by
  have hosz : out.size = os.length := by have := hout.length; rw [Array.length_toList, List.length_map] at this; exact this
  have hOB := S.led _ hOA
  refine assign_comp_S (h₀ := h₀) (m := m) (cl := [(Str.ofString "script", L + 1)]) (n := out.size) (Pi := fun i v => out[i]? = some v) (fun i ys fam => fam = [] ∧ StrsAre ys ((os.take i).map fun q => letter ((ns.map idx6).getD q 0)) ∧ ys.length = i) rfl hA rfl (by decide) rfl (by decide) rfl rfl rfl ⟨rfl, by rw [List.take_zero]; exact .nil, rfl⟩
    (fun i ys fam h => Nat.le_of_eq h.2.2) (by rw [hosz]; exact Nat.le_trans hol (by decide)) ?_
  refine rd4 S hm ⟨SSrc.list ⟨_, hOB.1, rfl, c, rfl⟩, ?_, S.fr, ?_⟩
  · rintro C i v h1 tk m₃ fam ys hin hv ⟨rfl, hys, hyl⟩ hC hmx hCs hk _
    obtain ⟨x, tx, rfl, hx⟩ := hout.at i v (by rw [Array.getElem?_toList]; exact hv)
    rw [List.getElem?_map] at hx
    obtain ⟨q, hq, rfl⟩ := Option.map_eq_some_iff.mp hx
    have hqn := hos q (List.mem_of_getElem? hq)
    obtain ⟨ty, hy⟩ := hi.get q ns[q] (by simp [hqn])
    refine Subscript_ (wpAny_Constant_str (wpAny_BinOp (Subscript_ (wpAny_Name (wpAny_loadName_cell rfl rfl rfl (let ⟨o, e, d⟩ := S.c1; ⟨o, hk _ _ e, d⟩) ?_) (by decide)))))
    refine name_loc (m := m₃) (v := .int q tx) hC hmx ?_ rfl rfl (by decide)
    refine item_list (x := .int ns[q] ty) (hl.at fun o e => hk _ _ (S.fr.keep _ o e)) (by omega) (by omega) (by simpa using hy) ?_ (by with_unfolding_all rfl) (by intro _; with_unfolding_all rfl)
    refine wpAny_Constant_int (mod6 fun t tk' => ?_)
    refine letter_item (idx6_lt _) (fun t' tk'' => ?_)
    refine ⟨h1, _, [], rfl, fun _ _ e => e, (fun _ h => nomatch h), rfl, ?_, by rw [List.length_append, hyl]; rfl⟩
    have e2 : (ns.map idx6).getD q 0 = idx6 ns[q] := by rw [List.getD_eq_getElem?_getD, List.getElem?_map, List.getElem?_eq_getElem hqn]; rfl
    rw [List.take_add_one, hq, List.map_append]
    refine hys.append' ?_
    show StrsAre _ [letter ((ns.map idx6).getD q 0)]
    rw [e2]; exact .cons _ _ .nil
  · rintro D h1 tk ys fam k ⟨rfl, hys, hyl⟩ F hk hD hDl _
    rw [List.take_of_length_le (by rw [hosz]; exact Nat.le_refl _)] at hys
    exact h D h1 tk k ys hys (S.loc (N := [(D, listOf ys.toArray k)]) F hk fun p hp => by rw [List.mem_singleton.mp hp]; exact ⟨hD, hDl⟩)

/-- sorts.count(k) -/
theorem rd_count {prog : Program} {SA : Addr} {ks : Nat} {us : List Value} {kz : List Int} {k0 : Int} {kk : Nat} {p1 p2 p3 p4 : Pos} {Q : Value → Shared → Prop} (S : S4 w h₀ L one dct l PA s.heap m B (some (.ref SA)) ps qs) (hSA : (SA, listOf us.toArray ks) ∈ B) (hus : IntsAre us kz)
    (h : ∀ t tk, Q (.int (kz.count k0 : Nat) t) { s with toks := tk })
    (he : ∃ pl, eval (.Call (.Attribute (.Name "sorts" p1) "count" p2) [.Constant (.int k0) kk p3] [] p4) (env04 L fa) = (do
      let ov ← eval (.Name "sorts" p1) (env04 L fa)
      standAt p2.atName
      let (f, first) ← holding [ov] (getMethod ov "count" pl)
      callWith p4 f first (backTo p4 (starEach [.Constant (.int k0) kk p3] (env04 L fa))) []) := by exact ⟨_, rfl⟩) :
    wpAny (model prog w) A (eval (.Call (.Attribute (.Name "sorts" p1) "count" p2) [.Constant (.int k0) kk p3] [] p4) (env04 L fa)) Q E s := by
  obtain ⟨pl, he⟩ := he
  have hB := S.led _ hSA
  refine MethodCall_ (pl := pl) (rd4_sorts S ?_) he
  refine getMethod_list_of PySem.F.slot_list_count PySem.F.type_list_count (items := us.toArray) ⟨_, hB.1, rfl, ks, rfl⟩ ⟨_, hB.1, rfl⟩ ?_
  refine callWith_method1 (Calls.spliced_cons (wpAny_Constant_int (k := kk) (pos := p3) (args_nil ?_)))
  exact count_list_ints (s := { s with toks := s.toks + 1 }) ⟨_, hB.1, rfl, ks, rfl⟩ hus (h _ _)

set_option maxRecDepth 100000 in
/-- first = names[:sorts.count(0)] -/
theorem s4_first {SA NA : Addr} {ks kn : Nat} {us ws : List Value} {kz : List Int} {Q : Flow → Shared → Prop} (S : S4 w h₀ L one dct l PA s.heap m B (some (.ref SA)) ps qs) (hSA : (SA, listOf us.toArray ks) ∈ B) (hus : IntsAre us kz)
    (hNA : (NA, listOf ws.toArray kn) ∈ B) (hm : m "names" = some (.ref NA)) (hc : kz.count 0 ≤ ws.length) (hwl : ws.length ≤ 1000)
    (h : ∀ D h' tk, S4 w h₀ L one dct l PA h' (fun z => if z = Str.ofString "first" then some (.ref D) else m z) ((D, listOf (ws.take (kz.count 0)).toArray 0) :: B) (some (.ref SA)) ps qs → Q .next { s with heap := h', toks := tk }) :
    wpAny (model PySem.Challenge.rw_dm0039_04.row.prog w) A (exec (stmt04 6) (env04 L fa)) Q E s := by
  have hB := S.led _ hNA
  refine wpAny_Assign_Name (wpAny_Subscript_Slice (T := "list") list_getitem_lookup (rd4 S hm (wpAny_Slice ?_)))
  refine wpAny_pure ?_
  rw [evalPart_some]
  refine rd_count S hSA hus fun t tk => ?_
  refine wpAny_pure ?_
  have S1 := S.sub (N := []) (h' := s.heap.push { cls := .type "slice", data := .fields #[.none, .int (kz.count 0 : Nat) t, .none] }) (fun b o e => Heap.get?_push_of_some _ e) fun _ h => nomatch h
  have hB1 := S1.led _ (show (NA, listOf ws.toArray kn) ∈ [] ++ B by simpa using hNA)
  refine ⟨⟨_, hB1.1, rfl⟩, ?_⟩
  refine wpAny_getItem_list_slice (items := ws.toArray) ⟨_, hB1.1, rfl, kn, rfl⟩ (Heap.IsSliceOf.new ..) .none (.int _ _) .none (by simp) ?_ (by rw [List.size_toArray]; exact Nat.le_trans hwl (by decide))
  rw [slicePick_upto _ _ (by rw [List.size_toArray]; exact hc)]
  have S2 := S1.sub (N := [(_, listOf (ws.take (kz.count 0)).toArray 0)]) (h' := Heap.push _ { cls := .type "list", data := .seq (ws.take (kz.count 0)).toArray }) (fun b o e => Heap.get?_push_of_some _ e) fun p hp => by
    rw [List.mem_singleton.mp hp]; exact ⟨Nat.le_refl _, Heap.get?_push_size _ rfl⟩
  exact st4 (y := Str.ofString "first") S2 fun h' S3 => h _ h' _ (S3.mono fun q hq => by simpa using hq)

set_option maxRecDepth 100000 in
/-- second = names[sorts.count(0):sorts.count(0) + sorts.count(1)] -/
theorem s4_second {SA NA : Addr} {ks kn : Nat} {us ws : List Value} {kz : List Int} {Q : Flow → Shared → Prop} (S : S4 w h₀ L one dct l PA s.heap m B (some (.ref SA)) ps qs) (hSA : (SA, listOf us.toArray ks) ∈ B) (hus : IntsAre us kz)
    (hNA : (NA, listOf ws.toArray kn) ∈ B) (hm : m "names" = some (.ref NA)) (hc : kz.count 0 + kz.count 1 ≤ ws.length) (hwl : ws.length ≤ 1000)
    (h : ∀ D h' tk, S4 w h₀ L one dct l PA h' (fun z => if z = Str.ofString "second" then some (.ref D) else m z) ((D, listOf ((ws.drop (kz.count 0)).take (kz.count 1)).toArray 0) :: B) (some (.ref SA)) ps qs → Q .next { s with heap := h', toks := tk }) :
    wpAny (model PySem.Challenge.rw_dm0039_04.row.prog w) A (exec (stmt04 7) (env04 L fa)) Q E s := by
  have hB := S.led _ hNA
  refine wpAny_Assign_Name (wpAny_Subscript_Slice (T := "list") list_getitem_lookup (rd4 S hm (wpAny_Slice ?_)))
  rw [evalPart_some]
  refine rd_count S hSA hus fun t tk => ?_
  rw [evalPart_some]
  refine wpAny_BinOp (rd_count (s := { s with toks := tk }) S hSA hus fun t1 tk1 => ?_)
  refine rd_count (s := { s with toks := tk1 }) S hSA hus fun t2 tk2 => ?_
  refine add_int ?_
  refine wpAny_pure ?_
  generalize hsl : ({ cls := .type "slice", data := .fields _ } : Obj) = so
  have S1 := S.sub (N := []) (h' := s.heap.push so) (fun b o e => Heap.get?_push_of_some _ e) fun _ h => nomatch h
  have hB1 := S1.led _ (show (NA, listOf ws.toArray kn) ∈ [] ++ B by simpa using hNA)
  refine ⟨⟨_, hB1.1, rfl⟩, ?_⟩
  subst hsl
  refine wpAny_getItem_list_slice (items := ws.toArray) ⟨_, hB1.1, rfl, kn, rfl⟩ (Heap.IsSliceOf.new ..) (.int _ _) (.int _ _) .none (by simp) ?_ (by rw [List.size_toArray]; exact Nat.le_trans hwl (by decide))
  have e1 : ((kz.count 0 : Nat) : Int) + ((kz.count 1 : Nat) : Int) = ((kz.count 0 + kz.count 1 : Nat) : Int) := by omega
  have e2 : slicePick ws.toArray (some ((kz.count 0 : Nat) : Int)) (some (((kz.count 0 : Nat) : Int) + ((kz.count 1 : Nat) : Int))) none = ((ws.drop (kz.count 0)).take (kz.count 1)).toArray := by
    rw [e1, slicePick_run _ _ _ (by rw [List.size_toArray]; exact hc) (by omega), Nat.add_sub_cancel_left]
  rw [e2]
  have S2 := S1.sub (N := [(_, listOf ((ws.drop (kz.count 0)).take (kz.count 1)).toArray 0)]) (h' := Heap.push _ { cls := .type "list", data := .seq ((ws.drop (kz.count 0)).take (kz.count 1)).toArray }) (fun b o e => Heap.get?_push_of_some _ e) fun p hp => by
    rw [List.mem_singleton.mp hp]; exact ⟨Nat.le_refl _, Heap.get?_push_size _ rfl⟩
  exact st4 (y := Str.ofString "second") S2 fun h' S3 => h _ h' _ (S3.mono fun q hq => by simpa using hq)
end

end
section

def letterData (l : List Nat) : PyData := .list (l.map fun i => .str (letter i))
def twoData (a0 a1 : List Nat) : PyData := .list [letterData a0, letterData a1]
theorem letters_ok : ∀ {l : List Nat}, (∀ i ∈ l, i < 6) → PyData.canLayAll0 (l.map fun i => .str (letter i)) = true ∧ PyData.depthAll (l.map fun i => .str (letter i)) = 0
  | [], _ => ⟨rfl, rfl⟩
  | i :: l, h => by
    obtain ⟨a, b⟩ := letters_ok (l := l) fun j hj => h j (.tail _ hj)
    have hi := h i (.head _)
    have hs : PyData.strOk (letter i) = true := by
      unfold letter PyData.strOk
      simp
      omega
    constructor
    · rw [List.map_cons, PyData.canLayAll0, PyData.canLay0, a, hs]; rfl
    · rw [List.map_cons, PyData.depthAll, PyData.depth, b]; rfl
theorem two_ok {a0 a1 : List Nat} (h0 : ∀ i ∈ a0, i < 6) (h1 : ∀ i ∈ a1, i < 6) : SeqAt.shaped (twoData a0 a1) = true := by
  obtain ⟨p, q⟩ := letters_ok h0
  obtain ⟨p', q'⟩ := letters_ok h1
  unfold twoData letterData SeqAt.shaped
  simp [PyData.canLay0, PyData.canLayAll0, PyData.depth, PyData.depthAll, p, q, p', q']
theorem two_reads {h : Heap} {D d1 d2 : Addr} {k k1 k2 : Nat} {vs1 vs2 : List Value} {a0 a1 : List Nat} (e : h.get? D = some (listOf #[.ref d1, .ref d2] k)) (e1 : h.get? d1 = some (listOf vs1.toArray k1)) (e2 : h.get? d2 = some (listOf vs2.toArray k2))
    (s1 : StrsAre vs1 (a0.map letter)) (s2 : StrsAre vs2 (a1.map letter)) : ∃ as, Reads h (.ref D) (twoData a0 a1) as := by
  have r1 : Reads h (.ref d1) (letterData a0) _ := .list e1 rfl rfl (by have := strs_readAll h s1; rw [List.map_map] at this; exact this)
  have r2 : Reads h (.ref d2) (letterData a1) _ := .list e2 rfl rfl (by have := strs_readAll h s2; rw [List.map_map] at this; exact this)
  exact ⟨_, .list e rfl rfl (.cons r1 (.cons r2 .nil))⟩
theorem cmp_two {prog : Program} {w : World} {A : Around} {E : Value → Shared → Prop} {s : Shared} {a b : Value} {a0 a1 : List Nat} {Q : Value → Shared → Prop} (ra : ∃ as, Reads s.heap a (twoData a0 a1) as) (rb : ∃ bs, Reads s.heap b (twoData a0 a1) bs) (h0 : ∀ i ∈ a0, i < 6) (h1 : ∀ i ∈ a1, i < 6) (hu : A.units + 64 < cLine) :
    (Q (.bool true) s → wpAny (model prog w) A (compareOp .Eq a b) Q E s) ∧ (Q (.bool false) s → wpAny (model prog w) A (compareOp .NotEq a b) Q E s) := by
  obtain ⟨as, ra⟩ := ra
  obtain ⟨bs, rb⟩ := rb
  have hs := two_ok h0 h1
  have he := SeqAt.eqv_refl _ (SeqAt.canLay_of_shaped hs)
  refine ⟨fun h => SeqAt.compareEq_shaped ra rb hs hs hu (by rw [he]; exact h), fun h => SeqAt.compareNe_shaped ra rb hs hs hu (by rw [he]; exact h)⟩

section
variable {w : World} {A : Around} {E : Value → Shared → Prop} {s : Shared} {h₀ : Heap} {L l PA fa : Addr} {one dct : Nat → Addr} {m mg mb : Str → Option Value} {B : List (Addr × Obj)} {cv : Option Value} {ps qs : Array Value} {p : Program} {loose : List Str} {mean : ExcName → Option Value}

theorem S4.n44 (S : S4 w h₀ L one dct l PA s.heap m B cv ps qs) : ∀ j, j < 6 → one j ≠ 44 ∧ dct j ≠ 44 := fun j hj => ⟨fun e => (S.pool_ok j hj).1 (.inr (.inl e)), fun e => (S.pool_ok j hj).2 (.inr (.inl e))⟩

/-- _law_names(..) -/
theorem names_S4 {la : Addr} {R : List Nat} {Q : Value → Shared → Prop} (X : (hd04.heap_39 w.params).In h₀) (T : Top p loose mean mg mb h₀) (C : CodeHd h₀ 48 44) (hA : A.handled = none) (hroom : A.depth + 2 < recursionLimit)
    (S : S4 w h₀ L one dct l PA s.heap m B cv ps qs) (hla : ¬ Bad L la) (hrow : IsRow s.heap la one R) (hlt : ∀ j ∈ R, j < 6) (hlen : R.length ≤ 1000)
    (h : ∀ (D d1 d2 : Addr) (h' : Heap) (tk : Nat) (g' : Array GenState) (ps' : Array Value) (vs1 vs2 : List Value) (k k1 k2 : Nat), S4 w h₀ L one dct l PA h' m ([(D, listOf #[.ref d1, .ref d2] k), (d1, listOf vs1.toArray k1), (d2, listOf vs2.toArray k2)] ++ B) cv ps' qs →
      StrsAre vs1 ((std6 R).map letter) → StrsAre vs2 ((kws6 R).map letter) → (AllBare s.gens → AllBare g') → Q (.ref D) { s with heap := h', toks := tk, gens := g' }) :
    wpAny (model PySem.Challenge.rw_dm0039_04.row.prog w) A (call (.ref 54) [.ref la]) Q E s := by
  refine names04 X T C hA hroom S.fr.keep S.t44 S.z44 S.ok44 (fun e => hla (.inr (.inl e))) hrow S.pool S.n44 hlt hlen fun D d1 d2 h' tk g' ps' vs1 vs2 k k1 k2 hx hP ht lD l1 l2 eD e1 e2 hs1 hs2 hb => ?_
  refine h D d1 d2 h' tk g' ps' vs1 vs2 k k1 k2 (S.tab44 hx hP ht fun q hq => ?_) hs1 hs2 hb
  simp only [List.mem_cons, List.not_mem_nil, or_false] at hq
  rcases hq with rfl | rfl | rfl
  · exact ⟨lD, eD⟩
  · exact ⟨l1, e1⟩
  · exact ⟨l2, e2⟩

set_option maxRecDepth 100000 in
/-- if _law_names(row) != [first, second]: return False -/
theorem s4_if1 {RA FA SB : Addr} {kr kf ks : Nat} {R : List Nat} {fs ss : List Value} {Q : Flow → Shared → Prop} (X : (hd04.heap_39 w.params).In h₀) (T : Top p loose mean mg mb h₀) (C : CodeHd h₀ 48 44) (hA : A.handled = none) (hroom : A.depth + 2 < recursionLimit) (hu : A.units + 64 < cLine)
    (en : nsIn (hd04.heap_39 w.params) mainGlobals "_law_names" = some (some (.ref 54))) (hk : keepIn (hd04.heap_39 w.params) (.ref 54) = true)
    (S : S4 w h₀ L one dct l PA s.heap m B cv ps qs) (hRA : (RA, listOf (refs one R).toArray kr) ∈ B) (hFA : (FA, listOf fs.toArray kf) ∈ B) (hSB : (SB, listOf ss.toArray ks) ∈ B) (mr : m "row" = some (.ref RA)) (mf : m "first" = some (.ref FA)) (ms : m "second" = some (.ref SB))
    (hfs : StrsAre fs ((std6 R).map letter)) (hss : StrsAre ss ((kws6 R).map letter)) (hlt : ∀ j ∈ R, j < 6) (hlen : R.length ≤ 500)
    (h : ∀ h' tk g' ps', S4 w h₀ L one dct l PA h' m B cv ps' qs → (AllBare s.gens → AllBare g') → Q .next { s with heap := h', toks := tk, gens := g' }) :
    wpAny (model PySem.Challenge.rw_dm0039_04.row.prog w) A (exec (stmt04 8) (env04 L fa)) Q E s := by
  refine wpAny_If (wpAny_isTrue_Compare1 (Call_ (name_glb X T S.fr.keep en ?_ rfl rfl rfl (by decide))))
  refine callWith_K X hk (Calls.spliced_cons (rd4 S mr (args_nil ⟨X.keeps S.fr.keep, ?_⟩)))
  have hRB := S.led _ hRA
  refine names_S4 X T C hA hroom S hRB.2 (.inl ⟨kr, hRB.1⟩) hlt (Nat.le_trans hlen (by decide)) fun D d1 d2 h1 tk1 g1 ps1 vs1 vs2 k k1 k2 S1 hs1 hs2 hb => ?_
  refine wpAny_List (Calls.spliced_cons (rd4 (s := { s with heap := h1, toks := tk1, gens := g1 }) S1 mf (Calls.spliced_cons (rd4 (s := { s with heap := h1, toks := tk1, gens := g1 }) S1 ms (args_nil ⟨show (2 : Nat) ≤ sizeLine by decide, ?_⟩)))))
  have S2 := S1.sub (N := [(h1.objs.size, listOf #[.ref FA, .ref SB] 0)]) (h' := h1.push { cls := .type "list", data := .seq #[.ref FA, .ref SB] }) (fun b o e => Heap.get?_push_of_some _ e) fun q hq => by
    rw [List.mem_singleton.mp hq]; exact ⟨Nat.le_refl _, Heap.get?_push_size _ rfl⟩
  have at2 : ∀ q, q ∈ B → (h1.push { cls := .type "list", data := .seq #[.ref FA, .ref SB] }).get? q.1 = some q.2 := fun q hq => (S2.led q (List.mem_append_right _ (List.mem_append_right _ hq))).1
  refine (cmp_two (s := { s with heap := h1.push { cls := .type "list", data := .seq #[.ref FA, .ref SB] }, toks := tk1, gens := g1 }) (a0 := std6 R) (a1 := kws6 R) (two_reads (S2.led (D, listOf #[.ref d1, .ref d2] k) (by simp)).1 (S2.led (d1, listOf vs1.toArray k1) (by simp)).1 (S2.led (d2, listOf vs2.toArray k2) (by simp)).1 hs1 hs2)
    (two_reads (S2.led _ (.head _)).1 (at2 _ hFA) (at2 _ hSB) hfs hss) (fun j hj => hlt j (std6_mem hj)) (fun j hj => hlt j (kws6_mem hj)) hu).2 ?_
  refine wpAny_truthy_bool ?_
  rw [if_neg Bool.false_ne_true]
  exact wpAny_execs_nil (h _ _ _ _ (S2.mono fun q hq => List.mem_append_right _ (List.mem_append_right _ hq)) hb)

abbrev revOf (p1 p2 p3 p4 p5 p6 p7 : Pos) (kk : Nat) (y : Str) : PySem.Expr :=
  .BinOp (.Name y p1) .Add (.Subscript (.Name y p2) (.Slice none none (some (.UnaryOp .USub (.Constant (.int 1) kk p3) p4)) p5) p6) p7

/-- y + y[::-1] -/
theorem rd_rev {prog : Program} {p1 p2 p3 p4 p5 p6 p7 : Pos} {kk : Nat} {y : Str} {YA : Addr} {ky : Nat} {its : List Value} {Q : Value → Shared → Prop} (S : S4 w h₀ L one dct l PA s.heap m B cv ps qs) (hYA : (YA, listOf its.toArray ky) ∈ B) (my : m y = some (.ref YA)) (hlen : its.length ≤ 500)
    (h : ∀ D h' tk, S4 w h₀ L one dct l PA h' m ((D, listOf (its ++ its.reverse).toArray 0) :: B) cv ps qs → s.heap.objs.size ≤ D → Q (.ref D) { s with heap := h', toks := tk })
    (hy : y ∈ (["row", "order", "names", "first", "second", "std", "rest"] : List Str) := by decide) (hd : (y == ("__debug__" : Str)) = false := by decide) :
    wpAny (model prog w) A (eval (revOf p1 p2 p3 p4 p5 p6 p7 kk y) (env04 L fa)) Q E s := by
  refine wpAny_BinOp (rd4 S my ?_ hy hd)
  refine wpAny_Subscript_Slice_step (T := "list") list_getitem_lookup (rd4 S my (wpAny_Slice ?_) hy hd)
  refine wpAny_pure (wpAny_pure ?_)
  rw [evalPart_some]
  refine UnaryOp_ (wpAny_Constant_int (PyProof.Rows.neg_int ?_))
  generalize hsl : ({ cls := .type "slice", data := .fields _ } : Obj) = so
  have S1 := S.sub (N := []) (h' := s.heap.push so) (fun b o e => Heap.get?_push_of_some _ e) fun _ h => nomatch h
  have hB1 := S1.led _ (show (YA, listOf its.toArray ky) ∈ [] ++ B by simpa using hYA)
  refine ⟨⟨_, hB1.1, rfl⟩, ?_⟩
  subst hsl
  refine wpAny_getItem_list_slice (items := its.toArray) ⟨_, hB1.1, rfl, ky, rfl⟩ (Heap.IsSliceOf.new ..) .none .none (.int _ _) (by decide) ?_ (by rw [List.size_toArray]; exact Nat.le_trans hlen (by decide))
  rw [krv_pick]
  generalize hg : s.heap.push _ = g1 at S1 hB1 ⊢
  have S2 := S1.sub (N := [(g1.objs.size, listOf its.reverse.toArray 0)]) (h' := g1.push { cls := .type "list", data := .seq its.reverse.toArray }) (fun b o e => Heap.get?_push_of_some _ e) fun q hq => by
    rw [List.mem_singleton.mp hq]; exact ⟨Nat.le_refl _, Heap.get?_push_size _ rfl⟩
  have hz : its.toArray.size + its.reverse.toArray.size ≤ sizeLine := by
    rw [List.size_toArray, List.size_toArray, List.length_reverse]
    exact Nat.le_trans (by omega : its.length + its.length ≤ 1000) (by decide)
  refine PySem.P.add_list (n := ky) (n2 := 0) (items := its.toArray) (items2 := its.reverse.toArray) (S2.led (YA, listOf its.toArray ky) (by simp [hYA])).1 (S2.led (g1.objs.size, listOf its.reverse.toArray 0) (by simp)).1 ?_ hz
  have e1 : its.toArray ++ its.reverse.toArray = (its ++ its.reverse).toArray := by simp
  rw [e1]
  have S3 := S2.sub (N := [((g1.push { cls := .type "list", data := .seq its.reverse.toArray }).objs.size, listOf (its ++ its.reverse).toArray 0)]) (h' := (g1.push { cls := .type "list", data := .seq its.reverse.toArray }).push { cls := .type "list", data := .seq (its ++ its.reverse).toArray }) (fun b o e => Heap.get?_push_of_some _ e) fun q hq => by
    rw [List.mem_singleton.mp hq]; exact ⟨Nat.le_refl _, Heap.get?_push_size _ rfl⟩
  refine h _ _ _ (S3.mono fun q hq => ?_) ?_
  · rcases List.mem_cons.mp hq with rfl | hq
    · exact .head _
    · simp [hq]
  · rw [Heap.size_push, ← hg, Heap.size_push]; exact Nat.le_succ_of_le (Nat.le_succ _)
end

end
section

theorem strs_rev : ∀ {vs : List Value} {xs : List Str}, StrsAre vs xs → StrsAre vs.reverse xs.reverse
  | _, _, .nil => .nil
  | _, _, .cons y t h => by rw [List.reverse_cons, List.reverse_cons]; exact (strs_rev h).append' (.cons y t .nil)
theorem strs_double {vs : List Value} {a : List Nat} (h : StrsAre vs (a.map letter)) : StrsAre (vs ++ vs.reverse) ((a ++ a.reverse).map letter) := by
  rw [List.map_append, List.map_reverse]; exact h.append' (strs_rev h)
theorem strs_length : ∀ {vs : List Value} {xs : List Str}, StrsAre vs xs → vs.length = xs.length
  | _, _, .nil => rfl
  | _, _, .cons _ _ h => by simp only [List.length_cons, strs_length h]

section
variable {w : World} {A : Around} {E : Value → Shared → Prop} {s : Shared} {h₀ : Heap} {L l PA fa : Addr} {one dct : Nat → Addr} {m mg mb : Str → Option Value} {B : List (Addr × Obj)} {cv : Option Value} {ps qs : Array Value} {p : Program} {loose : List Str} {mean : ExcName → Option Value}

set_option maxRecDepth 100000 in
/-- if _law_names(row + row[::-1]) != [first + first[::-1], second + second[::-1]]: return False -/
theorem s4_if2 {RA FA SB : Addr} {kr kf ks : Nat} {R : List Nat} {fs ss : List Value} {Q : Flow → Shared → Prop} (X : (hd04.heap_39 w.params).In h₀) (T : Top p loose mean mg mb h₀) (C : CodeHd h₀ 48 44) (hA : A.handled = none) (hroom : A.depth + 2 < recursionLimit) (hu : A.units + 64 < cLine)
    (en : nsIn (hd04.heap_39 w.params) mainGlobals "_law_names" = some (some (.ref 54))) (hk : keepIn (hd04.heap_39 w.params) (.ref 54) = true)
    (S : S4 w h₀ L one dct l PA s.heap m B cv ps qs) (hRA : (RA, listOf (refs one R).toArray kr) ∈ B) (hFA : (FA, listOf fs.toArray kf) ∈ B) (hSB : (SB, listOf ss.toArray ks) ∈ B) (mr : m "row" = some (.ref RA)) (mf : m "first" = some (.ref FA)) (ms : m "second" = some (.ref SB))
    (hfs : StrsAre fs ((std6 R).map letter)) (hss : StrsAre ss ((kws6 R).map letter)) (hlt : ∀ j ∈ R, j < 6) (hlen : R.length ≤ 500)
    (h : ∀ h' tk g' ps', S4 w h₀ L one dct l PA h' m B cv ps' qs → (AllBare s.gens → AllBare g') → Q .next { s with heap := h', toks := tk, gens := g' }) :
    wpAny (model PySem.Challenge.rw_dm0039_04.row.prog w) A (exec (stmt04 9) (env04 L fa)) Q E s := by
  have hfl : fs.length ≤ 500 := by rw [strs_length hfs, List.length_map]; exact Nat.le_trans (std6_len R) hlen
  have hsl : ss.length ≤ 500 := by rw [strs_length hss, List.length_map]; exact Nat.le_trans (kws6_len R) hlen
  have hlt2 : ∀ j ∈ R ++ R.reverse, j < 6 := fun j hj => by
    rcases List.mem_append.mp hj with q | q
    · exact hlt j q
    · exact hlt j (List.mem_reverse.mp q)
  refine wpAny_If (wpAny_isTrue_Compare1 (Call_ (name_glb X T S.fr.keep en ?_ rfl rfl rfl (by decide))))
  refine callWith_K X hk (Calls.spliced_cons ?_)
  refine rd_rev (its := refs one R) S hRA mr (by rw [List.length_map]; exact hlen) fun D0 h1 tk1 S1 lD0 => ?_
  refine args_nil ⟨X.keeps S1.fr.keep, ?_⟩
  have e1 : refs one R ++ (refs one R).reverse = refs one (R ++ R.reverse) := by simp [refs]
  rw [e1] at S1
  have hRB := S1.led _ (.head _)
  refine names_S4 (s := { s with heap := h1, toks := tk1 }) X T C hA hroom S1 hRB.2 (.inl ⟨0, hRB.1⟩) hlt2 (by rw [List.length_append, List.length_reverse]; omega) fun D d1 d2 h2 tk2 g2 ps2 vs1 vs2 k k1 k2 S2 hs1 hs2 hb => ?_
  rw [std6_rev] at hs1
  rw [kws6_rev] at hs2
  have sub2 : ∀ q, q ∈ B → q ∈ [(D, listOf #[Value.ref d1, .ref d2] k), (d1, listOf vs1.toArray k1), (d2, listOf vs2.toArray k2)] ++ ((D0, listOf (refs one (R ++ R.reverse)).toArray 0) :: B) := fun q hq => by simp [hq]
  refine wpAny_List (Calls.spliced_cons ?_)
  refine rd_rev (s := { s with heap := h2, toks := tk2, gens := g2 }) (its := fs) S2 (sub2 _ hFA) mf hfl fun F2 h3 tk3 S3 lF2 => ?_
  refine Calls.spliced_cons ?_
  refine rd_rev (s := { s with heap := h3, toks := tk3, gens := g2 }) (its := ss) S3 (.tail _ (sub2 _ hSB)) ms hsl fun G2 h4 tk4 S4' lG2 => ?_
  refine args_nil ⟨show (2 : Nat) ≤ sizeLine by decide, ?_⟩
  have S5 := S4'.sub (N := [(h4.objs.size, listOf #[.ref F2, .ref G2] 0)]) (h' := h4.push { cls := .type "list", data := .seq #[.ref F2, .ref G2] }) (fun b o e => Heap.get?_push_of_some _ e) fun q hq => by
    rw [List.mem_singleton.mp hq]; exact ⟨Nat.le_refl _, Heap.get?_push_size _ rfl⟩
  refine (cmp_two (s := { s with heap := h4.push { cls := .type "list", data := .seq #[.ref F2, .ref G2] }, toks := tk4, gens := g2 }) (a0 := std6 R ++ (std6 R).reverse) (a1 := kws6 R ++ (kws6 R).reverse)
    (two_reads (S5.led (D, listOf #[.ref d1, .ref d2] k) (by simp)).1 (S5.led (d1, listOf vs1.toArray k1) (by simp)).1 (S5.led (d2, listOf vs2.toArray k2) (by simp)).1 hs1 hs2)
    (two_reads (S5.led _ (.head _)).1 (S5.led (F2, listOf (fs ++ fs.reverse).toArray 0) (by simp)).1 (S5.led (G2, listOf (ss ++ ss.reverse).toArray 0) (by simp)).1 (strs_double hfs) (strs_double hss))
    (fun j hj => hlt j (by rcases List.mem_append.mp hj with q | q; exact std6_mem q; exact std6_mem (List.mem_reverse.mp q))) (fun j hj => hlt j (by rcases List.mem_append.mp hj with q | q; exact kws6_mem q; exact kws6_mem (List.mem_reverse.mp q))) hu).2 ?_
  refine wpAny_truthy_bool ?_
  rw [if_neg Bool.false_ne_true]
  exact wpAny_execs_nil (h _ _ _ _ (S5.mono fun q hq => by simp [hq]) hb)

set_option maxRecDepth 100000 in
/-- std, rest = _fields_in_init_order(row) -/
theorem s4_unpack {RA : Addr} {kr : Nat} {R : List Nat} {Q : Flow → Shared → Prop} (X : (hd04.heap_39 w.params).In h₀) (T : Top p loose mean mg mb h₀) (C : CodeHd h₀ 48 44) (hA : A.handled = none) (hroom : A.depth + 2 < recursionLimit)
    (ef : nsIn (hd04.heap_39 w.params) mainGlobals "_fields_in_init_order" = some (some (.ref 49))) (hk : keepIn (hd04.heap_39 w.params) (.ref 49) = true)
    (S : S4 w h₀ L one dct l PA s.heap m B cv ps qs) (hRA : (RA, listOf (refs one R).toArray kr) ∈ B) (mr : m "row" = some (.ref RA)) (hlt : ∀ j ∈ R, j < 6) (hlen : R.length ≤ 500)
    (h : ∀ t1 t2 h' tk g' ps', S4 w h₀ L one dct l PA h' (fun z => if z = Str.ofString "rest" then some (.ref t2) else if z = Str.ofString "std" then some (.ref t1) else m z) ([(t1, tupOf (refs one (std6 R)).toArray), (t2, tupOf (refs one (kws6 R)).toArray)] ++ B) cv ps' qs → (AllBare s.gens → AllBare g') → Q .next { s with heap := h', toks := tk, gens := g' }) :
    wpAny (model PySem.Challenge.rw_dm0039_04.row.prog w) A (exec (stmt04 10) (env04 L fa)) Q E s := by
  have hRB := S.led _ hRA
  refine Assign_Tuple (Call_ (name_glb X T S.fr.keep ef ?_ rfl rfl rfl (by decide)))
  refine callWith_K X hk (Calls.spliced_cons (rd4 S mr (args_nil ⟨X.keeps S.fr.keep, ?_⟩)))
  refine fio04 X T C hA (Nat.lt_of_succ_lt hroom) S.fr.keep S.t44 S.z44 S.ok44 (fun e => hRB.2 (.inr (.inl e))) (.inl ⟨kr, hRB.1⟩) S.pool S.n44 hlt (Nat.le_trans hlen (by decide)) fun t1 t2 t h1 tk1 g1 ps1 hx hP ht a1 a2 a3 l1 l2 l3 hsz hb => ?_
  have S1 := S.tab44 (N := [(t1, tupOf (refs one (std6 R)).toArray), (t2, tupOf (refs one (kws6 R)).toArray)]) hx hP ht fun q hq => by
    simp only [List.mem_cons, List.not_mem_nil, or_false] at hq
    rcases hq with rfl | rfl
    · exact ⟨l1, a1⟩
    · exact ⟨Nat.le_trans l1 (Nat.le_of_lt l2), a2⟩
  refine assign_Tuple_tuple (s := { s with heap := h1, toks := tk1, gens := g1 }) (items := #[.ref t1, .ref t2]) hA ⟨_, a3, rfl, 0, rfl⟩ rfl rfl fun h2 hx2 => ?_
  have k2 : Sub h1 h2 := fun b o e => hx2 b o (Nat.ne_of_lt (Heap.lt_size e)) e
  have S2 := (S1.sub (N := []) k2 fun _ h => nomatch h).mono (B' := [(t1, tupOf (refs one (std6 R)).toArray), (t2, tupOf (refs one (kws6 R)).toArray)] ++ B) fun q hq => by simpa using hq
  refine PyProof.Rows.assignInOrder_cons ?_
  refine wpAny_assign_Name (st4 (s := { s with heap := h2, toks := tk1, gens := g1 }) (y := Str.ofString "std") (v := .ref t1) S2 fun h3 S3 => ?_)
  refine PyProof.Rows.assignInOrder_cons ?_
  refine wpAny_assign_Name (st4 (s := { s with heap := h3, toks := tk1 + 1, gens := g1 }) (y := Str.ofString "rest") (v := .ref t2) S3 fun h4 S4' => ?_)
  exact PyProof.Rows.assignInOrder_nil (h t1 t2 h4 _ g1 ps1 S4' hb)

set_option maxRecDepth 100000 in
/-- return _law_names(std) == [first, []] and _law_names(rest) == [[], second] -/
theorem s4_ret {t1 t2 FA SB : Addr} {kf ks : Nat} {R : List Nat} {fs ss : List Value} {Q : Flow → Shared → Prop} (X : (hd04.heap_39 w.params).In h₀) (T : Top p loose mean mg mb h₀) (C : CodeHd h₀ 48 44) (hA : A.handled = none) (hroom : A.depth + 2 < recursionLimit) (hu : A.units + 64 < cLine)
    (en : nsIn (hd04.heap_39 w.params) mainGlobals "_law_names" = some (some (.ref 54))) (hk : keepIn (hd04.heap_39 w.params) (.ref 54) = true)
    (S : S4 w h₀ L one dct l PA s.heap m B cv ps qs) (h1B : (t1, tupOf (refs one (std6 R)).toArray) ∈ B) (h2B : (t2, tupOf (refs one (kws6 R)).toArray) ∈ B) (hFA : (FA, listOf fs.toArray kf) ∈ B) (hSB : (SB, listOf ss.toArray ks) ∈ B) (m1 : m "std" = some (.ref t1)) (m2 : m "rest" = some (.ref t2)) (mf : m "first" = some (.ref FA)) (ms : m "second" = some (.ref SB))
    (hfs : StrsAre fs ((std6 R).map letter)) (hss : StrsAre ss ((kws6 R).map letter)) (hlt : ∀ j ∈ R, j < 6) (hlen : R.length ≤ 500)
    (h : ∀ h' tk g' ps', S4 w h₀ L one dct l PA h' m B cv ps' qs → (AllBare s.gens → AllBare g') → Q (.ret (.bool true)) { s with heap := h', toks := tk, gens := g' }) :
    wpAny (model PySem.Challenge.rw_dm0039_04.row.prog w) A (exec (stmt04 11) (env04 L fa)) Q E s := by
  have lt1 : ∀ j ∈ std6 R, j < 6 := fun j hj => hlt j (std6_mem hj)
  have lt2 : ∀ j ∈ kws6 R, j < 6 := fun j hj => hlt j (kws6_mem hj)
  have lt0 : ∀ j ∈ ([] : List Nat), j < 6 := fun j hj => nomatch hj
  refine wpAny_Return_some (BoolOp_and (wpAny_Compare1 (Call_ (name_glb X T S.fr.keep en ?_ rfl rfl rfl (by decide)))))
  refine callWith_K X hk (Calls.spliced_cons (rd4 S m1 (args_nil ⟨X.keeps S.fr.keep, ?_⟩)))
  have b1 := S.led _ h1B
  refine names_S4 X T C hA hroom S b1.2 (.inr b1.1) lt1 (Nat.le_trans (std6_len R) (Nat.le_trans hlen (by decide))) fun D d1 d2 h1 tk1 g1 ps1 vs1 vs2 k k1 k2 S1 hs1 hs2 hb => ?_
  rw [(std6_std R).1] at hs1
  rw [(std6_std R).2] at hs2
  refine wpAny_List (Calls.spliced_cons (rd4 (s := { s with heap := h1, toks := tk1, gens := g1 }) S1 mf (Calls.spliced_cons (wpAny_List (args_nil ⟨show (0 : Nat) ≤ sizeLine by decide, args_nil ⟨show (2 : Nat) ≤ sizeLine by decide, ?_⟩⟩)))))
  have S2 := S1.sub (N := [(h1.objs.size, listOf #[] 0)]) (h' := h1.push { cls := .type "list", data := .seq #[] }) (fun b o e => Heap.get?_push_of_some _ e) fun q hq => by
    rw [List.mem_singleton.mp hq]; exact ⟨Nat.le_refl _, Heap.get?_push_size _ rfl⟩
  generalize hE : h1.objs.size = e0 at S2
  generalize hG : h1.push { cls := .type "list", data := .seq #[] } = h2 at S2
  have S3 := S2.sub (N := [(h2.objs.size, listOf #[.ref FA, .ref e0] 0)]) (h' := h2.push { cls := .type "list", data := .seq #[.ref FA, .ref e0] }) (fun b o e => Heap.get?_push_of_some _ e) fun q hq => by
    rw [List.mem_singleton.mp hq]; exact ⟨Nat.le_refl _, Heap.get?_push_size _ rfl⟩
  have hF3 := (S3.led (FA, listOf fs.toArray kf) (by simp [hFA])).1
  subst hE hG
  refine (cmp_two (a0 := std6 R) (a1 := []) (two_reads (S3.led (D, listOf #[.ref d1, .ref d2] k) (by simp)).1 (S3.led (d1, listOf vs1.toArray k1) (by simp)).1 (S3.led (d2, listOf vs2.toArray k2) (by simp)).1 hs1 hs2)
    (two_reads (vs2 := []) (S3.led _ (.head _)).1 hF3 (S3.led (_, listOf #[] 0) (.tail _ (.head _))).1 hfs .nil) lt1 lt0 hu).1 ?_
  refine wpAny_truthy_bool ?_
  rw [if_pos rfl]
  have S3m := S3.mono (B' := B) fun q hq => by simp [hq]
  clear S3 S2 S1 hF3
  generalize (h1.push { cls := .type "list", data := .seq #[] }).push { cls := .type "list", data := .seq #[.ref FA, .ref h1.objs.size] } = h3 at S3m
  refine BoolOp_one (wpAny_Compare1 (Call_ (name_glb X T S3m.fr.keep en ?_ rfl rfl rfl (by decide))))
  refine callWith_K X hk (Calls.spliced_cons (rd4 (s := { s with heap := h3, toks := tk1, gens := g1 }) S3m m2 (args_nil ⟨X.keeps S3m.fr.keep, ?_⟩)))
  have b2 := S3m.led _ h2B
  refine names_S4 (s := { s with heap := h3, toks := tk1, gens := g1 }) X T C hA hroom S3m b2.2 (.inr b2.1) lt2 (Nat.le_trans (kws6_len R) (Nat.le_trans hlen (by decide))) fun D' d1' d2' h4 tk4 g4 ps4 vs1' vs2' k' k1' k2' S4' hs1' hs2' hb' => ?_
  rw [(kws6_kws R).1] at hs1'
  rw [(kws6_kws R).2] at hs2'
  refine wpAny_List (Calls.spliced_cons (wpAny_List (args_nil ⟨show (0 : Nat) ≤ sizeLine by decide, ?_⟩)))
  have S5 := S4'.sub (N := [(h4.objs.size, listOf #[] 0)]) (h' := h4.push { cls := .type "list", data := .seq #[] }) (fun b o e => Heap.get?_push_of_some _ e) fun q hq => by
    rw [List.mem_singleton.mp hq]; exact ⟨Nat.le_refl _, Heap.get?_push_size _ rfl⟩
  refine Calls.spliced_cons (rd4 (s := { s with heap := h4.push { cls := .type "list", data := .seq #[] }, toks := tk4, gens := g4 }) S5 ms (args_nil ⟨show (2 : Nat) ≤ sizeLine by decide, ?_⟩))
  have S6 := S5.sub (N := [((h4.push { cls := .type "list", data := .seq #[] }).objs.size, listOf #[.ref h4.objs.size, .ref SB] 0)]) (h' := (h4.push { cls := .type "list", data := .seq #[] }).push { cls := .type "list", data := .seq #[.ref h4.objs.size, .ref SB] }) (fun b o e => Heap.get?_push_of_some _ e) fun q hq => by
    rw [List.mem_singleton.mp hq]; exact ⟨Nat.le_refl _, Heap.get?_push_size _ rfl⟩
  refine (cmp_two (a0 := []) (a1 := kws6 R) (two_reads (S6.led (D', listOf #[.ref d1', .ref d2'] k') (by simp)).1 (S6.led (d1', listOf vs1'.toArray k1') (by simp)).1 (S6.led (d2', listOf vs2'.toArray k2') (by simp)).1 hs1' hs2')
    (two_reads (vs1 := []) (S6.led _ (.head _)).1 (S6.led (_, listOf #[] 0) (.tail _ (.head _))).1 (S6.led (SB, listOf ss.toArray ks) (by simp [hSB])).1 .nil hss) lt0 lt2 hu).1 ?_
  exact h _ _ _ _ (S6.mono fun q hq => by simp [hq]) (fun hq => hb' (hb hq))
end

end
section

theorem strs_take : ∀ {vs : List Value} {ys : List Str}, StrsAre vs ys → ∀ j : Nat, StrsAre (vs.take j) (ys.take j)
  | _, _, .nil, _ => by simp; exact .nil
  | _, _, .cons _ _ h, 0 => by simp; exact .nil
  | _, _, .cons y t h, j + 1 => .cons y t (strs_take h j)
theorem strs_drop : ∀ {vs : List Value} {ys : List Str}, StrsAre vs ys → ∀ j : Nat, StrsAre (vs.drop j) (ys.drop j)
  | _, _, .nil, _ => by simp; exact .nil
  | _, _, .cons _ _ h, 0 => .cons _ _ h
  | _, _, .cons y t h, j + 1 => strs_drop h j

def tail04 : List Stmt := body04.drop 2

section
variable {w : World} {A : Around} {E : Value → Shared → Prop} {s : Shared} {h₀ : Heap} {L l PA fa : Addr} {one dct : Nat → Addr} {m mg mb : Str → Option Value} {B : List (Addr × Obj)} {cv : Option Value} {ps : Array Value} {p : Program} {loose : List Str} {mean : ExcName → Option Value} {vs : List Value} {ns : List Int}

set_option maxRecDepth 100000 in
theorem tail04_ok {Q : Flow → Shared → Prop} (X : (hd04.heap_39 w.params).In h₀) (T : Top p loose mean mg mb h₀) (C : CodeHd h₀ 48 44) (C' : CodeHd h₀ 58 56) (hA : A.handled = none) (hroom : A.depth + 2 < recursionLimit) (hu : A.units + 64 < cLine)
    (en : nsIn (hd04.heap_39 w.params) mainGlobals "_law_names" = some (some (.ref 54))) (hk54 : keepIn (hd04.heap_39 w.params) (.ref 54) = true) (ef : nsIn (hd04.heap_39 w.params) mainGlobals "_fields_in_init_order" = some (some (.ref 49))) (hk49 : keepIn (hd04.heap_39 w.params) (.ref 49) = true)
    (es : nsIn (hd04.heap_39 w.params) mainGlobals "sorted" = some none) (er : nsIn (hd04.heap_39 w.params) mainGlobals "range" = some none) (el : nsIn (hd04.heap_39 w.params) mainGlobals "len" = some none)
    (S : S4 w h₀ L one dct l PA s.heap m B cv ps #[]) (hl : h₀.IsList l vs.toArray) (hi : IntsAre vs ns) (hlen : ns.length ≤ 63) (hgb : AllBare s.gens)
    (h : ∀ h' tk g', Sub h₀ h' → AllBare g' → (∃ ps, h'.get? 44 = some (tabObj ps)) → (∃ qs, h'.get? 56 = some (tabObj qs)) → Q (.ret (.bool true)) { s with heap := h', toks := tk, gens := g' }) :
    wpAny (model PySem.Challenge.rw_dm0039_04.row.prog w) A (execs tail04 (env04 L fa)) Q E s := by
  have hR6 : ∀ j ∈ ns.map idx6, j < 6 := fun j hj => by obtain ⟨x, _, rfl⟩ := List.mem_map.mp hj; exact idx6_lt x
  have hRl : (ns.map idx6).length = ns.length := List.length_map ..
  refine wpAny_execs_cons (s4_row hA S hl hi hlen fun RA h1 tk1 kr S1 => ?_)
  generalize hRR : ns.map idx6 = R at hR6 hRl S1
  refine wpAny_execs_cons (s4_sorts (s := { s with heap := h1, toks := tk1 }) hA S1 hl hi hlen fun SA h2 tk2 ks us hus S2 => ?_)
  rw [hRR] at hus
  have hkl : (R.map srt).length = ns.length := by rw [List.length_map, hRl]
  refine wpAny_execs_cons (s4_order (s := { s with heap := h2, toks := tk2 }) hA (Nat.lt_of_succ_lt (Nat.lt_of_succ_lt hroom)) X T C' es er el S2 hl hi hlen (.head _) hus hkl fun OA h3 tk3 out c qs3 hso S3 => ?_)
  obtain ⟨os, hout, hperm, hpw⟩ := hso
  have hos : os = cls (R.map srt) 0 ++ (cls (R.map srt) 1 ++ cls (R.map srt) 2) := order_is (fun k hk => by
    obtain ⟨j, hj, rfl⟩ := List.mem_map.mp hk; exact srt_three j (hR6 j hj)) hperm hpw
  have hoq : ∀ q ∈ os, q < ns.length := fun q hq => by
    have := List.mem_range.mp (hperm.mem_iff.mp hq); omega
  have hol : os.length = ns.length := by rw [hperm.length_eq, List.length_range, hkl]
  refine wpAny_execs_cons (s4_names (s := { s with heap := h3, toks := tk3 }) hA S3 hl hi hlen (.head _) (if_pos rfl) hout hoq (by omega) fun NA h4 tk4 kn ws hws S4' => ?_)
  rw [hRR] at hws
  have hwl : ws.length = ns.length := by rw [strs_length hws, List.length_map, hol]
  have c01 : (R.map srt).count 0 + (R.map srt).count 1 ≤ ws.length := by
    have : (cls (R.map srt) 0).length + ((cls (R.map srt) 1).length + (cls (R.map srt) 2).length) = os.length := by rw [hos, List.length_append, List.length_append]
    rw [cls_len, cls_len] at this
    omega
  have hsplit := map_take_drop (c := cls (R.map srt) 2) (f := fun q => letter (R.getD q 0)) (cls_len (P := R) 0) (cls_len (P := R) 1)
  rw [← hos, cls_map, cls_map, std6_eq hR6, kws6_eq hR6] at hsplit
  have hfs : StrsAre (ws.take ((R.map srt).count 0)) ((std6 R).map letter) := by
    have := strs_take hws ((R.map srt).count 0)
    rw [hsplit.1] at this; exact this
  have hss : StrsAre ((ws.drop ((R.map srt).count 0)).take ((R.map srt).count 1)) ((kws6 R).map letter) := by
    have := strs_take (strs_drop hws ((R.map srt).count 0)) ((R.map srt).count 1)
    rw [hsplit.2] at this; exact this
  refine wpAny_execs_cons (s4_first (s := { s with heap := h4, toks := tk4 }) (us := us) (ks := ks) S4' (.tail _ (.tail _ (.head _))) hus (.head _) (if_pos rfl) (by omega) (by omega) fun FA h5 tk5 S5 => ?_)
  refine wpAny_execs_cons (s4_second (s := { s with heap := h5, toks := tk5 }) (us := us) (ks := ks) S5 (.tail _ (.tail _ (.tail _ (.head _)))) hus (.tail _ (.head _)) ((if_neg (by decide : ¬ Str.ofString "names" = Str.ofString "first")).trans (if_pos rfl)) c01 (by omega) fun SB h6 tk6 S6 => ?_)
  generalize hm6 : (fun z => if z = Str.ofString "second" then some (Value.ref SB) else if z = Str.ofString "first" then some (Value.ref FA) else if z = Str.ofString "names" then some (Value.ref NA) else if z = Str.ofString "order" then some (Value.ref OA) else if z = Str.ofString "row" then some (Value.ref RA) else m z) = m6 at S6
  have mr6 : m6 "row" = some (.ref RA) := by rw [← hm6]; exact ((if_neg (by decide : ¬ Str.ofString "row" = Str.ofString "second")).trans ((if_neg (by decide : ¬ Str.ofString "row" = Str.ofString "first")).trans ((if_neg (by decide : ¬ Str.ofString "row" = Str.ofString "names")).trans ((if_neg (by decide : ¬ Str.ofString "row" = Str.ofString "order")).trans (if_pos rfl)))))
  have mf6 : m6 "first" = some (.ref FA) := by rw [← hm6]; exact ((if_neg (by decide : ¬ Str.ofString "first" = Str.ofString "second")).trans (if_pos rfl))
  have ms6 : m6 "second" = some (.ref SB) := by rw [← hm6]; exact if_pos rfl
  have hR5 : R.length ≤ 500 := by omega
  have iR : ∀ {x1 x2 x3 x4 x5 : Addr × Obj}, (RA, listOf (refs one R).toArray kr) ∈ x1 :: x2 :: x3 :: x4 :: x5 :: (RA, listOf (refs one R).toArray kr) :: B := fun {_ _ _ _ _} => .tail _ (.tail _ (.tail _ (.tail _ (.tail _ (.head _)))))
  refine wpAny_execs_cons (s4_if1 (s := { s with heap := h6, toks := tk6 }) (R := R) X T C hA hroom hu en hk54 S6 iR (.tail _ (.head _)) (.head _) mr6 mf6 ms6 hfs hss hR6 hR5 fun h7 tk7 g7 ps7 S7 hb7 => ?_)
  refine wpAny_execs_cons (s4_if2 (s := { s with heap := h7, toks := tk7, gens := g7 }) (R := R) X T C hA hroom hu en hk54 S7 iR (.tail _ (.head _)) (.head _) mr6 mf6 ms6 hfs hss hR6 hR5 fun h8 tk8 g8 ps8 S8 hb8 => ?_)
  refine wpAny_execs_cons (s4_unpack (s := { s with heap := h8, toks := tk8, gens := g8 }) (R := R) X T C hA hroom ef hk49 S8 iR mr6 hR6 hR5 fun t1 t2 h9 tk9 g9 ps9 S9 hb9 => ?_)
  refine wpAny_execs_cons (s4_ret (s := { s with heap := h9, toks := tk9, gens := g9 }) (R := R) X T C hA hroom hu en hk54 S9 (.head _) (.tail _ (.head _)) (.tail _ (.tail _ (.tail _ (.head _)))) (.tail _ (.tail _ (.head _)))
    ((if_neg (by decide : ¬ Str.ofString "std" = Str.ofString "rest")).trans (if_pos rfl)) (if_pos rfl)
    ((if_neg (by decide : ¬ Str.ofString "first" = Str.ofString "rest")).trans ((if_neg (by decide : ¬ Str.ofString "first" = Str.ofString "std")).trans mf6)) ((if_neg (by decide : ¬ Str.ofString "second" = Str.ofString "rest")).trans ((if_neg (by decide : ¬ Str.ofString "second" = Str.ofString "std")).trans ms6))
    hfs hss hR6 hR5 fun h10 tk10 g10 ps10 S10 hb10 => ?_)
  exact h h10 tk10 g10 S10.fr.keep (hb10 (hb9 (hb8 (hb7 hgb)))) ⟨_, S10.t44⟩ ⟨_, S10.t56⟩
end

end
section
local macro_rules | `(tactic| walk_at "exec For Name Call cons nil") => `(tactic| (refine Held.mk ?_))
local macro_rules | `(tactic| walk_at "exec For") => `(tactic| (refine Held.mk ?_))
local macro_rules | `(tactic| walk_at "subscriptTail") => `(tactic| (refine Held.mk ?_))
theorem newsSub {h₀ h : Heap} {L : Addr} {r r' : List (Addr × Obj)} (N : News h₀ L h r) (k : ∀ p ∈ r', p ∈ r) : News h₀ L h r' := fun p hp => N p (k p hp)
theorem allLt_mem {d : Nat} {l : List (Addr × Obj)} (h : AllLt d l) : ∀ p ∈ l, p.1 < d := by
  induction l with
  | nil => intro p hp; cases hp
  | cons q r ih =>
    intro p hp
    rcases List.mem_cons.mp hp with rfl | hp
    · exact h.1
    · exact ih h.2 p hp
theorem upd_list {h : Heap} {l : Addr} {its : Array Value} {n : Nat} (f : Array Value → Array Value) (e : h.get? l = some (listOf its n)) : ∃ n', (h.update l (Obj.mapSeq f)).get? l = some (listOf (f its) n') :=
  ⟨_, by rw [Heap.get?_update_self _ e rfl]; rfl⟩
section
variable {prog : Program} {w : World} {A : Around} {E : Value → Shared → Prop} {s : Shared} {l : Addr} {its : Array Value} {n : Nat}
theorem getM_list {name : Str} {id : String} {pl : Sem Bool} {Q : Value × List Value → Shared → Prop} (hl : s.heap.get? l = some (listOf its n)) (slot : Slot "list" name id)
    (hty : typeOf (.builtin id) = pure (.type "method_descriptor")) (h : Q (.builtin id, [.ref l]) s) : wpAny (model prog w) A (getMethod (.ref l) name pl) Q E s :=
  getMethod_builtin ⟨_, hl, rfl⟩ PySem.F.plainAttrs_list slot hty (fun a e => by cases e; exact ⟨_, hl, rfl⟩) h
theorem call_append {vs : List Value} {v : Value} {Q : Value → Shared → Prop} (hl : s.heap.get? l = some (listOf vs.toArray n)) (hz : vs.length ≤ 1000)
    (h : ∀ h' n', h'.get? l = some (listOf (vs ++ [v]).toArray n') → Heap.SameBut l s.heap h' → Q .none { s with heap := h' }) : wpAny (model prog w) A (call (.builtin "list.append") [.ref l, v]) Q E s := by
  obtain ⟨n', hn'⟩ := upd_list (fun xs => xs.push v) hl
  exact call_meets PySem.F.slot_list_append ⟨_, hl, rfl⟩ PySem.F.entry_list_append (PySem.F.args_list_append_2 _ _) (AutoListH.list_append_list_val_0 l vs.toArray n v (by rw [List.size_toArray]; exact Nat.le_trans hz (by decide))) ⟨hl, h _ n' (by rw [hn']; simp) (Heap.SameBut.update ..)⟩
end
/-- the fields built so far -/
structure Fields (P : Params) (R : Addr) (i : Nat) (ys : List Value) (fam : List (Addr × Obj)) (one dct : Nat → Addr) : Prop where
  len : ys.length = i
  at_ : ∀ j, j < i → ys[j]? = some (.ref (one j)) ∧ (one j, instObj 38 (dct j)) ∈ fam ∧ ∃ t1 t2 t3 tn, (dct j, fieldDict P j (ini6 j) (kwo6 j) t1 t2 t3 tn) ∈ fam
  lt : ∀ j, j < i → R < dct j ∧ dct j < one j
  up : ∀ j j', j < j' → j' < i → one j < dct j'
  big : ∀ p ∈ fam, R < p.1
theorem Fields.succ {P : Params} {R : Addr} {i : Nat} {ys : List Value} {fam : List (Addr × Obj)} {one dct : Nat → Addr} (F : Fields P R i ys fam one dct) {o d : Addr} {t1 t2 t3 tn : Tok} (hR : R < d) (hd : d < o) (hfam : ∀ p ∈ fam, p.1 < d) :
    Fields P R (i + 1) (ys ++ [.ref o]) ((o, instObj 38 d) :: (d, fieldDict P i (ini6 i) (kwo6 i) t1 t2 t3 tn) :: fam) (fun j => if j = i then o else one j) (fun j => if j = i then d else dct j) where
  len := by rw [List.length_append, F.len]; rfl
  at_ := fun j hj => by
    by_cases e : j = i
    · subst e
      rw [if_pos rfl, if_pos rfl, List.getElem?_append_right (by rw [F.len]; exact Nat.le_refl _), F.len]
      exact ⟨by simp, .head _, t1, t2, t3, tn, .tail _ (.head _)⟩
    · obtain ⟨a, b, t1, t2, t3, tn, c⟩ := F.at_ j (by omega)
      rw [if_neg e, if_neg e, List.getElem?_append_left (by rw [F.len]; omega)]
      exact ⟨a, .tail _ (.tail _ b), t1, t2, t3, tn, .tail _ (.tail _ c)⟩
  lt := fun j hj => by
    by_cases e : j = i
    · rw [if_pos e, if_pos e]; exact ⟨hR, hd⟩
    · rw [if_neg e, if_neg e]; exact F.lt j (by omega)
  up := fun j j' h1 h2 => by
    rw [if_neg (show ¬ j = i by omega)]
    by_cases e : j' = i
    · rw [if_pos e]; exact hfam _ (F.at_ j (by omega)).2.1
    · rw [if_neg e]; exact F.up j j' h1 (by omega)
  big := fun p hp => by
    rcases List.mem_cons.mp hp with rfl | hp
    · exact Nat.lt_trans hR hd
    · rcases List.mem_cons.mp hp with rfl | hp
      · exact hR
      · exact F.big p hp
set_option maxRecDepth 100000 in
set_option maxHeartbeats 8000000 in
theorem main04 : PySem.Challenge.rw_dm0039_04.Holds := hd04 (by
  w_on
  k_fill
  intro w s₀ s₁ mg mb G Y fa o pm cd doc dV kV ho hd hcd hD hmg hg args vals as hpre hlay hrd hwl hlo
  have KX := km_in_of Y
  refine Ground.open G ?_
  intro T B D TE TW
  try (refine guard_noD D (by decide +kernel) ?_; clear D)
  have hT9 : TabsAt [((48 : Addr), (44 : Addr)), ((58 : Addr), (56 : Addr))] s₁.heap :=
    List.forall_mem_cons.mpr ⟨tab_of (x := PySem.Str.ofString "_fields_in_init_order") (c := 48) (P := 44) T KX rfl (by kernel_rfl), List.forall_mem_cons.mpr ⟨tab_of (x := PySem.Str.ofString "law") (c := 58) (P := 56) T KX rfl (by kernel_rfl), fun _ h => nomatch h⟩⟩
  have he9 : cd = PySem.Value.ref 58 := law_code (x := PySem.Str.ofString "law") (c := 58) (P := 56) KX (Top.g T) (by kernel_rfl) hmg ho hd
  subst he9
  clear hmg
  wrow_args hpre hlay hrd hwl hlo
  refine enter_call ?_
  w_top off
  refine my_post hT9 (fun _ => rfl) (postW_of rfl (w_eq_bool (w_res rfl) w_lit) rfl) ?_
  w_call any ho hd hcd hD T F
  clear hd
  kn_ghosts F T
  k_drop
  k_unmd
  k_fold
  w_strict (k_steps)
  rename IntsAre _ _ => hi
  rename Heap.IsList (ghostOf _ _) _ _ => hl
  rename Top topProg _ _ _ _ _ => T'
  rename Frag.In _ (ghostOf _ _) => X
  rename Below _ _ _ _ => B'
  rename CodeHd _ _ _ => C5
  revert C5
  rename CodeHd _ _ _ => C4
  intro C5
  rename Fr (ghostOf _ _) _ _ _ => F
  rename News (ghostOf _ _) _ _ _ => N
  rename (44 < s₁.heap.objs.size ∧ 56 < s₁.heap.objs.size) => hlo
  rename (s₁.heap.objs.size + 1 + 1 + 1 < _ ∧ _) => l1
  rename (_ : Obj).data = Data.cell _ => d2
  revert d2
  rename (_ : Obj).data = Data.cell _ => d1
  revert d1
  rename (_ : Obj).data = Data.cell _ => d0
  revert d0
  rename (_ : Obj).data = Data.cell _ => d3
  intro d0 d1 d2
  obtain ⟨R, o3, o2, o1, l, vs, ns, m0, F0, N0, hl, hi, hlen, d3, d2, d1, hR⟩ : ∃ (R : Addr) (o3 o2 o1 : Obj) (l : Addr) (vs : List Value) (ns : List Int) (m0 : Str → Option Value),
      Fr (ghostOf s₁.heap [((48 : Addr), (44 : Addr)), ((58 : Addr), (56 : Addr))]) s₁.heap.objs.size _ m0 ∧ News (ghostOf s₁.heap [((48 : Addr), (44 : Addr)), ((58 : Addr), (56 : Addr))]) s₁.heap.objs.size _ [(R, listOf #[] 0), (s₁.heap.objs.size + 1 + 1 + 1, o3), (s₁.heap.objs.size + 1 + 1, o2), (s₁.heap.objs.size + 1, o1), (44, tabObj #[]), (56, tabObj #[])] ∧
      (ghostOf s₁.heap [((48 : Addr), (44 : Addr)), ((58 : Addr), (56 : Addr))]).IsList l vs.toArray ∧ IntsAre vs ns ∧ ns.length ≤ 63 ∧ o3.data = .cell none ∧ o2.data = .cell (some (.ref R)) ∧ o1.data = .cell (some (.ref l)) ∧ s₁.heap.objs.size + 1 + 1 + 1 < R :=
    ⟨_, _, _, _, _, _, _, _, F, N, hl, hi, by omega, d3.trans rfl, d2.trans rfl, d1.trans rfl, l1.1⟩
  clear F N
  refine Held.of ?_
  refine for_led (h₀ := (ghostOf s₁.heap [((48 : Addr), (44 : Addr)), ((58 : Addr), (56 : Addr))])) (n := 6) (Pi := fun i v => ∃ t, v = .int i t) (fun i m₂ news₂ g => g = s₁.gens ∧
      ∃ ys k fam one dct, news₂ = (R, listOf ys.toArray k) :: (s₁.heap.objs.size + 1 + 1 + 1, o3) :: (s₁.heap.objs.size + 1 + 1, o2) :: (s₁.heap.objs.size + 1, o1) :: (44, tabObj #[]) :: (56, tabObj #[]) :: fam ∧ Fields w.params R i ys fam one dct) rfl rfl rfl ?_
  refine Call_ (name_blt X T' F0.keep (by k_is) PyProof.Rows.boot_range (by decide) ?_ rfl rfl rfl rfl (by decide))
  refine PyProof.Rows.callWith_type1 (args_cons ?_)
  refine wpAny_Constant_int (args_nil ?_)
  refine call_range_1 ?_
  refine ⟨_, fun _ => False, _, _, s₁.gens, m0, [(R, listOf #[] 0), (s₁.heap.objs.size + 1 + 1 + 1, o3), (s₁.heap.objs.size + 1 + 1, o2), (s₁.heap.objs.size + 1, o1), (44, tabObj #[]), (56, tabObj #[])], [], rfl, SrcP.range (n := 6) (Heap.get?_push_size _ rfl) (by decide), fun _ _ e => e, fun b e => e.elim, F0.push _, ?n0, (fun _ h => nomatch h), ?j0, ?turn, ?done⟩
  case n0 => exact fun p hp => ⟨Heap.get?_push_of_some _ (N0 p (by simpa using hp)).1, (N0 p (by simpa using hp)).2⟩
  case j0 => exact ⟨rfl, [], 0, [], (fun _ => 0), (fun _ => 0), rfl, rfl, (fun j h => absurd h (Nat.not_lt_zero _)), (fun j h => absurd h (Nat.not_lt_zero _)), (fun j j' _ h => absurd h (Nat.not_lt_zero _)), (fun _ h => nomatch h)⟩
  case turn =>
    rintro i v m₂ news₂ h tk g own hin ⟨tv, rfl⟩ ⟨rfl, ys, k, fam, one, dct, rfl, FS⟩ hoff F N
    have hyl : ys.length ≤ 6 := FS.len ▸ Nat.le_of_lt hin
    clear N0 F0
    rw [show ((R, listOf ys.toArray k) :: (s₁.heap.objs.size + 1 + 1 + 1, o3) :: (s₁.heap.objs.size + 1 + 1, o2) :: (s₁.heap.objs.size + 1, o1) :: (44, tabObj #[]) :: (56, tabObj #[]) :: fam) ++ own = (R, listOf ys.toArray k) :: (s₁.heap.objs.size + 1 + 1 + 1, o3) :: (s₁.heap.objs.size + 1 + 1, o2) :: (s₁.heap.objs.size + 1, o1) :: (44, tabObj #[]) :: (56, tabObj #[]) :: (fam ++ own) from rfl] at N
    dsimp only
    w_strict (k_steps)
    refine Held.of (letter_item hin fun t' tk' => ?_)
    dsimp only
    w_strict (k_steps)
    rename Fr (ghostOf _ _) s₁.heap.objs.size _ _ => F1
    rename News (ghostOf _ _) s₁.heap.objs.size _ _ => N1
    rename (_ ∧ _ ∧ _ ∧ _ ∧ _ ∧ _ ∧ AllLt _ (fam ++ own)) => l1
    rename (_ < _) => l2
    refine call_append (N1 (R, listOf ys.toArray k) (.tail _ (.tail _ (.head _)))).1 (by omega) fun h2 n2 hl2 hs2 => ?_
    obtain ⟨xo, xd, t1, t2, t3, tn, F1, N1, l1, l2, hl2⟩ : ∃ (xo xd : Addr) (t1 t2 t3 tn : Tok), Fr (ghostOf s₁.heap [((48 : Addr), (44 : Addr)), ((58 : Addr), (56 : Addr))]) s₁.heap.objs.size _ (fun y => if y = Str.ofString "one" then some (.ref xo) else if y = Str.ofString "j" then some (.int i tv) else m₂ y) ∧
        News (ghostOf s₁.heap [((48 : Addr), (44 : Addr)), ((58 : Addr), (56 : Addr))]) s₁.heap.objs.size _ ((xo, instObj 38 xd) :: (xd, fieldDict w.params i (ini6 i) (kwo6 i) t1 t2 t3 tn) :: (R, listOf ys.toArray k) :: (s₁.heap.objs.size + 1 + 1 + 1, o3) :: (s₁.heap.objs.size + 1 + 1, o2) :: (s₁.heap.objs.size + 1, o1) :: (44, tabObj #[]) :: (56, tabObj #[]) :: (fam ++ own)) ∧
        (R < xd ∧ s₁.heap.objs.size + 1 + 1 + 1 < xd ∧ s₁.heap.objs.size + 1 + 1 < xd ∧ s₁.heap.objs.size + 1 < xd ∧ 44 < xd ∧ 56 < xd ∧ AllLt xd (fam ++ own)) ∧ xd < xo ∧ h2.get? R = some (listOf (ys ++ [Value.ref xo] : List Value).toArray n2) := ⟨_, _, _, _, _, _, F1, N1, l1, l2, hl2⟩
    have hRm := N1 (R, listOf ys.toArray k) (.tail _ (.tail _ (.head _)))
    have hRs : ∀ q ∈ fam ++ own, q.1 ≠ R := fun q hq => by
      rcases List.mem_append.mp hq with hq | hq
      · exact (Nat.ne_of_lt (FS.big q hq)).symm
      · exact hoff q hq (R, listOf ys.toArray k) (.head _)
    have hall := allLt_mem l1.2.2.2.2.2.2
    have hb1 : s₁.heap.objs.size + 1 + 1 < R := Nat.lt_of_succ_lt hR
    have hb2 : s₁.heap.objs.size + 1 < R := Nat.lt_of_succ_lt hb1
    have hb3 : s₁.heap.objs.size < R := Nat.lt_of_succ_lt hb2
    have F2 := ksk_fr F1 hs2 hRm.2.1 hRm.2.2
    refine wpAny_execs_nil ⟨h2, _, s₁.gens, _, (R, listOf (ys ++ [Value.ref xo] : List Value).toArray n2) :: (s₁.heap.objs.size + 1 + 1 + 1, o3) :: (s₁.heap.objs.size + 1 + 1, o2) :: (s₁.heap.objs.size + 1, o1) :: (44, tabObj #[]) :: (56, tabObj #[]) :: (xo, instObj 38 xd) :: (xd, fieldDict w.params i (ini6 i) (kwo6 i) t1 t2 t3 tn) :: fam, rfl, F2, fun p hp => ?_, fun p hp q hq => ?_,
      rfl, ys ++ [.ref xo], n2, (xo, instObj 38 xd) :: (xd, fieldDict w.params i (ini6 i) (kwo6 i) t1 t2 t3 tn) :: fam, _, _, rfl, FS.succ l1.1 l2 (fun p hp => hall p (List.mem_append_left _ hp))⟩
    · have hp' : p = (R, listOf (ys ++ [Value.ref xo] : List Value).toArray n2) ∨ (p ∈ ((xo, instObj 38 xd) :: (xd, fieldDict w.params i (ini6 i) (kwo6 i) t1 t2 t3 tn) :: (R, listOf ys.toArray k) :: (s₁.heap.objs.size + 1 + 1 + 1, o3) :: (s₁.heap.objs.size + 1 + 1, o2) :: (s₁.heap.objs.size + 1, o1) :: (44, tabObj #[]) :: (56, tabObj #[]) :: (fam ++ own)) ∧ p.1 ≠ R) := by
        simp only [List.mem_append, List.mem_cons] at hp
        rcases hp with (rfl | rfl | rfl | rfl | rfl | rfl | rfl | rfl | hp) | hp
        · exact .inl rfl
        · exact .inr ⟨by simp, Nat.ne_of_lt hR⟩
        · exact .inr ⟨by simp, Nat.ne_of_lt hb1⟩
        · exact .inr ⟨by simp, Nat.ne_of_lt hb2⟩
        · exact .inr ⟨by simp, Nat.ne_of_lt (Nat.lt_trans hlo.1 hb3)⟩
        · exact .inr ⟨by simp, Nat.ne_of_lt (Nat.lt_trans hlo.2 hb3)⟩
        · exact .inr ⟨by simp, Nat.ne_of_gt (Nat.lt_trans l1.1 l2)⟩
        · exact .inr ⟨by simp, Nat.ne_of_gt l1.1⟩
        · exact .inr ⟨by simp [hp], hRs p (List.mem_append_left _ hp)⟩
        · exact .inr ⟨by simp [hp], hRs p (List.mem_append_right _ hp)⟩
      rcases hp' with rfl | ⟨hp', hne⟩
      · exact ⟨hl2, hRm.2⟩
      · exact ⟨hs2.extBut _ _ hne (N1 p hp').1, (N1 p hp').2⟩
    · have hpx : p.1 < xd := hall p (List.mem_append_right _ hp)
      simp only [List.mem_cons] at hq
      rcases hq with rfl | rfl | rfl | rfl | rfl | rfl | rfl | rfl | hq
      · exact hoff p hp (R, listOf ys.toArray k) (.head _)
      · exact hoff p hp (s₁.heap.objs.size + 1 + 1 + 1, o3) (.tail _ (.head _))
      · exact hoff p hp (s₁.heap.objs.size + 1 + 1, o2) (.tail _ (.tail _ (.head _)))
      · exact hoff p hp (s₁.heap.objs.size + 1, o1) (.tail _ (.tail _ (.tail _ (.head _))))
      · exact hoff p hp (44, tabObj #[]) (.tail _ (.tail _ (.tail _ (.tail _ (.head _)))))
      · exact hoff p hp (56, tabObj #[]) (.tail _ (.tail _ (.tail _ (.tail _ (.tail _ (.head _))))))
      · exact Nat.ne_of_lt (Nat.lt_trans hpx l2)
      · exact Nat.ne_of_lt hpx
      · exact hoff p hp q (.tail _ (.tail _ (.tail _ (.tail _ (.tail _ (.tail _ hq))))))
  case done =>
    rintro m₂ news₂ h tk g ⟨rfl, ys, k, fam, one, dct, rfl, FS⟩ F N
    clear N0 F0
    rw [List.append_nil] at N
    have hb1 : s₁.heap.objs.size + 1 + 1 < R := Nat.lt_of_succ_lt hR
    have hb2 : s₁.heap.objs.size + 1 < R := Nat.lt_of_succ_lt hb1
    have hb3 : s₁.heap.objs.size < R := Nat.lt_of_succ_lt hb2
    have nR := N (R, listOf ys.toArray k) (.head _)
    have n3 := N (s₁.heap.objs.size + 1 + 1 + 1, o3) (.tail _ (.head _))
    have n2 := N (s₁.heap.objs.size + 1 + 1, o2) (.tail _ (.tail _ (.head _)))
    have n1 := N (s₁.heap.objs.size + 1, o1) (.tail _ (.tail _ (.tail _ (.head _))))
    have n4 := N (44, tabObj #[]) (.tail _ (.tail _ (.tail _ (.tail _ (.head _)))))
    have n5 := N (56, tabObj #[]) (.tail _ (.tail _ (.tail _ (.tail _ (.tail _ (.head _))))))
    have nF : ∀ q ∈ fam, _ := fun q hq => N q (.tail _ (.tail _ (.tail _ (.tail _ (.tail _ (.tail _ hq))))))
    dsimp only at nR n3 n2 n1 n4 n5
    have nb : ∀ b, s₁.heap.objs.size + 1 + 1 + 1 < b → ¬ Bad s₁.heap.objs.size b := fun b hb => by
      have q1 : s₁.heap.objs.size < b := Nat.lt_trans (Nat.lt_succ_of_lt (Nat.lt_succ_of_lt (Nat.lt_succ_self _))) hb
      rintro (e | e | e | e)
      · exact Nat.ne_of_gt q1 e
      · exact Nat.ne_of_gt (Nat.lt_trans hlo.1 q1) e
      · exact Nat.ne_of_gt (Nat.lt_trans hlo.2 q1) e
      · exact Nat.ne_of_gt hb e
    have hys : ys = refs one [0, 1, 2, 3, 4, 5] := by
      refine List.ext_getElem? fun j => ?_
      rcases Nat.lt_or_ge j 6 with h6 | h6
      · rw [(FS.at_ j h6).1, List.getElem?_map]
        have : ([0, 1, 2, 3, 4, 5] : List Nat)[j]? = some j := by
          have : j = 0 ∨ j = 1 ∨ j = 2 ∨ j = 3 ∨ j = 4 ∨ j = 5 := by omega
          rcases this with rfl | rfl | rfl | rfl | rfl | rfl <;> rfl
        rw [this, Option.map_some]
      · rw [List.getElem?_eq_none (by rw [FS.len]; exact h6), List.getElem?_eq_none (by simpa using h6)]
    have hmono : ∀ a b, a < b → b < 6 → one a < one b := fun a b hab hb => Nat.lt_trans (FS.up a b hab hb) (FS.lt b hb).2
    have S0 : S4 w (ghostOf s₁.heap [((48 : Addr), (44 : Addr)), ((58 : Addr), (56 : Addr))]) s₁.heap.objs.size one dct l R h m₂ [] none #[] #[] := by
      refine ⟨F, (fun _ h => nomatch h), ⟨fun j hj => ?_, fun a b ha hb e => ?_⟩, fun j hj => ⟨nb _ (Nat.lt_trans hR (Nat.lt_trans (FS.lt j hj).1 (FS.lt j hj).2)), nb _ (Nat.lt_trans hR (FS.lt j hj).1)⟩, ⟨o1, n1.1, d1⟩, ⟨o2, n2.1, d2⟩, ⟨o3, n3.1, d3⟩, ⟨k, by rw [← hys]; exact nR.1⟩, nb _ hR, n4.1, trivial, n5.1, n4.2.2, n5.2.2, n3.2.2, hlo.1, hlo.2⟩
      · obtain ⟨_, f1, b1, b2, b3, b4, f2⟩ := FS.at_ j hj
        exact ⟨(nF _ f1).1, b1, b2, b3, b4, (nF _ f2).1⟩
      · rcases Nat.lt_trichotomy a b with q | q | q
        · exact absurd e (Nat.ne_of_lt (hmono a b q hb))
        · exact q
        · exact absurd e (Nat.ne_of_gt (hmono b a q ha))
    refine tail04_ok (vs := vs) (ns := ns) X T' C4 C5 rfl ?room ?units (by k_is) (by k_is) (by k_is) (by k_is) (by k_is) (by k_is) (by k_is) S0 hl hi hlen ?gb fun h' tk' g' hk' hgb' ⟨ps', hps'⟩ ⟨qs', hqs'⟩ => ?_
    case room => simp only [depth_deeper, depth_caller]; decide
    case units => units_room
    case gb => exact hg ▸ AllBare.empty
    exact ⟨rfl, hk', rfl, hgb', ⟨ps', hps'⟩, ⟨qs', hqs'⟩, trivial⟩)

end
end Mine
set_option maxRecDepth 100000 in
set_option maxHeartbeats 8000000 in
theorem PySem.Challenge.cw_dm0039_04_holds : PySem.Challenge.rw_dm0039_04.Holds := by
  exact Mine.main04
