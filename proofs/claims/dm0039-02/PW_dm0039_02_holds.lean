import PyProof.Rows.All
import Wide.All
import OpenK.AllK
import Wide.FinOn
import PySem.Challenge.RW_dm0039_02
open PySem PySem.W PyProof.Rows PySem.Calls
set_option Elab.async false
set_option linter.unusedSimpArgs false
set_option linter.unusedVariables false
namespace Mine
section

abbrev tupOf (its : Array Value) : Obj := { cls := .type "tuple", data := .seq its }

abbrev Sub (h h' : Heap) : Prop := ∀ b o, h.get? b = some o → h'.get? b = some o

/-- what `pyIter v` hands back, in every heap that keeps `h`: a new iterator that goes through n things, the i-th one P i -/
structure SrcP (prog : Program) (w : World) (v : Value) (n : Nat) (P : Nat → Value → Prop) (h : Heap) (ft : Addr → Prop) : Prop where
  iter : ∀ (A : Around) (E : Value → Shared → Prop) (s : Shared) (Q : Value → Shared → Prop), A.handled = none → Sub h s.heap →
    (∀ (o : Obj) (fp : List Addr) (St : Nat → Heap → Prop), o.isFreed = false →
      (∀ A' : Around, A'.handled = none → Walks prog w A' s.heap.objs.size fp [s.heap.objs.size] n P St) → St 0 (s.heap.push o) →
      (∀ b ∈ fp, b = s.heap.objs.size ∨ ft b) → (∀ i h', St i h' → ∃ o, h'.get? s.heap.objs.size = some o) →
      Q (.ref s.heap.objs.size) { s with heap := s.heap.push o }) →
    wpAny (model prog w) A (pyIter v) Q E s

abbrev Src (prog : Program) (w : World) (v : Value) (items : Array Value) (h : Heap) : Prop := SrcP prog w v items.size (fun i v => items[i]? = some v) h (fun b => ∃ o, h.get? b = some o)

theorem SrcP.foot {prog : Program} {w : World} {v : Value} {n : Nat} {P : Nat → Value → Prop} {h : Heap} {ft ft' : Addr → Prop} (S : SrcP prog w v n P h ft)
    (kf : ∀ b, ft b → ft' b) : SrcP prog w v n P h ft' where
  iter := fun A E s Q hh hk hQ => S.iter A E s Q hh hk fun o fp St a b c d e =>
    hQ o fp St a b c (fun x hx => (d x hx).imp id (kf x)) e

theorem SrcP.list {prog : Program} {w : World} {l : Addr} {items : Array Value} {h : Heap} (hl : h.IsList l items) : SrcP prog w (.ref l) items.size (fun i v => items[i]? = some v) h (fun b => b = l) where
  iter := fun A E s Q hh hk hQ => by
    have hls : s.heap.IsList l items := hl.at fun o e => hk l o e
    have hlt : l < s.heap.objs.size := by obtain ⟨_, e, _⟩ := hls; exact Heap.lt_size e
    refine wpAny_pyIter_list hls ?_
    refine hQ _ [s.heap.objs.size, l] _ rfl (fun A' hA => Walks.list hA _ _ (Nat.ne_of_lt hlt) items) ⟨⟨_, Heap.get?_push_size _ rfl, rfl, rfl⟩, hls.push _⟩ ?_ ?_
    · intro b hb
      rcases List.mem_cons.mp hb with rfl | hb
      · exact .inl rfl
      · exact .inr (List.mem_singleton.mp hb)
    · rintro i h' ⟨⟨o, e, _⟩, _⟩; exact ⟨o, e⟩

theorem SrcP.tuple {prog : Program} {w : World} {l : Addr} {items : Array Value} {h : Heap} (hl : h.IsTuple l items) : SrcP prog w (.ref l) items.size (fun i v => items[i]? = some v) h (fun b => b = l) where
  iter := fun A E s Q hh hk hQ => by
    have hls : s.heap.IsTuple l items := let ⟨o, e, r⟩ := hl; ⟨o, hk _ _ e, r⟩
    have hlt : l < s.heap.objs.size := by obtain ⟨_, e, _⟩ := hls; exact Heap.lt_size e
    refine wpAny_pyIter_tuple hls ?_
    refine hQ _ [s.heap.objs.size, l] _ rfl (fun A' hA => Walks.tuple hA _ _ (Nat.ne_of_lt hlt) items) ⟨⟨_, Heap.get?_push_size _ rfl, rfl, rfl⟩, hls.push _⟩ ?_ ?_
    · intro b hb
      rcases List.mem_cons.mp hb with rfl | hb
      · exact .inl rfl
      · exact .inr (List.mem_singleton.mp hb)
    · rintro i h' ⟨⟨o, e, _⟩, _⟩; exact ⟨o, e⟩

theorem Src.list {prog : Program} {w : World} {l : Addr} {items : Array Value} {h : Heap} (hl : h.IsList l items) : Src prog w (.ref l) items h :=
  (SrcP.list hl).foot fun b e => by obtain ⟨o, ho, _⟩ := hl; exact ⟨o, e ▸ ho⟩
theorem Src.tuple {prog : Program} {w : World} {l : Addr} {items : Array Value} {h : Heap} (hl : h.IsTuple l items) : Src prog w (.ref l) items h :=
  (SrcP.tuple hl).foot fun b e => by obtain ⟨o, ho, _⟩ := hl; exact ⟨o, e ▸ ho⟩

theorem SrcP.range {prog : Program} {w : World} {r : Addr} {n : Nat} {t u v : Tok} {h : Heap} {ft : Addr → Prop} (hr : IsRange h r 0 n 1 t u v) (hn : n < 2 ^ 60) :
    SrcP prog w (.ref r) n (fun i v => ∃ t, v = .int i t) h ft where
  iter := fun A E s Q hh hk hQ => by
    have hrs : IsRange s.heap r 0 n 1 t u v := hk _ _ hr
    have hs : Builtin.Range.small 0 n 1 = true := small_one (by decide) (by decide) (by omega) (by omega)
    have hz : Builtin.Range.rangeSize 0 n 1 = (n : Int) := by rw [rangeSize_nat]; simp
    refine wpAny_pyIter_range hrs hs ?_
    rw [hz]
    have hW : ∀ A' : Around, A'.handled = none → Walks prog w A' s.heap.objs.size [s.heap.objs.size] [s.heap.objs.size] n (fun i v => ∃ t, v = .int i t)
        (fun i h => IsRangeIter h s.heap.objs.size (0 + (i : Nat) * 1) ((n : Int) - (i : Nat)) 1) := fun A' hA => by
      have := Walks.range (prog := prog) (w := w) hA s.heap.objs.size 0 1 n
      simpa only [Int.zero_add, Int.mul_one] using this
    refine hQ _ [s.heap.objs.size] _ rfl hW ?_ ?_ ?_
    · show IsRangeIter _ _ _ _ _
      simpa using Heap.get?_push_size _ rfl
    · intro b hb; exact .inl (List.mem_singleton.mp hb)
    · intro i h' e; exact ⟨_, e⟩

/-- a test of a generator's turn: true just where `pz` says so of the item, and nothing is turned -/
def TestOk (prog : Program) (w : World) (test : Expr) (x : Str) (scope : Scope) (P : Value → Prop) (pz : Value → Bool) (h : Heap) (D U : Nat) : Prop :=
  ∀ (A' : Around) (E' : Value → Shared → Prop) (cenv : Env) (v : Value) (t : Shared) (m₂ : Str → Option Value), A'.handled = none → A'.depth ≤ D → A'.units ≤ U → P v →
    cenv.scope = scope → t.heap.Ns cenv.locals m₂ → m₂ x = some v → (∀ b o, h.get? b = some o → t.heap.get? b = some o) →
    wpAny (model prog w) A' (isTrue test cenv (eval test cenv)) (fun ok s₃ => ok = pz v ∧ Keeps t s₃) E' t

theorem passing_filter {items : Array Value} {pz : Value → Bool} {acc : Array Value}
    (h : ItemsOf (fun j y => ∃ i, (passing (fun i => (items[i]?).any pz) items.size 0)[j]? = some i ∧ items[i]? = some y) acc (passing (fun i => (items[i]?).any pz) items.size 0).length) :
    acc = (items.toList.filter pz).toArray := by
  obtain ⟨xs⟩ := items
  have key : ∀ (ys : List Value) (k : Nat), ((List.range' k ys.length).filter (fun i => (ys[i - k]?).any pz)).map (fun i => (ys[i - k]?).getD .none) = ys.filter pz := by
    intro ys
    induction ys with
    | nil => intro k; rfl
    | cons y ys ih =>
      intro k
      rw [List.length_cons, List.range'_succ]
      have h1 : ∀ i ∈ List.range' (k + 1) ys.length, ((y :: ys)[i - k]?) = ys[i - (k + 1)]? := by
        intro i hi
        have := List.mem_range'_1.mp hi
        rw [show i - k = (i - (k + 1)) + 1 by omega, List.getElem?_cons_succ]
      have h2 : (List.range' (k + 1) ys.length).filter (fun i => ((y :: ys)[i - k]?).any pz) = (List.range' (k + 1) ys.length).filter (fun i => (ys[i - (k + 1)]?).any pz) :=
        List.filter_congr fun i hi => by rw [h1 i hi]
      have h3 : ((List.range' (k + 1) ys.length).filter (fun i => (ys[i - (k + 1)]?).any pz)).map (fun i => ((y :: ys)[i - k]?).getD .none) =
          ((List.range' (k + 1) ys.length).filter (fun i => (ys[i - (k + 1)]?).any pz)).map (fun i => (ys[i - (k + 1)]?).getD .none) :=
        List.map_congr_left fun i hi => by rw [h1 i (List.mem_filter.mp hi).1]
      cases hp : pz y with
      | true =>
        rw [List.filter_cons_of_pos (by simp [hp]), List.filter_cons_of_pos hp, List.map_cons, h2, h3, ih (k + 1)]
        simp
      | false =>
        rw [List.filter_cons_of_neg (by simp [hp]), List.filter_cons_of_neg (by simp [hp]), h2, h3, ih (k + 1)]
  have key0 := key xs 0
  obtain ⟨hs, hv⟩ := h
  have hpas : passing (fun i => (xs.toArray[i]?).any pz) xs.toArray.size 0 = (List.range' 0 xs.length).filter (fun i => (xs[i - 0]?).any pz) := by
    unfold passing
    rw [List.drop_zero, List.range_eq_range']
    simp
  have e0 : xs.toArray = { toList := xs } := rfl
  rw [← e0] at hs hv
  rw [hpas] at hs hv
  have hacc : acc.toList = xs.filter pz := by
    rw [← key0]
    refine List.ext_getElem? fun j => ?_
    rw [List.getElem?_map, Array.getElem?_toList]
    cases hj : acc[j]? with
    | some v =>
      obtain ⟨i, hi, hx⟩ := hv j v hj
      rw [hi]
      have hx' : xs[i - 0]? = some v := by simpa using hx
      simp only [Option.map_some, hx', Option.getD_some]
    | none =>
      have hge : acc.size ≤ j := by simpa using hj
      rw [hs] at hge
      rw [List.getElem?_eq_none hge]; rfl
  rw [show ({ toList := xs } : Array Value).toList = xs from rfl, ← hacc]

section
variable {prog : Program} {w : World} {A : Around} {E : Value → Shared → Prop} {s : Shared} {h₀ : Heap} {c P : Addr} {ps : Array Value} {mg : Str → Option Value} {bm : Addr} {ob : Obj}

theorem tupleGen {env : Env} {x src : Str} {pt pc px px2 psrc pos : Pos} {test : Expr} {scope : Scope} {Q : Value → Shared → Prop} {items : Array Value} {v : Value} {pz : Value → Bool}
    (hh : A.handled = none) (hco : scope.isCoroutine = false) (hclos : closureFor scope env = pure []) (hcell : ∀ y ∈ scope.names, y.2 ≠ .cell) (h0 : scope.names.lookup (".0" : Str) = some NameKind.local)
    (hx : scope.names.lookup x = some .local) (hdbg : (x == ("__debug__" : Str)) = false) (hkind : scope.kind = .function) (hroom : A.depth < recursionLimit)
    (k₀ : ∀ b o, h₀.get? b = some o → s.heap.get? b = some o) (hP₀ : h₀.get? P = none)
    (M : BMod h₀ env.globals mg bm ob) (hlim : h₀.NoLimit) (hcode : env.code = .ref c) (C : CodeHd h₀ c P) (hP : s.heap.get? P = some (tabObj ps)) (ht : TriplesOk ps.toList)
    (htup : ∀ Q' : Value → Shared → Prop, Q' (.type "tuple") s → wpAny (model prog w) A (eval (.Name "tuple" pt) env) Q' E s)
    (hsrc : ∀ Q' : Value → Shared → Prop, Q' v s → wpAny (model prog w) A (eval (.Name src psrc) env) Q' E s)
    (S : Src prog w v items h₀) (hsz : items.size ≤ sizeLine)
    (hT : TestOk prog w test x scope (fun y => y ∈ items) pz h₀ (A.depth + 1) (A.units + 8))
    (hQ : ∀ (t : Addr) (h' : Heap) (tk : Nat) (gens' : Array GenState) (ps' : Array Value), Heap.ExtBut P s.heap h' → h'.get? P = some (tabObj ps') → TriplesOk ps'.toList → s.heap.objs.size ≤ t →
      h'.get? t = some (tupOf (items.toList.filter pz).toArray) → h'.objs.size = t + 1 → (AllBare s.gens → AllBare gens') → Q (.ref t) { s with heap := h', toks := tk, gens := gens' }) :
    wpAny (model prog w) A (eval (.Call (.Name "tuple" pt) [.GeneratorExp (.Name x px) [⟨.Name x px2, .Name src psrc, [test], 0⟩] scope pos] [] pc) env) Q E s := by
  refine Call_ (htup _ ?_)
  refine PyProof.Rows.callWith_type1 ?_
  refine Calls.spliced_cons ?_
  have hclt : cStatics < s.heap.objs.size := let ⟨_, hn, _⟩ := hlim.keeps k₀; hn.lt
  have hPlt : P < s.heap.objs.size := Heap.lt_size hP
  refine wpAny_GeneratorExp_walksQD hh hco hclos hcell h0 hx hkind hroom (hsrc _ ?_) (fun _ => rfl)
  refine S.iter A E s _ hh k₀ fun oI fp St hfree W hst hfo _ => ?_
  generalize hI : s.heap.objs.size = I at W hfo ⊢
  generalize hh₂ : s.heap.push oI = h₂ at hst ⊢
  have k₂ : Sub s.heap h₂ := fun b o e => hh₂ ▸ Heap.get?_push_of_some _ e
  have hsz₂ : s.heap.objs.size ≤ h₂.objs.size := by rw [← hh₂, Heap.size_push]; exact Nat.le_succ _
  have hfp : ∀ b ∈ fp, b < h₂.objs.size := fun b hb => by
    rcases hfo b hb with e | ⟨o, e⟩
    · rw [e, ← hI, ← hh₂, Heap.size_push]; exact Nat.lt_succ_self _
    · exact Heap.lt_size (k₂ _ _ (k₀ _ _ e))
  have hwr : ∀ b ∈ [I], s.heap.objs.size ≤ b := fun b hb => by rw [List.mem_singleton.mp hb, hI]; exact Nat.le_refl _
  have hPf : P ∉ fp := fun hm => by
    rcases hfo P hm with h | ⟨o, h⟩
    · rw [h, ← hI] at hPlt; exact Nat.lt_irrefl _ hPlt
    · rw [hP₀] at h; cases h
  have k₀₂ : ∀ b o, h₀.get? b = some o → h₂.get? b = some o := fun b o e => k₂ b o (k₀ b o e)
  have hP₂ : h₂.get? P = some (tabObj ps) := k₂ _ _ hP
  have C₂ : CodeHd h₂ c P := C.keeps k₀₂
  refine ⟨hlim.keeps k₀₂, ?_⟩
  -- the code of the block: found, or made anew
  have step : ∀ (code : Value) (h₃ : Heap) (tk₃ : Nat) (ps' : Array Value), Heap.ExtBut P h₂ h₃ → h₂.objs.size ≤ h₃.objs.size → h₃.get? P = some (tabObj ps') → TriplesOk ps'.toList →
      wpAny (model prog w) A (builtinsFor env.globals env.builtins) (fun bi s₄ =>
        ∃ I' fp wr n₀ P St₀ pz F, (Value.ref I) = .ref I' ∧ (∀ A' : Around, A'.handled = none → Walks prog w A' I' fp wr n₀ P St₀) ∧ St₀ 0 s₄.heap ∧ (∀ b ∈ fp, b < s₄.heap.objs.size) ∧ s₄.heap.NoLimit ∧ cStatics ∉ wr ∧
          (∀ href : Heap, (∀ b o, s₄.heap.get? b = some o → href.get? b = some o) →
            QuietGenD prog w (genEnv scope [] s₄.heap.objs.size code bi env) x [test] (.Name x px) (List.range s₄.heap.objs.size) wr P pz F href (A.depth + 1) (A.units + 8)) ∧
          (∀ a h₅ tk gs, gs.bare = true → s₄.heap.objs.size < a → h₅.objs.size = a + 1 → (∀ b o, s₄.heap.get? b = some o → h₅.get? b = some o) →
            WalksS prog w A.in4 a (a :: s₄.heap.objs.size :: List.range s₄.heap.objs.size) (s₄.heap.objs.size :: wr) (GenOnlyQ s₄.gens.size) (passing pz n₀ 0).length
              (fun j y => ∃ i, (passing pz n₀ 0)[j]? = some i ∧ F i y) (GenAt prog w A.in4 a s₄.gens.size s₄.heap.objs.size (List.range s₄.heap.objs.size) wr pz n₀ F) →
            GenAt prog w A.in4 a s₄.gens.size s₄.heap.objs.size (List.range s₄.heap.objs.size) wr pz n₀ F 0 { s₄ with gens := s₄.gens.push gs, toks := tk, heap := h₅ } →
            wpAny (model prog w) A (spliced (backTo pc (starEach [] env))) (fun vs s₂ => wpAny (model prog w) A (call (.type "tuple") (.ref a :: vs)) Q E s₂) E { s₄ with gens := s₄.gens.push gs, toks := tk, heap := h₅ })) E
        { s with heap := h₃, toks := tk₃ } := by
    intro code h₃ tk₃ ps' hx₃ hsz₃ hP₃ ht₃
    have k₀₃ : ∀ b o, h₀.get? b = some o → h₃.get? b = some o := fun b o e => hx₃ b o (fun hb => by rw [hb, hP₀] at e; cases e) (k₀₂ b o e)
    have M₃ : BMod h₃ env.globals mg bm ob := M.keeps k₀₃
    refine wpAny_builtinsFor M₃.ns M₃.name M₃.ne M₃.obj M₃.cls M₃.dict M₃.data ?_
    refine ⟨I, fp, [I], items.size, _, St, (fun i => (items[i]?).any pz), (fun i y => items[i]? = some y), rfl, W, (W A hh).frame _ _ _ hst (fun b hb o e => hx₃ b o (fun e' => hPf (e' ▸ hb)) e),
      (fun b hb => Nat.lt_of_lt_of_le (hfp b hb) hsz₃), hlim.keeps k₀₃, (fun hm => Nat.lt_irrefl _ (Nat.lt_of_lt_of_le hclt (hwr _ hm))), (fun href hhref => ?_), fun a h₅ tk gs hgb hag hsz₅ hk₅ W' hat => ?_⟩
    · have inB : ∀ (t : Shared), (∀ b ∈ List.range h₃.objs.size, b ∉ [I] → ∀ o, href.get? b = some o → t.heap.get? b = some o) → ∀ b o, h₀.get? b = some o → t.heap.get? b = some o := fun t hkp b o e => by
        refine hkp b (List.mem_range.mpr (Heap.lt_size (k₀₃ b o e))) (fun hm => ?_) o (hhref b o (k₀₃ b o e))
        exact Nat.lt_irrefl _ (Nat.lt_of_lt_of_le (Heap.lt_size (k₀ b o e)) (hwr b hm))
      refine ⟨fun A' E' i v t m₂ hA hD hU hPv hn hm hkp => ?_, fun A' E' i v t m₂ hA hD hU hPv _ hn hm hkp => ?_⟩
      · have hmem : v ∈ items := Array.mem_of_getElem? hPv
        have key := hT A' E' (genEnv scope [] h₃.objs.size code builtinsNs env) v t m₂ hA hD hU hmem rfl hn hm (inB t hkp)
        have e1 : (forIn [test] true fun c r => if r = true then do let ok ← isTrue c (genEnv scope [] h₃.objs.size code builtinsNs env) (eval c (genEnv scope [] h₃.objs.size code builtinsNs env)); pure (ForInStep.yield ok) else pure (ForInStep.yield r) : Sem Bool)
            = (isTrue test (genEnv scope [] h₃.objs.size code builtinsNs env) (eval test (genEnv scope [] h₃.objs.size code builtinsNs env)) >>= fun ok => pure ok : Sem Bool) := by
          simp only [List.forIn_cons, List.forIn_nil, if_true, bind_assoc, pure_bind]
        rw [e1]
        refine wpAny_bind (wpAny_mono key (fun ok s₃ h₃ => wpAny_pure ⟨?_, h₃.2⟩) fun _ _ e => e)
        rw [h₃.1, hPv]; rfl
      · refine wpAny_Name (wpAny_loadName_local hkind hx hn hm ?_) hdbg
        exact ⟨hPv, t.heap, t.toks, rfl, fun _ _ e => e⟩
    · refine args_nil ?_
      have hsz' : (passing (fun i => (items[i]?).any pz) items.size 0).length ≤ sizeLine := by
        have h1 : (passing (fun i => (items[i]?).any pz) items.size 0).length ≤ items.size := by
          unfold passing
          refine Nat.le_trans (List.length_filter_le _ _) ?_
          rw [List.drop_zero, List.length_range]; exact Nat.le_refl _
        exact Nat.le_trans h1 hsz
      refine call_tuple_gen (hsz := hsz') W'.in4_3 (fun i s' st => st.1.typeIs) hat ?_ List.mem_cons_self fun s' acc hm hacc => ?_
      · intro b hb
        show b < h₅.objs.size
        rw [hsz₅]
        rcases List.mem_cons.mp hb with rfl | hb
        · exact Nat.lt_succ_self _
        · rcases List.mem_cons.mp hb with rfl | hb
          · exact Nat.lt_succ_of_lt hag
          · exact Nat.lt_succ_of_lt (Nat.lt_trans (List.mem_range.mp hb) hag)
      · obtain ⟨hs', gens', drawn', toks', os'⟩ := s'
        have hd : drawn' = s.drawn := hm.drawn
        have ho : os' = s.os := hm.os
        subst hd ho
        have hle₃ : s.heap.objs.size ≤ h₃.objs.size := Nat.le_trans hsz₂ hsz₃
        have hwlt : ∀ b ∈ (h₃.objs.size :: [I]), s.heap.objs.size ≤ b := fun b hb => by
          rcases List.mem_cons.mp hb with rfl | hb
          · exact hle₃
          · exact hwr b hb
        have hoff : ∀ b o, s.heap.get? b = some o → b ∉ (h₃.objs.size :: [I]) := fun b o e hb => Nat.lt_irrefl _ (Nat.lt_of_lt_of_le (Heap.lt_size e) (hwlt b hb))
        have ha : a ∉ (h₃.objs.size :: [I]) := fun hb => by
          rcases List.mem_cons.mp hb with e | hb
          · exact Nat.lt_irrefl _ (e ▸ hag)
          · exact Nat.lt_irrefl _ (Nat.lt_trans (Nat.lt_of_lt_of_le (hfp a ((W A hh).sub a hb)) hsz₃) hag)
        obtain ⟨oa, _, _, hoa, _⟩ := hat.1
        have halt : a < hs'.objs.size := Heap.lt_size (hm.heap a oa ha hoa)
        have hge : s.heap.objs.size ≤ hs'.objs.size := Nat.le_trans hle₃ (Nat.le_of_lt (Nat.lt_trans hag halt))
        have hacc' := passing_filter hacc
        subst hacc'
        refine hQ _ _ _ _ ps' (fun b o hb e => ?_) ?_ ht₃ hge (Heap.get?_push_size _ rfl) (Heap.size_push ..) (fun hb => ?_)
        · exact Heap.get?_push_of_some _ (hm.heap b o (hoff b o e) (hk₅ b o (hx₃ b o hb (k₂ b o e))))
        · exact Heap.get?_push_of_some _ (hm.heap P _ (hoff P _ hP) (hk₅ P _ hP₃))
        · exact hm.gens.bare (AllBare.push hb hgb)
  cases hnf : codeAmong pos ps.toList with
  | some cv => exact wpAny_genexprCode_hit hcode (C₂.code hP₂ ht) hnf (step cv h₂ _ ps (Heap.ExtBut.refl _ _) (Nat.le_refl _) hP₂ ht)
  | none =>
    refine wpAny_genexprCodeX hcode (C₂.code hP₂ ht) (C₂.tab hP₂) hnf fun c' h₃ tk₃ hx₃ hge hlt hcode₃ _ htab₃ _ => ?_
    refine step _ h₃ tk₃ _ hx₃ (Nat.le_trans hge (Nat.le_of_lt hlt)) htab₃.2 ?_
    obtain ⟨o, vs, file, tf, flags, tg, inF, text, tt, op, _, _, _, _, _, _, _, hop, hpd, htr, _⟩ := hcode₃
    exact htr
end

end
section

/-- the truth of an attribute: `getAttr v attr` comes back, and what comes back is true just if `b` -/
def AttrTruth (prog : Program) (w : World) (h : Heap) (D U : Nat) (v : Value) (attr : Str) (b : Bool) : Prop :=
  ∀ (A : Around) (E : Value → Shared → Prop) (t : Shared) (Q : Bool → Shared → Prop), A.handled = none → A.depth ≤ D → A.units ≤ U →
    (∀ b o, h.get? b = some o → t.heap.get? b = some o) →
    (∀ (h' : Heap) (tk : Nat), (∀ b o, t.heap.get? b = some o → h'.get? b = some o) → Q b { t with heap := h', toks := tk }) →
    wpAny (model prog w) A (getAttr v attr true) (fun o s₁ => wpAny (model prog w) A (truthy o) Q E s₁) E t

section
variable {prog : Program} {w : World} {h : Heap} {D U : Nat} {P : Value → Prop} {x : Str} {scope : Scope} {pi pk : Value → Bool}

theorem isTrue_attr {A : Around} {E : Value → Shared → Prop} {t : Shared} {cenv : Env} {m₂ : Str → Option Value} {v : Value} {attr : Str} {b : Bool} {Q : Bool → Shared → Prop} {pn pa : Pos}
    (hh : A.handled = none) (hD : A.depth ≤ D) (hU : A.units ≤ U) (hk : ∀ b o, h.get? b = some o → t.heap.get? b = some o) (hkind : cenv.scope.kind = .function) (hx : cenv.kindOf x = some .local)
    (hdbg : (x == ("__debug__" : Str)) = false) (hn : t.heap.Ns cenv.locals m₂) (hm : m₂ x = some v) (a : AttrTruth prog w h D U v attr b)
    (hQ : ∀ (h' : Heap) (tk : Nat), (∀ b o, t.heap.get? b = some o → h'.get? b = some o) → Q b { t with heap := h', toks := tk }) :
    wpAny (model prog w) A (isTrue (.Attribute (.Name x pn) attr pa) cenv (eval (.Attribute (.Name x pn) attr pa) cenv)) Q E t :=
  isTrue_plain (Attribute_name (wpAny_Name (wpAny_loadName_local hkind hx hn hm (a A E t Q hh hD hU hk hQ)) hdbg)) (by rfl)

theorem test_and_not {p1 p2 p3 p4 p5 p6 : Pos} {at1 at2 : Str} (hkind : scope.kind = .function) (hx : scope.names.lookup x = some .local) (hdbg : (x == ("__debug__" : Str)) = false)
    (hi : ∀ v, P v → AttrTruth prog w h D U v at1 (pi v)) (hw : ∀ v, P v → AttrTruth prog w h D U v at2 (pk v)) :
    TestOk prog w (.BoolOp .And [.Attribute (.Name x p1) at1 p2, .UnaryOp .Not (.Attribute (.Name x p3) at2 p4) p5] p6) x scope P (fun v => pi v && !pk v) h D U := by
  intro A' E' cenv v t m₂ hA hD hU hP hs hn hm hk
  refine isTrue_and (isTrue_attr hA hD hU hk (by rw [hs]; exact hkind) (by show cenv.scope.names.lookup x = _; rw [hs]; exact hx) hdbg hn hm (hi v hP) fun h' tk hk' => ?_)
  cases hp : pi v with
  | false => exact ⟨by simp [hp], h', tk, rfl, hk'⟩
  | true =>
    refine isTrue_and (isTrue_not (isTrue_attr hA hD hU (fun b o e => hk' b o (hk b o e)) (by rw [hs]; exact hkind) (by show cenv.scope.names.lookup x = _; rw [hs]; exact hx) hdbg (hn.keeps hk') hm (hw v hP) fun h'' tk' hk'' => ?_))
    have fin : ∀ q : Bool, pk v = q → if (!q) = true then wpAny (model prog w) A' (isTrue (.BoolOp .And [] p6) cenv (eval (.BoolOp .And [.Attribute (.Name x p1) at1 p2, .UnaryOp .Not (.Attribute (.Name x p3) at2 p4) p5] p6) cenv)) (fun ok s₃ => ok = (pi v && !pk v) ∧ Keeps t s₃) E' { t with heap := h'', toks := tk' } else (false = (pi v && !pk v) ∧ Keeps t { t with heap := h'', toks := tk' }) := by
      intro q hq
      cases q with
      | false => exact isTrue_and_nil ⟨by simp [hq, hp], h'', tk', rfl, fun b o e => hk'' b o (hk' b o e)⟩
      | true => exact ⟨by simp [hq, hp], h'', tk', rfl, fun b o e => hk'' b o (hk' b o e)⟩
    exact fin (pk v) rfl

theorem test_and {p1 p2 p3 p4 p6 : Pos} {at1 at2 : Str} (hkind : scope.kind = .function) (hx : scope.names.lookup x = some .local) (hdbg : (x == ("__debug__" : Str)) = false)
    (hi : ∀ v, P v → AttrTruth prog w h D U v at1 (pi v)) (hw : ∀ v, P v → AttrTruth prog w h D U v at2 (pk v)) :
    TestOk prog w (.BoolOp .And [.Attribute (.Name x p1) at1 p2, .Attribute (.Name x p3) at2 p4] p6) x scope P (fun v => pi v && pk v) h D U := by
  intro A' E' cenv v t m₂ hA hD hU hP hs hn hm hk
  refine isTrue_and (isTrue_attr hA hD hU hk (by rw [hs]; exact hkind) (by show cenv.scope.names.lookup x = _; rw [hs]; exact hx) hdbg hn hm (hi v hP) fun h' tk hk' => ?_)
  cases hp : pi v with
  | false => exact ⟨by simp [hp], h', tk, rfl, hk'⟩
  | true =>
    refine isTrue_and (isTrue_attr hA hD hU (fun b o e => hk' b o (hk b o e)) (by rw [hs]; exact hkind) (by show cenv.scope.names.lookup x = _; rw [hs]; exact hx) hdbg (hn.keeps hk') hm (hw v hP) fun h'' tk' hk'' => ?_)
    have fin : ∀ q : Bool, pk v = q → if q = true then wpAny (model prog w) A' (isTrue (.BoolOp .And [] p6) cenv (eval (.BoolOp .And [.Attribute (.Name x p1) at1 p2, .Attribute (.Name x p3) at2 p4] p6) cenv)) (fun ok s₃ => ok = (pi v && pk v) ∧ Keeps t s₃) E' { t with heap := h'', toks := tk' } else (false = (pi v && pk v) ∧ Keeps t { t with heap := h'', toks := tk' }) := by
      intro q hq
      cases q with
      | true => exact isTrue_and_nil ⟨by simp [hq, hp], h'', tk', rfl, fun b o e => hk'' b o (hk' b o e)⟩
      | false => exact ⟨by simp [hq, hp], h'', tk', rfl, fun b o e => hk'' b o (hk' b o e)⟩
    exact fin (pk v) rfl
end

section
variable {prog : Program} {w : World} {A : Around} {E : Value → Shared → Prop} {s : Shared} {hb : Heap} {c P f : Addr} {ps : Array Value} {mg mb : Str → Option Value} {K : Frag} {p : Program} {loose : List Str} {mean : ExcName → Option Value}
  {name qual : Str} {params : Arguments} {scope sc1 sc2 : Scope} {dV kV doc pm ct oc : Value} {an od : Option Addr} {osl : Array (Option Value)} {x src : Str} {p1 p2 p3 p4 p5 p6 q1 q2 q3 q4 q5 q6 pT pR : Pos} {kk : Nat} {test1 test2 : Expr}
  {items : Array Value} {v : Value} {pz1 pz2 : Value → Bool} {Q : Value → Shared → Prop}

abbrev twoGens (x src : Str) (test1 test2 : Expr) (sc1 sc2 : Scope) (p1 p2 p3 p4 p5 p6 q1 q2 q3 q4 q5 q6 pT pR : Pos) (kk : Nat) : List Stmt :=
  [.Return (some (.Tuple [.Call (.Name "tuple" p1) [.GeneratorExp (.Name x p2) [⟨.Name x p3, .Name src p4, [test1], 0⟩] sc1 p5] [] p6,
      .Call (.Name "tuple" q1) [.GeneratorExp (.Name x q2) [⟨.Name x q3, .Name src q4, [test2], 0⟩] sc2 q5] [] q6] kk pT)) pR]

theorem fio_call (hh : A.handled = none) (hroom : A.depth + 1 < recursionLimit)
    (kb : ∀ b o, hb.get? b = some o → s.heap.get? b = some o) (hbs : hb.objs.size ≤ s.heap.objs.size) (hPb : hb.get? P = none)
    (X : K.In hb) (T : Top p loose mean mg mb hb) (C : CodeHd hb c P) (hP : s.heap.get? P = some (tabObj ps)) (ht : TriplesOk ps.toList)
    (ho : K.lookup f = some ⟨oc, od, .func (fnOf name qual params (twoGens x src test1 test2 sc1 sc2 p1 p2 p3 p4 p5 p6 q1 q2 q3 q4 q5 q6 pT pR kk) scope dV kV doc pm an (.ref c) ct), osl⟩)
    (hcd : codeIn K (.ref c) qual = true)
    (hbind : BindsTo s (fnOf name qual params (twoGens x src test1 test2 sc1 sc2 p1 p2 p3 p4 p5 p6 q1 q2 q3 q4 q5 q6 pT pR kk) scope dV kV doc pm an (.ref c) ct) ⟨[v], []⟩ [(src, v)])
    (htn : nsIn K mainGlobals "tuple" = some none) (hbt : bootBuiltins ("tuple" : Str) = some (.type "tuple"))
    (hco : scope.isCoroutine = false) (hgen : scope.isGenerator = false) (hk : scope.kind = .function) (hcell : ∀ y ∈ scope.names, y.2 ≠ .cell)
    (hsl : scope.names.lookup src = some .local) (htl : scope.names.lookup ("tuple" : Str) = some .globalImplicit) (hsd : (src == ("__debug__" : Str)) = false)
    (hco1 : sc1.isCoroutine = false) (hcl1 : ∀ env, closureFor sc1 env = pure []) (hcell1 : ∀ y ∈ sc1.names, y.2 ≠ .cell) (h01 : sc1.names.lookup (".0" : Str) = some NameKind.local)
    (hx1 : sc1.names.lookup x = some .local) (hk1 : sc1.kind = .function)
    (hco2 : sc2.isCoroutine = false) (hcl2 : ∀ env, closureFor sc2 env = pure []) (hcell2 : ∀ y ∈ sc2.names, y.2 ≠ .cell) (h02 : sc2.names.lookup (".0" : Str) = some NameKind.local)
    (hx2 : sc2.names.lookup x = some .local) (hk2 : sc2.kind = .function) (hdbg : (x == ("__debug__" : Str)) = false)
    (S : Src prog w v items hb) (hsz : items.size ≤ sizeLine)
    (hT1 : TestOk prog w test1 x sc1 (fun y => y ∈ items) pz1 hb (A.depth + 2) (A.units + 11))
    (hT2 : TestOk prog w test2 x sc2 (fun y => y ∈ items) pz2 hb (A.depth + 2) (A.units + 11))
    (hQ : ∀ (t1 t2 t : Addr) (h' : Heap) (tk : Nat) (gens' : Array GenState) (ps' : Array Value), Heap.ExtBut P s.heap h' → h'.get? P = some (tabObj ps') → TriplesOk ps'.toList →
      s.heap.objs.size ≤ t1 → t1 < t2 → t2 < t → h'.get? t1 = some (tupOf (items.toList.filter pz1).toArray) → h'.get? t2 = some (tupOf (items.toList.filter pz2).toArray) →
      h'.get? t = some (tupOf #[.ref t1, .ref t2]) → h'.objs.size = t + 1 → (AllBare s.gens → AllBare gens') → Q (.ref t) { s with heap := h', toks := tk, gens := gens' }) :
    wpAny (model prog w) A (call (.ref f) [v]) Q E s := by
  refine wpAny_call ?_
  refine codeAny_call_def (fd := fnOf name qual params (twoGens x src test1 test2 sc1 sc2 p1 p2 p3 p4 p5 p6 q1 q2 q3 q4 q5 q6 pT pR kk) scope dV kV doc pm an (.ref c) ct) (body := twoGens x src test1 test2 sc1 sc2 p1 p2 p3 p4 p5 p6 q1 q2 q3 q4 q5 q6 pT pR kk)
    (binds := [(src, v)]) (Nat.lt_of_succ_lt hroom) ((X.keeps kb) _ _ ho) rfl (T.nolimit.keeps kb) (codeRec_of (X.keeps kb) hcd) rfl hbind hcell ?_ (fun h₁ hns hk₁ => ?_) hco hgen hk
  · intro y hy
    rw [List.mem_singleton.mp hy]; exact hsl
  refine wpAny_mono (Q := fun f s' => ∃ r, f = .ret r ∧ Q r s') (E := fun _ _ => False) ?_ (fun f s' hq => by obtain ⟨r, rfl, hq⟩ := hq; exact hq) (fun _ _ e => e.elim)
  have kb₁ : ∀ b o, hb.get? b = some o → h₁.get? b = some o := fun b o e => hk₁ b o (kb b o e)
  have Mo := T.bmain
  obtain ⟨bm, ob, M⟩ := bmod_of_top T
  have F₁ : Fr hb s.heap.objs.size h₁ (fun y => [(src, v)].reverse.lookup y) := ⟨hns, kb₁, hbs⟩
  have hsrcv : (fun y : Str => [(src, v)].reverse.lookup y) src = some v := by simp [List.lookup]
  refine wpAny_execs_cons (wpAny_Return_some (Tuple_ ?_))
  refine Calls.spliced_cons ?_
  refine tupleGen (h₀ := hb) (P := P) (v := v) hh hco1 (hcl1 _) hcell1 h01 hx1 hdbg hk1 (by show A.depth + 1 < recursionLimit; exact hroom) kb₁ hPb M T.nolimit rfl C (hk₁ _ _ hP) ht
    (fun Q' hq => name_B F₁ X (topRead_of T) htn hbt (by decide) hq hk htl (by decide))
    (fun Q' hq => wpAny_Name (wpAny_loadName_local hk hsl hns hsrcv hq) hsd) S hsz hT1 fun t1 h₂ tk₂ g₂ ps₂ hx₂ hP₂ ht₂ hge₂ ht1 hs₂ hb₂ => ?_
  have kb₂ : ∀ b o, hb.get? b = some o → h₂.get? b = some o := fun b o e => hx₂ b o (fun q => by rw [q, hPb] at e; cases e) (kb₁ b o e)
  have hLP : s.heap.objs.size ≠ P := fun q => Nat.lt_irrefl _ (q ▸ Heap.lt_size hP)
  have hns₂ := hns.extBut hx₂ hLP
  have F₂ : Fr hb s.heap.objs.size h₂ (fun y => [(src, v)].reverse.lookup y) := ⟨hns₂, kb₂, hbs⟩
  refine Calls.spliced_cons ?_
  refine tupleGen (h₀ := hb) (P := P) (v := v) hh hco2 (hcl2 _) hcell2 h02 hx2 hdbg hk2 (by show A.depth + 1 < recursionLimit; exact hroom) kb₂ hPb M T.nolimit rfl C hP₂ ht₂
    (fun Q' hq => name_B F₂ X (topRead_of T) htn hbt (by decide) hq hk htl (by decide))
    (fun Q' hq => wpAny_Name (wpAny_loadName_local hk hsl hns₂ hsrcv hq) hsd) S hsz hT2 fun t2 h₃ tk₃ g₃ ps₃ hx₃ hP₃ ht₃ hge₃ ht2 hs₃ hb₃ => ?_
  refine args_nil ?_
  refine wpAny_newObj_type ?_ (by size_fits)
  have hle1 : s.heap.objs.size < h₁.objs.size := hns.lt
  have h1P : t1 ≠ P := fun q => by
    have := Heap.lt_size (hk₁ _ _ hP)
    exact Nat.lt_irrefl _ (Nat.lt_of_lt_of_le this (q ▸ hge₂))
  have h12 : t1 < t2 := by
    have h2 : h₂.objs.size ≤ t2 := hge₃
    rw [hs₂] at h2; exact h2
  refine ⟨_, rfl, hQ t1 t2 _ _ _ _ ps₃ (fun b o hb e => Heap.get?_push_of_some _ (hx₃ b o hb (hx₂ b o hb (hk₁ b o e)))) (Heap.get?_push_of_some _ hP₃) ht₃ (Nat.le_trans (Nat.le_of_lt hle1) hge₂) h12 ?_
    (Heap.get?_push_of_some _ (hx₃ _ _ h1P ht1)) (Heap.get?_push_of_some _ ht2) (Heap.get?_push_size _ rfl) (Heap.size_push ..) (fun q => hb₃ (hb₂ q))⟩
  have : h₃.objs.size = t2 + 1 := hs₃
  show t2 < h₃.objs.size
  rw [this]; exact Nat.lt_succ_self _
end

end
section

/-- what is asked of the law's end: nothing of the old is turned but the code tables, which have grown -/
def EndOk (s₁ : Shared) (tabs : List (Addr × Addr)) (s' : Shared) : Prop :=
  (∀ b o, (ghostOf s₁.heap tabs).get? b = some o → s'.heap.get? b = some o) ∧ s'.os = s₁.os ∧ AllBare s'.gens ∧ GrownAll tabs s'.heap

theorem my_post {M : Model} {A : Around} {cd : Code} {s s₁ : Shared} {cw : ClaimW} {cl : Str → Option Addr} {mean : ExcName → Option Value} {args : List WData} {tabs : List (Addr × Addr)} (hT : TabsAt tabs s₁.heap)
    (hr : ∀ cls, cw.raises args cls = false) (hp : cw.post args (.bool true) args = true)
    (h : codeAny M A cd (fun r s' => r = .ok (.ret (.bool true)) ∧ EndOk s₁ tabs s') s) : codeAny M A cd (GoodWG cw cl mean args s₁) s :=
  codeAny_mono h fun r s' ⟨e, hk, hos, hg, hgr⟩ => by
    subst e
    have keep : ∀ b o, b ∉ tabs.map (·.2) → s₁.heap.get? b = some o → s'.heap.get? b = some o := fun b o hb e => hk b o (ghost_ne e hb)
    have grown : ∀ b o, b ∈ tabs.map (·.2) → s₁.heap.get? b = some o → isCodeTable s₁.heap b ∧ o = tabObj #[] ∧ ∃ ps, s'.heap.get? b = some (tabObj ps) := fun b o hb e => by
      obtain ⟨q, hq, rfl⟩ := List.mem_map.mp hb
      have e2 := (hT q hq).2
      rw [e] at e2
      exact ⟨((hT q hq).1.tab (hT q hq).2).isCodeTable, Option.some.inj e2, hgr.get q hq⟩
    refine ⟨.inl ⟨.bool true, .bool true, [], rfl, hr, .bool true, hp, fun _ => ⟨.nil, fun _ ha => nomatch ha⟩⟩, ⟨fun b o e => ?_, fun b o e => ?_⟩, hos, hg⟩
    · by_cases hb : b ∈ tabs.map (·.2)
      · obtain ⟨ht, rfl, ps, hP⟩ := grown b o hb e
        exact .inr (.inl ⟨ht, rfl, #[], ps, rfl, by rw [Array.empty_append]; exact hP⟩)
      · exact .inl (keep b o hb e)
    · by_cases hb : b ∈ tabs.map (·.2)
      · obtain ⟨_, _, ps, hP⟩ := grown b o hb e
        exact ⟨_, hP⟩
      · exact ⟨o, keep b o hb e⟩

/-- a stop of our own in the walk -/
def Held (p : Prop) : Prop := p
theorem Held.mk {p : Prop} (h : Held p) : p := h
theorem Held.of {p : Prop} (h : p) : Held p := h

end
section

abbrev NoE : Value → Shared → Prop := fun _ _ => False

/-- the end of a loop's turn -/
def TurnEnd (s : Shared) (h₀ : Heap) (L : Addr) (own : List (Addr × Obj)) (J : (Str → Option Value) → List (Addr × Obj) → Array GenState → Prop) (Q : Flow → Shared → Prop) (f : Flow) (s₂ : Shared) : Prop :=
  match f with
  | .ret v => Q (.ret v) s₂
  | .brk => Q .next s₂
  | _ => ∃ h' tk g' m' news', s₂ = { s with heap := h', toks := tk, gens := g' } ∧ Fr h₀ L h' m' ∧ News h₀ L h' (news' ++ own) ∧ (∀ p ∈ own, ∀ q ∈ news', p.1 ≠ q.1) ∧ J m' news' g'

theorem next_new {h₀ h : Heap} {L : Addr} {m : Str → Option Value} (F : Fr h₀ L h m) : h₀.get? h.objs.size = none := by
  cases e : h₀.get? h.objs.size with
  | none => rfl
  | some o => exact absurd (Heap.lt_size (F.keep _ _ e)) (Nat.lt_irrefl _)

section
variable {prog : Program} {w : World} {A : Around} {E : Value → Shared → Prop} {s : Shared} {env : Env} {h₀ : Heap} {x : Str} {px pos : Pos} {iter : Expr} {body : List Stmt} {Q : Flow → Shared → Prop}

theorem for_ledE
    (hA : A.handled = none) (hx : env.kindOf x = some .local) (hp : (env.scope.kind == .class || (env.scope.kind == .module && env.locals != env.globals)) = false)
    (hit : wpAny (model prog w) A (eval iter env) (fun v s₁ => ∃ (n : Nat) (Pi : Nat → Value → Prop) (J : Nat → (Str → Option Value) → List (Addr × Obj) → Array GenState → Prop) (hs : Heap) (ft : Addr → Prop) (h₁ : Heap) (tk : Nat) (g : Array GenState) (m₁ : Str → Option Value) (news₁ srcL : List (Addr × Obj)),
      s₁ = { s with heap := h₁, toks := tk, gens := g } ∧ SrcP prog w v n Pi hs ft ∧ Sub hs h₁ ∧ (∀ b, ft b → (∃ o, h₀.get? b = some o) ∨ ∃ o, (b, o) ∈ srcL) ∧
      Fr h₀ env.locals h₁ m₁ ∧ News h₀ env.locals h₁ (news₁ ++ srcL) ∧ (∀ p ∈ srcL, ∀ q ∈ news₁, p.1 ≠ q.1) ∧ J 0 m₁ news₁ g ∧
      (∀ i v m₂ news₂ h tk g own, i < n → Pi i v → J i m₂ news₂ g → (∀ p ∈ own, ∀ q ∈ news₂, p.1 ≠ q.1) → Fr h₀ env.locals h (fun y => if y = x then some v else m₂ y) → News h₀ env.locals h (news₂ ++ own) →
        wpAny (model prog w) A (execs body env) (TurnEnd s h₀ env.locals own (J (i + 1)) Q) NoE { s with heap := h, toks := tk, gens := g }) ∧
      (∀ m₂ news₂ h tk g, J n m₂ news₂ g → Fr h₀ env.locals h m₂ → News h₀ env.locals h (news₂ ++ srcL) → Q .next { s with heap := h, toks := tk, gens := g })) E s)
    (hfold : ∀ x, foldedSetIterable iter env x = pure x := by intro _; rfl) :
    wpAny (model prog w) A (exec (.For (.Name x px) iter body [] pos) env) Q E s := by
  refine wpAny_For (wpAny_mono hit (fun v s₁ hs₁ => ?_) fun _ _ e => e) hfold
  obtain ⟨n, Pi, J, hs, ft, h₁, tk₁, g₁, m₁, news₁, srcL, rfl, S, ks, hfo, F₁, N₁, hoff₁, hJ, turn, done⟩ := hs₁
  refine S.iter A E _ _ hA ks fun oI fp St hfree W hst hfp hlive => ?_
  dsimp only at W hst hfp hlive ⊢
  generalize hI : h₁.objs.size = I at W hst hfp hlive ⊢
  have hIL : I ≠ env.locals := fun e => Nat.lt_irrefl _ (by have := F₁.ns.lt; rw [← e, ← hI] at this; exact this)
  have hI₀ : h₀.get? I = none := hI ▸ next_new F₁
  have hIs : ∀ p ∈ srcL, p.1 ≠ I := fun p hp e => Nat.lt_irrefl _ (by have := Heap.lt_size (N₁ p (List.mem_append_right _ hp)).1; rw [e, hI] at this; exact this)
  have hIn : ∀ p ∈ news₁, p.1 ≠ I := fun p hp e => Nat.lt_irrefl _ (by have := Heap.lt_size (N₁ p (List.mem_append_left _ hp)).1; rw [e, hI] at this; exact this)
  have hLf : env.locals ∉ fp := fun hm => by
    rcases hfp _ hm with e | e
    · exact hIL e.symm
    · rcases hfo _ e with ⟨o, e⟩ | ⟨o, e⟩
      · exact Nat.lt_irrefl _ (Nat.lt_of_lt_of_le (Heap.lt_size e) F₁.above)
      · exact (N₁ _ (List.mem_append_right _ e)).2.1 rfl
  -- the loop's state
  refine codeAny_forLoop_any (fun k s' => ∃ i h tk g m₂ news₂, k = n + 1 - i ∧ i ≤ n ∧ s' = { s with heap := h, toks := tk, gens := g } ∧ St i h ∧ Fr h₀ env.locals h m₂ ∧
      News h₀ env.locals h (news₂ ++ srcL) ∧ (∀ p ∈ srcL, ∀ q ∈ news₂, p.1 ≠ q.1) ∧ (∀ q ∈ news₂, q.1 ≠ I) ∧ J i m₂ news₂ g) ?_ (n + 1)
    ⟨0, _, _, _, m₁, news₁, rfl, Nat.zero_le _, rfl, hst, F₁.push _, fun p hp => ⟨Heap.get?_push_of_some _ (N₁ p hp).1, (N₁ p hp).2⟩, hoff₁, hIn, hJ⟩
  rintro k s' ⟨i, h, tk, g, m₂, news₂, rfl, hi, rfl, hst, F₂, N₂, hoff₂, hI₂, hJ⟩
  by_cases hlt : i < n
  · refine (W A hA).item i _ _ _ hlt hst fun v h₃ tk₃ hPv hst₃ hk₃ => ?_
    show wpAny _ A (letOwnedTupleGo (.Name x px) _ v) _ _ _
    refine wpAny_of_eq (rfl : letOwnedTupleGo (.Name x px) (.ref I) v = pure ()) ?_
    have F₃ : Fr h₀ env.locals h₃ m₂ := ⟨F₂.ns.at' fun o e => hk₃ _ o (fun hm => hIL (List.mem_singleton.mp hm).symm) e,
      fun b o e => hk₃ b o (fun hm => by rw [List.mem_singleton.mp hm, hI₀] at e; cases e) (F₂.keep b o e), F₂.above⟩
    have N₃ : News h₀ env.locals h₃ (news₂ ++ srcL) := fun p hp => ⟨hk₃ _ _ (fun hm => by
      rcases List.mem_append.mp hp with hp | hp
      · exact hI₂ p hp (List.mem_singleton.mp hm)
      · exact hIs p hp (List.mem_singleton.mp hm)) (N₂ p hp).1, (N₂ p hp).2⟩
    obtain ⟨oJ, hoJ⟩ := hlive _ _ hst₃
    refine wpAny_assign_Name (wpAny_storeName_local hx F₃.ns (fun h₄ hn₄ hs₄ => ?_) hp)
    have F₄ := F₃.set hn₄ hs₄
    have N₄ := N₃.set hs₄
    have hoJ₄ : h₄.get? I = some oJ := (hs₄.2 I hIL).trans hoJ
    have hst₄ : St (i + 1) h₄ := (W A hA).frame _ _ _ hst₃ fun b hb o e => hs₄.extBut b o (fun q => hLf (q ▸ hb)) e
    have Nown : News h₀ env.locals h₄ (news₂ ++ ((I, oJ) :: srcL)) := fun p hp => by
      rcases List.mem_append.mp hp with hp | hp
      · exact N₄ p (List.mem_append_left _ hp)
      · rcases List.mem_cons.mp hp with rfl | hp
        · exact ⟨hoJ₄, hIL, hI₀⟩
        · exact N₄ p (List.mem_append_right _ hp)
    have hown : ∀ p ∈ (I, oJ) :: srcL, ∀ q ∈ news₂, p.1 ≠ q.1 := fun p hp q hq => by
      rcases List.mem_cons.mp hp with rfl | hp
      · exact (hI₂ q hq).symm
      · exact hoff₂ p hp q hq
    refine wpAny_mono (turn i v m₂ news₂ h₄ _ g ((I, oJ) :: srcL) hlt hPv hJ hown F₄ Nown) (fun f s₅ hf₅ => ?_) fun _ _ e => e.elim
    have fin : (∃ h' tk g' m' news', s₅ = { s with heap := h', toks := tk, gens := g' } ∧ Fr h₀ env.locals h' m' ∧ News h₀ env.locals h' (news' ++ ((I, oJ) :: srcL)) ∧ (∀ p ∈ (I, oJ) :: srcL, ∀ q ∈ news', p.1 ≠ q.1) ∧ J (i + 1) m' news' g') →
        ∃ m, m < n + 1 - i ∧ ∃ i h tk g m₂ news₂, m = n + 1 - i ∧ i ≤ n ∧ s₅ = { s with heap := h, toks := tk, gens := g } ∧ St i h ∧ Fr h₀ env.locals h m₂ ∧
          News h₀ env.locals h (news₂ ++ srcL) ∧ (∀ p ∈ srcL, ∀ q ∈ news₂, p.1 ≠ q.1) ∧ (∀ q ∈ news₂, q.1 ≠ I) ∧ J i m₂ news₂ g := by
      rintro ⟨h₅, tk₅, g₅, m₅, news₅, rfl, F₅, N₅, hoff₅, hJ₅⟩
      refine ⟨n + 1 - (i + 1), by omega, i + 1, h₅, tk₅, g₅, m₅, news₅, rfl, hlt, rfl, (W A hA).frame _ _ _ hst₄ fun b hb o e => ?_, F₅, fun p hp => ?_, fun p hp => hoff₅ p (List.mem_cons_of_mem _ hp), fun q hq => (hoff₅ _ (List.mem_cons_self ..) q hq).symm, hJ₅⟩
      · rcases hfp b hb with rfl | e'
        · rw [hoJ₄] at e; cases e
          exact (N₅ _ (List.mem_append_right _ (List.mem_cons_self ..))).1
        · rcases hfo _ e' with ⟨o', e'⟩ | ⟨o', e'⟩
          · rw [F₄.keep _ _ e'] at e; cases e; exact F₅.keep _ _ e'
          · have h1 := (N₄ _ (List.mem_append_right _ e')).1
            rw [h1] at e; cases e
            exact (N₅ _ (List.mem_append_right _ (List.mem_cons_of_mem _ e'))).1
      · rcases List.mem_append.mp hp with hp | hp
        · exact N₅ p (List.mem_append_left _ hp)
        · exact N₅ p (List.mem_append_right _ (List.mem_cons_of_mem _ hp))
    cases f with
    | ret v => exact hf₅
    | brk => exact hf₅
    | next => exact fin hf₅
    | cont => exact fin hf₅
  · have hin : i = n := by omega
    subst hin
    refine (W A hA).done _ _ _ hst fun h₃ tk₃ hk₃ => ?_
    have F₃ : Fr h₀ env.locals h₃ m₂ := ⟨F₂.ns.at' fun o e => hk₃ _ o (fun hm => hIL (List.mem_singleton.mp hm).symm) e,
      fun b o e => hk₃ b o (fun hm => by rw [List.mem_singleton.mp hm, hI₀] at e; cases e) (F₂.keep b o e), F₂.above⟩
    have N₃ : News h₀ env.locals h₃ (news₂ ++ srcL) := fun p hp => ⟨hk₃ _ _ (fun hm => by
      rcases List.mem_append.mp hp with hp | hp
      · exact hI₂ p hp (List.mem_singleton.mp hm)
      · exact hIs p hp (List.mem_singleton.mp hm)) (N₂ p hp).1, (N₂ p hp).2⟩
    exact wpAny_execs_nil (done m₂ news₂ h₃ tk₃ g hJ F₃ N₃)

theorem for_led {n : Nat} {Pi : Nat → Value → Prop} (J : Nat → (Str → Option Value) → List (Addr × Obj) → Array GenState → Prop)
    (hA : A.handled = none) (hx : env.kindOf x = some .local) (hp : (env.scope.kind == .class || (env.scope.kind == .module && env.locals != env.globals)) = false)
    (hit : wpAny (model prog w) A (eval iter env) (fun v s₁ => ∃ (hs : Heap) (ft : Addr → Prop) (h₁ : Heap) (tk : Nat) (g : Array GenState) (m₁ : Str → Option Value) (news₁ srcL : List (Addr × Obj)),
      s₁ = { s with heap := h₁, toks := tk, gens := g } ∧ SrcP prog w v n Pi hs ft ∧ Sub hs h₁ ∧ (∀ b, ft b → (∃ o, h₀.get? b = some o) ∨ ∃ o, (b, o) ∈ srcL) ∧
      Fr h₀ env.locals h₁ m₁ ∧ News h₀ env.locals h₁ (news₁ ++ srcL) ∧ (∀ p ∈ srcL, ∀ q ∈ news₁, p.1 ≠ q.1) ∧ J 0 m₁ news₁ g ∧
      (∀ i v m₂ news₂ h tk g own, i < n → Pi i v → J i m₂ news₂ g → (∀ p ∈ own, ∀ q ∈ news₂, p.1 ≠ q.1) → Fr h₀ env.locals h (fun y => if y = x then some v else m₂ y) → News h₀ env.locals h (news₂ ++ own) →
        wpAny (model prog w) A (execs body env) (TurnEnd s h₀ env.locals own (J (i + 1)) Q) NoE { s with heap := h, toks := tk, gens := g }) ∧
      (∀ m₂ news₂ h tk g, J n m₂ news₂ g → Fr h₀ env.locals h m₂ → News h₀ env.locals h (news₂ ++ srcL) → Q .next { s with heap := h, toks := tk, gens := g })) E s)
    (hfold : ∀ x, foldedSetIterable iter env x = pure x := by intro _; rfl) :
    wpAny (model prog w) A (exec (.For (.Name x px) iter body [] pos) env) Q E s := by
  exact for_ledE hA hx hp (wpAny_mono hit (fun v s₁ h => ⟨n, Pi, J, h⟩) fun _ _ e => e) hfold
end

end
section

/-- the end of a comprehension's turn -/
def CEnd (s : Shared) (h₀ : Heap) (L : Addr) (m : Str → Option Value) (own : List (Addr × Obj)) (J : List (Addr × Obj) → Array GenState → Prop) (s₂ : Shared) : Prop :=
  ∃ h' tk g' fam', s₂ = { s with heap := h', toks := tk, gens := g' } ∧ Fr h₀ L h' m ∧ News h₀ L h' (fam' ++ own) ∧ (∀ p ∈ own, ∀ q ∈ fam', p.1 ≠ q.1) ∧ J fam' g'

section
variable {prog : Program} {w : World} {A : Around} {E : Value → Shared → Prop} {s : Shared} {env : Env} {h₀ : Heap} {x : Str} {px pos : Pos} {iter elt : Expr} {ifs : List Expr} {scope : Scope} {cl : List (Str × Addr)} {m : Str → Option Value}

/-- what is asked of each turn of a comprehension -/
def CTurn (prog : Program) (w : World) (A : Around) (s : Shared) (env : Env) (h₀ : Heap) (x : Str) (elt : Expr) (ifs : List Expr) (scope : Scope) (cl : List (Str × Addr)) (m : Str → Option Value) (n : Nat) (Pi : Nat → Value → Prop)
    (J : Nat → List Value → List (Addr × Obj) → Array GenState → Prop) : Prop :=
  ∀ C i v h tk g m₃ fam ys own, i < n → Pi i v → J i ys fam g → h.Ns C m₃ → m₃ x = some v → C ≠ env.locals → (∃ oC, (C, oC) ∈ own) → Fr h₀ env.locals h m → News h₀ env.locals h (fam ++ own) → (∀ p ∈ own, ∀ q ∈ fam, p.1 ≠ q.1) →
    wpAny (model prog w) A (forIn ifs true fun c r => if r = true then do let ok ← isTrue c (compEnvC scope cl C env) (eval c (compEnvC scope cl C env)); pure (ForInStep.yield ok) else pure (ForInStep.yield r))
      (fun ok s₄ => if ok = true then wpAny (model prog w) A (eval elt (compEnvC scope cl C env)) (fun y s₅ => CEnd s h₀ env.locals m own (J (i + 1) (ys ++ [y])) s₅) NoE s₄
        else CEnd s h₀ env.locals m own (J (i + 1) ys) s₄) NoE { s with heap := h, toks := tk, gens := g }

theorem comp_block_led {n : Nat} {Pi : Nat → Value → Prop} {J : Nat → List Value → List (Addr × Obj) → Array GenState → Prop} {RR : Value → Addr → Result → Shared → Prop} {hs : Heap} {ft : Addr → Prop} {h₁ : Heap} {tk₁ : Nat} {g₁ : Array GenState} {news srcL : List (Addr × Obj)} {v₀ : Value}
    (hA : A.handled = none) (hcell : ∀ y ∈ scope.names, y.2 ≠ .cell) (hkind : scope.kind = .function) (hx : scope.names.lookup x = some .local)
    (S : SrcP prog w v₀ n Pi hs ft) (ks : Sub hs h₁) (hfo : ∀ b, ft b → (∃ o, h₀.get? b = some o) ∨ ∃ o, (b, o) ∈ srcL)
    (F₁ : Fr h₀ env.locals h₁ m) (N₁ : News h₀ env.locals h₁ (news ++ srcL)) (hoff₁ : ∀ p ∈ srcL, ∀ q ∈ news, p.1 ≠ q.1) (hJ : J 0 [] news g₁) (hsz : ∀ i ys fam g, J i ys fam g → ys.length ≤ i) (hnz : n ≤ sizeLine)
    (turn : CTurn prog w A s env h₀ x elt ifs scope cl m n Pi J)
    (hRR : ∀ D C h tk g ys fam k oC m', J n ys fam g → Fr h₀ env.locals h m → News h₀ env.locals h (fam ++ ((D, listOf ys.toArray k) :: (C, oC) :: srcL)) → (∀ p ∈ (D, listOf ys.toArray k) :: (C, oC) :: srcL, ∀ q ∈ fam, p.1 ≠ q.1) → (∀ p ∈ srcL, p.1 ≠ D ∧ p.1 ≠ C) → D ≠ C → h.Ns C m' →
      RR (.ref D) C (.ok .next) { s with heap := h, toks := tk, gens := g }) :
    wpAny (model prog w) A (pyIter v₀) (fun it s₂ => wpAny (model prog w) A (newList []) (fun acc s₃ => wpAny (model prog w) A (newFunctionEnv scope env.globals cl [] env.qual none .none (some env)) (fun cenv s₄ =>
      codeAny (model prog w) A (.compStart (.ListComp elt [⟨.Name x px, iter, ifs, 0⟩] scope pos) 0 it acc { cenv with scope := relabel scope env }) (RR acc cenv.locals) s₄) E s₃) E s₂) E { s with heap := h₁, toks := tk₁, gens := g₁ } := by
  refine S.iter A E _ _ hA ks fun oI fp St hfree W hst hfp hlive => ?_
  dsimp only at W hst hfp hlive ⊢
  refine wpAny_newObj_type (wpAny_newFunctionEnv hcell (by intro y hy; simp at hy) (fun h₂ hns₂ hsb₂ => ?_) hkind)
  dsimp only at hns₂ hsb₂ ⊢
  generalize hI : h₁.objs.size = I at W hst hfp hlive ⊢
  generalize hHa : h₁.push oI = Ha at hst hns₂ hsb₂ ⊢
  have hD : Ha.objs.size = I + 1 := by rw [← hHa, Heap.size_push, hI]
  generalize hHb : Ha.push { cls := .type "list", dict := none, data := .seq ([] : List Value).toArray } = Hb at hns₂ hsb₂ ⊢
  have hC : Hb.objs.size = I + 2 := by rw [← hHb, Heap.size_push, hD]
  rw [hD]
  rw [hC] at hns₂ hsb₂
  rw [hC]
  have hLI : env.locals < I := by have := F₁.ns.lt; rw [hI] at this; exact this
  have old : Sub h₁ h₂ := fun b o e => by
    have hb : b < I := by have := Heap.lt_size e; rw [hI] at this; exact this
    exact hsb₂.extBut b o (Nat.ne_of_lt (Nat.lt_of_lt_of_le hb (Nat.le_add_right _ _))) (Heap.get?_push_of_some _ (hHb ▸ Heap.get?_push_of_some _ (hHa ▸ Heap.get?_push_of_some _ e)))
  have hol : ∀ b, I ≤ b → h₀.get? b = none := fun b hb => by
    cases e : h₀.get? b with
    | none => rfl
    | some o =>
      have h3 : b < I := by have := Heap.lt_size (F₁.keep _ _ e); rw [hI] at this; exact this
      exact absurd (Nat.lt_of_lt_of_le h3 hb) (Nat.lt_irrefl _)
  have hnl : ∀ p ∈ news ++ srcL, p.1 < I := fun p hp => by have := Heap.lt_size (N₁ p hp).1; rw [hI] at this; exact this
  have hst₂ : St 0 h₂ := (W A hA).frame _ _ _ hst fun b hb o e => by
    have hb2 : b < Ha.objs.size := Heap.lt_size e
    rw [hD] at hb2
    exact hsb₂.extBut b o (Nat.ne_of_lt (Nat.lt_trans hb2 (Nat.lt_succ_self _))) (Heap.get?_push_of_some _ (hHb ▸ Heap.get?_push_of_some _ e))
  have hDl : h₂.PlainList (I + 1) #[] := ⟨0, by
    have e1 : Hb.get? (I + 1) = some { cls := .type "list", dict := none, data := .seq ([] : List Value).toArray } := by rw [← hHb, ← hD]; exact Heap.get?_push_size _ rfl
    exact hsb₂.extBut _ _ (Nat.ne_of_lt (Nat.lt_succ_self _)) (Heap.get?_push_of_some _ e1)⟩
  have F₂ : Fr h₀ env.locals h₂ m := F₁.keeps old
  have N₂ : News h₀ env.locals h₂ (news ++ srcL) := fun p hp => ⟨old _ _ (N₁ p hp).1, (N₁ p hp).2⟩
  have hCf : I + 2 ∉ fp := fun hm => by
    rcases hfp _ hm with e | e
    · exact absurd e (Nat.ne_of_gt (Nat.lt_succ_of_lt (Nat.lt_succ_self _)))
    · rcases hfo _ e with ⟨o, e⟩ | ⟨o, e⟩
      · rw [hol _ (Nat.le_add_right _ _)] at e; cases e
      · exact absurd (hnl _ (List.mem_append_right _ e)) (Nat.not_lt.mpr (Nat.le_add_right _ _))
  have hDf : I + 1 ∉ fp := fun hm => by
    rcases hfp _ hm with e | e
    · exact absurd e (Nat.ne_of_gt (Nat.lt_succ_self _))
    · rcases hfo _ e with ⟨o, e⟩ | ⟨o, e⟩
      · rw [hol _ (Nat.le_add_right _ _)] at e; cases e
      · exact absurd (hnl _ (List.mem_append_right _ e)) (Nat.not_lt.mpr (Nat.le_add_right _ _))
  have loop : ∀ tk, codeAny (model prog w) A (.compLoop (.ListComp elt [⟨.Name x px, iter, ifs, 0⟩] scope pos) 0 (.ref I) (.ref (I + 1)) (compEnvC scope cl (I + 2) env)) (RR (.ref (I + 1)) (I + 2)) { s with heap := h₂, toks := tk, gens := g₁ } := by
    intro tk
    refine codeAny_compLoop_tests (fun k s' => ∃ i h tk g ys fam m', k = n + 1 - i ∧ i ≤ n ∧ s' = { s with heap := h, toks := tk, gens := g } ∧ St i h ∧ Fr h₀ env.locals h m ∧ News h₀ env.locals h (fam ++ srcL) ∧ (∀ p ∈ srcL, ∀ q ∈ fam, p.1 ≠ q.1) ∧
        (∀ q ∈ fam, q.1 ≠ I ∧ q.1 ≠ I + 1 ∧ q.1 ≠ I + 2) ∧ h.PlainList (I + 1) ys.toArray ∧ h.Ns (I + 2) m' ∧ J i ys fam g) ?_ (n + 1)
      ⟨0, h₂, tk, g₁, [], news, _, rfl, Nat.zero_le _, rfl, hst₂, F₂, N₂, hoff₁, fun q hq => ?_, hDl, hns₂, hJ⟩
    · rintro k s' ⟨i, h, tk, g, ys, fam, m', rfl, hi, rfl, hst, F, N, hoff, hfam, hl, hns, hJ⟩
      have hCL : I + 2 ≠ env.locals := Nat.ne_of_gt (Nat.lt_of_lt_of_le hLI (Nat.le_add_right _ _))
      have hDL : I + 1 ≠ env.locals := Nat.ne_of_gt (Nat.lt_of_lt_of_le hLI (Nat.le_add_right _ _))
      have hIL : I ≠ env.locals := Nat.ne_of_gt hLI
      have hsrcI : ∀ p ∈ srcL, p.1 ≠ I ∧ p.1 ≠ I + 1 ∧ p.1 ≠ I + 2 := fun p hp => by
        have h1 := hnl p (List.mem_append_right _ hp)
        exact ⟨Nat.ne_of_lt h1, Nat.ne_of_lt (Nat.lt_of_lt_of_le h1 (Nat.le_add_right _ _)), Nat.ne_of_lt (Nat.lt_of_lt_of_le h1 (Nat.le_add_right _ _))⟩
      by_cases hlt : i < n
      · refine (W A hA).item i _ _ _ hlt hst fun v h₃ tk₃ hPv hst₃ hk₃ => ?_
        have k₃ : ∀ b o, b ≠ I → h.get? b = some o → h₃.get? b = some o := fun b o hb e => hk₃ b o (fun hm => hb (List.mem_singleton.mp hm)) e
        obtain ⟨oJ, hoJ⟩ := hlive _ _ hst₃
        show wpAny _ A (assign (.Name x px) (compEnvC scope cl (I + 2) env) v) _ _ _
        refine wpAny_assign_Name (wpAny_storeName_local (env := compEnvC scope cl (I + 2) env) (lookup_relabel_local hx) (hns.at' fun o e => k₃ _ o (Nat.ne_of_gt (Nat.lt_succ_of_lt (Nat.lt_succ_self _))) e) (fun h₄ hn₄ hs₄ => ?_) (by simp [compEnvC, relabel, hkind]))
        have hs₄' : Heap.SameBut (I + 2) h₃ h₄ := hs₄
        have k₄ : ∀ b o, b ≠ I → b ≠ I + 2 → h.get? b = some o → h₄.get? b = some o := fun b o hb hb2 e => hs₄'.extBut b o hb2 (k₃ b o hb e)
        have F₄ : Fr h₀ env.locals h₄ m := ⟨F.ns.at' fun o e => k₄ _ o hIL.symm hCL.symm e, fun b o e => k₄ b o (fun q => by rw [q, hol _ (Nat.le_refl _)] at e; cases e) (fun q => by rw [q, hol _ (Nat.le_add_right _ _)] at e; cases e) (F.keep b o e), F.above⟩
        obtain ⟨kk, hD₄⟩ : h₄.PlainList (I + 1) ys.toArray := hl.at fun o e => k₄ _ o (Nat.ne_of_gt (Nat.lt_succ_self _)) (Nat.ne_of_lt (Nat.lt_succ_self _)) e
        obtain ⟨oC, _, _, hoC, _⟩ := id hn₄
        have hoI : h₄.get? I = some oJ := hs₄'.extBut I oJ (Nat.ne_of_lt (Nat.lt_succ_of_lt (Nat.lt_succ_self _))) hoJ
        have hst₄ : St (i + 1) h₄ := (W A hA).frame _ _ _ hst₃ fun b hb o e => hs₄'.extBut b o (fun q => hCf (q ▸ hb)) e
        have Nown : News h₀ env.locals h₄ (fam ++ ((I, oJ) :: (I + 1, listOf ys.toArray kk) :: (I + 2, oC) :: srcL)) := fun p hp => by
          rcases List.mem_append.mp hp with hp | hp
          · exact ⟨k₄ _ _ (hfam p hp).1 (hfam p hp).2.2 (N p (List.mem_append_left _ hp)).1, (N p (List.mem_append_left _ hp)).2⟩
          · rcases List.mem_cons.mp hp with rfl | hp
            · exact ⟨hoI, hIL, hol _ (Nat.le_refl _)⟩
            · rcases List.mem_cons.mp hp with rfl | hp
              · exact ⟨hD₄, hDL, hol _ (Nat.le_add_right _ _)⟩
              · rcases List.mem_cons.mp hp with rfl | hp
                · exact ⟨hoC, hCL, hol _ (Nat.le_add_right _ _)⟩
                · exact ⟨k₄ _ _ (hsrcI p hp).1 (hsrcI p hp).2.2 (N p (List.mem_append_right _ hp)).1, (N p (List.mem_append_right _ hp)).2⟩
        have hown : ∀ p ∈ (I, oJ) :: (I + 1, listOf ys.toArray kk) :: (I + 2, oC) :: srcL, ∀ q ∈ fam, p.1 ≠ q.1 := fun p hp q hq => by
          rcases List.mem_cons.mp hp with rfl | hp
          · exact (hfam q hq).1.symm
          · rcases List.mem_cons.mp hp with rfl | hp
            · exact (hfam q hq).2.1.symm
            · rcases List.mem_cons.mp hp with rfl | hp
              · exact (hfam q hq).2.2.symm
              · exact hoff p hp q hq
        have back : ∀ (ys' : List Value) (s₅ : Shared), CEnd s h₀ env.locals m ((I, oJ) :: (I + 1, listOf ys.toArray kk) :: (I + 2, oC) :: srcL) (J (i + 1) ys') s₅ →
            ∃ h tk g fam, s₅ = { s with heap := h, toks := tk, gens := g } ∧ St (i + 1) h ∧ Fr h₀ env.locals h m ∧ News h₀ env.locals h (fam ++ srcL) ∧ (∀ p ∈ srcL, ∀ q ∈ fam, p.1 ≠ q.1) ∧
              (∀ q ∈ fam, q.1 ≠ I ∧ q.1 ≠ I + 1 ∧ q.1 ≠ I + 2) ∧ h.get? (I + 1) = some (listOf ys.toArray kk) ∧ (∃ m', h.Ns (I + 2) m') ∧ J (i + 1) ys' fam g := by
          rintro ys' s₅ ⟨h₅, tk₅, g₅, fam₅, rfl, F₅, N₅, hoff₅, hJ₅⟩
          have hI5 := (N₅ (I, oJ) (List.mem_append_right _ (List.mem_cons_self ..))).1
          have hD5 := (N₅ (I + 1, listOf ys.toArray kk) (List.mem_append_right _ (List.mem_cons_of_mem _ (List.mem_cons_self ..)))).1
          have hC5 := (N₅ (I + 2, oC) (List.mem_append_right _ (List.mem_cons_of_mem _ (List.mem_cons_of_mem _ (List.mem_cons_self ..))))).1
          have hS5 : ∀ p ∈ srcL, p ∈ fam₅ ++ ((I, oJ) :: (I + 1, listOf ys.toArray kk) :: (I + 2, oC) :: srcL) := fun p hp => List.mem_append_right _ (List.mem_cons_of_mem _ (List.mem_cons_of_mem _ (List.mem_cons_of_mem _ hp)))
          refine ⟨h₅, tk₅, g₅, fam₅, rfl, (W A hA).frame _ _ _ hst₄ fun b hb o e => ?_, F₅, fun p hp => ?_, fun p hp => hoff₅ p (List.mem_cons_of_mem _ (List.mem_cons_of_mem _ (List.mem_cons_of_mem _ hp))), fun q hq => ?_, hD5, ⟨_, hn₄.at' fun o e => ?_⟩, hJ₅⟩
          · rcases hfp b hb with rfl | e'
            · rw [hoI] at e; cases e; exact hI5
            · rcases hfo _ e' with ⟨o', e'⟩ | ⟨o', e'⟩
              · rw [F₄.keep _ _ e'] at e; cases e; exact F₅.keep _ _ e'
              · have h1 := (Nown _ (List.mem_append_right _ (List.mem_cons_of_mem _ (List.mem_cons_of_mem _ (List.mem_cons_of_mem _ e'))))).1
                rw [h1] at e; cases e
                exact (N₅ _ (hS5 _ e')).1
          · rcases List.mem_append.mp hp with hp | hp
            · exact N₅ p (List.mem_append_left _ hp)
            · exact N₅ p (hS5 p hp)
          · exact ⟨(hoff₅ _ (List.mem_cons_self ..) q hq).symm, (hoff₅ _ (List.mem_cons_of_mem _ (List.mem_cons_self ..)) q hq).symm, (hoff₅ _ (List.mem_cons_of_mem _ (List.mem_cons_of_mem _ (List.mem_cons_self ..))) q hq).symm⟩
          · have e' : some oC = some o := hoC.symm.trans e
            cases e'; exact hC5
        refine wpAny_mono (turn (I + 2) i v h₄ _ g _ fam ys _ hlt hPv hJ hn₄ (by simp) hCL ⟨oC, List.mem_cons_of_mem _ (List.mem_cons_of_mem _ (List.mem_cons_self ..))⟩ F₄ Nown hown) (fun ok s₅ hc₅ => ?_) fun _ _ e => e.elim
        cases ok with
        | false =>
          simp only [Bool.false_eq_true, if_false] at hc₅ ⊢
          obtain ⟨h₅, tk₅, g₅, fam₅, rfl, a1, a2, a3, a4, a5, a6, ⟨m₅, a7⟩, a8⟩ := back ys s₅ hc₅
          exact ⟨n + 1 - (i + 1), by omega, i + 1, h₅, tk₅, g₅, ys, fam₅, m₅, rfl, hlt, rfl, a1, a2, a3, a4, a5, ⟨kk, a6⟩, a7, a8⟩
        | true =>
          simp only [if_true] at hc₅ ⊢
          refine wpAny_mono hc₅ (fun y s₆ hc₆ => ?_) fun _ _ e => e.elim
          obtain ⟨h₆, tk₆, g₆, fam₆, rfl, a1, a2, a3, a4, a5, a6, ⟨m₆, a7⟩, a8⟩ := back (ys ++ [y]) s₆ hc₆
          have hys : ys.toArray.size ≤ sizeLine := by
            have := hsz _ _ _ _ hJ
            rw [List.size_toArray]; omega
          refine wpAny_list_append_plain (hsz := hys) ⟨kk, a6⟩ fun h₇ hl₇ hs₇ => ?_
          have k₇ : ∀ b o, b ≠ I + 1 → h₆.get? b = some o → h₇.get? b = some o := fun b o hb e => hs₇.extBut b o hb e
          refine ⟨n + 1 - (i + 1), by omega, i + 1, h₇, tk₆, g₆, ys ++ [y], fam₆, m₆, rfl, hlt, rfl, (W A hA).frame _ _ _ a1 fun b hb o e => k₇ b o (fun q => hDf (q ▸ hb)) e,
            ⟨a2.ns.at' fun o e => k₇ _ o hDL.symm e, fun b o e => k₇ b o (fun q => by rw [q, hol _ (Nat.le_add_right _ _)] at e; cases e) (a2.keep b o e), a2.above⟩,
            fun p hp => ⟨k₇ _ _ ?_ (a3 p hp).1, (a3 p hp).2⟩, a4, a5, ?_, a7.at' fun o e => k₇ _ o (Nat.ne_of_gt (Nat.lt_succ_self _)) e, a8⟩
          · rcases List.mem_append.mp hp with hp | hp
            · exact (a5 p hp).2.1
            · exact (hsrcI p hp).2.1
          · have e1 : (ys ++ [y]).toArray = ys.toArray.push y := by simp
            rw [e1]; exact hl₇
      · have hin : i = n := by omega
        subst hin
        refine (W A hA).done _ _ _ hst fun h₃ tk₃ hk₃ => ?_
        have k₃ : ∀ b o, b ≠ I → h.get? b = some o → h₃.get? b = some o := fun b o hb e => hk₃ b o (fun hm => hb (List.mem_singleton.mp hm)) e
        have F₃ : Fr h₀ env.locals h₃ m := ⟨F.ns.at' fun o e => k₃ _ o hIL.symm e, fun b o e => k₃ b o (fun q => by rw [q, hol _ (Nat.le_refl _)] at e; cases e) (F.keep b o e), F.above⟩
        obtain ⟨kk, hD₃⟩ : h₃.PlainList (I + 1) ys.toArray := hl.at fun o e => k₃ _ o (Nat.ne_of_gt (Nat.lt_succ_self _)) e
        have hns₃ : h₃.Ns (I + 2) m' := hns.at' fun o e => k₃ _ o (Nat.ne_of_gt (Nat.lt_succ_of_lt (Nat.lt_succ_self _))) e
        obtain ⟨oC, _, _, hoC, _⟩ := id hns₃
        refine hRR (I + 1) (I + 2) h₃ tk₃ g ys fam kk oC m' hJ F₃ (fun p hp => ?_) (fun p hp q hq => ?_) (fun p hp => ⟨(hsrcI p hp).2.1, (hsrcI p hp).2.2⟩) (Nat.ne_of_lt (Nat.lt_succ_self _)) hns₃
        · rcases List.mem_append.mp hp with hp | hp
          · exact ⟨k₃ _ _ (hfam p hp).1 (N p (List.mem_append_left _ hp)).1, (N p (List.mem_append_left _ hp)).2⟩
          · rcases List.mem_cons.mp hp with rfl | hp
            · exact ⟨hD₃, hDL, hol _ (Nat.le_add_right _ _)⟩
            · rcases List.mem_cons.mp hp with rfl | hp
              · exact ⟨hoC, hCL, hol _ (Nat.le_add_right _ _)⟩
              · exact ⟨k₃ _ _ (hsrcI p hp).1 (N p (List.mem_append_right _ hp)).1, (N p (List.mem_append_right _ hp)).2⟩
        · rcases List.mem_cons.mp hp with rfl | hp
          · exact (hfam q hq).2.1.symm
          · rcases List.mem_cons.mp hp with rfl | hp
            · exact (hfam q hq).2.2.symm
            · exact hoff p hp q hq
    · have h1 := hnl q (List.mem_append_left _ hq)
      exact ⟨Nat.ne_of_lt h1, Nat.ne_of_lt (Nat.lt_of_lt_of_le h1 (Nat.le_add_right _ _)), Nat.ne_of_lt (Nat.lt_of_lt_of_le h1 (Nat.le_add_right _ _))⟩
  exact codeAny_compStart_list (loop _) ((W A hA).self 0 _ _ _ hst₂ (loop _))

/-- what the source of a comprehension must show -/
def CSrc (prog : Program) (w : World) (s : Shared) (env : Env) (h₀ : Heap) (m : Str → Option Value) (n : Nat) (Pi : Nat → Value → Prop) (J : Nat → List Value → List (Addr × Obj) → Array GenState → Prop) (srcL : List (Addr × Obj)) (v : Value) (s₁ : Shared) : Prop :=
  ∃ (hs : Heap) (ft : Addr → Prop) (h₁ : Heap) (tk : Nat) (g : Array GenState) (news : List (Addr × Obj)), s₁ = { s with heap := h₁, toks := tk, gens := g } ∧ SrcP prog w v n Pi hs ft ∧ Sub hs h₁ ∧ (∀ b, ft b → (∃ o, h₀.get? b = some o) ∨ ∃ o, (b, o) ∈ srcL) ∧
    Fr h₀ env.locals h₁ m ∧ News h₀ env.locals h₁ (news ++ srcL) ∧ (∀ p ∈ srcL, ∀ q ∈ news, p.1 ≠ q.1) ∧ J 0 [] news g

theorem comp_led {n : Nat} {Pi : Nat → Value → Prop} {Q : Value → Shared → Prop} (hF0 : Fr h₀ env.locals s.heap m) (J : Nat → List Value → List (Addr × Obj) → Array GenState → Prop) (srcL : List (Addr × Obj))
    (hA : A.handled = none) (hclos : closureFor scope env = pure cl) (hcell : ∀ y ∈ scope.names, y.2 ≠ .cell) (hkind : scope.kind = .function)
    (hnames : ∀ y ∈ scope.names, y.2 = .local → scope.names.lookup y.1 = some .local) (hx : scope.names.lookup x = some .local)
    (hsrc : wpAny (model prog w) A (eval iter env) (CSrc prog w s env h₀ m n Pi J srcL) E s)
    (hsz : ∀ i ys fam g, J i ys fam g → ys.length ≤ i) (hnz : n ≤ sizeLine)
    (turn : CTurn prog w A s env h₀ x elt ifs scope cl m n Pi J)
    (hQ : ∀ D h tk g ys fam k, J n ys fam g → Fr h₀ env.locals h m → News h₀ env.locals h ((D, listOf ys.toArray k) :: fam ++ srcL) → (∀ p ∈ fam ++ srcL, p.1 ≠ D) → Q (.ref D) { s with heap := h, toks := tk, gens := g })
    (hfold : ∀ x, foldedSetIterable iter env x = pure x := by intro _; rfl) :
    wpAny (model prog w) A (eval (.ListComp elt [⟨.Name x px, iter, ifs, 0⟩] scope pos) env) Q E s := by
  rw [eval_ListComp]
  refine wpAny_comprehension_free (use := none) rfl hfold hclos hkind hnames (wpAny_mono hsrc (fun v s₁ h₁ => ?_) fun _ _ e => e)
  obtain ⟨hs, ft, h₁, tk, g, news, rfl, S, ks, hfo, F₁, N₁, hoff, hJ⟩ := h₁
  refine comp_block_led (J := J) (srcL := srcL) (RR := fun acc C => compPost (model prog w) A E none Q acc C) hA hcell hkind hx S ks hfo F₁ N₁ hoff hJ hsz hnz turn ?_
  intro D C h tk g ys fam k oC m' hJ F N hoff hsrcDC hDC hns
  have hCL : C ≠ env.locals := (N (C, oC) (List.mem_append_right _ (List.mem_cons_of_mem _ (List.mem_cons_self ..)))).2.1
  have hC0 : h₀.get? C = none := (N (C, oC) (List.mem_append_right _ (List.mem_cons_of_mem _ (List.mem_cons_self ..)))).2.2
  refine ⟨m', hns, fun h'' hs'' => hQ D h'' tk g ys fam k hJ ⟨F.ns.sameBut hs'' hCL.symm, fun b o e => hs''.extBut b o (fun q => by rw [q, hC0] at e; cases e) (F.keep b o e), F.above⟩ (fun p hp => ?_) fun p hp => ?_⟩
  · rcases List.mem_cons.mp hp with rfl | hp
    · exact ⟨hs''.extBut _ _ hDC (N _ (List.mem_append_right _ (List.mem_cons_self ..))).1, (N _ (List.mem_append_right _ (List.mem_cons_self ..))).2⟩
    · rcases List.mem_append.mp hp with hp | hp
      · exact ⟨hs''.extBut _ _ (hoff _ (List.mem_cons_of_mem _ (List.mem_cons_self ..)) p hp).symm (N _ (List.mem_append_left _ hp)).1, (N _ (List.mem_append_left _ hp)).2⟩
      · have hm := List.mem_append_right fam (List.mem_cons_of_mem (D, listOf ys.toArray k) (List.mem_cons_of_mem (C, oC) hp))
        exact ⟨hs''.extBut _ _ (hsrcDC p hp).2 (N _ hm).1, (N _ hm).2⟩
  · rcases List.mem_append.mp hp with hp | hp
    · exact (hoff _ (List.mem_cons_self ..) p hp).symm
    · exact (hsrcDC p hp).1

theorem assign_comp_led {n : Nat} {Pi : Nat → Value → Prop} {y : Str} {py spos : Pos} {Q : Flow → Shared → Prop} (hF0 : Fr h₀ env.locals s.heap m) (J : Nat → List Value → List (Addr × Obj) → Array GenState → Prop) (srcL : List (Addr × Obj))
    (hsw : swapsWith (.ListComp elt [⟨.Name x px, iter, ifs, 0⟩] scope pos) (some (.Name y py)) spos.line env = pure true)
    (hA : A.handled = none) (hclos : closureFor scope env = pure cl) (hcell : ∀ y ∈ scope.names, y.2 ≠ .cell) (hkind : scope.kind = .function)
    (hnames : ∀ y ∈ scope.names, y.2 = .local → scope.names.lookup y.1 = some .local) (hx : scope.names.lookup x = some .local)
    (hy : env.kindOf y = some .local) (hp : (env.scope.kind == .class || (env.scope.kind == .module && env.locals != env.globals)) = false)
    (hsrc : wpAny (model prog w) A (eval iter env) (CSrc prog w s env h₀ m n Pi J srcL) E s)
    (hsz : ∀ i ys fam g, J i ys fam g → ys.length ≤ i) (hnz : n ≤ sizeLine)
    (turn : CTurn prog w A s env h₀ x elt ifs scope cl m n Pi J)
    (hQ : ∀ D h tk g ys fam k, J n ys fam g → Fr h₀ env.locals h (fun z => if z = y then some (.ref D) else m z) → News h₀ env.locals h ((D, listOf ys.toArray k) :: fam ++ srcL) → (∀ p ∈ fam ++ srcL, p.1 ≠ D) →
      Q .next { s with heap := h, toks := tk, gens := g })
    (hfold : ∀ x, foldedSetIterable iter env x = pure x := by intro _; rfl) :
    wpAny (model prog w) A (exec (.Assign [.Name y py] (.ListComp elt [⟨.Name x px, iter, ifs, 0⟩] scope pos) spos) env) Q E s := by
  rw [exec_Assign_Name_used _ _ _ _ hsw]
  refine wpAny_bind (wpAny_standAt (wpAny_bind ?_))
  show wpAny _ A (do let _ ← comprehension (.ListComp elt [⟨.Name x px, iter, ifs, 0⟩] scope pos) scope env _ (newList []) false (eval iter env) (some (assign (.Name y py) env))) _ _ s
  refine wpAny_bind (wpAny_mono (wpAny_comprehension_free (use := some (assign (.Name y py) env)) (Q := fun _ s' => Q .next s') rfl hfold hclos hkind hnames
    (wpAny_mono hsrc (fun v s₁ h₁ => ?_) fun _ _ e => e)) (fun _ s' hq => wpAny_pure (wpAny_pure hq)) fun _ _ e => e)
  obtain ⟨hs, ft, h₁, tk, g, news, rfl, S, ks, hfo, F₁, N₁, hoff, hJ⟩ := h₁
  refine comp_block_led (J := J) (srcL := srcL) (RR := fun acc C => compPost (model prog w) A E (some (assign (.Name y py) env)) (fun _ s' => Q .next s') acc C) hA hcell hkind hx S ks hfo F₁ N₁ hoff hJ hsz hnz turn ?_
  intro D C h tk g ys fam k oC m' hJ F N hoff hsrcDC hDC hns
  have hCL : C ≠ env.locals := (N (C, oC) (List.mem_append_right _ (List.mem_cons_of_mem _ (List.mem_cons_self ..)))).2.1
  have hC0 : h₀.get? C = none := (N (C, oC) (List.mem_append_right _ (List.mem_cons_of_mem _ (List.mem_cons_self ..)))).2.2
  show wpAny _ A (assign (.Name y py) env (.ref D)) _ _ _
  refine wpAny_assign_Name (wpAny_storeName_local hy F.ns (fun h₂ hn₂ hs₂ => ?_) hp)
  have F₂ := F.set hn₂ hs₂
  have N₂ := N.set hs₂
  refine ⟨m', hns.sameBut hs₂ hCL, fun h'' hs'' => hQ D h'' _ g ys fam k hJ ⟨F₂.ns.sameBut hs'' hCL.symm, fun b o e => hs''.extBut b o (fun q => by rw [q, hC0] at e; cases e) (F₂.keep b o e), F.above⟩ (fun p hp => ?_) fun p hp => ?_⟩
  · rcases List.mem_cons.mp hp with rfl | hp
    · exact ⟨hs''.extBut _ _ hDC (N₂ _ (List.mem_append_right _ (List.mem_cons_self ..))).1, (N₂ _ (List.mem_append_right _ (List.mem_cons_self ..))).2⟩
    · rcases List.mem_append.mp hp with hp | hp
      · exact ⟨hs''.extBut _ _ (hoff _ (List.mem_cons_of_mem _ (List.mem_cons_self ..)) p hp).symm (N₂ _ (List.mem_append_left _ hp)).1, (N₂ _ (List.mem_append_left _ hp)).2⟩
      · have hm := List.mem_append_right fam (List.mem_cons_of_mem (D, listOf ys.toArray k) (List.mem_cons_of_mem (C, oC) hp))
        exact ⟨hs''.extBut _ _ (hsrcDC p hp).2 (N₂ _ hm).1, (N₂ _ hm).2⟩
  · rcases List.mem_append.mp hp with hp | hp
    · exact (hoff _ (List.mem_cons_self ..) p hp).symm
    · exact (hsrcDC p hp).1
end

end
section

/-- a call of a def of the text's, over the whole heap as its ground -/
theorem def_call {prog : Program} {w : World} {A : Around} {E : Value → Shared → Prop} {s : Shared} {K : Frag} {p : Program} {loose : List Str} {mean : ExcName → Option Value} {mg mb : Str → Option Value}
    {name qual : Str} {params : Arguments} {body : List Stmt} {scope : Scope} {dV kV doc pm cdv ct oc : Value} {an od : Option Addr} {osl : Array (Option Value)} {f : Addr} {args : List Value} {binds : List (Str × Value)} {Q : Value → Shared → Prop}
    (X : K.In s.heap) (T : Top p loose mean mg mb s.heap) (hroom : A.depth < recursionLimit)
    (ho : K.lookup f = some ⟨oc, od, .func (fnOf name qual params body scope dV kV doc pm an cdv ct), osl⟩) (hcd : codeIn K cdv qual = true)
    (hbind : BindsTo s (fnOf name qual params body scope dV kV doc pm an cdv ct) ⟨args, []⟩ binds) (hloc : ∀ y ∈ binds, scope.names.lookup y.1 = some .local)
    (h : ∀ h₁, Fr s.heap s.heap.objs.size h₁ (fun y => binds.reverse.lookup y) →
      wpAny (model prog w) (A.deeper (envOf qual scope s.heap.objs.size f cdv)) (execs body (envOf qual scope s.heap.objs.size f cdv)) (fun fl s' => ∃ r, fl = .ret r ∧ Q r s') NoE { s with heap := h₁, toks := s.toks + binds.length })
    (hco : scope.isCoroutine = false) (hgen : scope.isGenerator = false) (hk : scope.kind = .function) (hcell : ∀ x ∈ scope.names, x.2 ≠ .cell) :
    wpAny (model prog w) A (call (.ref f) args) Q E s := by
  refine wpAny_call ?_
  refine codeAny_call_def (fd := fnOf name qual params body scope dV kV doc pm an cdv ct) (body := body) (binds := binds) hroom (X _ _ ho) rfl T.nolimit (codeRec_of X hcd) rfl hbind hcell hloc (fun h₁ hns hk₁ => ?_) hco hgen hk
  exact wpAny_mono (h h₁ ⟨hns, hk₁, Nat.le_refl _⟩) (fun f s' hq => by obtain ⟨r, rfl, hq⟩ := hq; exact hq) (fun _ _ e => e.elim)

section
variable {M : Model} {A : Around} {E : Value → Shared → Prop} {s : Shared} {K : Frag} {h₀ : Heap} {p : Program} {loose : List Str} {mean : ExcName → Option Value} {mg mb : Str → Option Value} {env : Env} {x : Str} {pos : Pos} {v : Value} {Q : Value → Shared → Prop}
/-- a built-in's name, in any block of the text's -/
theorem name_blt (X : K.In h₀) (T : Top p loose mean mg mb h₀) (k : Sub h₀ s.heap) (e : nsIn K mainGlobals x = some none) (hv : bootBuiltins x = some v) (hn : x ≠ "__name__") (h : Q v s)
    (hgl : env.globals = mainGlobals) (hbl : env.builtins = builtinsNs) (hk : env.scope.kind = .function) (hx : env.kindOf x = some .globalImplicit) (hd : (x == ("__debug__" : Str)) = false) :
    wpAny M A (eval (.Name x pos) env) Q E s :=
  Name_function_global hk hx (loadGlobal_builtin (by rw [hgl]; exact T.g.keeps k) (mg_none_of X T.g e) (by rw [hbl]; exact T.b.keeps k) ((T.builtins x hn).trans hv) h) hd
/-- a global name of the text's, in any block of the text's -/
theorem name_glb (X : K.In h₀) (T : Top p loose mean mg mb h₀) (k : Sub h₀ s.heap) (e : nsIn K mainGlobals x = some (some v)) (h : Q v s)
    (hgl : env.globals = mainGlobals) (hk : env.scope.kind = .function) (hx : env.kindOf x = some .globalImplicit) (hd : (x == ("__debug__" : Str)) = false) :
    wpAny M A (eval (.Name x pos) env) Q E s :=
  Name_function_global hk hx (loadGlobal_global (by rw [hgl]; exact T.g.keeps k) (mg_of X T.g e) h) hd
theorem name_loc {m : Str → Option Value} (hn : s.heap.Ns env.locals m) (hm : m x = some v) (h : Q v s) (hk : env.scope.kind = .function) (hx : env.kindOf x = some .local) (hd : (x == ("__debug__" : Str)) = false) :
    wpAny M A (eval (.Name x pos) env) Q E s := wpAny_Name (wpAny_loadName_local hk hx hn hm h) hd
end

section
variable {prog : Program} {w : World} {A : Around} {E : Value → Shared → Prop} {s : Shared} {K : Frag} {h₀ : Heap} {p : Program} {loose : List Str} {mean : ExcName → Option Value} {mg mb : Str → Option Value} {env : Env} {Q : Value → Shared → Prop}
theorem range_len {y : Str} {py p1 p2 p3 p4 : Pos} {l : Addr} {its : Array Value} (X : K.In h₀) (T : Top p loose mean mg mb h₀) (k : Sub h₀ s.heap) (er : nsIn K mainGlobals "range" = some none) (el : nsIn K mainGlobals "len" = some none)
    (hl : s.heap.IsList l its) (hz : its.size < 2 ^ 60) (hy : ∀ Q' : Value → Shared → Prop, Q' (.ref l) s → wpAny (model prog w) A (eval (.Name y py) env) Q' E s)
    (h : ∀ t u v tk, Q (.ref s.heap.objs.size) { s with heap := s.heap.push { cls := .type "range", data := .fields #[.int 0 t, .int its.size u, .int 1 v] }, toks := tk })
    (hgl : env.globals = mainGlobals) (hbl : env.builtins = builtinsNs) (hk : env.scope.kind = .function) (hxr : env.kindOf "range" = some .globalImplicit) (hxl : env.kindOf "len" = some .globalImplicit) :
    wpAny (model prog w) A (eval (.Call (.Name "range" p1) [.Call (.Name "len" p2) [.Name y py] [] p3] [] p4) env) Q E s := by
  refine Call_ (name_blt X T k er PyProof.Rows.boot_range (by decide) ?_ hgl hbl hk hxr (by decide))
  refine PyProof.Rows.callWith_type1 (Calls.spliced_cons ?_)
  refine Call_ (name_blt X T k el PySem.boot_len (by decide) ?_ hgl hbl hk hxl (by decide))
  refine PyProof.Rows.callWith_builtin1 (Calls.spliced_cons (hy _ (args_nil ?_)))
  refine Calls.call_len_list hl (by omega) (args_nil ?_)
  exact call_range_1 (h _ _ _ _)
end

theorem filter_at {α : Type} {q : α → Bool} {a : α} : ∀ {l : List α} {k : Nat}, l[k]? = some a → q a = true → (l.filter q)[((l.take k).filter q).length]? = some a
  | [], _, h, _ => by simp at h
  | b :: l, 0, h, hq => by
    simp only [List.getElem?_cons_zero, Option.some.injEq] at h
    subst h
    simp [hq]
  | b :: l, k + 1, h, hq => by
    simp only [List.getElem?_cons_succ] at h
    have ih := filter_at (l := l) (k := k) h hq
    cases hb : q b with
    | true => simp [hb, ih]
    | false => simp [hb, ih]
theorem filter_take_succ {α : Type} {q : α → Bool} {a : α} {l : List α} {k : Nat} (h : l[k]? = some a) : ((l.take (k + 1)).filter q).length = ((l.take k).filter q).length + (if q a then 1 else 0) := by
  rw [List.take_add_one, h, List.filter_append, List.length_append]
  cases hq : q a <;> simp [hq]

end
section

theorem walks_imp {prog : Program} {w : World} {A : Around} {I : Addr} {fp wr : List Addr} {n n' : Nat} {P P' : Nat → Value → Prop} {St : Nat → Heap → Prop} (W : Walks prog w A I fp wr n P St) (hn : n = n') (h : ∀ i v, P i v → P' i v) : Walks prog w A I fp wr n' P' St where
  sub := W.sub
  frame := W.frame
  item := fun i s Q E hi st hQ => W.item i s Q E (hn ▸ hi) st fun v h' tk hP st' hk => hQ v h' tk (h i v hP) st' hk
  done := fun s Q E st hQ => W.done s Q E (hn ▸ st) hQ
  self := W.self

section
variable {prog : Program} {w : World} {K : Type} [DecidableEq K] {knd : KeyKind prog w K}
theorem Src.values {v d : Addr} {kvs : List (K × Value)} {ep : Nat} {h : Heap} (hv : h.IsValuesView v d) (hm : h.DictAt knd d kvs ep) : Src prog w (.ref v) (kvs.map (·.2)).toArray h where
  iter := fun A E s Q hh hk hQ => by
    have hvs : s.heap.IsValuesView v d := let ⟨o, e, r⟩ := hv; ⟨o, hk _ _ e, r⟩
    have hms : s.heap.DictAt knd d kvs ep := hm.at' fun o e => hk _ o e
    have hlt : d < s.heap.objs.size := by obtain ⟨_, _, e, _⟩ := hms; exact Heap.lt_size e
    refine wpAny_pyIter_values hvs hms ?_
    refine hQ _ [s.heap.objs.size, d] _ rfl (fun A' hA => walks_imp (Walks.dictValues hA _ _ (Nat.ne_of_lt hlt) kvs ep) (by simp) (fun i v ⟨k, e⟩ => by simp [e])) ⟨⟨_, Heap.get?_push_size _ rfl, rfl, rfl⟩, hms.at' fun o e => Heap.get?_push_of_some _ e⟩ ?_ ?_
    · intro b hb
      rcases List.mem_cons.mp hb with rfl | hb
      · exact .inl rfl
      · rw [List.mem_singleton.mp hb]; obtain ⟨o, _, e, _⟩ := hm; exact .inr ⟨o, e⟩
    · rintro i h' ⟨⟨o, e, _⟩, _⟩; exact ⟨o, e⟩

theorem values_expr {A : Around} {E : Value → Shared → Prop} {s : Shared} {env : Env} {Q : Value → Shared → Prop} {y : Str} {py pa pc : Pos} {d : Addr} {kvs : List (K × Value)} (hm : s.heap.DictOf knd d kvs) (hd : (d == sysModules) = false)
    (hy : ∀ Q' : Value → Shared → Prop, Q' (.ref d) s → wpAny (model prog w) A (eval (.Name y py) env) Q' E s)
    (h : Q (.ref s.heap.objs.size) { s with heap := s.heap.push { cls := .type "dict_values", data := .fields #[.ref d] } })
    (he : ∃ pl, eval (.Call (.Attribute (.Name y py) "values" pa) [] [] pc) env = (do
      let ov ← eval (.Name y py) env
      standAt pa.atName
      let (f, first) ← holding [ov] (getMethod ov "values" pl)
      callWith pc f first (backTo pc (starEach [] env)) [])) :
    wpAny (model prog w) A (eval (.Call (.Attribute (.Name y py) "values" pa) [] [] pc) env) Q E s := by
  obtain ⟨pl, he⟩ := he
  refine MethodCall_ (pl := pl) (hy _ ?_) he
  refine getMethod_builtin hm.typeIs PySem.F.plainAttrs_dict PySem.F.slot_dict_values PySem.F.type_dict_values hm.mapOf.noDict ?_
  refine callWith_method0 ?_
  exact call_meetsIn PySem.F.slot_dict_values hm.typeIs PySem.F.entry_dict_values (PySem.F.args_dict_values_1 _) (meets_dict_values knd d hd) ⟨⟨kvs, hm⟩, h⟩
end

end
section
set_option maxRecDepth 100000 in
set_option maxHeartbeats 8000000 in
open_top hd02 for PySem.Challenge.rw_dm0039_02

end
section

theorem item_any {prog : Program} {w : World} {A : Around} {E : Value → Shared → Prop} {s : Shared} {h₀ : Heap} {L : Addr} {news : List (Addr × Obj)} {value slice : PySem.Expr} {l : Addr} {its : Array Value} {n : Nat} {k : Int} {u : Tok} {Q : Value → Shared → Prop}
    (N : News h₀ L s.heap news) (hm : (l, listOf its n) ∈ news) (h0 : 0 ≤ k) (hlt : k < its.size) (hz : its.size < 2 ^ 60) (h : ∀ v, its[k.toNat]? = some v → Q v s)
    (hs : subscripted slice false (.ref l) (.int k u) = operate [.ref l, .int k u] (getItem (.ref l) (.int k u)) := by with_unfolding_all rfl) (hg : ∀ r, letTemporaryGo value (.ref l) r = pure () := by intro _; with_unfolding_all rfl) :
    wpAny (model prog w) A (subscriptTail value slice (.ref l) (.int k u)) Q E s := by
  have hk : k.toNat < its.size := by omega
  have hx : its[k.toNat]? = some its[k.toNat] := by simp [hk]
  exact item_list ⟨_, (N _ hm).1, rfl, n, rfl⟩ h0 (by omega) hx (h _ hx) hs hg
theorem fmod10_nonneg (x : Int) : 0 ≤ Int.fmod x 10 := Int.fmod_nonneg_of_pos _ (by decide)
theorem fmod10_lt (x : Int) : Int.fmod x 10 < 10 := Int.fmod_lt_of_pos _ (by decide)
local macro_rules | `(tactic| walk_at "subscriptTail") => `(tactic| ((with_reducible show wpAny _ _ (subscriptTail _ _ (Value.ref _) (Value.int (Int.fmod _ _) _)) _ _ _); k_dflt (refine' item_any ?N ?m (fmod10_nonneg _) ?b ?z ?_ ?hs ?hg; (case N => k_asm); (case m => k_mem); (case b => exact fmod10_lt _); (case z => exact (show (10 : Nat) < 2 ^ 60 by decide)); (case hs => with_unfolding_all rfl); (case hg => intro _; with_unfolding_all rfl)); intro v' hv'))

/-- the list of ten things -/
abbrev tenThings (t0 t1 t2 tx : Tok) (l5 l6 : Addr) (x : Int) : Array Value := #[.bool true, .bool false, .int 0 t0, .str (Str.ofString "") t1, .none, .ref l5, .ref l6, .str (Str.ofString "x") t2, .ref 30, .int x tx]

/-- the i-th thing, its lists in the ledger -/
def ThingIn (fam : List (Addr × Obj)) (x : Int) (i : Int) (v : Value) : Prop :=
  ∃ t0 t1 t2 t3 tx l5 l6, (tenThings t0 t1 t2 tx l5 l6 x)[i.toNat]? = some v ∧ (l5, listOf #[] 0) ∈ fam ∧ (l6, listOf #[.int 0 t3] 0) ∈ fam

structure FieldIn (P : Params) (fam : List (Addr × Obj)) (x : Int) (one : Addr) : Prop where
  ex : ∃ d n v1 v2 t1 t2 t3, (one, instObj 54 d) ∈ fam ∧ (d, dictOf [⟨PyData.keyHash P "name", .str "name" t1, n⟩, ⟨PyData.keyHash P "init", .str "init" t2, v1⟩, ⟨PyData.keyHash P "kw_only", .str "kw_only" t3, v2⟩] 3) ∈ fam ∧
    ThingIn fam x (x.fmod 10) v1 ∧ ThingIn fam x ((x.fdiv 10).fmod 10) v2

set_option maxRecDepth 100000 in
set_option maxHeartbeats 8000000 in
theorem field_call : ∀ {w : World} {s : Shared} {h₀ : Heap} {L : Addr} {m mg mb : Str → Option Value} {news : List (Addr × Obj)} {env : Env} {p : Program} {loose : List Str} {mean : ExcName → Option Value} {Q : Value → Shared → Prop} {E : Value → Shared → Prop} {k x : Int} {tk tx : Tok},
    (hd02.heap_39 w.params).In h₀ → Top p loose mean mg mb h₀ → Below callerA h₀ [] h₀ → Fr h₀ L s.heap m → News h₀ L s.heap news → env.frame = some L → env.scope.kind = .function → 0 ≤ k → k < 63 →
    (∀ (one : Addr) (fam : List (Addr × Obj)) (h' : Heap) (tk' : Nat), Fr h₀ L h' m → News h₀ L h' (fam ++ news) → FieldIn w.params fam x one → (∀ p ∈ fam, ∀ q ∈ news, q.1 < p.1) → Q (.ref one) { s with heap := h', toks := tk' }) →
    wpAny (model PySem.Challenge.rw_dm0039_02.row.prog w) (callerA.deeper env) (call (.ref 72) [.int k tk, .int x tx]) Q E s := by
  w_on
  k_fill
  intro w s h₀ L m mg mb news env p loose mean Q E k x tk tx X T B F N hf hk hk0 hk63 hQ
  w_top off
  w_strict (
    refine wpAny_call ?_
    refine' code_def B F X N T ?kA ?kF ?kK ?k6 ?k7 ?k8 ?k9 ?kB ?_ ?c2 ?c3 ?c4 ?c5; (case kA => exact rfl); (case kF => exact hf); (case kK => exact hk); (case k6 => k_is); (case k7 => k_is); (case k8 => k_room); (case k9 => exact BindsTo.of_eq rfl); (case c5 => decide); (case kB => exact locs rfl); (case c2 => exact rfl); (case c3 => exact rfl); (case c4 => exact rfl); intro g' L' h' FG' F' N' B' X' T'; (try dsimp only)
    k_steps)
  rename Fr h₀ L _ m => kF
  rename News h₀ L _ _ => kN
  rename (∀ (p : Addr × Obj), p ∈ news → p.fst < _) => l5
  refine hQ _ [_, _, _, _, _] _ _ kF kN ⟨_, _, _, _, _, _, _, List.Mem.head _, List.Mem.tail _ (List.Mem.head _), ⟨_, _, _, _, _, _, _, by assumption, List.Mem.tail _ (List.Mem.tail _ (List.Mem.tail _ (List.Mem.tail _ (List.Mem.head _)))), List.Mem.tail _ (List.Mem.tail _ (List.Mem.tail _ (List.Mem.head _)))⟩, ⟨_, _, _, _, _, _, _, by assumption, List.Mem.tail _ (List.Mem.tail _ (List.Mem.tail _ (List.Mem.tail _ (List.Mem.head _)))), List.Mem.tail _ (List.Mem.tail _ (List.Mem.tail _ (List.Mem.head _)))⟩⟩ ?_
  intro p hp q hq
  have h5 := ltN (l5 q hq)
  simp only [List.mem_cons, List.not_mem_nil, or_false] at hp
  refine ltN ?_
  rcases hp with rfl | rfl | rfl | rfl | rfl <;> (dsimp only; omega)

end
section

/-- which of the ten things are true -/
def tr (i : Int) : Bool := i == 0 || (6 ≤ i && i ≤ 9)

theorem truthy_inst {prog : Program} {w : World} {A : Around} {E : Value → Shared → Prop} {s : Shared} {K : Frag} {x C : Addr} {ox : Obj} {od : Option Obj} {Q : Bool → Shared → Prop} (X : K.In s.heap) (I : InstAt s.heap x ox C od) (hs : findIn K (.ref C) "__bool__" = some none) (hl : findIn K (.ref C) "__len__" = some none)
    (h : Q true s) : wpAny (model prog w) A (truthy (.ref x)) Q E s := by
  unfold truthy
  refine wpAny_bind (m := callSpecial? (.ref x) (Str.ofString "__bool__")) (wpAny_bind (wpAny_bind (I.type.here ((looks_findIn X hs).here (wpAny_pure ?_)))))
  refine wpAny_bind (wpAny_bind (I.type.here ((looks_findIn X hl).here ?_)))
  exact wpAny_pure h

set_option maxRecDepth 100000 in
set_option maxHeartbeats 8000000 in
theorem thing_truth : ∀ {w : World} {A : Around} {E : Value → Shared → Prop} {t : Shared} {Q : Bool → Shared → Prop} {fam : List (Addr × Obj)} {x i : Int} {v : Value},
    (hd02.heap_39 w.params).In t.heap → (∀ p ∈ fam, t.heap.get? p.1 = some p.2) → ThingIn fam x i v → 0 ≤ i → i < 10 → (i = 9 → x ≠ 0) →
    (∀ (h' : Heap) (tk : Nat), Sub t.heap h' → Q (tr i) { t with heap := h', toks := tk }) → wpAny (model PySem.Challenge.rw_dm0039_02.row.prog w) A (truthy v) Q E t := by
  w_on
  k_fill
  rintro w A E t Q fam x i v X hfam ⟨t0, t1, t2, t3, tx, l5, l6, hv, h5, h6⟩ h0 h10 h9 hQ
  have hQ0 : ∀ b tk, b = tr i → Q b { t with toks := tk } := fun b tk e => e ▸ hQ t.heap tk fun _ _ e => e
  have hcases : i = 0 ∨ i = 1 ∨ i = 2 ∨ i = 3 ∨ i = 4 ∨ i = 5 ∨ i = 6 ∨ i = 7 ∨ i = 8 ∨ i = 9 := by omega
  rcases hcases with rfl | rfl | rfl | rfl | rfl | rfl | rfl | rfl | rfl | rfl
  · cases hv; exact wpAny_truthy_bool (hQ0 _ _ rfl)
  · cases hv; exact wpAny_truthy_bool (hQ0 _ _ rfl)
  · cases hv; exact PySem.P.truthy_int (hQ0 _ _ rfl)
  · cases hv; exact PySem.P.truthy_str (by decide) (hQ0 _ _ rfl)
  · cases hv; exact truthy_none (hQ0 _ _ rfl)
  · cases hv; exact wpAny_truthy_list (items := #[]) ⟨_, hfam _ h5, rfl, 0, rfl⟩ (by decide) (hQ0 _ _ rfl)
  · cases hv; exact wpAny_truthy_list (items := #[.int 0 t3]) ⟨_, hfam _ h6, rfl, 0, rfl⟩ (by show ((1 : Nat) : Int) < 2 ^ 63; decide) (hQ0 _ _ rfl)
  · cases hv; exact PySem.P.truthy_str (by decide) (hQ0 _ _ rfl)
  · cases hv
    have I : InstAt t.heap 30 _ 24 _ := InstAt.of_K X (by k_is) (by k_is)
    exact truthy_inst X I (by k_is) (by k_is) (hQ0 _ _ rfl)
  · cases hv; exact PySem.P.truthy_int (hQ0 _ _ (by have := h9 rfl; simp [tr, this]))

set_option maxRecDepth 100000 in
set_option maxHeartbeats 8000000 in
theorem field_truth : ∀ {w : World} {hb : Heap} {D U : Nat} {fam : List (Addr × Obj)} {x : Int} {one : Addr},
    (hd02.heap_39 w.params).In hb → (∀ p ∈ fam, hb.get? p.1 = some p.2) → FieldIn w.params fam x one →
    AttrTruth PySem.Challenge.rw_dm0039_02.row.prog w hb D U (.ref one) "init" (tr (x.fmod 10)) ∧ AttrTruth PySem.Challenge.rw_dm0039_02.row.prog w hb D U (.ref one) "kw_only" (tr ((x.fdiv 10).fmod 10)) := by
  w_on
  k_fill
  rintro w hb D U fam x one X hfam ⟨d, n, v1, v2, t1, t2, t3, h1, h2, th1, th2⟩
  have hd : ∀ i v, ThingIn fam x i v → handedIn v = true := by
    rintro i v ⟨t0, t1, t2, t3, tx, l5, l6, hv, _, _⟩
    have hm := Array.mem_of_getElem? hv
    simp only [List.mem_toArray, List.mem_cons, List.not_mem_nil, or_false] at hm
    rcases hm with rfl | rfl | rfl | rfl | rfl | rfl | rfl | rfl | rfl | rfl <;> rfl
  constructor
  · intro A E t Q hh hD hU hk hQ
    have X' := X.keeps hk
    have I : InstAt t.heap one (instObj 54 d) 54 (some (dictOf _ 3)) := ⟨hk _ _ (hfam _ h1), rfl, rfl, hk _ _ (hfam _ h2)⟩
    refine get_value X' I (plainGet_of (K := hd02.heap_39 w.params) (C := 54) (name := "init") (by k_is)).1 (findObj_own (attr := none) (by k_is) (by k_is) (by rfl) (by rw [lookIn_dict]; rfl)) (hd _ _ th1) ?_
    refine thing_truth (t := { t with toks := t.toks + 1 }) X' (fun p hp => hk _ _ (hfam p hp)) th1 (fmod10_nonneg _) (fmod10_lt _) (fun h9 e => ?_) fun h' tk k => hQ h' tk k
    subst e; exact absurd h9 (by decide)
  · intro A E t Q hh hD hU hk hQ
    have X' := X.keeps hk
    have I : InstAt t.heap one (instObj 54 d) 54 (some (dictOf _ 3)) := ⟨hk _ _ (hfam _ h1), rfl, rfl, hk _ _ (hfam _ h2)⟩
    refine get_value X' I (plainGet_of (K := hd02.heap_39 w.params) (C := 54) (name := "kw_only") (by k_is)).1 (findObj_own (attr := none) (by k_is) (by k_is) (by rfl) (by rw [lookIn_dict]; rfl)) (hd _ _ th2) ?_
    refine thing_truth (t := { t with toks := t.toks + 1 }) X' (fun p hp => hk _ _ (hfam p hp)) th2 (fmod10_nonneg _) (fmod10_lt _) (fun h9 e => ?_) fun h' tk k => hQ h' tk k
    subst e; exact absurd h9 (by decide)

end
section
theorem kitTup {h₀ h : Heap} {L t : Addr} {m : Str → Option Value} {its : Array Value} (ht : IsTup h₀ t its) (F : Fr h₀ L h m) : KitAt t "tuple" h := by
  obtain ⟨o, ho, hc, n, hd⟩ := ht
  obtain ⟨c, d, dt, sl⟩ := o
  exact ⟨_, F.keep _ _ ho, hc⟩
local macro_rules | `(tactic| walk_at "call type:type") => `(tactic| ((with_reducible show wpAny _ _ (call (Value.type "type") [Value.ref _]) _ _ _); refine' kto_cont (T := "tuple") ?k ?h ?_; (case k => exact kitTup (by assumption) (by k_asm)); (case h => decide)))
local macro_rules | `(tactic| walk_at "eval ListComp") => `(tactic| (refine Held.mk ?_))
local macro_rules | `(tactic| walk_at "exec For Name Call cons nil") => `(tactic| (refine Held.mk ?_))

theorem newsHead {h₀ h : Heap} {L : Addr} {p : Addr × Obj} {r : List (Addr × Obj)} (N : News h₀ L h (p :: r)) : News h₀ L h [p] := fun q hq => by rw [List.mem_singleton.mp hq]; exact N p (List.Mem.head _)
theorem newsSub {h₀ h : Heap} {L : Addr} {r r' : List (Addr × Obj)} (N : News h₀ L h r) (k : ∀ p ∈ r', p ∈ r) : News h₀ L h r' := fun p hp => N p (k p hp)
theorem newsNil {h₀ h : Heap} {L : Addr} {r : List (Addr × Obj)} (N : News h₀ L h r) : News h₀ L h (r ++ []) := by rw [List.append_nil]; exact N
theorem newsPush {h₀ h : Heap} {L : Addr} {m : Str → Option Value} {r : List (Addr × Obj)} (hF0 : Fr h₀ L h m) (N : News h₀ L h r) (o : Obj) : News h₀ L (h.push o) r := fun q hq => ⟨Heap.get?_push_of_some _ (N q hq).1, (N q hq).2⟩
theorem any_tr {i : Int} (h0 : 0 ≤ i) (h10 : i < 10) : ([0, 6, 7, 8, 9].any fun y => y == i) = tr i := by
  have : i = 0 ∨ i = 1 ∨ i = 2 ∨ i = 3 ∨ i = 4 ∨ i = 5 ∨ i = 6 ∨ i = 7 ∨ i = 8 ∨ i = 9 := by omega
  rcases this with rfl | rfl | rfl | rfl | rfl | rfl | rfl | rfl | rfl | rfl <;> rfl
theorem map_set {m : Str → Option Value} {x : Str} {v : Value} (h : m x = some v) : (fun y => if y = x then some v else m y) = m := by
  funext y
  by_cases e : y = x
  · rw [if_pos e, e, h]
  · rw [if_neg e]
def side0 (q : Value × Int) : Bool := tr (q.2.fmod 10) && !tr ((q.2.fdiv 10).fmod 10)
def side1 (q : Value × Int) : Bool := tr (q.2.fmod 10) && tr ((q.2.fdiv 10).fmod 10)
theorem tr_iff {i : Int} (h0 : 0 ≤ i) (h10 : i < 10) : tr i = true ↔ (i = 0 ∨ i = 6 ∨ i = 7 ∨ i = 8 ∨ i = 9) := by
  unfold tr
  simp only [Bool.or_eq_true, beq_iff_eq, Bool.and_eq_true, decide_eq_true_eq]
  omega

section
variable {prog : Program} {w : World} {A : Around} {E : Value → Shared → Prop} {s : Shared} {h₀ : Heap} {L : Addr} {m : Str → Option Value} {value slice : PySem.Expr} {l : Addr} {its : Array Value} {k : Int} {u : Tok} {v : Value} {Q : Value → Shared → Prop}
theorem item_base (hl : h₀.IsList l its) (F : Fr h₀ L s.heap m) (hx : its[k.toNat]? = some v) (h0 : 0 ≤ k) (hfit : k < 2 ^ 63) (h : Q v s)
    (hs : subscripted slice false (.ref l) (.int k u) = operate [.ref l, .int k u] (getItem (.ref l) (.int k u))) (hg : ∀ r, letTemporaryGo value (.ref l) r = pure ()) :
    wpAny (model prog w) A (subscriptTail value slice (.ref l) (.int k u)) Q E s := item_list (hl.at fun o e => F.keep _ o e) h0 hfit hx h hs hg
theorem item_baseT (hl : IsTup h₀ l its) (F : Fr h₀ L s.heap m) (hx : its[k.toNat]? = some v) (h0 : 0 ≤ k) (hfit : k < 2 ^ 63) (h : Q v s)
    (hs : subscripted slice false (.ref l) (.int k u) = operate [.ref l, .int k u] (getItem (.ref l) (.int k u))) (hg : ∀ r, letTemporaryGo value (.ref l) r = pure ()) :
    wpAny (model prog w) A (subscriptTail value slice (.ref l) (.int k u)) Q E s := by
  have hlt : k.toNat < its.size := by
    rcases Nat.lt_or_ge k.toNat its.size with h | h
    · exact h
    · rw [Array.getElem?_eq_none h] at hx; cases hx
  refine item_tuple (hl.keeps F.keep) (by omega) hfit (j := k.toNat) ?_ hx h hs hg
  unfold seqIndex?
  simp only [if_neg (show ¬ k < 0 by omega)]
  rw [if_pos (by simp only [Bool.and_eq_true, decide_eq_true_eq]; omega)]
end
local macro_rules | `(tactic| walk_at "subscriptTail Name Name ref int") => `(tactic| ((with_reducible show wpAny _ _ (subscriptTail _ _ (Value.ref _) (Value.int (Nat.cast _) _)) _ _ _); (first | (refine' item_base ?a ?F ?d ?b ?c ?_ ?hs ?hg; (case a => assumption)) | (refine' item_baseT ?a ?F ?d ?b ?c ?_ ?hs ?hg; (case a => assumption))); (case F => k_asm); (case d => assumption); (case b => omega); (case c => omega); (case hs => with_unfolding_all rfl); (case hg => intro _; with_unfolding_all rfl)))
local macro_rules | `(tactic| walk_at "subscriptTail") => `(tactic| ((with_reducible show wpAny _ _ (subscriptTail _ _ (Value.ref _) (Value.int (Nat.cast _) _)) _ _ _); (first | (refine' item_base ?a ?F ?d ?b ?c ?_ ?hs ?hg; (case a => assumption)) | (refine' item_baseT ?a ?F ?d ?b ?c ?_ ?hs ?hg; (case a => assumption))); (case F => k_asm); (case d => assumption); (case b => omega); (case c => omega); (case hs => with_unfolding_all rfl); (case hg => intro _; with_unfolding_all rfl)))
theorem item_news {prog : Program} {w : World} {A : Around} {E : Value → Shared → Prop} {s : Shared} {h₀ : Heap} {L : Addr} {news : List (Addr × Obj)} {value slice : PySem.Expr} {l : Addr} {its : Array Value} {n : Nat} {k : Int} {u : Tok} {v : Value} {Q : Value → Shared → Prop}
    (N : News h₀ L s.heap news) (hm : (l, listOf its n) ∈ news) (hx : its[k.toNat]? = some v) (h0 : 0 ≤ k) (hfit : k < 2 ^ 63) (h : Q v s)
    (hs : subscripted slice false (.ref l) (.int k u) = operate [.ref l, .int k u] (getItem (.ref l) (.int k u))) (hg : ∀ r, letTemporaryGo value (.ref l) r = pure ()) :
    wpAny (model prog w) A (subscriptTail value slice (.ref l) (.int k u)) Q E s := item_list ⟨_, (N _ hm).1, rfl, n, rfl⟩ h0 hfit hx h hs hg
section
variable {prog : Program} {w : World} {A : Around} {E : Value → Shared → Prop} {s : Shared} {h₀ : Heap} {L : Addr} {news : List (Addr × Obj)} {value slice : PySem.Expr} {l : Addr} {v0 v1 : Value} {n : Nat} {u : Tok} {Q : Value → Shared → Prop}
theorem item2_0 (N : News h₀ L s.heap news) (hm : (l, listOf #[v0, v1] n) ∈ news) (h : Q v0 s)
    (hs : subscripted slice false (.ref l) (.int 0 u) = operate [.ref l, .int 0 u] (getItem (.ref l) (.int 0 u))) (hg : ∀ r, letTemporaryGo value (.ref l) r = pure ()) :
    wpAny (model prog w) A (subscriptTail value slice (.ref l) (.int 0 u)) Q E s := item_news N hm rfl (by decide) (by decide) h hs hg
theorem item2_1 (N : News h₀ L s.heap news) (hm : (l, listOf #[v0, v1] n) ∈ news) (h : Q v1 s)
    (hs : subscripted slice false (.ref l) (.int 1 u) = operate [.ref l, .int 1 u] (getItem (.ref l) (.int 1 u))) (hg : ∀ r, letTemporaryGo value (.ref l) r = pure ()) :
    wpAny (model prog w) A (subscriptTail value slice (.ref l) (.int 1 u)) Q E s := item_news N hm rfl (by decide) (by decide) h hs hg
end
local macro_rules | `(tactic| walk_at "subscriptTail Name Name ref int") => `(tactic| ((with_reducible show wpAny _ _ (subscriptTail _ _ (Value.ref _) (Value.int 0 _)) _ _ _); k_dflt (refine' item2_0 ?N ?m ?_ ?hs ?hg; (case N => k_asm); (case m => k_mem); (case hs => with_unfolding_all rfl); (case hg => intro _; with_unfolding_all rfl))))
local macro_rules | `(tactic| walk_at "subscriptTail Name Name ref int") => `(tactic| ((with_reducible show wpAny _ _ (subscriptTail _ _ (Value.ref _) (Value.int 1 _)) _ _ _); k_dflt (refine' item2_1 ?N ?m ?_ ?hs ?hg; (case N => k_asm); (case m => k_mem); (case hs => with_unfolding_all rfl); (case hg => intro _; with_unfolding_all rfl))))
theorem len_base {prog : Program} {w : World} {A : Around} {E : Value → Shared → Prop} {s : Shared} {h₀ : Heap} {L : Addr} {m : Str → Option Value} {l : Addr} {its : List Value} {Q : Value → Shared → Prop} (hl : IsTup h₀ l its.toArray) (F : Fr h₀ L s.heap m) (hz : its.length < 2 ^ 60) (h : ∀ tk t, Q (.int its.length t) { s with toks := tk }) :
    wpAny (model prog w) A (call (.builtin "len") [.ref l]) Q E s := len_tuple (hl.keeps F.keep) (by rw [List.size_toArray]; omega) (by rw [List.size_toArray]; exact h _ _)
local macro_rules | `(tactic| walk_at "call builtin:len") => `(tactic| ((with_reducible show wpAny _ _ (call (Value.builtin "len") [Value.ref _]) _ _ _); (refine' len_base ?a ?F ?z ?_; (case a => assumption); (case F => k_asm); (case z => omega)); intro tk' t'))
set_option maxRecDepth 100000 in
set_option maxHeartbeats 8000000 in
theorem agrees_call : ∀ {w : World} {s : Shared} {mg mb : Str → Option Value} {env : Env} {p : Program} {loose : List Str} {mean : ExcName → Option Value} {Q : Value → Shared → Prop} {E : Value → Shared → Prop}
    {t t1 t2 r l : Addr} {vs : List Value} {ns : List Int} {rv its1 its2 : List Value},
    (hd02.heap_39 w.params).In s.heap → Top p loose mean mg mb s.heap → s.heap.IsList l vs.toArray → IntsAre vs ns → ns.length ≤ 63 →
    IsTup s.heap t #[.ref t1, .ref t2] → IsTup s.heap t1 its1.toArray → IsTup s.heap t2 its2.toArray → s.heap.IsList r rv.toArray → rv.length = ns.length →
    its1 = ((rv.zip ns).filter side0).map (·.1) → its2 = ((rv.zip ns).filter side1).map (·.1) → (∀ v ∈ rv, ∃ a, v = .ref a) →
    (∀ (h' : Heap) (tk : Nat), Sub s.heap h' → Q (.bool true) { s with heap := h', toks := tk }) →
    wpAny (model PySem.Challenge.rw_dm0039_02.row.prog w) (callerA.deeper env) (call (.ref 77) [.ref t, .ref r, .ref l]) Q E s := by
  w_on
  k_fill
  intro w s mg mb env p loose mean Q E t t1 t2 r l vs ns rv its1 its2 X T hl hi hlen ht ht1 ht2 hr hrl h1 h2 href hQ
  w_top off
  w_strict (
    refine' def_call X T (by k_room) ?ho ?hcd ?hb ?hloc ?main ?c1 ?c2 ?c3 ?hcell
    (case ho => k_is)
    (case hcd => k_is)
    (case hb => exact BindsTo.of_eq rfl)
    (case hcell => decide)
    (case hloc => exact locs rfl)
    (case c1 => exact rfl)
    (case c2 => exact rfl)
    (case c3 => exact rfl)
    intro h₁ F
    have N : News s.heap s.heap.objs.size h₁ [] := News.nil
    (try dsimp only)
    k_unmd
    k_fold
    k_steps)
  rename Fr s.heap s.heap.objs.size _ _ => F
  rename News s.heap s.heap.objs.size _ _ => N
  rename Heap => h₁
  refine Held.of (comp_led (n := 2) (Pi := fun i v => #[Value.ref t1, Value.ref t2][i]? = some v) (cl := []) F (fun i ys fam g => ys = List.replicate i (.bool true) ∧ fam = [] ∧ g = s.gens) [] rfl rfl (by decide) rfl (by decide) rfl ?src ?sz ?nz ?turn ?Q)
  case sz => rintro i ys fam g ⟨rfl, _, _⟩; simp
  case nz => decide
  case src =>
    refine name_loc F.ns (v := .ref t) rfl ?_ rfl rfl (by decide)
    exact ⟨s.heap, _, h₁, _, s.gens, [], rfl, Src.tuple ht, F.keep, fun b e => .inl e, F, News.nil, (fun _ h => nomatch h), rfl, rfl, rfl⟩
  case turn =>
    rintro C i v h tk g m₃ fam ys own hi hv ⟨rfl, rfl, rfl⟩ hns hm hCL hC F' N' hoff
    refine wpAny_tests_nil ?_
    rw [if_pos rfl]
    have hty : KitAt (match v with | .ref a => a | _ => 0) "tuple" h ∧ ∃ a, v = .ref a := by
      have hc : i = 0 ∨ i = 1 := by omega
      rcases hc with rfl | rfl
      · cases hv; exact ⟨kitTup ht1 F', _, rfl⟩
      · cases hv; exact ⟨kitTup ht2 F', _, rfl⟩
    obtain ⟨hty, a, rfl⟩ := hty
    refine wpAny_Compare1 (Call_ (name_blt X T F'.keep (by k_is) boot_type (by decide) (PyProof.Rows.callWith_type1 (Calls.spliced_cons (name_loc hns hm (args_nil ?_) rfl rfl (by decide)))) rfl rfl rfl rfl (by decide)))
    refine kto_cont (T := "tuple") hty (by decide) ?_
    refine name_blt X T F'.keep (by k_is) boot_tuple (by decide) ?_ rfl rfl rfl rfl (by decide)
    refine wpAny_is_self (by rfl) ?_
    exact ⟨h, tk, s.gens, [], rfl, F', N', hoff, by simp [List.replicate_succ'], rfl, rfl⟩
  case Q =>
    rintro D h tk g ys fam k ⟨rfl, rfl, rfl⟩ F' N' hD
    simp only [List.replicate, List.nil_append, List.append_nil, List.cons_append] at N'
    clear N F
    w_strict (k_steps)
    rename Fr s.heap s.heap.objs.size _ _ => F₂
    rename News s.heap s.heap.objs.size _ _ => N₂
    refine Held.of ?_
    refine for_led (h₀ := s.heap) (n := ns.length) (Pi := fun i v => ∃ t, v = .int i t) (fun i m₂ news₂ g => g = s.gens ∧ m₂ "told" = some (.ref t) ∧ m₂ "row" = some (.ref r) ∧ m₂ "script" = some (.ref l) ∧
      ∃ a n t1' t2', m₂ "at" = some (.ref a) ∧ news₂ = [(a, listOf #[.int (((rv.zip ns).take i).filter side0).length t1', .int (((rv.zip ns).take i).filter side1).length t2'] n)]) rfl rfl rfl ?_
    have hls : s.heap.IsList l vs.toArray := hl
    refine range_len X T F₂.keep (by k_is) (by k_is) (hl.at fun o e => F₂.keep _ o e) (by have := hi.length; rw [List.size_toArray]; omega) (fun Q' hq => name_loc F₂.ns (v := .ref l) rfl hq rfl rfl (by decide)) (fun ta tb tc tkr => ?_) rfl rfl rfl rfl rfl
    have hn0 : vs.toArray.size = ns.length := by rw [List.size_toArray, hi.length]
    have N₁ := newsPush F₂ (newsHead N₂) { cls := .type "range", data := .fields #[.int 0 ta, .int vs.toArray.size tb, .int 1 tc] }
    refine ⟨_, fun _ => False, _, _, s.gens, _, _, [], rfl, SrcP.range (n := ns.length) (by rw [← hn0]; exact Heap.get?_push_size _ rfl) (by omega), fun _ _ e => e, fun b e => e.elim, F₂.push _, newsNil N₁, (fun _ h => nomatch h), ?J, ?turn, ?done⟩
    case J => exact ⟨rfl, rfl, rfl, rfl, _, _, _, _, rfl, rfl⟩
    case done =>
      rintro m₂ news₂ h tk g ⟨rfl, hm1, hm2, hm3, a, n, t1', t2', hm4, rfl⟩ F' N'
      have htk : (rv.zip ns).take ns.length = rv.zip ns := List.take_of_length_le (by rw [List.length_zip]; omega)
      have hl1 : ((rv.zip ns).filter side0).length = its1.length := by rw [h1, List.length_map]
      have hl2 : ((rv.zip ns).filter side1).length = its2.length := by rw [h2, List.length_map]
      rw [htk, hl1, hl2, List.append_nil] at N'
      have hz1 : its1.length < 2 ^ 60 := by
        rw [h1, List.length_map]; refine Nat.lt_of_le_of_lt (List.length_filter_le _ _) ?_; rw [List.length_zip]; omega
      have hz2 : its2.length < 2 ^ 60 := by
        rw [h2, List.length_map]; refine Nat.lt_of_le_of_lt (List.length_filter_le _ _) ?_; rw [List.length_zip]; omega
      have F₃ : Fr s.heap s.heap.objs.size h (fun y => if y = Str.ofString "told" then some (.ref t) else if y = Str.ofString "at" then some (.ref a) else m₂ y) := by
        have e : (fun y => if y = Str.ofString "told" then some (.ref t) else (fun y => if y = Str.ofString "at" then some (.ref a) else m₂ y) y) = m₂ := by rw [map_set hm4, map_set hm1]
        exact e.symm ▸ F'
      clear F' F₂ N₂ N₁
      w_strict (k_steps)
      exact hQ _ _ (Fr.keep (by assumption))
    case turn =>
      rintro i v m₂ news₂ h tk g own hin ⟨t', rfl⟩ ⟨rfl, hm1, hm2, hm3, a, n, t1', t2', hm4, rfl⟩ hoff F' N'
      obtain ⟨tx, hx⟩ := hi.get i ns[i] (by simp [hin])
      have hx' : vs.toArray[(i : Int).toNat]? = some (.int ns[i] tx) := by simpa using hx
      generalize hxe : ns[i] = x at hx hx'
      have hri : i < rv.length := by omega
      obtain ⟨ra, hra⟩ := href rv[i] (List.getElem_mem hri)
      have hr' : rv.toArray[(i : Int).toNat]? = some (.ref ra) := by simp [← hra, hri]
      have hz : (rv.zip ns)[i]? = some (.ref ra, x) := by rw [List.getElem?_zip_eq_some]; exact ⟨by simp [← hra, hri], by simp [← hxe, hin]⟩
      have F₃ : Fr s.heap s.heap.objs.size h (fun y => if y = Str.ofString "k" then some (.int i t') else if y = Str.ofString "told" then some (.ref t) else if y = Str.ofString "row" then some (.ref r) else if y = Str.ofString "script" then some (.ref l) else if y = Str.ofString "at" then some (.ref a) else m₂ y) := by
        have e : (fun y => if y = Str.ofString "told" then some (.ref t) else (fun y => if y = Str.ofString "row" then some (.ref r) else (fun y => if y = Str.ofString "script" then some (.ref l) else (fun y => if y = Str.ofString "at" then some (.ref a) else m₂ y) y) y) y) = m₂ := by rw [map_set hm4, map_set hm3, map_set hm2, map_set hm1]
        have F₄ := F'
        rw [← e] at F₄
        exact F₄
      clear F' F₂ N₂
      rw [List.cons_append, List.nil_append] at N'
      have l0 : OwnOff own [a] := fun p hp b hb => by rw [List.mem_singleton.mp hb]; exact hoff p hp _ (List.Mem.head _)
      have hf0 := fmod10_nonneg x
      have hf1 := fmod10_lt x
      have hf2 := fmod10_nonneg (x.fdiv 10)
      have hf3 := fmod10_lt (x.fdiv 10)
      have s0 := filter_take_succ (q := side0) hz
      have s1 := filter_take_succ (q := side1) hz
      generalize hc0 : (((rv.zip ns).take i).filter side0).length = c0 at N' s0
      generalize hc1 : (((rv.zip ns).take i).filter side1).length = c1 at N' s1
      have hz1 : its1.length < 2 ^ 60 := by
        rw [h1, List.length_map]; refine Nat.lt_of_le_of_lt (List.length_filter_le _ _) ?_; rw [List.length_zip]; omega
      have hz2 : its2.length < 2 ^ 60 := by
        rw [h2, List.length_map]; refine Nat.lt_of_le_of_lt (List.length_filter_le _ _) ?_; rw [List.length_zip]; omega
      have e1 : ([0, 6, 7, 8, 9].any fun y => y == x.fmod 10) = tr (x.fmod 10) := any_tr hf0 hf1
      have e2 : ([0, 6, 7, 8, 9].any fun y => y == (x.fdiv 10).fmod 10) = tr ((x.fdiv 10).fmod 10) := any_tr hf2 hf3
      cases hA : tr (x.fmod 10) with
      | true =>
        rw [hA] at e1
        cases hB : tr ((x.fdiv 10).fmod 10) with
        | true =>
          rw [hB] at e2
          have q0 : side0 (.ref ra, x) = false := by simp [side0, hB]
          have q1 : side1 (.ref ra, x) = true := by simp [side1, hA, hB]
          rw [q0] at s0; rw [q1] at s1
          have hat := filter_at hz q1
          rw [hc1] at hat
          have hat2 : its2.toArray[(c1 : Int).toNat]? = some (.ref ra) := by simp [h2, hat]
          have hlt2 : c1 < its2.length := by
            rw [h2, List.length_map]
            rcases Nat.lt_or_ge c1 ((rv.zip ns).filter side1).length with h | h
            · exact h
            · rw [List.getElem?_eq_none h] at hat; cases hat
          w_strict (k_steps)
          all_goals try (exfalso; rename ((List.any _ fun y => y == x.fmod 10) = false) => q; rw [e1] at q; cases q)
          all_goals try (exfalso; rename ((List.any _ fun y => y == (x.fdiv 10).fmod 10) = false) => q; rw [e2] at q; cases q)
          all_goals try (exfalso; omega)
          rename Fr s.heap s.heap.objs.size _ _ => Fz
          rename News s.heap s.heap.objs.size _ _ => Nz
          refine ⟨_, _, _, _, [(_, _)], rfl, Fz, newsSub Nz (fun p hp => by first | exact hp | exact .tail _ hp | exact .tail _ (.tail _ hp)), (fun p hp q hq => by rw [List.mem_singleton.mp hq]; exact l0.ne (List.Mem.head _) p hp), rfl, rfl, rfl, rfl, a, n, _, _, rfl, by rw [s0, s1]; rfl⟩
        | false =>
          rw [hB] at e2
          have q1 : side1 (.ref ra, x) = false := by simp [side1, hB]
          have q0 : side0 (.ref ra, x) = true := by simp [side0, hA, hB]
          rw [q0] at s0; rw [q1] at s1
          have hat := filter_at hz q0
          rw [hc0] at hat
          have hat2 : its1.toArray[(c0 : Int).toNat]? = some (.ref ra) := by simp [h1, hat]
          have hlt2 : c0 < its1.length := by
            rw [h1, List.length_map]
            rcases Nat.lt_or_ge c0 ((rv.zip ns).filter side0).length with h | h
            · exact h
            · rw [List.getElem?_eq_none h] at hat; cases hat
          w_strict (k_steps)
          all_goals try (exfalso; rename ((List.any _ fun y => y == x.fmod 10) = false) => q; rw [e1] at q; cases q)
          all_goals try (exfalso; rename ((List.any _ fun y => y == (x.fdiv 10).fmod 10) = true) => q; rw [e2] at q; cases q)
          all_goals try (exfalso; omega)
          rename Fr s.heap s.heap.objs.size _ _ => Fz
          rename News s.heap s.heap.objs.size _ _ => Nz
          refine ⟨_, _, _, _, [(_, _)], rfl, Fz, newsSub Nz (fun p hp => by first | exact hp | exact .tail _ hp | exact .tail _ (.tail _ hp)), (fun p hp q hq => by rw [List.mem_singleton.mp hq]; exact l0.ne (List.Mem.head _) p hp), rfl, rfl, rfl, rfl, a, n, _, _, rfl, by rw [s0, s1]; rfl⟩
      | false =>
        rw [hA] at e1
        have q0 : side0 (.ref ra, x) = false := by simp [side0, hA]
        have q1 : side1 (.ref ra, x) = false := by simp [side1, hA]
        rw [q0] at s0; rw [q1] at s1
        w_strict (k_steps)
        all_goals try (exfalso; rename ((List.any _ fun y => y == x.fmod 10) = true) => q; rw [e1] at q; cases q)
        rename Fr s.heap s.heap.objs.size _ _ => Fz
        rename News s.heap s.heap.objs.size _ _ => Nz
        refine ⟨_, _, _, _, [(_, _)], rfl, Fz, newsSub Nz (fun p hp => by first | exact hp | exact .tail _ hp | exact .tail _ (.tail _ hp)), (fun p hp q hq => by rw [List.mem_singleton.mp hq]; exact l0.ne (List.Mem.head _) p hp), rfl, rfl, rfl, rfl, a, n, _, _, rfl, by rw [s0, s1]; rfl⟩

end
section

/-- what a pair's first is told by the pairs -/
def told1 (zs : List (Value × Int)) (f : Int → Bool) (v : Value) : Bool := (zs.find? (fun q => q.1 == v)).any fun q => f q.2
theorem told1_at {f : Int → Bool} {v : Value} {x : Int} : ∀ {zs : List (Value × Int)}, (zs.map (·.1)).Nodup → (v, x) ∈ zs → told1 zs f v = f x
  | [], _, h => by cases h
  | q :: zs, hn, h => by
    rw [List.map_cons, List.nodup_cons] at hn
    unfold told1
    rcases List.mem_cons.mp h with rfl | h
    · simp
    · have hne : (q.1 == v) = false := by
        rw [beq_eq_false_iff_ne]
        intro e
        exact hn.1 (e ▸ List.mem_map.mpr ⟨(v, x), h, rfl⟩)
      rw [List.find?_cons, hne]
      exact told1_at hn.2 h
theorem filter_zip {q : Value → Bool} {q' : Value × Int → Bool} : ∀ {ys : List Value} {ns : List Int}, ys.length = ns.length → (∀ p ∈ ys.zip ns, q p.1 = q' p) → ys.filter q = ((ys.zip ns).filter q').map (·.1)
  | [], [], _, _ => rfl
  | [], _ :: _, h, _ => by cases h
  | _ :: _, [], h, _ => by cases h
  | y :: ys, n :: ns, hl, h => by
    have ih := filter_zip (q := q) (q' := q') (ys := ys) (ns := ns) (by simpa using hl) fun p hp => h p (by rw [List.zip_cons_cons]; exact .tail _ hp)
    have h0 := h (y, n) (by rw [List.zip_cons_cons]; exact .head _)
    rw [List.zip_cons_cons]
    cases hq : q' (y, n) with
    | true => rw [List.filter_cons_of_pos (by rw [h0, hq]), List.filter_cons_of_pos hq, List.map_cons, ih]
    | false => rw [List.filter_cons_of_neg (by rw [h0, hq]; exact Bool.false_ne_true), List.filter_cons_of_neg (by rw [hq]; exact Bool.false_ne_true), ih]
theorem zip_fst_nodup {ys : List Value} {ns : List Int} (h : ys.length = ns.length) (hn : ys.Nodup) : ((ys.zip ns).map (·.1)).Nodup := by
  rw [List.map_fst_zip (Nat.le_of_eq h)]; exact hn

set_option maxRecDepth 100000 in
set_option maxHeartbeats 8000000 in
theorem fio02 : ∀ {w : World} {s : Shared} {h₀ : Heap} {L : Addr} {m mg mb : Str → Option Value} {env : Env} {p : Program} {loose : List Str} {mean : ExcName → Option Value} {Q : Value → Shared → Prop} {E : Value → Shared → Prop} {ps : Array Value} {fam : List (Addr × Obj)} {ys : List Value} {ns : List Int} {v : Value},
    (hd02.heap_39 w.params).In h₀ → Top p loose mean mg mb h₀ → CodeHd h₀ 64 60 → Fr h₀ L s.heap m → s.heap.get? 60 = some (tabObj ps) → h₀.get? 60 = none → TriplesOk ps.toList →
    (∀ q ∈ fam, s.heap.get? q.1 = some q.2 ∧ q.1 ≠ 60) → ys.length = ns.length → ys.Nodup → (∀ (j : Nat) (x : Int), ns[j]? = some x → ∃ one, ys[j]? = some (.ref one) ∧ FieldIn w.params fam x one) → ns.length ≤ 63 →
    Src PySem.Challenge.rw_dm0039_02.row.prog w v ys.toArray (hideAll s.heap [60]) →
    (∀ (t1 t2 t : Addr) (h' : Heap) (tk : Nat) (g' : Array GenState) (ps' : Array Value), Heap.ExtBut 60 s.heap h' → h'.get? 60 = some (tabObj ps') → TriplesOk ps'.toList →
      IsTup h' t1 (((ys.zip ns).filter side0).map (·.1)).toArray → IsTup h' t2 (((ys.zip ns).filter side1).map (·.1)).toArray → IsTup h' t #[.ref t1, .ref t2] → (AllBare s.gens → AllBare g') → Q (.ref t) { s with heap := h', toks := tk, gens := g' }) →
    wpAny (model PySem.Challenge.rw_dm0039_02.row.prog w) (callerA.deeper env) (call (.ref 65) [v]) Q E s := by
  w_on
  k_fill
  intro w s h₀ L m mg mb env p loose mean Q E ps fam ys ns v X T C F hP hP0 ht hfam hyl hnd hys hlen S hQ
  have k0 : Sub h₀ (hideAll s.heap [60]) := fun b o e => hideAll_get _ (F.keep b o e) fun hm => by rw [List.mem_singleton.mp hm, hP0] at e; cases e
  have hfam' : ∀ q ∈ fam, (hideAll s.heap [60]).get? q.1 = some q.2 := fun q hq => hideAll_get _ (hfam q hq).1 fun hm => (hfam q hq).2 (List.mem_singleton.mp hm)
  have hz := zip_fst_nodup hyl hnd
  have at_ : ∀ u ∈ ys.toArray, ∃ one x, u = .ref one ∧ (u, x) ∈ ys.zip ns ∧ FieldIn w.params fam x one := fun u hu => by
    have hu' : u ∈ ys := by simpa using hu
    obtain ⟨j, hj, e⟩ := List.mem_iff_getElem.mp hu'
    have hjn : j < ns.length := by omega
    obtain ⟨one, e1, e2⟩ := hys j ns[j] (by simp [hjn])
    have e3 : u = .ref one := by rw [← e]; rw [List.getElem?_eq_getElem hj] at e1; exact Option.some.inj e1
    refine ⟨one, ns[j], e3, ?_, e2⟩
    rw [List.mem_iff_getElem?]
    exact ⟨j, by rw [List.getElem?_zip_eq_some]; exact ⟨by rw [List.getElem?_eq_getElem hj, e], by simp [hjn]⟩⟩
  have hi : ∀ D U u, u ∈ ys.toArray → AttrTruth PySem.Challenge.rw_dm0039_02.row.prog w (hideAll s.heap [60]) D U u "init" (told1 (ys.zip ns) (fun x => tr (x.fmod 10)) u) := fun D U u hu => by
    obtain ⟨one, x, rfl, hm, hf⟩ := at_ u hu
    rw [told1_at hz hm]
    exact (field_truth (X.keeps k0) hfam' hf).1
  have hw : ∀ D U u, u ∈ ys.toArray → AttrTruth PySem.Challenge.rw_dm0039_02.row.prog w (hideAll s.heap [60]) D U u "kw_only" (told1 (ys.zip ns) (fun x => tr ((x.fdiv 10).fmod 10)) u) := fun D U u hu => by
    obtain ⟨one, x, rfl, hm, hf⟩ := at_ u hu
    rw [told1_at hz hm]
    exact (field_truth (X.keeps k0) hfam' hf).2
  have e1 : ys.toArray.toList.filter (fun u => told1 (ys.zip ns) (fun x => tr (x.fmod 10)) u && !told1 (ys.zip ns) (fun x => tr ((x.fdiv 10).fmod 10)) u) = ((ys.zip ns).filter side0).map (·.1) :=
    filter_zip hyl fun q hq => by rw [told1_at hz hq, told1_at hz hq]; rfl
  have e2 : ys.toArray.toList.filter (fun u => told1 (ys.zip ns) (fun x => tr (x.fmod 10)) u && told1 (ys.zip ns) (fun x => tr ((x.fdiv 10).fmod 10)) u) = ((ys.zip ns).filter side1).map (·.1) :=
    filter_zip hyl fun q hq => by rw [told1_at hz hq, told1_at hz hq]; rfl
  refine' fio_call (P := 60) (c := 64) (hb := hideAll s.heap [60]) rfl ?room (fun b o e => of_hideAll _ e) (Nat.le_of_eq (hideAll_size _ _)) (hideAll_none _ (.head _)) (X.keeps k0) (T.keeps k0) (C.keeps k0) hP ht ?ho ?hcd ?hb ?htn boot_tuple ?c1 ?c2 ?c3 ?c4 ?c5 ?c6 ?c7 ?d1 ?d2 ?d3 ?d4 ?d5 ?d6 ?e1 ?e2 ?e3 ?e4 ?e5 ?e6 ?f S ?sz (test_and_not ?g1 ?g2 ?g3 (hi _ _) (hw _ _)) (test_and ?i1 ?i2 ?i3 (hi _ _) (hw _ _)) ?Q
  case room => simp only [depth_deeper, depth_caller]; decide
  case ho => k_is
  case hcd => k_is
  case hb => exact BindsTo.of_eq rfl
  case htn => k_is
  case c1 => exact rfl
  case c2 => exact rfl
  case c3 => exact rfl
  case c4 => decide
  case c5 => exact rfl
  case c6 => exact rfl
  case c7 => decide
  case d1 => exact rfl
  case d2 => intro _; exact rfl
  case d3 => decide
  case d4 => exact rfl
  case d5 => exact rfl
  case d6 => exact rfl
  case e1 => exact rfl
  case e2 => intro _; exact rfl
  case e3 => decide
  case e4 => exact rfl
  case e5 => exact rfl
  case e6 => exact rfl
  case f => decide
  case sz => rw [List.size_toArray, hyl]; exact Nat.le_trans hlen (by decide)
  case g1 => exact rfl
  case g2 => exact rfl
  case g3 => decide
  case i1 => exact rfl
  case i2 => exact rfl
  case i3 => decide
  case Q =>
    intro t1 t2 t h' tk g' ps' hx hP' ht' _ _ _ a1 a2 a3 _ hb
    rw [e1] at a1; rw [e2] at a2
    exact hQ t1 t2 t h' tk g' ps' hx hP' ht' ⟨_, a1, rfl, 0, rfl⟩ ⟨_, a2, rfl, 0, rfl⟩ ⟨_, a3, rfl, 0, rfl⟩ hb

end
section
local macro_rules | `(tactic| walk_at "exec For Name Call cons nil") => `(tactic| (refine Held.mk ?_))
local macro_rules | `(tactic| walk_at "exec For Name Tuple cons nil") => `(tactic| (refine Held.mk ?_))
local macro_rules | `(tactic| walk_at "exec For") => `(tactic| (refine Held.mk ?_))
local macro_rules | `(tactic| walk_at "exec Assign cons ListComp") => `(tactic| (refine Held.mk ?_))

theorem FieldIn.mono {P : Params} {fam fam' : List (Addr × Obj)} {x : Int} {one : Addr} (h : FieldIn P fam x one) (k : ∀ p ∈ fam, p ∈ fam') : FieldIn P fam' x one := by
  obtain ⟨d, n, v1, v2, t1, t2, t3, a1, a2, ⟨b0, b1, b2, b3, b4, b5, b6, b7, b8, b9⟩, ⟨c0, c1, c2, c3, c4, c5, c6, c7, c8, c9⟩⟩ := h
  exact ⟨d, n, v1, v2, t1, t2, t3, k _ a1, k _ a2, ⟨b0, b1, b2, b3, b4, b5, b6, b7, k _ b8, k _ b9⟩, ⟨c0, c1, c2, c3, c4, c5, c6, c7, k _ c8, k _ c9⟩⟩

/-- the table's pairs, so far as they are stored -/
def kvOf (ys : List Value) (i : Nat) : List (Int × Value) := ((ys.take i).zipIdx).map fun p => ((p.2 : Nat), p.1)
theorem kvOf_length (ys : List Value) (i : Nat) : (kvOf ys i).length = min i ys.length := by simp [kvOf]
theorem kvOf_succ {ys : List Value} {i : Nat} {v : Value} (h : ys[i]? = some v) : kvOf ys (i + 1) = kvOf ys i ++ [((i : Int), v)] := by
  have hi : i < ys.length := by
    rcases Nat.lt_or_ge i ys.length with h' | h'
    · exact h'
    · rw [List.getElem?_eq_none h'] at h; cases h
  unfold kvOf
  rw [List.take_add_one, h, Option.toList_some, List.zipIdx_append, List.map_append]
  simp [Nat.min_eq_left (Nat.le_of_lt hi)]
theorem kvOf_absent (ys : List Value) (i : Nat) : valueAt (kvOf ys i) (i : Int) = none := by
  unfold valueAt
  rw [Option.map_eq_none_iff, List.find?_eq_none]
  intro x hx
  unfold kvOf at hx
  obtain ⟨p, hp, rfl⟩ := List.mem_map.mp hx
  have h1 := List.snd_lt_of_mem_zipIdx hp
  simp only [List.length_take] at h1
  simp only [decide_eq_true_eq]
  omega
theorem kvOf_vals (ys : List Value) : (kvOf ys ys.length).map (·.2) = ys := by
  unfold kvOf
  rw [List.take_length, List.map_map]
  have e : ((fun q : Int × Value => q.2) ∘ fun p : Value × Nat => (((p.2 : Nat) : Int), p.1)) = Prod.fst := rfl
  rw [e, List.zipIdx_map_fst]
theorem allLt_mem {d : Nat} {l : List (Addr × Obj)} (h : AllLt d l) : ∀ p ∈ l, p.1 < d := by
  induction l with
  | nil => intro p hp; cases hp
  | cons q r ih =>
    intro p hp
    rcases List.mem_cons.mp hp with rfl | hp
    · exact h.1
    · exact ih h.2 p hp
/-- the row, so far as it is built -/
def JF (P : Params) (ns : List Int) (g₀ : Array GenState) (news : List (Addr × Obj)) (i : Nat) (ys : List Value) (fam : List (Addr × Obj)) (g : Array GenState) : Prop :=
  g = g₀ ∧ ys.length = i ∧ ys.Nodup ∧ ∃ nf, fam = nf ++ news ∧ (∀ p ∈ nf, p.1 ≠ 60) ∧ ∀ (j : Nat) (x : Int), j < i → ns[j]? = some x → ∃ one, ys[j]? = some (.ref one) ∧ FieldIn P nf x one
set_option maxRecDepth 100000 in
set_option maxHeartbeats 8000000 in
theorem main02 : PySem.Challenge.rw_dm0039_02.Holds := hd02 (by
  w_on
  k_fill
  intro w s₀ s₁ mg mb G Y fa o pm cd doc dV kV ho hd hcd hD hmg hg args vals as hpre hlay hrd hwl hlo
  have KX := kIn_of Y
  refine Ground.open G ?_
  intro T B D TE TW
  try (refine guard_noD D (by decide +kernel) ?_; clear D)
  have hT9 : TabsAt [((64 : Addr), (60 : Addr))] s₁.heap :=
    List.forall_mem_cons.mpr ⟨tab_of (x := PySem.Str.ofString "_fields_in_init_order") (c := 64) (P := 60) T KX rfl (by kernel_rfl), fun _ h => nomatch h⟩
  clear hmg
  wrow_args hpre hlay hrd hwl hlo
  refine enter_call ?_
  w_top off
  refine my_post hT9 (fun _ => rfl) (postW_of rfl (w_eq_bool (w_res rfl) w_lit) rfl) ?_
  w_call any ho hd hcd hD T F
  clear hd
  kn_ghosts F T
  k_drop
  k_unmd
  k_fold
  w_strict (k_steps)
  rename IntsAre _ _ => hi
  rename Heap.IsList (ghostOf _ _) _ _ => hl
  rename Top topProg _ _ _ _ _ => T'
  rename Frag.In _ (ghostOf _ _) => X
  rename Below _ _ _ _ => B'
  rename CodeHd _ _ _ => C'
  rename Fr (ghostOf _ _) _ _ _ => F
  rename News (ghostOf _ _) _ _ _ => N
  rename (60 < s₁.heap.objs.size) => h60L
  rename (_ : Obj).data = Data.cell _ => hcd0
  rename Obj => oc
  obtain ⟨l, vs, ns, hl, hi, hlen, hoc⟩ : ∃ l vs ns, (ghostOf s₁.heap [((64 : Addr), (60 : Addr))]).IsList l vs.toArray ∧ IntsAre vs ns ∧ ns.length ≤ 63 ∧ oc.data = .cell (some (.ref l)) :=
    ⟨_, _, _, hl, hi, by omega, hcd0.trans rfl⟩
  rename Fr (ghostOf _ _) _ _ _ => F
  refine Held.of (assign_comp_led (cl := [(Str.ofString "script", s₁.heap.objs.size + 1)]) (n := ns.length) (Pi := fun i v => ∃ t, v = .int i t) F (JF w.params ns s₁.gens [(s₁.heap.objs.size + 1, oc), (60, tabObj #[])]) [] ?hsw ?hA ?hclos ?hcl ?hk ?hnames ?hx ?hy ?hp ?src ?sz ?nz ?turn ?Q)
  case hsw => exact rfl
  case hA => exact rfl
  case hclos => exact rfl
  case hcl => decide
  case hk => exact rfl
  case hnames => decide
  case hx => exact rfl
  case hy => exact rfl
  case hp => exact rfl
  case sz => exact fun i ys fam g h => h.2.1 ▸ Nat.le_refl _
  case nz => exact Nat.le_trans hlen (by decide)
  case src =>
    refine range_len X T' F.keep (by k_is) (by k_is) (hl.at fun o e => F.keep _ o e) (by have := hi.length; rw [List.size_toArray]; omega)
      (fun Q' hq => wpAny_Name (wpAny_loadName_cell rfl rfl rfl ⟨_, (N _ (.head _)).1, hoc⟩ hq) (by decide)) (fun ta tb tc tkr => ?_) rfl rfl rfl rfl rfl
    have hn0 : vs.toArray.size = ns.length := by rw [List.size_toArray, hi.length]
    refine ⟨_, fun _ => False, _, _, s₁.gens, [(s₁.heap.objs.size + 1, oc), (60, tabObj #[])], rfl, SrcP.range (n := ns.length) (by rw [← hn0]; exact Heap.get?_push_size _ rfl) (by omega), fun _ _ e => e, fun b e => e.elim, F.push _,
      newsNil (newsPush F N _), (fun _ h => nomatch h), rfl, rfl, List.nodup_nil, [], rfl, (fun _ h => nomatch h), fun j x hj => absurd hj (Nat.not_lt_zero _)⟩
  case turn =>
    rintro C i v h tk g m₃ fam ys own hin ⟨ti, rfl⟩ ⟨rfl, hyl, hnd, nf, rfl, hn60, hys⟩ hns hm hCL ⟨oC, hoC⟩ F' N' hoff
    refine wpAny_tests_nil ?_
    rw [if_pos rfl]
    obtain ⟨tx, hx⟩ := hi.get i ns[i] (by simp [hin])
    have hx' : vs.toArray[(i : Int).toNat]? = some (.int ns[i] tx) := by simpa using hx
    have hcl : h.get? (s₁.heap.objs.size + 1) = some oc := (N' _ (List.mem_append_left _ (List.mem_append_right _ (.head _)))).1
    refine Call_ (name_glb X T' F'.keep (by k_is) ?_ rfl rfl rfl (by decide))
    refine callWith_K X (by k_is) (Calls.spliced_cons (name_loc hns hm ?_ rfl rfl (by decide)))
    refine Calls.spliced_cons (Subscript_ (wpAny_Name (wpAny_loadName_cell rfl rfl rfl ⟨_, hcl, hoc⟩ ?_) (by decide)))
    refine name_loc hns hm ?_ rfl rfl (by decide)
    refine item_base hl F' hx' (by omega) (by omega) (args_nil ⟨X.keeps F'.keep, ?_⟩) (by with_unfolding_all rfl) (by intro _; with_unfolding_all rfl)
    refine field_call X T' B' F' N' rfl rfl (by omega) (by omega) fun one nf' h' tk' F'' N'' Fi hlt => ?_
    refine ⟨h', tk', s₁.gens, nf' ++ (nf ++ [(s₁.heap.objs.size + 1, oc), (60, tabObj #[])]), rfl, F'', by rw [List.append_assoc]; exact N'', fun p hp q hq => ?_, rfl, by rw [List.length_append, hyl]; rfl, ?_, nf' ++ nf, by rw [List.append_assoc], fun p hp => ?_, fun j x hj hnx => ?_⟩
    · rcases List.mem_append.mp hq with hq | hq
      · exact Nat.ne_of_lt (hlt q hq p (List.mem_append_right _ hp))
      · exact hoff p hp q hq
    · rw [List.nodup_append]
      refine ⟨hnd, by simp, fun a ha b hb e => ?_⟩
      rw [List.mem_singleton.mp hb] at e
      subst e
      obtain ⟨j, hj, ej⟩ := List.mem_iff_getElem.mp ha
      obtain ⟨one', e1, e2⟩ := hys j (ns[j]'(by omega)) (by omega) (by simp)
      rw [List.getElem?_eq_getElem hj, ej] at e1
      cases e1
      obtain ⟨d1, _, _, _, _, _, _, m1, _⟩ := e2.ex
      obtain ⟨d2, _, _, _, _, _, _, m2, _⟩ := Fi.ex
      exact Nat.lt_irrefl _ (hlt (one, instObj 54 d2) m2 (one, instObj 54 d1) (List.mem_append_left _ (List.mem_append_left _ m1)))
    · rcases List.mem_append.mp hp with hp | hp
      · exact (Nat.ne_of_lt (hlt p hp (60, tabObj #[]) (List.mem_append_left _ (List.mem_append_right _ (.tail _ (.head _)))))).symm
      · exact hn60 p hp
    · rcases Nat.lt_or_ge j i with hji | hji
      · obtain ⟨one', e1, e2⟩ := hys j x hji hnx
        exact ⟨one', by rw [List.getElem?_append_left (by omega)]; exact e1, e2.mono fun p hp => List.mem_append_right _ hp⟩
      · have hje : j = i := by omega
        subst hje
        have hxe : x = ns[j] := by rw [List.getElem?_eq_getElem hin] at hnx; exact (Option.some.inj hnx).symm
        subst hxe
        exact ⟨one, by rw [List.getElem?_append_right (by omega), hyl]; simp, Fi.mono fun p hp => List.mem_append_left _ hp⟩
  case Q =>
    rintro D h tk g ys fam k ⟨rfl, hyl, hnd, nf, rfl, hn60, hys⟩ F' N' hD
    clear F N
    have N₁ : News (ghostOf s₁.heap [((64 : Addr), (60 : Addr))]) s₁.heap.objs.size h ((60, tabObj #[]) :: (s₁.heap.objs.size + 1, oc) :: (D, listOf ys.toArray k) :: nf) := newsSub N' fun p hp => by
      simp only [List.append_nil, List.mem_append, List.mem_cons, List.not_mem_nil, or_false] at hp ⊢
      rcases hp with hp | hp | hp | hp <;> simp [hp]
    clear N'
    dsimp only
    w_strict (k_steps)
    rename Fr (ghostOf _ _) _ _ _ => Fo
    rename News (ghostOf _ _) _ _ _ => No
    rename Obj.IsDictOf (intKind _ _) _ _ => hid
    rename (_ == sysModules) = false => lo
    rename (60 < _ ∧ _) => l1
    obtain ⟨d, od, mL, F₂, N₂, hid, lo, hne⟩ : ∃ (d : Addr) (od : Obj) (mL : Str → Option Value), Fr (ghostOf s₁.heap [((64 : Addr), (60 : Addr))]) s₁.heap.objs.size _ (fun y => if y = Str.ofString "table" then some (.ref d) else if y = Str.ofString "row" then some (.ref D) else mL y) ∧
        News (ghostOf s₁.heap [((64 : Addr), (60 : Addr))]) s₁.heap.objs.size _ ((d, od) :: (60, tabObj #[]) :: (s₁.heap.objs.size + 1, oc) :: (D, listOf ys.toArray k) :: nf) ∧ od.IsDictOf (intKind PySem.Challenge.rw_dm0039_02.row.prog w) [] ∧ (d == sysModules) = false ∧
        ∀ p ∈ (60, tabObj #[]) :: (s₁.heap.objs.size + 1, oc) :: (D, listOf ys.toArray k) :: nf, p.1 ≠ d :=
      ⟨_, _, _, Fo, No, hid, lo, fun p hp => by
        simp only [List.mem_cons] at hp
        refine Nat.ne_of_lt ?_
        rcases hp with rfl | rfl | rfl | hp
        · exact l1.1
        · exact l1.2.1
        · exact l1.2.2.1
        · exact allLt_mem l1.2.2.2 p hp⟩
    clear Fo No
    refine Held.of ?_
    refine for_led (h₀ := ghostOf s₁.heap [((64 : Addr), (60 : Addr))]) (n := ns.length) (Pi := fun i v => ∃ t, v = .int i t) (fun i m₂ news₂ g => g = s₁.gens ∧ m₂ "table" = some (.ref d) ∧ m₂ "row" = some (.ref D) ∧
      ∃ o, o.IsDictOf (intKind PySem.Challenge.rw_dm0039_02.row.prog w) (kvOf ys i) ∧ news₂ = (d, o) :: (60, tabObj #[]) :: (s₁.heap.objs.size + 1, oc) :: (D, listOf ys.toArray k) :: nf) rfl rfl rfl ?_
    refine range_len X T' F₂.keep (by k_is) (by k_is) (hl.at fun o e => F₂.keep _ o e) (by have := hi.length; rw [List.size_toArray]; omega)
      (fun Q' hq => wpAny_Name (wpAny_loadName_cell rfl rfl rfl ⟨_, (N₂ _ (.tail _ (.tail _ (.head _)))).1, hoc⟩ hq) (by decide)) (fun ta tb tc tkr => ?_) rfl rfl rfl rfl rfl
    have hn0 : vs.toArray.size = ns.length := by rw [List.size_toArray, hi.length]
    refine ⟨_, fun _ => False, _, _, s₁.gens, _, _, [], rfl, SrcP.range (n := ns.length) (by rw [← hn0]; exact Heap.get?_push_size _ rfl) (by omega), fun _ _ e => e, fun b e => e.elim, F₂.push _,
      newsNil (newsPush F₂ N₂ _), (fun _ h => nomatch h), ⟨rfl, rfl, rfl, _, hid, rfl⟩, ?turn, ?done⟩
    case turn =>
      rintro i v m₂ news₂ h tk g own hin ⟨ti, rfl⟩ ⟨rfl, hm1, hm2, o', hid', rfl⟩ hoff F' N'
      obtain ⟨one, hone, _⟩ := hys i ns[i] hin (by simp [hin])
      have hx' : ys.toArray[(i : Int).toNat]? = some (.ref one) := by simpa using hone
      have hkn : Str.ofString "row" ≠ Str.ofString "k" := by decide
      have hkt : Str.ofString "table" ≠ Str.ofString "k" := by decide
      refine wpAny_execs_cons (wpAny_Assign_Subscript (Subscript_ (name_loc F'.ns (v := .ref D) (by rw [if_neg hkn]; exact hm2) (name_loc F'.ns (v := .int i ti) (by rw [if_pos rfl]) ?_ rfl rfl (by decide)) rfl rfl (by decide))))
      refine item_news N' (List.mem_append_left _ (.tail _ (.tail _ (.tail _ (.head _))))) hx' (by omega) (by omega) ?_ (by with_unfolding_all rfl) (by intro _; with_unfolding_all rfl)
      refine name_loc F'.ns (v := .ref d) (by rw [if_neg hkt]; exact hm1) (name_loc F'.ns (v := .int i ti) (by rw [if_pos rfl]) ?_ rfl rfl (by decide)) rfl rfl (by decide)
      refine wpAny_setItem_pairs (knd := intKind PySem.Challenge.rw_dm0039_02.row.prog w) (k := (i : Int)) (hsz := ?hsz) ?hkey (Heap.dictOf_iff.mpr ⟨o', (N' _ (List.mem_append_left _ (.head _))).1, hid'⟩) fun h'' hm'' hs'' => ?_
      case hsz => rw [kvOf_length]; exact Nat.le_trans (Nat.min_le_left _ _) (Nat.le_trans (Nat.le_of_lt (Nat.lt_of_lt_of_le hin hlen)) (by decide))
      case hkey => exact intKind_is _ _ _ _
      obtain ⟨o'', ho'', hid''⟩ := Heap.dictOf_iff.mp hm''
      rw [stored_absent (kvOf_absent ys i), ← kvOf_succ hone] at hid''
      have hdL : d ≠ s₁.heap.objs.size := (N' _ (List.mem_append_left _ (.head _))).2.1
      have hd0 : (ghostOf s₁.heap [((64 : Addr), (60 : Addr))]).get? d = none := (N' _ (List.mem_append_left _ (.head _))).2.2
      refine wpAny_execs_nil ⟨h'', _, s₁.gens, _, (d, o'') :: (60, tabObj #[]) :: (s₁.heap.objs.size + 1, oc) :: (D, listOf ys.toArray k) :: nf, rfl, ksk_fr F' hs'' hdL hd0, fun p hp => ?_, fun p hp q hq => ?_, rfl, ?_, ?_, o'', hid'', rfl⟩
      · rcases List.mem_append.mp hp with hp | hp
        · rcases List.mem_cons.mp hp with rfl | hp
          · exact ⟨ho'', hdL, hd0⟩
          · exact ⟨(hs''.2 p.1 (hne p hp)).trans (N' p (List.mem_append_left _ (.tail _ hp))).1, (N' p (List.mem_append_left _ (.tail _ hp))).2⟩
        · exact ⟨(hs''.2 p.1 (hoff p hp _ (.head _))).trans (N' p (List.mem_append_right _ hp)).1, (N' p (List.mem_append_right _ hp)).2⟩
      · rcases List.mem_cons.mp hq with rfl | hq
        · exact hoff p hp (d, o') (.head _)
        · exact hoff p hp q (.tail _ hq)
      · exact (if_neg hkt).trans hm1
      · exact (if_neg hkn).trans hm2
    case done =>
      rintro m₂ news₂ h tk g ⟨rfl, hm1, hm2, o', hid', rfl⟩ F' N'
      clear N₂ F₂
      rw [List.append_nil] at N'
      dsimp only
      w_strict (k_steps)
      refine Held.of ?_
      have hdo : h.DictOf (intKind PySem.Challenge.rw_dm0039_02.row.prog w) d (kvOf ys ns.length) := Heap.dictOf_iff.mpr ⟨o', (N' _ (.head _)).1, hid'⟩
      have hrow : h.IsList D ys.toArray := ⟨_, (N' _ (.tail _ (.tail _ (.tail _ (.head _))))).1, rfl, k, rfl⟩
      have hys63 : ys.toArray.size ≤ sizeLine := by rw [List.size_toArray, hyl]; exact Nat.le_trans hlen (by decide)
      refine for_ledE (h₀ := ghostOf s₁.heap [((64 : Addr), (60 : Addr))]) rfl rfl rfl ?_
      refine Tuple_ (Calls.spliced_cons (name_loc F'.ns (v := .ref D) hm2 ?_ rfl rfl (by decide)))
      refine Calls.spliced_cons (Call_ (name_blt X T' F'.keep (by k_is) boot_tuple (by decide) ?_ rfl rfl rfl rfl (by decide)))
      refine PyProof.Rows.callWith_type1 (Calls.spliced_cons (name_loc F'.ns (v := .ref D) hm2 (args_nil ?_) rfl rfl (by decide)))
      refine call_tuple_list (hsz := hys63) hrow fun ha hka => ?_
      have Fa : Fr (ghostOf s₁.heap [((64 : Addr), (60 : Addr))]) s₁.heap.objs.size ha m₂ := F'.keeps hka
      have Na : News (ghostOf s₁.heap [((64 : Addr), (60 : Addr))]) s₁.heap.objs.size ha _ := fun p hp => ⟨hka _ _ (N' p hp).1, (N' p hp).2⟩
      have h60t : (60 : Nat) < ha.objs.size := Heap.lt_size (Na (60, tabObj #[]) (.tail _ (.head _))).1
      have Fb := Fa.push (tupOf ys.toArray)
      have Nb := News.push Fa Na (tupOf ys.toArray)
      have hab : Sub h (ha.push (tupOf ys.toArray)) := fun b o e => Heap.get?_push_of_some _ (hka b o e)
      generalize htt : ha.objs.size = tt at Nb h60t ⊢
      generalize hhb : ha.push (tupOf ys.toArray) = hb at Nb Fb hab ⊢
      refine Calls.spliced_cons (values_expr (knd := intKind PySem.Challenge.rw_dm0039_02.row.prog w) (kvs := kvOf ys ns.length) (Heap.dictOf_iff.mpr ⟨o', (Nb _ (.tail _ (.head _))).1, hid'⟩) lo (fun Q' hq => name_loc Fb.ns (v := .ref d) hm1 hq rfl rfl (by decide)) (args_nil ?_) ⟨_, rfl⟩)
      have h60v : (60 : Nat) < hb.objs.size := Heap.lt_size (Nb (60, tabObj #[]) (.tail _ (.tail _ (.head _)))).1
      have Fc := Fb.push { cls := .type "dict_values", data := .fields #[.ref d] }
      have Nc := News.push Fb Nb { cls := .type "dict_values", data := .fields #[.ref d] }
      refine wpAny_newObj_type ?_ (by size_fits)
      have Fd := Fc.push (tupOf #[.ref D, .ref tt, .ref hb.objs.size])
      have Nd := News.push Fc Nc (tupOf #[.ref D, .ref tt, .ref hb.objs.size])
      have hbc : Sub hb ((hb.push { cls := .type "dict_values", data := .fields #[.ref d] }).push (tupOf #[.ref D, .ref tt, .ref hb.objs.size])) := fun b o e => Heap.get?_push_of_some _ (Heap.get?_push_of_some _ e)
      have hsz2 : (hb.push { cls := .type "dict_values", data := .fields #[.ref d] }).objs.size = hb.objs.size + 1 := Heap.size_push ..
      have hNlt : ∀ p ∈ (hb.objs.size, ({ cls := .type "dict_values", data := .fields #[.ref d] } : Obj)) :: (tt, tupOf ys.toArray) :: (d, o') :: (60, tabObj #[]) :: (s₁.heap.objs.size + 1, oc) :: (D, listOf ys.toArray k) :: nf, p.1 < (hb.push { cls := .type "dict_values", data := .fields #[.ref d] }).objs.size := fun p hp => Heap.lt_size (Nc p hp).1
      have hview : ∀ hx, Sub ((hb.push { cls := .type "dict_values", data := .fields #[.ref d] }).push (tupOf #[.ref D, .ref tt, .ref hb.objs.size])) hx → True := fun _ _ => trivial
      generalize hvv : hb.objs.size = vv at Nd Fd hNlt hsz2 h60v ⊢
      generalize hts : (hb.push { cls := .type "dict_values", data := .fields #[.ref d] }).objs.size = ts at Nd hNlt hsz2 ⊢
      generalize hhd : (hb.push { cls := .type "dict_values", data := .fields #[.ref d] }).push (tupOf #[.ref D, .ref tt, .ref vv]) = hd at Nd Fd ⊢
      have hts' : hd.IsTuple ts #[.ref D, .ref tt, .ref vv] := ⟨_, (Nd _ (.head _)).1, rfl, 0, rfl⟩
      refine ⟨3, fun i v => #[Value.ref D, .ref tt, .ref vv][i]? = some v, fun i m₂ news₂ g => AllBare g ∧ m₂ "row" = some (.ref D) ∧ ∃ ps : Array Value, TriplesOk ps.toList ∧
          news₂ = (60, tabObj ps) :: (vv, { cls := .type "dict_values", data := .fields #[.ref d] }) :: (tt, tupOf ys.toArray) :: (d, o') :: (s₁.heap.objs.size + 1, oc) :: (D, listOf ys.toArray k) :: nf,
        hd, _, hd, _, s₁.gens, m₂, _, [(ts, tupOf #[.ref D, .ref tt, .ref vv])], rfl, SrcP.tuple hts', fun _ _ e => e, fun b e => .inr ⟨tupOf #[.ref D, .ref tt, .ref vv], by cases e; exact .head _⟩, Fd, newsSub Nd (fun p hp => ?_), fun p hp q hq => ?_, ⟨hg ▸ AllBare.empty, hm2, #[], trivial, rfl⟩, ?turn, ?done⟩
      · simp only [List.mem_append, List.mem_cons, List.not_mem_nil, or_false] at hp ⊢
        rcases hp with (hp | hp | hp | hp | hp | hp | hp) | hp <;> simp [hp]
      · rw [List.mem_singleton.mp hp]
        refine (Nat.ne_of_lt (hNlt q ?_)).symm
        simp only [List.mem_cons] at hq ⊢
        rcases hq with hp | hp | hp | hp | hp | hp | hp <;> simp [hp]
      case done =>
        rintro m₂ news₂ h tk g ⟨hgb, hm2, ps, hps, rfl⟩ F' N'
        dsimp only
        refine wpAny_execs_cons (wpAny_Return_some ?_)
        refine wpAny_Constant_bool ?_
        exact ⟨rfl, F'.keep, rfl, hgb, ⟨ps, (N' _ (.head _)).1⟩, trivial⟩
      case turn =>
        rintro i v m₂ news₂ h tk g own hin hv ⟨hgb, hm2, ps, hps, rfl⟩ hoff F' N'
        have hP := (N' _ (.head _)).1
        have hPL : (60 : Addr) ≠ s₁.heap.objs.size := (N' _ (.head _)).2.1
        have hP0 := (N' _ (.head _)).2.2
        dsimp only at hP hPL hP0
        have hne60 : ∀ q ∈ (vv, ({ cls := .type "dict_values", data := .fields #[.ref d] } : Obj)) :: (tt, tupOf ys.toArray) :: (d, o') :: (s₁.heap.objs.size + 1, oc) :: (D, listOf ys.toArray k) :: nf, q.1 ≠ 60 := fun q hq => by
          simp only [List.mem_cons] at hq
          rcases hq with rfl | rfl | rfl | rfl | rfl | hq
          · exact Nat.ne_of_gt h60v
          · exact Nat.ne_of_gt h60t
          · exact (hne (60, tabObj #[]) (.head _)).symm
          · exact Nat.ne_of_gt (Nat.lt_succ_of_lt h60L)
          · exact (hD (60, tabObj #[]) (by simp)).symm
          · exact hn60 q hq
        have hhide : ∀ q ∈ (vv, ({ cls := .type "dict_values", data := .fields #[.ref d] } : Obj)) :: (tt, tupOf ys.toArray) :: (d, o') :: (s₁.heap.objs.size + 1, oc) :: (D, listOf ys.toArray k) :: nf, (hideAll h [60]).get? q.1 = some q.2 := fun q hq =>
          hideAll_get _ (N' q (List.mem_append_left _ (.tail _ hq))).1 fun hm => hne60 q hq (List.mem_singleton.mp hm)
        have S : Src PySem.Challenge.rw_dm0039_02.row.prog w v ys.toArray (hideAll h [60]) := by
          have hc : i = 0 ∨ i = 1 ∨ i = 2 := by omega
          rcases hc with rfl | rfl | rfl
          · cases hv; exact Src.list ⟨_, hhide _ (.tail _ (.tail _ (.tail _ (.tail _ (.head _))))), rfl, k, rfl⟩
          · cases hv; exact Src.tuple ⟨_, hhide _ (.tail _ (.head _)), rfl, 0, rfl⟩
          · cases hv
            obtain ⟨es, ep, a1, a2, a3, a4, a5⟩ := hid'
            have hat : (hideAll h [60]).DictAt (intKind PySem.Challenge.rw_dm0039_02.row.prog w) d (kvOf ys ns.length) ep := ⟨o', es, hhide _ (.tail _ (.tail _ (.head _))), a1, a2, a3, a4, a5⟩
            have e1 : (kvOf ys ns.length).map (·.2) = ys := by rw [← hyl]; exact kvOf_vals ys
            have := Src.values (v := vv) ⟨_, hhide _ (.head _), rfl, rfl⟩ hat
            rw [e1] at this
            exact this
        have hhk : Str.ofString "row" ≠ Str.ofString "handed" := by decide
        refine wpAny_execs_cons (wpAny_If (isTrue_not (isTrue_plain (Call_ (name_glb X T' F'.keep (by k_is) ?_ rfl rfl rfl (by decide))) rfl)))
        refine callWith_K X (by k_is) (Calls.spliced_cons (Call_ (name_glb X T' F'.keep (by k_is) ?_ rfl rfl rfl (by decide))))
        refine callWith_K X (by k_is) (Calls.spliced_cons (name_loc F'.ns (v := v) (by rw [if_pos rfl]) (args_nil ⟨X.keeps F'.keep, ?_⟩) rfl rfl (by decide)))
        refine fio02 X T' C' F' hP hP0 hps (fam := nf) (fun q hq => ⟨(N' q (List.mem_append_left _ (.tail _ (.tail _ (.tail _ (.tail _ (.tail _ (.tail _ hq)))))))).1, hne60 q (.tail _ (.tail _ (.tail _ (.tail _ (.tail _ hq)))))⟩) hyl hnd ?hys hlen S fun t1 t2 t h1 tk1 g1 ps1 hx1 hP1 hps1 ht1 ht2 ht hb1 => ?_
        case hys => exact fun j x hx => hys j x (by rcases Nat.lt_or_ge j ns.length with h' | h'; exact h'; rw [List.getElem?_eq_none h'] at hx; cases hx) hx
        have F1 : Fr (ghostOf s₁.heap [((64 : Addr), (60 : Addr))]) s₁.heap.objs.size h1 (fun y => if y = Str.ofString "handed" then some v else m₂ y) := ⟨F'.ns.extBut hx1 hPL.symm, fun b o e => hx1 b o (fun q => by rw [q, hP0] at e; cases e) (F'.keep b o e), F'.above⟩
        have N1 : News (ghostOf s₁.heap [((64 : Addr), (60 : Addr))]) s₁.heap.objs.size h1 (((60, tabObj ps1) :: (vv, { cls := .type "dict_values", data := .fields #[.ref d] }) :: (tt, tupOf ys.toArray) :: (d, o') :: (s₁.heap.objs.size + 1, oc) :: (D, listOf ys.toArray k) :: nf) ++ own) := fun p hp => by
          rcases List.mem_append.mp hp with hp | hp
          · rcases List.mem_cons.mp hp with rfl | hp
            · exact ⟨hP1, hPL, hP0⟩
            · exact ⟨hx1 _ _ (hne60 p hp) (N' p (List.mem_append_left _ (.tail _ hp))).1, (N' p (List.mem_append_left _ (.tail _ hp))).2⟩
          · exact ⟨hx1 _ _ (hoff p hp _ (.head _)) (N' p (List.mem_append_right _ hp)).1, (N' p (List.mem_append_right _ hp)).2⟩
        refine Calls.spliced_cons (name_loc F1.ns (v := .ref D) ((if_neg hhk).trans hm2) ?_ rfl rfl (by decide))
        refine Calls.spliced_cons (wpAny_Name (wpAny_loadName_cell rfl rfl rfl ⟨_, (N1 _ (List.mem_append_left _ (.tail _ (.tail _ (.tail _ (.tail _ (.head _)))))) ).1, hoc⟩ (args_nil ⟨X.keeps F1.keep, ?_⟩)) (by decide))
        refine agrees_call (X.keeps F1.keep) (T'.keeps F1.keep) (hl.at fun o e => F1.keep _ o e) hi hlen ht ht1 ht2 ⟨_, (N1 _ (List.mem_append_left _ (.tail _ (.tail _ (.tail _ (.tail _ (.tail _ (.head _))))))) ).1, rfl, k, rfl⟩ hyl rfl rfl ?href fun h2 tk2 hk2 => ?_
        case href =>
          intro u hu
          obtain ⟨j, hj, e⟩ := List.mem_iff_getElem.mp hu
          have hjn : j < ns.length := by omega
          obtain ⟨one, e1, _⟩ := hys j ns[j] hjn (by simp [hjn])
          rw [List.getElem?_eq_getElem hj, e] at e1
          exact ⟨one, Option.some.inj e1⟩
        refine wpAny_truthy_bool ?_
        refine wpAny_execs_nil ?_
        refine wpAny_execs_nil ?_
        refine ⟨h2, tk2, g1, _, (60, tabObj ps1) :: (vv, { cls := .type "dict_values", data := .fields #[.ref d] }) :: (tt, tupOf ys.toArray) :: (d, o') :: (s₁.heap.objs.size + 1, oc) :: (D, listOf ys.toArray k) :: nf, rfl, F1.keeps hk2, fun p hp => ⟨hk2 _ _ (N1 p hp).1, (N1 p hp).2⟩, fun p hp q hq => ?_, hb1 hgb, (if_neg hhk).trans hm2, ps1, hps1, rfl⟩
        rcases List.mem_cons.mp hq with rfl | hq
        · exact hoff p hp (60, tabObj ps) (.head _)
        · exact hoff p hp q (.tail _ hq))

end
end Mine
set_option maxRecDepth 100000 in
set_option maxHeartbeats 8000000 in
theorem PySem.Challenge.cw_dm0039_02_holds : PySem.Challenge.rw_dm0039_02.Holds := by
  exact Mine.main02
