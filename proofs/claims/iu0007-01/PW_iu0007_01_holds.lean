import PyProof.Rows.All
import Wide.All
import OpenK.AllK
import Wide.FinOn
import PySem.Challenge.RW_iu0007_01
open PySem PySem.W PySem.Calls PyProof.Rows
set_option Elab.async false
set_option maxRecDepth 100000

namespace Mine
open PyProof.V PySem.Spec PyProof.Rows.LCg
section
variable {prog : Program} {w : World} {A : Around} {E : Value → Shared → Prop} {s : Shared} {h₀ : Heap} {L : Addr} {m : Str → Option Value} {env : Env}

/-- the element of a comprehension over pairs of ints: an int again, and nothing of the heap turns -/
def EncElt (prog : Program) (w : World) (A : Around) (env : Env) (elt : Expr) (a b : Str) (scope : Scope) (cl : List (Str × Addr)) (g : Int → Int → Int) : Prop :=
  ∀ (C : Addr) (m₂ : Str → Option Value) (k n : Int) (t u : Tok) (s : Shared) (E : Value → Shared → Prop), 0 ≤ k → k < 1000 →
    s.heap.Ns C m₂ → m₂ a = some (.int k t) → m₂ b = some (.int n u) → wpAny (model prog w) A (eval elt (compEnvC scope cl C env)) (fun y s' => ∃ t' k', y = .int (g k n) t' ∧ s' = { s with toks := k' }) E s

def enumMap (g : Int → Int → Int) (ns : List Int) : List Int := ns.zipIdx.map fun p => g p.2 p.1
theorem enumMap_length (g : Int → Int → Int) (ns : List Int) : (enumMap g ns).length = ns.length := by simp [enumMap]
theorem enumMap_get {g : Int → Int → Int} {ns : List Int} {i : Nat} {n : Int} (h : ns[i]? = some n) : (enumMap g ns)[i]? = some (g i n) := by
  simp [enumMap, List.getElem?_zipIdx, h]
theorem enumMap_mem {g : Int → Int → Int} {ns : List Int} {P : Int → Prop} (h : ∀ k n, P (g k n)) : ∀ x ∈ enumMap g ns, P x := by
  intro x hx
  obtain ⟨p, _, rfl⟩ := List.mem_map.mp hx
  exact h _ _

def EncSrc (A : Around) (h₀ : Heap) (L : Addr) (m : Str → Option Value) (g : Int → Int → Int) (Q : Value → Shared → Prop) (xv : Value) (s₁ : Shared) : Prop :=
  ∃ (e it l : Addr) (vs : List Value) (ns : List Int) (news : List (Addr × Obj)), xv = .ref e ∧ A.handled = none ∧ Fr h₀ L s₁.heap m ∧ News h₀ L s₁.heap news ∧ IsEnum s₁.heap e it 0 .none ∧ s₁.heap.IsListIter it l 0 ∧ s₁.heap.IsList l vs.toArray ∧
    IntsAre vs ns ∧ ns.length ≤ 1000 ∧ e ≠ it ∧ l ≠ e ∧ l ≠ it ∧ L ≠ e ∧ L ≠ it ∧ h₀.get? e = none ∧ h₀.get? it = none ∧ (∀ p ∈ news, p.1 ≠ e ∧ p.1 ≠ it) ∧
    (∀ D ys h tk, IntsAre ys (enumMap g ns) → Fr h₀ L h m → News h₀ L h ((D, listOf ys.toArray ys.length) :: news) → (∀ p ∈ news, p.1 < D) → Q (.ref D) { s₁ with heap := h, toks := tk })

theorem enc_ListComp {elt iter : Expr} {a b : Str} {pa pb tp : Pos} {kk : Nat} {scope : Scope} {cl : List (Str × Addr)} {pos : Pos} {Q : Value → Shared → Prop} {g : Int → Int → Int} (_F₀ : Fr h₀ L s.heap m)
    (hclos : closureFor scope env = pure cl) (hcell : ∀ y ∈ scope.names, y.2 ≠ .cell) (hkind : scope.kind = .function)
    (hnames : ∀ y ∈ scope.names, y.2 = .local → scope.names.lookup y.1 = some .local) (hxa : scope.names.lookup a = some .local) (hxb : scope.names.lookup b = some .local) (hab : ¬ a = b)
    (helt : EncElt prog w A env elt a b scope cl g)
    (h : wpAny (model prog w) A (eval iter env) (EncSrc A h₀ L m g Q) E s)
    (hs : ∀ x, foldedSetIterable iter env x = pure x := by intro _; rfl) :
    wpAny (model prog w) A (eval (.ListComp elt [⟨.Tuple [.Name a pa, .Name b pb] kk tp, iter, [], 0⟩] scope pos) env) Q E s := by
  rw [eval_ListComp]
  refine wpAny_comprehension_free (use := none) rfl hs hclos hkind hnames (wpAny_mono h (fun xv s₂ h₁ => ?_) fun _ _ e => e)
  obtain ⟨e, it, l, vs, ns, news, rfl, hh, F, N, hE, hI, hl, hi, hsz, hei, hle, hli, hLe, hLi, hpe, hpi, off, fin⟩ := h₁
  refine wpAny_pyIter_enum hE ?_
  have hlen : vs.length = ns.length := hi.length
  have W := KTurns.ofWalksU (elts := [.Name a pa, .Name b pb]) (k := kk) (pos := tp) (WalksT.enumerate (prog := prog) (w := w) (A := A) hh e it l hei hle hli vs.toArray).toU
  have hsize : vs.toArray.size = ns.length := by rw [List.size_toArray, hlen]
  rw [hsize] at W
  refine wpAny_newObj_type (wpAny_newFunctionEnv hcell (by intro y hy; simp at hy) (fun h₁ hns₁ hsb₁ => ?_) hkind)
  dsimp only at hns₁ hsb₁ ⊢
  generalize hH2 : s₂.heap.push { cls := .type "list", dict := none, data := .seq ([] : List Value).toArray } = H2 at hns₁ hsb₁ ⊢
  have hC : H2.objs.size = s₂.heap.objs.size + 1 := by rw [← hH2, Heap.size_push]
  have hDC : s₂.heap.objs.size ≠ H2.objs.size := by rw [hC]; exact Nat.ne_of_lt (Nat.lt_succ_self _)
  have below : ∀ b, b < s₂.heap.objs.size → b ≠ H2.objs.size ∧ b ≠ s₂.heap.objs.size := fun b hb => ⟨by rw [hC]; exact Nat.ne_of_lt (Nat.lt_succ_of_lt hb), Nat.ne_of_lt hb⟩
  have old : ∀ b o, s₂.heap.get? b = some o → h₁.get? b = some o := fun b o e => hsb₁.extBut b o (below b (Heap.lt_size e)).1 (Heap.get?_push_of_some _ (hH2 ▸ Heap.get?_push_of_some _ e))
  have hacc : h₁.get? s₂.heap.objs.size = some (lst []) := hsb₁.extBut _ _ hDC (Heap.get?_push_of_some _ (hH2 ▸ Heap.get?_push_size _ rfl))
  have fresh : ∀ a, s₂.heap.objs.size ≤ a → s₂.heap.get? a = none := fun a ha => by
    cases e : s₂.heap.get? a with
    | none => rfl
    | some o' => exact absurd (Heap.lt_size e) (Nat.not_lt.mpr ha)
  have fresh₀ : ∀ a, s₂.heap.objs.size ≤ a → h₀.get? a = none := fun a ha => by
    cases e : h₀.get? a with
    | none => rfl
    | some o' => have := F.keep a o' e; rw [fresh a ha] at this; cases this
  have hD₀ : h₀.get? s₂.heap.objs.size = none := fresh₀ _ (Nat.le_refl _)
  have hC₀ : h₀.get? H2.objs.size = none := fresh₀ _ (by rw [hC]; exact Nat.le_succ _)
  have hLlt : L < s₂.heap.objs.size := F.ns.lt
  have hDL : s₂.heap.objs.size ≠ L := Ne.symm (below L hLlt).2
  have hCL : H2.objs.size ≠ L := Ne.symm (below L hLlt).1
  have hlt_e : e < s₂.heap.objs.size := Heap.lt_size hE
  have hlt_i : it < s₂.heap.objs.size := by obtain ⟨o, q, _⟩ := hI; exact Heap.lt_size q
  have hlt_l : l < s₂.heap.objs.size := by obtain ⟨o, q, _⟩ := hl; exact Heap.lt_size q
  have fpC : ∀ b ∈ [e, it, l], b ≠ H2.objs.size ∧ b ≠ s₂.heap.objs.size := by
    intro b hb
    rcases List.mem_cons.mp hb with rfl | hb
    · exact below _ hlt_e
    · rcases List.mem_cons.mp hb with rfl | hb
      · exact below _ hlt_i
      · rw [List.mem_singleton.mp hb]; exact below _ hlt_l
  have wrC : ∀ b, b ∈ [e, it] → b ≠ H2.objs.size ∧ b ≠ s₂.heap.objs.size := fun b hb => fpC b (by
    rcases List.mem_cons.mp hb with rfl | hb
    · simp
    · rw [List.mem_singleton.mp hb]; simp)
  have hst₁ : (∃ old, IsEnum h₁ e it ((0 : Nat) : Int) old) ∧ h₁.IsListIter it l 0 ∧ h₁.IsList l vs.toArray :=
    ⟨⟨_, old _ _ hE⟩, hI.at fun o x => old _ o x, hl.at fun o x => old _ o x⟩
  have hnw : ∀ p ∈ news, p.1 ≠ H2.objs.size ∧ p.1 ≠ s₂.heap.objs.size := fun p hp => below _ (Heap.lt_size (N p hp).1)
  have loop : ∀ s₃ : Shared, s₃ = { s₂ with heap := h₁, toks := s₂.toks + ([] : List (Str × Value)).length } →
      codeAny (model prog w) A (.compLoop (.ListComp elt [⟨.Tuple [.Name a pa, .Name b pb] kk tp, iter, [], 0⟩] scope pos) 0 (.ref e) (.ref s₂.heap.objs.size) (compEnvC scope cl H2.objs.size env))
        (compPost (model prog w) A E none Q (.ref s₂.heap.objs.size) H2.objs.size) s₃ := by
    rintro s₃ rfl
    refine kcp_loop
      (fun k s' => ∃ h' tk i ys m', s' = { s₂ with heap := h', toks := tk } ∧ i ≤ ns.length ∧ k = ns.length + 1 - i ∧ IntsAre ys ((enumMap g ns).take i) ∧
        ((∃ old, IsEnum h' e it (i : Int) old) ∧ h'.IsListIter it l i ∧ h'.IsList l vs.toArray) ∧ Fr h₀ L h' m ∧ h'.Ns H2.objs.size m' ∧ h'.get? s₂.heap.objs.size = some (lst ys) ∧ News h₀ L h' news) ?_ (ns.length + 1)
      ⟨h₁, _, 0, [], _, rfl, Nat.zero_le _, rfl, .nil, hst₁, F.keeps old, hns₁, hacc, N.grown old⟩
    rintro k s' ⟨h', tk, i, ys, m', rfl, hin, rfl, hy, hst', F', hn', hD', N'⟩
    have hyl : ys.length = i := by rw [hy.length, List.length_take, enumMap_length]; omega
    by_cases hlt : i < ns.length
    · refine W.item i _ _ _ hlt hst' fun v h₂ tk₂ hMd hk₂ => ?_
      refine W.go i v _ _ _ hMd fun h₃ hP hst₃ hk₃ => ?_
      obtain ⟨T, vals, rfl, ⟨t, x, hx, rfl⟩, hT⟩ := hP
      have hx' : vs[i]? = some x := by simpa using hx
      obtain ⟨n, u, rfl, hn⟩ := IntsAre.at hi i x hx'
      have up₃ : ∀ c o, c ≠ e → c ≠ it → h'.get? c = some o → h₃.get? c = some o := fun c o h1 h2 e => hk₃ c o (by simp [h1, h2]) (hk₂ c o (by simp [h1, h2]) e)
      have hCe : H2.objs.size ≠ e := (wrC e (by simp)).1.symm
      have hCi : H2.objs.size ≠ it := (wrC it (by simp)).1.symm
      have hDe : s₂.heap.objs.size ≠ e := (wrC e (by simp)).2.symm
      have hDi : s₂.heap.objs.size ≠ it := (wrC it (by simp)).2.symm
      refine kcp_assign (env := compEnvC scope cl H2.objs.size env) hh hT (lookup_relabel_local hxa) (lookup_relabel_local hxb) (by simp [compEnvC, relabel, hkind]) (hn'.at' fun o e => up₃ _ o hCe hCi e) fun h₄ tk₄ hn₄ hs₄ => ?_
      have up : ∀ c o, c ≠ e → c ≠ it → c ≠ H2.objs.size → h'.get? c = some o → h₄.get? c = some o := fun c o h1 h2 h3 e => hs₄ c o h3 (up₃ c o h1 h2 e)
      refine wpAny_mono (helt H2.objs.size _ (i : Int) n t u _ _ (by omega) (by omega) hn₄ (by simp [hab]) (by simp)) (fun y s₅ h₅ => ?_) fun _ _ e => e
      obtain ⟨t', k', rfl, rfl⟩ := h₅
      have zD : h₄.get? s₂.heap.objs.size = some (lst ys) := up _ _ hDe hDi hDC hD'
      refine append_at (hsz := by show ys.toArray.size ≤ sizeLine; rw [List.size_toArray, hyl, sizeLine_eq]; omega) zD fun h₆ hs₆ hD₆ => ?_
      have upp : ∀ c o, c ≠ s₂.heap.objs.size → h₄.get? c = some o → h₆.get? c = some o := fun c o hc e => hs₆.extBut c o hc e
      have st₄ : ∀ b ∈ [e, it, l], ∀ o, h₃.get? b = some o → h₆.get? b = some o := fun b hb o q => upp b o (fpC b hb).2 (hs₄ b o (fpC b hb).1 q)
      refine ⟨ns.length + 1 - (i + 1), by omega, h₆, k', i + 1, ys ++ [.int (g i n) t'], _, rfl, hlt, rfl, ?_, W.frame _ _ _ hst₃ st₄, ?_, hn₄.at' fun o q => upp _ o (Ne.symm hDC) q, hD₆.trans (congrArg some (lst_snoc ys _)), ?_⟩
      · rw [List.take_add_one, enumMap_get hn]
        exact IntsAre.append hy (.cons _ t' .nil)
      · refine ⟨F'.ns.at' fun o q => upp _ o (Ne.symm hDL) (up _ o hLe hLi (Ne.symm hCL) q), fun c o q => upp c o ?_ (up c o ?_ ?_ ?_ (F'.keep c o q)), F'.above⟩
        · intro hc; rw [hc, hD₀] at q; cases q
        · intro hc; rw [hc, hpe] at q; cases q
        · intro hc; rw [hc, hpi] at q; cases q
        · intro hc; rw [hc, hC₀] at q; cases q
      · exact fun p hp => ⟨upp _ _ (hnw p hp).2 (up _ _ (off p hp).1 (off p hp).2 (hnw p hp).1 (N' p hp).1), (N' p hp).2⟩
    · have hin' : i = ns.length := by omega
      subst hin'
      refine W.done _ _ _ hst' fun h₂ tk₂ hk₂ => ?_
      have hCe : H2.objs.size ≠ e := (wrC e (by simp)).1.symm
      have hCi : H2.objs.size ≠ it := (wrC it (by simp)).1.symm
      have hDe : s₂.heap.objs.size ≠ e := (wrC e (by simp)).2.symm
      have hDi : s₂.heap.objs.size ≠ it := (wrC it (by simp)).2.symm
      have up : ∀ c o, c ≠ e → c ≠ it → h'.get? c = some o → h₂.get? c = some o := fun c o h1 h2 q => hk₂ c o (by simp [h1, h2]) q
      refine ⟨m', hn'.at' fun o q => up _ o hCe hCi q, fun h'' hs'' => ?_⟩
      have upp : ∀ c o, c ≠ H2.objs.size → h₂.get? c = some o → h''.get? c = some o := fun c o hc q => hs''.extBut c o hc q
      refine fin s₂.heap.objs.size ys h'' tk₂ ?_ ?_ ?_ (fun p hp => Heap.lt_size (N p hp).1)
      · have := hy
        rw [← enumMap_length g ns, List.take_length] at this
        exact this
      · refine ⟨F'.ns.at' fun o q => upp _ o (Ne.symm hCL) (up _ o hLe hLi q), fun c o q => upp c o ?_ (up c o ?_ ?_ (F'.keep c o q)), F'.above⟩
        · intro hc; rw [hc, hC₀] at q; cases q
        · intro hc; rw [hc, hpe] at q; cases q
        · intro hc; rw [hc, hpi] at q; cases q
      · intro p hp
        rcases List.mem_cons.mp hp with rfl | hp
        · exact ⟨upp _ _ hDC (up _ _ hDe hDi hD'), hDL, hD₀⟩
        · exact ⟨upp _ _ (hnw p hp).1 (up _ _ (off p hp).1 (off p hp).2 (N' p hp).1), (N' p hp).2⟩
  exact codeAny_compStart_list (loop _ rfl) (wpAny_pyIter_enum (hst₁.1.choose_spec) (loop _ rfl))

/-- enumerate of a list of the ledger -/
theorem enc_call {l : Addr} {vs : List Value} {ns : List Int} {k : Nat} {news : List (Addr × Obj)} {g : Int → Int → Int} {Q : Value → Shared → Prop} (hh : A.handled = none) (F : Fr h₀ L s.heap m) (N : News h₀ L s.heap news)
    (hm : (l, listOf vs.toArray k) ∈ news) (hi : IntsAre vs ns) (hsz : ns.length ≤ 1000)
    (fin : ∀ D ys h tk, IntsAre ys (enumMap g ns) → Fr h₀ L h m → News h₀ L h ((D, listOf ys.toArray ys.length) :: news) → (∀ p ∈ news, p.1 < D) → Q (.ref D) { s with heap := h, toks := tk }) :
    wpAny (model prog w) A (call (.type "enumerate") [.ref l]) (EncSrc A h₀ L m g Q) E s := by
  have z := N _ hm
  have hl : s.heap.IsList l vs.toArray := ⟨_, z.1, rfl, k, rfl⟩
  have hlt : l < s.heap.objs.size := Heap.lt_size z.1
  have hLlt : L < s.heap.objs.size := F.ns.lt
  have h0 : ∀ a, s.heap.objs.size ≤ a → h₀.get? a = none := fun a ha => by
    cases e : h₀.get? a with
    | none => rfl
    | some o' => exact absurd (Heap.lt_size (F.keep a o' e)) (Nat.not_lt.mpr ha)
  refine call_enumerate_list hl fun h' he hit hsize hk => ?_
  refine ⟨s.heap.objs.size + 1, s.heap.objs.size, l, vs, ns, news, rfl, hh, F.keeps hk, N.grown hk, he, hit, hl.at fun o q => hk _ o q, hi, hsz, Nat.succ_ne_self _, Nat.ne_of_lt (Nat.lt_succ_of_lt hlt), Nat.ne_of_lt hlt, Nat.ne_of_lt (Nat.lt_succ_of_lt hLlt), Nat.ne_of_lt hLlt, h0 _ (Nat.le_succ _), h0 _ (Nat.le_refl _), ?_, ?_⟩
  · intro p hp
    have hp' : p.1 < s.heap.objs.size := Heap.lt_size (N p hp).1
    exact ⟨Nat.ne_of_lt (Nat.lt_succ_of_lt hp'), Nat.ne_of_lt hp'⟩
  · intro D ys h tk h1 h2 h3 h4
    exact fin D ys h tk h1 h2 h3 h4
end
end Mine

namespace Mine
open PyProof.V PySem.Spec PyProof.Rows.LCg
section
variable {prog : Program} {w : World} {A : Around} {env : Env}
theorem elt_data {scope : Scope} {cl : List (Str × Addr)} {k1 k2 : Nat} {p1 p2 p3 p4 p5 p6 p7 : Pos} (hkind : scope.kind = .function)
    (hk : scope.names.lookup (Str.ofString "k") = some .local) (hn : scope.names.lookup (Str.ofString "number") = some .local) :
    EncElt prog w A env (.BinOp (.BinOp (.Name "number" p1) .Add (.BinOp (.Constant (.int 7) k1 p2) .Mult (.Name "k" p3) p4) p5) .Mod (.Constant (.int 256) k2 p6) p7) (Str.ofString "k") (Str.ofString "number") scope cl (fun k n => Int.fmod (n + 7 * k) 256) := by
  intro C m₂ k n t u s E h0 h1 hns ha hb
  refine wpAny_BinOp (wpAny_BinOp (wpAny_Name (wpAny_loadName_local (by simp [compEnvC, relabel, hkind]) (lookup_relabel_local hn) hns hb ?_)))
  refine wpAny_BinOp (wpAny_Constant_int (wpAny_Name (wpAny_loadName_local (by simp [compEnvC, relabel, hkind]) (lookup_relabel_local hk) hns ha ?_)))
  refine PyProof.Rows.mul_int (PyProof.Rows.add_int ?_) (.of_left (by decide))
  exact wpAny_Constant_int (PyProof.Rows.mod_int' (by decide) ⟨_, _, rfl, rfl⟩)
end
end Mine

namespace Mine
open PyProof.V PySem.Spec PyProof.Rows.LCg
section
variable {prog : Program} {w : World} {A : Around} {E : Value → Shared → Prop} {s : Shared} {h₀ : Heap} {L : Addr} {m : Str → Option Value} {news : List (Addr × Obj)}
theorem mk_data {l : Addr} {vs : List Value} {ns : List Int} {k : Nat} {Q : Value → Shared → Prop} (hh : A.handled = none) (F : Fr h₀ L s.heap m) (N : News h₀ L s.heap news) (hm : (l, listOf vs.toArray k) ∈ news)
    (hi : IntsAre vs (enumMap (fun k n => Int.fmod (n + 7 * k) 256) ns)) (hz : ns.length ≤ 60)
    (h : ∀ h' t k' b ks, Fr h₀ L h' m → News h₀ L h' news → KBw.bInts b = ks → ks.length ≤ 60 → Q (.bytes b t) { s with heap := h', toks := k' }) : wpAny (model prog w) A (call (.type "bytes") [.ref l]) Q E s := by
  have hl : s.heap.IsList l vs.toArray := ⟨_, (N _ hm).1, rfl, k, rfl⟩
  have hlen := hi.length
  rw [enumMap_length] at hlen
  refine call_bytes_ints hl hi (enumMap_mem fun k n => ?_) (by rw [hlen, sizeLine_eq]; omega) hh fun h' t k' hk => h h' t k' _ _ (F.keeps hk) (N.grown hk) rfl ?_
  · have h1 := Int.fmod_nonneg_of_pos (n + 7 * k) (b := 256) (by decide)
    have h2 := Int.fmod_lt_of_pos (n + 7 * k) (b := 256) (by decide)
    exact ⟨h1, h2⟩
  · rw [KBw.ints_length, byteArr_size, enumMap_length]
    exact hz
end
end Mine

namespace Mine
open PyProof.V PySem.Spec PyProof.Rows.LCg
theorem look_bytes : typeLookup (.type "bytes") (Str.ofString "__bytes__") = pure (some (.builtin "bytes.__bytes__")) := by rw [typeLookup_type, builtinLookup_eq_fast]; kernel_rfl
section
variable {prog : Program} {w : World} {A : Around} {E : Value → Shared → Prop} {s : Shared}
theorem new_bytes {b : Array UInt8} {t : Tok} {Q : Value → Shared → Prop} (hQ : Q (.bytes b t) s) :
    codeAny (model prog w) A (.call (.builtin "bytes.__new__") ⟨[.type "bytes", .bytes b t], []⟩) (wants Q E) s := by
  refine codeAny_of_tree ?_
  show wpAny _ A.in1 (do checkBuiltinCall "bytes.__new__" ⟨[.type "bytes", .bytes b t], []⟩; again (.builtin "bytes.__new__" ⟨[.type "bytes", .bytes b t], []⟩)) _ _ s
  refine wpAny_bind (wpAny_of_eq (F.bm_newCall _) (wpAny_pure ⟨plainId_quiet F.bm_plain _, codeAny_builtin F.bm_entry ?_⟩))
  rw [Around.under_plainId F.bm_plain _]
  have hT : s.TypeIs (.bytes b t) "bytes" := typeIs_bytes _ _ _
  unfold Builtin.«bytes.__new__»
  refine wpAny_bind (wpAny_of_eq (a := true) rfl ?_)
  refine bm_if_false rfl ?_
  refine wpAny_bind (wpAny_of_eq F.bm_sub ?_)
  refine bm_if_false rfl ?_
  refine wpAny_bind (wpAny_of_eq (F.bm_bind _) ?_)
  refine wpAny_bind (wpAny_of_eq (a := ()) rfl ?_)
  refine wpAny_bind (wpAny_of_eq (a := ()) rfl ?_)
  refine bm_if_false rfl ?_
  refine wpAny_bind (wpAny_specialOf hT look_bytes ?_)
  refine wpAny_bind (wpAny_rule ?_)
  refine wpAny_bind (wpAny_typeOf hT ?_)
  refine bm_if_true (by decide) ?_
  show wpAny _ _ (if (Value.type "bytes" == Value.type "bytes") = true then _ else _) _ _ _
  refine bm_if_true (by decide) ?_
  first
    | exact wpAny_pure hQ
    | exact wpAny_pure ⟨_, rfl, hQ⟩
    | exact wpAny_bind (wpAny_pure (wpAny_pure hQ))
theorem call_bytes_bytes {b : Array UInt8} {t : Tok} {Q : Value → Shared → Prop} (hQ : Q (.bytes b t) s) : wpAny (model prog w) A (call (.type "bytes") [.bytes b t]) Q E s := by
  refine callType_codes (Q₁ := fun obj s₁ => s₁.TypeIs obj "bytes" ∧ Q obj s₁) F.bm_called (F.bm_typeCall _) F.entry_object_init
    (new_bytes ⟨typeIs_bytes _ _ _, hQ⟩) fun obj s₁ h₁ => ?_
  exact ⟨h₁.1, F.args_object_init_2 obj _, object_init_meets F.bm_called.init.lookup F.bm_called.made (by decide) prog w A.in1 _ s₁ ⟨h₁.1, rfl, h₁.2⟩⟩
end
end Mine

namespace Mine
open PyProof.V PySem.Spec PyProof.Rows.LCg
/-- a frame: its beginning's way, the place to go back to -/
abbrev P (q : Int × Int) : Dat := .tuple [.int q.1, .int q.2]
end Mine

namespace Mine
open PyProof.V PySem.Spec PyProof.Rows.LCg
theorem pair_in {news : List (Addr × Obj)} {v : Value} {q : Int × Int} (h : DatIn news v (P q)) :
    ∃ (a : Addr) (n : Nat) (t u : Tok), v = .ref a ∧ (a, ({ cls := .type "tuple", data := .seq #[.int q.1 t, .int q.2 u] n } : Obj)) ∈ news := by
  cases h with
  | tuple hm hd =>
    cases hd with
    | cons h1 hd =>
      cases hd with
      | cons h2 hd =>
        cases hd
        cases h1
        cases h2
        exact ⟨_, _, _, _, rfl, hm⟩
theorem dat_at {news : List (Addr × Obj)} {us : List Value} {qs : List (Int × Int)} (h : DatAll news us (qs.map P)) {i : Nat} {v : Value} (hv : us[i]? = some v) : ∃ q, qs[i]? = some q ∧ DatIn news v (P q) := by
  have hl : us.length = qs.length := by rw [h.length, List.length_map]
  have hi : i < us.length := (List.getElem?_eq_some_iff.mp hv).1
  have hi' : i < (qs.map P).length := by rw [List.length_map, ← hl]; exact hi
  obtain ⟨v', hv', hD⟩ := h.get hi'
  have e : v' = v := by rw [hv] at hv'; exact (Option.some.inj hv').symm
  rw [e] at hD
  refine ⟨qs[i]'(by rw [← hl]; exact hi), List.getElem?_eq_getElem _, ?_⟩
  simpa using hD
section
variable {prog : Program} {w : World} {A : Around} {E : Value → Shared → Prop} {s : Shared} {h₀ : Heap} {L : Addr} {m : Str → Option Value} {env : Env}

theorem elt_first {env : Env} {x : Str} {p1 p2 p3 : Pos} {k1 : Nat} {a : Addr} {n : Nat} {i j : Int} {t u : Tok} {m₂ : Str → Option Value} {Q : Value → Shared → Prop} (hkind : env.scope.kind = .function) (hx : env.kindOf x = some .local) (hd : (x == ("__debug__" : Str)) = false)
    (hns : s.heap.Ns env.locals m₂) (hv : m₂ x = some (.ref a)) (ht : s.heap.get? a = some ({ cls := .type "tuple", data := .seq #[.int i t, .int j u] n } : Obj)) (h : Q (.int i t) { s with toks := s.toks + 1 }) :
    wpAny (model prog w) A (eval (.Subscript (.Name x p1) (.Constant (.int 0) k1 p2) p3) env) Q E s := by
  refine Subscript_Constant (wpAny_Name (wpAny_loadName_local hkind hx hns hv ?_) hd)
  refine wpAny_Constant_int ?_
  have hT : IsTup s.heap a #[.int i t, .int j u] := ⟨_, ht, rfl, n, rfl⟩
  exact ⟨"tuple", _, slot_tuple_getitem.lookup, hT.typeIs, getItem_tuple hT (by decide) (by decide) (j := 0) rfl rfl h⟩

theorem fst_ListComp {x y : Str} {p1 p2 p3 px py : Pos} {k1 : Nat} {scope : Scope} {cl : List (Str × Addr)} {pos : Pos} {l : Addr} {arr : Array Value} {us : List Value} {nn : Nat} {qs : List (Int × Int)} {news : List (Addr × Obj)} {Q : Value → Shared → Prop} (F : Fr h₀ L s.heap m) (N : News h₀ L s.heap news)
    (hclos : closureFor scope env = pure cl) (hcell : ∀ y ∈ scope.names, y.2 ≠ .cell) (hkind : scope.kind = .function)
    (hnames : ∀ y ∈ scope.names, y.2 = .local → scope.names.lookup y.1 = some .local) (hx : scope.names.lookup x = some .local) (hd : (x == ("__debug__" : Str)) = false)
    (hk : env.scope.kind = .function) (hy : env.kindOf y = some .local) (hdy : (y == ("__debug__" : Str)) = false) (hLe : env.locals = L) (hv : m y = some (.ref l)) (hm : (l, listOf arr nn) ∈ news) (he : arr = us.toArray) (hD : DatAll news us (qs.map P)) (hz : qs.length ≤ 1000) (hh : A.handled = none)
    (fin : ∀ D ys h tk, IntsAre ys (qs.map Prod.fst) → Fr h₀ L h m → News h₀ L h ((D, listOf ys.toArray ys.length) :: news) → (∀ p ∈ news, p.1 < D) → Q (.ref D) { s with heap := h, toks := tk })
    (hs : ∀ x, foldedSetIterable (.Name y py) env x = pure x := by intro _; rfl) :
    wpAny (model prog w) A (eval (.ListComp (.Subscript (.Name x p1) (.Constant (.int 0) k1 p2) p3) [⟨.Name x px, .Name y py, [], 0⟩] scope pos) env) Q E s := by
  subst he
  rw [eval_ListComp]
  refine wpAny_comprehension_free (use := none) rfl hs hclos hkind hnames (wpAny_Name (wpAny_loadName_local hk hy (hLe ▸ F.ns) hv ?_) hdy)
  have hol : s.heap.get? l = some (listOf us.toArray nn) := (N _ hm).1
  have hl : s.heap.IsList l us.toArray := ⟨_, hol, rfl, nn, rfl⟩
  have hlt : l < s.heap.objs.size := Heap.lt_size hol
  refine wpAny_pyIter_list hl ?_
  have up0 : ∀ b o, s.heap.get? b = some o → (s.heap.push { cls := .type "list_iterator", data := .fields #[.ref l, .int 0 0] }).get? b = some o := fun b o e => Heap.get?_push_of_some _ e
  have hI0 : (s.heap.push { cls := .type "list_iterator", data := .fields #[.ref l, .int 0 0] }).IsListIter s.heap.objs.size l 0 := ⟨_, Heap.get?_push_size _ rfl, rfl, rfl⟩
  have hl0 : (s.heap.push { cls := .type "list_iterator", data := .fields #[.ref l, .int 0 0] }).IsList l us.toArray := hl.push _
  have F0 := F.keeps up0
  have N0 := N.grown up0
  have hIn : ∀ p ∈ news, p.1 ≠ s.heap.objs.size := fun p hp => Nat.ne_of_lt (Heap.lt_size (N p hp).1)
  have hIL : L ≠ s.heap.objs.size := Nat.ne_of_lt F.ns.lt
  have hIh : h₀.get? s.heap.objs.size = none := next_is_new F
  have hIs : s.heap.objs.size < (s.heap.push { cls := .type "list_iterator", data := .fields #[.ref l, .int 0 0] }).objs.size := by rw [Heap.size_push]; exact Nat.lt_succ_self _
  have hlI : l ≠ s.heap.objs.size := Nat.ne_of_lt hlt
  generalize hIe : s.heap.objs.size = I at *
  generalize hg : s.heap.push { cls := .type "list_iterator", data := .fields #[.ref l, .int 0 0] } = g at *
  have hlen : us.length = qs.length := by rw [hD.length, List.length_map]
  have W := Walks.list (prog := prog) (w := w) (A := A) hh I l hlI us.toArray
  have hsize : us.toArray.size = qs.length := by rw [List.size_toArray, hlen]
  rw [hsize] at W
  refine wpAny_newObj_type (wpAny_newFunctionEnv hcell (by intro y hy; simp at hy) (fun h₁ hns₁ hsb₁ => ?_) hkind)
  dsimp only at hns₁ hsb₁ ⊢
  generalize hH2 : g.push { cls := .type "list", dict := none, data := .seq ([] : List Value).toArray } = H2 at hns₁ hsb₁ ⊢
  have hC : H2.objs.size = g.objs.size + 1 := by rw [← hH2, Heap.size_push]
  have hDC : g.objs.size ≠ H2.objs.size := by rw [hC]; exact Nat.ne_of_lt (Nat.lt_succ_self _)
  have below : ∀ b, b < g.objs.size → b ≠ H2.objs.size ∧ b ≠ g.objs.size := fun b hb => ⟨by rw [hC]; exact Nat.ne_of_lt (Nat.lt_succ_of_lt hb), Nat.ne_of_lt hb⟩
  have old : ∀ b o, g.get? b = some o → h₁.get? b = some o := fun b o e => hsb₁.extBut b o (below b (Heap.lt_size e)).1 (Heap.get?_push_of_some _ (hH2 ▸ Heap.get?_push_of_some _ e))
  have hacc : h₁.get? g.objs.size = some (lst []) := hsb₁.extBut _ _ hDC (Heap.get?_push_of_some _ (hH2 ▸ Heap.get?_push_size _ rfl))
  have fresh₀ : ∀ a, g.objs.size ≤ a → h₀.get? a = none := fun a ha => by
    cases e : h₀.get? a with
    | none => rfl
    | some o' => exact absurd (Heap.lt_size (F0.keep a o' e)) (Nat.not_lt.mpr ha)
  have hD₀ : h₀.get? g.objs.size = none := fresh₀ _ (Nat.le_refl _)
  have hC₀ : h₀.get? H2.objs.size = none := fresh₀ _ (by rw [hC]; exact Nat.le_succ _)
  have hLlt : L < g.objs.size := F0.ns.lt
  have hDL : g.objs.size ≠ L := Ne.symm (below L hLlt).2
  have hCL : H2.objs.size ≠ L := Ne.symm (below L hLlt).1
  have hlt_l : l < g.objs.size := by obtain ⟨o, q, _⟩ := hl0; exact Heap.lt_size q
  have hIC := below I hIs
  have hlC := below l hlt_l
  have hst₁ : h₁.IsListIter I l 0 ∧ h₁.IsList l us.toArray := ⟨hI0.at fun o x => old _ o x, hl0.at fun o x => old _ o x⟩
  have hnw : ∀ p ∈ news, p.1 ≠ H2.objs.size ∧ p.1 ≠ g.objs.size := fun p hp => below _ (Heap.lt_size (N0 p hp).1)
  have loop : ∀ s₃ : Shared, s₃ = { s with heap := h₁, toks := s.toks + ([] : List (Str × Value)).length } →
      codeAny (model prog w) A (.compLoop (.ListComp (.Subscript (.Name x p1) (.Constant (.int 0) k1 p2) p3) [⟨.Name x px, .Name y py, [], 0⟩] scope pos) 0 (.ref I) (.ref g.objs.size) (compEnvC scope cl H2.objs.size env))
        (compPost (model prog w) A E none Q (.ref g.objs.size) H2.objs.size) s₃ := by
    rintro s₃ rfl
    refine kcp_loop
      (fun k s' => ∃ h' tk i ys m', s' = { s with heap := h', toks := tk } ∧ i ≤ qs.length ∧ k = qs.length + 1 - i ∧ IntsAre ys ((qs.map Prod.fst).take i) ∧
        (h'.IsListIter I l i ∧ h'.IsList l us.toArray) ∧ Fr h₀ L h' m ∧ h'.Ns H2.objs.size m' ∧ h'.get? g.objs.size = some (lst ys) ∧ News h₀ L h' news) ?_ (qs.length + 1)
      ⟨h₁, _, 0, [], _, rfl, Nat.zero_le _, rfl, .nil, hst₁, F0.keeps old, hns₁, hacc, N0.grown old⟩
    rintro k s' ⟨h', tk, i, ys, m', rfl, hin, rfl, hy, hst', F', hn', hD', N'⟩
    have hyl : ys.length = i := by rw [hy.length, List.length_take, List.length_map]; omega
    by_cases hlt : i < qs.length
    · refine W.item i _ _ _ hlt hst' fun v h₂ tk₂ hPv hst₂ hk₂ => ?_
      have hv' : us[i]? = some v := by simpa using hPv
      obtain ⟨q, hq, hDq⟩ := dat_at hD hv'
      obtain ⟨a, na, t, u, rfl, hma⟩ := pair_in hDq
      refine wpAny_pure ?_
      have hCI : H2.objs.size ≠ I := Ne.symm hIC.1
      refine wpAny_assign_Name (wpAny_storeName_local (lookup_relabel_local hx) (hn'.at' fun o e => hk₂ _ o (by simpa using hCI) e) (fun h₃ hn₃ hs₃ => ?_) (by simp [compEnvC, relabel, hkind]))
      have up : ∀ c o, c ≠ I → c ≠ H2.objs.size → h'.get? c = some o → h₃.get? c = some o := fun c o h1 h3 e => hs₃.extBut c o h3 (hk₂ c o (by simpa using h1) e)
      have hta : h₃.get? a = some ({ cls := .type "tuple", data := .seq #[.int q.1 t, .int q.2 u] na } : Obj) := up _ _ (hIn _ hma) (hnw _ hma).1 (N' _ hma).1
      refine elt_first (env := compEnvC scope cl H2.objs.size env) (by simp [compEnvC, relabel, hkind]) (lookup_relabel_local hx) hd hn₃ (by simp) hta ?_
      have zD : h₃.get? g.objs.size = some (lst ys) := up _ _ (Ne.symm hIC.2) hDC hD'
      refine append_at (hsz := by show ys.toArray.size ≤ sizeLine; rw [List.size_toArray, hyl, sizeLine_eq]; omega) zD fun h₆ hs₆ hD₆ => ?_
      have upp : ∀ c o, c ≠ g.objs.size → h₃.get? c = some o → h₆.get? c = some o := fun c o hc e => hs₆.extBut c o hc e
      have st₄ : ∀ b ∈ [I, l], ∀ o, h₂.get? b = some o → h₆.get? b = some o := fun b hb o q => by
        have hb' : b ≠ H2.objs.size ∧ b ≠ g.objs.size := by
          rcases List.mem_cons.mp hb with rfl | hb
          · exact hIC
          · rw [List.mem_singleton.mp hb]; exact hlC
        exact upp b o hb'.2 (hs₃.extBut b o hb'.1 q)
      refine ⟨qs.length + 1 - (i + 1), by omega, h₆, _, i + 1, ys ++ [.int q.1 t], _, rfl, hlt, rfl, ?_, W.frame _ _ _ hst₂ st₄, ?_, hn₃.at' fun o q => upp _ o (Ne.symm hDC) q, hD₆.trans (congrArg some (lst_snoc ys _)), ?_⟩
      · rw [List.take_add_one, List.getElem?_map, hq]
        exact IntsAre.append hy (.cons _ t .nil)
      · refine ⟨F'.ns.at' fun o q => upp _ o (Ne.symm hDL) (up _ o hIL (Ne.symm hCL) q), fun c o q => upp c o ?_ (up c o ?_ ?_ (F'.keep c o q)), F'.above⟩
        · intro hc; rw [hc, hD₀] at q; cases q
        · intro hc; rw [hc, hIh] at q; cases q
        · intro hc; rw [hc, hC₀] at q; cases q
      · exact fun p hp => ⟨upp _ _ (hnw p hp).2 (up _ _ (hIn p hp) (hnw p hp).1 (N' p hp).1), (N' p hp).2⟩
    · have hin' : i = qs.length := by omega
      subst hin'
      refine W.done _ _ _ hst' fun h₂ tk₂ hk₂ => ?_
      have hCI : H2.objs.size ≠ I := Ne.symm hIC.1
      have up : ∀ c o, c ≠ I → h'.get? c = some o → h₂.get? c = some o := fun c o h1 q => hk₂ c o (by simpa using h1) q
      refine ⟨m', hn'.at' fun o q => up _ o hCI q, fun h'' hs'' => ?_⟩
      have upp : ∀ c o, c ≠ H2.objs.size → h₂.get? c = some o → h''.get? c = some o := fun c o hc q => hs''.extBut c o hc q
      refine fin g.objs.size ys h'' tk₂ ?_ ?_ ?_ (fun p hp => Heap.lt_size (N0 p hp).1)
      · have := hy
        rw [show qs.length = (qs.map Prod.fst).length by simp, List.take_length] at this
        exact this
      · refine ⟨F'.ns.at' fun o q => upp _ o (Ne.symm hCL) (up _ o hIL q), fun c o q => upp c o ?_ (up c o ?_ (F'.keep c o q)), F'.above⟩
        · intro hc; rw [hc, hC₀] at q; cases q
        · intro hc; rw [hc, hIh] at q; cases q
      · intro p hp
        rcases List.mem_cons.mp hp with rfl | hp
        · exact ⟨upp _ _ hDC (up _ _ (Ne.symm hIC.2) hD'), hDL, hD₀⟩
        · exact ⟨upp _ _ (hnw p hp).1 (up _ _ (hIn p hp) (N' p hp).1), (N' p hp).2⟩
  exact codeAny_compStart_list (loop _ rfl) (wpAny_pyIter_listiter hst₁.1 (loop _ rfl))
end
end Mine

namespace Mine
open PyProof.V PySem.Spec PyProof.Rows.LCg
theorem pairs_up {news L9 : List (Addr × Obj)} {us : List Value} {fs : List (Int × Int)} (hs : ∀ p ∈ L9, p ∈ news) (h : DatAll L9 us (fs.map P)) : DatAll news us (fs.map P) := DatAll.mono hs h
theorem pairs_snoc {news L9 : List (Addr × Obj)} {us : List Value} {fs : List (Int × Int)} {t : Addr} {a b : Int} {ta tb : Tok} {n : Nat} (hs : ∀ p ∈ L9, p ∈ news) (h : DatAll L9 us (fs.map P))
    (ht : (t, ({ cls := .type "tuple", data := .seq #[.int a ta, .int b tb] n } : Obj)) ∈ news) : DatAll news (us ++ [.ref t]) ((fs ++ [(a, b)]).map P) := by
  rw [List.map_append]
  exact DatAll.append (DatAll.mono hs h) (.cons (.tuple (vs := [.int a ta, .int b tb]) ht (.cons (.int a ta) (.cons (.int b tb) .nil))) .nil)
end Mine

namespace Mine
open PyProof.V PySem.Spec PyProof.Rows.LCg
/-- the loop's word: both stacks are one list of pairs, the frame's beginning is their ways' sum, the places agree -/
abbrev Word (pre : List Int) (fr sf : List Dat) (p sp to : Int) : Prop := ∃ fs : List (Int × Int), fr = fs.map P ∧ sf = fs.map P ∧ to = (fs.map Prod.fst).sum ∧ p = sp ∧ fs.length ≤ pre.length
theorem sum_snoc (fs : List (Int × Int)) (a b : Int) : ((fs ++ [(a, b)]).map Prod.fst).sum = (fs.map Prod.fst).sum + a := by
  simp
theorem end_push {pre : List Int} {n : Int} {fs : List (Int × Int)} {a pl spl to : Int} (h1 : to = (fs.map Prod.fst).sum) (h2 : pl = spl) (h3 : fs.length ≤ pre.length) :
    ∃ fs' : List (Int × Int), fs.map P ++ [Dat.tuple [.int a, .int pl]] = fs'.map P ∧ fs.map P ++ [Dat.tuple [.int a, .int spl]] = fs'.map P ∧ to + a = (fs'.map Prod.fst).sum ∧ ((fs ++ [(a, pl)]).map Prod.fst).sum = to + a + 0 ∧ fs'.length ≤ (pre ++ [n]).length := by
  subst h2
  refine ⟨fs ++ [(a, pl)], by simp [P], by simp [P], ?_, ?_, ?_⟩
  · rw [sum_snoc, h1]
  · rw [sum_snoc, h1]; omega
  · simp only [List.length_append, List.length_cons, List.length_nil]; omega
theorem end_same {pre : List Int} {n : Int} {fs : List (Int × Int)} {p sp to : Int} (h1 : to = (fs.map Prod.fst).sum) (h2 : p = sp) (h3 : fs.length ≤ pre.length) :
    ∃ fs' : List (Int × Int), fs.map P = fs'.map P ∧ fs.map P = fs'.map P ∧ to = (fs'.map Prod.fst).sum ∧ p = sp ∧ fs'.length ≤ (pre ++ [n]).length := by
  refine ⟨fs, rfl, rfl, h1, h2, ?_⟩
  simp only [List.length_append, List.length_cons, List.length_nil]; omega
end Mine

namespace Mine
open PyProof.V PySem.Spec PyProof.Rows.LCg
theorem no_over {x : Int} (h : 2 ^ Int.toNat 63 - 1 < Int.fmod x 9) : False := by
  have h1 := Int.fmod_lt_of_pos x (b := 9) (by decide)
  have e : (2 : Int) ^ Int.toNat 63 = 9223372036854775808 := by decide
  rw [e] at h
  omega
theorem no_over2 {n : Nat} (hn : n ≤ 60) (h : 2 ^ Int.toNat 63 - 1 < (n : Int)) : False := by
  have e : (2 : Int) ^ Int.toNat 63 = 9223372036854775808 := by decide
  rw [e] at h
  omega
end Mine

namespace Mine
open PyProof.V PySem.Spec PyProof.Rows.LCg
/-- the last frame -/
abbrev lastP (fs : List (Int × Int)) : Int × Int := fs.getLastD (0, 0)
theorem last_split : ∀ (fs : List (Int × Int)), 0 < fs.length → fs = fs.dropLast ++ [lastP fs]
  | [], h => absurd h (Nat.lt_irrefl 0)
  | [q], _ => rfl
  | q :: r :: t, _ => by
    have ih := last_split (r :: t) (Nat.succ_pos _)
    have e : lastP (q :: r :: t) = lastP (r :: t) := by simp [lastP, List.getLastD]
    rw [e]
    exact congrArg (List.cons q) ih
theorem ne_of {us : List Value} {fs : List (Int × Int)} (h : us.isEmpty = false) (hl : us.length = (fs.map P).length) : 0 < fs.length := by
  rw [List.length_map] at hl
  rw [← hl]
  cases us with
  | nil => exact absurd h (by simp)
  | cons _ _ => exact Nat.succ_pos _
theorem nil_of {us us₀ : List Value} {fs : List (Int × Int)} (h : us₀.isEmpty = true) (hl₀ : us₀.length = (fs.map P).length) (hl : us.length = (fs.map P).length) : us = [] := by
  cases us₀ with
  | nil =>
    rw [← hl₀] at hl
    exact List.length_eq_zero_iff.mp hl
  | cons _ _ => exact absurd h (by simp)
theorem end_pop {pre : List Int} {n : Int} {fs : List (Int × Int)} {to : Int} (hne : 0 < fs.length) (h1 : to = (fs.map Prod.fst).sum) (h3 : fs.length ≤ pre.length) :
    ∃ fs' : List (Int × Int), fs.dropLast.map P = fs'.map P ∧ fs.dropLast.map P = fs'.map P ∧ to - (lastP fs).1 = (fs'.map Prod.fst).sum ∧ (lastP fs).2 = (lastP fs).2 ∧ fs'.length ≤ (pre ++ [n]).length := by
  refine ⟨fs.dropLast, rfl, rfl, ?_, rfl, ?_⟩
  · have e : (fs.map Prod.fst).sum = (fs.dropLast.map Prod.fst).sum + (lastP fs).1 := by
      conv => lhs; rw [last_split fs hne]
      simp
    omega
  · simp only [List.length_append, List.length_cons, List.length_nil, List.length_dropLast]; omega
section
variable {prog : Program} {w : World} {A : Around} {E : Value → Shared → Prop} {s : Shared} {h₀ : Heap} {L D : Addr} {m : Str → Option Value} {news news' : List (Addr × Obj)} {n : Nat}
theorem pop_out {us : List Value} {Q : Value → Shared → Prop} (hA : A.handled = none) (N : News h₀ L s.heap news) (hm : (D, listOf us.toArray n) ∈ news) (he : us = [])
    (hE : ∀ h' tk e, Heap.NewExc s.heap h' e "IndexError" → E (.ref e) { s with heap := h', toks := tk }) : wpAny (model prog w) A (call (.builtin "list.pop") [.ref D]) Q E s := by
  subst he
  exact call_meets PySem.F.slot_list_pop ⟨_, (N _ hm).1, rfl⟩ PySem.F.entry_list_pop (PySem.F.args_list_pop_1 _) (PySem.AutoSeq1.list_pop_list_0 D _ n rfl) ⟨(N _ hm).1, hA, fun h' tk e x => hE h' tk e x⟩
theorem pop_dat {us : List Value} {fs : List (Int × Int)} {L9 : List (Addr × Obj)} {Q : Value → Shared → Prop} (F : Fr h₀ L s.heap m) (N : News h₀ L s.heap news) (U : Upd D (listOf us.toArray n) (listOf us.dropLast.toArray (n + 1)) news news')
    (hd : DatAll L9 us (fs.map P)) (hne : 0 < fs.length) (hz : fs.length ≤ 1000)
    (h : ∀ h' a na ta tb, 0 < fs.length → Fr h₀ L h' m → News h₀ L h' news' → DatAll L9 us.dropLast (fs.dropLast.map P) → (a, ({ cls := .type "tuple", data := .seq #[.int (lastP fs).1 ta, .int (lastP fs).2 tb] na } : Obj)) ∈ L9 → Q (.ref a) { s with heap := h' }) :
    wpAny (model prog w) A (call (.builtin "list.pop") [.ref D]) Q E s := by
  have hlen : us.length = fs.length := by rw [hd.length, List.length_map]
  have hune : us ≠ [] := fun e => by rw [e] at hlen; simp at hlen; omega
  have hus : us = us.dropLast ++ [us.getLast hune] := (List.dropLast_concat_getLast hune).symm
  have hd' : DatAll L9 (us.dropLast ++ [us.getLast hune]) (fs.dropLast.map P ++ [P (lastP fs)]) := by
    rw [← hus]
    have e : fs.dropLast.map P ++ [P (lastP fs)] = fs.map P := by
      conv => rhs; rw [last_split fs hne]
      rw [List.map_append]; rfl
    rw [e]
    exact hd
  obtain ⟨es, d, he, h1, h2⟩ := hd'.snoc
  have he' := List.append_inj' he rfl
  have e1 : fs.dropLast.map P = es := he'.1
  have e2 : P (lastP fs) = d := by simpa using he'.2
  rw [← e1] at h1
  rw [← e2] at h2
  obtain ⟨a, na, ta, tb, hv, hma⟩ := pair_in h2
  refine kl_pop F N (p := us.dropLast) (y := .ref a) ?_ U (by rw [sizeLine_eq]; simp only []; rw [hlen]; omega) fun h' F' N' => h h' a na ta tb hne F' N' h1 hma
  have e := kpa_last (us.getLast hune) us.dropLast
  rw [← hus, hv] at e
  simpa using e
end
end Mine

namespace Mine
open PyProof.V PySem.Spec PyProof.Rows.LCg
/-- a new exception, whatever its context -/
structure NewC (h h' : Heap) (e : Addr) (cls : String) : Prop where
  keeps : ∀ b o, h.get? b = some o → h'.get? b = some o
  new : h.get? e = none
  there : ∃ (ob : Obj) (vs : Array Value) (a0 : Value), h'.get? e = some ob ∧ ob.cls = .type cls ∧ ob.data = .fields vs ∧ vs[0]? = some a0 ∧ vs[1]? = some .none
/-- an exception without a context -/
def Ctx2 (h : Heap) (e : Addr) : Prop := ∃ (oe : Obj) (vs : Array Value), h.get? e = some oe ∧ oe.data = .fields vs ∧ vs[2]? = some .none
theorem Ctx2.keeps {h h' : Heap} {e : Addr} (c : Ctx2 h e) (k : ∀ b o, h.get? b = some o → h'.get? b = some o) : Ctx2 h' e := by
  obtain ⟨oe, vs, a, b, c⟩ := c
  exact ⟨oe, vs, k _ _ a, b, c⟩
theorem entry_unchain : entryFor table "proto.unchain" = some Builtin.«proto.unchain» := by first | exact entryFor_of_fast (by kernel_rfl) | exact entryFor_of_tree (by kernel_rfl)
section
variable {prog : Program} {w : World} {A : Around} {E : Value → Shared → Prop} {s : Shared} {env : Env}
theorem unchain_none {v : Value} {e1 : Addr} {Q : Value → Shared → Prop} (c : Ctx2 s.heap e1) (h : Q .none s) : wpAny (model prog w) A (runValue (.builtin "proto.unchain" ⟨[v, .ref e1, .ref e1, .bool false], []⟩)) Q E s := by
  obtain ⟨oe, vs, ha, hb, hc⟩ := c
  refine wpAny_runValue (codeAny_builtin entry_unchain ?_)
  show wpAny _ _ (field (.ref e1) 2 >>= _) _ _ s
  refine wpAny_bind (wpAny_field ha hb hc ?_)
  rw [if_pos (show (Value.none == Value.none) = true from by decide)]
  first
    | exact wpAny_pure h
    | exact wpAny_pure ⟨_, rfl, h⟩
    | exact wpAny_bind (wpAny_pure (wpAny_pure h))
    | exact wpAny_bind (wpAny_pure h)
theorem raiseStmt_ctx {cls : String} (F : ExcRaiseFacts cls) {x : Sem Value} {e1 : Addr} {Q : Flow → Shared → Prop} (hh : A.handled = some (.ref e1))
    (h : wpAny (model prog w) A x (fun v s₁ => ∃ e t, v = .ref e ∧ s₁.heap.get? e = some { cls := .type cls, data := .fields #[.ref t, .none, .none, .none, .bool false, .none] } ∧ e ≠ e1 ∧ Ctx2 s₁.heap e1 ∧
      E (.ref e) { s₁ with heap := s₁.heap.update e (Obj.mapFields (·.setIfInBounds 2 (.ref e1))) }) E s) :
    wpAny (model prog w) A (raiseStmt env (some x) none) Q E s := by
  unfold raiseStmt
  refine wpAny_bind (wpAny_mono h (fun v s₁ h₁ => ?_) fun _ _ x => x)
  obtain ⟨e, t, rfl, he, hne, hc, hE⟩ := h₁
  obtain ⟨hp, g, d, tk, os⟩ := s₁
  have hsub := F.isExc
  have hmeta := F.plainMeta
  repeat (first | refine wpAny_loadPart he ?_ | wp_step)
  unfold raiseNew
  refine wpAny_bind (wpAny_handled ?_)
  rw [hh]
  have hne' : ((Value.ref e1 != Value.ref e) = true) := by
    simp only [bne_iff_ne, ne_eq, Value.ref.injEq]
    exact fun q => hne q.symm
  dsimp only
  rw [if_pos hne']
  refine wpAny_bind (wpAny_holding (unchain_none hc ?_))
  have st : wpAny (model prog w) A (setField (.ref e) 2 (.ref e1)) (fun _ s' => wpAny (model prog w) A (throw (.ref e) : Sem Flow) Q E s') E ⟨hp, g, d, tk, os⟩ :=
    wpAny_setField he rfl (by simp) (wpAny_throw hE)
  exact wpAny_bind st

theorem raise_ctx {cls newId initId : String} (FC : ExcCallFacts cls newId initId) (G : ExcRaiseFacts cls) {x msg : Str} {np cpos pos kp : Pos} {k : Nat} {e1 : Addr} {Q : Flow → Shared → Prop} (hh : A.handled = some (.ref e1)) (hc : Ctx2 s.heap e1)
    (hname : wpAny (model prog w) A (eval (.Name x np) env) (fun f s₁ => f = .type cls ∧ s₁ = s) E s)
    (hE : ∀ h' tk e, NewC s.heap h' e cls → E (.ref e) { s with heap := h', toks := tk }) :
    wpAny (model prog w) A (exec (.Raise (some (.Call (.Name x np) [.Constant (.str msg) k kp] [] cpos)) none pos) env) Q E s := by
  have call : wpAny (model prog w) A (eval (.Call (.Name x np) [.Constant (.str msg) k kp] [] cpos) env) (fun v s₁ => ∃ e t, v = .ref e ∧ s₁.heap.get? e = some { cls := .type cls, data := .fields #[.ref t, .none, .none, .none, .bool false, .none] } ∧ e ≠ e1 ∧ Ctx2 s₁.heap e1 ∧
      E (.ref e) { s₁ with heap := s₁.heap.update e (Obj.mapFields (·.setIfInBounds 2 (.ref e1))) }) E s := by
    refine wpAny_Call_ofName (wpAny_mono hname (fun f s₁ h₁ => ?_) fun _ _ x => x)
    obtain ⟨rfl, rfl⟩ := h₁
    refine callWith_excType rfl ?_
    refine Calls.evalArgs_plain ?_
    refine Calls.spliced_cons ?_
    show wpAny _ _ (eval (.Constant (.str msg) k kp) env) _ _ _
    refine wpAny_Constant_str ?_
    refine Calls.spliced_nil ?_
    obtain ⟨hp, g, d, tk, os⟩ := s₁
    refine wpAny_call_exc FC (hrest := by rw [sizeLine_eq]; simp) fun h' e hm => ?_
    obtain ⟨t, ht, hnt, _⟩ := hm.there
    have hne : e ≠ e1 := fun q => by
      obtain ⟨oe, vs, a, _, _⟩ := hc
      have := hm.new
      rw [q] at this
      rw [this] at a
      cases a
    refine ⟨e, t, rfl, ht, hne, hc.keeps hm.keeps, ?_⟩
    refine hE _ _ _ ⟨fun b o q => ?_, hm.new, ?_⟩
    · have hb : b ≠ e := fun z => by rw [z, hm.new] at q; cases q
      exact (Heap.get?_update_other _ _ (Ne.symm hb)).trans (hm.keeps b o q)
    · have hd := Obj.data_mapFields (o := ({ cls := .type cls, data := .fields #[.ref t, .none, .none, .none, .bool false, .none] } : Obj)) rfl (·.setIfInBounds 2 (Value.ref e1))
      exact ⟨_, _, .ref t, Heap.get?_update_self _ ht (Obj.isFreed_of_fields hd), Obj.cls_mapFields _ _, hd, rfl, rfl⟩
  rw [arm_exec_Raise]
  first
    | exact wpAny_bind (wpAny_standAt (raiseStmt_ctx G hh (wpAny_bind (wpAny_mono call (fun v s₁ h₁ => wpAny_bind (wpAny_standAt (wpAny_pure h₁))) fun _ _ x => x))))
    | (simp only [evalOpt, Option.map]; exact wpAny_bind (wpAny_standAt (raiseStmt_ctx G hh (wpAny_bind (wpAny_mono call (fun v s₁ h₁ => wpAny_bind (wpAny_standAt (wpAny_pure h₁))) fun _ _ x => x)))))
    | (show wpAny (model prog w) A (do standAt pos; raiseStmt env (some (do let v ← eval (.Call (.Name x np) [.Constant (.str msg) k kp] [] cpos) env; standAt pos; pure v)) none) Q E s; exact wpAny_bind (wpAny_standAt (raiseStmt_ctx G hh (wpAny_bind (wpAny_mono call (fun v s₁ h₁ => wpAny_bind (wpAny_standAt (wpAny_pure h₁))) fun _ _ x => x)))))
end
end Mine

namespace Mine
open PyProof.V PySem.Spec PyProof.Rows.LCg
section
variable {M : Model} {A : Around} {E : Value → Shared → Prop} {s : Shared}
/-- the first note of an exception: its context stays none -/
theorem entry_ctx {base : Heap} {env : Env} {outer : List Env} {L e : Addr} {oe : Obj} {vs : Array Value} {head a0 : Value} {hadNext : Bool} {Q : Unit → Shared → Prop}
    (hfr : A.frames = some (env :: outer)) (hl : s.heap.FunFrames base (env :: outer)) (hf : env.frame = some L)
    (he : s.heap.get? e = some oe) (hkb : base.StaysIn s.heap) (hen : base.get? e = none) (hd : oe.data = .fields vs) (hsz : 1 < vs.size) (h0 : vs[0]? = some a0) (h2 : vs[2]? = some .none)
    (h : ∀ h', Heap.NotedW base (env :: outer) e oe.cls a0 (rawInt L) s.heap h' → Ctx2 h' e → Q () { s with heap := h' }) :
    wpAny M A (do let a ← frameOf env; let pl ← entryPlaceOf L hadNext; let b ← EntryCells.newEntry head a .none (rawInt L) .none pl; setField (.ref e) 1 b) Q E s := by
  have hene : e ∉ (env :: outer).filterMap (·.frame) := fun hm => by
    obtain ⟨_, o, ho, hnf⟩ := hl.mem hm
    rw [he] at ho; injection ho with ho; subst ho; exact hnf vs hd
  refine wpAny_bind (wpAny_frameOf_fun hfr hl hf fun h₁ hs₁ => ?_)
  refine wpAny_bind (wpAny_entryPlaceOf fun pl hpl => ?_)
  unfold EntryCells.newEntry newFields
  refine wpAny_bind (wpAny_newObj_type ?_ (hpl.sizeOk5 _ _ _ _ _))
  have he₁ : h₁.get? e = some oe := (hs₁.2.1 e hene).trans he
  have kb₁ : base.StaysIn h₁ := fun b o hbo => (hs₁.2.1 b fun hm => by rw [(hl.mem hm).1] at hbo; cases hbo).trans (hkb b o hbo)
  generalize hTo : ({ cls := .type "traceback", dict := none, data := .fields ([head, .ref L, .none, rawInt L, .none] ++ (if pl.isEmpty then List.replicate 6 Value.none else pl)).toArray } : Obj) = T
  have hTd : T.data = .fields ([head, .ref L, .none, rawInt L, .none] ++ (if pl.isEmpty then List.replicate 6 Value.none else pl)).toArray := by rw [← hTo]
  have hTg : (h₁.push T).get? h₁.objs.size = some T := by rw [← hTo]; exact Heap.get?_push_size h₁ rfl
  have he₂ := Heap.get?_push_of_some (h := h₁) T he₁
  have hTe : h₁.objs.size ≠ e := Nat.ne_of_gt (Heap.lt_size he₁)
  have hd₃ := Obj.data_mapFields hd (·.setIfInBounds 1 (Value.ref h₁.objs.size))
  have he₃ := Heap.get?_update_self (Obj.mapFields (·.setIfInBounds 1 (Value.ref h₁.objs.size))) he₂ (Obj.isFreed_of_fields hd₃)
  have hT₃ := (Heap.get?_update_other (h₁.push T) (Obj.mapFields (·.setIfInBounds 1 (Value.ref h₁.objs.size))) (Ne.symm hTe)).trans hTg
  refine wpAny_setField he₂ hd hsz (h _ ?_ ⟨_, _, he₃, hd₃, by rw [Array.getElem?_setIfInBounds_ne (by decide)]; exact h2⟩)
  have keep : ∀ b o, b ≠ e → h₁.get? b = some o → ((h₁.push T).update e (Obj.mapFields (·.setIfInBounds 1 (Value.ref h₁.objs.size)))).get? b = some o :=
    fun b o hbe hb => by
      rw [Heap.get?_update_other _ _ (Ne.symm hbe)]
      exact Heap.get?_push_of_some _ hb
  have noRecord : ∀ b o, s.heap.get? b = some o → (∀ vs, o.data ≠ .fields vs) → b ≠ e := fun b o hb hnf q => by
    rw [q, he] at hb; injection hb with hb; subst hb; exact hnf vs hd
  refine ⟨fun b o hbo => keep b o (fun q => by rw [q, hen] at hbo; cases hbo) (kb₁ b o hbo), hl.of_keeps fun b o hb hnf => ?_, ?_, fun b o hb hnf => ?_⟩
  · obtain ⟨sl, hs⟩ := hs₁.2.2 b o hb
    exact ⟨_, keep b _ (noRecord b o hb hnf) hs, rfl⟩
  · exact ⟨_, _, h₁.objs.size, _, _, he₃, ⟨Obj.cls_mapFields _ _, by rw [Array.getElem?_setIfInBounds_ne (by decide)]; exact h0⟩, hd₃, by simp [hsz], kb₁.fresh, hTe, hT₃, hTd, by first | (simp; done) | (rcases hpl with rfl | ⟨_, _, _, _, _, _, _, rfl⟩ <;> simp)⟩
  · obtain ⟨sl, hs⟩ := hs₁.2.2 b o hb
    exact ⟨sl, keep b _ (noRecord b o hb hnf) hs⟩
/-- letting the flight go: the context stays none -/
theorem flight_ctx {base : Heap} {l : List Env} {e : Addr} {cls a0 fl : Value} {Q : Unit → Shared → Prop} (hc : Ctx2 s.heap e)
    (hkb : base.StaysIn s.heap) (hl : s.heap.FunFrames base l) (ht : s.heap.TracedAtW base e cls a0 fl) (hen : base.get? e = none)
    (h : ∀ h', Heap.FlyingW base l e cls a0 h' → s.heap.UpToSlots h' → Ctx2 h' e → Q () { s with heap := h' }) :
    wpAny M A (setFlight (.ref e) none) Q E s := by
  obtain ⟨oe, vs, T, oT, ts, he, hcls, hd, h1, hnT, hTe, hT, hdT, h3⟩ := ht
  have hsz3 : 3 < ts.size := (Array.getElem?_eq_some_iff.mp h3).1
  have other : ∀ b, b ≠ T → (s.heap.update T (Obj.mapFields (·.setIfInBounds 3 ((none : Option Addr).elim Value.none fun f => rawInt f)))).get? b = s.heap.get? b :=
    fun b hb => Heap.get?_update_other _ _ (Ne.symm hb)
  have noRecord : ∀ b o, s.heap.get? b = some o → (∀ vs, o.data ≠ .fields vs) → b ≠ T := fun b o hb hnf q => by
    rw [q, hT] at hb; injection hb with hb; subst hb; exact hnf ts hdT
  unfold setFlight
  refine wpAny_bind (wpAny_field he hd h1 ?_)
  rw [if_pos (show (Value.ref T != Value.none) = true from by simp)]
  refine wpAny_setField hT hdT hsz3 (h _ ⟨fun b o hbo => (other b fun q => by rw [q, hnT] at hbo; cases hbo).trans (hkb b o hbo), hen,
    hl.of_keeps fun b o hb hnf => ⟨o, (other b (noRecord b o hb hnf)).trans hb, rfl⟩, ?_⟩ (fun b o hb hnf => ⟨o.slots, (other b (noRecord b o hb hnf)).trans hb⟩) ?_)
  · exact ⟨oe, vs, T, _, _, (other e (Ne.symm hTe)).trans he, hcls, hd, h1, hnT, hTe, Heap.get?_update_self _ hT (Obj.isFreed_of_fields (Obj.data_mapFields hdT _)), Obj.data_mapFields hdT _, by simp [hsz3]⟩
  · obtain ⟨oe', vs', a, b, c⟩ := hc
    exact ⟨oe', vs', (other e (Ne.symm hTe)).trans a, b, c⟩
end
section
variable {M : Model} {A : Around} {E : Value → Shared → Prop} {s' : Shared} {base g g₂ h : Heap} {outer : List Env} {L a e : Addr} {m : Str → Option Value} {name : Str} {scope : Scope} {cd : Value} {Q : Unit → Shared → Prop} {news : List (Addr × Obj)}
/-- a new exception with a context leaves a deep frame -/
theorem leave_newC {cls : String} (K : Below A base outer g) (hx : NewC h s'.heap e cls) (F : Fr g L h m) (N : News g L h news)
    (hQ : ∀ h', RaisedSN base g outer e (.type cls) news h' → RaisedN base outer e (.type cls) news h' → g.UpToSlots h' → Q () { s' with heap := h' }) (hk : scope.kind = .function := by rfl) :
    wpAny M (A.deeper (envOf name scope L a cd)) (leaving (envOf name scope L a cd) (.ref e)) Q E s' := by
  have K' := K.push (name := name) (a := a) (cd := cd) F hk
  have hin : ∀ env ∈ (envOf name scope L a cd :: outer), ∀ b, env.frame = some b → b ∈ (envOf name scope L a cd :: outer).filterMap (·.frame) := fun env he b hb => List.mem_filterMap.mpr ⟨env, he, hb⟩
  have st : base.StaysIn (hideAll h ((envOf name scope L a cd :: outer).filterMap (·.frame))) := fun b o q => hideAll_get _ (K'.stays b o q) fun hm => by
    rw [(K'.frames.mem hm).1] at q; cases q
  have sg : ∀ b o, g.get? b = some o → b ∉ outer.filterMap (·.frame) → (hideAll h ((envOf name scope L a cd :: outer).filterMap (·.frame))).get? b = some o := fun b o q nm => hideAll_get _ (F.keep b o q) fun hm => by
    rcases kts_mem hm with z | z
    · rw [z, kts_self F] at q
      cases q
    · exact nm z
  have hl : ∀ q ∈ news, (hideAll h ((envOf name scope L a cd :: outer).filterMap (·.frame))).get? q.1 = some q.2 ∧ g.get? q.1 = none ∧ base.get? q.1 = none := fun q hq => by
    refine ⟨hideAll_get _ (N q hq).1 fun hm => ?_, (N q hq).2.2, fresh_of_stays K.stays (N q hq).2.2⟩
    obtain ⟨env, he, hf⟩ := List.mem_filterMap.mp hm
    rcases List.mem_cons.mp he with rfl | he
    · exact (N q hq).2.1 (Option.some.inj hf).symm
    · obtain ⟨o, ho, _⟩ := (K.frames.mem (List.mem_filterMap.mpr ⟨env, he, hf⟩)).2
      rw [(N q hq).2.2] at ho; cases ho
  obtain ⟨ob, vs, a0, he, hcls, hd, h0, h1⟩ := hx.there
  have hen : (hideAll h ((envOf name scope L a cd :: outer).filterMap (·.frame))).get? e = none := by
    cases q : (hideAll h ((envOf name scope L a cd :: outer).filterMap (·.frame))).get? e with
    | none => rfl
    | some o => have := of_hideAll _ q; rw [hx.new] at this; cases this
  refine wpAny_leaving_firstW (a0 := a0) K'.stack ((funFrames_hide K'.frames hin).of_keeps fun b o hb _ => ⟨o, hx.keeps b o hb, rfl⟩) rfl he (fun b o hb => hx.keeps b o (of_hideAll _ hb)) hen hd h1 h0 fun h' hL => ?_
  obtain ⟨k1, ⟨_, _, k2⟩, k3, k4⟩ := hL
  have R : RaisedSN base g outer e (.type cls) news h' := ⟨_, a0, st, sg, hl, k1, hen, k2, by rw [← hcls]; exact k3⟩
  exact hQ h' R R.toN (((Heap.UpToSlots.of_keeps F.keep).trans (Heap.UpToSlots.of_keeps hx.keeps)).trans k4)
end
end Mine

namespace Mine
open PyProof.V PySem.Spec PyProof.Rows.LCg
section
variable {prog : Program} {w : World} {A₀ : Around} {E : Value → Shared → Prop} {s' : Shared} {base g g₀ G : Heap} {outer : List Env} {L a e : Addr} {m : Str → Option Value} {name : Str} {scope : Scope} {cd : Value}
  {b₀ : Stmt} {suite : List Stmt} {pos np : Pos} {rest : List ExceptHandler} {Q : Flow → Shared → Prop} {news : List (Addr × Obj)} {KF : Frag}
  {p : Program} {loose : List Str} {mean : ExcName → Option Value} {mg mb : Str → Option Value} {x : Str} {X T' : String}
/-- an exception that a built-in raises in a deep frame, caught by that frame's own try -/
theorem caught_here1 (hX : Heap.NewExc G s'.heap e X) (F : Fr g L G m) (N : News g L G news) (K : Below A₀ base outer g) (XB : KF.In base) (TB : Top p loose mean mg mb base)
    (D : KtsDicts (outer.filterMap (·.frame)) g) (T0 : KtsTurn (outer.filterMap (·.frame)) g₀ g)
    (ex : nsIn KF mainGlobals x = some none) (hv : bootBuiltins x = some (.type T')) (hn' : x ≠ "__name__")
    (hexc : isSubtype (.type T') (.type "BaseException") = pure true) (hnt : isSubtype (.type ((Manifest.find? T').elim "type" fun y => y.metatype)) (.type "tuple") = pure false) (hsub : isSubtype (.type X) (.type T') = pure true)
    (k : ∀ h' g', Ctx2 h' e → KtsTurn (outer.filterMap (·.frame)) g₀ g' → Fr g' L h' m → News g' L h' news → Below A₀ base outer g' → KF.In g' → Top p loose mean mg mb g' → KtsDicts (outer.filterMap (·.frame)) g' →
      wpAny (model prog w) ((A₀.deeper (envOf name scope L a cd)).mark (some (.ref e))) (execs (b₀ :: suite) (envOf name scope L a cd)) Q E { s' with heap := h' })
    (hk : scope.kind = .function := by rfl) (hx : (envOf name scope L a cd).kindOf x = some .globalImplicit := by rfl) (hd : (x == ("__debug__" : Str)) = false := by decide)
    (hE : PassesOwnAt (model prog w) ((A₀.deeper (envOf name scope L a cd)).mark (some (.ref e))) (A₀.deeper (envOf name scope L a cd)) (envOf name scope L a cd) E := by passes_own) :
    wpAny (model prog w) (A₀.deeper (envOf name scope L a cd)) (noteFrame (.ref e) (envOf name scope L a cd))
      (fun _ s₂ => wpAny (model prog w) (A₀.deeper (envOf name scope L a cd)) (setFlight (.ref e) none) (fun _ s₃ =>
        wpAny (model prog w) (A₀.deeper (envOf name scope L a cd)) (handleBy (.ref e) (envOf name scope L a cd) (.ExceptHandler (some (.Name x np)) none (b₀ :: suite) pos :: rest)) Q E s₃) E s₂) E s' := by
  have K' := K.push (name := name) (a := a) (cd := cd) F hk
  have hin : ∀ env ∈ (envOf name scope L a cd :: outer), ∀ b, env.frame = some b → b ∈ (envOf name scope L a cd :: outer).filterMap (·.frame) := fun env he b hb => List.mem_filterMap.mpr ⟨env, he, hb⟩
  have hB : base.StaysIn (hideAll G ((envOf name scope L a cd :: outer).filterMap (·.frame))) := fun b o q => hideAll_get _ (K'.stays b o q) fun hm => by
    rw [(K'.frames.mem hm).1] at q; cases q
  have hBG : ∀ b o, G.get? b = some o → b ∉ (envOf name scope L a cd :: outer).filterMap (·.frame) → (hideAll G ((envOf name scope L a cd :: outer).filterMap (·.frame))).get? b = some o := fun b o q nm => hideAll_get _ q nm
  have hl : ∀ q ∈ news, (hideAll G ((envOf name scope L a cd :: outer).filterMap (·.frame))).get? q.1 = some q.2 ∧ g.get? q.1 = none := fun q hq => by
    refine ⟨hideAll_get _ (N q hq).1 fun hm => ?_, (N q hq).2.2⟩
    obtain ⟨env, he, hf⟩ := List.mem_filterMap.mp hm
    rcases List.mem_cons.mp he with rfl | he
    · exact (N q hq).2.1 (Option.some.inj hf).symm
    · obtain ⟨o, ho, _⟩ := (K.frames.mem (List.mem_filterMap.mpr ⟨env, he, hf⟩)).2
      rw [(N q hq).2.2] at ho; cases ho
  obtain ⟨ob, tp, he, hcls, hdat⟩ := hX.there
  have hen : (hideAll G ((envOf name scope L a cd :: outer).filterMap (·.frame))).get? e = none := by
    cases q : (hideAll G ((envOf name scope L a cd :: outer).filterMap (·.frame))).get? e with
    | none => rfl
    | some o => have := of_hideAll _ q; rw [hX.new] at this; cases this
  have hL : (hideAll G ((envOf name scope L a cd :: outer).filterMap (·.frame))).get? L = none := by
    cases q : (hideAll G ((envOf name scope L a cd :: outer).filterMap (·.frame))).get? L with
    | none => rfl
    | some o =>
      have hm : L ∈ (envOf name scope L a cd :: outer).filterMap (·.frame) := List.mem_filterMap.mpr ⟨_, List.mem_cons_self, rfl⟩
      rw [hideAll_none _ hm] at q; cases q
  have hsm : G.UpToSlots s'.heap := Heap.UpToSlots.of_keeps hX.keeps
  have hfr := K'.stack
  have hff := (funFrames_hide K'.frames hin).of_keeps (h' := s'.heap) fun b o hb _ => ⟨o, hX.keeps b o hb, rfl⟩
  have first : ∀ (Q' : Unit → Shared → Prop) (E' : Value → Shared → Prop), (∀ h', Heap.HeldW (hideAll G ((envOf name scope L a cd :: outer).filterMap (·.frame))) (envOf name scope L a cd :: outer) e (.type X) tp L h' → s'.heap.UpToSlots h' → Ctx2 h' e → Q' () { s' with heap := h' }) →
      wpAny (model prog w) (A₀.deeper (envOf name scope L a cd)) (noteFrame (.ref e) (envOf name scope L a cd)) Q' E' s' := by
    intro Q' E' hQ'
    unfold noteFrame
    show wpAny _ _ (field (.ref e) 1 >>= _) _ _ _
    refine wpAny_bind (wpAny_field he hdat (x := Value.none) rfl ?_)
    rw [if_neg (show ¬ ((Value.none != Value.none) = true) from by decide)]
    refine entry_ctx (a0 := tp) hfr hff rfl he (fun b o hb => hX.keeps b o (of_hideAll _ hb)) hen hdat (by simp) rfl rfl fun h' hN hC => ?_
    obtain ⟨k1, k2, k3, k4⟩ := hN
    exact hQ' h' ⟨k1, hen, k2, by rw [← hcls]; exact k3⟩ k4 hC
  refine first _ _ fun h₄ hheld₄ hsm₄ hC₄ => ?_
  refine flight_ctx hC₄ hheld₄.1 hheld₄.2.2.1 hheld₄.2.2.2 hheld₄.2.1 fun h₅ hheld hsm₅' hC₅ => ?_
  have hsm₅ := hsm₄.trans hsm₅'
  obtain ⟨g₅, T₅, F₅, K₅⟩ := kts_ground K F hBG hheld.1 (hsm.trans hsm₅)
  have X₅ : KF.In g₅ := XB.keeps K₅.stays
  have P₅ : TopRead p loose mg mb g₅ := topRead_of (TB.keeps K₅.stays)
  obtain ⟨ob', hob, hobc⟩ := hheld.there
  refine wpAny_handleBy_builtin (X := X) (T := T') (b := true) hexc hnt hsub (name_B F₅ X₅ P₅ ex hv hn' ⟨rfl, ⟨ob', hob, hobc⟩, ?_⟩ hk hx hd)
  refine flight_ctx hC₅ hheld.1 hheld.2.2.1 hheld.2.2.2.at hheld.2.1 fun h₆ hfl₆ hsm₆ hC₆ => ?_
  obtain ⟨g₆, T₆, F₆, K₆⟩ := kts_ground K F hBG hfl₆.1 ((hsm.trans hsm₅).trans hsm₆)
  have Nl : News g₆ L h₆ news := fun q hq => ⟨hfl₆.1 _ _ (hl q hq).1, (fun z => by have := (hl q hq).1; rw [z, hL] at this; cases this), T₆.none_ _ (kts_none (fun _ _ q => q) (hl q hq).2)⟩
  have X₆ : KF.In g₆ := XB.keeps K₆.stays
  have P₆ : Top p loose mean mg mb g₆ := TB.keeps K₆.stays
  have D₆ : KtsDicts (outer.filterMap (·.frame)) g₆ := D.turn T₆
  exact wpAny_passesOwnAt hE (k h₆ g₆ hC₆ (T0.trans T₆) F₆ Nl K₆ X₆ P₆ D₆)
end
theorem up_of_turn {fs : List Addr} {g g' : Heap} (T : KtsTurn fs g g') : g.UpToSlots g' := fun _ _ e _ => T.up e
end Mine

namespace Mine
open PyProof.V PySem.Spec PyProof.Rows.LCg
section
variable {prog : Program} {w : World} {A : Around} {E : Value → Shared → Prop} {Q : Flow → Shared → Prop} {s : Shared} {env : Env} {h₀ : Heap} {L : Addr}
/-- a turn of the last loop has come to its end -/
def WEnd (h₀ : Heap) (L : Addr) (s : Shared) (Led : List Value → Nat → List Value → Nat → Int → Tok → Int → Tok → List (Addr × Obj)) (m₀ : Str → Option Value) (L9 : List (Addr × Obj)) (n : Nat) (s₂ : Shared) : Prop :=
  ∃ (us : List Value) (n1 : Nat) (vs : List Value) (n2 : Nat) (sp : Int) (spt : Tok) (to : Int) (tot : Tok) (fs : List (Int × Int)) (p : Int) (pt : Tok) (h' : Heap) (tk : Nat) (m' : Str → Option Value) (news' : List (Addr × Obj)),
    s₂ = { s with heap := h', toks := tk } ∧ Fr h₀ L h' m' ∧ News h₀ L h' news' ∧ (∀ q ∈ Led us n1 vs n2 sp spt to tot, q ∈ news') ∧ DatAll L9 us (fs.map P) ∧ DatAll L9 vs (fs.map P) ∧ to = (fs.map Prod.fst).sum ∧ fs.length ≤ 1000 ∧
    m' (Str.ofString "place") = some (.int p pt) ∧ (∀ z, z ≠ Str.ofString "place" → m' z = m₀ z) ∧ fs.length < n
def WPost (h₀ : Heap) (L : Addr) (s : Shared) (Led : List Value → Nat → List Value → Nat → Int → Tok → Int → Tok → List (Addr × Obj)) (m₀ : Str → Option Value) (L9 : List (Addr × Obj)) (n : Nat) (Q : Flow → Shared → Prop) (f : Flow) (s₂ : Shared) : Prop :=
  match f with
  | .ret v => Q (.ret v) s₂
  | .brk => Q .next s₂
  | _ => WEnd h₀ L s Led m₀ L9 n s₂
theorem w_end {Led : List Value → Nat → List Value → Nat → Int → Tok → Int → Tok → List (Addr × Obj)} {m₀ m' : Str → Option Value} {L9 news' : List (Addr × Obj)} {n : Nat} {us vs : List Value} {n1 n2 : Nat} {sp to p : Int} {spt tot pt : Tok} {fs : List (Int × Int)} {h' : Heap} {tk : Nat}
    (F : Fr h₀ L h' m') (N : News h₀ L h' news') (hn : ∀ q ∈ Led us n1 vs n2 sp spt to tot, q ∈ news') (h1 : DatAll L9 us (fs.map P)) (h2 : DatAll L9 vs (fs.map P)) (h3 : to = (fs.map Prod.fst).sum) (h4 : fs.length ≤ 1000)
    (hp : m' (Str.ofString "place") = some (.int p pt)) (hr : ∀ z, z ≠ Str.ofString "place" → m' z = m₀ z) (hm : fs.length < n) : WEnd h₀ L s Led m₀ L9 n { s with heap := h', toks := tk } :=
  ⟨us, n1, vs, n2, sp, spt, to, tot, fs, p, pt, h', tk, m', news', rfl, F, N, hn, h1, h2, h3, h4, hp, hr, hm⟩
theorem while_pairs {lf ls d : Addr} {eD eF : DictEntry} {hhp hht : Int} {kp kt : Value} {cnt : Nat} {rest L9 : List (Addr × Obj)} {us vs : List Value} {n1 n2 : Nat} {sp to p : Int} {spt tot pt : Tok} {m₀ : Str → Option Value} {fs : List (Int × Int)} {test : Expr} {body : List Stmt} {pos : Pos}
    (F : Fr h₀ L s.heap m₀) (N : News h₀ L s.heap ((lf, listOf us.toArray n1) :: (ls, listOf vs.toArray n2) :: (d, dictOf [eD, ⟨hhp, kp, .int sp spt⟩, eF, ⟨hht, kt, .int to tot⟩] cnt) :: rest))
    (hp : m₀ (Str.ofString "place") = some (.int p pt)) (h1 : DatAll L9 us (fs.map P)) (h2 : DatAll L9 vs (fs.map P)) (h3 : to = (fs.map Prod.fst).sum) (h4 : fs.length ≤ 1000)
    (turn : ∀ (us : List Value) (n1 : Nat) (vs : List Value) (n2 : Nat) (sp : Int) (spt : Tok) (to : Int) (tot : Tok) (fs : List (Int × Int)) (p : Int) (pt : Tok) (h : Heap) (tk : Nat), DatAll L9 us (fs.map P) → DatAll L9 vs (fs.map P) → to = (fs.map Prod.fst).sum → fs.length ≤ 1000 →
      us.length = (fs.map P).length → vs.length = (fs.map P).length → Fr h₀ L h (fun z => if z = Str.ofString "place" then some (.int p pt) else m₀ z) →
      News h₀ L h ((lf, listOf us.toArray n1) :: (ls, listOf vs.toArray n2) :: (d, dictOf [eD, ⟨hhp, kp, .int sp spt⟩, eF, ⟨hht, kt, .int to tot⟩] cnt) :: rest) →
      wpAny (model prog w) A (isTrue test env (eval test env)) (fun b s₂ =>
        if b = true then wpAny (model prog w) A (execs body env) (WPost h₀ L s (fun us n1 vs n2 sp spt to tot => (lf, listOf us.toArray n1) :: (ls, listOf vs.toArray n2) :: (d, dictOf [eD, ⟨hhp, kp, .int sp spt⟩, eF, ⟨hht, kt, .int to tot⟩] cnt) :: rest) m₀ L9 fs.length Q) E s₂ else Q .next s₂) E { s with heap := h, toks := tk })
    (hE : PassesOwn (model prog w) A env E := by passes_own) :
    wpAny (model prog w) A (exec (.While test body [] pos) env) Q E s := by
  refine While_inv2 (fun n m nx => ∃ (us : List Value) (n1 : Nat) (vs : List Value) (n2 : Nat) (sp : Int) (spt : Tok) (to : Int) (tot : Tok) (fs : List (Int × Int)) (p : Int) (pt : Tok),
    nx = ((lf, listOf us.toArray n1) :: (ls, listOf vs.toArray n2) :: (d, dictOf [eD, ⟨hhp, kp, .int sp spt⟩, eF, ⟨hht, kt, .int to tot⟩] cnt) :: rest) ∧ fs.length = n ∧ DatAll L9 us (fs.map P) ∧ DatAll L9 vs (fs.map P) ∧ to = (fs.map Prod.fst).sum ∧ fs.length ≤ 1000 ∧
    m (Str.ofString "place") = some (.int p pt) ∧ (∀ z, z ≠ Str.ofString "place" → m z = m₀ z)) F N ⟨us, n1, vs, n2, sp, spt, to, tot, fs, p, pt, rfl, rfl, h1, h2, h3, h4, hp, fun _ _ => rfl⟩ ?_ hE
  rintro n m₁ nx h tk F₁ N₁ ⟨us, n1, vs, n2, sp, spt, to, tot, fs, p, pt, rfl, rfl, h1, h2, h3, h4, hp, hr⟩
  have em : (fun z => if z = Str.ofString "place" then some (Value.int p pt) else m₀ z) = m₁ := by
    funext z
    by_cases hz : z = Str.ofString "place"
    · rw [if_pos hz, hz, hp]
    · rw [if_neg hz, hr z hz]
  refine wpAny_mono (turn us n1 vs n2 sp spt to tot fs p pt h tk h1 h2 h3 h4 h1.length h2.length (em ▸ F₁) N₁) (fun b s₂ q => ?_) fun _ _ x => x
  cases b with
  | false => simpa using q
  | true =>
    simp only [if_true] at q ⊢
    refine wpAny_mono q (fun f s₃ r => ?_) fun _ _ x => x
    cases f with
    | ret v => exact r
    | brk => exact r
    | next =>
      obtain ⟨us, n1, vs, n2, sp, spt, to, tot, fs', p, pt, h', tk', m', news', rfl, F', N', hn, g1, g2, g3, g4, gp, gr, gm⟩ := r
      exact ⟨h', tk', m', _, fs'.length, rfl, F', fun q hq => N' q (hn q hq), gm, us, n1, vs, n2, sp, spt, to, tot, fs', p, pt, rfl, rfl, g1, g2, g3, g4, gp, gr⟩
    | cont =>
      obtain ⟨us, n1, vs, n2, sp, spt, to, tot, fs', p, pt, h', tk', m', news', rfl, F', N', hn, g1, g2, g3, g4, gp, gr, gm⟩ := r
      exact ⟨h', tk', m', _, fs'.length, rfl, F', fun q hq => N' q (hn q hq), gm, us, n1, vs, n2, sp, spt, to, tot, fs', p, pt, rfl, rfl, g1, g2, g3, g4, gp, gr⟩
end
theorem sum_pop {fs : List (Int × Int)} {to : Int} (hne : 0 < fs.length) (h1 : to = (fs.map Prod.fst).sum) : to - (lastP fs).1 = (fs.dropLast.map Prod.fst).sum := by
  have e : (fs.map Prod.fst).sum = (fs.dropLast.map Prod.fst).sum + (lastP fs).1 := by
    conv => lhs; rw [last_split fs hne]
    simp
  omega
theorem zero_of {us : List Value} {fs : List (Int × Int)} {to : Int} (h : us.isEmpty = true) (hl : us.length = (fs.map P).length) (h3 : to = (fs.map Prod.fst).sum) : to = 0 := by
  cases us with
  | nil =>
    rw [List.length_map] at hl
    have e : fs = [] := List.length_eq_zero_iff.mp hl.symm
    subst e
    simpa using h3
  | cons _ _ => exact absurd h (by simp)
theorem whole {b : Array UInt8} {ks : List Int} {x y : Int} (hk : KBw.bInts b = ks) (h0 : x = 0) (hn : y = (ks.length : Int)) : KBy.picked b (some x) (some y) = b := by
  subst h0
  have e : ks.length = b.size := by rw [← hk, KBw.ints_length]
  rw [hn, e, KBc.picked_eq]
  have e0 : Option.elim (some (0 : Int)) 0 (clipAt b.size) = 0 := by
    show clipAt b.size 0 = 0
    rw [KBc.clip_lit]; simp
  have e1 : Option.elim (some ((b.size : Nat) : Int)) b.size (clipAt b.size) = b.size := by
    show clipAt b.size ((b.size : Nat) : Int) = b.size
    rw [clipAt_nat]; simp
  rw [e0, e1, List.drop_zero, Nat.sub_zero, List.take_of_length_le (by simp), Array.toArray_toList]
section
variable {prog : Program} {w : World} {A : Around} {E : Value → Shared → Prop} {s : Shared}
theorem eq_bytes_true {b c : Array UInt8} {t u : Tok} {Q : Value → Shared → Prop} (e : b = c) (h : Q (.bool true) s) : wpAny (model prog w) A (compareOp .Eq (.bytes b t) (.bytes c u)) Q E s := by
  subst e
  exact PySem.W.eq_bytes (by simpa using h)
end
end Mine

open Mine
local macro_rules | `(tactic| walk_at "eval ListComp") => `(tactic| (k_here; k_dflt (refine enc_ListComp (g := fun k n => Int.fmod (n + 7 * k) 256) (by k_asm) (by with_unfolding_all rfl) (by decide) (by rfl) (by decide) (by rfl) (by rfl) (by decide) (elt_data (by rfl) (by rfl) (by rfl)) ?_)))
local macro_rules | `(tactic| walk_at "call type:enumerate") => `(tactic| (k_here; (with_reducible show wpAny _ _ (call (Value.type _) [Value.ref _]) (EncSrc _ _ _ _ _ _) _ _); k_dflt (refine enc_call (by rfl) (by k_asm) (by k_asm) (by k_mem) (by assumption) (by first | omega | (simp only [List.length_take]; omega)) ?_); intro D' ys' h' tk' hI' F' N' l1; (try k_lt l1)))
local macro_rules | `(tactic| walk_at "call type:bytes") => `(tactic| (k_here; (with_reducible show wpAny _ _ (call (Value.type "bytes") [Value.ref _]) _ _ _); k_dflt (refine mk_data (by rfl) (by k_asm) (by k_asm) (by k_mem) (by assumption) (by first | omega | (simp only [List.length_take]; omega)) ?_); intro h' t' k' bData ksData F' N' kBytes kSize))
local macro_rules | `(tactic| walk_at "call type:bytes") => `(tactic| (k_here; (with_reducible show wpAny _ _ (call (Value.type "bytes") [Value.bytes _ _]) _ _ _); k_dflt (refine call_bytes_bytes ?_)))
local macro_rules | `(tactic| walk_at "eval ListComp") => `(tactic| (k_here; k_dflt (refine' fst_ListComp ?f1 ?f2 ?f3 ?f4 ?f5 ?f6 ?f7 ?f8 ?f9 ?f10 ?f11 ?f12 ?f13 ?f14 ?f15 ?f16 ?f17 ?f18 ?_; (case f1 => k_asm); (case f2 => k_asm); (case f3 => with_unfolding_all rfl); (case f4 => decide); (case f5 => rfl); (case f6 => decide); (case f7 => rfl); (case f8 => decide); (case f9 => rfl); (case f10 => rfl); (case f11 => decide); (case f12 => rfl); (case f13 => with_unfolding_all rfl); (case f14 => k_memK); (case f15 => first | exact List.push_toArray _ _ | rfl); (case f16 => first | (refine pairs_up ?_ (by assumption); kcf_all) | (refine pairs_snoc ?_ (by assumption) (by k_memK); kcf_all)); (case f17 => ((try simp only [List.length_append, List.length_cons, List.length_nil]); omega)); (case f18 => rfl)); intro D' ys' h' tk' hI' F' N' l1; (try k_lt l1)))
local macro_rules | `(tactic| size_fits) => `(tactic| ((rename List (Int × Int) => w9); (have hw9 : (List.map P w9).length = w9.length := List.length_map ..); rw [sizeLine_eq]; (simp only [List.size_toArray]); omega))
local macro_rules | `(tactic| walk_at "exec Raise some none") => `(tactic| (exfalso; first | exact no_over (by assumption) | exact no_over2 (by assumption) (by assumption)))
local macro_rules | `(tactic| kd_subs) => `(tactic| kcf_all)
local macro_rules | `(tactic| walk_at "call builtin:list.pop") => `(tactic| (k_here; (with_reducible show wpAny _ _ (call (Value.builtin _) [Value.ref _]) _ _ _); k_dflt (refine' pop_dat ?F ?N ?U ?d ?l ?z ?_; (case F => k_asm); (case N => k_asm); (case U => k_upd); (case d => assumption); (case l => first | assumption | exact ne_of (by assumption) (by assumption)); (case z => omega)); intro h' a9 na9 ta9 tb9 hNe9 F' N' hD9 hM9; (try dsimp only [List.nil_append, List.cons_append] at N')))
local macro_rules | `(tactic| walk_at "call builtin:list.pop") => `(tactic| (k_here; (with_reducible show wpAny _ _ (call (Value.builtin _) [Value.ref _]) _ _ _); k_dflt (refine' pop_out ?A ?N ?m ?e ?_; (case A => rfl); (case N => k_asm); (case m => k_memK); (case e => exact nil_of (by assumption) (by assumption) (by assumption))); intro h' tk' e' x'))
local macro_rules | `(tactic| walk_at "noteFrame ref") => `(tactic| (k_here; (rename Heap.NewExc _ _ _ _ => nxX); (with_reducible show wpAny _ _ (noteFrame _ _) (fun _ s₂ => wpAny _ _ (setFlight _ none) (fun _ s₃ => wpAny _ _ (handleBy _ _ (ExceptHandler.ExceptHandler (some (Expr.Name ("IndexError" : Str) _)) none _ _ :: _)) _ _ s₃) _ s₂) _ _); k_dflt (refine' caught_here1 (T' := "IndexError") ?R ?F ?N ?K ?XB ?TB ?D ?T0 ?ex PyProof.Rows.Boot.«IndexError» ?hn PySem.F.isExc_IndexError PySem.F.notTuple_IndexError ?hs ?_; (case R => assumption); (case F => assumption); (case N => k_asm); (case K => assumption); (case XB => assumption); (case TB => assumption); (case D => assumption); (case T0 => first | assumption | exact KtsTurn.refl); (case hs => kts_sub); (case ex => k_is); (case hn => decide); k_whole); intro h' g' cX' T' F' N' K' X' P' D'; (try k_lift K'); (try k_sweep)))
local macro_rules | `(tactic| walk_at "exec Raise some none") => `(tactic| (k_here; (with_reducible show wpAny _ _ (exec (Stmt.Raise (some (Expr.Call (Expr.Name ("IndexError" : Str) _) [Expr.Constant (Const.str _) _ _] [] _)) none _) _) _ _ _); (with_reducible rename Ctx2 _ _ => cxX); (with_reducible rename Fr _ _ _ _ => kF); k_dflt (refine' raise_ctx PySem.F.excCall_IndexError PySem.F.excRaise_IndexError ?hh ?hc ?hx ?_; (case hh => rfl); (case hc => exact cxX); (case hx => (refine' name_B kF ?k1 ?k2 ?k3 ?k4 ?k5 ?_; (case k1 => k_asm); (case k2 => k_asm); (case k3 => k_is); (case k4 => boot_by_name); (case k5 => decide); exact ⟨rfl, rfl⟩))); intro h' tk' e' x'))
local macro_rules | `(tactic| walk_at "leaving ref") => `(tactic| (k_here; (rename NewC _ _ _ _ => ncX); (refine' leave_newC ?k1 ?k0 ?k2 ?k3 ?_; (case k0 => exact ncX); (case k1 => assumption); (case k2 => assumption); (case k3 => k_asm); k_whole); intro h' R' Rn' U'; (try dsimp only at R' Rn' U' ⊢); (try ((rename KtsTurn _ _ _ => tX); (have U2' := Heap.UpToSlots.trans (up_of_turn tX) U')))))
local macro_rules | `(tactic| walk_at "exec While") => `(tactic| (k_here; (rename Fr _ _ _ _ => lF'); (rename News _ _ _ _ => lN'); k_dflt (refine' while_pairs lF' lN' ?wp ?w1 ?w2 ?w3 ?w4 ?_; (case wp => with_unfolding_all rfl); (case w1 => assumption); (case w2 => assumption); (case w3 => assumption); (case w4 => omega)); intro us9 m19 vs9 m29 sp9 spt9 to9 tot9 fs9 p9 pt9 h9 tk9 hd19 hd29 hs9 hz9 hl19 hl29 F' N'; (try clear lF' lN')))
local macro_rules | `(tactic| walk_at "WPost") => `(tactic| (dsimp only [WPost]))
local macro_rules | `(tactic| walk_at "WEnd") => `(tactic| ((rename News _ _ _ _ => nE'); k_dflt (refine' w_end ?eF nE' ?en ?e1 ?e2 ?e3 ?e4 ?ep ?er ?em; (case eF => assumption); (case en => ((try dsimp only); kcf_all)); (case e1 => assumption); (case e2 => assumption); (case e3 => exact sum_pop (by assumption) (by assumption)); (case e4 => (simp only [List.length_dropLast]; omega)); (case ep => with_unfolding_all rfl); (case er => (intro z hz; first | (simp only [if_neg hz]; done) | simp [hz])); (case em => (simp only [List.length_dropLast]; omega)))))
local macro_rules | `(tactic| walk_at "compareOp Eq bytes bytes") => `(tactic| (k_here; (refine eq_bytes_true (whole (by assumption) (by (have hz8 := zero_of (by assumption) (by assumption) (by assumption)); omega) (by (have hz8 := zero_of (by assumption) (by assumption) (by assumption)); omega)) ?_)))
local macro_rules | `(tactic| k_in) => `(tactic| ((rename Fr _ _ _ _ => fr9); exact Frag.In.keeps (by k_asm) (Fr.keep fr9)))
set_option maxHeartbeats 0 in
theorem PySem.Challenge.cw_iu0007_01_holds : PySem.Challenge.rw_iu0007_01.Holds := by
  k_with "pyIter ref" => k_dat (fun (pre : List Int) (fr sf : List Dat) (p sp to : Int) => ∃ fs : List (Int × Int), fr = fs.map P ∧ sf = fs.map P ∧ to = (fs.map Prod.fst).sum ∧ p = sp ∧ fs.length ≤ pre.length) "frames*" "stream._frames*" "place" "stream._place" "stream._total_offset"
  k_with "state" => first | exact end_push (by assumption) (by assumption) (by assumption) | exact end_pop (by assumption) (by assumption) (by assumption) | exact end_same (by assumption) (by omega) (by assumption)
  open_k
