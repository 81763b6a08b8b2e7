import PyProof.Rows.All
import Wide.All
import OpenK.AllK
import Wide.FinOn
import PySem.Challenge.RW_fe0311_01
open PySem PySem.W PyProof.Rows PySem.Calls
set_option Elab.async false
set_option maxRecDepth 100000

/-! PH -/
namespace Mine
set_option maxRecDepth 100000 in
set_option maxHeartbeats 8000000 in
open_top hd for PySem.Challenge.rw_fe0311_01
end Mine

/-! PX -/
namespace Mine

/-- a halt in the walk -/
def Halt (P : Prop) : Prop := P
theorem halt {P : Prop} (h : Halt P) : P := h
/-- a text by the list of its signs' codes -/
def tx (l : List Nat) : Str := ⟨l.toArray⟩
theorem tx_length (l : List Nat) : (tx l).length = l.length := by simp [tx, Str.length]
theorem tx_append (a b : List Nat) : tx a ++ tx b = tx (a ++ b) := by
  apply Str.ext'; rw [Str.cps_append]; simp [tx]
theorem tx_inj {a b : List Nat} (h : tx a = tx b) : a = b := by
  have := congrArg Str.cps h
  simpa [tx] using this
theorem tx_eq (a b : List Nat) : (tx a == tx b) = (a == b) := by
  cases h : a == b with
  | true => rw [beq_iff_eq.mp h]; exact beq_self_eq_true _
  | false =>
    apply Bool.eq_false_iff.mpr
    intro q
    have := tx_inj (beq_iff_eq.mp q)
    rw [this] at h
    simp at h
theorem tx_item {l : List Nat} {i : Int} (h0 : 0 ≤ i) (h1 : i < l.length) : Txt.item (tx l) i = tx [l.getD i.toNat 0] := by
  have hlt : i.toNat < l.length := by omega
  unfold Txt.item Txt.charAt
  rw [StrLaws.seqIndex_nonneg h0 (by rw [tx_length]; exact h1)]
  simp [tx, hlt]
theorem tx_slice_ss {l : List Nat} {i j : Int} (h0 : 0 ≤ i) (hij : i ≤ j) (h1 : j ≤ l.length) : StrLaws.sliceText (tx l) (some i) (some j) = tx ((l.drop i.toNat).take (j - i).toNat) := by
  rw [StrLaws.sliceText_plain ⟨h0, hij, by simpa [tx] using h1⟩]; simp [tx]
theorem tx_slice_ns {l : List Nat} {j : Int} (h0 : 0 ≤ j) (h1 : j ≤ l.length) : StrLaws.sliceText (tx l) none (some j) = tx (l.take j.toNat) := by
  rw [StrLaws.sliceText_to ⟨h0, by simpa [tx] using h1⟩]; simp [tx]
theorem tx_slice_sn {l : List Nat} {i : Int} (h0 : 0 ≤ i) (h1 : i ≤ l.length) : StrLaws.sliceText (tx l) (some i) none = tx (l.drop i.toNat) := by
  rw [StrLaws.sliceText_from ⟨h0, by simpa [tx] using h1⟩]
  simp only [tx]
  rw [List.take_of_length_le (by simp; omega)]

def upC (c : Nat) : Nat := if 97 ≤ c ∧ c ≤ 122 then c - 32 else c
def loC (c : Nat) : Nat := if 65 ≤ c ∧ c ≤ 90 then c + 32 else c
def isUp (c : Nat) : Bool := decide (65 ≤ c) && decide (c ≤ 90)
def castC (d c : Nat) : Nat := if isUp d then upC c else loC c
def Asc (l : List Nat) : Prop := ∀ c ∈ l, c < 128

theorem upperOf_asc : ∀ c, c < 128 → Unicode.upperOf c = [upC c] := by decide +kernel
theorem lowerOf_asc : ∀ c, c < 128 → Unicode.lowerOf c = [loC c] := by decide +kernel
theorem isUpper_asc : ∀ c, c < 128 → (Unicode.isUpper c && !(Unicode.isLower c || Unicode.isTitle c)) = isUp c := by decide +kernel

theorem flatten_one (a : Array Nat) (f : Nat → Nat → List Nat) (g : Nat → Nat) (h : ∀ i c, a[i]? = some c → f i c = [g c]) :
    (a.mapIdx fun i c => (f i c).toArray).flatten = a.map g := by
  have e : (a.mapIdx fun i c => (f i c).toArray) = a.map fun c => #[g c] := by
    apply Array.ext
    · simp
    · intro i h1 h2
      simp only [Array.getElem_mapIdx, Array.getElem_map]
      rw [h i _ (by simp at h1 h2; simp [h1])]
  rw [e]
  have : ∀ l : List Nat, (l.map fun c => #[g c]).map Array.toList = l.map fun c => [g c] := by intro l; simp
  apply Array.ext'
  simp only [Array.toList_flatten, Array.toList_map, List.map_map]
  induction a.toList with
  | nil => rfl
  | cons x r ih => simp only [List.map_cons, List.flatten_cons, Function.comp, ih]; rfl

theorem tx_upper {l : List Nat} (h : Asc l) : Txt.upper (tx l) = tx (l.map upC) := by
  apply Str.ext'
  show ((tx l).cps.mapIdx fun i c => (Unicode.upperOf c).toArray).flatten = _
  rw [flatten_one (tx l).cps (fun _ c => Unicode.upperOf c) upC]
  · simp [tx]
  · intro i c hc
    exact upperOf_asc c (h c (by simp [tx] at hc; exact List.mem_of_getElem? hc))
theorem tx_lower {l : List Nat} (h : Asc l) : Txt.lower (tx l) = tx (l.map loC) := by
  apply Str.ext'
  show ((tx l).cps.mapIdx fun i c => (Unicode.lowerAt (tx l).cps i).toArray).flatten = _
  rw [flatten_one (tx l).cps (fun i _ => Unicode.lowerAt (tx l).cps i) loC]
  · simp [tx]
  · intro i c hc
    have hm : c < 128 := h c (by simp [tx] at hc; exact List.mem_of_getElem? hc)
    show Unicode.lowerAt (tx l).cps i = _
    unfold Unicode.lowerAt
    rw [hc]
    have : (c == 0x3A3) = false := by simp; omega
    simp only [this, Bool.false_and]
    exact lowerOf_asc c hm
theorem tx_isupper {c : Nat} (h : c < 128) : Txt.isupper (tx [c]) = isUp c := by
  have := isUpper_asc c h
  rw [← this]
  simp [Txt.isupper, tx]
theorem tx_join (ls : List (List Nat)) : Txt.join (tx []) (ls.map tx) = tx ls.flatten := by
  show Builtin.Str.glued (tx []) (ls.map tx) = _
  rw [StrLaws.glued_eq_join]
  have key : ∀ ls : List (List Nat), Str.join (tx []) (ls.map tx) = tx ls.flatten := by
    intro ls
    induction ls with
    | nil => rfl
    | cons a r ih =>
      cases r with
      | nil => simp [Str.join]
      | cons b r =>
        simp only [List.map_cons] at ih ⊢
        show tx a ++ tx [] ++ Str.join (tx []) (tx b :: r.map tx) = _
        rw [ih, tx_append, tx_append]
        simp
  exact key ls
theorem tx_joinOk {ls : List (List Nat)} (h : ls.flatten.length ≤ 16777216) : JoinOk (tx []) (ls.map tx) = true := by
  unfold JoinOk
  have key : ∀ (ls : List (List Nat)) (n : Nat), (ls.map tx).foldl (fun a x => a + x.length + (tx []).length) n = n + ls.flatten.length := by
    intro ls
    induction ls with
    | nil => intro n; simp
    | cons a r ih => intro n; simp only [List.map_cons, List.foldl_cons, List.flatten_cons, List.length_append]; rw [ih, tx_length, tx_length]; simp; omega
  have e : (ls.map tx).toArray.foldl (fun a x => a + x.length + (tx []).length) 0 = ls.flatten.length := by
    rw [List.foldl_toArray']
    · rw [key]; omega
    · rfl
  rw [e]
  unfold Builtin.Str.tooLong
  have e2 : sizeLine = 16777216 := by decide
  rw [decide_eq_false (by omega)]; rfl
end Mine

/-! PB -/
namespace Mine
/-- what is known of a heap on which the text's defs are called -/
structure Gr (w : World) (h : Heap) : Prop where
  X : (hd.heap_39 w.params).In h
  T : ∃ (p : Program) (loose : List Str) (mean : ExcName → Option Value) (mg mb : Str → Option Value), Top p loose mean mg mb h

/-- Keeps-style contract of a pure def -/
def PureCall (w : World) (f : Addr) (vs : List Value) (R : Value → Prop) : Prop :=
  ∀ (A : Around) (E : Value → Shared → Prop) (s : Shared) (Q : Value → Shared → Prop),
    Gr w s.heap → A.handled = none → A.depth + 5 < recursionLimit → A.units + 60 < cLine →
    (∀ v s', R v → Keeps s s' → Q v s') → wpAny (model PySem.Challenge.rw_fe0311_01.row.prog w) A (call (.ref f) vs) Q E s

theorem enterP {w : World} {A : Around} {s : Shared} {R : Result → Shared → Prop} {name qual : Str} {params : Arguments} {body : List Stmt} {scope : Scope} {dV kV doc pm cdv ct oc : Value} {an od : Option Addr} {osl : Array (Option Value)} {f : Addr} {args : Args} {binds : List (Str × Value)}
    (X : (hd.heap_39 w.params).In s.heap) (hlim : s.heap.NoLimit) (hroom : A.depth < recursionLimit)
    (ho : (hd.heap_39 w.params).lookup f = some ⟨oc, od, .func (fnOf name qual params body scope dV kV doc pm an cdv ct), osl⟩) (hcd : codeIn (hd.heap_39 w.params) cdv qual = true)
    (hbind : BindsTo s (fnOf name qual params body scope dV kV doc pm an cdv ct) args binds) (hloc : ∀ y ∈ binds, scope.names.lookup y.1 = some .local)
    (h : ∀ L h₁ tk, Fr s.heap L h₁ (fun y => binds.reverse.lookup y) →
      wpAny (model PySem.Challenge.rw_fe0311_01.row.prog w) (A.deeper (envOf qual scope L f cdv)) (execs body (envOf qual scope L f cdv))
        (fun fl s' => R (.ok (.ret (match fl with | .ret v => v | _ => .none))) s')
        (fun e s' => wpAny (model PySem.Challenge.rw_fe0311_01.row.prog w) (A.deeper (envOf qual scope L f cdv)) (leaving (envOf qual scope L f cdv) e) (fun _ s'' => R (.error e) s'') (fun e' s'' => R (.error e') s'') s')
        { s with heap := h₁, toks := tk })
    (hco : scope.isCoroutine = false) (hgen : scope.isGenerator = false) (hk : scope.kind = .function)
    (hcell : ∀ x ∈ scope.names, x.2 ≠ .cell) : codeAny (model PySem.Challenge.rw_fe0311_01.row.prog w) A (.call (.ref f) args) R s :=
  codeAny_call_def (fd := fnOf name qual params body scope dV kV doc pm an cdv ct) (body := body) (binds := binds) hroom (X _ _ ho) rfl hlim (codeRec_of X hcd) rfl hbind hcell hloc
    (fun h₁ hns hk₁ => h s.heap.objs.size h₁ _ ⟨hns, hk₁, Nat.le_refl _⟩) hco hgen hk

/-- the signs of a cased text, of a lower one -/
def HiS : List Nat := [65, 66, 67, 68, 98, 100, 32, 49, 45, 90]
def LoS : List Nat := [97, 98, 99, 100, 32, 49, 45, 122]
end Mine

/-! PK -/
namespace Mine

theorem enterC {w : World} {A : Around} {s : Shared} {R : Result → Shared → Prop} {name qual : Str} {params : Arguments} {body : List Stmt} {scope : Scope} {dV kV doc pm cdv ct oc : Value} {an od : Option Addr} {osl : Array (Option Value)} {f : Addr} {args : Args} {binds : List (Str × Value)}
    (X : (hd.heap_39 w.params).In s.heap) (hlim : s.heap.NoLimit) (hroom : A.depth < recursionLimit)
    (ho : (hd.heap_39 w.params).lookup f = some ⟨oc, od, .func (fnOf name qual params body scope dV kV doc pm an cdv ct), osl⟩) (hcd : codeIn (hd.heap_39 w.params) cdv qual = true)
    (hbind : BindsTo s (fnOf name qual params body scope dV kV doc pm an cdv ct) args binds)
    (hkind : (binds.all fun y => scope.names.lookup y.1 == some .local || scope.names.lookup y.1 == some .cell) = true)
    (hnd : ((cellsFrom 0 scope.names []).map (·.1)).Nodup)
    (h : ∀ L h₁ tk cells, Fr s.heap L h₁ (bindL (envOfC qual scope L f cdv).kindOf binds fun _ => none) → News s.heap L h₁ cells →
      CellsAre (bindC (envOfC qual scope L f cdv).kindOf binds fun _ => none) (cellsFrom (L + 1) scope.names []) cells →
      wpAny (model PySem.Challenge.rw_fe0311_01.row.prog w) (A.deeper (envOfC qual scope L f cdv)) (execs body (envOfC qual scope L f cdv))
        (fun fl s' => R (.ok (.ret (match fl with | .ret v => v | _ => .none))) s')
        (fun e s' => wpAny (model PySem.Challenge.rw_fe0311_01.row.prog w) (A.deeper (envOfC qual scope L f cdv)) (leaving (envOfC qual scope L f cdv) e) (fun _ s'' => R (.error e) s'') (fun e' s'' => R (.error e') s'') s')
        { s with heap := h₁, toks := tk })
    (hco : scope.isCoroutine = false) (hgen : scope.isGenerator = false) (hk : scope.kind = .function) :
    codeAny (model PySem.Challenge.rw_fe0311_01.row.prog w) A (.call (.ref f) args) R s := by
  refine codeAny_call_function hroom (X _ _ ho) rfl hco hgen rfl (codeRec_of X hcd) (hbind _ _ _ _ ?_)
  refine wpAny_newFunctionEnv_cells hk (kindsX hkind _) fun env' he s' x => ?_
  subst he
  refine ⟨hlim.keeps x.toInCall.keep, codeAny_func ?_⟩
  obtain ⟨h₁, tk, rfl, _⟩ := x.done
  obtain ⟨cells, NC, Y⟩ := Cl.news (h₀ := s.heap) (Nat.le_refl _) fun n c hm => ⟨x.cell n c (lookup_of_mem_nodup (cellsFrom_names scope.names 0 (s.heap.objs.size + 1) [] [] rfl ▸ hnd) hm), x.above n c hm⟩
  exact h _ h₁ tk cells ⟨x.toInCall.ns, x.toInCall.keep, Nat.le_refl _⟩ NC Y

theorem flat_one {α : Type} (g : α → Nat) : ∀ l : List α, (l.map fun c => [g c]).flatten = l.map g
  | [] => rfl
  | c :: r => by simp only [List.map_cons, List.flatten_cons, List.singleton_append]; rw [flat_one g r]

section
variable {prog : Program} {w : World} {A : Around} {E : Value → Shared → Prop} {env : Env}

/-- a name that the block itself binds -/
theorem blockName {M : Model} {A : Around} {E : Value → Shared → Prop} {s : Shared} {scope : Scope} {cl : List (Str × Addr)} {C : Addr} {env : Env} {m : Str → Option Value} {x : Str} {pos : Pos} {v : Value} {Q : Value → Shared → Prop}
    (hn : s.heap.Ns C m) (hv : m x = some v) (h : Q v s) (hk : (compEnvC scope cl C env).scope.kind = .function := by rfl) (hx : (compEnvC scope cl C env).kindOf x = some .local := by rfl) (hb : (x == ("__debug__" : Str)) = false := by decide) :
    wpAny M A (eval (.Name x pos) (compEnvC scope cl C env)) Q E s := wpAny_Name (wpAny_loadName_local hk hx hn hv h) hb
/-- a name that the block reads out of the frame's cell -/
theorem blockCell {M : Model} {A : Around} {E : Value → Shared → Prop} {s : Shared} {scope : Scope} {cl : List (Str × Addr)} {C c : Addr} {env : Env} {x : Str} {pos : Pos} {v : Value} {Q : Value → Shared → Prop}
    (hc : cl.lookup x = some c) (hv : s.heap.IsCell c (some v)) (h : Q v s) (hk : (compEnvC scope cl C env).scope.kind = .function := by rfl) (hx : (compEnvC scope cl C env).kindOf x = some .cell := by rfl) (hb : (x == ("__debug__" : Str)) = false := by decide) :
    wpAny M A (eval (.Name x pos) (compEnvC scope cl C env)) Q E s := wpAny_Name (wpAny_loadName_cell hk hx hc hv h) hb

theorem strs_of {l : List Nat} {g : Nat → List Nat} {vs : List Value} {ys : List Value} (hlen : vs.length = l.length) (hv : ∀ (j : Nat) v, vs[j]? = some v → ∃ c u, l[j]? = some c ∧ v = .str (tx [c]) u)
    (h : Paired (fun v y => ∀ c u, v = .str (tx [c]) u → ∃ t, y = .str (tx (g c)) t) vs ys) : StrsAre ys ((l.map g).map tx) := by
  induction h generalizing l with
  | nil => cases l with
    | nil => exact .nil
    | cons c r => simp at hlen
  | @cons v y vs ys hy h ih =>
    cases l with
    | nil => simp at hlen
    | cons c r =>
      obtain ⟨c', u, hc, e⟩ := hv 0 v rfl
      cases hc
      obtain ⟨t, rfl⟩ := hy c u e
      exact .cons _ _ (ih (by simpa using hlen) fun j v hj => hv (j + 1) v hj)

/-- an element's end -/
def EltEnd (l : List Nat) (s₃ : Shared) (y : Value) (s₄ : Shared) : Prop := (∃ t', y = .str (tx l) t') ∧ Keeps s₃ s₄
theorem EltEnd.now {l : List Nat} {s₃ : Shared} {t : Tok} {k : Nat} : EltEnd l s₃ (.str (tx l) t) { s₃ with toks := k } := ⟨⟨t, rfl⟩, _, _, rfl, fun _ _ e => e⟩
/-- what a block over a text's signs asks -/
def TextSrc (prog : Program) (w : World) (A : Around) (env : Env) (scope : Scope) (cl : List (Str × Addr)) (x : Str) (elt : Expr) (Q : Value → Shared → Prop) (xv : Value) (s₁ : Shared) : Prop :=
  ∃ (l : List Nat) (t : Tok) (g : Nat → List Nat), xv = .str (tx l) t ∧ A.handled = none ∧ l.length ≤ 16777216 ∧
    (∀ C c u s₃ m₃ (E' : Value → Shared → Prop), c ∈ l → s₃.heap.Ns C m₃ → m₃ x = some (.str (tx [c]) u) → (∀ b o, s₁.heap.get? b = some o → s₃.heap.get? b = some o) →
      wpAny (model prog w) A (eval elt (compEnvC scope cl C env)) (EltEnd (g c) s₃) E' s₃) ∧
    (∀ D h' tk ys, s₁.heap.get? D = none → h'.IsList D ys.toArray → StrsAre ys ((l.map g).map tx) → (∀ b o, s₁.heap.get? b = some o → h'.get? b = some o) → Q (.ref D) { s₁ with heap := h', toks := tk })

theorem listComp_text {s : Shared} {elt iter : Expr} {x : Str} {px : Pos} {scope : Scope} {cl : List (Str × Addr)} {pos : Pos} {Q : Value → Shared → Prop}
    (hclos : closureFor scope env = pure cl) (hcell : ∀ y ∈ scope.names, y.2 ≠ .cell) (hkind : scope.kind = .function)
    (hnames : ∀ y ∈ scope.names, y.2 = .local → scope.names.lookup y.1 = some .local) (hx : scope.names.lookup x = some .local)
    (h : wpAny (model prog w) A (eval iter env) (TextSrc prog w A env scope cl x elt Q) E s)
    (hs : ∀ x, foldedSetIterable iter env x = pure x := by intro _; rfl) :
    wpAny (model prog w) A (eval (.ListComp elt [⟨.Name x px, iter, [], 0⟩] scope pos) env) Q E s := by
  rw [eval_ListComp]
  refine wpAny_comprehension_free (use := none) rfl hs hclos hkind hnames (wpAny_mono h (fun xv s₁ h₁ => ?_) fun _ _ e => e)
  obtain ⟨l, t, g, rfl, hh, hsz, helt, hdone⟩ := h₁
  refine wpAny_pyIter_str fun o St W hst => ?_
  have hI : ∀ b oo, s₁.heap.get? b = some oo → b ∉ [s₁.heap.objs.size] := fun b oo e hm => Nat.ne_of_lt (Heap.lt_size e) (List.mem_singleton.mp hm)
  have hp : ∀ b oo, s₁.heap.get? b = some oo → (s₁.heap.push o).get? b = some oo := fun b oo e => Heap.get?_push_of_some _ e
  have hcps : (tx l).cps.size = l.length := by simp [tx]
  refine comp_block_walkC (RR := fun acc C => compPost (model prog w) A E none Q acc C) (W A hh) (by rw [hcps, sizeLine_eq]; exact hsz) (fun _ => true) (fun v y => ∀ c u, v = .str (tx [c]) u → ∃ t', y = .str (tx (g c)) t') hcell hkind hx hst
    (fun b hb => by rw [List.mem_singleton.mp hb]; show _ < (s₁.heap.push o).objs.size; rw [Heap.size_push]; exact Nat.lt_succ_self _) ⟨?_, ?_⟩ ?_
  · intro C i v s₃ m₃ E' _ hv hn hm hk _
    exact wpAny_mono (wpAny_tests_nil (Q := fun ok s₄ => ok = true ∧ s₄ = s₃) ⟨rfl, rfl⟩) (fun ok s₄ h₄ => by obtain ⟨rfl, rfl⟩ := h₄; exact ⟨rfl, _, _, rfl, fun _ _ e => e⟩) fun _ _ e => e
  · intro C i v s₃ m₃ E' _ hv _ hn hm hk _
    obtain ⟨c, u, hc, rfl⟩ := hv
    have hcl : c ∈ l := List.mem_of_getElem? (i := i) (by simpa [tx] using hc)
    refine wpAny_mono (helt C c u s₃ m₃ E' hcl hn hm fun b oo e => hk b oo (hI b oo e) (hp b oo e)) (fun y s₄ h₄ => ⟨fun c' u' e => ?_, h₄.2⟩) fun _ _ e => e
    have : c = c' := by
      have := Value.str.inj e
      exact (by simpa [tx] using this.1)
    subst this
    exact h₄.1
  · intro D C h' tk m' ys vs hD hC hDC hn hl hpl hlen hP hF hk
    refine ⟨m', hn, fun h'' hs'' => ?_⟩
    have up : ∀ b oo, s₁.heap.get? b = some oo → h''.get? b = some oo := fun b oo e => hs''.extBut b oo (by rintro rfl; rw [hp _ _ e] at hC; cases hC) (hk b oo (hI b oo e) (hp b oo e))
    have hD1 : s₁.heap.get? D = none := by
      cases e : s₁.heap.get? D with
      | none => rfl
      | some oo => rw [hp _ _ e] at hD; cases hD
    refine hdone D h'' tk ys.toList hD1 (by simpa using hl.extBut hs''.extBut hDC) (strs_of (vs := vs) (by rw [hlen, hcps]) (fun j v hj => ?_) (by rw [List.filter_eq_self.mpr (fun _ _ => rfl)] at hF; exact hF)) up
    obtain ⟨c, u, hc, e⟩ := hP j v hj
    exact ⟨c, u, by simpa [tx] using hc, e⟩

theorem strs_pairs {ys : List Value} {xs : List Str} (h : StrsAre ys xs) : ∃ l : List (Str × Tok), strValues l = ys ∧ l.map (·.1) = xs := by
  induction h with
  | nil => exact ⟨[], rfl, rfl⟩
  | cons y t _ ih => obtain ⟨l, rfl, rfl⟩ := ih; exact ⟨(y, t) :: l, rfl, rfl⟩
theorem empty_tx : Str.ofString "" = tx [] := by decide +kernel
theorem join_tx {s : Shared} {D : Addr} {t : Tok} {ys : List Value} {ls : List (List Nat)} {Q : Value → Shared → Prop} (hl : s.heap.IsList D ys.toArray) (hs : StrsAre ys (ls.map tx)) (hz : ls.flatten.length ≤ 16777216)
    (hq : ∀ t' k, Q (.str (tx ls.flatten) t') { s with toks := k }) : wpAny (model prog w) A (call (.builtin "str.join") [.str (Str.ofString "") t, .ref D]) Q E s := by
  obtain ⟨l, rfl, hm⟩ := strs_pairs hs
  rw [empty_tx]
  refine SC.join hl hm (tx_joinOk hz) fun t' k => ?_
  rw [tx_join]
  exact hq t' k
end
end Mine

/-! PZp -/
namespace Mine
/-- what a zip of two drawn things keeps apart -/
structure Apart2 (z TI TO i1 i2 : Addr) (fp1 fp2 : List Addr) : Prop where
  TIz : TI ≠ z
  TOz : TO ≠ z
  i1z : i1 ≠ z
  i2z : i2 ≠ z
  TITO : TI ≠ TO
  TIi1 : TI ≠ i1
  TIi2 : TI ≠ i2
  TOi1 : TO ≠ i1
  TOi2 : TO ≠ i2
  i12 : i1 ≠ i2
  z1 : z ∉ fp1
  z2 : z ∉ fp2
  TO1 : TO ∉ fp1
  TO2 : TO ∉ fp2
  i21 : i2 ∉ fp1
  i12' : i1 ∉ fp2

section
variable {prog : Program} {w : World} {A : Around} {E : Value → Shared → Prop} {s : Shared}
variable {z TI TO i1 i2 : Addr} {fp1 fp2 : List Addr} {n1 n2 : Nat} {P1 P2 : Nat → Value → Prop} {St1 St2 : Nat → Heap → Prop}

theorem st_but {it d : Addr} {fp : List Addr} {n : Nat} {P : Nat → Value → Prop} {St : Nat → Heap → Prop} (D : Draws prog w A it fp n P St) {i : Nat} {h h' : Heap} (st : St i h) (hd : d ∉ fp) (hs : ∀ b o, b ≠ d → h.get? b = some o → h'.get? b = some o) : St i h' :=
  D.frame i h h' st fun b hb o e => hs b o (fun q => hd (q ▸ hb)) e

theorem zipD_item {k : Nat} {a b : Value} {Q : Value → Shared → Prop} (D : Apart2 z TI TO i1 i2 fp1 fp2) (D1 : Draws prog w A i1 fp1 n1 P1 St1) (D2 : Draws prog w A i2 fp2 n2 P2 St2) (hk1 : k < n1) (hk2 : k < n2)
    (hz : IsZip s.heap z TI TO .none) (hTI : IsPair s.heap TI (.ref i1) (.ref i2)) (hTO : IsPair s.heap TO a b) (h1 : St1 k s.heap) (h2 : St2 k s.heap)
    (hQ : ∀ x y h' tk, P1 k x → P2 k y → IsZip h' z TI TO (rawInt s.heap.objs.size) → IsPair h' TO x y → St1 (k + 1) h' → St2 (k + 1) h' → IsPair h' s.heap.objs.size x y →
      (∀ c o, c ≠ z → c ≠ TO → c ≠ i1 → c ≠ i2 → s.heap.get? c = some o → h'.get? c = some o) → Q (.ref s.heap.objs.size) { s with heap := h', toks := tk }) :
    wpAny (model prog w) A (Builtin.«zip.__next__» ⟨[.ref z], []⟩) (fun fin s' => ∃ v, fin = .done (.ret v) ∧ Q v s') E s := by
  show wpAny _ _ (field (.ref z) 2 >>= _) _ _ _
  refine wpAny_bind (wpAny_field hz rfl (x := .bool false) rfl ?_)
  show wpAny _ _ (field (.ref z) 3 >>= _) _ _ _
  refine wpAny_bind (wpAny_field hz rfl (x := .ref TI) rfl ?_)
  refine wpAny_bind (wpAny_seqItems hTI rfl ?_)
  show wpAny _ _ (Builtin.SmallTypes.ownedTupleIsFree (.ref z) >>= _) _ _ _
  refine wpAny_bind ?_
  unfold Builtin.SmallTypes.ownedTupleIsFree
  refine wpAny_bind (wpAny_field hz rfl (x := .none) rfl (wpAny_pure ?_))
  simp only [if_true]
  refine wpAny_bind (wpAny_rule ?_)
  refine wpAny_bind (wpAny_field hz rfl (x := .ref TO) rfl ?_)
  refine wpAny_bind (wpAny_setField_rec hz (by simp) fun ha hza hsa => ?_)
  replace hza : IsZip ha z TI TO .ellipsis := hza
  refine wpAny_bind ?_
  simp only [List.zipIdx_cons, List.zipIdx_nil, List.forIn_cons, List.forIn_nil]
  refine wpAny_bind (wpAny_bind (wpAny_onRaise ?_))
  show wpAny _ _ (Builtin.SmallTypes.nextOf (.ref i1) >>= _) _ _ _
  have s1a := st_but D1 h1 D.z1 hsa.extBut
  have s2a := st_but D2 h2 D.z2 hsa.extBut
  refine wpAny_bind (D1.item k _ _ _ hk1 s1a fun x hb tb px s1b hsb => wpAny_pure ?_)
  have hTOb : IsPair hb TO a b := hsb.extBut _ _ D.TOi1 (hsa.extBut _ _ D.TOz hTO)
  have s2b := st_but D2 s2a D.i12' hsb.extBut
  refine wpAny_bind (wpAny_seqItems hTOb rfl ?_)
  refine wpAny_bind (wpAny_updateSeq_pair hTOb fun hc hTOc hsc => ?_)
  replace hTOc : IsPair hc TO x b := hTOc
  have s1c := st_but D1 s1b D.TO1 hsc.extBut
  have s2c := st_but D2 s2b D.TO2 hsc.extBut
  refine wpAny_bind (wpAny_letGo (wpAny_pure ?_))
  refine wpAny_bind (wpAny_bind (wpAny_onRaise ?_))
  show wpAny _ _ (Builtin.SmallTypes.nextOf (.ref i2) >>= _) _ _ _
  refine wpAny_bind (D2.item k _ _ _ hk2 s2c fun y hd td py s2d hsd => wpAny_pure ?_)
  have hTOd : IsPair hd TO x b := hsd.extBut _ _ D.TOi2 hTOc
  have s1d := st_but D1 s1c D.i21 hsd.extBut
  refine wpAny_bind (wpAny_seqItems hTOd rfl ?_)
  refine wpAny_bind (wpAny_updateSeq_pair hTOd fun he hTOe hse => ?_)
  replace hTOe : IsPair he TO x y := hTOe
  have s1e := st_but D1 s1d D.TO1 hse.extBut
  have s2e := st_but D2 s2d D.TO2 hse.extBut
  refine wpAny_bind (wpAny_letGo (wpAny_pure (wpAny_pure ?_)))
  refine wpAny_bind (wpAny_seqItems hTOe rfl ?_)
  refine wpAny_bind (wpAny_newTuple ?_)
  have hsz : he.objs.size = s.heap.objs.size := by rw [hse.1, hsd.1, hsc.1, hsb.1, hsa.1]
  have hze : IsZip he z TI TO .ellipsis := hse.extBut _ _ D.TOz.symm (hsd.extBut _ _ D.i2z.symm (hsc.extBut _ _ D.TOz.symm (hsb.extBut _ _ D.i1z.symm hza)))
  have hke : ∀ c o, c ≠ z → c ≠ TO → c ≠ i1 → c ≠ i2 → s.heap.get? c = some o → he.get? c = some o := fun c o c1 c2 c3 c4 e =>
    hse.extBut _ _ c2 (hsd.extBut _ _ c4 (hsc.extBut _ _ c2 (hsb.extBut _ _ c3 (hsa.extBut _ _ c1 e))))
  have hzlt : z < he.objs.size := Heap.lt_size hze
  show wpAny _ _ (Builtin.SmallTypes.ownedTupleHandOut (.ref z) (.ref he.objs.size) >>= _) _ _ _
  refine wpAny_bind ?_
  unfold Builtin.SmallTypes.ownedTupleHandOut
  have hzf : IsZip (he.push { cls := .type "tuple", data := .seq #[x, y] }) z TI TO .ellipsis := Heap.get?_push_of_some _ hze
  refine wpAny_bind (wpAny_setField_rec hzf (by simp) fun hg hzg hsg => ?_)
  replace hzg : IsZip hg z TI TO (rawInt he.objs.size) := hzg
  refine wpAny_setField_rec hzg (by simp) fun hq hzq hsq => ?_
  replace hzq : IsZip hq z TI TO (rawInt he.objs.size) := hzq
  have up : ∀ c o, c ≠ z → he.get? c = some o → hq.get? c = some o := fun c o c1 e => hsq.extBut _ _ c1 (hsg.extBut _ _ c1 (Heap.get?_push_of_some _ e))
  have hTq : IsPair hq he.objs.size x y := hsq.extBut _ _ (Nat.ne_of_gt hzlt) (hsg.extBut _ _ (Nat.ne_of_gt hzlt) (Heap.get?_push_size _ rfl))
  rw [hsz] at hzq hTq
  refine wpAny_pure ⟨_, rfl, ?_⟩
  show Q (.ref he.objs.size) _
  rw [hsz]
  exact hQ x y hq _ px py hzq (up _ _ D.TOz hTOe) (st_but D1 s1e D.z1 fun c o c1 e => up c o c1 e) (st_but D2 s2e D.z2 fun c o c1 e => up c o c1 e) hTq fun c o c1 c2 c3 c4 e => up c o c1 (hke c o c1 c2 c3 c4 e)

theorem zipD_end {k : Nat} {a b : Value} {Q : Fin → Shared → Prop} (D : Apart2 z TI TO i1 i2 fp1 fp2) (D1 : Draws prog w A i1 fp1 n1 P1 St1) (D2 : Draws prog w A i2 fp2 n2 P2 St2) (hk : k = min n1 n2)
    (hz : IsZip s.heap z TI TO .none) (hTI : IsPair s.heap TI (.ref i1) (.ref i2)) (hTO : IsPair s.heap TO a b) (h1 : St1 k s.heap) (h2 : St2 k s.heap)
    (hE : ∀ h' e tk, (∀ c o, c ≠ z → c ≠ TO → c ≠ i1 → c ≠ i2 → s.heap.get? c = some o → h'.get? c = some o) → (∃ o, h'.get? e = some o ∧ o.cls = .type "StopIteration") → E (.ref e) { s with heap := h', toks := tk }) :
    wpAny (model prog w) A (Builtin.«zip.__next__» ⟨[.ref z], []⟩) Q E s := by
  show wpAny _ _ (field (.ref z) 2 >>= _) _ _ _
  refine wpAny_bind (wpAny_field hz rfl (x := .bool false) rfl ?_)
  show wpAny _ _ (field (.ref z) 3 >>= _) _ _ _
  refine wpAny_bind (wpAny_field hz rfl (x := .ref TI) rfl ?_)
  refine wpAny_bind (wpAny_seqItems hTI rfl ?_)
  show wpAny _ _ (Builtin.SmallTypes.ownedTupleIsFree (.ref z) >>= _) _ _ _
  refine wpAny_bind ?_
  unfold Builtin.SmallTypes.ownedTupleIsFree
  refine wpAny_bind (wpAny_field hz rfl (x := .none) rfl (wpAny_pure ?_))
  simp only [if_true]
  refine wpAny_bind (wpAny_rule ?_)
  refine wpAny_bind (wpAny_field hz rfl (x := .ref TO) rfl ?_)
  refine wpAny_bind (wpAny_setField_rec hz (by simp) fun ha hza hsa => ?_)
  replace hza : IsZip ha z TI TO .ellipsis := hza
  refine wpAny_bind ?_
  simp only [List.zipIdx_cons, List.zipIdx_nil, List.forIn_cons, List.forIn_nil]
  refine wpAny_bind (wpAny_bind (wpAny_onRaise ?_))
  show wpAny _ _ (Builtin.SmallTypes.nextOf (.ref i1) >>= _) _ _ _
  have s1a := st_but D1 h1 D.z1 hsa.extBut
  have s2a := st_but D2 h2 D.z2 hsa.extBut
  by_cases hlt : k < n1
  · have hk2 : k = n2 := by omega
    refine wpAny_bind (D1.item k _ _ _ hlt s1a fun x hb tb px s1b hsb => wpAny_pure ?_)
    have hTOb : IsPair hb TO a b := hsb.extBut _ _ D.TOi1 (hsa.extBut _ _ D.TOz hTO)
    have s2b := st_but D2 s2a D.i12' hsb.extBut
    refine wpAny_bind (wpAny_seqItems hTOb rfl ?_)
    refine wpAny_bind (wpAny_updateSeq_pair hTOb fun hc hTOc hsc => ?_)
    have s2c := st_but D2 s2b D.TO2 hsc.extBut
    rw [hk2] at s2c
    refine wpAny_bind (wpAny_letGo (wpAny_pure ?_))
    refine wpAny_bind (wpAny_bind (wpAny_onRaise ?_))
    show wpAny _ _ (Builtin.SmallTypes.nextOf (.ref i2) >>= _) _ _ _
    refine wpAny_bind (D2.done _ _ _ s2c fun hd e hsd he => ?_)
    obtain ⟨oe, hoe, hce⟩ := he
    have hzd : IsZip hd z TI TO .ellipsis := hsd _ _ D.i2z.symm (hsc.extBut _ _ D.TOz.symm (hsb.extBut _ _ D.i1z.symm hza))
    have hez : e ≠ z := fun x => by subst x; rw [hzd] at hoe; cases hoe; simp at hce
    refine wpAny_setField_rec hzd (by simp) fun hf _ hsf => hE hf e _ (fun c o c1 c2 c3 c4 x => hsf.extBut _ _ c1 (hsd _ _ c4 (hsc.extBut _ _ c2 (hsb.extBut _ _ c3 (hsa.extBut _ _ c1 x))))) ⟨oe, hsf.extBut _ _ hez hoe, hce⟩
  · have hk1 : k = n1 := by omega
    rw [hk1] at s1a
    refine wpAny_bind (D1.done _ _ _ s1a fun hd e hsd he => ?_)
    obtain ⟨oe, hoe, hce⟩ := he
    have hzd : IsZip hd z TI TO .ellipsis := hsd _ _ D.i1z.symm hza
    have hez : e ≠ z := fun x => by subst x; rw [hzd] at hoe; cases hoe; simp at hce
    refine wpAny_setField_rec hzd (by simp) fun hf _ hsf => hE hf e _ (fun c o c1 _ c3 _ x => hsf.extBut _ _ c1 (hsd _ _ c3 (hsa.extBut _ _ c1 x))) ⟨oe, hsf.extBut _ _ hez hoe, hce⟩

theorem nextD_item {k : Nat} {a b : Value} {Q : Option Value → Shared → Prop} (D : Apart2 z TI TO i1 i2 fp1 fp2) (D1 : Draws prog w A.in1 i1 fp1 n1 P1 St1) (D2 : Draws prog w A.in1 i2 fp2 n2 P2 St2) (hk1 : k < n1) (hk2 : k < n2)
    (hz : IsZip s.heap z TI TO .none) (hTI : IsPair s.heap TI (.ref i1) (.ref i2)) (hTO : IsPair s.heap TO a b) (h1 : St1 k s.heap) (h2 : St2 k s.heap)
    (hQ : ∀ x y h' tk, P1 k x → P2 k y → IsZip h' z TI TO (rawInt s.heap.objs.size) → IsPair h' TO x y → St1 (k + 1) h' → St2 (k + 1) h' → IsPair h' s.heap.objs.size x y →
      (∀ c o, c ≠ z → c ≠ TO → c ≠ i1 → c ≠ i2 → s.heap.get? c = some o → h'.get? c = some o) → Q (some (.ref s.heap.objs.size)) { s with heap := h', toks := tk }) :
    wpAny (model prog w) A (pyNext (.ref z)) Q E s := by
  have hT : s.TypeIs (.ref z) "zip" := ⟨_, hz, rfl⟩
  unfold pyNext
  exact wpAny_bind (wpAny_attempt (wpAny_callSpecial?_slot (name := Str.ofString "__next__") hT F.slot_zip_next
    (wpAny_call_entry F.slot_zip_next hT F.entry_zip_next
      (zipD_item D D1 D2 hk1 hk2 hz hTI hTO h1 h2 fun x y h' tk a1 a2 a3 a4 a5 a6 a7 a8 => wpAny_pure (hQ x y h' tk a1 a2 a3 a4 a5 a6 a7 a8)) (F.args_zip_next_1 _))))
theorem nextD_end {k : Nat} {a b : Value} {Q : Option Value → Shared → Prop} (D : Apart2 z TI TO i1 i2 fp1 fp2) (D1 : Draws prog w A.in1 i1 fp1 n1 P1 St1) (D2 : Draws prog w A.in1 i2 fp2 n2 P2 St2) (hk : k = min n1 n2)
    (hz : IsZip s.heap z TI TO .none) (hTI : IsPair s.heap TI (.ref i1) (.ref i2)) (hTO : IsPair s.heap TO a b) (h1 : St1 k s.heap) (h2 : St2 k s.heap)
    (hQ : ∀ h' tk, (∀ c o, c ≠ z → c ≠ TO → c ≠ i1 → c ≠ i2 → s.heap.get? c = some o → h'.get? c = some o) → Q none { s with heap := h', toks := tk }) :
    wpAny (model prog w) A (pyNext (.ref z)) Q E s := by
  have hT : s.TypeIs (.ref z) "zip" := ⟨_, hz, rfl⟩
  unfold pyNext
  refine wpAny_bind (wpAny_attempt (wpAny_callSpecial?_slot (name := Str.ofString "__next__") hT F.slot_zip_next
    (wpAny_call_entry F.slot_zip_next hT F.entry_zip_next (zipD_end D D1 D2 hk hz hTI hTO h1 h2 fun h' e tk hk he => ?_) (F.args_zip_next_1 _))))
  obtain ⟨o, ho, hc⟩ := he
  refine wpAny_bind (wpAny_isInstance (T := "StopIteration") (b := true) ⟨o, ho, hc⟩ isSubtype_stop ?_)
  exact wpAny_pure (hQ _ _ hk)

abbrev ZSt (z TI TO i1 i2 : Addr) (St1 St2 : Nat → Heap → Prop) (i : Nat) (h : Heap) : Prop :=
  IsZip h z TI TO .none ∧ IsPair h TI (.ref i1) (.ref i2) ∧ (∃ a b, IsPair h TO a b) ∧ St1 i h ∧ St2 i h
abbrev ZMid (z TI TO i1 i2 : Addr) (St1 St2 : Nat → Heap → Prop) (i : Nat) (T : Addr) (h : Heap) : Prop :=
  IsZip h z TI TO (rawInt T) ∧ IsPair h TI (.ref i1) (.ref i2) ∧ (∃ a b, IsPair h TO a b) ∧ St1 (i + 1) h ∧ St2 (i + 1) h ∧ T ≠ z ∧ T ≠ TO ∧ T ≠ i1 ∧ T ≠ i2

theorem walksZip (D : Apart2 z TI TO i1 i2 fp1 fp2) (D1 : Draws prog w A.in1 i1 fp1 n1 P1 St1) (D2 : Draws prog w A.in1 i2 fp2 n2 P2 St2) :
    WalksU prog w A z (z :: TI :: TO :: i1 :: i2 :: (fp1 ++ fp2)) [z, TO, i1, i2] (min n1 n2)
      (fun i vals => ∃ x y, P1 i x ∧ P2 i y ∧ vals = #[x, y]) (ZSt z TI TO i1 i2 St1 St2) (ZMid z TI TO i1 i2 St1 St2) where
  sub := fun c hc => by
    simp only [List.mem_cons, List.not_mem_nil, or_false] at hc ⊢
    rcases hc with rfl | rfl | rfl | rfl <;> simp
  frame := fun i h h' hst hk => by
    obtain ⟨hz, hTI, ⟨a, b, hTO⟩, h1, h2⟩ := hst
    exact ⟨hk z (by simp) _ hz, hk TI (by simp) _ hTI, ⟨a, b, hk TO (by simp) _ hTO⟩, D1.frame i h h' h1 fun b hb o e => hk b (by simp [hb]) o e, D2.frame i h h' h2 fun b hb o e => hk b (by simp [hb]) o e⟩
  item := fun i s Q E hi hst hQ => by
    obtain ⟨hz, hTI, ⟨a, b, hTO⟩, h1, h2⟩ := hst
    refine nextD_item D D1 D2 (Nat.lt_of_lt_of_le hi (Nat.min_le_left ..)) (Nat.lt_of_lt_of_le hi (Nat.min_le_right ..)) hz hTI hTO h1 h2 fun x y h' tk px py a1 a2 a3 a4 a5 hk => ?_
    have lt : ∀ {c o}, s.heap.get? c = some o → s.heap.objs.size ≠ c := fun e => Nat.ne_of_gt (Heap.lt_size e)
    exact hQ s.heap.objs.size #[x, y] h' tk ⟨x, y, px, py, rfl⟩ ⟨_, a5, rfl, _, rfl⟩
      ⟨a1, hk _ _ D.TIz D.TITO D.TIi1 D.TIi2 hTI, ⟨_, _, a2⟩, a3, a4, lt hz, lt hTO, (by obtain ⟨_, e⟩ := D1.live _ _ h1; exact lt e), (by obtain ⟨_, e⟩ := D2.live _ _ h2; exact lt e)⟩
      fun c o hc e => hk c o (fun x => hc (by simp [x])) (fun x => hc (by simp [x])) (fun x => hc (by simp [x])) (fun x => hc (by simp [x])) e
  go := fun elts k pos i T s Q E hm hQ => by
    obtain ⟨hz, hTI, ⟨a, b, hTO⟩, h1, h2, _⟩ := hm
    refine wpAny_letOwnedTupleGo_zip hz fun h' hz' hs' => hQ h' ⟨hz', hs'.extBut _ _ D.TIz hTI, ⟨a, b, hs'.extBut _ _ D.TOz hTO⟩, st_but D1 h1 D.z1 hs'.extBut, st_but D2 h2 D.z2 hs'.extBut⟩ fun c o hc e => hs'.extBut _ _ (fun x => hc (by simp [x])) e
  apart := fun i T h hm hT => by
    obtain ⟨_, _, _, _, _, t1, t2, t3, t4⟩ := hm
    simp only [List.mem_cons, List.not_mem_nil, or_false] at hT
    rcases hT with rfl | rfl | rfl | rfl
    · exact t1 rfl
    · exact t2 rfl
    · exact t3 rfl
    · exact t4 rfl
  done := fun s Q E hst hQ => by
    obtain ⟨hz, hTI, ⟨a, b, hTO⟩, h1, h2⟩ := hst
    exact nextD_end D D1 D2 rfl hz hTI hTO h1 h2 fun h' tk hk => hQ h' tk fun c o hc e =>
      hk c o (fun x => hc (by simp [x])) (fun x => hc (by simp [x])) (fun x => hc (by simp [x])) (fun x => hc (by simp [x])) e
  self := fun i s Q E hst hQ => wpAny_pyIter_zip hst.1 hQ
end

abbrev sIter (x : Str) (t : Tok) : Obj := { cls := .type "str_ascii_iterator", data := .fields #[.str x t, .int 0 0] }
abbrev lIter (l : Addr) : Obj := { cls := .type "list_iterator", data := .fields #[.ref l, .int 0 0] }
abbrev zpH (h : Heap) (o1 o2 : Obj) : Heap :=
  ((((h.push o1).push o2).push { cls := .type "tuple", data := .seq #[.ref h.objs.size, .ref (h.push o1).objs.size] }).push { cls := .type "tuple", data := .seq #[.none, .none] }).push
    { cls := .type "zip", data := .fields #[.none, .bool false, .bool false, .ref ((h.push o1).push o2).objs.size, .ref (((h.push o1).push o2).push { cls := .type "tuple", data := .seq #[.ref h.objs.size, .ref (h.push o1).objs.size] }).objs.size] }
abbrev zpA (h : Heap) (o1 o2 : Obj) : Addr := ((((h.push o1).push o2).push { cls := .type "tuple", data := .seq #[.ref h.objs.size, .ref (h.push o1).objs.size] }).push { cls := .type "tuple", data := .seq #[.none, .none] }).objs.size


/-- what lays an iterator -/
def Lays (v : Value) (C : Heap → Prop) (o : Obj) : Prop := ∀ (prog : Program) (w : World) (A : Around) (E : Value → Shared → Prop) (s : Shared) (Q : Value → Shared → Prop), C s.heap → Q (.ref s.heap.objs.size) { s with heap := s.heap.push o } → wpAny (model prog w) A (pyIter v) Q E s
theorem lays_str (x : Str) (t : Tok) (hx : x.cps.all (· < 128) = true) : Lays (.str x t) (fun _ => True) (sIter x t) := fun _ _ _ _ _ _ _ h => wpAny_pyIter_ascii hx h
theorem lays_list (l : Addr) (ys : Array Value) : Lays (.ref l) (fun h => h.IsList l ys) (lIter l) := fun _ _ _ _ _ _ c h => wpAny_pyIter_list c h
theorem lays_use {v : Value} {C : Heap → Prop} {o : Obj} (L : Lays v C o) {prog : Program} {w : World} {A : Around} {E : Value → Shared → Prop} {s : Shared} {Q : Value → Shared → Prop} (c : C s.heap) (h : Q (.ref s.heap.objs.size) { s with heap := s.heap.push o }) : wpAny (model prog w) A (pyIter v) Q E s := L prog w A E s Q c h

set_option maxHeartbeats 4000000 in
theorem meets_zip (v1 v2 : Value) (C1 C2 : Heap → Prop) (o1 o2 : Obj) (L1 : Lays v1 C1 o1) (L2 : Lays v2 C2 o2) (hC : ∀ h o, C2 h → C2 (h.push o)) :
    Meets (Builtin.«zip.__new__» ⟨[.type "zip", v1, v2], []⟩) (fun _ R s => C1 s.heap ∧ C2 s.heap ∧ R (.ok (.ret (.ref (zpA s.heap o1 o2)))) { s with heap := zpH s.heap o1 o2 }) :=
  .of_wp fun prog w A R s h => by
    obtain ⟨hp, g, d, tk, os⟩ := s
    obtain ⟨c1, c2, h⟩ := h
    have hsub := sub_zip
    have c1' : C1 (Shared.heap ⟨hp, g, d, tk, os⟩) := c1
    have c2' : C2 (Shared.heap ⟨hp.push o1, g, d, tk, os⟩) := hC _ _ c2
    wp_walk using lays_use L1 c1', lays_use L2 c2'
    exact ⟨_, rfl, h⟩

/-- a zip just laid over two drawn things; H0: what stood before it -/
def ZipAt (prog : Program) (w : World) (H0 h : Heap) (z : Addr) (n : Nat) (P1 P2 : Nat → Value → Prop) : Prop :=
  ∃ (TI TO i1 i2 : Addr) (fp1 fp2 : List Addr) (n1 n2 : Nat) (St1 St2 : Nat → Heap → Prop), n = min n1 n2 ∧ Apart2 z TI TO i1 i2 fp1 fp2 ∧
    (∀ A : Around, A.handled = none → Draws prog w A i1 fp1 n1 P1 St1) ∧ (∀ A : Around, A.handled = none → Draws prog w A i2 fp2 n2 P2 St2) ∧
    ZSt z TI TO i1 i2 St1 St2 0 h ∧ (∀ b ∈ z :: TI :: TO :: i1 :: i2 :: (fp1 ++ fp2), b < h.objs.size) ∧ (∀ b ∈ [z, TO, i1, i2], H0.get? b = none) ∧ (∀ b o, H0.get? b = some o → h.get? b = some o)

theorem ZipAt.walks {prog : Program} {w : World} {H0 h : Heap} {z : Addr} {n : Nat} {P1 P2 : Nat → Value → Prop} (Z : ZipAt prog w H0 h z n P1 P2) :
    ∃ (fp wr : List Addr) (St : Nat → Heap → Prop) (Mid : Nat → Addr → Heap → Prop), (∀ A : Around, A.handled = none → WalksU prog w A z fp wr n (fun i vals => ∃ x y, P1 i x ∧ P2 i y ∧ vals = #[x, y]) St Mid) ∧
      St 0 h ∧ (∀ b ∈ fp, b < h.objs.size) ∧ (∀ b ∈ wr, H0.get? b = none) ∧ (∀ b o, H0.get? b = some o → h.get? b = some o) := by
  obtain ⟨TI, TO, i1, i2, fp1, fp2, n1, n2, St1, St2, rfl, D, D1, D2, hst, hfp, hwr, hk⟩ := Z
  exact ⟨_, _, _, _, fun A hA => walksZip D (D1 A.in1 hA) (D2 A.in1 hA), hst, hfp, hwr, hk⟩

section
variable {prog : Program} {w : World} {A : Around} {E : Value → Shared → Prop} {s : Shared}
theorem call_zipV {v1 v2 : Value} {C1 C2 : Heap → Prop} {o1 o2 : Obj} {Q : Value → Shared → Prop} (L1 : Lays v1 C1 o1) (L2 : Lays v2 C2 o2) (hC : ∀ h o, C2 h → C2 (h.push o)) (c1 : C1 s.heap) (c2 : C2 s.heap)
    (h : Q (.ref (zpA s.heap o1 o2)) { s with heap := zpH s.heap o1 o2 }) : wpAny (model prog w) A (call (.type "zip") [v1, v2]) Q E s :=
  callType_new F.called_zip (by decide) (F.typeCall_zip_2 _ _) (F.newCall_zip_2 _ _) (fun obj => F.args_object_init_3 obj _ _) F.entry_zip_new
    (meets_zip v1 v2 C1 C2 o1 o2 L1 L2 hC) ⟨c1, c2, ⟨_, Heap.get?_push_size _ rfl, rfl⟩, h⟩
end

theorem zp_facts (h : Heap) (o1 o2 : Obj) (f1 : o1.isFreed = false) (f2 : o2.isFreed = false) :
    zpA h o1 o2 = h.objs.size + 4 ∧ (zpH h o1 o2).objs.size = h.objs.size + 5 ∧
    IsZip (zpH h o1 o2) (h.objs.size + 4) (h.objs.size + 2) (h.objs.size + 3) .none ∧ IsPair (zpH h o1 o2) (h.objs.size + 2) (.ref h.objs.size) (.ref (h.objs.size + 1)) ∧ IsPair (zpH h o1 o2) (h.objs.size + 3) .none .none ∧
    (zpH h o1 o2).get? h.objs.size = some o1 ∧ (zpH h o1 o2).get? (h.objs.size + 1) = some o2 ∧ (∀ c o, h.get? c = some o → (zpH h o1 o2).get? c = some o) := by
  have z1 : (h.push o1).objs.size = h.objs.size + 1 := Heap.size_push ..
  have z2 : ((h.push o1).push o2).objs.size = h.objs.size + 2 := by rw [Heap.size_push, z1]
  have z3 : (((h.push o1).push o2).push { cls := .type "tuple", data := .seq #[.ref h.objs.size, .ref (h.push o1).objs.size] }).objs.size = h.objs.size + 3 := by rw [Heap.size_push, z2]
  have z4 : zpA h o1 o2 = h.objs.size + 4 := by unfold zpA; rw [Heap.size_push, z3]
  have g5 : (zpH h o1 o2).get? (zpA h o1 o2) = some _ := Heap.get?_push_size _ rfl
  have g4 : (zpH h o1 o2).get? (((h.push o1).push o2).push { cls := .type "tuple", data := .seq #[.ref h.objs.size, .ref (h.push o1).objs.size] }).objs.size = some _ := Heap.get?_push_of_some _ (Heap.get?_push_size _ rfl)
  have g3 : (zpH h o1 o2).get? ((h.push o1).push o2).objs.size = some _ := Heap.get?_push_of_some _ (Heap.get?_push_of_some _ (Heap.get?_push_size _ rfl))
  have g2 : (zpH h o1 o2).get? (h.push o1).objs.size = some o2 := Heap.get?_push_of_some _ (Heap.get?_push_of_some _ (Heap.get?_push_of_some _ (Heap.get?_push_size _ f2)))
  have g1 : (zpH h o1 o2).get? h.objs.size = some o1 := Heap.get?_push_of_some _ (Heap.get?_push_of_some _ (Heap.get?_push_of_some _ (Heap.get?_push_of_some _ (Heap.get?_push_size _ f1))))
  rw [z4, z2, z3] at g5
  rw [z1, z2] at g3
  rw [z3] at g4
  rw [z1] at g2
  exact ⟨z4, by rw [Heap.size_push]; exact congrArg (· + 1) z4, g5, g3, g4, g1, g2, fun c o x => Heap.get?_push_of_some _ (Heap.get?_push_of_some _ (Heap.get?_push_of_some _ (Heap.get?_push_of_some _ (Heap.get?_push_of_some _ x))))⟩

theorem fresh_at (h : Heap) (k : Nat) : h.get? (h.objs.size + k) = none := Heap.get?_none_of_le (Nat.le_add_right _ k)

theorem neA {a b : Nat} (h : @Ne Nat a b) : @Ne Addr a b := h
theorem nm1 {a b : Nat} (h : @Ne Nat a b) : @Not (@Membership.mem Addr (List Addr) _ [b] a) := fun e => h (List.mem_singleton.mp e)
theorem nm2 {a b c : Nat} (h : @Ne Nat a b) (k : @Ne Nat a c) : @Not (@Membership.mem Addr (List Addr) _ [b, c] a) := fun e => by
  rcases List.mem_cons.mp e with e | e
  · exact h e
  · exact k (List.mem_singleton.mp e)
theorem lt_eq {b a n : Nat} (e : b = a) (h : @LT.lt Nat _ a n) : @LT.lt Addr _ b n := by rw [e]; exact h
/-- the signs of an ASCII text, drawn -/
def SignOf (x : Str) (i : Nat) (v : Value) : Prop := ∃ c u, x.cps[i]? = some c ∧ v = .str ⟨#[c]⟩ u

theorem zip_ss {prog : Program} {w : World} {h : Heap} (x y : Str) (t u : Tok) :
    ZipAt prog w h (zpH h (sIter x t) (sIter y u)) (zpA h (sIter x t) (sIter y u)) (min x.cps.size y.cps.size) (SignOf x) (SignOf y) := by
  obtain ⟨e4, e5, gz, gTI, gTO, g1, g2, hk⟩ := zp_facts h (sIter x t) (sIter y u) rfl rfl
  rw [e4]
  refine ⟨h.objs.size + 2, h.objs.size + 3, h.objs.size, h.objs.size + 1, [h.objs.size], [h.objs.size + 1], _, _, _, _, rfl, ?_, fun A hA => Draws.strAscii hA _ x t, fun A hA => Draws.strAscii hA _ y u, ⟨gz, gTI, ⟨_, _, gTO⟩, ⟨_, g1, rfl, rfl⟩, ⟨_, g2, rfl, rfl⟩⟩, ?_, ?_, hk⟩
  · constructor <;> first | (refine neA ?_; omega) | (refine nm1 ?_; omega)
  · intro b hb
    rw [e5]
    simp only [List.mem_cons, List.mem_append, List.not_mem_nil, or_false] at hb
    rcases hb with e | e | e | e | e | e | e <;> (refine lt_eq e ?_; omega)
  · intro b hb
    simp only [List.mem_cons, List.not_mem_nil, or_false] at hb
    rcases hb with rfl | rfl | rfl | rfl
    · exact fresh_at h 4
    · exact fresh_at h 3
    · exact fresh_at h 0
    · exact fresh_at h 1
theorem zip_sl {prog : Program} {w : World} {h : Heap} (x : Str) (t : Tok) (l : Addr) (ys : Array Value) (hl : h.IsList l ys) :
    ZipAt prog w h (zpH h (sIter x t) (lIter l)) (zpA h (sIter x t) (lIter l)) (min x.cps.size ys.size) (SignOf x) (fun i v => ys[i]? = some v) := by
  obtain ⟨e4, e5, gz, gTI, gTO, g1, g2, hk⟩ := zp_facts h (sIter x t) (lIter l) rfl rfl
  rw [e4]
  have hlt : l < h.objs.size := by obtain ⟨_, e, _⟩ := hl; exact Heap.lt_size e
  have hlt' : @LT.lt Nat _ l h.objs.size := hlt
  have hne : @Ne Nat l (h.objs.size + 1) := by omega
  refine ⟨h.objs.size + 2, h.objs.size + 3, h.objs.size, h.objs.size + 1, [h.objs.size], [h.objs.size + 1, l], _, _, _, _, rfl, ?_, fun A hA => Draws.strAscii hA _ x t, fun A hA => Draws.list hA (h.objs.size + 1) l hne ys, ⟨gz, gTI, ⟨_, _, gTO⟩, ⟨_, g1, rfl, rfl⟩, ⟨⟨_, g2, rfl, rfl⟩, hl.at fun o e => hk _ o e⟩⟩, ?_, ?_, hk⟩
  · constructor <;> first | (refine neA ?_; omega) | (refine nm1 ?_; omega) | (refine nm2 ?_ ?_ <;> omega)
  · intro b hb
    rw [e5]
    simp only [List.mem_cons, List.mem_append, List.not_mem_nil, or_false] at hb
    rcases hb with e | e | e | e | e | e | e | e <;> (refine lt_eq e ?_; omega)
  · intro b hb
    simp only [List.mem_cons, List.not_mem_nil, or_false] at hb
    rcases hb with rfl | rfl | rfl | rfl
    · exact fresh_at h 4
    · exact fresh_at h 3
    · exact fresh_at h 0
    · exact fresh_at h 1
end Mine

/-! PQ -/
namespace Mine
section
variable {prog : Program} {w : World} {A : Around} {E : Value → Shared → Prop} {env : Env}

/-- what a block over a zip asks: its items' ways, its end -/
def PairSrc (prog : Program) (w : World) (A : Around) (env : Env) (scope : Scope) (cl : List (Str × Addr)) (xa xb : Str) (elt : Expr) (Q : Value → Shared → Prop) (xv : Value) (s₁ : Shared) : Prop :=
  ∃ (H0 : Heap) (z : Addr) (n : Nat) (P1 P2 : Nat → Value → Prop) (g : Nat → List Nat), xv = .ref z ∧ A.handled = none ∧ n ≤ 16777216 ∧ ZipAt prog w H0 s₁.heap z n P1 P2 ∧
    (∀ C i x y s₃ m₃ (E' : Value → Shared → Prop), i < n → P1 i x → P2 i y → s₃.heap.Ns C m₃ → m₃ xa = some x → m₃ xb = some y → (∀ b o, H0.get? b = some o → s₃.heap.get? b = some o) →
      wpAny (model prog w) A (eval elt (compEnvC scope cl C env)) (EltEnd (g i) s₃) E' s₃) ∧
    (∀ D h' tk ys, H0.get? D = none → h'.IsList D ys.toArray → StrsAre ys (((List.range n).map g).map tx) → (∀ b o, H0.get? b = some o → h'.get? b = some o) → Q (.ref D) { s₁ with heap := h', toks := tk })

theorem strs_snoc {ys : List Value} {xs : List Str} {x : Str} {t : Tok} (h : StrsAre ys xs) : StrsAre (ys ++ [.str x t]) (xs ++ [x]) := by
  induction h with
  | nil => exact .cons x t .nil
  | cons y u _ ih => exact .cons y u ih
theorem strs_len {ys : List Value} {xs : List Str} (h : StrsAre ys xs) : ys.length = xs.length := by
  induction h with
  | nil => rfl
  | cons y u _ ih => simp [ih]

theorem listComp_pair {s : Shared} {elt iter : Expr} {xa xb : Str} {pa pb tp : Pos} {kk : Nat} {scope : Scope} {cl : List (Str × Addr)} {pos : Pos} {Q : Value → Shared → Prop}
    (hclos : closureFor scope env = pure cl) (hcell : ∀ y ∈ scope.names, y.2 ≠ .cell) (hkind : scope.kind = .function)
    (hnames : ∀ y ∈ scope.names, y.2 = .local → scope.names.lookup y.1 = some .local) (hxa : scope.names.lookup xa = some .local) (hxb : scope.names.lookup xb = some .local) (hab : xa ≠ xb)
    (h : wpAny (model prog w) A (eval iter env) (PairSrc prog w A env scope cl xa xb elt Q) E s)
    (hs : ∀ x, foldedSetIterable iter env x = pure x := by intro _; rfl) :
    wpAny (model prog w) A (eval (.ListComp elt [⟨.Tuple [.Name xa pa, .Name xb pb] kk tp, iter, [], 0⟩] scope pos) env) Q E s := by
  rw [eval_ListComp]
  refine wpAny_comprehension_free (use := none) rfl hs hclos hkind hnames (wpAny_mono h (fun xv s₁ h₁ => ?_) fun _ _ e => e)
  obtain ⟨H0, z, n, P1, P2, g, rfl, hh, hsz, Z, helt, hdone⟩ := h₁
  obtain ⟨fp, wr, St, Mid, W', hst, hfp, hwr, hk0⟩ := Z.walks
  have W := W' A hh
  refine W.self 0 _ _ _ hst ?_
  refine wpAny_newObj_type (wpAny_newFunctionEnv hcell (by intro y hy; simp at hy) (fun h₁ hns₁ hsb₁ => ?_) hkind)
  dsimp only at hns₁ hsb₁ ⊢
  generalize hH2 : s₁.heap.push { cls := .type "list", dict := none, data := .seq ([] : List Value).toArray } = H2 at hns₁ hsb₁ ⊢
  have hC : H2.objs.size = s₁.heap.objs.size + 1 := by rw [← hH2, Heap.size_push]
  have hDC : s₁.heap.objs.size ≠ H2.objs.size := by rw [hC]; exact Nat.ne_of_lt (Nat.lt_succ_self _)
  have below : ∀ b, b < s₁.heap.objs.size → b ≠ H2.objs.size ∧ b ≠ s₁.heap.objs.size := fun b hb => ⟨by rw [hC]; exact Nat.ne_of_lt (Nat.lt_succ_of_lt hb), Nat.ne_of_lt hb⟩
  have hDf : s₁.heap.objs.size ∉ fp := fun hm => Nat.lt_irrefl _ (hfp _ hm)
  have hCf : H2.objs.size ∉ fp := fun hm => by have := hfp _ hm; rw [hC] at this; exact Nat.lt_irrefl _ (Nat.lt_of_succ_lt this)
  have old : ∀ b o, s₁.heap.get? b = some o → h₁.get? b = some o := fun b o e => hsb₁.extBut b o (below b (Heap.lt_size e)).1 (Heap.get?_push_of_some _ (hH2 ▸ Heap.get?_push_of_some _ e))
  have hacc : h₁.PlainList s₁.heap.objs.size #[] := ⟨_, hsb₁.extBut _ _ hDC (Heap.get?_push_of_some _ (hH2 ▸ Heap.get?_push_size _ rfl))⟩
  have hst₁ : St 0 h₁ := W.frame _ _ _ hst fun b _ o e => old b o e
  have fresh : ∀ a, s₁.heap.objs.size ≤ a → s₁.heap.get? a = none := fun a ha => Heap.get?_none_of_le ha
  have fresh0 : ∀ a, s₁.heap.objs.size ≤ a → H0.get? a = none := fun a ha => by
    cases e : H0.get? a with
    | none => rfl
    | some o => have := hk0 _ _ e; rw [fresh a ha] at this; cases this
  have hD0 := fresh0 _ (Nat.le_refl _)
  have hC0 : H0.get? H2.objs.size = none := fresh0 _ (by rw [hC]; exact Nat.le_succ _)
  have nw0 : ∀ {b : Addr} {o : Obj}, H0.get? b = some o → b ∉ wr := fun {b o} e hm => by rw [hwr b hm] at e; cases e
  have loop : ∀ s₃ : Shared, s₃ = { s₁ with heap := h₁, toks := s₁.toks + ([] : List (Str × Value)).length } →
      codeAny (model prog w) A (.compLoop (.ListComp elt [⟨.Tuple [.Name xa pa, .Name xb pb] kk tp, iter, [], 0⟩] scope pos) 0 (.ref z) (.ref s₁.heap.objs.size) (compEnvC scope cl H2.objs.size env))
        (compPost (model prog w) A E none Q (.ref s₁.heap.objs.size) H2.objs.size) s₃ := by
    rintro s₃ rfl
    refine LCp.codeAny_compLoop_pair
      (fun k s' => ∃ h' tk i ys m', s' = { s₁ with heap := h', toks := tk } ∧ i ≤ n ∧ k = n + 1 - i ∧ St i h' ∧ h'.PlainList s₁.heap.objs.size (ys : List Value).toArray ∧ h'.Ns H2.objs.size m' ∧
        StrsAre ys (((List.range i).map g).map tx) ∧ (∀ b o, H0.get? b = some o → h'.get? b = some o)) ?_ (n + 1)
      ⟨h₁, _, 0, [], _, rfl, Nat.zero_le _, rfl, hst₁, hacc, hns₁, .nil, fun b o e => old b o (hk0 b o e)⟩
    rintro k s' ⟨h', tk, i, ys, m', rfl, hi, rfl, hst', hacc', hn', hys, hk'⟩
    have hCw : H2.objs.size ∉ wr := fun hm => hCf (W.sub _ hm)
    have hDw : s₁.heap.objs.size ∉ wr := fun hm => hDf (W.sub _ hm)
    by_cases hlt : i < n
    · refine W.item i _ _ _ hlt hst' fun T vals h₂ tk₂ hPt hT hmid hk₂ => ?_
      obtain ⟨x, y, px, py, rfl⟩ := hPt
      refine W.go _ _ _ i T _ _ _ hmid fun h₃ hst₃ hk₃ => ?_
      have hT₃ : IsTup h₃ T #[x, y] := by
        obtain ⟨o, ho, hc, n', hd⟩ := hT
        exact ⟨o, hk₃ _ _ (W.apart _ _ _ hmid) ho, hc, n', hd⟩
      refine assign_Tuple_tuple hh hT₃ rfl rfl fun h₅ he => ?_
      have he' : ∀ b o, h₃.get? b = some o → h₅.get? b = some o := fun b o e => he b o (Nat.ne_of_lt (Heap.lt_size e)) e
      refine assignInOrder_cons (wpAny_assign_Name (wpAny_storeName_local (lookup_relabel_local hxa) (((hn'.at' fun o e => hk₂ _ o hCw e).at' fun o e => hk₃ _ o hCw e).at' fun o e => he' _ o e) (fun h₆ hn₆ hs₆ => ?_) (by simp [compEnvC, relabel, hkind])))
      refine assignInOrder_cons (wpAny_assign_Name (wpAny_storeName_local (lookup_relabel_local hxb) hn₆ (fun h₇ hn₇ hs₇ => ?_) (by simp [compEnvC, relabel, hkind])))
      refine assignInOrder_nil ?_
      have old3 : ∀ b o, b ≠ H2.objs.size → h₃.get? b = some o → h₇.get? b = some o := fun b o hb e => hs₇.extBut b o hb (hs₆.extBut b o hb (he' b o e))
      have old7 : ∀ b o, b ≠ H2.objs.size → b ∉ wr → h'.get? b = some o → h₇.get? b = some o := fun b o hb hw e => old3 b o hb (hk₃ b o hw (hk₂ b o hw e))
      have hst₇ : St (i + 1) h₇ := W.frame _ _ _ hst₃ fun b hb o e => old3 b o (fun q => hCf (by rw [← q]; exact hb)) e
      have hk₇ : ∀ b o, H0.get? b = some o → h₇.get? b = some o := fun b o e => old7 b o (by rintro rfl; rw [hC0] at e; cases e) (nw0 e) (hk' b o e)
      refine wpAny_mono (helt H2.objs.size i x y _ _ _ hlt px py hn₇ (by simp [hab]) (by simp) hk₇) (fun v s₄ h₄ => ?_) fun _ _ e => e
      obtain ⟨⟨t', rfl⟩, h₈, tk₈, rfl, hk₈⟩ := h₄
      have hacc₈ : h₈.PlainList s₁.heap.objs.size ys.toArray := by
        obtain ⟨n', e⟩ := hacc'
        exact ⟨n', hk₈ _ _ (old7 _ _ hDC hDw e)⟩
      have hlen : ys.length = i := by have := strs_len hys; simpa using this
      refine wpAny_list_append_plain (hsz := by rw [sizeLine_eq, List.size_toArray]; omega) hacc₈ fun h₉ hl₉ hs₉ => ?_
      refine ⟨n + 1 - (i + 1), by omega, h₉, tk₈, i + 1, ys ++ [.str (tx (g i)) t'], _, rfl, hlt, rfl, W.frame _ _ _ hst₇ fun b hb o e => hs₉.extBut b o (fun q => hDf (q ▸ hb)) (hk₈ b o e), by simpa using hl₉, (hn₇.keeps hk₈).sameBut hs₉ (Ne.symm hDC), ?_, fun b o e => hs₉.extBut b o (by rintro rfl; rw [hD0] at e; cases e) (hk₈ _ _ (hk₇ b o e))⟩
      rw [List.range_succ, List.map_append, List.map_append]
      exact strs_snoc hys
    · obtain rfl : i = n := Nat.le_antisymm hi (Nat.not_lt.mp hlt)
      refine W.done _ _ _ hst' fun h₂ tk₂ hk₂ => ?_
      refine ⟨m', hn'.at' fun o e => hk₂ _ o hCw e, fun h'' hs'' => ?_⟩
      refine hdone _ h'' tk₂ ys hD0 ?_ hys fun b o e => hs''.extBut b o (by rintro rfl; rw [hC0] at e; cases e) (hk₂ b o (nw0 e) (hk' b o e))
      obtain ⟨n', e⟩ := hacc'
      exact ⟨_, hs''.extBut _ _ hDC (hk₂ _ _ hDw e), rfl, _, rfl⟩
  exact codeAny_compStart_list (loop _ rfl) (W.self 0 _ _ _ hst₁ (loop _ rfl))

/-- the walk's rules for texts by their codes -/
theorem tx_all {l : List Nat} (h : Asc l) : (tx l).cps.all (· < 128) = true := by
  simp only [tx, List.all_toArray, List.all_eq_true, decide_eq_true_eq]
  exact h
theorem asc_one {c : Nat} (h : c < 128) : Asc [c] := fun x hx => by rw [List.mem_singleton.mp hx]; exact h
section
variable {s : Shared} {l l' : List Nat} {t u : Tok} {Q : Value → Shared → Prop}
theorem r_len (hz : l.length ≤ 16777216) (h : ∀ t' k, Q (.int (l.length : Int) t') { s with toks := k }) : wpAny (model prog w) A (call (.builtin "len") [.str (tx l) t]) Q E s := by
  refine P.len_str (by rw [tx_length]; omega) ?_
  rw [tx_length]
  exact h _ _
theorem r_isupper {c : Nat} (hc : c < 128) (h : Q (.bool (isUp c)) s) : wpAny (model prog w) A (call (.builtin "str.isupper") [.str (tx [c]) t]) Q E s := by
  refine SC.isupper ?_
  rw [tx_isupper hc]
  exact h
theorem r_upper (ha : Asc l) (hz : l.length ≤ 5592405) (h : ∀ t' k, Q (.str (tx (l.map upC)) t') { s with toks := k }) : wpAny (model prog w) A (call (.builtin "str.upper") [.str (tx l) t]) Q E s := by
  refine SCL.upper (by rw [tx_length]; exact hz) fun _ => ?_
  rw [tx_upper ha]
  exact h _ _
theorem r_lower (ha : Asc l) (hz : l.length ≤ 5592405) (h : ∀ t' k, Q (.str (tx (l.map loC)) t') { s with toks := k }) : wpAny (model prog w) A (call (.builtin "str.lower") [.str (tx l) t]) Q E s := by
  refine SCL.lower (by rw [tx_length]; exact hz) fun _ => ?_
  rw [tx_lower ha]
  exact h _ _
theorem r_add (hz : l.length + l'.length ≤ 16777216) (h : ∀ t' k, Q (.str (tx (l ++ l')) t') { s with toks := k }) : wpAny (model prog w) A (binaryOp .Add (.str (tx l) t) (.str (tx l') u)) Q E s := by
  refine SBL.add (fun t' k _ => ?_) (by rw [tx_length, tx_length, sizeLine_eq]; exact hz)
  rw [tx_append]
  exact h _ _
theorem r_iadd (hz : l.length + l'.length ≤ 16777216) (h : ∀ t' k, Q (.str (tx (l ++ l')) t') { s with toks := k }) : wpAny (model prog w) A (inplaceOp .Add (.str (tx l) t) (.str (tx l') u)) Q E s := by
  refine SBL.iadd (fun t' k _ => ?_) (by rw [tx_length, tx_length, sizeLine_eq]; exact hz)
  rw [tx_append]
  exact h _ _
theorem r_truthy {Q : Bool → Shared → Prop} (hz : l.length ≤ 16777216) (h : ∀ k, Q (!l.isEmpty) { s with toks := k }) : wpAny (model prog w) A (truthy (.str (tx l) t)) Q E s := by
  refine P.truthy_str (by rw [tx_length]; omega) ?_
  have e : (((tx l).length : Int) != 0) = !l.isEmpty := by
    rw [tx_length]
    cases l with
    | nil => rfl
    | cons a r => simp; omega
  rw [e]
  exact h _
theorem r_item {value slice : PySem.Expr} {i : Int} (h0 : 0 ≤ i) (h1 : i < l.length) (hz : l.length ≤ 16777216) (h : ∀ t' k, Q (.str (tx [l.getD i.toNat 0]) t') { s with toks := k })
    (hs : subscripted slice false (.str (tx l) t) (.int i u) = operate [.str (tx l) t, .int i u] (getItem (.str (tx l) t) (.int i u)) := by with_unfolding_all rfl)
    (ht : ∀ r, letTemporaryGo value (.str (tx l) t) r = pure () := by intro _; with_unfolding_all rfl) :
    wpAny (model prog w) A (subscriptTail value slice (.str (tx l) t) (.int i u)) Q E s := by
  refine item_str (fitsSsize_of (N := 9223372036854775808) (by omega) (by omega) (Int.le_refl _)) (by rw [tx_length]; omega) (by rw [tx_length]; exact h1) (fun _ => ?_) hs ht
  rw [tx_item h0 h1]
  exact h _ _
theorem r_eq (h : Q (.bool (l == l')) s) : wpAny (model prog w) A (compareOp .Eq (.str (tx l) t) (.str (tx l') u)) Q E s := by
  refine PyProof.Rows.eq_str ?_
  rw [tx_eq]
  exact h
end

theorem zip_map_range (a b : List Nat) (f : Nat → Nat → Nat) : (List.range (min a.length b.length)).map (fun i => [f (a.getD i 0) (b.getD i 0)]) = (List.zipWith f a b).map fun c => [c] := by
  apply List.ext_getElem
  · simp
  · intro i h1 h2
    simp at h1 h2
    have e1 : i < a.length := by omega
    have e2 : i < b.length := by omega
    simp [e1, e2]

/-- a block over a zip of two texts, an element a sign -/
theorem pair_ss {A : Around} {env : Env} {scope : Scope} {cl : List (Str × Addr)} {xa xb : Str} {elt : Expr} {s : Shared} {a b : List Nat} {t u : Tok} {Q : Value → Shared → Prop} (f : Nat → Nat → Nat) (hA : A.handled = none) (ha : Asc a) (hb : Asc b) (hsz : a.length ≤ 1000000)
    (helt : ∀ C c d u v s₃ m₃ (E' : Value → Shared → Prop), c ∈ a → d ∈ b → s₃.heap.Ns C m₃ → m₃ xa = some (.str (tx [c]) u) → m₃ xb = some (.str (tx [d]) v) → (∀ b o, s.heap.get? b = some o → s₃.heap.get? b = some o) →
      wpAny (model prog w) A (eval elt (compEnvC scope cl C env)) (EltEnd [f c d] s₃) E' s₃)
    (hdone : ∀ D h' tk ys, s.heap.get? D = none → h'.IsList D ys.toArray → StrsAre ys (((List.zipWith f a b).map fun c => [c]).map tx) → (∀ b o, s.heap.get? b = some o → h'.get? b = some o) → Q (.ref D) { s with heap := h', toks := tk }) :
    wpAny (model prog w) A (call (.type "zip") [.str (tx a) t, .str (tx b) u]) (PairSrc prog w A env scope cl xa xb elt Q) E s := by
  refine call_zipV (lays_str _ _ (tx_all ha)) (lays_str _ _ (tx_all hb)) (fun _ _ _ => trivial) trivial trivial ?_
  have sa : (tx a).cps.size = a.length := by simp [tx]
  have sb : (tx b).cps.size = b.length := by simp [tx]
  have Z := zip_ss (prog := prog) (w := w) (h := s.heap) (tx a) (tx b) t u
  rw [sa, sb] at Z
  refine ⟨s.heap, _, _, _, _, fun i => [f (a.getD i 0) (b.getD i 0)], rfl, hA, by omega, Z, ?_, ?_⟩
  · intro C i x y s₃ m₃ E' hi px py hn hx hy hk
    obtain ⟨c, u', hc, rfl⟩ := px
    obtain ⟨d, v', hd, rfl⟩ := py
    have hc' : a[i]? = some c := by simpa [tx] using hc
    have hd' : b[i]? = some d := by simpa [tx] using hd
    have e1 : a.getD i 0 = c := by simp [List.getD, hc']
    have e2 : b.getD i 0 = d := by simp [List.getD, hd']
    show wpAny _ _ _ (EltEnd [f (a.getD i 0) (b.getD i 0)] s₃) _ _
    rw [e1, e2]
    exact helt C c d u' v' s₃ m₃ E' (List.mem_of_getElem? hc') (List.mem_of_getElem? hd') hn hx hy hk
  · intro D h' tk ys hD hl hS hk
    rw [zip_map_range] at hS
    exact hdone D h' tk ys hD hl hS hk
end

/-- a call's contract in the walk's own words: the frame, the ledger stay -/
def FrCall (w : World) (f : Addr) (vs : List Value) (R : Tok → Value) : Prop :=
  ∀ (p : Program) (loose : List Str) (mean : ExcName → Option Value) (mg mb : Str → Option Value) (news : List (Addr × Obj)) (dp un : Nat) (gd : Option (List Code)) (cn : Str) (cs : Scope) (a : Addr) (ccd : Value) (cl : List (Str × Addr)) (outer : List Env) (A₀ : Around) (base h₀ : Heap) (L : Addr) (m : Str → Option Value) (s : Shared) (Q E : Value → Shared → Prop),
    Below A₀ base outer h₀ → Fr h₀ L s.heap m → (hd.heap_39 w.params).In h₀ → News h₀ L s.heap news → Top p loose mean mg mb h₀ → cs.kind = .function → dp + 10 < recursionLimit → un + 100 < cLine →
    (∀ (t : Tok) (h' : Heap) (tk' : Nat), Fr h₀ L h' m → News h₀ L h' news → Q (R t) { s with heap := h', toks := tk' }) →
      wpAny (model PySem.Challenge.rw_fe0311_01.row.prog w) (ktrTop dp un gd cn cs L a ccd cl outer) (call (.ref f) vs) Q E s
theorem FrCall.of {w : World} {f : Addr} {vs : List Value} {R : Tok → Value} (h : PureCall w f vs fun v => ∃ t, v = R t) : FrCall w f vs R := by
  intro p loose mean mg mb news dp un gd cn cs a ccd cl outer A₀ base h₀ L m s Q E B F X N T hk hd hu hret
  refine h _ _ _ _ ⟨X.keeps F.keep, p, loose, mean, mg, mb, T.keeps F.keep⟩ rfl (by show dp + 5 < _; omega) (by show un + 60 < _; omega) ?_
  rintro v s' ⟨t, rfl⟩ ⟨h', tk, rfl, hk'⟩
  exact hret t h' tk (F.keeps hk') (N.grown hk')
end Mine

/-! PC1 -/
namespace Mine
def likeC (c d : Nat) : Nat := if isUp d then upC c else c

theorem like_in : ∀ d ∈ HiS, (Builtin.Str.occurrences (Str.ofString "ABCDZ") (tx [d]) 0 (Str.ofString "ABCDZ").length 1).isEmpty = !isUp d := by decide +kernel
theorem like_find : ∀ c ∈ LoS, 0 ≤ Txt.find (Str.ofString "abcd 1z-") (tx [c]) ∧ Txt.find (Str.ofString "abcd 1z-") (tx [c]) < 8 ∧ Txt.item (Str.ofString "ABCD 1Z-") (Txt.find (Str.ofString "abcd 1z-") (tx [c])) = tx [upC c] := by decide +kernel

set_option maxHeartbeats 4000000 in
theorem like_call (w : World) (c d : Nat) (hc : c ∈ LoS) (hdS : d ∈ HiS) (t u : Tok) : PureCall w 41 [.str (tx [c]) t, .str (tx [d]) u] (fun v => ∃ t', v = .str (tx [likeC c d]) t') := by
  intro A E s Q G hA hd hu hQ
  obtain ⟨X, p, loose, mean, mg, mb, T⟩ := G
  refine wpAny_call ?_
  w_top off
  revert X; k_fill; intro X
  k_dflt (refine' enterP X T.nolimit (by omega) ?k6 ?k7 ?k9 ?kB ?_ ?c2 ?c3 ?c4 ?c5; (case k6 => k_is); (case k7 => k_is); (case k9 => exact BindsTo.of_eq rfl); (case c5 => decide); (case kB => exact locs rfl); (case c2 => exact rfl); (case c3 => exact rfl); (case c4 => exact rfl))
  intro L h₁ tk F
  have N : News s.heap L h₁ [] := News.nil
  have hF := like_find c hc
  have hI := like_in d hdS
  dsimp only
  k_steps
  · rename_i e
    rw [hI] at e
    have e' : isUp d = false := by simpa using e
    exact hQ _ _ ⟨_, by simp [likeC, e']; rfl⟩ ⟨_, _, rfl, F.keep⟩
  · rename_i e
    rw [hI] at e
    have e' : isUp d = true := by simpa using e
    refine index_or hA (fun h _ => absurd h (by omega)) (fun _ _ => ?_)
    refine item_str (by unfold fitsSsize; simp; omega) (by have : (Str.ofString "ABCD 1Z-").length = 8 := by decide +kernel
                                                           omega) (by have : (Str.ofString "ABCD 1Z-").length = 8 := by decide +kernel
                                                                      omega) (fun _ => ?_)
    exact hQ _ _ ⟨_, by simp only [likeC, e']; rw [hF.2.2]; rfl⟩ ⟨_, _, rfl, F.keep⟩
end Mine

/-! PC2 -/
namespace Mine
theorem lower_in : ∀ c ∈ HiS ++ LoS, (Builtin.Str.occurrences (Str.ofString "ABCD 1Z-") (tx [c]) 0 (Str.ofString "ABCD 1Z-").length 1).isEmpty = true → loC c = c := by decide +kernel
theorem lower_find : ∀ c ∈ HiS ++ LoS, (Builtin.Str.occurrences (Str.ofString "ABCD 1Z-") (tx [c]) 0 (Str.ofString "ABCD 1Z-").length 1).isEmpty = false → 0 ≤ Txt.find (Str.ofString "ABCD 1Z-") (tx [c]) ∧ Txt.find (Str.ofString "ABCD 1Z-") (tx [c]) < 8 ∧ Txt.item (Str.ofString "abcd 1z-") (Txt.find (Str.ofString "ABCD 1Z-") (tx [c])) = tx [loC c] := by decide +kernel

local macro_rules | `(tactic| walk_at "eval ListComp") => `(tactic| (k_here; k_dflt (refine listComp_text (by with_unfolding_all rfl) (by decide) (by rfl) (by decide) (by rfl) ?_)))
set_option maxHeartbeats 4000000 in
theorem lower_call (w : World) (l : List Nat) (hl : ∀ c ∈ l, c ∈ HiS ++ LoS) (hsz : l.length ≤ 1000000) (t : Tok) : PureCall w 34 [.str (tx l) t] (fun v => ∃ t', v = .str (tx (l.map loC)) t') := by
  intro A E s Q G hA hd hu hQ
  obtain ⟨X, p, loose, mean, mg, mb, T⟩ := G
  refine wpAny_call ?_
  w_top off
  revert X; k_fill; intro X
  k_dflt (refine' enterP X T.nolimit (by omega) ?k6 ?k7 ?k9 ?kB ?_ ?c2 ?c3 ?c4 ?c5; (case k6 => k_is); (case k7 => k_is); (case k9 => exact BindsTo.of_eq rfl); (case c5 => decide); (case kB => exact locs rfl); (case c2 => exact rfl); (case c3 => exact rfl); (case c4 => exact rfl))
  intro L h₁ tk F
  have N : News s.heap L h₁ [] := News.nil
  dsimp only
  k_steps
  refine ⟨l, _, fun c => [loC c], rfl, hA, by omega, ?_, ?_⟩
  · intro C c u s₃ m₃ E' hcl hn hm hk
    have F3 := F.keeps hk
    have N3 : News s.heap L s₃.heap [] := News.nil
    have hcS := hl c hcl
    have hI := lower_in c hcS
    have hF := lower_find c hcS
    k_steps
    · rename_i e
      have e1 := hI e
      show EltEnd [loC c] s₃ _ _
      rw [e1]
      exact EltEnd.now
    · rename_i e
      have hF := hF e
      refine index_or hA (fun h _ => absurd h (by omega)) (fun _ _ => ?_)
      refine item_str (by unfold fitsSsize; simp; omega) (by have : (Str.ofString "abcd 1z-").length = 8 := by decide +kernel
                                                             omega) (by have : (Str.ofString "abcd 1z-").length = 8 := by decide +kernel
                                                                        omega) (fun _ => ?_)
      rw [hF.2.2]
      exact EltEnd.now
  · intro D h' tk' ys hD hL' hS hk
    k_steps
    refine join_tx hL' hS (by rw [flat_one, List.length_map]; omega) fun t' k => ?_
    rw [flat_one]
    exact hQ _ _ ⟨_, rfl⟩ ⟨_, _, rfl, fun b o x => hk b o (F.keep b o x)⟩
end Mine

/-! PC3 -/
namespace Mine
def tabL : List Nat := [65, 98, 32, 67, 100, 66, 49, 45, 68]
def sgC (y k : Int) : Nat := tabL.getD ((y + k * (y.fmod 5 + 1)).fmod 9).toNat 0
def sgL (y : Int) (n : Nat) : List Nat := (List.range n).map fun (k : Nat) => sgC y (k : Int)
theorem tab_tx : Str.ofString "Ab CdB1-D" = tx tabL := by decide +kernel
theorem tab_item (i : Int) : Txt.item (Str.ofString "Ab CdB1-D") (i.fmod 9) = tx [tabL.getD (i.fmod 9).toNat 0] := by
  rw [tab_tx]
  exact tx_item (Int.fmod_nonneg_of_pos i (by decide)) (Int.fmod_lt_of_pos i (by decide))
theorem range_sg (y : Int) (n : Nat) : (rangeKs 0 n).map (fun k => sgC y k) = sgL y n := by
  simp only [rangeKs, sgL, List.map_map]
  apply List.map_congr_left
  intro k _
  show sgC y (0 + (k : Int)) = _
  rw [Int.zero_add]
theorem strs_carried {ys : List Value} {xs : List Str} : CarriedAll ys (xs.map PyData.str) → StrsAre ys xs := by
  induction xs generalizing ys with
  | nil => intro h; cases h; exact .nil
  | cons x r ih =>
    intro h
    cases h with
    | cons hc hr => cases hc with
      | str _ t => exact .cons x t (ih hr)
local macro_rules | `(tactic| walk_at "filler") => `(tactic| skip)
local macro_rules | `(tactic| walk_at "CompSrc") => `(tactic| refine Mine.halt ?_)
set_option maxHeartbeats 4000000 in
theorem signs_call (w : World) (y n : Int) (hn : n = 1 ∨ n = 2 ∨ n = 3) (t u : Tok) : PureCall w 29 [.int y t, .int n u] (fun v => ∃ t', v = .str (tx (sgL y n.toNat)) t') := by
  intro A E s Q G hA hd hu hQ
  obtain ⟨h9, dp, fr, gs, un⟩ := A
  cases hA
  obtain ⟨X, p, loose, mean, mg, mb, T⟩ := G
  refine wpAny_call ?_
  w_top off
  revert X; k_fill; intro X
  k_dflt (refine' enterC X T.nolimit (by show dp < _; have : dp + 5 < recursionLimit := hd; omega) ?k6 ?k7 ?k9 ?kB ?kN ?_ ?c2 ?c3 ?c4; (case k6 => k_is); (case k7 => k_is); (case k9 => exact BindsTo.of_eq rfl); (case kB => exact rfl); (case kN => decide); (case c2 => exact rfl); (case c3 => exact rfl); (case c4 => exact rfl))
  intro L h₁ tk cells F N Y
  have hY := CellsAre.one Y
  obtain ⟨o', hE', d1'⟩ := hY
  subst hE'
  dsimp only
  rcases hn with rfl | rfl | rfl
  all_goals k_steps
  all_goals (
    unfold Mine.Halt
    refine LCg.CompSrc.range rfl (by k_asm) (by k_asm) (by assumption) (by decide) rfl (by decide) ?_
    intro g'
    refine kct_range (fun k => tx [sgC y k]) ?_ ?_
    · intro k t' I oI C oC D m₂ ys h tk' E' h0 h1 hC hx F' N' off ne mk
      simp only [LCg.Off3, and_true] at off
      dsimp only
      k_steps
      exact ⟨rfl, _, by rw [tab_item]; rfl⟩
    · unfold KPfDone
      intro ys hc _
      intro D h tk' F' N' _
      have hL9 : h.IsList D ys.toArray := ⟨LCg.lst ys, (N' _ (.head _)).1, rfl, ys.length, rfl⟩
      have hS := strs_carried (by rw [List.map_map]; exact hc) (xs := (rangeKs 0 _).map fun k => tx [sgC y k])
      clear hc
      k_steps
      refine join_tx (ls := (rangeKs 0 _).map fun k => [sgC y k]) hL9 (by rw [List.map_map]; exact hS) (by rw [flat_one]; simp [rangeKs]) fun t' k => ?_
      rw [flat_one, range_sg]
      exact hQ _ _ ⟨_, rfl⟩ ⟨_, _, rfl, F'.keep⟩)
end Mine

/-! PC4 -/
namespace Mine
section
local macro_rules | `(tactic| walk_at "call builtin:len") => `(tactic| ((with_reducible refine r_len ?hz ?_); (case hz => omega); intro _ _))
local macro_rules | `(tactic| walk_at "eval ListComp") => `(tactic| (k_here; k_dflt (refine listComp_pair (by with_unfolding_all rfl) (by decide) (by rfl) (by decide) (by rfl) (by rfl) (by decide) ?_)))
local macro_rules | `(tactic| walk_at "call type:zip") => `(tactic| refine Mine.halt ?_)
local macro_rules | `(tactic| walk_at "call builtin:str.isupper") => `(tactic| (refine r_isupper (by assumption) ?_))
local macro_rules | `(tactic| walk_at "call builtin:str.upper") => `(tactic| ((refine r_upper (asc_one (by assumption)) (by simp) ?_); intro _ _))
local macro_rules | `(tactic| walk_at "call builtin:str.lower") => `(tactic| ((refine r_lower (asc_one (by assumption)) (by simp) ?_); intro _ _))
set_option maxHeartbeats 4000000 in
theorem matching_call (w : World) (a b : List Nat) (ha : Asc a) (hb : Asc b) (hab : a.length = b.length) (hsz : a.length ≤ 1000000) (t u : Tok) : PureCall w 19 [.str (tx a) t, .str (tx b) u] (fun v => ∃ t', v = .str (tx (List.zipWith castC a b)) t') := by
  intro A E s Q G hA hd hu hQ
  obtain ⟨h9, dp, fr, gs, un⟩ := A
  cases hA
  obtain ⟨X, p, loose, mean, mg, mb, T⟩ := G
  refine wpAny_call ?_
  w_top off
  revert X; k_fill; intro X
  k_dflt (refine' enterP X T.nolimit (by show dp < _; have : dp + 5 < recursionLimit := hd; omega) ?k6 ?k7 ?k9 ?kB ?_ ?c2 ?c3 ?c4 ?c5; (case k6 => k_is); (case k7 => k_is); (case k9 => exact BindsTo.of_eq rfl); (case c5 => decide); (case kB => exact locs rfl); (case c2 => exact rfl); (case c3 => exact rfl); (case c4 => exact rfl))
  intro L h₁ tk F
  have N : News s.heap L h₁ [] := News.nil
  dsimp only
  k_steps
  · exfalso
    rename_i e _ _ _ _ _
    omega
  · unfold Mine.Halt
    refine pair_ss castC rfl ha hb hsz ?_ ?_
    · intro C c d u' v' s₃ m₃ E' hc hd' hn hx hy hk
      have F3 := F.keeps hk
      have N3 : News s.heap L s₃.heap [] := News.nil
      have hc1 : c < 128 := ha c hc
      have hd1 : d < 128 := hb d hd'
      k_steps
      · rename isUp c = true => e
        have e2 : [castC c d] = List.map upC [d] := by simp [castC, e]
        rw [e2]
        exact ⟨⟨_, rfl⟩, _, _, rfl, fun _ _ x => x⟩
      · rename isUp c = false => e
        have e2 : [castC c d] = List.map loC [d] := by simp [castC, e]
        rw [e2]
        exact ⟨⟨_, rfl⟩, _, _, rfl, fun _ _ x => x⟩
    · intro D h' tk' ys hD hL' hS hk
      k_steps
      refine join_tx hL' hS (by rw [flat_one]; simp; omega) fun t' k => ?_
      rw [flat_one, List.map_id']
      exact hQ _ _ ⟨_, rfl⟩ ⟨_, _, rfl, fun b o x => hk b o (F.keep b o x)⟩
end
end Mine

/-! PE -/
namespace Mine
section
variable {prog : Program} {w : World} {A₀ A : Around} {s : Shared} {base h₀ : Heap} {L : Addr} {m : Str → Option Value} {env : Env} {news : List (Addr × Obj)} {K : Frag} {p : Program} {loose : List Str} {mean : ExcName → Option Value} {mg mb : Str → Option Value}
    {R : Result → Shared → Prop} {name qual : Str} {params : Arguments} {body : List Stmt} {scope : Scope} {dV kV doc pm cdv ct oc : Value} {an od : Option Addr} {osl : Array (Option Value)} {f : Addr} {args : Args} {binds : List (Str × Value)}

/-- a def that catches, called from a frame that may own cells -/
theorem code_defX0 (B : Below A₀ base [] h₀) (F : Fr h₀ L s.heap m) (X₀ : K.In h₀) (N : News h₀ L s.heap news) (T : Top p loose mean mg mb h₀) (hA : A.frames = some [env]) (hf : env.frame = some L) (hke : env.scope.kind = .function)
    (ho : K.lookup f = some ⟨oc, od, .func (fnOf name qual params body scope dV kV doc pm an cdv ct), osl⟩) (hcd : codeIn K cdv qual = true) (hroom : A.depth < recursionLimit)
    (hbind : BindsTo s (fnOf name qual params body scope dV kV doc pm an cdv ct) args binds) (hloc : ∀ y ∈ binds, scope.names.lookup y.1 = some .local)
    (h : ∀ g L' h₁, Fr h₀ L g m → Fr g L' h₁ (fun y => binds.reverse.lookup y) → News g L' h₁ news → Below A base [env] g → K.In g → Top p loose mean mg mb g → KtsDicts ([env].filterMap (·.frame)) g →
      wpAny (model prog w) (A.deeper (envOf qual scope L' f cdv)) (execs body (envOf qual scope L' f cdv))
        (fun fl s' => LeaveS0 ([env].filterMap (·.frame)) h₀ L m g R (match fl with | .ret v => v | _ => .none) s')
        (fun e s' => wpAny (model prog w) (A.deeper (envOf qual scope L' f cdv)) (leaving (envOf qual scope L' f cdv) e) (fun _ s'' => R (.error e) s'') (fun e' s'' => R (.error e') s'') s')
        { s with heap := h₁, toks := s.toks + binds.length })
    (hco : scope.isCoroutine = false) (hgen : scope.isGenerator = false) (hk : scope.kind = .function)
    (hcell : ∀ x ∈ scope.names, x.2 ≠ .cell) : codeAny (model prog w) A (.call (.ref f) args) R s := by
  have X := X₀.keeps F.keep
  have hfs : [env].filterMap (·.frame) = [L] := by simp [hf]
  obtain ⟨FG, BG, st, _⟩ := groundX (R := R) B F N hA hf hke
  obtain ⟨oL, es, ep, hLg, hLd, hLk, hLf⟩ := FG.ns
  refine codeAny_call_def (fd := fnOf name qual params body scope dV kV doc pm an cdv ct) (body := body) (binds := binds) hroom (X _ _ ho) rfl (T.nolimit.keeps F.keep) (codeRec_of X hcd) rfl hbind hcell hloc (fun h₁ hns hk₁ => ?_) hco hgen hk
  refine wpAny_mono (h _ s.heap.objs.size h₁ FG ⟨hns, fun b o e => hk₁ b o (of_hideAll _ e), Nat.le_of_eq (hideAll_size _ _)⟩
    (fun p hp => ⟨hk₁ _ _ (N p hp).1, Nat.ne_of_lt (Heap.lt_size (N p hp).1), hideAll_none _ (List.mem_map_of_mem hp)⟩) BG (X₀.keeps st) (T.keeps st) (fun b hb => by
      rw [hfs] at hb
      rw [List.mem_singleton.mp hb]
      exact ⟨oL, es, ep, hLg, hLd⟩)) (fun fl s' hl => ?_) fun _ _ y => y
  obtain ⟨g', L', m', news', T', F', N', k⟩ := hl
  rw [hfs] at T'
  have nL₀ : h₀.get? L = none := kts_self F
  obtain ⟨sl, hs⟩ := T'.up hLg
  refine k ⟨⟨_, es, ep, F'.keep _ _ hs, hLd, hLk, hLf⟩, fun b o e => F'.keep b o (T'.other b o (st b o e) (fun q => by
    rw [List.mem_singleton.mp q, nL₀] at e
    cases e)), F.above⟩ fun p hp => ⟨(N' p hp).1, fun q => ?_, ?_⟩
  · have := (N' p hp).2.2; rw [q, hs] at this; cases this
  · cases q : h₀.get? p.1 with
    | none => rfl
    | some o =>
      obtain ⟨sl', hs'⟩ := T'.up (st _ _ q)
      have := (N' p hp).2.2
      rw [hs'] at this
      cases this
end

theorem PureCall.use {w : World} {f : Addr} {vs : List Value} {R : Value → Prop} (C : PureCall w f vs R) {h₀ : Heap} {L : Addr} {m : Str → Option Value} {news : List (Addr × Obj)} {A : Around} {s : Shared} {Q E : Value → Shared → Prop} {p : Program} {loose : List Str} {mean : ExcName → Option Value} {mg mb : Str → Option Value}
    (X : (hd.heap_39 w.params).In h₀) (T : Top p loose mean mg mb h₀) (F : Fr h₀ L s.heap m) (N : News h₀ L s.heap news) (hA : A.handled = none) (hd : A.depth + 5 < recursionLimit) (hu : A.units + 60 < cLine)
    (h : ∀ v h' tk, R v → Fr h₀ L h' m → News h₀ L h' news → Q v { s with heap := h', toks := tk }) : wpAny (model PySem.Challenge.rw_fe0311_01.row.prog w) A (call (.ref f) vs) Q E s := by
  refine C A E s Q ⟨X.keeps F.keep, p, loose, mean, mg, mb, T.keeps F.keep⟩ hA hd hu ?_
  rintro v s' hR ⟨h', tk, rfl, hk⟩
  exact h v h' tk hR (F.keeps hk) (N.grown hk)
/-- a call's contract as the law's own frame makes it -/
def LawCall (w : World) (f : Addr) (vs : List Value) (R : Tok → Value) : Prop :=
  ∀ (p : Program) (loose : List Str) (mean : ExcName → Option Value) (mg mb : Str → Option Value) (news : List (Addr × Obj)) (env : Env) (h₀ : Heap) (L : Addr) (m : Str → Option Value) (s : Shared) (Q E : Value → Shared → Prop),
    Below callerA h₀ [] h₀ → Fr h₀ L s.heap m → (hd.heap_39 w.params).In h₀ → News h₀ L s.heap news → Top p loose mean mg mb h₀ → env.frame = some L → env.scope.kind = .function →
    (∀ (t : Tok) (h' : Heap) (tk' : Nat), Fr h₀ L h' m → News h₀ L h' news → Q (R t) { s with heap := h', toks := tk' }) →
      wpAny (model PySem.Challenge.rw_fe0311_01.row.prog w) (callerA.deeper env) (call (.ref f) vs) Q E s
end Mine

/-! PC5 -/
namespace Mine
section
local macro_rules | `(tactic| walk_at "filler") => `(tactic| skip)
local macro_rules | `(tactic| walk_at "filler") => `(tactic| skip)
local macro_rules | `(tactic| walk_at "filler") => `(tactic| skip)
local macro_rules | `(tactic| walk_at "filler") => `(tactic| skip)
local macro_rules | `(tactic| walk_at "filler") => `(tactic| skip)
local macro_rules | `(tactic| walk_at "call builtin:len") => `(tactic| ((with_reducible refine r_len ?hz ?_); (case hz => omega); intro _ _))
local macro_rules | `(tactic| walk_at "eval ListComp") => `(tactic| refine Mine.halt ?_)
set_option maxHeartbeats 4000000 in
theorem outcome_ne (w : World) (a b : List Nat) (hab : a.length ≠ b.length) (hsa : a.length ≤ 1000000) (hsb : b.length ≤ 1000000) (t u : Tok) :
    LawCall w 48 [.str (tx a) t, .str (tx b) u] (fun t => .str (Str.ofString "refused") t) := by
  unfold LawCall
  k_fill
  intro p loose mean mg mb news env h₀ L m s Q E B F X N T hf hke hQ
  refine wpAny_call ?_
  (refine' code_defX0 ?k1 ?k2 ?k3 ?k4 ?k5 ?kA ?kF ?kK ?k6 ?k7 ?k8 ?k9 ?kB ?_ ?c2 ?c3 ?c4 ?c5; (case kA => exact rfl); (case kF => exact hf); (case kK => exact hke); (case k1 => exact B); (case k2 => exact F); (case k3 => exact X); (case k4 => exact N); (case k5 => exact T); (case k6 => k_is); (case k7 => k_is); (case k8 => k_room); (case k9 => exact BindsTo.of_eq rfl); (case c5 => decide); (case kB => exact locs rfl); (case c2 => exact rfl); (case c3 => exact rfl); (case c4 => exact rfl))
  intro g' L' h' FG' F' N' B' X' T' D'
  dsimp only
  (try k_lift B')
  (try k_fold)
  w_top off
  k_steps
  · exact hQ _ _ _ (by assumption) (by assumption)
  · exfalso
    rename_i e
    omega
end
section
local macro_rules | `(tactic| walk_at "filler") => `(tactic| skip)
local macro_rules | `(tactic| walk_at "filler") => `(tactic| skip)
local macro_rules | `(tactic| walk_at "filler") => `(tactic| skip)
local macro_rules | `(tactic| walk_at "filler") => `(tactic| skip)
local macro_rules | `(tactic| walk_at "filler") => `(tactic| skip)
local macro_rules | `(tactic| walk_at "filler") => `(tactic| skip)
local macro_rules | `(tactic| walk_at "filler") => `(tactic| skip)
local macro_rules | `(tactic| walk_at "call ref") => `(tactic| refine Mine.halt ?_)
set_option maxHeartbeats 4000000 in
theorem outcome_eq (w : World) (a b : List Nat) (ha : Asc a) (hb : Asc b) (hab : a.length = b.length) (hsa : a.length ≤ 1000000) (t u : Tok) :
    LawCall w 48 [.str (tx a) t, .str (tx b) u] (fun t => .str (tx (List.zipWith castC a b)) t) := by
  unfold LawCall
  k_fill
  intro p loose mean mg mb news env h₀ L m s Q E B F X N T hf hke hQ
  refine wpAny_call ?_
  (refine' code_defX0 ?k1 ?k2 ?k3 ?k4 ?k5 ?kA ?kF ?kK ?k6 ?k7 ?k8 ?k9 ?kB ?_ ?c2 ?c3 ?c4 ?c5; (case kA => exact rfl); (case kF => exact hf); (case kK => exact hke); (case k1 => exact B); (case k2 => exact F); (case k3 => exact X); (case k4 => exact N); (case k5 => exact T); (case k6 => k_is); (case k7 => k_is); (case k8 => k_room); (case k9 => exact BindsTo.of_eq rfl); (case c5 => decide); (case kB => exact locs rfl); (case c2 => exact rfl); (case c3 => exact rfl); (case c4 => exact rfl))
  intro g' L' h' FG' F' N' B' X' T' D'
  dsimp only
  (try k_lift B')
  (try k_fold)
  w_top off
  k_steps
  unfold Mine.Halt
  refine (matching_call w a b ha hb hab hsa t u).use X' T' F' N' rfl (by simp only [depth_deeper, depth_caller]; decide) (by simp only [units_deeper, units_caller]; decide) ?_
  intro v h₁ tk hv F₁ N₁
  obtain ⟨t', rfl⟩ := hv
  k_steps
  exact hQ _ _ _ (by assumption) (by assumption)
end
end Mine

/-! PL -/
namespace Mine
section
variable {prog : Program} {w : World} {A : Around} {E : Value → Shared → Prop} {s : Shared} {env : Env} {h₀ : Heap} {target : Expr} {body : List Stmt} {Q : Flow → Shared → Prop}

/-- a turn's end as a loop's step -/
theorem step_of {wr : List Addr} {own : List (Addr × Obj)} {Jn : (Str → Option Value) → List (Addr × Obj) → Prop} {s₁ s₂ : Shared} {f : Flow} {L : Addr} (hw : ∀ b ∈ wr, ∃ o, (b, o) ∈ own) (p : InvPostG h₀ L Jn own s₁ Q f s₂) :
    LoopStepV h₀ L wr own Jn s₁ (fun v s' => Q (.ret v) s') (fun s' => Q .next s') f s₂ := by
  have fin : InvEndG h₀ L Jn own s₁ s₂ → LoopStepU h₀ L wr own Jn s₁ .next s₂ := by
    rintro ⟨h', tk, m', news', nx, e, F', N', hn, ho, ha, hm⟩
    refine ⟨rfl, h', tk, m', nx, e, F', fun p hp => N' p ((List.mem_append.mp hp).elim (ho p) (hn p)), fun p hp hq => ?_, hm⟩
    obtain ⟨o, hbo⟩ := hw _ hq
    exact ha _ hbo p.1 (List.mem_map.mpr ⟨p, hp, rfl⟩) rfl
  cases f with
  | ret v => exact p
  | brk => exact p
  | next => exact fin p
  | cont => exact fin p

/-- a loop over a list of the ledger's, its items any; J's ledger leaves the list out -/
theorem listTurns {l : Addr} {vs : List Value} {nn : Nat} {m₀ : Str → Option Value} {news nx₀ : List (Addr × Obj)} (J : Nat → (Str → Option Value) → List (Addr × Obj) → Prop)
    (hh : A.handled = none) (F : Fr h₀ env.locals s.heap m₀) (N : News h₀ env.locals s.heap news) (hl : (l, listOf vs.toArray nn) ∈ news) (hsub : ∀ p ∈ nx₀, p ∈ news) (hJl : ∀ i m nx, J i m nx → ∀ p ∈ nx, p.1 ≠ l) (hj : J 0 m₀ nx₀)
    (turn : ∀ i v m₁ nx h tk own, vs[i]? = some v → J i m₁ nx → OwnOff own (nx.map (·.1)) → Fr h₀ env.locals h m₁ → News h₀ env.locals h (nx ++ own) → (l, listOf vs.toArray nn) ∈ own →
      wpAny (model prog w) A (assign target env v) (fun _ s₃ => wpAny (model prog w) A (execs body env) (InvPostG h₀ env.locals (J (i + 1)) own { s with heap := h, toks := tk } Q) E s₃) E { s with heap := h, toks := tk })
    (done : ∀ m₁ nx h tk, J vs.length m₁ nx → Fr h₀ env.locals h m₁ → News h₀ env.locals h nx → News h₀ env.locals h [(l, listOf vs.toArray nn)] → Q .next { s with heap := h, toks := tk }) :
    wpAny (model prog w) A (pyIter (.ref l)) (fun it s₂ => TurnsAt prog w A h₀ env target body Q E it s₂) E s := by
  have hol : s.heap.get? l = some (listOf vs.toArray nn) := (N _ hl).1
  have hls : s.heap.IsList l vs.toArray := ⟨_, hol, rfl, nn, rfl⟩
  have hne : l ≠ s.heap.objs.size := Nat.ne_of_lt (Heap.lt_size hol)
  refine wpAny_pyIter_list hls ?_
  have W := Walks.list (prog := prog) (w := w) hh s.heap.objs.size l hne vs.toArray
  have hlen : vs.toArray.size = vs.length := by simp
  rw [hlen] at W
  have nI : ∀ {p : Addr × Obj} {nx : List (Addr × Obj)}, p ∈ nx → (∀ p ∈ nx, p.1 ∉ [s.heap.objs.size]) → p.1 ≠ s.heap.objs.size := fun hp h e => h _ hp (List.mem_singleton.mpr e)
  let J' : Nat → (Str → Option Value) → List (Addr × Obj) → Prop := fun i m nx => ∃ nx', nx = (l, listOf vs.toArray nn) :: nx' ∧ J i m nx'
  have W' : KTurns prog w A target s.heap.objs.size [s.heap.objs.size, l] [s.heap.objs.size] vs.length (fun i v _ => vs.toArray[i]? = some v) _ _ := KTurns.ofWalks W fun i v s' Q' E' st hQ' => letGo_listiter st.1 hQ'
  refine ⟨_, _, _, vs.length, _, _, _, m₀, (l, listOf vs.toArray nn) :: nx₀, J', rfl, W', ?_, ?_, ?_, ⟨⟨_, Heap.get?_push_size _ rfl, rfl, rfl⟩, hls.at fun o e => Heap.get?_push_of_some _ e⟩, F.push _, (fun p hp => ?_), ⟨nx₀, rfl, hj⟩, ?_, ?_⟩
  · intro hm
    rcases List.mem_cons.mp hm with e | hm
    · exact absurd F.ns.lt (e ▸ Nat.lt_irrefl _)
    · exact (N _ hl).2.1 ((List.mem_singleton.mp hm).symm)
  · intro b hb
    rw [List.mem_singleton.mp hb]
    exact next_is_new F
  · intro p hp hI
    have hp' : p ∈ news := by
      rcases List.mem_cons.mp hp with rfl | hp
      · exact hl
      · exact hsub p hp
    exact absurd (Heap.lt_size (N p hp').1) ((List.mem_singleton.mp hI) ▸ Nat.lt_irrefl _)
  · have hp' : p ∈ news := by
      rcases List.mem_cons.mp hp with rfl | hp
      · exact hl
      · exact hsub p hp
    exact ⟨Heap.get?_push_of_some _ (N p hp').1, (N p hp').2⟩
  · rintro i v m₁ _ h₁ tk₁ own hin hP ⟨nx, rfl, hJ⟩ hoff hown hget hfp hst F₁ N₁
    have hI0 : h₀.get? s.heap.objs.size = none := next_is_new F
    obtain ⟨⟨oI, hoI, _⟩, _⟩ := id hst
    have hIown : (s.heap.objs.size, oI) ∈ own := hfp _ (List.mem_cons.mpr (.inl rfl)) hI0 _ hoI
    have hlo : h₁.get? l = some (listOf vs.toArray nn) := (N₁ _ (List.mem_append.mpr (.inr (.head _)))).1
    have hlown : (l, listOf vs.toArray nn) ∈ own := hfp _ (by simp) (N _ hl).2.2 _ hlo
    have hsep : OwnOff own (nx.map (·.1)) := by
      intro p hp b hb e
      obtain ⟨q, hq, rfl⟩ := List.mem_map.mp hb
      rcases List.mem_cons.mp (hown p hp) with h1 | h1
      · exact hoff q (.tail _ hq) (List.mem_singleton.mpr (e ▸ h1))
      · exact hJl _ _ _ hJ q hq (e ▸ List.mem_singleton.mp h1)
    have N₂ : News h₀ env.locals h₁ (nx ++ own) := fun p hp => N₁ p ((List.mem_append.mp hp).elim (fun h => List.mem_append.mpr (.inr (.tail _ h))) fun h => List.mem_append.mpr (.inl h))
    refine wpAny_mono (turn i v m₁ nx h₁ tk₁ own (by simpa using hP) hJ hsep F₁ N₂ hlown) (fun _ s₃ h₃ => wpAny_mono h₃ (fun f s₂ p => ?_) fun _ _ e => e) fun _ _ e => e
    have fin : InvEndG h₀ env.locals (J (i + 1)) own { s with heap := h₁, toks := tk₁ } s₂ → LoopStepU h₀ env.locals [s.heap.objs.size] own (J' (i + 1)) { s with heap := h₁, toks := tk₁ } .next s₂ := by
      rintro ⟨h', tk, m', news', nx', e, F', N', hn, ho, ha, hm⟩
      refine ⟨rfl, h', tk, m', (l, listOf vs.toArray nn) :: nx', e, F', fun p hp => N' p ?_, fun p hp hq => ?_, nx', rfl, hm⟩
      · rcases List.mem_append.mp hp with hp | hp
        · exact ho p hp
        · rcases List.mem_cons.mp hp with rfl | hp
          · exact ho _ hlown
          · exact hn p hp
      · rcases List.mem_cons.mp hp with rfl | hp
        · exact hne (List.mem_singleton.mp hq)
        · exact ha _ hIown p.1 (List.mem_map.mpr ⟨p, hp, rfl⟩) (List.mem_singleton.mp hq).symm
    cases f with
    | ret v => exact p
    | brk => exact p
    | next => exact fin p
    | cont => exact fin p
  · rintro h' tk m' _ F' N' _ ⟨nx, rfl, hJ⟩
    exact done m' nx h' tk hJ F' (fun p hp => N' p (.tail _ hp)) (fun p hp => N' p (by rw [List.mem_singleton.mp hp]; exact .head _))

theorem letGo_name {M : Model} {x : Str} {px : Pos} {I : Value} {v : Value} {Q' : Unit → Shared → Prop} {s' : Shared} (h : Q' () s') : wpAny M A (letOwnedTupleGo (.Name x px) I v) Q' E s' := by
  unfold letOwnedTupleGo
  exact wpAny_pure h

/-- a loop over any walked thing whose own objects all are new -/
theorem freshTurns {I : Addr} {fp wr : List Addr} {n : Nat} {P Md : Nat → Value → Heap → Prop} {St : Nat → Heap → Prop} {H0 : Heap} {m₀ : Str → Option Value} {nx₀ : List (Addr × Obj)} (J : Nat → (Str → Option Value) → List (Addr × Obj) → Prop)
    (W : KTurns prog w A target I fp wr n P Md St) (hst : St 0 s.heap) (hlive : ∀ i h, St i h → ∀ b ∈ fp, ∃ o, h.get? b = some o) (hfp : ∀ b ∈ fp, H0.get? b = none) (hk : ∀ b o, H0.get? b = some o → s.heap.get? b = some o)
    (F : Fr h₀ env.locals H0 m₀) (N : News h₀ env.locals H0 nx₀) (hj : J 0 m₀ nx₀)
    (turn : ∀ i v m₁ nx h tk own, i < n → P i v h → J i m₁ nx → OwnOff own (nx.map (·.1)) → Fr h₀ env.locals h m₁ → News h₀ env.locals h (nx ++ own) →
      wpAny (model prog w) A (assign target env v) (fun _ s₃ => wpAny (model prog w) A (execs body env) (InvPostG h₀ env.locals (J (i + 1)) own { s with heap := h, toks := tk } Q) E s₃) E { s with heap := h, toks := tk })
    (done : ∀ m₁ nx h tk, J n m₁ nx → Fr h₀ env.locals h m₁ → News h₀ env.locals h nx → Q .next { s with heap := h, toks := tk }) :
    TurnsAt prog w A h₀ env target body Q E (.ref I) s := by
  have hL0 : ∃ o, H0.get? env.locals = some o := by obtain ⟨o, _, _, ho, _⟩ := F.ns; exact ⟨o, ho⟩
  have h0fp : ∀ b ∈ fp, h₀.get? b = none := fun b hb => by
    cases e : h₀.get? b with
    | none => rfl
    | some o => have := F.keep b o e; rw [hfp b hb] at this; cases this
  refine ⟨I, fp, wr, n, P, Md, St, m₀, nx₀, (fun i m nx => J i m nx ∧ ∀ p ∈ nx, p.1 ∉ fp), rfl, W, ?_, fun b hb => h0fp b (W.sub b hb), ?_, hst, F.keeps hk, N.grown hk, ⟨hj, ?_⟩, ?_, ?_⟩
  · intro hm
    obtain ⟨o, ho⟩ := hL0
    rw [hfp _ hm] at ho; cases ho
  · intro p hp hm
    have := (N p hp).1
    rw [hfp _ (W.sub _ hm)] at this; cases this
  · intro p hp hm
    have := (N p hp).1
    rw [hfp _ hm] at this; cases this
  · rintro i v m₁ nx h₁ tk₁ own hin hP ⟨hJ, hnx⟩ hoff hown hget hall hst₁ F₁ N₁
    have own_of : ∀ b ∈ fp, ∃ o, (b, o) ∈ own := fun b hb => by
      obtain ⟨o, ho⟩ := hlive _ _ hst₁ b hb
      exact ⟨o, hall b hb (h0fp b hb) o ho⟩
    have hsep : OwnOff own (nx.map (·.1)) := by
      intro p hp b hb e
      obtain ⟨q, hq, rfl⟩ := List.mem_map.mp hb
      exact hnx q hq (e ▸ hown p hp)
    have N₂ : News h₀ env.locals h₁ (nx ++ own) := fun p hp => N₁ p ((List.mem_append.mp hp).elim (fun h => List.mem_append.mpr (.inr h)) fun h => List.mem_append.mpr (.inl h))
    refine wpAny_mono (turn i v m₁ nx h₁ tk₁ own hin hP hJ hsep F₁ N₂) (fun _ s₃ h₃ => wpAny_mono h₃ (fun f s₂ p => ?_) fun _ _ e => e) fun _ _ e => e
    refine step_of (fun b hb => own_of b (W.sub b hb)) ?_
    have fin : InvEndG h₀ env.locals (J (i + 1)) own { s with heap := h₁, toks := tk₁ } s₂ → InvEndG h₀ env.locals (fun m nx => J (i + 1) m nx ∧ ∀ p ∈ nx, p.1 ∉ fp) own { s with heap := h₁, toks := tk₁ } s₂ := by
      rintro ⟨h', tk, m', news', nx', e, F', N', hn, ho, ha, hm⟩
      refine ⟨h', tk, m', news', nx', e, F', N', hn, ho, ha, hm, fun p hp hq => ?_⟩
      obtain ⟨o, ho'⟩ := own_of _ hq
      exact ha _ ho' p.1 (List.mem_map.mpr ⟨p, hp, rfl⟩) rfl
    cases f with
    | ret v => exact p
    | brk => exact p
    | next => exact fin p
    | cont => exact fin p
  · rintro h' tk m' nx F' N' _ ⟨hJ, _⟩
    exact done m' nx h' tk hJ F' N'

theorem rangeTurns {r : Addr} {a₀ b₀ : Int} {t₀ u₀ v₀ : Tok} {n : Nat} {x : Str} {px : Pos} {m₀ : Str → Option Value} {nx₀ : List (Addr × Obj)} (J : Nat → (Str → Option Value) → List (Addr × Obj) → Prop)
    (hh : A.handled = none) (hr : IsRange s.heap r a₀ b₀ 1 t₀ u₀ v₀) (hsmall : Builtin.Range.small a₀ b₀ 1 = true) (hsz : Builtin.Range.rangeSize a₀ b₀ 1 = (n : Int)) (F : Fr h₀ env.locals s.heap m₀) (N : News h₀ env.locals s.heap nx₀) (hj : J 0 m₀ nx₀)
    (turn : ∀ i t m₁ nx h tk own, i < n → J i m₁ nx → OwnOff own (nx.map (·.1)) → Fr h₀ env.locals h m₁ → News h₀ env.locals h (nx ++ own) →
      wpAny (model prog w) A (assign (.Name x px) env (.int (a₀ + (i : Int)) t)) (fun _ s₃ => wpAny (model prog w) A (execs body env) (InvPostG h₀ env.locals (J (i + 1)) own { s with heap := h, toks := tk } Q) E s₃) E { s with heap := h, toks := tk })
    (done : ∀ m₁ nx h tk, J n m₁ nx → Fr h₀ env.locals h m₁ → News h₀ env.locals h nx → Q .next { s with heap := h, toks := tk }) :
    wpAny (model prog w) A (pyIter (.ref r)) (fun it s₂ => TurnsAt prog w A h₀ env (.Name x px) body Q E it s₂) E s := by
  refine wpAny_pyIter_range hr hsmall ?_
  have W : Walks prog w A s.heap.objs.size [s.heap.objs.size] [s.heap.objs.size] n (fun i v => i < n ∧ ∃ t, v = .int (a₀ + i * 1) t)
      (fun i h => IsRangeIter h s.heap.objs.size (a₀ + (i : Nat) * 1) ((n : Int) - (i : Nat)) 1) := (Walks.range hh _ a₀ 1 n).bound
  refine freshTurns (H0 := s.heap) J (KTurns.ofWalks W fun i v s' Q' E' _ hQ' => letGo_name hQ') (by show IsRangeIter _ _ _ _ _; rw [hsz]; simpa using Heap.get?_push_size _ rfl) (fun i h st b hb => by rw [List.mem_singleton.mp hb]; exact ⟨_, st⟩)
    (fun b hb => by rw [List.mem_singleton.mp hb]; exact Heap.get?_none_of_le (Nat.le_refl _)) (fun b o e => Heap.get?_push_of_some _ e) F N hj ?_ done
  rintro i v m₁ nx h tk own hi ⟨_, t, rfl⟩ hJ hoff F₁ N₁
  rw [Int.mul_one]
  exact turn i t m₁ nx h tk own hi hJ hoff F₁ N₁

theorem zipTurns {a b : List Nat} {t u : Tok} {xa xb : Str} {pa pb tp : Pos} {kk : Nat} {m₀ : Str → Option Value} {nx₀ : List (Addr × Obj)} (J : Nat → (Str → Option Value) → List (Addr × Obj) → Prop)
    (hh : A.handled = none) (ha : Asc a) (hb : Asc b) (F : Fr h₀ env.locals s.heap m₀) (N : News h₀ env.locals s.heap nx₀) (hj : J 0 m₀ nx₀)
    (hxa : env.kindOf xa = some .local) (hxb : env.kindOf xb = some .local) (hp : (env.scope.kind == .class || (env.scope.kind == .module && env.locals != env.globals)) = false)
    (turn : ∀ i c d u v m₁ nx h tk own, a[i]? = some c → b[i]? = some d → J i m₁ nx → OwnOff own (nx.map (·.1)) → Fr h₀ env.locals h (fun y => if y = xb then some (.str (tx [d]) v) else if y = xa then some (.str (tx [c]) u) else m₁ y) → News h₀ env.locals h (nx ++ own) →
      wpAny (model prog w) A (execs body env) (InvPostG h₀ env.locals (J (i + 1)) own { s with heap := h, toks := tk } Q) E { s with heap := h, toks := tk })
    (done : ∀ m₁ nx h tk, J (min a.length b.length) m₁ nx → Fr h₀ env.locals h m₁ → News h₀ env.locals h nx → Q .next { s with heap := h, toks := tk }) :
    wpAny (model prog w) A (call (.type "zip") [.str (tx a) t, .str (tx b) u]) (fun xv s₁ => wpAny (model prog w) A (pyIter xv) (fun it s₂ => TurnsAt prog w A h₀ env (.Tuple [.Name xa pa, .Name xb pb] kk tp) body Q E it s₂) E s₁) E s := by
  refine call_zipV (lays_str _ _ (tx_all ha)) (lays_str _ _ (tx_all hb)) (fun _ _ _ => trivial) trivial trivial ?_
  obtain ⟨e4, e5, gz, gTI, gTO, g1, g2, hk⟩ := zp_facts s.heap (sIter (tx a) t) (sIter (tx b) u) rfl rfl
  rw [e4]
  have D : Apart2 (s.heap.objs.size + 4) (s.heap.objs.size + 2) (s.heap.objs.size + 3) s.heap.objs.size (s.heap.objs.size + 1) [s.heap.objs.size] [s.heap.objs.size + 1] := by
    constructor <;> first | (refine neA ?_; omega) | (refine nm1 ?_; omega)
  have sa : (tx a).cps.size = a.length := by simp [tx]
  have sb : (tx b).cps.size = b.length := by simp [tx]
  have W := walksZip D (Draws.strAscii (prog := prog) (w := w) (A := A.in1) hh s.heap.objs.size (tx a) t) (Draws.strAscii (prog := prog) (w := w) (A := A.in1) hh (s.heap.objs.size + 1) (tx b) u)
  rw [sa, sb] at W
  have hst : ZSt (s.heap.objs.size + 4) (s.heap.objs.size + 2) (s.heap.objs.size + 3) s.heap.objs.size (s.heap.objs.size + 1) (fun i h => h.IsStrIter s.heap.objs.size "str_ascii_iterator" (tx a) t i) (fun i h => h.IsStrIter (s.heap.objs.size + 1) "str_ascii_iterator" (tx b) u i) 0 (zpH s.heap (sIter (tx a) t) (sIter (tx b) u)) :=
    ⟨gz, gTI, ⟨_, _, gTO⟩, ⟨_, g1, rfl, rfl⟩, ⟨_, g2, rfl, rfl⟩⟩
  refine W.self 0 _ _ _ hst ?_
  refine freshTurns (H0 := s.heap) J (KTurns.ofWalksU W) hst ?_ ?_ hk F N hj ?_ done
  · rintro i h ⟨x1, x2, ⟨_, _, x3⟩, ⟨_, x4, _⟩, ⟨_, x5, _⟩⟩ b hb
    simp only [List.mem_cons, List.mem_append, List.not_mem_nil, or_false] at hb
    rcases hb with rfl | rfl | rfl | rfl | rfl | rfl | rfl
    · exact ⟨_, x1⟩
    · exact ⟨_, x2⟩
    · exact ⟨_, x3⟩
    · exact ⟨_, x4⟩
    · exact ⟨_, x5⟩
    · exact ⟨_, x4⟩
    · exact ⟨_, x5⟩
  · intro b hb
    simp only [List.mem_cons, List.mem_append, List.not_mem_nil, or_false] at hb
    rcases hb with rfl | rfl | rfl | rfl | rfl | rfl | rfl
    · exact fresh_at _ 4
    · exact fresh_at _ 2
    · exact fresh_at _ 3
    · exact fresh_at _ 0
    · exact fresh_at _ 1
    · exact fresh_at _ 0
    · exact fresh_at _ 1
  · rintro i v m₁ nx h tk own hi ⟨T, vals, rfl, ⟨x, y, ⟨c, u', hc, rfl⟩, ⟨d, v', hd, rfl⟩, rfl⟩, hT⟩ hJ hoff F₁ N₁
    have hc' : a[i]? = some c := by simpa [tx] using hc
    have hd' : b[i]? = some d := by simpa [tx] using hd
    have hT' : IsTup h T #[.str (tx [c]) u', .str (tx [d]) v'] := hT
    refine assign_Tuple_tuple hh hT' rfl rfl fun h₅ he => ?_
    have he' : ∀ b o, h.get? b = some o → h₅.get? b = some o := fun b o e => he b o (Nat.ne_of_lt (Heap.lt_size e)) e
    refine assignInOrder_cons (wpAny_assign_Name (wpAny_storeName_local hxa (F₁.keeps he').ns (fun h₆ hn₆ hs₆ => ?_) hp))
    refine assignInOrder_cons (wpAny_assign_Name (wpAny_storeName_local hxb hn₆ (fun h₇ hn₇ hs₇ => ?_) hp))
    refine assignInOrder_nil ?_
    exact turn i c d u' v' m₁ nx h₇ _ own hc' hd' hJ hoff (((F₁.keeps he').set hn₆ hs₆).set hn₇ hs₇) (((N₁.grown he').set hs₆).set hs₇)
end
end Mine

/-! PP -/
namespace Mine
/-- a drawn piece: 0 kept, 1 dropped, 2 put in, else put in another's place -/
structure Pc where
  tag : Nat
  one : List Nat
  two : List Nat
def tagS : Nat → Str
  | 0 => Str.ofString "equal"
  | 1 => Str.ofString "delete"
  | 2 => Str.ofString "insert"
  | _ => Str.ofString "replace"
def onesI (x : Int) : List Nat := sgL (x.fdiv 4) (1 + ((x.fdiv 4).fdiv 9).fmod 3).toNat
def twosI (x : Int) : List Nat := (sgL ((x.fdiv 4).fdiv 2 + 3) (1 + ((x.fdiv 4).fdiv 3).fmod 3).toNat).map loC
def piece (x : Int) : Pc :=
  if x = -1 then ⟨0, [90], [122]⟩
  else if x.fmod 4 = 0 then ⟨0, onesI x, (onesI x).map loC⟩
  else if x.fmod 4 = 1 then ⟨1, onesI x, []⟩
  else if x.fmod 4 = 2 then ⟨2, [], twosI x⟩
  else ⟨3, onesI x, twosI x⟩
def modelI (ca : List Nat) (p : Pc) (t : Nat) : Int :=
  if p.tag = 2 then (if ca = [] ∨ ca.getLast? = some 32 then (ca.length : Int) else (ca.length : Int) - 1)
  else (ca.length : Int) + min (t : Int) ((p.one.length : Int) - 1)
def caOf (ps : List Pc) : List Nat := (ps.map (·.one)).flatten
def plOf (ps : List Pc) : List Nat := (ps.map (·.two)).flatten
def mdsOf : List Nat → List Pc → List Int
  | _, [] => []
  | ca, p :: r => (List.range p.two.length).map (fun t => modelI ca p t) ++ mdsOf (ca ++ p.one) r
structure Row where
  tag : Nat
  i1 : Nat
  i2 : Nat
  j1 : Nat
  j2 : Nat
def rowsOf : Nat → Nat → List Pc → List Row
  | _, _, [] => []
  | i, j, p :: r => ⟨p.tag, i, i + p.one.length, j, j + p.two.length⟩ :: rowsOf (i + p.one.length) (j + p.two.length) r
def rowDat (r : Row) : Dat := .tuple [.str (tagS r.tag), .int r.i1, .int r.i2, .int r.j1, .int r.j2]

theorem caOf_snoc (ps : List Pc) (p : Pc) : caOf (ps ++ [p]) = caOf ps ++ p.one := by simp [caOf]
theorem plOf_snoc (ps : List Pc) (p : Pc) : plOf (ps ++ [p]) = plOf ps ++ p.two := by simp [plOf]
theorem mdsOf_snoc (ca : List Nat) (ps : List Pc) (p : Pc) : mdsOf ca (ps ++ [p]) = mdsOf ca ps ++ (List.range p.two.length).map (fun t => modelI (ca ++ caOf ps) p t) := by
  induction ps generalizing ca with
  | nil => simp [mdsOf, caOf]
  | cons q r ih => simp only [List.cons_append, mdsOf, ih, List.append_assoc]; simp [caOf]
theorem rowsOf_snoc (i j : Nat) (ps : List Pc) (p : Pc) : rowsOf i j (ps ++ [p]) = rowsOf i j ps ++ [⟨p.tag, i + (caOf ps).length, i + (caOf ps).length + p.one.length, j + (plOf ps).length, j + (plOf ps).length + p.two.length⟩] := by
  induction ps generalizing i j with
  | nil => simp [rowsOf, caOf, plOf]
  | cons q r ih =>
    simp only [List.cons_append, rowsOf, ih]
    have e1 : (caOf (q :: r)).length = q.one.length + (caOf r).length := by simp [caOf]
    have e2 : (plOf (q :: r)).length = q.two.length + (plOf r).length := by simp [plOf]
    rw [e1, e2]
    simp only [Nat.add_assoc]

theorem tab_hi : ∀ k < 9, tabL.getD k 0 ∈ HiS := by decide
theorem sgC_hi (y k : Int) : sgC y k ∈ HiS := by
  unfold sgC
  refine tab_hi _ ?_
  have h0 := Int.fmod_nonneg_of_pos (y + k * (y.fmod 5 + 1)) (show (0 : Int) < 9 by decide)
  have h1 := Int.fmod_lt_of_pos (y + k * (y.fmod 5 + 1)) (show (0 : Int) < 9 by decide)
  omega
theorem lo_of_hi : ∀ c ∈ HiS, loC c ∈ LoS := by decide
theorem sgL_hi (y : Int) (n : Nat) : ∀ c ∈ sgL y n, c ∈ HiS := by
  intro c hc
  obtain ⟨k, _, rfl⟩ := List.mem_map.mp hc
  exact sgC_hi y k
theorem sgL_len (y : Int) (n : Nat) : (sgL y n).length = n := by simp [sgL]
theorem many_3 (z : Int) : 1 + z.fmod 3 = 1 ∨ 1 + z.fmod 3 = 2 ∨ 1 + z.fmod 3 = 3 := by
  have h0 := Int.fmod_nonneg_of_pos z (show (0 : Int) < 3 by decide)
  have h1 := Int.fmod_lt_of_pos z (show (0 : Int) < 3 by decide)
  omega
theorem onesI_len (x : Int) : 1 ≤ (onesI x).length ∧ (onesI x).length ≤ 3 := by
  unfold onesI
  rw [sgL_len]
  have := many_3 ((x.fdiv 4).fdiv 9)
  omega
theorem twosI_len (x : Int) : 1 ≤ (twosI x).length ∧ (twosI x).length ≤ 3 := by
  unfold twosI
  rw [List.length_map, sgL_len]
  have := many_3 ((x.fdiv 4).fdiv 3)
  omega
theorem onesI_hi (x : Int) : ∀ c ∈ onesI x, c ∈ HiS := sgL_hi _ _
theorem twosI_lo (x : Int) : ∀ c ∈ twosI x, c ∈ LoS := by
  intro c hc
  obtain ⟨d, hd, rfl⟩ := List.mem_map.mp hc
  exact lo_of_hi d (sgL_hi _ _ d hd)
/-- what every piece is -/
structure PcOk (p : Pc) : Prop where
  hi : ∀ c ∈ p.one, c ∈ HiS
  lo : ∀ c ∈ p.two, c ∈ LoS
  l1 : p.one.length ≤ 3
  l2 : p.two.length ≤ 3
  tag3 : p.tag ≤ 3
  eq : p.tag = 0 → p.two = p.one.map loC
  del : p.tag = 1 → p.two = []
  ins : p.tag = 2 → p.one = []
  rep : p.tag = 3 → p.one ≠ []
theorem pieceOk (x : Int) : PcOk (piece x) := by
  have o := onesI_len x
  have t := twosI_len x
  have ho := onesI_hi x
  have ht := twosI_lo x
  have hl : ∀ c ∈ (onesI x).map loC, c ∈ LoS := by
    intro c hc
    obtain ⟨d, hd, rfl⟩ := List.mem_map.mp hc
    exact lo_of_hi d (ho d hd)
  have ne : onesI x ≠ [] := by intro e; rw [e] at o; simp at o
  unfold piece
  split
  · constructor <;> simp [HiS, LoS, loC]
  split
  · constructor <;> simp_all
  split
  · constructor <;> simp_all
  split
  · constructor <;> simp_all
  · constructor <;> simp_all
end Mine

/-! PU0 -/
namespace Mine
def lawDef : List Stmt × Scope := match PySem.Challenge.pw_fe0311_01.main.body.getLast? with
  | some (.FunctionDef _ _ b _ _ _ sc _ _ _) => (b, sc)
  | _ => ([], PySem.Challenge.pw_fe0311_01.main.scope)
def lawBody : List Stmt := lawDef.1
def lawScope : Scope := lawDef.2
def forBody : List Stmt := match (lawBody[1]? : Option Stmt) with | some (.For _ _ b _ _) => b | _ => []
def inBody : List Stmt := match (forBody[4]? : Option Stmt) with | some (.For _ _ b _ _) => b | _ => []
/-- the drawing loop's own state: what the pieces drawn so far have left -/
def LawJ (L l : Nat) (ps : List Pc) (m : Str → Option Value) (nx : List (Addr × Obj)) : Prop :=
  ∃ (lm lr : Nat), ∃ mvs nm rvs nr oR oA oP oC tups tc tp,
    m (Str.ofString "models") = some (.ref lm) ∧
    nx = (lm, W.listOf (List.toArray mvs) nm) :: (lr, W.listOf (List.toArray rvs) nr) :: (L + 1 + 1 + 1 + 1, oR) :: (L + 1 + 1 + 1, oA) :: (L + 1 + 1, oP) :: (L + 1, oC) :: (50, tabObj #[]) :: tups ∧
    oC.data = .cell (some (.str (tx (caOf ps)) tc)) ∧ oP.data = .cell (some (.str (tx (plOf ps)) tp)) ∧ oA.data = .cell none ∧ oR.data = .cell (some (.ref lr)) ∧
    IntsAre mvs (mdsOf [] ps) ∧ DatAll tups rvs ((rowsOf 0 0 ps).map rowDat) ∧
    OwnOff tups [lm, lr, L + 1 + 1 + 1 + 1, L + 1 + 1 + 1, L + 1 + 1, L + 1, 50, l] ∧
    (lm ≠ l ∧ lr ≠ l ∧ L + 1 + 1 + 1 + 1 ≠ l ∧ L + 1 + 1 + 1 ≠ l ∧ L + 1 + 1 ≠ l ∧ L + 1 ≠ l ∧ 50 ≠ l) ∧
    (lr < lm ∧ L + 1 + 1 + 1 + 1 < lr ∧ 50 < L)
end Mine

/-! PU2 -/
namespace Mine
def tailBody : List Stmt := forBody.drop 4
def InJ (lm : Addr) (heads : List (Addr × Obj)) (mds : List Int) (f : Nat → Int) (t1 t2 t3 : Tok) (pc : Pc) (i : Nat) (m : Str → Option Value) (nx : List (Addr × Obj)) : Prop :=
  ∃ (vs : List Value) (n : Nat), nx = (lm, W.listOf (List.toArray vs) n) :: heads ∧ IntsAre vs (mds ++ (List.range i).map f) ∧
    m (Str.ofString "models") = some (.ref lm) ∧ m (Str.ofString "tag") = some (.str (tagS pc.tag) t1) ∧ m (Str.ofString "one") = some (.str (tx pc.one) t2) ∧ m (Str.ofString "two") = some (.str (tx pc.two) t3)
theorem four {m : Str → Option Value} {a b c d : Str} {va vb vc vd : Value} (ha : m a = some va) (hb : m b = some vb) (hc : m c = some vc) (hd : m d = some vd) :
    m = fun y => if y = a then some va else if y = b then some vb else if y = c then some vc else if y = d then some vd else m y := by
  funext y
  split
  · rename_i e; rw [e, ha]
  split
  · rename_i e; rw [e, hb]
  split
  · rename_i e; rw [e, hc]
  split
  · rename_i e; rw [e, hd]
  · rfl
theorem mdsOf_len (ps : List Pc) : ∀ ca, (mdsOf ca ps).length = (plOf ps).length := by
  induction ps with
  | nil => intro _; rfl
  | cons p r ih => intro ca; simp only [mdsOf, plOf, List.length_append, List.length_map, List.length_range, List.map_cons, List.flatten_cons]; rw [ih]; simp [plOf]
theorem rowsOf_len (ps : List Pc) : ∀ i j, (rowsOf i j ps).length = ps.length := by
  induction ps with
  | nil => intro _ _; rfl
  | cons p r ih => intro i j; simp only [rowsOf, List.length_cons]; rw [ih]
theorem heads_lt {L lr lm : Nat} (b1 : lr < lm) (b2 : L + 1 + 1 + 1 + 1 < lr) (b3 : 50 < L) :
    (lr < lm ∧ L + 1 + 1 + 1 + 1 < lm ∧ L + 1 + 1 + 1 < lm ∧ L + 1 + 1 < lm ∧ L + 1 < lm ∧ 50 < lm) ∧ (L + 1 + 1 + 1 + 1 < lr ∧ L + 1 + 1 + 1 < lr ∧ L + 1 + 1 < lr ∧ L + 1 < lr ∧ 50 < lr) := by omega
theorem item_last {l : List Nat} (h : l ≠ []) : Txt.item (tx l) (-1) = tx [l.getLast h] := by
  have hp : 0 < l.length := List.length_pos_iff.mpr h
  unfold Txt.item Txt.charAt
  rw [StrLaws.seqIndex_neg (by decide) (by rw [tx_length]; omega)]
  have e : (-1 + ((tx l).length : Int)).toNat = l.length - 1 := by rw [tx_length]; omega
  rw [e]
  have hl : l[l.length - 1]? = some (l.getLast h) := by rw [← List.getLast?_eq_getElem?, List.getLast?_eq_some_getLast h]
  simp [tx, hl]
theorem r_last {prog : Program} {w : World} {A : Around} {E : Value → Shared → Prop} {Q : Value → Shared → Prop} {s : Shared} {l : List Nat} {t u : Tok} {value slice : PySem.Expr} (hl : l ≠ []) (hz : l.length ≤ 16777216) (h : ∀ t' k, Q (.str (tx [l.getLast hl]) t') { s with toks := k })
    (hs : subscripted slice false (.str (tx l) t) (.int (-1) u) = operate [.str (tx l) t, .int (-1) u] (getItem (.str (tx l) t) (.int (-1) u)) := by with_unfolding_all rfl)
    (ht : ∀ r, letTemporaryGo value (.str (tx l) t) r = pure () := by intro _; with_unfolding_all rfl) :
    wpAny (model prog w) A (subscriptTail value slice (.str (tx l) t) (.int (-1) u)) Q E s := by
  have hp : 0 < l.length := List.length_pos_iff.mpr hl
  refine item_str (fitsSsize_of (N := 9223372036854775808) (by omega) (by omega) (Int.le_refl _)) (by rw [tx_length]; omega) (by rw [tx_length]; omega) (fun _ => ?_) hs ht
  rw [item_last hl]
  exact h _ _
theorem tag_ins : ∀ k, (tagS k == Str.ofString "insert") = decide (k = 2)
  | 0 => by decide
  | 1 => by decide
  | 2 => by decide
  | n + 3 => by show (Str.ofString "replace" == Str.ofString "insert") = _; rw [decide_eq_false (by omega)]; decide
theorem sp_tx : Str.ofString " " = tx [32] := by decide +kernel
theorem ne_sp (a : Nat) : (tx [a] != Str.ofString " ") = decide (a ≠ 32) := by
  rw [sp_tx]
  show (!(tx [a] == tx [32])) = _
  rw [tx_eq]
  by_cases h : a = 32
  · simp [h]
  · simp [h]
theorem modelI_a {ca : List Nat} {pc : Pc} {i : Nat} (h2 : (tagS pc.tag == Str.ofString "insert") = true) (he : ca.isEmpty = true) : (ca.length : Int) = modelI ca pc i := by
  rw [tag_ins] at h2
  have h2 := of_decide_eq_true h2
  have he : ca = [] := List.isEmpty_iff.mp he
  simp [modelI, h2, he]
theorem modelI_b {ca : List Nat} {pc : Pc} {i : Nat} {h : ca ≠ []} (h2 : (tagS pc.tag == Str.ofString "insert") = true) (he : (tx [ca.getLast h] != Str.ofString " ") = true) : (ca.length : Int) - 1 = modelI ca pc i := by
  rw [tag_ins] at h2
  have h2 := of_decide_eq_true h2
  rw [ne_sp] at he
  have he := of_decide_eq_true he
  have e : ca.getLast? = some (ca.getLast h) := List.getLast?_eq_some_getLast h
  unfold modelI
  rw [if_pos h2, if_neg]
  rintro (q | q)
  · exact h q
  · rw [e] at q; exact he (Option.some.inj q)
theorem modelI_c {ca : List Nat} {pc : Pc} {i : Nat} {h : ca ≠ []} (h2 : (tagS pc.tag == Str.ofString "insert") = true) (he : (tx [ca.getLast h] != Str.ofString " ") = false) : (ca.length : Int) = modelI ca pc i := by
  rw [tag_ins] at h2
  have h2 := of_decide_eq_true h2
  rw [ne_sp] at he
  have he : ca.getLast h = 32 := Decidable.not_not.mp (of_decide_eq_false he)
  have e : ca.getLast? = some (ca.getLast h) := List.getLast?_eq_some_getLast h
  unfold modelI
  rw [if_pos h2, if_pos]
  right; rw [e, he]
theorem modelI_d {ca : List Nat} {pc : Pc} {i : Nat} (h2 : (tagS pc.tag == Str.ofString "insert") = false) :
    (ca.length : Int) + (if (pc.one.length : Int) - 1 < 0 + (i : Int) then (pc.one.length : Int) - 1 else 0 + (i : Int)) = modelI ca pc i := by
  rw [tag_ins] at h2
  have h2 := of_decide_eq_false h2
  unfold modelI
  rw [if_neg h2]
  simp only [Int.min_def]
  split <;> split <;> omega
theorem ints_next {vs : List Value} {mds : List Int} {f : Nat → Int} {i : Nat} {k : Int} {t : Tok} (hV : IntsAre vs (mds ++ (List.range i).map f)) (hk : k = f i) : IntsAre (vs ++ [.int k t]) (mds ++ (List.range (i + 1)).map f) := by
  rw [List.range_succ, List.map_append, ← List.append_assoc, hk]
  exact hV.append (.cons _ _ .nil)
theorem inTurn_end {h₀ : Heap} {L lm : Addr} {h' : Heap} {m' : Str → Option Value} {heads own : List (Addr × Obj)} {mds : List Int} {f : Nat → Int} {t1 t2 t3 t : Tok} {pc : Pc} {i n' tk : Nat} {s₁ : Shared} {vs : List Value} {k : Int}
    (FF : Fr h₀ L h' m') (NN : News h₀ L h' ((lm, W.listOf (vs.toArray.push (.int k t)) n') :: (heads ++ own))) (ho : OwnOff own (lm :: heads.map (·.1))) (hV : IntsAre vs (mds ++ (List.range i).map f))
    (e1 : m' (Str.ofString "models") = some (.ref lm)) (e2 : m' (Str.ofString "tag") = some (.str (tagS pc.tag) t1)) (e3 : m' (Str.ofString "one") = some (.str (tx pc.one) t2)) (e4 : m' (Str.ofString "two") = some (.str (tx pc.two) t3)) (hk : k = f i) :
    InvEndG h₀ L (InJ lm heads mds f t1 t2 t3 pc (i + 1)) own s₁ { s₁ with heap := h', toks := tk } := by
  rw [List.push_toArray] at NN
  refine InvEndG.intro FF NN (nx := (lm, W.listOf (List.toArray (vs ++ [.int k t])) n') :: heads) ⟨_, _, rfl, ints_next hV hk, e1, e2, e3, e4⟩ ho (fun p hp => ?_) (fun p hp => .tail _ (List.mem_append.mpr (.inr hp)))
  rcases List.mem_cons.mp hp with rfl | hp
  · exact .head _
  · exact .tail _ (List.mem_append.mpr (.inl hp))
theorem allLt_mem {d : Nat} {l : List (Addr × Obj)} (h : AllLt d l) : ∀ p ∈ l, @LT.lt Nat _ p.1 d := by
  induction l with
  | nil => intro p hp; cases hp
  | cons q r ih =>
    intro p hp
    rcases List.mem_cons.mp hp with rfl | hp
    · exact h.1
    · exact ih h.2 p hp
theorem lawTurn_end {h₀ h' : Heap} {L l lm lr D2 D1 : Nat} {o2 oR oA oP oC : Obj} {m' : Str → Option Value} {s₁ : Shared} {ps : List Pc} {pc : Pc} {vs rvs : List Value} {n nr n0 tk : Nat} {t1 i1 i2 i3 i4 tc tp : Tok} {tups own : List (Addr × Obj)}
    (FF : Fr h₀ L h' m')
    (NN : News h₀ L h' ((D2, o2) :: (D1, { cls := .type "tuple", data := .seq #[.str (tagS pc.tag) t1, .int ((caOf ps).length : Int) i1, .int ((caOf ps).length + pc.one.length : Int) i2, .int ((plOf ps).length : Int) i3, .int ((plOf ps).length + pc.two.length : Int) i4] n0 }) ::
      (lm, W.listOf vs.toArray n) :: (lr, W.listOf (rvs.toArray.push (.ref D1)) nr) :: (L + 1 + 1 + 1 + 1, oR) :: (L + 1 + 1 + 1, oA) :: (L + 1 + 1, oP) :: (L + 1, oC) :: (50, tabObj #[]) :: (tups ++ own)))
    (l1 : lm < D1 ∧ lr < D1 ∧ L + 1 + 1 + 1 + 1 < D1 ∧ L + 1 + 1 + 1 < D1 ∧ L + 1 + 1 < D1 ∧ L + 1 < D1 ∧ 50 < D1 ∧ AllLt D1 (tups ++ own))
    (hm : m' (Str.ofString "models") = some (.ref lm)) (dC : oC.data = .cell (some (.str (tx (caOf ps ++ pc.one)) tc))) (dP : oP.data = .cell (some (.str (tx (plOf ps ++ pc.two)) tp))) (dA : oA.data = .cell none) (dR : oR.data = .cell (some (.ref lr)))
    (hV : IntsAre vs (mdsOf [] ps ++ (List.range pc.two.length).map (modelI (caOf ps) pc))) (hD : DatAll tups rvs ((rowsOf 0 0 ps).map rowDat))
    (hto : OwnOff tups [lm, lr, L + 1 + 1 + 1 + 1, L + 1 + 1 + 1, L + 1 + 1, L + 1, 50, l]) (hto' : OwnOff (tups ++ own) [lm, lr, L + 1 + 1 + 1 + 1, L + 1 + 1 + 1, L + 1 + 1, L + 1, 50]) (hso : OwnOff own (tups.map (·.1)))
    (ha : lm ≠ l ∧ lr ≠ l ∧ L + 1 + 1 + 1 + 1 ≠ l ∧ L + 1 + 1 + 1 ≠ l ∧ L + 1 + 1 ≠ l ∧ L + 1 ≠ l ∧ 50 ≠ l) (hb : lr < lm ∧ L + 1 + 1 + 1 + 1 < lr ∧ 50 < L) (hlo : ∃ o, (l, o) ∈ own) :
    InvEndG h₀ L (LawJ L l (ps ++ [pc])) own s₁ { s₁ with heap := h', toks := tk } := by
  rw [List.push_toArray] at NN
  obtain ⟨q1, q2, q3, q4, q5, q6, q7, q8⟩ := l1
  have hlt := allLt_mem q8
  have hlD : l < D1 := by
    obtain ⟨o, ho⟩ := hlo
    exact hlt _ (List.mem_append.mpr (.inr ho))
  let tu : Addr × Obj := (D1, { cls := .type "tuple", data := .seq #[.str (tagS pc.tag) t1, .int ((caOf ps).length : Int) i1, .int ((caOf ps).length + pc.one.length : Int) i2, .int ((plOf ps).length : Int) i3, .int ((plOf ps).length + pc.two.length : Int) i4] n0 })
  have hDat : DatAll (tu :: tups) (rvs ++ [.ref D1]) ((rowsOf 0 0 (ps ++ [pc])).map rowDat) := by
    rw [rowsOf_snoc, List.map_append]
    refine (DatAll.mono (fun p hp => .tail _ hp) hD).append (DatAll.one ?_)
    refine DatIn.tuple (vs := [.str (tagS pc.tag) t1, .int ((caOf ps).length : Int) i1, .int ((caOf ps).length + pc.one.length : Int) i2, .int ((plOf ps).length : Int) i3, .int ((plOf ps).length + pc.two.length : Int) i4]) (n := n0) (.head _) ?_
    simp only [Nat.zero_add, Int.natCast_add]
    exact .cons (.str _ _) (.cons (.int _ _) (.cons (.int _ _) (.cons (.int _ _) (.cons (.int _ _) .nil))))
  refine InvEndG.intro FF NN (nx := (lm, W.listOf (List.toArray vs) n) :: (lr, W.listOf (List.toArray (rvs ++ [.ref D1])) nr) :: (L + 1 + 1 + 1 + 1, oR) :: (L + 1 + 1 + 1, oA) :: (L + 1 + 1, oP) :: (L + 1, oC) :: (50, tabObj #[]) :: (tu :: tups)) ?_ ?_ ?_ ?_
  · refine ⟨lm, lr, vs, n, _, nr, oR, oA, oP, oC, tu :: tups, tc, tp, hm, rfl, ?_, ?_, dA, dR, ?_, hDat, ?_, ha, hb⟩
    · rw [caOf_snoc]; exact dC
    · rw [plOf_snoc]; exact dP
    · rw [mdsOf_snoc]; exact hV
    · intro p hp b hb'
      rcases List.mem_cons.mp hp with rfl | hp
      · simp only [List.mem_cons, List.not_mem_nil, or_false] at hb'
        show D1 ≠ b
        rcases hb' with rfl | rfl | rfl | rfl | rfl | rfl | rfl | rfl
        · exact Nat.ne_of_gt q1
        · exact Nat.ne_of_gt q2
        · exact Nat.ne_of_gt q3
        · exact Nat.ne_of_gt q4
        · exact Nat.ne_of_gt q5
        · exact Nat.ne_of_gt q6
        · exact Nat.ne_of_gt q7
        · exact Nat.ne_of_gt hlD
      · exact hto p hp b hb'
  · intro p hp b hb'
    have hpr : p ∈ tups ++ own := List.mem_append.mpr (.inr hp)
    rcases List.mem_append.mp (show b ∈ [lm, lr, L + 1 + 1 + 1 + 1, L + 1 + 1 + 1, L + 1 + 1, L + 1, 50] ++ (D1 :: tups.map (·.1)) from hb') with h | h
    · exact hto' p hpr b h
    · rcases List.mem_cons.mp h with rfl | h
      · exact Nat.ne_of_lt (hlt p hpr)
      · exact hso p hp b h
  · intro p hp
    rcases List.mem_append.mp (show p ∈ [(lm, W.listOf (List.toArray vs) n), (lr, W.listOf (List.toArray (rvs ++ [.ref D1])) nr), (L + 1 + 1 + 1 + 1, oR), (L + 1 + 1 + 1, oA), (L + 1 + 1, oP), (L + 1, oC), (50, tabObj #[])] ++ (tu :: tups) from hp) with h | h
    · exact .tail _ (.tail _ (show p ∈ [(lm, W.listOf (List.toArray vs) n), (lr, W.listOf (List.toArray (rvs ++ [.ref D1])) nr), (L + 1 + 1 + 1 + 1, oR), (L + 1 + 1 + 1, oA), (L + 1 + 1, oP), (L + 1, oC), (50, tabObj #[])] ++ (tups ++ own) from List.mem_append.mpr (.inl h)))
    · rcases List.mem_cons.mp h with rfl | h
      · exact .tail _ (.head _)
      · exact .tail _ (.tail _ (show p ∈ [(lm, W.listOf (List.toArray vs) n), (lr, W.listOf (List.toArray (rvs ++ [.ref D1])) nr), (L + 1 + 1 + 1 + 1, oR), (L + 1 + 1 + 1, oA), (L + 1 + 1, oP), (L + 1, oC), (50, tabObj #[])] ++ (tups ++ own) from List.mem_append.mpr (.inr (List.mem_append.mpr (.inl h)))))
  · intro p h
    exact .tail _ (.tail _ (show p ∈ [(lm, W.listOf (List.toArray vs) n), (lr, W.listOf (List.toArray (rvs ++ [.ref D1])) nr), (L + 1 + 1 + 1 + 1, oR), (L + 1 + 1 + 1, oA), (L + 1 + 1, oP), (L + 1, oC), (50, tabObj #[])] ++ (tups ++ own) from List.mem_append.mpr (.inr (List.mem_append.mpr (.inr h)))))
section
local macro_rules | `(tactic| walk_at "filler") => `(tactic| skip)
local macro_rules | `(tactic| walk_at "filler") => `(tactic| skip)
local macro_rules | `(tactic| walk_at "binaryOp Add str str") => `(tactic| ((with_reducible refine r_add ?hz ?_); (case hz => omega); intro _ _))
local macro_rules | `(tactic| walk_at "subscriptTail Name UnaryOp str int") => `(tactic| ((with_reducible refine r_last ?hl ?hz ?_); (case hl => (rename (caOf _).isEmpty = false => hem; intro hem2; rw [hem2] at hem; cases hem)); (case hz => omega); intro _ _))
local macro_rules | `(tactic| walk_at "InvEndG") => `(tactic| refine Mine.halt ?_)
local macro_rules | `(tactic| walk_at "exec For Name Call cons nil") => `(tactic| refine Mine.halt ?_)
local macro_rules | `(tactic| walk_at "pyIter ref") => `(tactic| refine Mine.halt ?_)
local macro_rules | `(tactic| walk_at "truthy str") => `(tactic| ((with_reducible refine r_truthy ?hz ?_); (case hz => omega); intro _))
local macro_rules | `(tactic| walk_at "call builtin:len") => `(tactic| ((with_reducible refine r_len ?hz ?_); (case hz => omega); intro _ _))
set_option maxHeartbeats 8000000 in
theorem law_tail (w : World) {p : Program} {loose : List Str} {mean : ExcName → Option Value} {mg mb : Str → Option Value} {h₀ h : Heap} {L l : Nat} {fa : Addr} {s s₀ : Shared} {Q : Flow → Shared → Prop} {E : Value → Shared → Prop} {ps : List Pc} {pc : Pc} {m : Str → Option Value} {tups own : List (Addr × Obj)}
    {lm lr : Nat} {mvs rvs : List Value} {nm nr : Nat} {oR oA oP oC : Obj} {tc tp t1 t2 t3 : Tok}
    (X : (hd.heap_39 w.params).In h₀) (T : Top p loose mean mg mb h₀) (B : Below callerA h₀ [] h₀) (hpc : PcOk pc) (hzc : (caOf ps).length ≤ 1000) (hzp : (plOf ps).length ≤ 1000) (hzs : ps.length ≤ 1000)
    (F : Fr h₀ L h (fun y => if y = Str.ofString "models" then some (.ref lm) else if y = Str.ofString "tag" then some (.str (tagS pc.tag) t1) else if y = Str.ofString "one" then some (.str (tx pc.one) t2) else if y = Str.ofString "two" then some (.str (tx pc.two) t3) else m y))
    (N : News h₀ L h ((lm, W.listOf (List.toArray mvs) nm) :: (lr, W.listOf (List.toArray rvs) nr) :: (L + 1 + 1 + 1 + 1, oR) :: (L + 1 + 1 + 1, oA) :: (L + 1 + 1, oP) :: (L + 1, oC) :: (50, tabObj #[]) :: (tups ++ own)))
    (dC : oC.data = .cell (some (.str (tx (caOf ps)) tc))) (dP : oP.data = .cell (some (.str (tx (plOf ps)) tp))) (dA : oA.data = .cell none) (dR : oR.data = .cell (some (.ref lr)))
    (hI : IntsAre mvs (mdsOf [] ps)) (hD : DatAll tups rvs ((rowsOf 0 0 ps).map rowDat))
    (hto : OwnOff tups [lm, lr, L + 1 + 1 + 1 + 1, L + 1 + 1 + 1, L + 1 + 1, L + 1, 50, l])
    (hto' : OwnOff (tups ++ own) [lm, lr, L + 1 + 1 + 1 + 1, L + 1 + 1 + 1, L + 1 + 1, L + 1, 50]) (hso : OwnOff own (tups.map (·.1)))
    (ha : lm ≠ l ∧ lr ≠ l ∧ L + 1 + 1 + 1 + 1 ≠ l ∧ L + 1 + 1 + 1 ≠ l ∧ L + 1 + 1 ≠ l ∧ L + 1 ≠ l ∧ 50 ≠ l) (hb : lr < lm ∧ L + 1 + 1 + 1 + 1 < lr ∧ 50 < L) (hlo : ∃ o, (l, o) ∈ own)
    (hs : s = { s₀ with heap := h, toks := s.toks })
    (hE : PassesOwn (model PySem.Challenge.rw_fe0311_01.row.prog w) (callerA.deeper (envOfC (Str.ofString "law") lawScope L fa (.ref 52))) (envOfC (Str.ofString "law") lawScope L fa (.ref 52)) E) :
    wpAny (model PySem.Challenge.rw_fe0311_01.row.prog w) (callerA.deeper (envOfC (Str.ofString "law") lawScope L fa (.ref 52))) (execs tailBody (envOfC (Str.ofString "law") lawScope L fa (.ref 52))) (InvPostG h₀ L (LawJ L l (ps ++ [pc])) own s₀ Q) E s := by
  rw [hs]
  generalize hrest : tups ++ own = rest at N hto'
  have hb' := hb
  obtain ⟨b1, b2, b3⟩ := hb
  have ⟨c1, c2⟩ := heads_lt b1 b2 b3
  have l3 := hpc.l1
  have l4 : pc.two.length ≤ 1000 := Nat.le_trans hpc.l2 (by decide)
  conv in tailBody => whnf
  w_top off
  revert X; k_fill; intro X
  k_steps
  unfold Mine.Halt
  refine For_turns (by assumption) ?_ (hE := hE)
  k_steps
  unfold Mine.Halt
  have hn4 : pc.two.length = 0 ∨ pc.two.length = 1 ∨ pc.two.length = 2 ∨ pc.two.length = 3 := by have := hpc.l2; omega
  refine rangeTurns (n := pc.two.length) (InJ lm _ (mdsOf [] ps) (modelI (caOf ps) pc) t1 t2 t3 pc) rfl (by assumption) (by rcases hn4 with h | h | h | h <;> rw [h] <;> decide) (by rcases hn4 with h | h | h | h <;> rw [h] <;> decide) (by assumption) (by assumption) ⟨mvs, nm, rfl, by simpa using hI, rfl, rfl, rfl, rfl⟩ ?_ ?_
  · rintro i ti m₁ nx h₁ tk₁ own₁ hi ⟨vs, n, rfl, hV, e1, e2, e3, e4⟩ ho₁ F₁ N₁
    rw [four e1 e2 e3 e4] at F₁
    simp only [List.cons_append] at N₁
    have hr₁ : OwnOff (rest ++ own₁) [lm, lr, L + 1 + 1 + 1 + 1, L + 1 + 1 + 1, L + 1 + 1, L + 1, 50] := by
      intro q hq b hb
      rcases List.mem_append.mp hq with hq | hq
      · exact hto' q hq b hb
      · exact ho₁ q hq b (show b ∈ [lm, lr, L + 1 + 1 + 1 + 1, L + 1 + 1 + 1, L + 1 + 1, L + 1, 50] ++ rest.map (·.1) from List.mem_append.mpr (.inl hb))
    have hVl : vs.length ≤ 3000 := by rw [hV.length, List.length_append, mdsOf_len, List.length_map, List.length_range]; omega
    generalize hrest₁ : rest ++ own₁ = rest₁ at N₁ hr₁
    k_steps
    all_goals (
      unfold Mine.Halt
      subst hrest₁
      (rename Fr _ _ _ _ => FF)
      (rename News _ _ _ _ => NN)
      refine inTurn_end FF NN ho₁ hV rfl rfl rfl rfl ?_)
    · exact modelI_a (by assumption) (by assumption)
    · exact modelI_b (by assumption) (by assumption)
    · exact modelI_c (by assumption) (by assumption)
    · exact modelI_d (by assumption)
  · rintro m₁ nx h₁ tk₁ ⟨vs, n, rfl, hV, e1, e2, e3, e4⟩ F₁ N₁
    rw [four e1 e2 e3 e4] at F₁
    dsimp only
    have hRl : rvs.length ≤ 1000 := by rw [hD.length, List.length_map, rowsOf_len]; omega
    k_steps
    unfold Mine.Halt
    subst hrest
    (rename Fr _ _ _ _ => FF)
    (rename News _ _ _ _ => NN)
    exact lawTurn_end FF NN (by assumption) rfl (by assumption) (by assumption) dA dR hV hD hto hto' hso ha hb' hlo
end
end Mine

/-! PU1 -/
namespace Mine
section
local macro_rules | `(tactic| walk_at "filler") => `(tactic| skip)
local macro_rules | `(tactic| walk_at "filler") => `(tactic| skip)
local macro_rules | `(tactic| walk_at "filler") => `(tactic| skip)
local macro_rules | `(tactic| walk_at "filler") => `(tactic| skip)
local macro_rules | `(tactic| walk_at "filler") => `(tactic| skip)
local macro_rules | `(tactic| walk_at "filler") => `(tactic| skip)
local macro_rules | `(tactic| walk_at "filler") => `(tactic| skip)
local macro_rules | `(tactic| walk_at "filler") => `(tactic| skip)
local macro_rules | `(tactic| walk_at "call ref") => `(tactic| refine Mine.halt ?_)
local macro_rules | `(tactic| walk_at "execs cons") => `(tactic| ((with_reducible show wpAny _ _ (execs (Stmt.For _ _ _ _ _ :: _) _) _ _ _); refine Mine.halt ?_))
set_option maxHeartbeats 8000000 in
theorem law_turn (w : World) {p : Program} {loose : List Str} {mean : ExcName → Option Value} {mg mb : Str → Option Value} {h₀ h : Heap} {L l : Nat} {fa : Addr} {s : Shared} {Q : Flow → Shared → Prop} {E : Value → Shared → Prop} {ps : List Pc} {x : Int} {t : Tok} {px : Pos} {m₁ : Str → Option Value} {nx own : List (Addr × Obj)} {tk : Nat}
    (X : (hd.heap_39 w.params).In h₀) (T : Top p loose mean mg mb h₀) (B : Below callerA h₀ [] h₀) (hJ : LawJ L l ps m₁ nx) (ho : OwnOff own (nx.map (·.1))) (F : Fr h₀ L h m₁) (N : News h₀ L h (nx ++ own)) (hlo : ∃ o, (l, o) ∈ own) (hzc : (caOf ps).length ≤ 1000) (hzp : (plOf ps).length ≤ 1000) (hzs : ps.length ≤ 1000)
    (hE : PassesOwn (model PySem.Challenge.rw_fe0311_01.row.prog w) (callerA.deeper (envOfC (Str.ofString "law") lawScope L fa (.ref 52))) (envOfC (Str.ofString "law") lawScope L fa (.ref 52)) E) :
    wpAny (model PySem.Challenge.rw_fe0311_01.row.prog w) (callerA.deeper (envOfC (Str.ofString "law") lawScope L fa (.ref 52))) (assign (.Name (Str.ofString "x") px) (envOfC (Str.ofString "law") lawScope L fa (.ref 52)) (.int x t))
      (fun _ s₃ => wpAny (model PySem.Challenge.rw_fe0311_01.row.prog w) (callerA.deeper (envOfC (Str.ofString "law") lawScope L fa (.ref 52))) (execs forBody (envOfC (Str.ofString "law") lawScope L fa (.ref 52))) (InvPostG h₀ L (LawJ L l (ps ++ [piece x])) own { s with heap := h, toks := tk } Q) E s₃) E { s with heap := h, toks := tk } := by
  obtain ⟨lm, lr, mvs, nm, rvs, nr, oR, oA, oP, oC, tups, tc, tp, hm, rfl, dC, dP, dA, dR, hI, hD, hto, ⟨a1, a2, a3, a4, a5, a6, a7⟩, b1, b2, b3⟩ := hJ
  have hm' : m₁ = fun y => if y = Str.ofString "models" then some (.ref lm) else m₁ y := by
    funext y
    split
    · rename_i e; rw [e, hm]
    · rfl
  rw [hm'] at F
  clear hm' hm
  have hto' : OwnOff (tups ++ own) [lm, lr, L + 1 + 1 + 1 + 1, L + 1 + 1 + 1, L + 1 + 1, L + 1, 50] := by
    intro q hq b hb
    rcases List.mem_append.mp hq with hq | hq
    · exact hto q hq b (show b ∈ [lm, lr, L + 1 + 1 + 1 + 1, L + 1 + 1 + 1, L + 1 + 1, L + 1, 50] ++ [l] from List.mem_append.mpr (.inl hb))
    · exact ho q hq b (show b ∈ [lm, lr, L + 1 + 1 + 1 + 1, L + 1 + 1 + 1, L + 1 + 1, L + 1, 50] ++ tups.map (·.1) from List.mem_append.mpr (.inl hb))
  have hso : OwnOff own (tups.map (·.1)) := by
    intro q hq b hb
    exact ho q hq b (show b ∈ [lm, lr, L + 1 + 1 + 1 + 1, L + 1 + 1 + 1, L + 1 + 1, L + 1, 50] ++ tups.map (·.1) from List.mem_append.mpr (.inr hb))
  have K : ∀ (pc : Pc) (h' : Heap) (tk' : Nat) (m' : Str → Option Value) (g o1 o2 : Str) (t1 t2 t3 : Tok), Fr h₀ L h' m' →
      News h₀ L h' ((lm, W.listOf (List.toArray mvs) nm) :: (lr, W.listOf (List.toArray rvs) nr) :: (L + 1 + 1 + 1 + 1, oR) :: (L + 1 + 1 + 1, oA) :: (L + 1 + 1, oP) :: (L + 1, oC) :: (50, tabObj #[]) :: (tups ++ own)) →
      m' (Str.ofString "models") = some (.ref lm) → m' (Str.ofString "tag") = some (.str g t1) → m' (Str.ofString "one") = some (.str o1 t2) → m' (Str.ofString "two") = some (.str o2 t3) →
      g = tagS pc.tag → o1 = tx pc.one → o2 = tx pc.two → piece x = pc →
      wpAny (model PySem.Challenge.rw_fe0311_01.row.prog w) (callerA.deeper (envOfC (Str.ofString "law") lawScope L fa (.ref 52))) (execs tailBody (envOfC (Str.ofString "law") lawScope L fa (.ref 52))) (InvPostG h₀ L (LawJ L l (ps ++ [piece x])) own { s with heap := h, toks := tk } Q) E { s with heap := h', toks := tk' } := by
    rintro pc h' tk' m' g o1 o2 t1 t2 t3 F' N' e1 e2 e3 e4 rfl rfl rfl rfl
    rw [four e1 e2 e3 e4] at F'
    exact law_tail w X T B (pieceOk x) hzc hzp hzs F' N' dC dP dA dR hI hD hto hto' hso ⟨a1, a2, a3, a4, a5, a6, a7⟩ ⟨b1, b2, b3⟩ hlo rfl hE
  simp only [List.cons_append] at N
  clear ho
  generalize hrest : tups ++ own = rest at N hto' K
  conv in forBody => whnf
  clear hto hD hrest
  w_top off
  revert X; k_fill; intro X
  k_steps
  unfold Mine.Halt
  refine (signs_call w _ _ (many_3 _) _ _).use X T (by assumption) (by assumption) rfl (by simp only [depth_deeper, depth_caller]; decide) (by simp only [units_deeper, units_caller]; decide) ?_
  rintro v h₂ tk₂ ⟨t₂, rfl⟩ F₂ N₂
  k_steps
  unfold Mine.Halt
  refine (signs_call w _ _ (many_3 _) _ _).use X T (by assumption) (by assumption) rfl (by simp only [depth_deeper, depth_caller]; decide) (by simp only [units_deeper, units_caller]; decide) ?_
  rintro v h₃ tk₃ ⟨t₃, rfl⟩ F₃ N₃
  k_steps
  unfold Mine.Halt
  refine (lower_call w _ (fun c hc => List.mem_append.mpr (.inl (sgL_hi _ _ c hc))) (by rw [sgL_len]; have := many_3 ((x.fdiv 4).fdiv 3); omega) _).use X T (by assumption) (by assumption) rfl (by simp only [depth_deeper, depth_caller]; decide) (by simp only [units_deeper, units_caller]; decide) ?_
  rintro v h₄ tk₄ ⟨t₄, rfl⟩ F₄ N₄
  k_steps
  · unfold Mine.Halt
    (rename Fr _ _ _ _ => FF)
    (rename News _ _ _ _ => NN)
    refine K ⟨0, [90], [122]⟩ _ _ _ _ _ _ _ _ _ FF (fun p hp => NN p (.tail _ hp)) rfl rfl rfl rfl (by decide +kernel) (by decide +kernel) (by decide +kernel) ?_
    unfold piece
    rw [if_pos (by assumption)]
  · unfold Mine.Halt
    refine (lower_call w _ (fun c hc => List.mem_append.mpr (.inl (sgL_hi _ _ c hc))) (by rw [sgL_len]; have := many_3 ((x.fdiv 4).fdiv 9); omega) _).use X T (by assumption) (by assumption) rfl (by simp only [depth_deeper, depth_caller]; decide) (by simp only [units_deeper, units_caller]; decide) ?_
    rintro v h₅ tk₅ ⟨t₅, rfl⟩ F₅ N₅
    k_steps
    unfold Mine.Halt
    (rename Fr _ _ _ _ => FF)
    (rename News _ _ _ _ => NN)
    refine K ⟨0, onesI x, (onesI x).map loC⟩ _ _ _ _ _ _ _ _ _ FF (fun p hp => NN p (.tail _ hp)) rfl rfl rfl rfl rfl rfl rfl ?_
    unfold piece
    rw [if_neg (by assumption), if_pos (by assumption)]
  · unfold Mine.Halt
    (rename Fr _ _ _ _ => FF)
    (rename News _ _ _ _ => NN)
    refine K ⟨1, onesI x, []⟩ _ _ _ _ _ _ _ _ _ FF (fun p hp => NN p (.tail _ hp)) rfl rfl rfl rfl rfl rfl empty_tx ?_
    unfold piece
    rw [if_neg (by assumption), if_neg (by assumption), if_pos (by assumption)]
  · unfold Mine.Halt
    (rename Fr _ _ _ _ => FF)
    (rename News _ _ _ _ => NN)
    refine K ⟨2, [], twosI x⟩ _ _ _ _ _ _ _ _ _ FF (fun p hp => NN p (.tail _ hp)) rfl rfl rfl rfl rfl empty_tx rfl ?_
    unfold piece
    rw [if_neg (by assumption), if_neg (by assumption), if_neg (by assumption), if_pos (by assumption)]
  · unfold Mine.Halt
    (rename Fr _ _ _ _ => FF)
    (rename News _ _ _ _ => NN)
    refine K ⟨3, onesI x, twosI x⟩ _ _ _ _ _ _ _ _ _ FF NN rfl rfl rfl rfl rfl rfl rfl ?_
    unfold piece
    rw [if_neg (by assumption), if_neg (by assumption), if_neg (by assumption), if_neg (by assumption)]
end
end Mine

/-! PU3 -/
namespace Mine
theorem flat_le {α : Type} (f : Pc → List α) {ps : List Pc} (h : ∀ p ∈ ps, (f p).length ≤ 3) : ((ps.map f).flatten).length ≤ 3 * ps.length := by
  induction ps with
  | nil => simp
  | cons p r ih =>
    simp only [List.map_cons, List.flatten_cons, List.length_append, List.length_cons]
    have h1 := h p (.head _)
    have h2 := ih fun q hq => h q (.tail _ hq)
    omega
theorem pieces_ok {ns : List Int} : ∀ p ∈ ns.map piece, PcOk p := by
  intro p hp
  obtain ⟨x, _, rfl⟩ := List.mem_map.mp hp
  exact pieceOk x
theorem lawJ_off {L l : Nat} {ps : List Pc} {m : Str → Option Value} {nx : List (Addr × Obj)} (h : LawJ L l ps m nx) : ∀ p ∈ nx, p.1 ≠ l := by
  obtain ⟨lm, lr, mvs, nm, rvs, nr, oR, oA, oP, oC, tups, tc, tp, _, rfl, _, _, _, _, _, _, hto, ⟨a1, a2, a3, a4, a5, a6, a7⟩, _⟩ := h
  intro p hp
  rcases List.mem_cons.mp hp with rfl | hp
  · exact a1
  rcases List.mem_cons.mp hp with rfl | hp
  · exact a2
  rcases List.mem_cons.mp hp with rfl | hp
  · exact a3
  rcases List.mem_cons.mp hp with rfl | hp
  · exact a4
  rcases List.mem_cons.mp hp with rfl | hp
  · exact a5
  rcases List.mem_cons.mp hp with rfl | hp
  · exact a6
  rcases List.mem_cons.mp hp with rfl | hp
  · exact a7
  exact hto p hp l (show l ∈ [lm, lr, L + 1 + 1 + 1 + 1, L + 1 + 1 + 1, L + 1 + 1, L + 1, 50] ++ [l] from List.mem_append.mpr (.inr (.head _)))
theorem law_loop (w : World) {p : Program} {loose : List Str} {mean : ExcName → Option Value} {mg mb : Str → Option Value} {h₀ : Heap} {L l lm lr : Nat} {fa : Addr} {s : Shared} {Q : Flow → Shared → Prop} {E : Value → Shared → Prop} {ns : List Int} {ws : List Value} {nn : Nat} {px : Pos} {m : Str → Option Value} {news : List (Addr × Obj)}
    {oR oA oP oC : Obj} {tc tp : Tok}
    (X : (hd.heap_39 w.params).In h₀) (T : Top p loose mean mg mb h₀) (B : Below callerA h₀ [] h₀) (hI : IntsAre ws ns) (F : Fr h₀ L s.heap m) (N : News h₀ L s.heap news) (hl : (l, W.listOf ws.toArray nn) ∈ news)
    (hsub : ∀ q ∈ [(lm, W.listOf #[] 0), (lr, W.listOf #[] 0), (L + 1 + 1 + 1 + 1, oR), (L + 1 + 1 + 1, oA), (L + 1 + 1, oP), (L + 1, oC), (50, tabObj #[])], q ∈ news)
    (hm : m (Str.ofString "models") = some (.ref lm)) (dC : oC.data = .cell (some (.str (Str.ofString "") tc))) (dP : oP.data = .cell (some (.str (Str.ofString "") tp))) (dA : oA.data = .cell none) (dR : oR.data = .cell (some (.ref lr)))
    (ha : lm < l ∧ lr < l ∧ L + 1 + 1 + 1 + 1 < l ∧ L + 1 + 1 + 1 < l ∧ L + 1 + 1 < l ∧ L + 1 < l ∧ 50 < l) (hb : lr < lm ∧ L + 1 + 1 + 1 + 1 < lr ∧ 50 < L) (hn : ns.length ≤ 18)
    (hE : PassesOwn (model PySem.Challenge.rw_fe0311_01.row.prog w) (callerA.deeper (envOfC (Str.ofString "law") lawScope L fa (.ref 52))) (envOfC (Str.ofString "law") lawScope L fa (.ref 52)) E)
    (done : ∀ m' nx h' tk, LawJ L l (ns.map piece) m' nx → Fr h₀ L h' m' → News h₀ L h' nx → Q .next { s with heap := h', toks := tk }) :
    wpAny (model PySem.Challenge.rw_fe0311_01.row.prog w) (callerA.deeper (envOfC (Str.ofString "law") lawScope L fa (.ref 52))) (pyIter (.ref l))
      (fun it s₂ => TurnsAt PySem.Challenge.rw_fe0311_01.row.prog w (callerA.deeper (envOfC (Str.ofString "law") lawScope L fa (.ref 52))) h₀ (envOfC (Str.ofString "law") lawScope L fa (.ref 52)) (.Name (Str.ofString "x") px) forBody Q E it s₂) E s := by
  have hlen : ws.length = ns.length := hI.length
  have e0 : Str.ofString "" = tx [] := empty_tx
  obtain ⟨a1, a2, a3, a4, a5, a6, a7⟩ := ha
  refine listTurns (env := envOfC (Str.ofString "law") lawScope L fa (.ref 52)) (fun i m nx => LawJ L l ((ns.take i).map piece) m nx) rfl F N hl hsub (fun i m nx h => lawJ_off h) ?_ ?_ ?_
  · refine ⟨lm, lr, [], 0, [], 0, oR, oA, oP, oC, [], tc, tp, hm, rfl, ?_, ?_, dA, dR, .nil, .nil, (fun _ h => nomatch h), ⟨Nat.ne_of_lt a1, Nat.ne_of_lt a2, Nat.ne_of_lt a3, Nat.ne_of_lt a4, Nat.ne_of_lt a5, Nat.ne_of_lt a6, Nat.ne_of_lt a7⟩, hb⟩
    · rw [dC, e0]; rfl
    · rw [dP, e0]; rfl
  · intro i v m₁ nx h tk own hv hJ ho F₁ N₁ hlo
    have hi : i < ns.length := by
      have := List.getElem?_eq_some_iff.mp hv
      obtain ⟨hi, _⟩ := this
      rw [hlen] at hi
      exact hi
    obtain ⟨t, hx⟩ := hI.get i ns[i] (by simp [hi])
    have hv' : v = .int ns[i] t := by rw [hx] at hv; exact (Option.some.inj hv).symm
    subst hv'
    have et : (ns.take (i + 1)).map piece = (ns.take i).map piece ++ [piece ns[i]] := by
      rw [List.take_succ_eq_append_getElem hi, List.map_append]; rfl
    have hz : ((ns.take i).map piece).length ≤ 18 := by rw [List.length_map, List.length_take]; omega
    have ok := pieces_ok (ns := ns.take i)
    have h1 := flat_le (·.one) (fun q hq => (ok q hq).l1)
    have h2 := flat_le (·.two) (fun q hq => (ok q hq).l2)
    show wpAny _ _ _ (fun _ s₃ => wpAny _ _ _ (InvPostG h₀ L (LawJ L l ((ns.take (i + 1)).map piece)) own _ Q) E s₃) E _
    rw [et]
    exact law_turn w X T B hJ ho F₁ N₁ ⟨_, hlo⟩ (by unfold caOf; omega) (by unfold plOf; omega) (by omega) hE
  · intro m₁ nx h tk hJ F₁ N₁ _
    rw [hlen, List.take_length] at hJ
    exact done m₁ nx h tk hJ F₁ N₁
end Mine

/-! PR0 -/
namespace Mine
theorem zip_map_range' (a : List Nat) (b : List Int) (f : Nat → Int → Nat) : (List.range (min a.length b.length)).map (fun i => [f (a.getD i 0) (b.getD i 0)]) = (List.zipWith f a b).map fun c => [c] := by
  apply List.ext_getElem
  · simp
  · intro i h1 h2
    simp at h1 h2
    have e1 : i < a.length := by omega
    have e2 : i < b.length := by omega
    simp [e1, e2]
section
variable {prog : Program} {w : World} {E : Value → Shared → Prop}
/-- a block over a zip of a text and a list of ints, an element a sign -/
theorem pair_sl {A : Around} {env : Env} {scope : Scope} {cl : List (Str × Addr)} {xa xb : Str} {elt : Expr} {s : Shared} {a : List Nat} {t : Tok} {l : Addr} {vs : List Value} {ns : List Int} {Q : Value → Shared → Prop} (f : Nat → Int → Nat) (hA : A.handled = none) (ha : Asc a) (hI : IntsAre vs ns) (hl : s.heap.IsList l vs.toArray) (hsz : a.length ≤ 1000000)
    (helt : ∀ C c n u v s₃ m₃ (E' : Value → Shared → Prop), c ∈ a → n ∈ ns → s₃.heap.Ns C m₃ → m₃ xa = some (.str (tx [c]) u) → m₃ xb = some (.int n v) → (∀ b o, s.heap.get? b = some o → s₃.heap.get? b = some o) →
      wpAny (model prog w) A (eval elt (compEnvC scope cl C env)) (EltEnd [f c n] s₃) E' s₃)
    (hdone : ∀ D h' tk ys, s.heap.get? D = none → h'.IsList D ys.toArray → StrsAre ys (((List.zipWith f a ns).map fun c => [c]).map tx) → (∀ b o, s.heap.get? b = some o → h'.get? b = some o) → Q (.ref D) { s with heap := h', toks := tk }) :
    wpAny (model prog w) A (call (.type "zip") [.str (tx a) t, .ref l]) (PairSrc prog w A env scope cl xa xb elt Q) E s := by
  refine call_zipV (C2 := fun h => h.IsList l vs.toArray) (lays_str _ _ (tx_all ha)) (lays_list _ _) (fun h o hl => hl.at fun o' e => Heap.get?_push_of_some _ e) trivial hl ?_
  have sa : (tx a).cps.size = a.length := by simp [tx]
  have sb : vs.toArray.size = ns.length := by simp [hI.length]
  have Z := zip_sl (prog := prog) (w := w) (h := s.heap) (tx a) t l vs.toArray hl
  rw [sa, sb] at Z
  refine ⟨s.heap, _, _, _, _, fun i => [f (a.getD i 0) (ns.getD i 0)], rfl, hA, by omega, Z, ?_, ?_⟩
  · intro C i x y s₃ m₃ E' hi px py hn hx hy hk
    obtain ⟨c, u', hc, rfl⟩ := px
    have hc' : a[i]? = some c := by simpa [tx] using hc
    have hi' : i < ns.length := by omega
    obtain ⟨v', hy'⟩ := hI.get i ns[i] (by simp [hi'])
    have py' : vs[i]? = some y := by simpa using py
    have ey : y = .int ns[i] v' := by rw [hy'] at py'; exact (Option.some.inj py').symm
    subst ey
    have e1 : a.getD i 0 = c := by simp [List.getD, hc']
    have e2 : ns.getD i 0 = ns[i] := by simp [List.getD, hi']
    show wpAny _ _ _ (EltEnd [f (a.getD i 0) (ns.getD i 0)] s₃) _ _
    rw [e1, e2]
    exact helt C c ns[i] u' v' s₃ m₃ E' (List.mem_of_getElem? hc') (List.getElem_mem hi') hn hx hy hk
  · intro D h' tk ys hD hl hS hk
    rw [zip_map_range'] at hS
    exact hdone D h' tk ys hD hl hS hk
end
def restBody : List Stmt := lawBody.drop 2
end Mine

/-! PS1 -/
namespace Mine
section
variable {prog : Program} {w : World} {A : Around} {E : Value → Shared → Prop} {Q : Value → Shared → Prop} {s : Shared} {h₀ : Heap} {L : Addr} {m : Str → Option Value} {news : List (Addr × Obj)} {l l' : List Nat} {t ui uj : Tok} {value slice : PySem.Expr}
theorem r_slice_ss {i j : Int} (hF : Fr h₀ L s.heap m) (hN : News h₀ L s.heap news) (he : (l.drop i.toNat).take (j - i).toNat = l') (h0 : 0 ≤ i) (hij : i ≤ j) (h1 : j ≤ l.length) (hz : l.length ≤ 16777216)
    (h : ∀ h' t' k, Fr h₀ L h' m → News h₀ L h' news → Q (.str (tx l') t') { s with heap := h', toks := k })
    (hs : subscripted slice false (.str (tx l) t) (.ref s.heap.objs.size) = operate [.ref s.heap.objs.size, .str (tx l) t] (getItem (.str (tx l) t) (.ref s.heap.objs.size)) := by with_unfolding_all rfl)
    (ht : ∀ r, letTemporaryGo value (.str (tx l) t) r = pure () := by intro _; with_unfolding_all rfl) :
    wpAny (model prog w) A (subscriptTail value slice (.str (tx l) t) (.ref s.heap.objs.size)) Q E { s with heap := s.heap.push { cls := .type "slice", data := .fields #[.int i ui, .int j uj, .none] } } := by
  refine slice_strN_ss hF hN (fun h' t' k a b => ?_) hs ht (by rw [tx_length, sizeLine_eq]; exact hz)
  have e : Txt.slice (tx l) (some i) (some j) = tx l' := by
    show StrLaws.sliceText (tx l) (some i) (some j) = _
    rw [tx_slice_ss h0 hij h1, he]
  rw [e]
  exact h h' t' k a b
theorem r_slice_ns {j : Int} (hF : Fr h₀ L s.heap m) (hN : News h₀ L s.heap news) (he : l.take j.toNat = l') (h0 : 0 ≤ j) (h1 : j ≤ l.length) (hz : l.length ≤ 16777216)
    (h : ∀ h' t' k, Fr h₀ L h' m → News h₀ L h' news → Q (.str (tx l') t') { s with heap := h', toks := k })
    (hs : subscripted slice false (.str (tx l) t) (.ref s.heap.objs.size) = operate [.ref s.heap.objs.size, .str (tx l) t] (getItem (.str (tx l) t) (.ref s.heap.objs.size)) := by with_unfolding_all rfl)
    (ht : ∀ r, letTemporaryGo value (.str (tx l) t) r = pure () := by intro _; with_unfolding_all rfl) :
    wpAny (model prog w) A (subscriptTail value slice (.str (tx l) t) (.ref s.heap.objs.size)) Q E { s with heap := s.heap.push { cls := .type "slice", data := .fields #[.none, .int j uj, .none] } } := by
  refine slice_strN_ns hF hN (fun h' t' k a b => ?_) hs ht (by rw [tx_length, sizeLine_eq]; exact hz)
  have e : Txt.slice (tx l) none (some j) = tx l' := by
    show StrLaws.sliceText (tx l) none (some j) = _
    rw [tx_slice_ns h0 h1, he]
  rw [e]
  exact h h' t' k a b
theorem r_slice_sn {i : Int} (hF : Fr h₀ L s.heap m) (hN : News h₀ L s.heap news) (he : l.drop i.toNat = l') (h0 : 0 ≤ i) (h1 : i ≤ l.length) (hz : l.length ≤ 16777216)
    (h : ∀ h' t' k, Fr h₀ L h' m → News h₀ L h' news → Q (.str (tx l') t') { s with heap := h', toks := k })
    (hs : subscripted slice false (.str (tx l) t) (.ref s.heap.objs.size) = operate [.ref s.heap.objs.size, .str (tx l) t] (getItem (.str (tx l) t) (.ref s.heap.objs.size)) := by with_unfolding_all rfl)
    (ht : ∀ r, letTemporaryGo value (.str (tx l) t) r = pure () := by intro _; with_unfolding_all rfl) :
    wpAny (model prog w) A (subscriptTail value slice (.str (tx l) t) (.ref s.heap.objs.size)) Q E { s with heap := s.heap.push { cls := .type "slice", data := .fields #[.int i ui, .none, .none] } } := by
  refine slice_strN_sn hF hN (fun h' t' k a b => ?_) hs ht (by rw [tx_length, sizeLine_eq]; exact hz)
  have e : Txt.slice (tx l) (some i) none = tx l' := by
    show StrLaws.sliceText (tx l) (some i) none = _
    rw [tx_slice_sn h0 h1, he]
  rw [e]
  exact h h' t' k a b
theorem r_itemE {i : Int} {c : Nat} {u : Tok} (he : l.getD i.toNat 0 = c) (h0 : 0 ≤ i) (h1 : i < l.length) (hz : l.length ≤ 16777216) (h : ∀ t' k, Q (.str (tx [c]) t') { s with toks := k })
    (hs : subscripted slice false (.str (tx l) t) (.int i u) = operate [.str (tx l) t, .int i u] (getItem (.str (tx l) t) (.int i u)) := by with_unfolding_all rfl)
    (ht : ∀ r, letTemporaryGo value (.str (tx l) t) r = pure () := by intro _; with_unfolding_all rfl) :
    wpAny (model prog w) A (subscriptTail value slice (.str (tx l) t) (.int i u)) Q E s := by
  subst he
  exact r_item h0 h1 hz h hs ht
theorem sp_tx1 : Str.ofString " " = tx [32] := by decide +kernel
theorem eq_sp_t {c : Nat} {u : Tok} (hc : c = 32) (h : Q (.bool true) s) : wpAny (model prog w) A (compareOp .Eq (.str (tx [c]) t) (.str (Str.ofString " ") u)) Q E s := by
  rw [sp_tx1, hc]
  refine r_eq ?_
  exact h
theorem eq_sp_f {c : Nat} {u : Tok} (hc : c ≠ 32) (h : Q (.bool false) s) : wpAny (model prog w) A (compareOp .Eq (.str (tx [c]) t) (.str (Str.ofString " ") u)) Q E s := by
  rw [sp_tx1]
  refine r_eq ?_
  have : ([c] == [32]) = false := by simp [hc]
  rw [this]
  exact h
end
end Mine

/-! PS2 -/
namespace Mine
def simDef : List Stmt × Scope := match (PySem.Challenge.pw_fe0311_01.main.body[2]? : Option Stmt) with
  | some (.FunctionDef _ _ b _ _ _ sc _ _ _) => (b, sc)
  | _ => ([], PySem.Challenge.pw_fe0311_01.main.scope)
def simScope : Scope := simDef.2
def simBody : List Stmt := match (simDef.1[3]? : Option Stmt) with | some (.For _ _ b _ _) => b | _ => []
/-- the place whose sign an inserted piece follows -/
def iaOf (ca : List Nat) (i1 : Nat) : Nat := if i1 = 0 ∨ ca.getD (i1 - 1) 0 = 32 then i1 else i1 - 1
def caseAll (b : Bool) (l : List Nat) : List Nat := if b then l.map upC else l.map loC
/-- what one piece adds -/
def simP (ca : List Nat) (i1 : Nat) (p : Pc) : List Nat :=
  if p.tag = 1 then [] else if p.tag = 2 then caseAll (isUp (ca.getD (iaOf ca i1) 0)) p.two
  else if p.tag = 0 then p.one
  else List.zipWith castC p.one p.two ++ caseAll (isUp (p.one.getLastD 0)) (p.two.drop p.one.length)
def SimJ (L' : Nat) (rest0 : List (Addr × Obj)) (ca pl : List Nat) (t0 u0 : Tok) (r : List Nat) (m : Str → Option Value) (nx : List (Addr × Obj)) : Prop :=
  ∃ (o : Obj) (v : Option Value) (tr : Tok), nx = (L' + 1, o) :: rest0 ∧ o.data = .cell v ∧ m (Str.ofString "result") = some (.str (tx r) tr) ∧ m (Str.ofString "cased_text") = some (.str (tx ca) t0) ∧ m (Str.ofString "uncased_text") = some (.str (tx pl) u0)
def simEnv (L' : Addr) : Env := envOfC (Str.ofString "case_transfer_similar") simScope L' 24 (.ref 23)
/-- the loop's body over one piece -/
def SimBody (w : World) (pc : Pc) : Prop :=
  ∀ (p : Program) (loose : List Str) (mean : ExcName → Option Value) (mg mb : Str → Option Value) (g h : Heap) (L' : Nat) (env : Env) (s s₀ : Shared) (Q : Flow → Shared → Prop) (E : Value → Shared → Prop) (cPre cPost pPre pPost r : List Nat) (m : Str → Option Value) (rest0 own : List (Addr × Obj)) (o : Obj) (v : Option Value) (tr t0 u0 t1 t2 t3 t4 t5 : Tok),
    (hd.heap_39 w.params).In g → Top p loose mean mg mb g → PcOk pc → Asc (cPre ++ (pc.one ++ cPost)) → Asc (pPre ++ (pc.two ++ pPost)) → (cPre ++ (pc.one ++ cPost)).length ≤ 1000 → (pPre ++ (pc.two ++ pPost)).length ≤ 1000 → r.length ≤ 1000 →
    (pc.tag = 2 → iaOf (cPre ++ (pc.one ++ cPost)) cPre.length < (cPre ++ (pc.one ++ cPost)).length) →
    Fr g L' h (fun y => if y = Str.ofString "j2" then some (.int ((pPre.length + pc.two.length : Nat) : Int) t5) else if y = Str.ofString "j1" then some (.int (pPre.length : Int) t4) else if y = Str.ofString "i2" then some (.int ((cPre.length + pc.one.length : Nat) : Int) t3) else if y = Str.ofString "i1" then some (.int (cPre.length : Int) t2) else if y = Str.ofString "tag" then some (.str (tagS pc.tag) t1) else
      if y = Str.ofString "result" then some (.str (tx r) tr) else if y = Str.ofString "cased_text" then some (.str (tx (cPre ++ (pc.one ++ cPost))) t0) else if y = Str.ofString "uncased_text" then some (.str (tx (pPre ++ (pc.two ++ pPost))) u0) else m y) →
    News g L' h ((L' + 1, o) :: (rest0 ++ own)) → o.data = .cell v → OwnOff own ((L' + 1) :: rest0.map (·.1)) → OwnOff (rest0 ++ own) [L' + 1] → s = { s₀ with heap := h, toks := s.toks } →
    PassesOwn (model PySem.Challenge.rw_fe0311_01.row.prog w) ((callerA.deeper env).deeper (simEnv L')) (simEnv L') E →
    wpAny (model PySem.Challenge.rw_fe0311_01.row.prog w) ((callerA.deeper env).deeper (simEnv L')) (execs simBody (simEnv L')) (InvPostG g L' (SimJ L' rest0 (cPre ++ (pc.one ++ cPost)) (pPre ++ (pc.two ++ pPost)) t0 u0 (r ++ simP (cPre ++ (pc.one ++ cPost)) cPre.length pc)) own s₀ Q) E s
theorem simTurn_end {g h' : Heap} {L' tk : Nat} {m' : Str → Option Value} {rest0 own news' : List (Addr × Obj)} {o : Obj} {v : Option Value} {ca pl r : List Nat} {t0 u0 tr : Tok} {s₁ : Shared}
    (FF : Fr g L' h' m') (NN : News g L' h' news') (hsub : ∀ p ∈ (L' + 1, o) :: (rest0 ++ own), p ∈ news') (ho : OwnOff own ((L' + 1) :: rest0.map (·.1))) (hv : o.data = .cell v)
    (e1 : m' (Str.ofString "result") = some (.str (tx r) tr)) (e2 : m' (Str.ofString "cased_text") = some (.str (tx ca) t0)) (e3 : m' (Str.ofString "uncased_text") = some (.str (tx pl) u0)) :
    InvEndG g L' (SimJ L' rest0 ca pl t0 u0 r) own s₁ { s₁ with heap := h', toks := tk } := by
  refine InvEndG.intro FF NN (nx := (L' + 1, o) :: rest0) ⟨o, v, tr, rfl, hv, e1, e2, e3⟩ ho (fun p hp => hsub p ?_) (fun p hp => hsub p (.tail _ (List.mem_append.mpr (.inr hp))))
  rcases List.mem_cons.mp hp with rfl | hp
  · exact .head _
  · exact .tail _ (List.mem_append.mpr (.inl hp))
end Mine

/-! PS3 -/
namespace Mine
theorem drop_take_mid {a b c : List Nat} : ((a ++ (b ++ c)).drop ((a.length : Nat) : Int).toNat).take ((((a.length + b.length : Nat) : Int)) - (a.length : Int)).toNat = b := by
  have e1 : ((a.length : Nat) : Int).toNat = a.length := by omega
  have e2 : ((((a.length + b.length : Nat) : Int)) - (a.length : Int)).toNat = b.length := by omega
  rw [e1, e2, List.drop_left, List.take_left]
section
local macro_rules | `(tactic| walk_at "eval ListComp") => `(tactic| refine Mine.halt ?_)
local macro_rules | `(tactic| walk_at "exec For") => `(tactic| refine Mine.halt ?_)
local macro_rules | `(tactic| walk_at "call ref") => `(tactic| refine Mine.halt ?_)
local macro_rules | `(tactic| walk_at "InvEndG") => `(tactic| refine Mine.halt ?_)
local macro_rules | `(tactic| walk_at "truthy str") => `(tactic| ((with_reducible refine r_truthy ?hz ?_); (case hz => omega); intro _))
local macro_rules | `(tactic| walk_at "subscriptTail Name Slice str ref") => `(tactic| ((with_reducible show wpAny _ _ (subscriptTail _ (Expr.Slice (some _) (some _) none _) _ _) _ _ _); (rename Fr _ _ _ _ => F'); (rename News _ _ _ _ => N'); (refine r_slice_ss (s := ⟨_, _, _, _, _⟩) F' N' (by assumption) (by omega) (by omega) (by omega) (by omega) ?_); clear F' N'; intro _ _ _ _ _))
local macro_rules | `(tactic| walk_at "inplaceOp Add str str") => `(tactic| ((with_reducible refine r_iadd ?hz ?_); (case hz => (first | omega | (simp only [List.length_map]; omega))); intro _ _))
local macro_rules | `(tactic| walk_at "subscriptTail Name BinOp str int") => `(tactic| ((refine r_itemE (by assumption) (by omega) (by omega) (by omega) ?_); intro _ _))
local macro_rules | `(tactic| walk_at "subscriptTail Name Name str int") => `(tactic| ((refine r_itemE (by assumption) (by omega) (by omega) (by omega) ?_); intro _ _))
local macro_rules | `(tactic| walk_at "compareOp Eq str str") => `(tactic| (first | (with_reducible refine eq_sp_t (by assumption) ?_) | (with_reducible refine eq_sp_f (by assumption) ?_)))
local macro_rules | `(tactic| walk_at "call builtin:str.isupper") => `(tactic| (with_reducible refine r_isupper (by assumption) ?_))
local macro_rules | `(tactic| walk_at "call builtin:str.upper") => `(tactic| ((with_reducible refine r_upper (by assumption) (by omega) ?_); intro _ _))
local macro_rules | `(tactic| walk_at "call builtin:str.lower") => `(tactic| ((with_reducible refine r_lower (by assumption) (by omega) ?_); intro _ _))
set_option maxHeartbeats 8000000 in
theorem sim_del (w : World) (pc : Pc) (ht : pc.tag = 1) : SimBody w pc := by
  intro p loose mean mg mb g h L' env s s₀ Q E cPre cPost pPre pPost r m rest0 own o v tr t0 u0 t1 t2 t3 t4 t5 X T hok hac hap hzc hzp hzr hia F N ho hoo hor hs hE
  rw [hs]
  have hsim : simP (cPre ++ (pc.one ++ cPost)) cPre.length pc = [] := by simp [simP, ht]
  rw [hsim, List.append_nil]
  rw [ht] at F
  change Fr g L' h (fun y => if y = _ then _ else if y = _ then _ else if y = _ then _ else if y = _ then _ else if y = _ then some (.str (Str.ofString "delete") t1) else _) at F
  generalize hca : cPre ++ (pc.one ++ cPost) = ca at *
  generalize hpl : pPre ++ (pc.two ++ pPost) = pl at *
  generalize hrest : rest0 ++ own = rest at N hor
  conv in simBody => whnf
  unfold simEnv at *
  w_top off
  revert X; k_fill; intro X
  k_steps
  unfold Mine.Halt
  subst hrest
  (rename Fr _ _ _ _ => FF)
  (rename News _ _ _ _ => NN)
  exact simTurn_end FF NN (fun _ h => h) hoo ho rfl rfl rfl
set_option maxHeartbeats 8000000 in
theorem sim_eq (w : World) (pc : Pc) (ht : pc.tag = 0) : SimBody w pc := by
  intro p loose mean mg mb g h L' env s s₀ Q E cPre cPost pPre pPost r m rest0 own o v tr t0 u0 t1 t2 t3 t4 t5 X T hok hac hap hzc hzp hzr hia F N ho hoo hor hs hE
  rw [hs]
  have hsim : simP (cPre ++ (pc.one ++ cPost)) cPre.length pc = pc.one := by simp [simP, ht]
  rw [hsim]
  rw [ht] at F
  change Fr g L' h (fun y => if y = _ then _ else if y = _ then _ else if y = _ then _ else if y = _ then _ else if y = _ then some (.str (Str.ofString "equal") t1) else _) at F
  have hs1 : ((cPre ++ (pc.one ++ cPost)).drop ((cPre.length : Nat) : Int).toNat).take ((((cPre.length + pc.one.length : Nat) : Int)) - (cPre.length : Int)).toNat = pc.one := drop_take_mid
  have hs2 : ((pPre ++ (pc.two ++ pPost)).drop ((pPre.length : Nat) : Int).toNat).take ((((pPre.length + pc.two.length : Nat) : Int)) - (pPre.length : Int)).toNat = pc.two := drop_take_mid
  have hl1 : cPre.length + pc.one.length ≤ (cPre ++ (pc.one ++ cPost)).length := by simp only [List.length_append]; omega
  have hl2 : pPre.length + pc.two.length ≤ (pPre ++ (pc.two ++ pPost)).length := by simp only [List.length_append]; omega
  have ho3 := hok.l1
  have ht3 := hok.l2
  have ha2 : Asc pc.two := fun c hc => hap c (List.mem_append.mpr (.inr (List.mem_append.mpr (.inl hc))))
  have ha1 : Asc pc.one := fun c hc => hac c (List.mem_append.mpr (.inr (List.mem_append.mpr (.inl hc))))
  generalize hca : cPre ++ (pc.one ++ cPost) = ca at *
  generalize hpl : pPre ++ (pc.two ++ pPost) = pl at *
  generalize hrest : rest0 ++ own = rest at N hor
  conv in simBody => whnf
  unfold simEnv at *
  w_top off
  revert X; k_fill; intro X
  k_steps
  unfold Mine.Halt
  subst hrest
  (rename Fr _ _ _ _ => FF)
  (rename News _ _ _ _ => NN)
  exact simTurn_end FF NN (fun _ h => h) hoo ho rfl rfl rfl
set_option maxHeartbeats 8000000 in
theorem sim_ins (w : World) (pc : Pc) (ht : pc.tag = 2) : SimBody w pc := by
  intro p loose mean mg mb g h L' env s s₀ Q E cPre cPost pPre pPost r m rest0 own o v tr t0 u0 t1 t2 t3 t4 t5 X T hok hac hap hzc hzp hzr hia F N ho hoo hor hs hE
  rw [hs]
  have hsim : simP (cPre ++ (pc.one ++ cPost)) cPre.length pc = caseAll (isUp ((cPre ++ (pc.one ++ cPost)).getD (iaOf (cPre ++ (pc.one ++ cPost)) cPre.length) 0)) pc.two := by simp [simP, ht]
  rw [hsim]
  have hia := hia ht
  rw [ht] at F
  change Fr g L' h (fun y => if y = _ then _ else if y = _ then _ else if y = _ then _ else if y = _ then _ else if y = _ then some (.str (Str.ofString "insert") t1) else _) at F
  have hs1 : ((cPre ++ (pc.one ++ cPost)).drop ((cPre.length : Nat) : Int).toNat).take ((((cPre.length + pc.one.length : Nat) : Int)) - (cPre.length : Int)).toNat = pc.one := drop_take_mid
  have hs2 : ((pPre ++ (pc.two ++ pPost)).drop ((pPre.length : Nat) : Int).toNat).take ((((pPre.length + pc.two.length : Nat) : Int)) - (pPre.length : Int)).toNat = pc.two := drop_take_mid
  have hl1 : cPre.length + pc.one.length ≤ (cPre ++ (pc.one ++ cPost)).length := by simp only [List.length_append]; omega
  have hl2 : pPre.length + pc.two.length ≤ (pPre ++ (pc.two ++ pPost)).length := by simp only [List.length_append]; omega
  have ho3 := hok.l1
  have ht3 := hok.l2
  have ha2 : Asc pc.two := fun c hc => hap c (List.mem_append.mpr (.inr (List.mem_append.mpr (.inl hc))))
  have ha1 : Asc pc.one := fun c hc => hac c (List.mem_append.mpr (.inr (List.mem_append.mpr (.inl hc))))
  generalize hca : cPre ++ (pc.one ++ cPost) = ca at *
  generalize hpl : pPre ++ (pc.two ++ pPost) = pl at *
  generalize hrest : rest0 ++ own = rest at N hor
  conv in simBody => whnf
  unfold simEnv at *
  w_top off
  revert X; k_fill; intro X
  have hasc : ∀ i, ca.getD i 0 < 128 := by
    intro i
    rw [List.getD_eq_getElem?_getD]
    cases e : ca[i]? with
    | none => decide
    | some x => exact hac x (List.mem_of_getElem? e)
  by_cases q1 : cPre.length = 0
  · have e1 : iaOf ca cPre.length = cPre.length := by simp [iaOf, q1]
    rw [e1] at hia ⊢
    obtain ⟨cc, hcc⟩ : ∃ cc, ca.getD (cPre.length : Int).toNat 0 = cc := ⟨_, rfl⟩
    have e2 : ca.getD cPre.length 0 = cc := hcc
    rw [e2]
    have hc1 : cc < 128 := hcc ▸ hasc _
    k_steps
    all_goals first
      | (exfalso; omega)
      | (rename isUp _ = true => eu
         have e' : caseAll (isUp cc) pc.two = pc.two.map upC := by simp [caseAll, eu]
         rw [e']
         unfold Mine.Halt
         subst hrest
         (rename Fr _ _ _ _ => FF)
         (rename News _ _ _ _ => NN)
         exact simTurn_end FF NN (fun _ h => h) hoo ho rfl rfl rfl)
      | (rename isUp _ = false => eu
         have e' : caseAll (isUp cc) pc.two = pc.two.map loC := by simp [caseAll, eu]
         rw [e']
         unfold Mine.Halt
         subst hrest
         (rename Fr _ _ _ _ => FF)
         (rename News _ _ _ _ => NN)
         exact simTurn_end FF NN (fun _ h => h) hoo ho rfl rfl rfl)
  · obtain ⟨dd, hdd⟩ : ∃ dd, ca.getD ((cPre.length : Int) - 1).toNat 0 = dd := ⟨_, rfl⟩
    have e3 : ((cPre.length : Int) - 1).toNat = cPre.length - 1 := by omega
    have e4 : ca.getD (cPre.length - 1) 0 = dd := e3 ▸ hdd
    have hd1 : dd < 128 := hdd ▸ hasc _
    by_cases q2 : dd = 32
    · have e1 : iaOf ca cPre.length = cPre.length := by
        unfold iaOf
        rw [if_pos (Or.inr (by rw [e4, q2]))]
      rw [e1] at hia ⊢
      obtain ⟨cc, hcc⟩ : ∃ cc, ca.getD (cPre.length : Int).toNat 0 = cc := ⟨_, rfl⟩
      have e2 : ca.getD cPre.length 0 = cc := hcc
      rw [e2]
      have hc1 : cc < 128 := hcc ▸ hasc _
      k_steps
      all_goals first
        | (exfalso; omega)
        | (rename isUp _ = true => eu
           have e' : caseAll (isUp cc) pc.two = pc.two.map upC := by simp [caseAll, eu]
           rw [e']
           unfold Mine.Halt
           subst hrest
           (rename Fr _ _ _ _ => FF)
           (rename News _ _ _ _ => NN)
           exact simTurn_end FF NN (fun _ h => h) hoo ho rfl rfl rfl)
        | (rename isUp _ = false => eu
           have e' : caseAll (isUp cc) pc.two = pc.two.map loC := by simp [caseAll, eu]
           rw [e']
           unfold Mine.Halt
           subst hrest
           (rename Fr _ _ _ _ => FF)
           (rename News _ _ _ _ => NN)
           exact simTurn_end FF NN (fun _ h => h) hoo ho rfl rfl rfl)
    · have e1 : iaOf ca cPre.length = cPre.length - 1 := by
        unfold iaOf
        rw [if_neg (by rintro (h | h); exact q1 h; rw [e4] at h; exact q2 h)]
      rw [e1, e4]
      rw [e1] at hia
      k_steps
      all_goals first
        | (exfalso; omega)
        | (rename isUp _ = true => eu
           have e' : caseAll (isUp dd) pc.two = pc.two.map upC := by simp [caseAll, eu]
           rw [e']
           unfold Mine.Halt
           subst hrest
           (rename Fr _ _ _ _ => FF)
           (rename News _ _ _ _ => NN)
           exact simTurn_end FF NN (fun _ h => h) hoo ho rfl rfl rfl)
        | (rename isUp _ = false => eu
           have e' : caseAll (isUp dd) pc.two = pc.two.map loC := by simp [caseAll, eu]
           rw [e']
           unfold Mine.Halt
           subst hrest
           (rename Fr _ _ _ _ => FF)
           (rename News _ _ _ _ => NN)
           exact simTurn_end FF NN (fun _ h => h) hoo ho rfl rfl rfl)
end
end Mine

/-! PS4 -/
namespace Mine
theorem drop_take_mid1 {a b c : List Nat} : ((a ++ (b ++ c)).drop ((a.length : Nat) : Int).toNat).take ((((a.length + b.length : Nat) : Int)) - (a.length : Int)).toNat = b := by
  have e1 : ((a.length : Nat) : Int).toNat = a.length := by omega
  have e2 : ((((a.length + b.length : Nat) : Int)) - (a.length : Int)).toNat = b.length := by omega
  rw [e1, e2, List.drop_left, List.take_left]
theorem five {m : Str → Option Value} {a b c d e : Str} {va vb vc vd ve : Value} (ha : m a = some va) (hb : m b = some vb) (hc : m c = some vc) (hd : m d = some vd) (he : m e = some ve) :
    m = fun y => if y = a then some va else if y = b then some vb else if y = c then some vc else if y = d then some vd else if y = e then some ve else m y := by
  funext y
  split
  · rename_i q; rw [q, ha]
  split
  · rename_i q; rw [q, hb]
  split
  · rename_i q; rw [q, hc]
  split
  · rename_i q; rw [q, hd]
  split
  · rename_i q; rw [q, he]
  · rfl
theorem zip_take {a b : List Nat} {i c d : Nat} (f : Nat → Nat → Nat) (hc : a[i]? = some c) (hd : b[i]? = some d) : (List.zipWith f a b).take (i + 1) = (List.zipWith f a b).take i ++ [f c d] := by
  rw [List.take_add_one]
  have : (List.zipWith f a b)[i]? = some (f c d) := by rw [List.getElem?_zipWith, hc, hd]
  rw [this]
  rfl
def RepJ (cell : Addr × Obj) (rest : List (Addr × Obj)) (ca pl r one two : List Nat) (t0 u0 : Tok) (i : Nat) (m : Str → Option Value) (nx : List (Addr × Obj)) : Prop :=
  ∃ t6 t7 t8, nx = cell :: rest ∧ m (Str.ofString "cased_seq") = some (.str (tx one) t6) ∧ m (Str.ofString "uncased_seq") = some (.str (tx two) t7) ∧ m (Str.ofString "result") = some (.str (tx (r ++ (List.zipWith castC one two).take i)) t8) ∧
    m (Str.ofString "cased_text") = some (.str (tx ca) t0) ∧ m (Str.ofString "uncased_text") = some (.str (tx pl) u0)
theorem repTurn_end {g h' : Heap} {L' tk : Nat} {m' : Str → Option Value} {cell : Addr × Obj} {rest own : List (Addr × Obj)} {ca pl r one two rr : List Nat} {t0 u0 t6 t7 t8 : Tok} {i : Nat} {s₁ : Shared}
    (FF : Fr g L' h' m') (NN : News g L' h' (cell :: (rest ++ own))) (ho : OwnOff own (cell.1 :: rest.map (·.1)))
    (e1 : m' (Str.ofString "cased_seq") = some (.str (tx one) t6)) (e2 : m' (Str.ofString "uncased_seq") = some (.str (tx two) t7)) (e3 : m' (Str.ofString "result") = some (.str (tx rr) t8)) (e4 : m' (Str.ofString "cased_text") = some (.str (tx ca) t0)) (e5 : m' (Str.ofString "uncased_text") = some (.str (tx pl) u0))
    (hr : rr = r ++ (List.zipWith castC one two).take (i + 1)) : InvEndG g L' (RepJ cell rest ca pl r one two t0 u0 (i + 1)) own s₁ { s₁ with heap := h', toks := tk } := by
  subst hr
  refine InvEndG.intro FF NN (nx := cell :: rest) ⟨t6, t7, t8, rfl, e1, e2, e3, e4, e5⟩ ho (fun p hp => ?_) (fun p hp => .tail _ (List.mem_append.mpr (.inr hp)))
  rcases List.mem_cons.mp hp with rfl | hp
  · exact .head _
  · exact .tail _ (List.mem_append.mpr (.inl hp))
theorem caseAll_map (b : Bool) (l : List Nat) : caseAll b l = l.map fun c => if b then upC c else loC c := by
  unfold caseAll
  cases b <;> simp
section
local macro_rules | `(tactic| walk_at "eval Name") => `(tactic| (k_dflt (refine blockCell (by with_unfolding_all rfl) (by assumption) ?_)))
local macro_rules | `(tactic| walk_at "eval ListComp") => `(tactic| (k_here; k_dflt (refine listComp_text (by with_unfolding_all rfl) (by decide) (by rfl) (by decide) (by rfl) ?_)))
local macro_rules | `(tactic| walk_at "call builtin:len") => `(tactic| ((with_reducible refine r_len ?hz ?_); (case hz => omega); intro _ _))
local macro_rules | `(tactic| walk_at "subscriptTail Name UnaryOp str int") => `(tactic| ((with_reducible refine r_last ?hl ?hz ?_); (case hl => assumption); (case hz => omega); intro _ _))
local macro_rules | `(tactic| walk_at "subscriptTail Name Slice str ref") => `(tactic| ((with_reducible show wpAny _ _ (subscriptTail _ (Expr.Slice (some _) none none _) _ _) _ _ _); (rename Fr _ _ _ _ => F'); (rename News _ _ _ _ => N'); (refine r_slice_sn (s := ⟨_, _, _, _, _⟩) F' N' (by assumption) (by omega) (by omega) (by omega) ?_); clear F' N'; intro _ _ _ _ _))
local macro_rules | `(tactic| walk_at "call type:zip") => `(tactic| refine Mine.halt ?_)
local macro_rules | `(tactic| walk_at "exec For Tuple Call") => `(tactic| refine Mine.halt ?_)
local macro_rules | `(tactic| walk_at "call ref") => `(tactic| refine Mine.halt ?_)
local macro_rules | `(tactic| walk_at "InvEndG") => `(tactic| refine Mine.halt ?_)
local macro_rules | `(tactic| walk_at "truthy str") => `(tactic| ((with_reducible refine r_truthy ?hz ?_); (case hz => omega); intro _))
local macro_rules | `(tactic| walk_at "subscriptTail Name Slice str ref") => `(tactic| ((with_reducible show wpAny _ _ (subscriptTail _ (Expr.Slice (some _) (some _) none _) _ _) _ _ _); (rename Fr _ _ _ _ => F'); (rename News _ _ _ _ => N'); (refine r_slice_ss (s := ⟨_, _, _, _, _⟩) F' N' (by assumption) (by omega) (by omega) (by omega) (by omega) ?_); clear F' N'; intro _ _ _ _ _))
local macro_rules | `(tactic| walk_at "inplaceOp Add str str") => `(tactic| ((with_reducible refine r_iadd ?hz ?_); (case hz => (first | omega | (simp only [List.length_map, List.length_append, List.length_cons, List.length_nil]; omega))); intro _ _))
local macro_rules | `(tactic| walk_at "subscriptTail Name BinOp str int") => `(tactic| ((refine r_itemE (by assumption) (by omega) (by omega) (by omega) ?_); intro _ _))
local macro_rules | `(tactic| walk_at "subscriptTail Name Name str int") => `(tactic| ((refine r_itemE (by assumption) (by omega) (by omega) (by omega) ?_); intro _ _))
local macro_rules | `(tactic| walk_at "compareOp Eq str str") => `(tactic| (first | (with_reducible refine eq_sp_t (by assumption) ?_) | (with_reducible refine eq_sp_f (by assumption) ?_)))
local macro_rules | `(tactic| walk_at "call builtin:str.isupper") => `(tactic| (with_reducible refine r_isupper (by assumption) ?_))
local macro_rules | `(tactic| walk_at "call builtin:str.upper") => `(tactic| ((with_reducible refine r_upper (by assumption) (by first | omega | simp) ?_); intro _ _))
local macro_rules | `(tactic| walk_at "call builtin:str.lower") => `(tactic| ((with_reducible refine r_lower (by assumption) (by first | omega | simp) ?_); intro _ _))
set_option maxHeartbeats 8000000 in
theorem sim_rep (w : World) (pc : Pc) (ht : pc.tag = 3) : SimBody w pc := by
  intro p loose mean mg mb g h L' env s s₀ Q E cPre cPost pPre pPost r m rest0 own o v tr t0 u0 t1 t2 t3 t4 t5 X T hok hac hap hzc hzp hzr hia F N ho hoo hor hs hE
  rw [hs]
  have hsim : simP (cPre ++ (pc.one ++ cPost)) cPre.length pc = List.zipWith castC pc.one pc.two ++ caseAll (isUp (pc.one.getLastD 0)) (pc.two.drop pc.one.length) := by simp [simP, ht]
  rw [hsim]
  have hone := hok.rep ht
  rw [ht] at F
  change Fr g L' h (fun y => if y = _ then _ else if y = _ then _ else if y = _ then _ else if y = _ then _ else if y = _ then some (.str (Str.ofString "replace") t1) else _) at F
  have hs1 : ((cPre ++ (pc.one ++ cPost)).drop ((cPre.length : Nat) : Int).toNat).take ((((cPre.length + pc.one.length : Nat) : Int)) - (cPre.length : Int)).toNat = pc.one := drop_take_mid1
  have hs2 : ((pPre ++ (pc.two ++ pPost)).drop ((pPre.length : Nat) : Int).toNat).take ((((pPre.length + pc.two.length : Nat) : Int)) - (pPre.length : Int)).toNat = pc.two := drop_take_mid1
  have hl1 : cPre.length + pc.one.length ≤ (cPre ++ (pc.one ++ cPost)).length := by simp only [List.length_append]; omega
  have hl2 : pPre.length + pc.two.length ≤ (pPre ++ (pc.two ++ pPost)).length := by simp only [List.length_append]; omega
  have ha2 : Asc pc.two := fun c hc => hap c (List.mem_append.mpr (.inr (List.mem_append.mpr (.inl hc))))
  have ha1 : Asc pc.one := fun c hc => hac c (List.mem_append.mpr (.inr (List.mem_append.mpr (.inl hc))))
  have hz2 : pc.two.length ≤ 1000 := Nat.le_trans hok.l2 (by decide)
  have hz1 : pc.one.length ≤ 1000 := Nat.le_trans hok.l1 (by decide)
  generalize hca : cPre ++ (pc.one ++ cPost) = ca at *
  generalize hpl : pPre ++ (pc.two ++ pPost) = pl at *
  generalize hrest : rest0 ++ own = rest at N hor
  conv in simBody => whnf
  unfold simEnv at *
  w_top off
  revert X; k_fill; intro X
  by_cases hlen : pc.one.length = pc.two.length
  · have e1 : caseAll (isUp (pc.one.getLastD 0)) (pc.two.drop pc.one.length) = [] := by
      rw [hlen, List.drop_length]; unfold caseAll; split <;> rfl
    rw [e1, List.append_nil]
    k_steps
    · unfold Mine.Halt
      refine (matching_call w pc.one pc.two ha1 ha2 hlen (by omega) _ _).use X T (by assumption) (by assumption) rfl (by simp only [depth_deeper, depth_caller]; decide) (by simp only [units_deeper, units_caller]; decide) ?_
      rintro v2 h2 tk2 ⟨t2, rfl⟩ F2 N2
      have hz3 : (List.zipWith castC pc.one pc.two).length ≤ 1000 := by rw [List.length_zipWith]; omega
      k_steps
      unfold Mine.Halt
      subst hrest
      (rename Fr _ _ _ _ => FF)
      (rename News _ _ _ _ => NN)
      exact simTurn_end FF NN (fun _ h => h) hoo ho rfl rfl rfl
    · exfalso
      omega
  · k_steps
    · exfalso
      omega
    unfold Mine.Halt
    refine For_turns (by assumption) ?_ (hE := hE)
    k_steps
    unfold Mine.Halt
    refine zipTurns (fun i m nx => RepJ (L' + 1, o) rest ca pl r pc.one pc.two t0 u0 i m nx) rfl ha1 ha2 (by assumption) (by assumption) ⟨_, _, _, rfl, rfl, rfl, by rw [List.take_zero, List.append_nil]; rfl, rfl, rfl⟩ rfl rfl rfl ?_ ?_
    · rintro i c d uc ud m₁ nx h₁ tk₁ own₁ hc hd ⟨t6, t7, t8, rfl, f1, f2, f3, f4, f5⟩ ho₁ F₁ N₁
      rw [five f1 f2 f3 f4 f5] at F₁
      have hc1 : c < 128 := ha1 c (List.mem_of_getElem? hc)
      have hd1 : Asc [d] := asc_one (ha2 d (List.mem_of_getElem? hd))
      have hzt := zip_take castC hc hd
      have hzl : ((List.zipWith castC pc.one pc.two).take i).length ≤ 1000 := by rw [List.length_take, List.length_zipWith]; omega
      obtain ⟨rr, hrr⟩ : ∃ rr, rr = r ++ (List.zipWith castC pc.one pc.two).take i := ⟨_, rfl⟩
      have hrl : rr.length ≤ 2000 := by rw [hrr, List.length_append]; omega
      rw [← hrr] at F₁
      dsimp only [List.cons_append] at N₁
      generalize hrest₁ : rest ++ own₁ = rest₁ at N₁
      k_steps
      all_goals (
        have hfin : rr ++ [castC c d] = r ++ (List.zipWith castC pc.one pc.two).take (i + 1) := by rw [hzt, hrr, List.append_assoc]
        unfold Mine.Halt
        subst hrest₁
        (rename Fr _ _ _ _ => FF)
        (rename News _ _ _ _ => NN)
        refine repTurn_end FF NN ho₁ rfl rfl rfl rfl rfl ?_
        rw [← hfin]
        (rename isUp c = _ => eu)
        simp only [castC, eu]
        rfl)
    · rintro m₁ nx h₁ tk₁ ⟨t6, t7, t8, rfl, f1, f2, f3, f4, f5⟩ F₁ N₁
      rw [five f1 f2 f3 f4 f5] at F₁
      have hta : (List.zipWith castC pc.one pc.two).take (min pc.one.length pc.two.length) = List.zipWith castC pc.one pc.two := by
        rw [List.take_of_length_le]; rw [List.length_zipWith]; exact Nat.le_refl _
      rw [hta] at F₁
      have hzl : (List.zipWith castC pc.one pc.two).length ≤ 1000 := by rw [List.length_zipWith]; omega
      have hs3 : pc.two.drop ((pc.one.length : Nat) : Int).toNat = pc.two.drop pc.one.length := rfl
      have hgl : pc.one.getLast hone < 128 := ha1 _ (List.getLast_mem hone)
      have hgd : pc.one.getLastD 0 = pc.one.getLast hone := by
        rw [List.getLastD_eq_getLast?, List.getLast?_eq_some_getLast hone]; rfl
      dsimp only
      k_steps
      · have hz4 : (pc.two.drop pc.one.length).length ≤ 1000 := by rw [List.length_drop]; omega
        refine ⟨pc.two.drop pc.one.length, _, fun c => [if isUp (pc.one.getLast hone) then upC c else loC c], rfl, rfl, by omega, ?_, ?_⟩
        · intro C c u s₃ m₃ E' hcl hn hm hk
          have hcell : s₃.heap.IsCell (L' + 1) (some (.bool (isUp (pc.one.getLast hone)))) := ⟨_, hk _ _ (News.get (by assumption) (.head _)), by assumption⟩
          have hd1 : Asc [c] := asc_one (ha2 c (List.mem_of_mem_drop hcl))
          have F3 := Fr.keeps (by assumption) hk
          have N3 : News g L' s₃.heap [] := News.nil
          k_steps
          · (rename isUp _ = true => eu)
            have e9 : [if isUp (pc.one.getLast hone) = true then upC c else loC c] = List.map upC [c] := by simp [eu]
            rw [e9]
            exact EltEnd.now
          · (rename isUp _ = false => eu)
            have e9 : [if isUp (pc.one.getLast hone) = true then upC c else loC c] = List.map loC [c] := by simp [eu]
            rw [e9]
            exact EltEnd.now
        · intro D h2 tk2 ys hD hL2 hS hk
          have F3 := Fr.keeps (by assumption) hk
          have N3 := News.grown (by assumption) hk
          k_steps
          refine join_tx hL2 hS (by rw [flat_one, List.length_map]; omega) fun t' k => ?_
          rw [flat_one]
          k_steps
          have e9 : r ++ (List.zipWith castC pc.one pc.two ++ caseAll (isUp (pc.one.getLastD 0)) (pc.two.drop pc.one.length)) = r ++ List.zipWith castC pc.one pc.two ++ (pc.two.drop pc.one.length).map fun c => if isUp (pc.one.getLast hone) = true then upC c else loC c := by
            rw [caseAll_map, hgd, List.append_assoc]
          rw [e9]
          unfold Mine.Halt
          subst hrest
          (rename Fr _ _ _ _ => FF)
          (rename News _ _ _ _ => NN)
          exact simTurn_end FF NN (fun _ h => h) hoo (by assumption) rfl rfl rfl
      · have e9 : r ++ (List.zipWith castC pc.one pc.two ++ caseAll (isUp (pc.one.getLastD 0)) (pc.two.drop pc.one.length)) = r ++ List.zipWith castC pc.one pc.two := by
          rw [List.drop_eq_nil_of_le (by omega), caseAll_map, List.map_nil, List.append_nil]
        rw [e9]
        unfold Mine.Halt
        subst hrest
        (rename Fr _ _ _ _ => FF)
        (rename News _ _ _ _ => NN)
        exact simTurn_end FF NN (fun _ h => h) hoo (by assumption) rfl rfl rfl
end
end Mine

/-! PS5 -/
namespace Mine
def simL (ca : List Nat) : Nat → List Pc → List Nat
  | _, [] => []
  | i, p :: r => simP ca i p ++ simL ca (i + p.one.length) r
theorem simL_snoc (ca : List Nat) (ps : List Pc) (p : Pc) : ∀ i, simL ca i (ps ++ [p]) = simL ca i ps ++ simP ca (i + (caOf ps).length) p := by
  induction ps with
  | nil => intro i; simp [simL, caOf]
  | cons q r ih =>
    intro i
    have e1 : (caOf (q :: r)).length = q.one.length + (caOf r).length := by simp [caOf]
    simp only [List.cons_append, simL, ih, e1, List.append_assoc, Nat.add_assoc]
theorem simP_len (ca : List Nat) (i : Nat) {p : Pc} (h : PcOk p) : (simP ca i p).length ≤ 3 := by
  have h1 := h.l1
  have h2 := h.l2
  unfold simP caseAll
  split
  · simp
  split
  · split <;> simpa using h2
  split
  · exact h1
  · split <;> simp <;> omega
theorem simL_len (ca : List Nat) {ps : List Pc} (h : ∀ p ∈ ps, PcOk p) : ∀ i, (simL ca i ps).length ≤ 3 * ps.length := by
  induction ps with
  | nil => intro i; simp [simL]
  | cons q r ih =>
    intro i
    have h1 := simP_len ca i (h q (.head _))
    have h2 := ih (fun p hp => h p (.tail _ hp)) (i + q.one.length)
    simp only [simL, List.length_append, List.length_cons]
    omega
theorem rowsOf_get (ps : List Pc) : ∀ (a b i : Nat), (rowsOf a b ps)[i]? = (ps[i]?).map fun p => ⟨p.tag, a + (caOf (ps.take i)).length, a + (caOf (ps.take i)).length + p.one.length, b + (plOf (ps.take i)).length, b + (plOf (ps.take i)).length + p.two.length⟩ := by
  induction ps with
  | nil => intro a b i; simp [rowsOf]
  | cons q r ih =>
    intro a b i
    cases i with
    | zero => simp [rowsOf, caOf, plOf]
    | succ i =>
      simp only [rowsOf, List.getElem?_cons_succ, ih, List.take_succ_cons]
      have e1 : (caOf (q :: r.take i)).length = q.one.length + (caOf (r.take i)).length := by simp [caOf]
      have e2 : (plOf (q :: r.take i)).length = q.two.length + (plOf (r.take i)).length := by simp [plOf]
      simp only [e1, e2, Nat.add_assoc]
theorem three {m : Str → Option Value} {a b c : Str} {va vb vc : Value} (ha : m a = some va) (hb : m b = some vb) (hc : m c = some vc) :
    m = fun y => if y = a then some va else if y = b then some vb else if y = c then some vc else m y := by
  funext y
  split
  · rename_i q; rw [q, ha]
  split
  · rename_i q; rw [q, hb]
  split
  · rename_i q; rw [q, hc]
  · rfl
theorem split_at {ps : List Pc} {i : Nat} {pc : Pc} (h : ps[i]? = some pc) : ps = ps.take i ++ (pc :: ps.drop (i + 1)) := by
  obtain ⟨hi, e⟩ := List.getElem?_eq_some_iff.mp h
  rw [← e, List.getElem_cons_drop, List.take_append_drop]
theorem sim_all (w : World) {pc : Pc} (h : PcOk pc) : SimBody w pc := by
  have h3 := h.tag3
  have : pc.tag = 0 ∨ pc.tag = 1 ∨ pc.tag = 2 ∨ pc.tag = 3 := by omega
  rcases this with e | e | e | e
  · exact sim_eq w pc e
  · exact sim_del w pc e
  · exact sim_ins w pc e
  · exact sim_rep w pc e
theorem dat_row {tups : List (Addr × Obj)} {v : Value} {r : Row} (h : DatIn tups v (rowDat r)) : ∃ a n t1 t2 t3 t4 t5, v = .ref a ∧ (a, ({ cls := .type "tuple", data := .seq #[.str (tagS r.tag) t1, .int r.i1 t2, .int r.i2 t3, .int r.j1 t4, .int r.j2 t5] n } : Obj)) ∈ tups := by
  unfold rowDat at h
  cases h with
  | tuple hm hd =>
    cases hd with
    | cons h1 hd => cases hd with
      | cons h2 hd => cases hd with
        | cons h3 hd => cases hd with
          | cons h4 hd => cases hd with
            | cons h5 hd =>
              cases hd
              cases h1; cases h2; cases h3; cases h4; cases h5
              exact ⟨_, _, _, _, _, _, _, rfl, hm⟩
/-- each inserted piece has a sign to follow -/
def InsOk (ps : List Pc) : Prop := ∀ i pc, ps[i]? = some pc → pc.tag = 2 → iaOf (caOf ps) (caOf (ps.take i)).length < (caOf ps).length
set_option maxHeartbeats 4000000 in
theorem sim_turn (w : World) {p : Program} {loose : List Str} {mean : ExcName → Option Value} {mg mb : Str → Option Value} {g h : Heap} {L' : Nat} {env : Env} {s : Shared} {Q : Flow → Shared → Prop} {E : Value → Shared → Prop} {ps : List Pc} {pc : Pc} {i tk kk : Nat} {v : Value} {m₁ : Str → Option Value} {nx rest0 own tups : List (Addr × Obj)} {t0 u0 : Tok} {p1 p2 p3 p4 p5 tp : Pos}
    (X : (hd.heap_39 w.params).In g) (T : Top p loose mean mg mb g) (hok : ∀ p ∈ ps, PcOk p) (hps : ps.length ≤ 18) (hins : InsOk ps) (hp : ps[i]? = some pc)
    (hv : DatIn tups v (rowDat ⟨pc.tag, (caOf (ps.take i)).length, (caOf (ps.take i)).length + pc.one.length, (plOf (ps.take i)).length, (plOf (ps.take i)).length + pc.two.length⟩))
    (hJ : SimJ L' rest0 (caOf ps) (plOf ps) t0 u0 (simL (caOf ps) 0 (ps.take i)) m₁ nx) (ho : OwnOff own (nx.map (·.1))) (F : Fr g L' h m₁) (N : News g L' h (nx ++ own)) (htu : ∀ q ∈ tups, q ∈ rest0) (h0 : OwnOff rest0 [L' + 1])
    (hE : PassesOwn (model PySem.Challenge.rw_fe0311_01.row.prog w) ((callerA.deeper env).deeper (simEnv L')) (simEnv L') E) :
    wpAny (model PySem.Challenge.rw_fe0311_01.row.prog w) ((callerA.deeper env).deeper (simEnv L')) (assign (.Tuple [.Name (Str.ofString "tag") p1, .Name (Str.ofString "i1") p2, .Name (Str.ofString "i2") p3, .Name (Str.ofString "j1") p4, .Name (Str.ofString "j2") p5] kk tp) (simEnv L') v)
      (fun _ s₃ => wpAny (model PySem.Challenge.rw_fe0311_01.row.prog w) ((callerA.deeper env).deeper (simEnv L')) (execs simBody (simEnv L')) (InvPostG g L' (SimJ L' rest0 (caOf ps) (plOf ps) t0 u0 (simL (caOf ps) 0 (ps.take (i + 1)))) own { s with heap := h, toks := tk } Q) E s₃) E { s with heap := h, toks := tk } := by
  obtain ⟨a, n, t1, t2, t3, t4, t5, rfl, ha⟩ := dat_row hv
  obtain ⟨o, vo, tr, rfl, hvo, e1, e2, e3⟩ := hJ
  rw [three e1 e2 e3] at F
  have hsp := split_at hp
  have hca : caOf ps = caOf (ps.take i) ++ (pc.one ++ caOf (ps.drop (i + 1))) := by
    conv => lhs; rw [hsp]
    simp [caOf]
  have hpl : plOf ps = plOf (ps.take i) ++ (pc.two ++ plOf (ps.drop (i + 1))) := by
    conv => lhs; rw [hsp]
    simp [plOf]
  have hi : i < ps.length := by obtain ⟨hi, _⟩ := List.getElem?_eq_some_iff.mp hp; exact hi
  have hta : ps.take (i + 1) = ps.take i ++ [pc] := by
    rw [List.take_succ_eq_append_getElem hi]
    obtain ⟨_, e⟩ := List.getElem?_eq_some_iff.mp hp
    rw [e]
  have hokp := hok pc (List.mem_of_getElem? hp)
  have hr := simL_len (caOf ps) (fun q hq => hok q (List.mem_of_mem_take hq)) 0 (ps := ps.take i)
  have hrl : (ps.take i).length ≤ 18 := by rw [List.length_take]; omega
  have hz1 : (caOf ps).length ≤ 1000 := by have h1 := flat_le (·.one) (fun q hq => (hok q hq).l1); unfold caOf; omega
  have hz2 : (plOf ps).length ≤ 1000 := by have h1 := flat_le (·.two) (fun q hq => (hok q hq).l2); unfold plOf; omega
  have hla : ∀ c ∈ LoS, c < 128 := by decide
  have hha : ∀ c ∈ HiS, c < 128 := by decide
  have hap : Asc (plOf ps) := by
    intro c hc
    obtain ⟨l, hl, hcl⟩ := List.mem_flatten.mp hc
    obtain ⟨q, hq, rfl⟩ := List.mem_map.mp hl
    exact hla c ((hok q hq).lo c hcl)
  have hac : Asc (caOf ps) := by
    intro c hc
    obtain ⟨l, hl, hcl⟩ := List.mem_flatten.mp hc
    obtain ⟨q, hq, rfl⟩ := List.mem_map.mp hl
    exact hha c ((hok q hq).hi c hcl)
  have hia := hins i pc hp
  have hg := N _ (List.mem_append.mpr (.inl (.tail _ (htu _ ha))))
  have hT : IsTup h a #[.str (tagS pc.tag) t1, .int (caOf (ps.take i)).length t2, .int ((caOf (ps.take i)).length + pc.one.length : Nat) t3, .int (plOf (ps.take i)).length t4, .int ((plOf (ps.take i)).length + pc.two.length : Nat) t5] := ⟨_, hg.1, rfl, n, rfl⟩
  refine assign_Tuple_tuple rfl hT rfl rfl fun h₅ he => ?_
  have he' : ∀ b o, h.get? b = some o → h₅.get? b = some o := fun b o e => he b o (Nat.ne_of_lt (Heap.lt_size e)) e
  refine assignInOrder_cons (wpAny_assign_Name (wpAny_storeName_local rfl (F.keeps he').ns (fun h₆ n₆ s₆ => ?_) rfl))
  refine assignInOrder_cons (wpAny_assign_Name (wpAny_storeName_local rfl n₆ (fun h₇ n₇ s₇ => ?_) rfl))
  refine assignInOrder_cons (wpAny_assign_Name (wpAny_storeName_local rfl n₇ (fun h₈ n₈ s₈ => ?_) rfl))
  refine assignInOrder_cons (wpAny_assign_Name (wpAny_storeName_local rfl n₈ (fun h₉ n₉ s₉ => ?_) rfl))
  refine assignInOrder_cons (wpAny_assign_Name (wpAny_storeName_local rfl n₉ (fun h₁ n₁ s₁ => ?_) rfl))
  refine assignInOrder_nil ?_
  have FF := (((((F.keeps he').set n₆ s₆).set n₇ s₇).set n₈ s₈).set n₉ s₉).set n₁ s₁
  have NN := (((((N.grown he').set s₆).set s₇).set s₈).set s₉).set s₁
  rw [hta, simL_snoc, Nat.zero_add]
  generalize simL (caOf ps) 0 (ps.take i) = r at *
  rw [hca] at FF hac hz1 hia
  rw [hpl] at FF hap hz2
  have ho' : OwnOff (rest0 ++ own) [L' + 1] := by
    intro q hq b hb
    rcases List.mem_append.mp hq with hq | hq
    · exact h0 q hq b hb
    · exact ho q hq b (by rw [List.mem_singleton.mp hb]; exact .head _)
  have key := sim_all w hokp p loose mean mg mb g h₁ L' env
  rw [hca, hpl]
  exact key _ { s with heap := h, toks := tk } Q E _ _ _ _ r _ rest0 own o vo tr t0 u0 t1 t2 t3 t4 t5 X T hokp hac hap hz1 hz2 (by omega) hia FF NN hvo ho ho' rfl hE
end Mine

/-! PS6 -/
namespace Mine
theorem above_all {L lr lm la c f L' : Nat} (b1 : lr < lm) (b2 : L + 1 + 1 + 1 + 1 < lr) (b3 : 50 < L) (b4 : lm < la) (b5 : la < c) (b6 : c < f) (b7 : f < L') :
    c < L' ∧ la < L' ∧ lm < L' ∧ lr < L' ∧ L + 1 + 1 + 1 + 1 < L' ∧ L + 1 + 1 + 1 < L' ∧ L + 1 + 1 < L' ∧ L + 1 < L' ∧ 50 < L' := by omega
theorem allLt_of {d : Nat} {l : List (Addr × Obj)} (h : ∀ p ∈ l, @LT.lt Nat _ p.1 d) : AllLt d l := by
  induction l with
  | nil => trivial
  | cons q r ih => exact ⟨h q (.head _), ih fun p hp => h p (.tail _ hp)⟩
theorem sim_loop (w : World) {p : Program} {loose : List Str} {mean : ExcName → Option Value} {mg mb : Str → Option Value} {g : Heap} {L' L D f c la lm lr : Nat} {env : Env} {s : Shared} {Q : Flow → Shared → Prop} {E : Value → Shared → Prop} {ps : List Pc} {kk nr : Nat} {m₀ : Str → Option Value} {rvs : List Value} {tups : List (Addr × Obj)} {t0 u0 tr : Tok} {p1 p2 p3 p4 p5 tp : Pos} {dO o' fo oc lo om oR oA oP oC tb : Obj} {vo : Option Value}
    (X : (hd.heap_39 w.params).In g) (T : Top p loose mean mg mb g) (hok : ∀ p ∈ ps, PcOk p) (hps : ps.length ≤ 18) (hins : InsOk ps) (hD : DatAll tups rvs ((rowsOf 0 0 ps).map rowDat)) (F : Fr g L' s.heap m₀)
    (N : News g L' s.heap ((D, dO) :: (L' + 1, o') :: (f, fo) :: (c, oc) :: (la, lo) :: (lm, om) :: (lr, W.listOf rvs.toArray nr) :: (L + 1 + 1 + 1 + 1, oR) :: (L + 1 + 1 + 1, oA) :: (L + 1 + 1, oP) :: (L + 1, oC) :: (50, tb) :: tups))
    (e1 : m₀ (Str.ofString "result") = some (.str (Str.ofString "") tr)) (e2 : m₀ (Str.ofString "cased_text") = some (.str (tx (caOf ps)) t0)) (e3 : m₀ (Str.ofString "uncased_text") = some (.str (tx (plOf ps)) u0)) (hvo : o'.data = .cell vo)
    (hb : lr < lm ∧ L + 1 + 1 + 1 + 1 < lr ∧ 50 < L) (q1 : lm < la) (q2 : la < c) (q3 : c < f) (q4 : f < L') (q5 : L' + 1 < D) (htl : AllLt L' tups) (hto : OwnOff tups [lr])
    (hE : PassesOwn (model PySem.Challenge.rw_fe0311_01.row.prog w) ((callerA.deeper env).deeper (simEnv L')) (simEnv L') E)
    (done : ∀ m₁ h tk t' o2, m₁ (Str.ofString "result") = some (.str (tx (simL (caOf ps) 0 ps)) t') → Fr g L' h m₁ →
      News g L' h ((D, dO) :: (L' + 1, o2) :: (f, fo) :: (c, oc) :: (la, lo) :: (lm, om) :: (lr, W.listOf rvs.toArray nr) :: (L + 1 + 1 + 1 + 1, oR) :: (L + 1 + 1 + 1, oA) :: (L + 1 + 1, oP) :: (L + 1, oC) :: (50, tb) :: tups) → Q .next { s with heap := h, toks := tk }) :
    wpAny (model PySem.Challenge.rw_fe0311_01.row.prog w) ((callerA.deeper env).deeper (simEnv L')) (pyIter (.ref lr)) (fun it s₂ => TurnsAt PySem.Challenge.rw_fe0311_01.row.prog w ((callerA.deeper env).deeper (simEnv L')) g (simEnv L') (.Tuple [.Name (Str.ofString "tag") p1, .Name (Str.ofString "i1") p2, .Name (Str.ofString "i2") p3, .Name (Str.ofString "j1") p4, .Name (Str.ofString "j2") p5] kk tp) simBody Q E it s₂) E s := by
  obtain ⟨b1, b2, b3⟩ := hb
  have hlen : rvs.length = ps.length := by rw [hD.length, List.length_map, rowsOf_len]
  have hall := allLt_mem htl
  let rest0 : List (Addr × Obj) := (D, dO) :: (f, fo) :: (c, oc) :: (la, lo) :: (lm, om) :: (L + 1 + 1 + 1 + 1, oR) :: (L + 1 + 1 + 1, oA) :: (L + 1 + 1, oP) :: (L + 1, oC) :: (50, tb) :: tups
  have mem_rest : ∀ q ∈ rest0, q = (D, dO) ∨ q = (f, fo) ∨ q = (c, oc) ∨ q = (la, lo) ∨ q = (lm, om) ∨ q = (L + 1 + 1 + 1 + 1, oR) ∨ q = (L + 1 + 1 + 1, oA) ∨ q = (L + 1 + 1, oP) ∨ q = (L + 1, oC) ∨ q = (50, tb) ∨ q ∈ tups := by
    intro q hq
    simpa only [rest0, List.mem_cons] using hq
  have h0 : OwnOff rest0 [L' + 1] := by
    intro q hq b hb
    rw [List.mem_singleton.mp hb]
    rcases mem_rest q hq with rfl | rfl | rfl | rfl | rfl | rfl | rfl | rfl | rfl | rfl | hq
    · exact neA (by show ¬ (D : Nat) = L' + 1; omega)
    · exact neA (by show ¬ (f : Nat) = L' + 1; omega)
    · exact neA (by show ¬ (c : Nat) = L' + 1; omega)
    · exact neA (by show ¬ (la : Nat) = L' + 1; omega)
    · exact neA (by show ¬ (lm : Nat) = L' + 1; omega)
    · exact neA (by show ¬ (L + 1 + 1 + 1 + 1 : Nat) = L' + 1; omega)
    · exact neA (by show ¬ (L + 1 + 1 + 1 : Nat) = L' + 1; omega)
    · exact neA (by show ¬ (L + 1 + 1 : Nat) = L' + 1; omega)
    · exact neA (by show ¬ (L + 1 : Nat) = L' + 1; omega)
    · exact neA (by show ¬ (50 : Nat) = L' + 1; omega)
    · exact Nat.ne_of_lt (Nat.lt_succ_of_lt (hall q hq))
  have hlr : ∀ q ∈ rest0, q.1 ≠ lr := by
    intro q hq
    rcases mem_rest q hq with rfl | rfl | rfl | rfl | rfl | rfl | rfl | rfl | rfl | rfl | hq
    · exact neA (by show ¬ (D : Nat) = lr; omega)
    · exact neA (by show ¬ (f : Nat) = lr; omega)
    · exact neA (by show ¬ (c : Nat) = lr; omega)
    · exact neA (by show ¬ (la : Nat) = lr; omega)
    · exact neA (by show ¬ (lm : Nat) = lr; omega)
    · exact neA (by show ¬ (L + 1 + 1 + 1 + 1 : Nat) = lr; omega)
    · exact neA (by show ¬ (L + 1 + 1 + 1 : Nat) = lr; omega)
    · exact neA (by show ¬ (L + 1 + 1 : Nat) = lr; omega)
    · exact neA (by show ¬ (L + 1 : Nat) = lr; omega)
    · exact neA (by show ¬ (50 : Nat) = lr; omega)
    · exact hto q hq lr (.head _)
  refine listTurns (env := simEnv L') (nn := nr) (nx₀ := (L' + 1, o') :: rest0) (fun i m nx => SimJ L' rest0 (caOf ps) (plOf ps) t0 u0 (simL (caOf ps) 0 (ps.take i)) m nx) rfl F N (.tail _ (.tail _ (.tail _ (.tail _ (.tail _ (.tail _ (.head _))))))) ?_ ?_ ⟨o', vo, tr, rfl, hvo, by rw [e1, empty_tx]; rfl, e2, e3⟩ ?_ ?_
  · intro q hq
    rcases List.mem_cons.mp hq with rfl | hq
    · exact .tail _ (.head _)
    · rcases mem_rest q hq with rfl | rfl | rfl | rfl | rfl | rfl | rfl | rfl | rfl | rfl | hq
      · exact .head _
      · exact .tail _ (.tail _ (.head _))
      · exact .tail _ (.tail _ (.tail _ (.head _)))
      · exact .tail _ (.tail _ (.tail _ (.tail _ (.head _))))
      · exact .tail _ (.tail _ (.tail _ (.tail _ (.tail _ (.head _)))))
      · exact .tail _ (.tail _ (.tail _ (.tail _ (.tail _ (.tail _ (.tail _ (.head _)))))))
      · exact .tail _ (.tail _ (.tail _ (.tail _ (.tail _ (.tail _ (.tail _ (.tail _ (.head _))))))))
      · exact .tail _ (.tail _ (.tail _ (.tail _ (.tail _ (.tail _ (.tail _ (.tail _ (.tail _ (.head _)))))))))
      · exact .tail _ (.tail _ (.tail _ (.tail _ (.tail _ (.tail _ (.tail _ (.tail _ (.tail _ (.tail _ (.head _))))))))))
      · exact .tail _ (.tail _ (.tail _ (.tail _ (.tail _ (.tail _ (.tail _ (.tail _ (.tail _ (.tail _ (.tail _ (.head _)))))))))))
      · exact .tail _ (.tail _ (.tail _ (.tail _ (.tail _ (.tail _ (.tail _ (.tail _ (.tail _ (.tail _ (.tail _ (.tail _ hq)))))))))))
  · rintro i m nx ⟨o, v, tr', rfl, _⟩ q hq
    rcases List.mem_cons.mp hq with rfl | hq
    · exact neA (by show ¬ (L' + 1 : Nat) = lr; omega)
    · exact hlr q hq
  · intro i v m₁ nx h tk own hv hJ ho F₁ N₁ _
    have hi : i < ps.length := by
      obtain ⟨hi, _⟩ := List.getElem?_eq_some_iff.mp hv
      omega
    have hi2 : i < ((rowsOf 0 0 ps).map rowDat).length := by rw [List.length_map, rowsOf_len]; exact hi
    obtain ⟨v', hv', hd⟩ := hD.get hi2
    have : v' = v := by rw [hv] at hv'; exact (Option.some.inj hv').symm
    subst this
    have hrow : ((rowsOf 0 0 ps).map rowDat)[i] = rowDat ⟨ps[i].tag, (caOf (ps.take i)).length, (caOf (ps.take i)).length + ps[i].one.length, (plOf (ps.take i)).length, (plOf (ps.take i)).length + ps[i].two.length⟩ := by
      have hg := rowsOf_get ps 0 0 i
      rw [List.getElem?_eq_getElem hi] at hg
      simp only [Option.map_some, Nat.zero_add] at hg
      rw [List.getElem_map]
      obtain ⟨hh, e⟩ := List.getElem?_eq_some_iff.mp hg
      rw [e]
    rw [hrow] at hd
    exact sim_turn w X T hok hps hins (List.getElem?_eq_getElem hi) hd hJ ho F₁ N₁ (fun q hq => .tail _ (.tail _ (.tail _ (.tail _ (.tail _ (.tail _ (.tail _ (.tail _ (.tail _ (.tail _ hq)))))))))) h0 hE
  · rintro m₁ nx h tk ⟨o2, v2, tr2, rfl, hv2, f1, f2, f3⟩ F₁ N₁ N₂
    rw [hlen, List.take_length] at f1
    refine done m₁ h tk tr2 o2 f1 F₁ fun q hq => ?_
    have up : ∀ q ∈ rest0, _ := fun q hq => N₁ q (.tail _ hq)
    simp only [List.mem_cons] at hq
    rcases hq with rfl | rfl | rfl | rfl | rfl | rfl | rfl | rfl | rfl | rfl | rfl | rfl | hq
    · exact up _ (.head _)
    · exact N₁ _ (.head _)
    · exact up _ (.tail _ (.head _))
    · exact up _ (.tail _ (.tail _ (.head _)))
    · exact up _ (.tail _ (.tail _ (.tail _ (.head _))))
    · exact up _ (.tail _ (.tail _ (.tail _ (.tail _ (.head _)))))
    · exact N₂ _ (.head _)
    · exact up _ (.tail _ (.tail _ (.tail _ (.tail _ (.tail _ (.head _))))))
    · exact up _ (.tail _ (.tail _ (.tail _ (.tail _ (.tail _ (.tail _ (.head _)))))))
    · exact up _ (.tail _ (.tail _ (.tail _ (.tail _ (.tail _ (.tail _ (.tail _ (.head _))))))))
    · exact up _ (.tail _ (.tail _ (.tail _ (.tail _ (.tail _ (.tail _ (.tail _ (.tail _ (.head _)))))))))
    · exact up _ (.tail _ (.tail _ (.tail _ (.tail _ (.tail _ (.tail _ (.tail _ (.tail _ (.tail _ (.head _))))))))))
    · exact up _ (.tail _ (.tail _ (.tail _ (.tail _ (.tail _ (.tail _ (.tail _ (.tail _ (.tail _ (.tail _ hq))))))))))
end Mine

/-! PS -/
namespace Mine
def piecesDef : Arguments × List Stmt × Scope := match (lawBody[4]? : Option Stmt) with
  | some (.FunctionDef _ a b _ _ _ sc _ _ _) => (a, b, sc)
  | _ => ({ posonlyargs := [], args := [], vararg := none, kwonlyargs := [], kw_defaults := [], kwarg := none, defaults := [] }, [], lawScope)
theorem news_drop2 {h₀ h : Heap} {L : Addr} {x y : Addr × Obj} {r : List (Addr × Obj)} (N : News h₀ L h (x :: y :: r)) : News h₀ L h (x :: r) := by
  intro z hz
  rcases List.mem_cons.mp hz with rfl | hz
  · exact N _ (.head _)
  · exact N _ (.tail _ (.tail _ hz))
section
local macro_rules | `(tactic| walk_at "filler") => `(tactic| skip)
local macro_rules | `(tactic| walk_at "filler") => `(tactic| skip)
local macro_rules | `(tactic| walk_at "filler") => `(tactic| skip)
local macro_rules | `(tactic| walk_at "filler") => `(tactic| skip)
local macro_rules | `(tactic| walk_at "filler") => `(tactic| skip)
local macro_rules | `(tactic| walk_at "filler") => `(tactic| skip)
local macro_rules | `(tactic| walk_at "filler") => `(tactic| skip)
local macro_rules | `(tactic| walk_at "filler") => `(tactic| skip)
local macro_rules | `(tactic| walk_at "filler") => `(tactic| skip)
local macro_rules | `(tactic| walk_at "filler") => `(tactic| skip)
local macro_rules | `(tactic| walk_at "filler") => `(tactic| skip)
local macro_rules | `(tactic| walk_at "filler") => `(tactic| skip)
local macro_rules | `(tactic| walk_at "filler") => `(tactic| skip)
local macro_rules | `(tactic| walk_at "filler") => `(tactic| skip)
local macro_rules | `(tactic| walk_at "eval ListComp") => `(tactic| refine Mine.halt ?_)
local macro_rules | `(tactic| walk_at "exec For") => `(tactic| refine Mine.halt ?_)
local macro_rules | `(tactic| walk_at "pyIter ref") => `(tactic| refine Mine.halt ?_)
local macro_rules | `(tactic| walk_at "truthy str") => `(tactic| ((with_reducible refine r_truthy ?hz ?_); (case hz => omega); intro _))
local macro_rules | `(tactic| walk_at "call builtin:str.lower") => `(tactic| ((with_reducible refine r_lower (by assumption) (by omega) ?_); intro _ _))
set_option maxHeartbeats 8000000 in
theorem similar_call (w : World) {p : Program} {loose : List Str} {mean : ExcName → Option Value} {mg mb : Str → Option Value} {h₀ : Heap} {L : Nat} {fa : Addr} {s : Shared} {Q : Value → Shared → Prop} {E : Value → Shared → Prop} {ps : List Pc} {m : Str → Option Value}
    {f c la lm lr : Nat} {q : Str} {dc mn ct : Value} {oc om oR oA oP oC tb : Obj} {rvs : List Value} {nr : Nat} {tups : List (Addr × Obj)} {t u tq : Tok} {vsC : Array Value}
    (X : (hd.heap_39 w.params).In h₀) (T : Top p loose mean mg mb h₀) (B : Below callerA h₀ [] h₀) (codeHd : CodeHd h₀ (52, 50).fst (52, 50).snd) (hok : ∀ p ∈ ps, PcOk p) (hps : ps.length ≤ 18) (hne1 : caOf ps ≠ []) (hne2 : plOf ps ≠ [])
    (F : Fr h₀ L s.heap m)
    (N : News h₀ L s.heap ((f, fnMade (Str.ofString "pieces") q piecesDef.1 piecesDef.2.1 piecesDef.2.2 [(Str.ofString "rows", L + 1 + 1 + 1 + 1), (Str.ofString "asked", L + 1 + 1 + 1)] dc mn c ct) :: (c, oc) :: (la, W.listOf #[] 0) :: (lm, om) :: (lr, W.listOf rvs.toArray nr) :: (L + 1 + 1 + 1 + 1, oR) :: (L + 1 + 1 + 1, oA) :: (L + 1 + 1, oP) :: (L + 1, oC) :: (50, tb) :: tups))
    (dA : oA.data = .cell (some (.ref la))) (d1 : oc.data = .fields vsC) (d2 : vsC[1]? = some (.str q tq)) (dR : oR.data = .cell (some (.ref lr))) (hD : DatAll tups rvs ((rowsOf 0 0 ps).map rowDat))
    (hb : lr < lm ∧ L + 1 + 1 + 1 + 1 < lr ∧ 50 < L) (q1 : lm < la ∧ lr < la ∧ L + 1 + 1 + 1 + 1 < la ∧ L + 1 + 1 + 1 < la ∧ L + 1 + 1 < la ∧ L + 1 < la ∧ 50 < la ∧ AllLt la tups)
    (q2 : la < c ∧ lm < c ∧ lr < c ∧ L + 1 + 1 + 1 + 1 < c ∧ L + 1 + 1 + 1 < c ∧ L + 1 + 1 < c ∧ L + 1 < c ∧ 50 < c ∧ AllLt c tups) (q3 : c < f)
    (hto : OwnOff tups [lm, lr, L + 1 + 1 + 1 + 1, L + 1 + 1 + 1, L + 1 + 1, L + 1, 50]) (hins : InsOk ps)
    (hQ : ∀ (D : Nat) (t1 t2 t' : Tok) (h' : Heap) (tk' : Nat), Fr h₀ L h' m → News h₀ L h' ((D, { cls := .type "tuple", data := .seq #[.str (tx ((caOf ps).map loC)) t1, .str (tx (plOf ps)) t2] }) :: (f, fnMade (Str.ofString "pieces") q piecesDef.1 piecesDef.2.1 piecesDef.2.2 [(Str.ofString "rows", L + 1 + 1 + 1 + 1), (Str.ofString "asked", L + 1 + 1 + 1)] dc mn c ct) :: (c, oc) :: (la, W.listOf #[.ref D] 1) :: (lm, om) :: (lr, W.listOf rvs.toArray nr) :: (L + 1 + 1 + 1 + 1, oR) :: (L + 1 + 1 + 1, oA) :: (L + 1 + 1, oP) :: (L + 1, oC) :: (50, tb) :: tups) →
      (f < D ∧ c < D ∧ la < D ∧ lm < D ∧ lr < D ∧ L + 1 + 1 + 1 + 1 < D ∧ L + 1 + 1 + 1 < D ∧ L + 1 + 1 < D ∧ L + 1 < D ∧ 50 < D ∧ AllLt D tups) → Q (.str (tx (simL (caOf ps) 0 ps)) t') { s with heap := h', toks := tk' }) :
    wpAny (model PySem.Challenge.rw_fe0311_01.row.prog w) (callerA.deeper (envOfC (Str.ofString "law") lawScope L fa (.ref 52))) (call (.ref 24) [.str (tx (caOf ps)) t, .str (tx (plOf ps)) u, .ref f]) Q E s := by
  have hlo : ∀ c ∈ plOf ps, c ∈ LoS := by
    intro c hc
    obtain ⟨l, hl, hcl⟩ := List.mem_flatten.mp hc
    obtain ⟨q, hq, rfl⟩ := List.mem_map.mp hl
    exact (hok q hq).lo c hcl
  have hhi : ∀ c ∈ caOf ps, c ∈ HiS := by
    intro c hc
    obtain ⟨l, hl, hcl⟩ := List.mem_flatten.mp hc
    obtain ⟨q, hq, rfl⟩ := List.mem_map.mp hl
    exact (hok q hq).hi c hcl
  have hla : ∀ c ∈ LoS, c < 128 := by decide
  have hha : ∀ c ∈ HiS, c < 128 := by decide
  have hap : Asc (plOf ps) := fun c hc => hla c (hlo c hc)
  have hac : Asc (caOf ps) := fun c hc => hha c (hhi c hc)
  have hz1 : (caOf ps).length ≤ 1000 := by have h1 := flat_le (·.one) (fun q hq => (hok q hq).l1); unfold caOf; omega
  have hz2 : (plOf ps).length ≤ 1000 := by have h1 := flat_le (·.two) (fun q hq => (hok q hq).l2); unfold plOf; omega
  obtain ⟨ca, hca⟩ : ∃ ca, ca = caOf ps := ⟨_, rfl⟩
  obtain ⟨pl, hpl⟩ : ∃ pl, pl = plOf ps := ⟨_, rfl⟩
  rw [← hca, ← hpl]
  rw [← hca] at hac hne1 hz1
  rw [← hpl] at hap hne2 hz2
  refine wpAny_call ?_
  w_top off
  revert X; k_fill; intro X
  k_dflt (refine' code_defC ?k1 ?k2 ?k3 ?k4 ?k5 ?kA ?kF ?kK ?k6 ?k7 ?k8 ?k9 ?kB ?kN ?_ ?c2 ?c3 ?c4; (case kA => exact rfl); (case kF => exact rfl); (case kK => exact rfl); (case k1 => exact B); (case k2 => exact F); (case k3 => exact X); (case k4 => exact N); (case k5 => exact T); (case k6 => k_is); (case k7 => k_is); (case k8 => k_room); (case k9 => exact BindsTo.of_eq rfl); (case kB => exact rfl); (case kN => decide); (case c2 => exact rfl); (case c3 => exact rfl); (case c4 => exact rfl))
  intro g' L' h' tk cells FG' F' N' Y B' X' T' hlt
  obtain ⟨o', hE', d1'⟩ := CellsAre.one Y
  subst hE'
  dsimp only [List.cons_append, List.nil_append] at N' ⊢
  obtain ⟨b1, b2, b3⟩ := hb
  have ⟨c1, c2⟩ := heads_lt b1 b2 b3
  have e1 : @LT.lt Nat _ f L' := hlt _ (.head _)
  have e2 : AllLt L' tups := allLt_of fun p hp => hlt p (.tail _ (.tail _ (.tail _ (.tail _ (.tail _ (.tail _ (.tail _ (.tail _ (.tail _ (.tail _ hp))))))))))
  clear hlt
  have q4 := above_all b1 b2 b3 q1.1 q2.1 q3 e1
  (try k_lift B')
  (try k_fold)
  k_steps
  unfold Mine.Halt
  refine For_turns (by assumption) ?_
  k_steps
  unfold Mine.Halt
  (rename Fr _ _ _ _ => FF)
  (rename News _ _ _ _ => NN)
  (rename _ ∧ _ => lD)
  subst hca hpl
  refine sim_loop w (by assumption) (by assumption) hok hps hins hD FF NN rfl rfl rfl d1' ⟨b1, b2, b3⟩ q1.1 q2.1 q3 e1 lD.1 e2 (fun q hq b hb => hto q hq b (by rw [List.mem_singleton.mp hb]; exact .tail _ (.head _))) (by passes_own) ?_
  intro m₁ h₂ tk₂ t' o2 hm F₂ N₂
  have hm' : m₁ = fun y => if y = Str.ofString "result" then some (.str (tx (simL (caOf ps) 0 ps)) t') else m₁ y := by
    funext y
    split
    · rename_i e; rw [e, hm]
    · rfl
  rw [hm'] at F₂
  dsimp only
  k_steps
  (rename Fr _ _ _ _ => FZ)
  (rename News _ _ _ _ => NZ)
  exact hQ _ _ _ t' h₂ tk₂ FZ (news_drop2 NZ) lD.2
end
end Mine

/-! PN -/
namespace Mine
/-- an exception in flight whose context no raise has set; fl: the frame that its entry is noted for -/
def Fly2 (base : Heap) (l : List Env) (e : Addr) (cls fl : Value) (h : Heap) : Prop :=
  base.StaysIn h ∧ base.get? e = none ∧ h.FunFrames base l ∧
    ∃ oe vs T oT ts, h.get? e = some oe ∧ oe.cls = cls ∧ oe.data = .fields vs ∧ vs[1]? = some (.ref T) ∧ vs[2]? = some .none ∧ base.get? T = none ∧ T ≠ e ∧ h.get? T = some oT ∧ oT.data = .fields ts ∧ ts[3]? = some fl
section
variable {M : Model} {A : Around} {E : Value → Shared → Prop} {s : Shared} {base : Heap} {env : Env} {outer l : List Env} {L e : Addr} {cls fl : Value} {Q : Unit → Shared → Prop}

theorem fly_entry {oe : Obj} {vs : Array Value} {head : Value} {hadNext : Bool}
    (hfr : A.frames = some (env :: outer)) (hl : s.heap.FunFrames base (env :: outer)) (hf : env.frame = some L)
    (he : s.heap.get? e = some oe) (hkb : base.StaysIn s.heap) (hen : base.get? e = none) (hd : oe.data = .fields vs) (hsz : 1 < vs.size) (h2 : vs[2]? = some .none)
    (h : ∀ h', Fly2 base (env :: outer) e oe.cls (rawInt L) h' → s.heap.UpToSlots h' → Q () { s with heap := h' }) :
    wpAny M A (do let a ← frameOf env; let pl ← entryPlaceOf L hadNext; let b ← EntryCells.newEntry head a .none (rawInt L) .none pl; setField (.ref e) 1 b) Q E s := by
  have hnot : e ∉ (env :: outer).filterMap (·.frame) := by
    intro hm
    obtain ⟨_, o, ho, hnf⟩ := hl.mem hm
    rw [he] at ho
    cases ho
    exact hnf vs hd
  refine wpAny_bind (wpAny_frameOf_fun hfr hl hf fun h₁ hs₁ => ?_)
  refine wpAny_bind (wpAny_entryPlaceOf fun pl hpl => ?_)
  unfold EntryCells.newEntry newFields
  refine wpAny_bind (wpAny_newObj_type ?_ (hpl.sizeOk5 _ _ _ _ _))
  have a1 : h₁.get? e = some oe := (hs₁.2.1 e hnot).trans he
  have kb : base.StaysIn h₁ := fun b o hbo => (hs₁.2.1 b fun hm => by rw [(hl.mem hm).1] at hbo; cases hbo).trans (hkb b o hbo)
  generalize hO : ({ cls := .type "traceback", dict := none, data := .fields ([head, .ref L, .none, rawInt L, .none] ++ (if pl.isEmpty then List.replicate 6 Value.none else pl)).toArray } : Obj) = ot
  have hOd : ot.data = .fields ([head, .ref L, .none, rawInt L, .none] ++ (if pl.isEmpty then List.replicate 6 Value.none else pl)).toArray := by rw [← hO]
  have hOf : ot.isFreed = false := by rw [← hO]; rfl
  have a2 : (h₁.push ot).get? e = some oe := Heap.get?_push_of_some ot a1
  have hTe : h₁.objs.size ≠ e := Nat.ne_of_gt (Heap.lt_size a1)
  refine wpAny_setField a2 hd hsz (h _ ?_ ?_)
  · have a3 := Obj.data_mapFields hd (·.setIfInBounds 1 (Value.ref h₁.objs.size))
    have a4 := Heap.get?_update_self (Obj.mapFields (·.setIfInBounds 1 (Value.ref h₁.objs.size))) a2 (Obj.isFreed_of_fields a3)
    have keep : ∀ b o, b ≠ e → h₁.get? b = some o → ((h₁.push ot).update e (Obj.mapFields (·.setIfInBounds 1 (Value.ref h₁.objs.size)))).get? b = some o := fun b o hbe hb => by
      rw [Heap.get?_update_other _ _ (Ne.symm hbe)]
      exact Heap.get?_push_of_some _ hb
    refine ⟨fun b o hbo => keep b o (fun q => by rw [q, hen] at hbo; cases hbo) (kb b o hbo), hen, hl.of_keeps fun b o hb hnf => ?_, _, _, h₁.objs.size, ot, _, a4, Obj.cls_mapFields _ _, a3, by simp [hsz], ?_, kb.fresh, hTe, ?_, hOd, by simp⟩
    · obtain ⟨sl, hs⟩ := hs₁.2.2 b o hb
      exact ⟨_, keep b _ (fun q => by rw [q, he] at hb; cases hb; exact hnf vs hd) hs, rfl⟩
    · rw [Array.getElem?_setIfInBounds_ne (by decide)]
      exact h2
    · exact (Heap.get?_update_other _ _ (Ne.symm hTe)).trans (Heap.get?_push_size h₁ hOf)
  · intro b o hb hnf
    obtain ⟨sl, hs⟩ := hs₁.2.2 b o hb
    refine ⟨sl, ?_⟩
    rw [Heap.get?_update_other _ _ (fun q => by rw [← q, he] at hb; cases hb; exact hnf vs hd)]
    exact Heap.get?_push_of_some _ hs

theorem fly_lands (hh : Fly2 base l e cls fl s.heap) (hQ : ∀ h', Fly2 base l e cls .none h' → s.heap.UpToSlots h' → Q () { s with heap := h' }) : wpAny M A (setFlight (.ref e) none) Q E s := by
  obtain ⟨k1, k2, k3, oe, vs, T, oT, ts, he, hc, hd, h1, h2, hnT, hTe, hT, hdT, h3⟩ := hh
  have hsz3 : 3 < ts.size := (Array.getElem?_eq_some_iff.mp h3).1
  unfold setFlight
  refine wpAny_bind (wpAny_field he hd h1 ?_)
  rw [if_pos (show (Value.ref T != Value.none) = true from by simp)]
  refine wpAny_setField hT hdT hsz3 (hQ _ ?_ ?_)
  · have other : ∀ b, b ≠ T → (s.heap.update T (Obj.mapFields (·.setIfInBounds 3 ((none : Option Addr).elim Value.none fun f => rawInt f)))).get? b = s.heap.get? b := fun b hb => Heap.get?_update_other _ _ (Ne.symm hb)
    refine ⟨fun b o hbo => (other b fun q => by rw [q, hnT] at hbo; cases hbo).trans (k1 b o hbo), k2, k3.of_keeps fun b o hb hnf => ⟨o, (other b fun q => by rw [q, hT] at hb; cases hb; exact hnf ts hdT).trans hb, rfl⟩,
      oe, vs, T, _, _, (other e (Ne.symm hTe)).trans he, hc, hd, h1, h2, hnT, hTe, Heap.get?_update_self _ hT (Obj.isFreed_of_fields (Obj.data_mapFields hdT _)), Obj.data_mapFields hdT _, by simp [hsz3]⟩
  · intro b o hb hnf
    refine ⟨o.slots, ?_⟩
    rw [Heap.get?_update_other _ _ (fun q => by rw [← q, hT] at hb; cases hb; exact hnf ts hdT)]
    exact hb

theorem fly_noted (hfr : A.frames = some (env :: outer)) (hf : env.frame = some L) (hh : Fly2 base (env :: outer) e cls .none s.heap)
    (hQ : ∀ h', Fly2 base (env :: outer) e cls (rawInt L) h' → s.heap.UpToSlots h' → Q () { s with heap := h' }) : wpAny M A (noteFrame (.ref e) env) Q E s := by
  obtain ⟨k1, k2, k3, oe, vs, T, oT, ts, he, hc, hd, h1, h2, hnT, hTe, hT, hdT, h3⟩ := hh
  subst hc
  unfold noteFrame
  simp only [hf]
  refine wpAny_bind (wpAny_field he hd h1 ?_)
  rw [if_pos (show (Value.ref T != Value.none) = true from by simp)]
  refine wpAny_bind (wpAny_field hT hdT h3 ?_)
  rw [if_neg (show ¬ ((Value.none == rawInt L) = true) from by simp [rawInt])]
  refine wpAny_bind (wpAny_setField hT hdT (Array.getElem?_eq_some_iff.mp h3).1 ?_)
  have other : ∀ b, b ≠ T → (s.heap.update T (Obj.mapFields (·.setIfInBounds 3 Value.none))).get? b = s.heap.get? b := fun b hb => Heap.get?_update_other _ _ (Ne.symm hb)
  have recd : ∀ b o, s.heap.get? b = some o → (∀ vs, o.data ≠ .fields vs) → b ≠ T := fun b o hb hnf q => by rw [q, hT] at hb; cases hb; exact hnf ts hdT
  refine fly_entry hfr (k3.of_keeps fun b o hb hnf => ⟨o, (other b (recd b o hb hnf)).trans hb, rfl⟩) hf ((other e (Ne.symm hTe)).trans he)
    (fun b o hbo => (other b fun q => by rw [q, hnT] at hbo; cases hbo).trans (k1 b o hbo)) k2 hd (Array.getElem?_eq_some_iff.mp h1).1 h2 fun h' x y => hQ h' x ?_
  exact fun b o hb hnf => y b o ((other b (recd b o hb hnf)).trans hb) hnf

theorem fly_first {oe : Obj} {vs : Array Value} (hfr : A.frames = some (env :: outer)) (hl : s.heap.FunFrames base (env :: outer)) (hf : env.frame = some L)
    (he : s.heap.get? e = some oe) (hkb : base.StaysIn s.heap) (hen : base.get? e = none) (hd : oe.data = .fields vs) (h1 : vs[1]? = some .none) (h2 : vs[2]? = some .none)
    (h : ∀ h', Fly2 base outer e oe.cls .none h' → s.heap.UpToSlots h' → Q () { s with heap := h' }) : wpAny M A (leaving env (.ref e)) Q E s := by
  unfold leaving noteFrame
  simp only [hf]
  refine wpAny_bind (wpAny_bind (wpAny_field he hd h1 ?_))
  rw [if_neg (by decide)]
  refine fly_entry hfr hl hf he hkb hen hd (Array.getElem?_eq_some_iff.mp h1).1 h2 fun h' x y => ?_
  refine fly_lands (s := { s with heap := h' }) x fun h'' x' y' => ?_
  obtain ⟨k1, k2, ⟨_, _, k3⟩, k4⟩ := x'
  exact h h'' ⟨k1, k2, k3, k4⟩ (y.trans y')
end
end Mine

/-! PR3 -/
namespace Mine
theorem raise_leave {M : Model} {s' : Shared} {E : Value → Shared → Prop} {Q : Unit → Shared → Prop} {h h₀ h₁ : Heap} {L L2 e : Addr} {env env2 : Env} {m m2 : Str → Option Value} (hx : Heap.NewExc h₁ s'.heap e "ValueError") (F2 : Fr h L2 h₁ m2) (F0 : Fr h₀ L h m)
    (hf2 : env2.frame = some L2) (hk2 : env2.scope.kind = .function) (hf : env.frame = some L) (hke : env.scope.kind = .function)
    (hQ : ∀ h', Fly2 (hideAll h [L]) [env] e (.type "ValueError") .none h' → h.UpToSlots h' → Q () { s' with heap := h' }) :
    wpAny M ((callerA.deeper env).deeper env2) (leaving env2 (.ref e)) Q E s' := by
  obtain ⟨hxk, hxn, ob, a0, hob, hoc, hod⟩ := hx
  have up : ∀ b o, h.get? b = some o → s'.heap.get? b = some o := fun b o e => hxk b o (F2.keep b o e)
  have hkb : (hideAll h [L]).StaysIn s'.heap := fun b o e => up b o (of_hideAll _ e)
  have hen : (hideAll h [L]).get? e = none := by
    cases q : (hideAll h [L]).get? e with
    | none => rfl
    | some o => have := F2.keep _ _ (of_hideAll _ q); rw [hxn] at this; cases this
  have hL2 : (hideAll h [L]).get? L2 = none := by
    cases q : (hideAll h [L]).get? L2 with
    | none => rfl
    | some o => have := of_hideAll _ q; rw [kts_self F2] at this; cases this
  have hkf : env.scope.kind ≠ .module := by rw [hke]; decide
  have hkf2 : env2.scope.kind ≠ .module := by rw [hk2]; decide
  refine fly_first (base := hideAll h [L]) (outer := [env]) (L := L2) rfl (Heap.FunFrames.cons hkf2 hf2 (F2.ns.at' fun o e => hxk _ o e) hL2 (Heap.FunFrames.cons hkf hf (F0.ns.at' fun o e => up _ o e) (hideAll_none _ (.head _)) trivial)) hf2 hob hkb hen hod rfl rfl fun h' hL y => ?_
  rw [hoc] at hL
  exact hQ h' hL ((Heap.UpToSlots.of_keeps up).trans y)
section
local macro_rules | `(tactic| walk_at "filler") => `(tactic| skip)
local macro_rules | `(tactic| walk_at "filler") => `(tactic| skip)
local macro_rules | `(tactic| walk_at "filler") => `(tactic| skip)
local macro_rules | `(tactic| walk_at "filler") => `(tactic| skip)
local macro_rules | `(tactic| walk_at "filler") => `(tactic| skip)
local macro_rules | `(tactic| walk_at "filler") => `(tactic| skip)
local macro_rules | `(tactic| walk_at "filler") => `(tactic| skip)
local macro_rules | `(tactic| walk_at "filler") => `(tactic| skip)
local macro_rules | `(tactic| walk_at "filler") => `(tactic| skip)
local macro_rules | `(tactic| walk_at "filler") => `(tactic| skip)
local macro_rules | `(tactic| walk_at "filler") => `(tactic| skip)
local macro_rules | `(tactic| walk_at "filler") => `(tactic| skip)
local macro_rules | `(tactic| walk_at "filler") => `(tactic| skip)
local macro_rules | `(tactic| walk_at "filler") => `(tactic| skip)
local macro_rules | `(tactic| walk_at "filler") => `(tactic| skip)
local macro_rules | `(tactic| walk_at "filler") => `(tactic| skip)
local macro_rules | `(tactic| walk_at "filler") => `(tactic| skip)
local macro_rules | `(tactic| walk_at "exec Raise some none") => `(tactic| refine Raise_new rfl ?_)
local macro_rules | `(tactic| walk_at "leaving ref") => `(tactic| refine Mine.halt ?_)
local macro_rules | `(tactic| walk_at "truthy str") => `(tactic| ((with_reducible refine r_truthy ?hz ?_); (case hz => first | omega | simp); intro _))
set_option maxHeartbeats 4000000 in
theorem similar_raise (w : World) {p : Program} {loose : List Str} {mean : ExcName → Option Value} {mg mb : Str → Option Value} {h₀ : Heap} {L : Addr} {env : Env} {s : Shared} {Q E : Value → Shared → Prop} {m : Str → Option Value} {pl : List Nat} {t u : Tok} {v3 : Value}
    (X : (hd.heap_39 w.params).In h₀) (T : Top p loose mean mg mb h₀) (F : Fr h₀ L s.heap m) (hf : env.frame = some L) (hke : env.scope.kind = .function) (hne : pl ≠ []) (hz : pl.length ≤ 1000)
    (hE : ∀ e h' tk, Fly2 (hideAll s.heap [L]) [env] e (.type "ValueError") .none h' → s.heap.UpToSlots h' → E (.ref e) { s with heap := h', toks := tk }) :
    wpAny (model PySem.Challenge.rw_fe0311_01.row.prog w) (callerA.deeper env) (call (.ref 24) [.str (Str.ofString "") t, .str (tx pl) u, v3]) Q E s := by
  rw [empty_tx]
  refine wpAny_call ?_
  have X1 := X.keeps F.keep
  have T1 := T.keeps F.keep
  w_top off
  revert X1; k_fill; intro X1
  k_dflt (refine' enterC X1 T1.nolimit (by simp only [depth_deeper, depth_caller]; decide) ?k6 ?k7 ?k9 ?kB ?kN ?_ ?c2 ?c3 ?c4; (case k6 => k_is); (case k7 => k_is); (case k9 => exact BindsTo.of_eq rfl); (case kB => exact rfl); (case kN => decide); (case c2 => exact rfl); (case c3 => exact rfl); (case c4 => exact rfl))
  intro L2 h₁ tk cells F2 N2 Y
  obtain ⟨o', hE', d1'⟩ := CellsAre.one Y
  subst hE'
  dsimp only
  have F0 := F
  clear F
  k_steps
  unfold Mine.Halt
  (rename Heap.NewExc _ _ _ _ => hx)
  exact raise_leave hx F2 F0 rfl rfl hf hke fun h' x y => hE _ h' _ x y
end
section
local macro_rules | `(tactic| walk_at "filler") => `(tactic| skip)
local macro_rules | `(tactic| walk_at "filler") => `(tactic| skip)
local macro_rules | `(tactic| walk_at "filler") => `(tactic| skip)
local macro_rules | `(tactic| walk_at "filler") => `(tactic| skip)
local macro_rules | `(tactic| walk_at "filler") => `(tactic| skip)
local macro_rules | `(tactic| walk_at "filler") => `(tactic| skip)
local macro_rules | `(tactic| walk_at "filler") => `(tactic| skip)
local macro_rules | `(tactic| walk_at "filler") => `(tactic| skip)
local macro_rules | `(tactic| walk_at "filler") => `(tactic| skip)
local macro_rules | `(tactic| walk_at "filler") => `(tactic| skip)
local macro_rules | `(tactic| walk_at "filler") => `(tactic| skip)
local macro_rules | `(tactic| walk_at "filler") => `(tactic| skip)
local macro_rules | `(tactic| walk_at "filler") => `(tactic| skip)
local macro_rules | `(tactic| walk_at "filler") => `(tactic| skip)
local macro_rules | `(tactic| walk_at "filler") => `(tactic| skip)
local macro_rules | `(tactic| walk_at "filler") => `(tactic| skip)
local macro_rules | `(tactic| walk_at "filler") => `(tactic| skip)
local macro_rules | `(tactic| walk_at "filler") => `(tactic| skip)
local macro_rules | `(tactic| walk_at "filler") => `(tactic| skip)
local macro_rules | `(tactic| walk_at "filler") => `(tactic| skip)
local macro_rules | `(tactic| walk_at "truthy str") => `(tactic| ((with_reducible refine r_truthy ?hz ?_); (case hz => first | omega | simp); intro _))
set_option maxHeartbeats 4000000 in
theorem similar_empty (w : World) (x : Str) (t u : Tok) (v3 : Value) : PureCall w 24 [.str x t, .str (Str.ofString "") u, v3] (fun v => v = .str (Str.ofString "") u) := by
  rw [empty_tx]
  intro A E s Q G hA hd hu hQ
  obtain ⟨h9, dp, fr, gs, un⟩ := A
  cases hA
  obtain ⟨X, p, loose, mean, mg, mb, T⟩ := G
  refine wpAny_call ?_
  w_top off
  revert X; k_fill; intro X
  k_dflt (refine' enterC X T.nolimit (by show dp < _; have : dp + 5 < recursionLimit := hd; omega) ?k6 ?k7 ?k9 ?kB ?kN ?_ ?c2 ?c3 ?c4; (case k6 => k_is); (case k7 => k_is); (case k9 => exact BindsTo.of_eq rfl); (case kB => exact rfl); (case kN => decide); (case c2 => exact rfl); (case c3 => exact rfl); (case c4 => exact rfl))
  intro L2 h₁ tk cells F2 N2 Y
  obtain ⟨o', hE', d1'⟩ := CellsAre.one Y
  subst hE'
  dsimp only
  k_steps
  exact hQ _ _ rfl ⟨_, _, rfl, F2.keep⟩
end
section
variable {prog : Program} {w : World} {E : Value → Shared → Prop} {s' : Shared} {G h₀ : Heap} {L a e : Addr} {m : Str → Option Value} {cn : Str} {cs : Scope} {cd a0 : Value} {cl : List (Str × Addr)}
  {b₀ : Stmt} {suite : List Stmt} {pos np : Pos} {rest : List ExceptHandler} {Q : Flow → Shared → Prop} {news : List (Addr × Obj)} {KF : Frag}
  {p : Program} {loose : List Str} {mean : ExcName → Option Value} {mg mb : Str → Option Value} {x : Str} {X T' : String}
/-- an exception object that no other raise has been chained to -/
def Calm (e : Addr) (h : Heap) : Prop := ∃ o vs, h.get? e = some o ∧ o.data = .fields vs ∧ vs[2]? = some .none
/-- what stands after the catch: the frame, the ledger -/
theorem caught_heap {B h₆ : Heap} (F : Fr h₀ L G m) (N : News h₀ L G news) (hB : B = hideAll G [L]) (hst : B.StaysIn h₆) (hup : G.UpToSlots h₆) : Fr h₀ L h₆ m ∧ News h₀ L h₆ news := by
  obtain ⟨o, es, ep, ho, hd, hk, hf⟩ := F.ns
  obtain ⟨sl, hs⟩ := hup _ _ ho (fun vs q => by rw [hd] at q; cases q)
  have nL : h₀.get? L = none := kts_self F
  have keep : ∀ b o, G.get? b = some o → b ≠ L → h₆.get? b = some o := fun b o e n => hst b o (by rw [hB]; exact hideAll_get _ e fun q => n (List.mem_singleton.mp q))
  refine ⟨⟨⟨_, es, ep, hs, hd, hk, hf⟩, fun b o e => keep b o (F.keep b o e) (by rintro rfl; rw [nL] at e; cases e), F.above⟩, fun q hq => ?_⟩
  exact ⟨keep _ _ (N q hq).1 (N q hq).2.1, (N q hq).2⟩
theorem law_caught (hfl : Fly2 (hideAll G [L]) [envX cn cs L a cd cl] e (.type X) .none s'.heap) (hup : G.UpToSlots s'.heap) (F : Fr h₀ L G m) (N : News h₀ L G news) (XB : KF.In h₀) (TB : Top p loose mean mg mb h₀)
    (ex : nsIn KF mainGlobals x = some none) (hv : bootBuiltins x = some (.type T')) (hn' : x ≠ "__name__")
    (hexc : isSubtype (.type T') (.type "BaseException") = pure true) (hnt : isSubtype (.type ((Manifest.find? T').elim "type" fun y => y.metatype)) (.type "tuple") = pure false) (hsub : isSubtype (.type X) (.type T') = pure true)
    (k : ∀ h', Calm e h' → Fr h₀ L h' m → News h₀ L h' news → wpAny (model prog w) ((callerA.deeper (envX cn cs L a cd cl)).mark (some (.ref e))) (execs (b₀ :: suite) (envX cn cs L a cd cl)) Q E { s' with heap := h' })
    (hk : cs.kind = .function) (hx : (envX cn cs L a cd cl).kindOf x = some .globalImplicit) (hd : (x == ("__debug__" : Str)) = false)
    (hE : PassesOwnAt (model prog w) ((callerA.deeper (envX cn cs L a cd cl)).mark (some (.ref e))) (callerA.deeper (envX cn cs L a cd cl)) (envX cn cs L a cd cl) E) :
    wpAny (model prog w) (callerA.deeper (envX cn cs L a cd cl)) (noteFrame (.ref e) (envX cn cs L a cd cl))
      (fun _ s₂ => wpAny (model prog w) (callerA.deeper (envX cn cs L a cd cl)) (setFlight (.ref e) none) (fun _ s₃ =>
        wpAny (model prog w) (callerA.deeper (envX cn cs L a cd cl)) (handleBy (.ref e) (envX cn cs L a cd cl) (.ExceptHandler (some (.Name x np)) none (b₀ :: suite) pos :: rest)) Q E s₃) E s₂) E s' := by
  refine fly_noted rfl rfl hfl fun h₄ x₄ sm₄ => ?_
  refine fly_lands (s := { s' with heap := h₄ }) x₄ fun h₅ x₅ sm₅' => ?_
  have sm₅ := sm₄.trans sm₅'
  obtain ⟨F₅, N₅⟩ := caught_heap F N rfl x₅.1 (hup.trans sm₅)
  have P₅ : TopRead p loose mg mb h₀ := topRead_of TB
  have hob : ∃ ob, h₅.get? e = some ob ∧ ob.cls = .type X := by
    obtain ⟨_, _, _, oe, _, _, _, _, he, hc, _⟩ := x₅
    exact ⟨oe, he, hc⟩
  obtain ⟨ob, hob, hobc⟩ := hob
  refine wpAny_handleBy_builtin (X := X) (T := T') (b := true) hexc hnt hsub (nameX_B F₅ XB P₅ ex hv hn' ⟨rfl, ⟨ob, hob, hobc⟩, ?_⟩ hk hx hd)
  refine fly_lands (s := { s' with heap := h₅ }) x₅ fun h₆ x₆ sm₆ => ?_
  obtain ⟨F₆, N₆⟩ := caught_heap F N rfl x₆.1 ((hup.trans sm₅).trans sm₆)
  have hcalm : Calm e h₆ := by
    obtain ⟨_, _, _, oe, vs, _, _, _, he, _, hdd, _, h2, _⟩ := x₆
    exact ⟨oe, vs, he, hdd, h2⟩
  exact wpAny_passesOwnAt hE (k h₆ hcalm F₆ N₆)
end
end Mine

/-! PMM -/
namespace Mine
theorem unchain_entry : entryFor table "proto.unchain" = some Builtin.«proto.unchain» := entryFor_of_tree (by kernel_rfl)
section
variable {prog : Program} {w : World} {A : Around} {E : Value → Shared → Prop} {s : Shared}
theorem unchain_calm {e x : Addr} {Q : Value → Shared → Prop} (hc : Calm e s.heap) (h : Q .none s) : wpAny (model prog w) A (runValue (.builtin "proto.unchain" ⟨[.ref x, .ref e, .ref e, .bool false], []⟩)) Q E s := by
  obtain ⟨o, vs, ho, hd, h2⟩ := hc
  refine wpAny_runValue (codeAny_builtin unchain_entry ?_)
  show wpAny _ _ (field (.ref e) 2 >>= _) _ _ s
  refine wpAny_bind (wpAny_field ho hd h2 ?_)
  exact wpAny_pure h
theorem raise_calm {α : Type} {e x : Addr} {ox : Obj} {vx : Array Value} {Q : α → Shared → Prop} (hh : A.handled = some (.ref e)) (hc : Calm e s.heap) (hxe : x ≠ e) (hx : s.heap.get? x = some ox) (hdx : ox.data = .fields vx) (hsz : 2 < vx.size)
    (h : E (.ref x) { s with heap := s.heap.update x (Obj.mapFields (·.setIfInBounds 2 (.ref e))) }) : wpAny (model prog w) A (raiseNew (.ref x) : Sem α) Q E s := by
  simp only [raiseNew]
  refine wpAny_bind (wpAny_handled ?_)
  rw [hh]
  have hne : (Value.ref e != Value.ref x) = true := by
    simp
    exact fun q => hxe q.symm
  show wpAny _ _ (if (Value.ref e != Value.ref x) = true then (do
    let _ ← holding [.ref x] (runValue (.builtin "proto.unchain" ⟨[.ref x, .ref e, .ref e, .bool false], []⟩))
    updateField x 2 (.ref e)
    throw (.ref x)) else throw (.ref x)) _ _ s
  rw [if_pos hne]
  refine wpAny_bind (wpAny_holding (unchain_calm hc ?_))
  refine wpAny_bind ?_
  unfold updateField
  refine wpAny_bind (wpAny_load hx ?_)
  rw [hdx]
  show wpAny _ _ (if 2 < vx.size then update x (Obj.mapFields (·.setIfInBounds 2 (.ref e))) else _) _ _ s
  rw [if_pos hsz]
  exact wpAny_update hx (wpAny_throw h)
theorem next_end_calm {it t e : Addr} {i : Nat} {items : Array Value} {Q : Option Value → Shared → Prop} (hh : A.handled = some (.ref e)) (hc : Calm e s.heap) (hit : s.heap.IsTupleIter it t i) (ht : s.heap.IsTuple t items) (hne : e ≠ it) (hx : items[i]? = none)
    (hQ : ∀ h', Heap.ExtBut it s.heap h' → Q none { s with heap := h' }) : wpAny (model prog w) A (pyNext (.ref it)) Q E s := by
  obtain ⟨o, ho, hcl, hd⟩ := id hit
  obtain ⟨ol, hol, _, nl, hdl⟩ := ht
  have hlt : e < s.heap.objs.size := by obtain ⟨oe, _, he, _⟩ := hc; exact Heap.lt_size he
  unfold pyNext
  refine wpAny_bind (wpAny_attempt (wpAny_callSpecial?_slot (name := Str.ofString "__next__") hit.typeIs F.slot_tuple_iterator_next
    (wpAny_call_entry F.slot_tuple_iterator_next hit.typeIs F.entry_tuple_iterator_next ?_ (F.args_tuple_iterator_next_1 _))))
  show wpAny _ _ (field (.ref it) 0 >>= _) _ _ s
  refine wpAny_bind (wpAny_field ho hd (x := .ref t) rfl ?_)
  show wpAny _ _ (if (Value.ref t == Value.none) = true then _ else _) _ _ s
  rw [if_neg (show ¬ ((Value.ref t == Value.none) = true) from Bool.false_ne_true)]
  show wpAny _ _ (field (.ref it) 1 >>= _) _ _ s
  refine wpAny_bind (wpAny_field ho hd (x := .int i 0) rfl ?_)
  show wpAny _ _ (seqItems? (.ref t) >>= _) _ _ s
  refine wpAny_bind (wpAny_seqItems hol hdl ?_)
  simp only [Int.toNat_natCast, hx]
  refine wpAny_bind (wpAny_rule (wpAny_bind (wpAny_setField ho hd (by simp) ?_)))
  show wpAny _ _ (newExc (.type "StopIteration") [] >>= _) _ _ _
  refine wpAny_bind ?_
  simp only [newExc, newTuple]
  refine wpAny_bind (wpAny_newObj_type ?_ (by size_fits))
  refine wpAny_bind (m := firstArgMember _ _) (wpAny_of_eq (a := Value.none) (by first | rfl | (simp only [firstArgMember]; rfl)) ?_)
  refine wpAny_newObj_type ?_ (by size_fits)
  have hcalm : Calm e (((s.heap.update it (Obj.mapFields (·.setIfInBounds 0 Value.none))).push { cls := .type "tuple", data := .seq ([] : List Value).toArray }).push { cls := .type "StopIteration", data := .fields (#[.ref (s.heap.update it (Obj.mapFields (·.setIfInBounds 0 Value.none))).objs.size, .none, .none, .none, .bool false, .none] ++ ownMembersOf (.type "StopIteration") []) }) := by
    obtain ⟨oe, vs, he, hde, h2⟩ := hc
    exact ⟨oe, vs, Heap.get?_push_of_some _ (Heap.get?_push_of_some _ ((Heap.get?_update_other _ _ (Ne.symm hne)).trans he)), hde, h2⟩
  have hsz : (s.heap.update it (Obj.mapFields (·.setIfInBounds 0 Value.none))).objs.size = s.heap.objs.size := Heap.size_update ..
  have hxs : ((s.heap.update it (Obj.mapFields (·.setIfInBounds 0 Value.none))).push { cls := .type "tuple", data := .seq ([] : List Value).toArray }).objs.size = s.heap.objs.size + 1 := by rw [Heap.size_push, hsz]
  have hnew : ∀ b o, s.heap.get? b = some o → b ≠ ((s.heap.update it (Obj.mapFields (·.setIfInBounds 0 Value.none))).push { cls := .type "tuple", data := .seq ([] : List Value).toArray }).objs.size := fun b o hb q => by
    have := Heap.lt_size hb
    rw [q, hxs] at this
    exact Nat.lt_irrefl _ (Nat.lt_of_succ_lt this)
  have hxe := fun q => (let ⟨oe, _, he, _⟩ := hc; hnew e oe he (Eq.symm q))
  have hxg := Heap.get?_push_size ((s.heap.update it (Obj.mapFields (·.setIfInBounds 0 Value.none))).push { cls := .type "tuple", data := .seq ([] : List Value).toArray }) (o := { cls := .type "StopIteration", data := .fields (#[.ref (s.heap.update it (Obj.mapFields (·.setIfInBounds 0 Value.none))).objs.size, .none, .none, .none, .bool false, .none] ++ ownMembersOf (.type "StopIteration") []) }) rfl
  refine raise_calm hh hcalm hxe hxg rfl (by simp [Array.size_append]; omega) ?_
  refine wpAny_bind (wpAny_isInstance (T := "StopIteration") (b := true) ⟨_, Heap.get?_update_self _ hxg rfl, rfl⟩ isSubtype_stop ?_)
  refine wpAny_pure (hQ _ fun b o hb e' => ?_)
  rw [Heap.get?_update_other _ _ (Ne.symm (hnew b o e'))]
  exact Heap.get?_push_of_some _ (Heap.get?_push_of_some _ ((Heap.get?_update_other _ _ (Ne.symm hb)).trans e'))
theorem walks_calm {e : Addr} (hh : A.handled = some (.ref e)) (I ax : Addr) (hne : ax ≠ I) (heI : e ≠ I) (items : Array Value) :
    Walks prog w A I [I, ax, e] [I] items.size (fun i v => items[i]? = some v) (fun i h => h.IsTupleIter I ax i ∧ h.IsTuple ax items ∧ Calm e h) where
  sub := fun b hb => by simp at hb; simp [hb]
  frame := fun _ _ _ st hk => ⟨st.1.at fun o q => hk I (by simp) o q, st.2.1.at fun o q => hk ax (by simp) o q, by
    obtain ⟨o, vs, ho, hd, h2⟩ := st.2.2
    exact ⟨o, vs, hk e (by simp) o ho, hd, h2⟩⟩
  item := fun i s Q E hi st hQ => by
    refine wpAny_pyNext_tuple_item st.1 st.2.1 (x := items[i]) (by simp [hi]) fun h' hit' hs' => ?_
    refine hQ _ h' s.toks (by simp [hi]) ⟨hit', st.2.1.extBut hs'.extBut hne, ?_⟩ fun b o hb q => hs'.extBut b o (fun h => hb (by simp [h])) q
    obtain ⟨o, vs, ho, hd, h2⟩ := st.2.2
    exact ⟨o, vs, hs'.extBut _ _ heI ho, hd, h2⟩
  done := fun s Q E st hQ => next_end_calm hh st.2.2 st.1 st.2.1 heI (by simp) fun h' he' => hQ h' s.toks fun b o hb q => he' b o (fun h => hb (by simp [h])) q
  self := fun _ _ _ _ st hQ => wpAny_pyIter_tupleiter st.1 hQ
theorem min_marked {Q : Value → Shared → Prop} {e : Addr} {a b : Nat} {t u : Tok} (hc : Calm e s.heap)
    (h : ∀ h' tk t', (∀ c o, s.heap.get? c = some o → h'.get? c = some o) → Q (.int ((min a b : Nat) : Int) t') { s with heap := h', toks := tk }) :
    wpAny (model prog w) (A.mark (some (.ref e))) (call (.builtin "min") [.int (a : Int) t, .int (b : Int) u]) Q E s := by
  have hT : (s.heap.push { cls := .type "tuple", data := .seq #[.int (a : Int) t, .int (b : Int) u] }).IsTuple s.heap.objs.size (intItems #[((a : Int), t), ((b : Int), u)]) := ⟨_, Heap.get?_push_size _ rfl, rfl, 0, by simp [intItems]⟩
  have hlt : e < s.heap.objs.size := by obtain ⟨oe, _, he, _⟩ := hc; exact Heap.lt_size he
  refine call_min_two (wpAny_pyIter_tuple hT ?_)
  have hsz : (s.heap.push { cls := .type "tuple", data := .seq #[.int (a : Int) t, .int (b : Int) u] }).objs.size = s.heap.objs.size + 1 := Heap.size_push ..
  refine ⟨_, [_, s.heap.objs.size, e], [_], _, _, _, _, rfl, walks_calm (A := (A.mark (some (.ref e))).in1) rfl _ s.heap.objs.size (by rw [hsz]; exact Nat.ne_of_lt (Nat.lt_succ_self _)) (by rw [hsz]; exact Nat.ne_of_lt (Nat.lt_succ_of_lt hlt)) (intItems #[((a : Int), t), ((b : Int), u)]),
    ⟨⟨_, Heap.get?_push_size _ rfl, rfl, rfl⟩, hT.push _, ?_⟩, fun c hcm => ?_, by simp [intItems], CmpOf.ints_lt (numAt #[((a : Int), t), ((b : Int), u)]) (fun _ _ => intItems_at), fun v h' tk hP hk => ?_⟩
  · obtain ⟨o, vs, ho, hd, h2⟩ := hc
    exact ⟨o, vs, Heap.get?_push_of_some _ (Heap.get?_push_of_some _ ho), hd, h2⟩
  · show c < ((s.heap.push _).push _).objs.size
    rw [Heap.size_push, hsz]
    simp only [List.mem_cons, List.not_mem_nil, or_false] at hcm
    rcases hcm with rfl | rfl | rfl
    · rw [hsz]; exact Nat.lt_succ_self _
    · exact Nat.lt_succ_of_lt (Nat.lt_succ_self _)
    · exact Nat.lt_succ_of_lt (Nat.lt_succ_of_lt hlt)
  · have hold : ∀ c o, s.heap.get? c = some o → h'.get? c = some o := by
      intro c o q
      refine hk c o (fun hm => ?_) (Heap.get?_push_of_some _ (Heap.get?_push_of_some _ q))
      have e1 := List.mem_singleton.mp hm
      have hl := Heap.lt_size q
      rw [e1, hsz] at hl
      exact Nat.lt_irrefl _ (Nat.lt_of_succ_lt hl)
    have hP1 : (intItems #[((a : Int), t), ((b : Int), u)])[argBest (fun i j => decide (numAt #[((a : Int), t), ((b : Int), u)] i < numAt #[((a : Int), t), ((b : Int), u)] j)) 1]? = some v := by
      have e0 : (intItems #[((a : Int), t), ((b : Int), u)]).size - 1 = 1 := by simp [intItems]
      rw [← e0]
      exact hP
    by_cases hba : (b : Int) < (a : Int)
    · have e1 : argBest (fun i j => decide (numAt #[((a : Int), t), ((b : Int), u)] i < numAt #[((a : Int), t), ((b : Int), u)] j)) 1 = 1 := by simp [argBest, numAt, hba]
      rw [e1] at hP1
      have ev : v = .int (b : Int) u := by simpa [intItems] using hP1.symm
      have em : min a b = b := by omega
      have := h h' tk u hold
      rw [em] at this
      rw [ev]
      exact this
    · have e1 : argBest (fun i j => decide (numAt #[((a : Int), t), ((b : Int), u)] i < numAt #[((a : Int), t), ((b : Int), u)] j)) 1 = 0 := by simp [argBest, numAt, hba]
      rw [e1] at hP1
      have ev : v = .int (a : Int) t := by simpa [intItems] using hP1.symm
      have em : min a b = a := by omega
      have := h h' tk t hold
      rw [em] at this
      rw [ev]
      exact this
end
end Mine

/-! PR2 -/
namespace Mine
def tryBody : List Stmt := lawBody.drop 6
theorem rng_size (n : Nat) : Builtin.Range.rangeSize 0 (n : Int) 1 = (n : Int) := by
  unfold Builtin.Range.rangeSize
  rw [if_pos (by decide)]
  split
  · rw [Int.ediv_one]; omega
  · omega
theorem eq_same {prog : Program} {w : World} {A : Around} {E : Value → Shared → Prop} {Q : Value → Shared → Prop} {s : Shared} {x : Str} {t u : Tok} (h : Q (.bool true) s) : wpAny (model prog w) A (compareOp .Eq (.str x t) (.str x u)) Q E s := by
  refine PyProof.Rows.eq_str ?_
  rw [beq_self_eq_true]
  exact h
theorem a_tx : Str.ofString "a" = tx [97] := by decide +kernel
theorem r_add_a {prog : Program} {w : World} {A : Around} {E : Value → Shared → Prop} {Q : Value → Shared → Prop} {s : Shared} {l : List Nat} {t u : Tok} (hz : l.length ≤ 10000) (h : ∀ t' k, Q (.str (tx (l ++ [97])) t') { s with toks := k }) :
    wpAny (model prog w) A (binaryOp .Add (.str (tx l) t) (.str (Str.ofString "a") u)) Q E s := by
  rw [a_tx]
  exact r_add (by simp; omega) h
section
local macro_rules | `(tactic| walk_at "filler") => `(tactic| skip)
local macro_rules | `(tactic| walk_at "filler") => `(tactic| skip)
local macro_rules | `(tactic| walk_at "filler") => `(tactic| skip)
local macro_rules | `(tactic| walk_at "filler") => `(tactic| skip)
local macro_rules | `(tactic| walk_at "filler") => `(tactic| skip)
local macro_rules | `(tactic| walk_at "filler") => `(tactic| skip)
local macro_rules | `(tactic| walk_at "filler") => `(tactic| skip)
local macro_rules | `(tactic| walk_at "filler") => `(tactic| skip)
local macro_rules | `(tactic| walk_at "filler") => `(tactic| skip)
local macro_rules | `(tactic| walk_at "filler") => `(tactic| skip)
local macro_rules | `(tactic| walk_at "filler") => `(tactic| skip)
local macro_rules | `(tactic| walk_at "filler") => `(tactic| skip)
local macro_rules | `(tactic| walk_at "CompSrc") => `(tactic| refine Mine.halt ?_)
local macro_rules | `(tactic| walk_at "exec Try") => `(tactic| refine wpAny_Try_except ?_)
local macro_rules | `(tactic| walk_at "call builtin:len") => `(tactic| ((with_reducible refine r_len ?hz ?_); (case hz => omega); intro _ _))
local macro_rules | `(tactic| walk_at "call builtin:min") => `(tactic| refine Mine.halt ?_)
local macro_rules | `(tactic| walk_at "eval Name") => `(tactic| (k_dflt (refine blockCell (by with_unfolding_all rfl) (by assumption) ?_)))
local macro_rules | `(tactic| walk_at "subscriptTail Name Name str int") => `(tactic| ((with_reducible refine r_item (by omega) (by omega) (by omega) ?_); intro _ _))
local macro_rules | `(tactic| walk_at "subscriptTail Name Slice str ref") => `(tactic| ((with_reducible show wpAny _ _ (subscriptTail _ (Expr.Slice none (some _) none _) _ _) _ _ _); (rename Fr _ _ _ _ => F'); (rename News _ _ _ _ => N'); (refine r_slice_ns (s := ⟨_, _, _, _, _⟩) F' N' (by assumption) (by omega) (by omega) (by omega) ?_); clear F' N'; intro _ _ _ _ _))
local macro_rules | `(tactic| walk_at "binaryOp Add str str") => `(tactic| ((with_reducible refine r_add_a ?hz ?_); (case hz => omega); intro _ _))
local macro_rules | `(tactic| walk_at "compareOp Eq str str") => `(tactic| (with_reducible refine eq_same ?_))
local macro_rules | `(tactic| walk_at "call ref") => `(tactic| refine Mine.halt ?_)
set_option maxHeartbeats 8000000 in
theorem law_try (w : World) {p : Program} {loose : List Str} {mean : ExcName → Option Value} {mg mb : Str → Option Value} {h₀ : Heap} {L f la lm lr c D1 D2 l2 : Nat} {fa : Addr} {s : Shared} {Q : Flow → Shared → Prop} {E : Value → Shared → Prop} {ca pl : List Nat} {m : Str → Option Value} {tups : List (Addr × Obj)} {fo oc om ol o1 o2 o3 oR oA oP oC tb : Obj} {tc tp : Tok} {nl : Nat}
    (X : (hd.heap_39 w.params).In h₀) (T : Top p loose mean mg mb h₀) (B : Below callerA h₀ [] h₀) (hne1 : ca ≠ []) (hne2 : pl ≠ []) (hhi : ∀ c ∈ ca, c ∈ HiS) (hlo : ∀ c ∈ pl, c ∈ LoS) (hz1 : ca.length ≤ 1000) (hz2 : pl.length ≤ 1000) (hap : Asc pl) (hac : Asc ca)
    (F : Fr h₀ L s.heap (fun y => if y = Str.ofString "pieces" then some (.ref f) else m y))
    (N : News h₀ L s.heap ((l2, o3) :: (D1, o1) :: (D2, o2) :: (f, fo) :: (c, oc) :: (la, W.listOf #[.ref D2] nl) :: (lm, om) :: (lr, ol) :: (L + 1 + 1 + 1 + 1, oR) :: (L + 1 + 1 + 1, oA) :: (L + 1 + 1, oP) :: (L + 1, oC) :: (50, tb) :: tups))
    (dC : oC.data = .cell (some (.str (tx ca) tc))) (dP : oP.data = .cell (some (.str (tx pl) tp))) (dA : oA.data = .cell (some (.ref la)))
    (hQ : ∀ h' tk' m' news', Fr h₀ L h' m' → News h₀ L h' news' → (50, tb) ∈ news' → Q (.ret (.bool true)) { s with heap := h', toks := tk' })
    (hac' : List.zipWith castC (ca.take (min ca.length pl.length)) (pl.take (min ca.length pl.length)) = (rangeKs 0 (min ca.length pl.length)).map fun k => likeC (pl.getD k.toNat 0) (ca.getD k.toNat 0))
    (hE2 : ∀ e, PassesOwnAt (model PySem.Challenge.rw_fe0311_01.row.prog w) ((callerA.deeper (envOfC (Str.ofString "law") lawScope L fa (.ref 52))).mark (some (.ref e))) (callerA.deeper (envOfC (Str.ofString "law") lawScope L fa (.ref 52))) (envOfC (Str.ofString "law") lawScope L fa (.ref 52)) E)
    (hE : PassesOwn (model PySem.Challenge.rw_fe0311_01.row.prog w) (callerA.deeper (envOfC (Str.ofString "law") lawScope L fa (.ref 52))) (envOfC (Str.ofString "law") lawScope L fa (.ref 52)) E) :
    wpAny (model PySem.Challenge.rw_fe0311_01.row.prog w) (callerA.deeper (envOfC (Str.ofString "law") lawScope L fa (.ref 52))) (execs tryBody (envOfC (Str.ofString "law") lawScope L fa (.ref 52))) Q E s := by
  conv in tryBody => whnf
  w_top off
  revert X; k_fill; intro X
  k_steps
  unfold Mine.Halt
  (rename Fr _ _ _ _ => FF)
  (rename News _ _ _ _ => NN)
  refine similar_raise w X T FF rfl rfl hne2 hz2 ?_
  intro e h' tk hfl hup
  refine law_caught hfl hup FF NN X T ?ex PyProof.Rows.Boot.«ValueError» (by decide) PySem.F.isExc_ValueError PySem.F.notTuple_ValueError ?hs ?_ rfl rfl (by decide) ?hE
  case ex => k_is
  case hs => kts_sub
  case hE => exact hE2 _
  intro h2 hcalm F2 N2
  k_steps
  unfold Mine.Halt
  refine min_marked hcalm ?_
  intro h3 tk3 t3 hk3
  have F3 := Fr.keeps (by assumption) hk3
  have N3 := News.grown (by assumption) hk3
  clear F2 N2
  k_steps
  unfold Mine.Halt
  have hmin1 : min ca.length pl.length ≤ ca.length := Nat.min_le_left _ _
  have hmin2 : min ca.length pl.length ≤ pl.length := Nat.min_le_right _ _
  generalize hnn : min ca.length pl.length = nn at *
  refine LCg.CompSrc.range rfl (by k_asm) (by k_asm) (by assumption) (small_one (by decide) (by decide) (by omega) (by omega)) (rng_size _) (by rw [sizeLine_eq]; omega) ?_
  intro g'
  refine kct_range (fun k => tx [likeC (pl.getD k.toNat 0) (ca.getD k.toNat 0)]) ?_ ?_
  · intro k t' I oI C oC D m₂ ys h tk' E' h0 h1 hC hx F' N' off ne mk
    simp only [LCg.Off3, and_true] at off
    dsimp only
    k_steps
    unfold Mine.Halt
    have hg1 : pl.getD k.toNat 0 ∈ LoS := by
      have hlt : k.toNat < pl.length := by omega
      rw [List.getD_eq_getElem?_getD, List.getElem?_eq_getElem hlt]
      exact hlo _ (List.getElem_mem hlt)
    have hg2 : ca.getD k.toNat 0 ∈ HiS := by
      have hlt : k.toNat < ca.length := by omega
      rw [List.getD_eq_getElem?_getD, List.getElem?_eq_getElem hlt]
      exact hhi _ (List.getElem_mem hlt)
    refine like_call w _ _ hg1 hg2 _ _ _ _ _ _ ⟨X.keeps F'.keep, p, loose, mean, mg, mb, T.keeps F'.keep⟩ rfl (by simp only [depth_deeper, depth_caller]; decide) (by simp only [units_deeper, units_caller]; decide) ?_
    rintro v s' ⟨t9, rfl⟩ ⟨h9, tk9, rfl, hk9⟩
    exact ⟨h9, tk9, _, rfl, F'.keeps hk9, N'.grown hk9, off, trivial, rfl, _, rfl⟩
  · unfold KPfDone
    intro ys hc _
    intro D h tk' F' N' _
    have hL9 : h.IsList D ys.toArray := ⟨LCg.lst ys, (N' _ (.head _)).1, rfl, ys.length, rfl⟩
    have hS := strs_carried (by rw [List.map_map]; exact hc) (xs := (rangeKs 0 _).map fun k => tx [likeC (pl.getD k.toNat 0) (ca.getD k.toNat 0)])
    clear hc
    k_steps
    refine join_tx (ls := (rangeKs 0 nn).map fun k => [likeC (pl.getD k.toNat 0) (ca.getD k.toNat 0)]) hL9 (by rw [List.map_map]; exact hS) (by rw [flat_one]; simp [rangeKs]; omega) fun t' k => ?_
    rw [flat_one]
    rw [← hac']
    have hs1 : ca.take ((nn : Nat) : Int).toNat = ca.take nn := rfl
    have hs2 : pl.take ((nn : Nat) : Int).toNat = pl.take nn := rfl
    k_steps
    unfold Mine.Halt
    refine (similar_empty w _ _ _ _).use X T (by assumption) (by assumption) rfl (by simp only [depth_deeper, depth_caller]; decide) (by simp only [units_deeper, units_caller]; decide) ?_
    rintro v h6 tk6 rfl F6 N6
    k_steps
    unfold Mine.Halt
    have ht1 : Asc (ca.take nn) := fun c hc => hac c (List.mem_of_mem_take hc)
    have ht2 : Asc (pl.take nn) := fun c hc => hap c (List.mem_of_mem_take hc)
    have hl1 : (ca.take nn).length = nn := by rw [List.length_take]; omega
    have hl2 : (pl.take nn).length = nn := by rw [List.length_take]; omega
    refine outcome_eq w _ _ ht1 ht2 (by rw [hl1, hl2]) (by omega) _ _ p loose mean mg mb _ _ h₀ L _ _ _ _ B (by assumption) X (by assumption) T rfl rfl ?_
    intro t10 h10 tk10 F10 N10
    k_steps
    unfold Mine.Halt
    have hca1 : (ca ++ [97]).length ≠ ca.length := by simp
    have hz3 : (ca ++ [97]).length ≤ 1000000 := by simp; omega
    by_cases hlen : ca.length = pl.length
    · have hn1 : nn = ca.length := by omega
      have e1 : ca.take nn = ca := by rw [hn1, List.take_length]
      have e2 : pl.take nn = pl := by rw [hn1, hlen, List.take_length]
      refine outcome_eq w _ _ hac hap hlen (by omega) _ _ p loose mean mg mb _ _ h₀ L _ _ _ _ B (by assumption) X (by assumption) T rfl rfl ?_
      rw [e1, e2] at *
      intro t11 h11 tk11 F11 N11
      k_steps
      all_goals (
        unfold Mine.Halt
        refine outcome_ne w _ _ hca1 hz3 (by omega) _ _ p loose mean mg mb _ _ h₀ L _ _ _ _ B (by assumption) X (by assumption) T rfl rfl ?_
        intro t12 h12 tk12 F12 N12
        k_steps
        exact hQ _ _ _ _ F12 N12 (by simp))
    · refine outcome_ne w _ _ hlen (by omega) (by omega) _ _ p loose mean mg mb _ _ h₀ L _ _ _ _ B (by assumption) X (by assumption) T rfl rfl ?_
      intro t11 h11 tk11 F11 N11
      k_steps
      all_goals (
        unfold Mine.Halt
        refine outcome_ne w _ _ hca1 hz3 (by omega) _ _ p loose mean mg mb _ _ h₀ L _ _ _ _ B (by assumption) X (by assumption) T rfl rfl ?_
        intro t12 h12 tk12 F12 N12
        k_steps
        exact hQ _ _ _ _ F12 N12 (by simp))
end
end Mine

/-! PR1 -/
namespace Mine
theorem ne_same {prog : Program} {w : World} {A : Around} {E : Value → Shared → Prop} {Q : Value → Shared → Prop} {s : Shared} {l : List Nat} {t u : Tok} (h : Q (.bool false) s) : wpAny (model prog w) A (compareOp .NotEq (.str (tx l) t) (.str (tx l) u)) Q E s := by
  refine PyProof.Rows.ne_str ?_
  rw [bne_self_eq_false]
  exact h
theorem strOk_tx {l : List Nat} (h : Asc l) : PyData.strOk (tx l) = true := by
  unfold PyData.strOk
  simp only [tx, List.all_toArray, List.all_eq_true, decide_eq_true_eq]
  intro c hc
  have := h c hc
  omega
open Classical in
theorem asked_ne {prog : Program} {w : World} {A : Around} {E : Value → Shared → Prop} {Q : Value → Shared → Prop} {s : Shared} {h₀ : Heap} {L a b a1 b1 : Addr} {news : List (Addr × Obj)} {x y : Str} {t u v z : Tok} {na nb n1 n2 : Nat} (N : News h₀ L s.heap news)
    (ma : (a, W.listOf #[.ref a1] na) ∈ news) (ma1 : (a1, ({ cls := .type "tuple", data := .seq #[.str x t, .str y u] n1 } : Obj)) ∈ news)
    (mb : (b, W.listOf #[.ref b1] nb) ∈ news) (mb1 : (b1, ({ cls := .type "tuple", data := .seq #[.str x v, .str y z] n2 } : Obj)) ∈ news) (hx : PyData.strOk x = true) (hy : PyData.strOk y = true) (hu : A.units + 64 < cLine) (h : Q (.bool false) s) : wpAny (model prog w) A (compareOp .NotEq (.ref a) (.ref b)) Q E s := by
  refine kqd_ne (xs := [.ref a1]) (ys := [.ref b1]) (ds := [.tuple [.str x, .str y]]) (es := [.tuple [.str x, .str y]]) N ma rfl rfl (.cons (.tuple (vs := [.str x t, .str y u]) ma1 (.cons (.str _ _) (.cons (.str _ _) .nil))) .nil) (fun _ h => h)
    mb rfl rfl (.cons (.tuple (vs := [.str x v, .str y z]) mb1 (.cons (.str _ _) (.cons (.str _ _) .nil))) .nil) (fun _ h => h) ?_ ?_ hu ?_
  · intro d hd
    rw [List.mem_singleton.mp hd]
    simp [kqdOk, hx, hy]
  · intro d hd
    rw [List.mem_singleton.mp hd]
    simp [kqdOk, hx, hy]
  · rw [decide_eq_true rfl]
    exact h
section
local macro_rules | `(tactic| walk_at "filler") => `(tactic| skip)
local macro_rules | `(tactic| walk_at "filler") => `(tactic| skip)
local macro_rules | `(tactic| walk_at "filler") => `(tactic| skip)
local macro_rules | `(tactic| walk_at "filler") => `(tactic| skip)
local macro_rules | `(tactic| walk_at "filler") => `(tactic| skip)
local macro_rules | `(tactic| walk_at "filler") => `(tactic| skip)
local macro_rules | `(tactic| walk_at "filler") => `(tactic| skip)
local macro_rules | `(tactic| walk_at "filler") => `(tactic| skip)
local macro_rules | `(tactic| walk_at "filler") => `(tactic| skip)
local macro_rules | `(tactic| walk_at "filler") => `(tactic| skip)
local macro_rules | `(tactic| walk_at "filler") => `(tactic| skip)
local macro_rules | `(tactic| walk_at "filler") => `(tactic| skip)
local macro_rules | `(tactic| walk_at "filler") => `(tactic| skip)
local macro_rules | `(tactic| walk_at "filler") => `(tactic| skip)
local macro_rules | `(tactic| walk_at "filler") => `(tactic| skip)
local macro_rules | `(tactic| walk_at "eval ListComp") => `(tactic| (k_here; k_dflt (refine listComp_pair (by with_unfolding_all rfl) (by decide) (by rfl) (by decide) (by rfl) (by rfl) (by decide) ?_)))
local macro_rules | `(tactic| walk_at "eval Name") => `(tactic| (k_dflt (refine blockCell (by with_unfolding_all rfl) (by assumption) ?_)))
local macro_rules | `(tactic| walk_at "subscriptTail Name Name str int") => `(tactic| ((with_reducible refine r_item (by assumption) (by assumption) (by omega) ?_); intro _ _))
local macro_rules | `(tactic| walk_at "call ref") => `(tactic| refine Mine.halt ?_)
local macro_rules | `(tactic| walk_at "call type:zip") => `(tactic| refine Mine.halt ?_)
local macro_rules | `(tactic| walk_at "compareOp NotEq str str") => `(tactic| (with_reducible refine ne_same ?_))
local macro_rules | `(tactic| walk_at "compareOp NotEq ref ref") => `(tactic| refine Mine.halt ?_)
local macro_rules | `(tactic| walk_at "execs cons") => `(tactic| ((with_reducible show wpAny _ _ (execs (Stmt.Try _ _ _ _ _ :: _) _) _ _ _); refine Mine.halt ?_))
set_option maxHeartbeats 8000000 in
theorem law_rest (w : World) {p : Program} {loose : List Str} {mean : ExcName → Option Value} {mg mb : Str → Option Value} {h₀ : Heap} {L l : Nat} {fa : Addr} {s : Shared} {Q : Flow → Shared → Prop} {E : Value → Shared → Prop} {ps : List Pc} {m : Str → Option Value} {nx : List (Addr × Obj)}
    (X : (hd.heap_39 w.params).In h₀) (T : Top p loose mean mg mb h₀) (B : Below callerA h₀ [] h₀) (codeHd : CodeHd h₀ (52, 50).fst (52, 50).snd) (hok : ∀ p ∈ ps, PcOk p) (hps : ps.length ≤ 18) (hne1 : caOf ps ≠ []) (hne2 : plOf ps ≠ []) (hins : InsOk ps) (heq : simL (caOf ps) 0 ps = List.zipWith (fun c n => likeC c ((caOf ps).getD n.toNat 0)) (plOf ps) (mdsOf [] ps)) (hmd : ∀ n ∈ mdsOf [] ps, 0 ≤ n ∧ n < ((caOf ps).length : Int)) 
    (hac' : List.zipWith castC ((caOf ps).take (min (caOf ps).length (plOf ps).length)) ((plOf ps).take (min (caOf ps).length (plOf ps).length)) = (rangeKs 0 (min (caOf ps).length (plOf ps).length)).map fun k => likeC ((plOf ps).getD k.toNat 0) ((caOf ps).getD k.toNat 0))
    (hE2 : ∀ e, PassesOwnAt (model PySem.Challenge.rw_fe0311_01.row.prog w) ((callerA.deeper (envOfC (Str.ofString "law") lawScope L fa (.ref 52))).mark (some (.ref e))) (callerA.deeper (envOfC (Str.ofString "law") lawScope L fa (.ref 52))) (envOfC (Str.ofString "law") lawScope L fa (.ref 52)) E)
    (hE : PassesOwn (model PySem.Challenge.rw_fe0311_01.row.prog w) (callerA.deeper (envOfC (Str.ofString "law") lawScope L fa (.ref 52))) (envOfC (Str.ofString "law") lawScope L fa (.ref 52)) E)
    (hQ : ∀ c' h' tk' m' news', Fr h₀ L h' m' → News h₀ L h' news' → (50, tabObj (#[] ++ #[rawInt 76, rawInt 4, Value.ref c'])) ∈ news' → Q (.ret (.bool true)) { s with heap := h', toks := tk' }) (hJ : LawJ L l ps m nx) (F : Fr h₀ L s.heap m) (N : News h₀ L s.heap nx) :
    wpAny (model PySem.Challenge.rw_fe0311_01.row.prog w) (callerA.deeper (envOfC (Str.ofString "law") lawScope L fa (.ref 52))) (execs restBody (envOfC (Str.ofString "law") lawScope L fa (.ref 52))) Q E s := by
  obtain ⟨lm, lr, mvs, nm, rvs, nr, oR, oA, oP, oC, tups, tc, tp, hm, rfl, dC, dP, dA, dR, hI, hD, hto, ha, b1, b2, b3⟩ := hJ
  have hm' : m = fun y => if y = Str.ofString "models" then some (.ref lm) else m y := by
    funext y
    split
    · rename_i e; rw [e, hm]
    · rfl
  rw [hm'] at F
  clear hm' hm
  have ⟨c1, c2⟩ := heads_lt b1 b2 b3
  conv in restBody => whnf
  w_top off
  revert X; k_fill; intro X
  have hlo : ∀ c ∈ plOf ps, c ∈ LoS := by
    intro c hc
    obtain ⟨l, hl, hcl⟩ := List.mem_flatten.mp hc
    obtain ⟨q, hq, rfl⟩ := List.mem_map.mp hl
    exact (hok q hq).lo c hcl
  have hhi : ∀ c ∈ caOf ps, c ∈ HiS := by
    intro c hc
    obtain ⟨l, hl, hcl⟩ := List.mem_flatten.mp hc
    obtain ⟨q, hq, rfl⟩ := List.mem_map.mp hl
    exact (hok q hq).hi c hcl
  have hla : ∀ c ∈ LoS, c < 128 := by decide
  have hha : ∀ c ∈ HiS, c < 128 := by decide
  have hap : Asc (plOf ps) := fun c hc => hla c (hlo c hc)
  have hac : Asc (caOf ps) := fun c hc => hha c (hhi c hc)
  have hz1 : (caOf ps).length ≤ 1000 := by have h1 := flat_le (·.one) (fun q hq => (hok q hq).l1); unfold caOf; omega
  have hz2 : (plOf ps).length ≤ 1000 := by have h1 := flat_le (·.two) (fun q hq => (hok q hq).l2); unfold plOf; omega
  k_steps
  unfold Mine.Halt
  refine pair_sl (fun c n => likeC c ((caOf ps).getD n.toNat 0)) rfl hap hI (News.isList (by assumption) (.head _)) (by omega) ?_ ?_
  · intro C c n u v s₃ m₃ E' hc hn hns hx hy hk
    have F3 := Fr.keeps (by assumption) hk
    have N3 : News h₀ L s₃.heap [] := News.nil
    obtain ⟨h0, h1⟩ := hmd n hn
    have hcell : s₃.heap.IsCell (L + 1) (some (.str (tx (caOf ps)) tc)) := ⟨oC, hk _ _ (News.get (by assumption) (.tail _ (.tail _ (.tail _ (.tail _ (.tail _ (.head _)))))) ), dC⟩
    k_steps
    unfold Mine.Halt
    have hd : (caOf ps).getD n.toNat 0 ∈ HiS := by
      have hlt : n.toNat < (caOf ps).length := by omega
      rw [List.getD_eq_getElem?_getD, List.getElem?_eq_getElem hlt]
      exact hhi _ (List.getElem_mem hlt)
    refine like_call w c _ (hlo c hc) hd _ _ _ _ _ _ ⟨X.keeps F3.keep, p, loose, mean, mg, mb, T.keeps F3.keep⟩ rfl (by simp only [depth_deeper, depth_caller]; decide) (by simp only [units_deeper, units_caller]; decide) ?_
    rintro v s' ⟨t', rfl⟩ ⟨h', tk, rfl, hk'⟩
    exact ⟨⟨t', rfl⟩, h', tk, rfl, hk'⟩
  · intro D h' tk' ys hDn hL' hS hk
    have F3 := Fr.keeps (by assumption) hk
    have N3 := News.grown (by assumption) hk
    clear N F
    k_steps
    refine join_tx hL' hS (by rw [flat_one, List.map_id']; simp; omega) fun t' k => ?_
    rw [flat_one, List.map_id']
    k_steps
    unfold Mine.Halt
    have hal : Asc ((caOf ps).map loC) := by
      intro c hc
      obtain ⟨d, hd, rfl⟩ := List.mem_map.mp hc
      have := hac d hd
      unfold loC
      split <;> omega
    have hto7 : OwnOff tups [lm, lr, L + 1 + 1 + 1 + 1, L + 1 + 1 + 1, L + 1 + 1, L + 1, 50] := fun q hq b hb => hto q hq b (show b ∈ [lm, lr, L + 1 + 1 + 1 + 1, L + 1 + 1 + 1, L + 1 + 1, L + 1, 50] ++ [l] from List.mem_append.mpr (.inl hb))
    refine similar_call w X T B codeHd hok hps hne1 hne2 (by assumption) (by assumption) (by assumption) (by assumption) (by assumption) dR hD ⟨b1, b2, b3⟩ (by assumption) (by assumption) (by assumption) hto7 hins ?_
    intro D2 t1 t2 t3 h2 tk2 F4 N4 l4
    rw [heq]
    k_steps
    unfold Mine.Halt
    refine (lower_call w _ (fun c hc => List.mem_append.mpr (.inl (hhi c hc))) (by omega) _).use X T (by assumption) (by assumption) rfl (by simp only [depth_deeper, depth_caller]; decide) (by simp only [units_deeper, units_caller]; decide) ?_
    rintro v h5 tk5 ⟨t5, rfl⟩ F5 N5
    k_steps
    unfold Mine.Halt
    (rename News _ _ _ _ => NN)
    refine asked_ne NN (.tail _ (.tail _ (.tail _ (.tail _ (.tail _ (.head _)))))) (.tail _ (.tail _ (.head _))) (.head _) (.tail _ (.head _)) (strOk_tx hal) (strOk_tx hap) (by simp only [units_deeper, units_caller]; decide) ?_
    k_steps
    unfold Mine.Halt
    (rename Fr _ _ _ _ => FF)
    (rename News _ _ _ _ => NN)
    exact law_try w X T B hne1 hne2 hhi hlo hz1 hz2 hap hac FF NN dC dP (by assumption) (fun h' tk' m' news' a b c => hQ _ h' tk' m' news' a b c) hac' hE2 hE
end
end Mine

/-! PP2 -/
namespace Mine
theorem lo_fix : ∀ c ∈ LoS, loC c = c := by decide
theorem hi_back : ∀ c ∈ HiS, likeC (loC c) c = c := by decide
theorem cast_like {c d : Nat} (h : c ∈ LoS) : castC d c = likeC c d := by
  unfold castC likeC
  rw [lo_fix c h]
theorem caseC_like {c d : Nat} (h : c ∈ LoS) : (if isUp d then upC c else loC c) = likeC c d := by
  unfold likeC
  rw [lo_fix c h]
theorem range_getD (l : List Nat) (g : Nat → Nat) : (List.range l.length).map (fun t => g (l.getD t 0)) = l.map g := by
  apply List.ext_getElem
  · simp
  · intro i h1 h2
    simp at h1 h2
    simp [h1]
theorem getD_lt {l : List Nat} {i : Nat} (h : i < l.length) : l.getD i 0 = l[i] := by
  rw [List.getD_eq_getElem?_getD, List.getElem?_eq_getElem h]; rfl
theorem getD_mid {a b c : List Nat} {i : Nat} (h : i < b.length) : (a ++ (b ++ c)).getD (a.length + i) 0 = b.getD i 0 := by
  rw [List.getD_eq_getElem?_getD, List.getD_eq_getElem?_getD, List.getElem?_append_right (by omega), List.getElem?_append_left (by omega)]
  congr 2
  omega
theorem getD_last {a c : List Nat} (h : a ≠ []) : (a ++ c).getD (a.length - 1) 0 = a.getLast h := by
  have hp : 0 < a.length := List.length_pos_iff.mpr h
  rw [List.getD_eq_getElem?_getD, List.getElem?_append_left (by omega), List.getElem?_eq_getElem (by omega), List.getLast_eq_getElem]
  rfl
theorem model_ins {cpre c : List Nat} {p : Pc} {t : Nat} (h : p.tag = 2) : (modelI cpre p t).toNat = iaOf (cpre ++ c) cpre.length ∧ 0 ≤ modelI cpre p t := by
  unfold modelI iaOf
  rw [if_pos h]
  by_cases h0 : cpre = []
  · subst h0
    simp
  · have hp : 0 < cpre.length := List.length_pos_iff.mpr h0
    have e : cpre.getLast? = some (cpre.getLast h0) := List.getLast?_eq_some_getLast h0
    rw [getD_last h0, e]
    have hne : cpre.length ≠ 0 := by omega
    by_cases h1 : cpre.getLast h0 = 32
    · rw [if_pos (Or.inr (by rw [h1])), if_pos (Or.inr h1)]
      omega
    · rw [if_neg (by rintro (q | q); exact h0 q; exact h1 (Option.some.inj q)), if_neg (by rintro (q | q); exact hne q; exact h1 q)]
      omega
theorem model_oth {cpre : List Nat} {p : Pc} {t : Nat} (h : p.tag ≠ 2) : modelI cpre p t = (cpre.length : Int) + min (t : Int) ((p.one.length : Int) - 1) := by
  unfold modelI
  rw [if_neg h]
theorem piece_want {cpre rest : List Nat} {p : Pc} (hok : PcOk p) : simP (cpre ++ (p.one ++ rest)) cpre.length p = (List.range p.two.length).map (fun t => likeC (p.two.getD t 0) ((cpre ++ (p.one ++ rest)).getD (modelI cpre p t).toNat 0)) := by
  by_cases h1 : p.tag = 1
  · have e := hok.del h1
    simp [simP, h1, e]
  by_cases h2 : p.tag = 2
  · have e1 : simP (cpre ++ (p.one ++ rest)) cpre.length p = caseAll (isUp ((cpre ++ (p.one ++ rest)).getD (iaOf (cpre ++ (p.one ++ rest)) cpre.length) 0)) p.two := by
      unfold simP; rw [if_neg h1, if_pos h2]
    rw [e1, caseAll_map]
    have e2 : ∀ t, (modelI cpre p t).toNat = iaOf (cpre ++ (p.one ++ rest)) cpre.length := fun t => (model_ins h2).1
    simp only [e2]
    rw [range_getD p.two (fun c => likeC c _)]
    apply List.map_congr_left
    intro c hc
    exact caseC_like (hok.lo c hc)
  by_cases h0 : p.tag = 0
  · have e1 : simP (cpre ++ (p.one ++ rest)) cpre.length p = p.one := by
      unfold simP; rw [if_neg h1, if_neg h2, if_pos h0]
    rw [e1]
    have e2 := hok.eq h0
    have hl : p.two.length = p.one.length := by rw [e2, List.length_map]
    apply List.ext_getElem
    · simp [hl]
    · intro i q1 q2
      simp only [List.getElem_map, List.getElem_range]
      have em : (modelI cpre p i).toNat = cpre.length + i := by rw [model_oth h2]; omega
      rw [em, getD_mid q1, getD_lt q1, getD_lt (by omega)]
      have : p.two[i]'(by omega) = loC p.one[i] := by simp [e2]
      rw [this]
      exact (hi_back _ (hok.hi _ (List.getElem_mem q1))).symm
  · have h3 := hok.tag3
    have h3 : p.tag = 3 := by omega
    have hne := hok.rep h3
    have hp : 0 < p.one.length := List.length_pos_iff.mpr hne
    have e1 : simP (cpre ++ (p.one ++ rest)) cpre.length p = List.zipWith castC p.one p.two ++ caseAll (isUp (p.one.getLastD 0)) (p.two.drop p.one.length) := by
      unfold simP; rw [if_neg h1, if_neg h2, if_neg h0]
    have eg : p.one.getLastD 0 = p.one[p.one.length - 1] := by
      rw [List.getLastD_eq_getLast?, List.getLast?_eq_some_getLast hne, List.getLast_eq_getElem]; rfl
    rw [e1, caseAll_map, eg]
    apply List.ext_getElem
    · simp; omega
    · intro i q1 q2
      simp only [List.length_map, List.length_range] at q2
      simp only [List.getElem_map, List.getElem_range]
      have hlo := hok.lo _ (List.getElem_mem q2)
      rw [getD_lt q2]
      by_cases hi : i < p.one.length
      · have em : (modelI cpre p i).toNat = cpre.length + i := by rw [model_oth h2]; omega
        rw [em, getD_mid hi, getD_lt hi, List.getElem_append_left (by rw [List.length_zipWith]; omega), List.getElem_zipWith]
        exact cast_like hlo
      · have em : (modelI cpre p i).toNat = cpre.length + (p.one.length - 1) := by rw [model_oth h2]; omega
        have hzl : (List.zipWith castC p.one p.two).length = p.one.length := by rw [List.length_zipWith]; omega
        rw [em, getD_mid (by omega), getD_lt (by omega), List.getElem_append_right (by omega)]
        simp only [List.getElem_map, List.getElem_drop, hzl]
        have ei : p.one.length + (i - p.one.length) = i := by omega
        simp only [ei]
        exact caseC_like hlo
theorem caOf_cons (p : Pc) (r : List Pc) : caOf (p :: r) = p.one ++ caOf r := by simp [caOf]
theorem plOf_cons (p : Pc) (r : List Pc) : plOf (p :: r) = p.two ++ plOf r := by simp [plOf]
theorem caOf_app (a b : List Pc) : caOf (a ++ b) = caOf a ++ caOf b := by simp [caOf]
theorem sim_want (B : List Pc) : ∀ (A : List Pc), (∀ p ∈ B, PcOk p) → simL (caOf (A ++ B)) (caOf A).length B = List.zipWith (fun c n => likeC c ((caOf (A ++ B)).getD n.toNat 0)) (plOf B) (mdsOf (caOf A) B) := by
  induction B with
  | nil => intro A _; simp [simL, mdsOf]
  | cons p r ih =>
    intro A hok
    have hca : caOf (A ++ p :: r) = caOf A ++ (p.one ++ caOf r) := by rw [caOf_app, caOf_cons]
    have ih' := ih (A ++ [p]) fun q hq => hok q (.tail _ hq)
    have e1 : A ++ [p] ++ r = A ++ p :: r := by simp
    rw [e1, caOf_snoc, List.length_append] at ih'
    simp only [simL, mdsOf]
    rw [plOf_cons, List.zipWith_append (by simp), ih']
    congr 1
    rw [hca, piece_want (hok p (.head _))]
    apply List.ext_getElem
    · simp
    · intro i q1 q2
      simp at q1
      simp [q1]
theorem mds_ok (B : List Pc) : ∀ (A : List Pc), (∀ p ∈ B, PcOk p) → (∀ i pc, B[i]? = some pc → pc.tag = 2 → iaOf (caOf (A ++ B)) (caOf (A ++ B.take i)).length < (caOf (A ++ B)).length) → ∀ n ∈ mdsOf (caOf A) B, 0 ≤ n ∧ n < ((caOf (A ++ B)).length : Int) := by
  induction B with
  | nil => intro A _ _ n hn; cases hn
  | cons p r ih =>
    intro A hok hins n hn
    have hca : caOf (A ++ p :: r) = caOf A ++ (p.one ++ caOf r) := by rw [caOf_app, caOf_cons]
    simp only [mdsOf] at hn
    rcases List.mem_append.mp hn with hn | hn
    · obtain ⟨t, ht, rfl⟩ := List.mem_map.mp hn
      have ht := List.mem_range.mp ht
      have okp := hok p (.head _)
      by_cases h2 : p.tag = 2
      · have h := hins 0 p rfl h2
        simp only [List.take_zero, List.append_nil] at h
        have hm := model_ins (cpre := caOf A) (c := p.one ++ caOf r) (t := t) h2
        rw [← hca] at hm
        omega
      · have hl : (caOf (A ++ p :: r)).length = (caOf A).length + (p.one.length + (caOf r).length) := by rw [hca]; simp
        have h1 : 0 < p.one.length := by
          by_cases q1 : p.tag = 1
          · rw [okp.del q1] at ht; simp at ht
          by_cases q0 : p.tag = 0
          · rw [okp.eq q0, List.length_map] at ht; omega
          · have q3 := okp.tag3
            exact List.length_pos_iff.mpr (okp.rep (by omega))
        rw [model_oth h2]
        omega
    · have ih' := ih (A ++ [p]) (fun q hq => hok q (.tail _ hq)) ?_ n (by rw [caOf_snoc]; exact hn)
      · have e1 : A ++ [p] ++ r = A ++ p :: r := by simp
        rw [e1] at ih'
        exact ih'
      · intro i pc hi ht
        have h := hins (i + 1) pc hi ht
        have e1 : A ++ [p] ++ r = A ++ p :: r := by simp
        have e2 : A ++ [p] ++ r.take i = A ++ (p :: r).take (i + 1) := by simp
        rw [e1, e2]
        exact h
theorem ia_le (ca : List Nat) (i : Nat) : iaOf ca i ≤ i := by
  unfold iaOf
  split <;> omega
theorem caOf_take_le (a : List Pc) (i : Nat) : (caOf (a.take i)).length ≤ (caOf a).length := by
  conv => rhs; rw [← List.take_append_drop i a, caOf_app, List.length_append]
  omega
theorem ins_ok (pre : List Pc) (z l : Pc) (hz : z.one = [90]) (ht : z.tag = 0) : InsOk (pre ++ [z, l]) := by
  intro i pc hp h2
  have hca : caOf (pre ++ [z, l]) = caOf pre ++ ([90] ++ l.one) := by rw [caOf_app]; simp [caOf, hz]
  have hlen : (caOf (pre ++ [z, l])).length = (caOf pre).length + (1 + l.one.length) := by rw [hca]; simp; omega
  by_cases h : i ≤ pre.length
  · have e : (pre ++ [z, l]).take i = pre.take i := by rw [List.take_append_of_le_length h]
    have := ia_le (caOf (pre ++ [z, l])) (caOf (pre.take i)).length
    have := caOf_take_le pre i
    rw [e]
    omega
  · have hi : i = pre.length + 1 := by
      obtain ⟨hi, _⟩ := List.getElem?_eq_some_iff.mp hp
      simp at hi
      omega
    have e : (pre ++ [z, l]).take i = pre ++ [z] := by rw [hi]; simp [List.take_append]; exact List.take_of_length_le (by omega)
    have e2 : caOf (pre ++ [z]) = caOf pre ++ [90] := by rw [caOf_app]; simp [caOf, hz]
    rw [e, e2, List.length_append]
    have e3 : (caOf (pre ++ [z, l])).getD ((caOf pre).length + [90].length - 1) 0 = 90 := by
      rw [hca]
      have := getD_mid (a := caOf pre) (b := [90]) (c := l.one) (i := 0) (by simp)
      simpa using this
    unfold iaOf
    rw [e3, if_neg (by simp), hlen]
    simp
    omega
theorem pure_all (s : List Int) (x : Int) (ps : List Pc) (hps : ps = (s ++ [-1, x]).map piece) :
    caOf ps ≠ [] ∧ plOf ps ≠ [] ∧ InsOk ps ∧ simL (caOf ps) 0 ps = List.zipWith (fun c n => likeC c ((caOf ps).getD n.toNat 0)) (plOf ps) (mdsOf [] ps) ∧ (∀ n ∈ mdsOf [] ps, 0 ≤ n ∧ n < ((caOf ps).length : Int)) ∧
    List.zipWith castC ((caOf ps).take (min (caOf ps).length (plOf ps).length)) ((plOf ps).take (min (caOf ps).length (plOf ps).length)) = (rangeKs 0 (min (caOf ps).length (plOf ps).length)).map fun k => likeC ((plOf ps).getD k.toNat 0) ((caOf ps).getD k.toNat 0) := by
  have hok : ∀ p ∈ ps, PcOk p := by rw [hps]; exact pieces_ok
  have hform : ps = s.map piece ++ [⟨0, [90], [122]⟩, piece x] := by rw [hps]; simp [piece]
  have hi : InsOk ps := by rw [hform]; exact ins_ok _ _ _ rfl rfl
  refine ⟨?_, ?_, hi, ?_, ?_, ?_⟩
  · rw [hform, caOf_app]; simp [caOf]
  · rw [hform]; simp [plOf]
  · exact sim_want ps [] hok
  · exact mds_ok ps [] hok hi
  · apply List.ext_getElem
    · simp [rangeKs]
    · intro i q1 q2
      simp only [List.length_zipWith, List.length_take] at q1
      have h1 : i < (caOf ps).length := by omega
      have h2 : i < (plOf ps).length := by omega
      have hlo : (plOf ps)[i] ∈ LoS := by
        obtain ⟨l, hl, hcl⟩ := List.mem_flatten.mp (List.getElem_mem h2)
        obtain ⟨q, hq, rfl⟩ := List.mem_map.mp hl
        exact (hok q hq).lo _ hcl
      simp only [rangeKs, List.getElem_zipWith, List.getElem_take, List.getElem_map, List.getElem_range]
      have e : (0 + (i : Int)).toNat = i := by omega
      rw [e, getD_lt h1, getD_lt h2]
      exact cast_like hlo
end Mine

section
open Mine
local macro_rules | `(tactic| walk_at "filler") => `(tactic| skip)
local macro_rules | `(tactic| walk_at "filler") => `(tactic| skip)
local macro_rules | `(tactic| walk_at "filler") => `(tactic| skip)
local macro_rules | `(tactic| walk_at "filler") => `(tactic| skip)
local macro_rules | `(tactic| walk_at "filler") => `(tactic| skip)
local macro_rules | `(tactic| walk_at "filler") => `(tactic| skip)
local macro_rules | `(tactic| walk_at "filler") => `(tactic| skip)
local macro_rules | `(tactic| walk_at "filler") => `(tactic| skip)
local macro_rules | `(tactic| walk_at "filler") => `(tactic| skip)
local macro_rules | `(tactic| walk_at "filler") => `(tactic| skip)
local macro_rules | `(tactic| walk_at "filler") => `(tactic| skip)
local macro_rules | `(tactic| walk_at "filler") => `(tactic| skip)
local macro_rules | `(tactic| walk_at "filler") => `(tactic| skip)
local macro_rules | `(tactic| walk_at "filler") => `(tactic| skip)
local macro_rules | `(tactic| walk_at "filler") => `(tactic| skip)
local macro_rules | `(tactic| walk_at "filler") => `(tactic| skip)
local macro_rules | `(tactic| walk_at "filler") => `(tactic| skip)
local macro_rules | `(tactic| walk_at "filler") => `(tactic| skip)
local macro_rules | `(tactic| walk_at "filler") => `(tactic| skip)
local macro_rules | `(tactic| walk_at "filler") => `(tactic| skip)
local macro_rules | `(tactic| walk_at "filler") => `(tactic| skip)
local macro_rules | `(tactic| walk_at "filler") => `(tactic| skip)
local macro_rules | `(tactic| walk_at "exec For") => `(tactic| refine Mine.halt ?_)
local macro_rules | `(tactic| walk_at "pyIter ref") => `(tactic| refine Mine.halt ?_)
set_option maxHeartbeats 8000000 in
theorem PySem.Challenge.cw_fe0311_01_holds : PySem.Challenge.rw_fe0311_01.Holds := by
  refine hd ?_
  k_go0
  (all_goals try k_fold)
  w_top off
  k_steps
  unfold Mine.Halt
  refine For_turns (by assumption) ?_
  k_steps
  unfold Mine.Halt
  refine' law_loop _ (by assumption) (by assumption) (by assumption) (by assumption) (by assumption) (by assumption) (.head _) ?hsub rfl ?dC ?dP ?dA ?dR ?ha ?hb ?hn (by passes_own) ?done
  case hsub => exact fun q hq => .tail _ (.tail _ (.tail _ (.tail _ (.tail _ hq))))
  case dC => assumption
  case dP => assumption
  case dR => assumption
  case dA => assumption
  case ha => (refine ⟨?_, ?_, ?_, ?_, ?_, ?_, ?_⟩) <;> omega
  case hb => (refine ⟨?_, ?_, ?_⟩) <;> omega
  case hn => (simp only [List.length_append, List.length_take, List.length_cons, List.length_nil]; omega)
  case done =>
    intro m' nx h' tk hJ F' N'
    dsimp only
    obtain ⟨g1, g2, g3, g4, g5, g6⟩ := pure_all _ _ _ rfl
    refine law_rest _ (by assumption) (by assumption) (by assumption) (by assumption) pieces_ok ?hps g1 g2 g3 g4 g5 g6 (fun _ => by passes_own) (by passes_own) ?hQ hJ F' N'
    case hps => (simp only [List.length_map, List.length_append, List.length_take, List.length_cons, List.length_nil]; omega)
    case hQ =>
      intro c' h2 tk2 m2 news2 F2 N2 hm2
      k_steps
end
