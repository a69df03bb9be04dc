import PyProof.Rows.All
import Wide.All
import OpenK.AllK
import Wide.FinOn
import PyProof.Truth
import KE.KSetAt
import PyProof.GenComp
import PyProof.GenQ
import PyProof.Draws
import PyProof.EnumMake
import PyProof.EnumFor
import KE.KxAdd
import PyProof.PvWalk
import PyProof.StrLawsIn
import PyProof.Rows.StrWeight2
import KE.LcTurns
import KE.KLcTest
import KE.RegLcTurns
import PyProof.Rows.SeqMore3
import KE.KBytesAny
import Lean
import PySem.Challenge.RW_sn0048_01
set_option Elab.async false
section
open PySem PySem.W PyProof.Rows
namespace Mine
def row2 : OpenRow := { PySem.Challenge.rw_sn0048_01.row with name := Str.ofString "ISEOF", args := [.int], pre := .lit (.bool true), post := .lit (.bool true) }
noncomputable def a.tw10012897573648012918 : Nat := 0
noncomputable def a.tw1012273731724575993 : Nat := 0
noncomputable def a.tw1053240522267072252 : Nat := 0
noncomputable def a.tw1067631882390856321 : Nat := 0
noncomputable def a.tw10762380935789024543 : Nat := 0
noncomputable def a.tw11194519608503794998 : Nat := 0
noncomputable def a.tw11457584180694957331 : Nat := 0
noncomputable def a.tw11968454235043348992 : Nat := 0
noncomputable def a.tw12108707262726597110 : Nat := 0
noncomputable def a.tw12147501134997170324 : Nat := 0
noncomputable def a.tw12339012866658595819 : Nat := 0
noncomputable def a.tw12434106811206251393 : Nat := 0
noncomputable def a.tw12555147813528084110 : Nat := 0
noncomputable def a.tw12707292366256450983 : Nat := 0
noncomputable def a.tw12959720683885932171 : Nat := 0
noncomputable def a.tw12982327765478911847 : Nat := 0
noncomputable def a.tw13064520458991752582 : Nat := 0
noncomputable def a.tw13139945083961513945 : Nat := 0
noncomputable def a.tw13261208362759686841 : Nat := 0
noncomputable def a.tw1344275939391065896 : Nat := 0
noncomputable def a.tw13746399903775863232 : Nat := 0
noncomputable def a.tw13843294157296982135 : Nat := 0
noncomputable def a.tw14018442588795435256 : Nat := 0
noncomputable def a.tw14226473069891236350 : Nat := 0
noncomputable def a.tw14262110616296743980 : Nat := 0
noncomputable def a.tw14314186512718133914 : Nat := 0
noncomputable def a.tw14358098452917310299 : Nat := 0
noncomputable def a.tw14462654417512223208 : Nat := 0
noncomputable def a.tw14557422357641774947 : Nat := 0
noncomputable def a.tw14649939694154996334 : Nat := 0
noncomputable def a.tw14663712667263643039 : Nat := 0
noncomputable def a.tw1484159177199260219 : Nat := 0
noncomputable def a.tw14980271022212123528 : Nat := 0
noncomputable def a.tw15065689232952323868 : Nat := 0
noncomputable def a.tw1562636055541262218 : Nat := 0
noncomputable def a.tw15701953641743960114 : Nat := 0
noncomputable def a.tw15746396740409251178 : Nat := 0
noncomputable def a.tw15790142273381502127 : Nat := 0
noncomputable def a.tw1579703175186333717 : Nat := 0
noncomputable def a.tw15846032908911814470 : Nat := 0
noncomputable def a.tw15907414970973846078 : Nat := 0
noncomputable def a.tw16011332390039308591 : Nat := 0
noncomputable def a.tw16036088950955651968 : Nat := 0
noncomputable def a.tw16047966853301226078 : Nat := 0
noncomputable def a.tw16097009281981366191 : Nat := 0
noncomputable def a.tw16379881067128393807 : Nat := 0
noncomputable def a.tw16409014638869558156 : Nat := 0
noncomputable def a.tw16632530583715739316 : Nat := 0
noncomputable def a.tw16778422588479064655 : Nat := 0
noncomputable def a.tw16787349491573189311 : Nat := 0
noncomputable def a.tw17047492394340028445 : Nat := 0
noncomputable def a.tw17254940539956646388 : Nat := 0
noncomputable def a.tw17282644834598364536 : Nat := 0
noncomputable def a.tw17354567252741746022 : Nat := 0
noncomputable def a.tw17372282293654074823 : Nat := 0
noncomputable def a.tw17460033104197726094 : Nat := 0
noncomputable def a.tw17545879838343841393 : Nat := 0
noncomputable def a.tw17788582234649105381 : Nat := 0
noncomputable def a.tw17907479511425342008 : Nat := 0
noncomputable def a.tw18035480559485274770 : Nat := 0
noncomputable def a.tw18266426507964874846 : Nat := 0
noncomputable def a.tw1980583859145977854 : Nat := 0
noncomputable def a.tw2003340886276322501 : Nat := 0
noncomputable def a.tw2057169184728620886 : Nat := 0
noncomputable def a.tw2226530142092232423 : Nat := 0
noncomputable def a.tw2227302692756177394 : Nat := 0
noncomputable def a.tw2259578497064900568 : Nat := 0
noncomputable def a.tw2393249373374498067 : Nat := 0
noncomputable def a.tw2479508377533540277 : Nat := 0
noncomputable def a.tw2594118541232574098 : Nat := 0
noncomputable def a.tw2657102327479759743 : Nat := 0
noncomputable def a.tw2757867163099643201 : Nat := 0
noncomputable def a.tw2902041915786414633 : Nat := 0
noncomputable def a.tw2987219273540717440 : Nat := 0
noncomputable def a.tw3008553648891465708 : Nat := 0
noncomputable def a.tw3047274931129035076 : Nat := 0
noncomputable def a.tw3503387355189456617 : Nat := 0
noncomputable def a.tw3883225526858240628 : Nat := 0
noncomputable def a.tw3919765699601219015 : Nat := 0
noncomputable def a.tw4383257224723979220 : Nat := 0
noncomputable def a.tw4396541206912573756 : Nat := 0
noncomputable def a.tw4433104082024619559 : Nat := 0
noncomputable def a.tw4473150072213769693 : Nat := 0
noncomputable def a.tw4530953502367368888 : Nat := 0
noncomputable def a.tw4714945723292005249 : Nat := 0
noncomputable def a.tw4728886547025105658 : Nat := 0
noncomputable def a.tw4898728024935348211 : Nat := 0
noncomputable def a.tw5129961480796084746 : Nat := 0
noncomputable def a.tw5130110999504443227 : Nat := 0
noncomputable def a.tw5133604556870717656 : Nat := 0
noncomputable def a.tw5235369037914986514 : Nat := 0
noncomputable def a.tw5440018920183599421 : Nat := 0
noncomputable def a.tw5504528811467665844 : Nat := 0
noncomputable def a.tw5645056696762340519 : Nat := 0
noncomputable def a.tw5700307267833626511 : Nat := 0
noncomputable def a.tw5705763711869542034 : Nat := 0
noncomputable def a.tw5920302102138945662 : Nat := 0
noncomputable def a.tw6147656149941625626 : Nat := 0
noncomputable def a.tw6303489015853982950 : Nat := 0
noncomputable def a.tw6402173353089496144 : Nat := 0
noncomputable def a.tw646042296450645023 : Nat := 0
noncomputable def a.tw6658766672003789331 : Nat := 0
noncomputable def a.tw6743521420145127837 : Nat := 0
noncomputable def a.tw7013860738386472604 : Nat := 0
noncomputable def a.tw7089237532824267755 : Nat := 0
noncomputable def a.tw7431870032843495573 : Nat := 0
noncomputable def a.tw7629958313171451504 : Nat := 0
noncomputable def a.tw7717828003800015823 : Nat := 0
noncomputable def a.tw7988913125092323254 : Nat := 0
noncomputable def a.tw804101635271000290 : Nat := 0
noncomputable def a.tw8521575635290887695 : Nat := 0
noncomputable def a.tw8610575041981334046 : Nat := 0
noncomputable def a.tw8925713298282904106 : Nat := 0
noncomputable def a.tw898756562630367844 : Nat := 0
noncomputable def a.tw9007152368794742016 : Nat := 0
noncomputable def a.tw9042353566502940169 : Nat := 0
noncomputable def a.tw917767594216282229 : Nat := 0
noncomputable def a.tw93140560066653348 : Nat := 0
noncomputable def a.tw9392631832540079610 : Nat := 0
noncomputable def a.tw9587903022393462339 : Nat := 0
noncomputable def a.tw9636331126043519123 : Nat := 0
noncomputable def a.tw9914489713108031909 : Nat := 0
set_option Elab.async true in
set_option maxRecDepth 100000 in
set_option maxHeartbeats 8000000 in
theorem a : Mine.row2.wellSaid = true → Mine.row2.Holds := by
  intro said
  w_on; o_law; k_head
  (case hw => w_witness2)
  k_go
end Mine
end

section
open PySem PySem.W PyProof.Rows
namespace Mine
abbrev Cl (lv : Nat) (w : World) (mean : ExcName → Option Value) (mg mb : Str → Option Value) (f : Addr) (pre : List (Addr × Obj) → Prop) (vs : List Value) (R : Tok → Value) : Prop :=
  ∀ (dp un : Nat) (gd : Option (List Code)) (cn : Str) (cs : Scope) (a : Addr) (ccd : Value) (cl : List (Str × Addr)) (outer : List Env) (A₀ : Around) (base h₀ : Heap) (L : Addr) (m : Str → Option Value) (news : List (Addr × Obj)) (s : Shared) (Q E : Value → Shared → Prop),
    Below A₀ base outer h₀ → Fr h₀ L s.heap m → (Mine.a.heap_1_1 w.params).In h₀ → News h₀ L s.heap news → Top Mine.a.view_1_2 (looseW Mine.a.view_1_2 [PySem.Str.ofString "COMPILER_FLAG_NAMES", PySem.Str.ofString "EXACT_TOKEN_TYPES"]) mean mg mb h₀ → cs.kind = .function →
    pre news → dp + 10 * lv < recursionLimit → un + 100 * lv < cLine → CbRet h₀ L m news s Q R →
      wpAny (model PySem.Challenge.pw_sn0048_01 w) (ktrTop dp un gd cn cs L a ccd cl outer) (call (.ref f) vs) Q E s
end Mine
end

section
open PySem PySem.W PyProof.Rows PySem.Spec PySem.Calls
namespace Mine
section
variable {prog : Program} {w : World} {A : Around} {E : Value → Shared → Prop} {s : Shared} {env : Env} {g : Heap}

noncomputable def LoopG (prog : Program) (w : World) (A : Around) (env : Env) (target : Expr) (body orelse : List Stmt) (Q : Flow → Shared → Prop) (E : Value → Shared → Prop) (it : Value) (s₂ : Shared) : Prop :=
  ∃ (J : Nat → Shared → Prop) (n : Nat), J n s₂ ∧ ∀ k s, J k s → wpAny (model prog w) A (pyNext it) (fun r s₁ => match r with
      | none => wpAny (model prog w) A (execs orelse env) Q E s₁
      | some v => wpAny (model prog w) A (letOwnedTupleGo target it v) (fun _ s₁' => wpAny (model prog w) A (assign target env v) (fun _ s₂ =>
          wpAny (model prog w) A (execs body env) (fun f s₃ => match f with
            | .next | .cont => ∃ m, m < k ∧ J m s₃
            | .brk => Q .next s₃
            | .ret v => Q (.ret v) s₃) E s₂) E s₁') E s₁) E s

theorem for_G {target iter : Expr} {body orelse : List Stmt} {pos : Pos} {Q : Flow → Shared → Prop}
    (h : wpAny (model prog w) A (eval iter env) (fun xv s₁ => wpAny (model prog w) A (pyIter xv) (fun it s₂ => LoopG prog w A env target body orelse Q E it s₂) E s₁) E s)
    (hs : ∀ x, foldedSetIterable iter env x = pure x := by intro _; rfl)
    (hE : PassesOwn (model prog w) A env E := by passes_own) :
    wpAny (model prog w) A (exec (.For target iter body orelse pos) env) Q E s := by
  refine wpAny_For (wpAny_mono h (fun xv s₁ h₁ => wpAny_mono h₁ (fun it s₂ h₂ => ?_) fun _ _ e => e) fun _ _ e => e) hs
  obtain ⟨J, n, h0, step⟩ := h₂
  refine codeAny_forLoop_any (R := fun r s' => match r with | .ok f => Q f s' | .error e => cameBackBy (model prog w) A env E e s') J (fun k s hJ => ?_) n h0
  refine wpAny_passesOwn hE (wpAny_mono (step k s hJ) (fun r s₁ h₁ => ?_) fun _ _ e => e)
  cases r with
  | none => exact wpAny_passesOwn hE h₁
  | some v =>
    refine wpAny_passesOwn hE (wpAny_mono h₁ (fun _ s₁' h₁' => ?_) fun _ _ e => e)
    refine wpAny_passesOwn hE (wpAny_mono h₁' (fun _ s₂ h₂ => ?_) fun _ _ e => e)
    exact wpAny_passesOwn hE h₂

noncomputable def TurnEnd (g : Heap) (L : Addr) (J : Array GenState → (Str → Option Value) → List (Addr × Obj) → Prop) (own : List (Addr × Obj)) (adr : List Addr) (s₁ s₂ : Shared) : Prop :=
  ∃ h' tk gs m' news' nx, s₂ = { s₁ with heap := h', toks := tk, gens := gs } ∧ Fr g L h' m' ∧ News g L h' news' ∧ (∀ p ∈ nx, p ∈ news') ∧ (∀ p ∈ own, p ∈ news') ∧ nx.map (·.1) = adr ∧ J gs m' nx
noncomputable def TurnPost (g : Heap) (L : Addr) (J : Array GenState → (Str → Option Value) → List (Addr × Obj) → Prop) (own : List (Addr × Obj)) (adr : List Addr) (s₁ : Shared) (Q : Flow → Shared → Prop) (f : Flow) (s₂ : Shared) : Prop :=
  match f with
  | .ret v => Q (.ret v) s₂
  | .brk => Q .next s₂
  | _ => TurnEnd g L J own adr s₁ s₂

theorem rg_loop {x : Str} {px : Pos} {body orelse : List Stmt} {Q : Flow → Shared → Prop} {r : Addr} {a b : Int} {t₀ u₀ v₀ : Tok} {n : Nat} {m₀ : Str → Option Value} {news : List (Addr × Obj)}
    (J : Nat → Array GenState → (Str → Option Value) → List (Addr × Obj) → Prop)
    (hh : A.handled = none) (hx : env.kindOf x = some .local) (hp : (env.scope.kind == .class || (env.scope.kind == .module && env.locals != env.globals)) = false)
    (hr : IsRange s.heap r a b 1 t₀ u₀ v₀) (hsmall : Builtin.Range.small a b 1 = true) (hn : Builtin.Range.rangeSize a b 1 = (n : Int))
    (F : Fr g env.locals s.heap m₀) (N : News g env.locals s.heap news) (hj : J 0 s.gens m₀ news)
    (turn : ∀ i gs m₁ news₁ h tk t own, i < n → news₁.map (·.1) = news.map (·.1) → OwnOff own (news.map (·.1)) → J i gs m₁ news₁ → Fr g env.locals h (fun y => if y = x then some (.int (a + (i : Int)) t) else m₁ y) → News g env.locals h (news₁ ++ own) →
      wpAny (model prog w) A (execs body env) (TurnPost g env.locals (J (i + 1)) own (news.map (·.1)) { s with heap := h, toks := tk, gens := gs } Q) E { s with heap := h, toks := tk, gens := gs })
    (done : ∀ gs m₁ news₁ h tk, J n gs m₁ news₁ → Fr g env.locals h m₁ → News g env.locals h news₁ → wpAny (model prog w) A (execs orelse env) Q E { s with heap := h, toks := tk, gens := gs }) :
    wpAny (model prog w) A (pyIter (.ref r)) (fun it s₂ => LoopG prog w A env (.Name x px) body orelse Q E it s₂) E s := by
  refine wpAny_pyIter_range hr hsmall ?_
  have W := Walks.range (prog := prog) (w := w) hh s.heap.objs.size a 1 n
  generalize hI : s.heap.objs.size = I at W ⊢
  have hIL : I ≠ env.locals := by
    have hlt := F.ns.lt
    intro e
    rw [hI, e] at hlt
    exact Nat.lt_irrefl _ hlt
  have hIg : g.get? I = none := by
    cases q : g.get? I with
    | none => rfl
    | some o => exact absurd (Heap.lt_size (F.keep _ _ q)) (by rw [hI]; exact Nat.lt_irrefl _)
  have hIn : ∀ p ∈ news, p.1 ≠ I := fun p hp e => by
    have := Heap.lt_size (N p hp).1
    rw [e, hI] at this; exact Nat.lt_irrefl _ this
  have hF0 : Fr g env.locals (s.heap.push { cls := .type "range_iterator", data := .fields #[rawInt a, rawInt (Builtin.Range.rangeSize a b 1), rawInt 1] }) m₀ := F.push _
  have hN0 : News g env.locals (s.heap.push { cls := .type "range_iterator", data := .fields #[rawInt a, rawInt (Builtin.Range.rangeSize a b 1), rawInt 1] }) news := fun p hp => ⟨Heap.get?_push_of_some _ (N p hp).1, (N p hp).2⟩
  refine ⟨fun k s' => ∃ i h' tk gs m' nx, s' = { s with heap := h', toks := tk, gens := gs } ∧ k = n - i ∧ i ≤ n ∧ IsRangeIter h' I (a + (i : Nat) * 1) ((n : Int) - (i : Nat)) 1 ∧ Fr g env.locals h' m' ∧ News g env.locals h' nx ∧ nx.map (·.1) = news.map (·.1) ∧ J i gs m' nx, n, ?_, ?_⟩
  · refine ⟨0, _, s.toks, s.gens, m₀, news, rfl, rfl, Nat.zero_le _, ?_, hF0, hN0, rfl, hj⟩
    rw [hn]
    have e : (s.heap.push { cls := .type "range_iterator", data := .fields #[rawInt a, rawInt (n : Int), rawInt 1] }).get? s.heap.objs.size = some { cls := .type "range_iterator", data := .fields #[rawInt a, rawInt (n : Int), rawInt 1] } := Heap.get?_push_size _ rfl
    rw [hI] at e
    simpa using e
  · rintro k s' ⟨i, h', tk, gs, m', nx, rfl, rfl, hi, hst, F', N', hadr, hJ⟩
    have hoff : ∀ p ∈ nx, p.1 ≠ I := fun p hp e => by
      have : p.1 ∈ nx.map (·.1) := List.mem_map.mpr ⟨p, hp, rfl⟩
      rw [hadr] at this
      obtain ⟨q, hq, e2⟩ := List.mem_map.mp this
      exact hIn q hq (e2.trans e)
    have keep : ∀ h₁ : Heap, (∀ b o, b ∉ [I] → h'.get? b = some o → h₁.get? b = some o) → Fr g env.locals h₁ m' ∧ News g env.locals h₁ nx := fun h₁ hk =>
      ⟨⟨F'.ns.at' fun o e => hk _ o (by simp [Ne.symm hIL]) e, fun b o e => hk b o (by simp; intro q; rw [q, hIg] at e; cases e) (F'.keep b o e), F'.above⟩,
        fun p hp => ⟨hk _ _ (by simp [hoff p hp]) (N' p hp).1, (N' p hp).2⟩⟩
    by_cases hlt : i < n
    · refine W.item i _ _ _ hlt hst fun v h₁ tk₁ hP hst₁ hk₁ => ?_
      obtain ⟨t, rfl⟩ := hP
      obtain ⟨F₁, N₁⟩ := keep h₁ hk₁
      refine wpAny_of_eq (a := ()) (by rfl) ?_
      refine wpAny_assign_Name (wpAny_storeName_local hx F₁.ns (fun h₂ hn₂ hs₂ => ?_) hp)
      have F₂ := F₁.set hn₂ hs₂
      have N₂ := N₁.set hs₂
      have hst₂ : h₂.get? I = _ := (hs₂.2 I hIL).trans hst₁
      rw [Int.mul_one] at F₂
      have NI : News g env.locals h₂ (nx ++ [(I, _)]) := fun p hp => by
        rcases List.mem_append.mp hp with h | h
        · exact N₂ p h
        · rw [List.mem_singleton.mp h]; exact ⟨hst₂, hIL, hIg⟩
      refine wpAny_mono (turn i gs m' nx h₂ _ t _ hlt hadr ?_ hJ F₂ NI) (fun f s₃ h₃ => ?_) fun _ _ e => e
      · intro p hp b hb e
        rw [List.mem_singleton.mp hp] at e
        obtain ⟨q, hq, e2⟩ := List.mem_map.mp hb
        exact hIn q hq (e2.trans e.symm)
      · have fin : ∀ tkx, TurnEnd g env.locals (J (i + 1)) [(I, { cls := .type "range_iterator", dict := none, data := .fields #[rawInt (a + ((i + 1 : Nat) : Int) * 1), rawInt ((n : Int) - ((i + 1 : Nat) : Int)), rawInt 1], slots := #[] })] (news.map (·.1)) { s with heap := h₂, toks := tkx, gens := gs } s₃ → ∃ m, m < n - i ∧ ∃ i h' tk gs m' nx, s₃ = { s with heap := h', toks := tk, gens := gs } ∧ m = n - i ∧ i ≤ n ∧ IsRangeIter h' I (a + (i : Nat) * 1) ((n : Int) - (i : Nat)) 1 ∧ Fr g env.locals h' m' ∧ News g env.locals h' nx ∧ nx.map (·.1) = news.map (·.1) ∧ J i gs m' nx := by
          rintro tkx ⟨h', tk, gs', m', news', nx', rfl, F₃, N₃, hn₃, ho₃, ha₃, hJ₃⟩
          exact ⟨n - (i + 1), by lia, i + 1, h', tk, gs', m', nx', rfl, rfl, hlt, (N₃ _ (ho₃ _ (List.mem_singleton.mpr rfl))).1, F₃, fun p hp => N₃ p (hn₃ p hp), ha₃, hJ₃⟩
        cases f with
        | next => exact fin _ h₃
        | cont => exact fin _ h₃
        | brk => exact h₃
        | ret v => exact h₃
    · have hin : i = n := by lia
      subst hin
      refine W.done _ _ _ hst fun h₁ tk₁ hk₁ => ?_
      obtain ⟨F₁, N₁⟩ := keep h₁ hk₁
      exact done gs m' nx h₁ tk₁ hJ F₁ N₁
end
end Mine
end

section
open PySem PySem.W PyProof.Rows PySem.Spec PySem.Calls
namespace Mine
noncomputable def StopW (P : Prop) : Prop := P
theorem StopW.mk {P : Prop} (h : StopW P) : P := h
section
variable {prog : Program} {w : World} {A : Around} {E : Value → Shared → Prop} {s : Shared} {env : Env} {h₀ : Heap} {L : Addr}
noncomputable def W1End (h₀ : Heap) (L : Addr) (s : Shared) (x : PySem.Str) (m₀ : PySem.Str → Option Value) (news : List (Addr × Obj)) (P : Nat → Int → Prop) (n : Nat) (s₂ : Shared) : Prop :=
  ∃ h' tk' m' i t n' news', s₂ = { s with heap := h', toks := tk' } ∧ Fr h₀ L h' m' ∧ News h₀ L h' news' ∧ (∀ p ∈ news, p ∈ news') ∧ m' x = some (.int i t) ∧ (∀ z, z ≠ x → m' z = m₀ z) ∧ P n' i ∧ n' < n
noncomputable def W1Post (h₀ : Heap) (L : Addr) (s : Shared) (x : PySem.Str) (m₀ : PySem.Str → Option Value) (news : List (Addr × Obj)) (P : Nat → Int → Prop) (Q : Flow → Shared → Prop) (n : Nat) (f : Flow) (s₂ : Shared) : Prop :=
  match f with
  | .ret v => Q (.ret v) s₂
  | .brk => Q .next s₂
  | _ => W1End h₀ L s x m₀ news P n s₂
theorem mset1 {m m₀ : PySem.Str → Option Value} {x : PySem.Str} {v : Value} (hm : m x = some v) (ho : ∀ z, z ≠ x → m z = m₀ z) : m = fun z => if z = x then some v else m₀ z := by
  funext z
  by_cases hz : z = x
  · rw [if_pos hz, hz, hm]
  · rw [if_neg hz, ho z hz]
theorem while_int1 {test : Expr} {body : List Stmt} {pos : Pos} {m₀ : PySem.Str → Option Value} {news : List (Addr × Obj)} {Q : Flow → Shared → Prop} (x : PySem.Str) (P : Nat → Int → Prop) (n₀ : Nat) {i₀ : Int} {t₀ : Tok}
    (F : Fr h₀ L s.heap m₀) (N : News h₀ L s.heap news) (hv : m₀ x = some (.int i₀ t₀)) (h0 : P n₀ i₀)
    (turn : ∀ n i t h tk, P n i → Fr h₀ L h (fun z => if z = x then some (.int i t) else m₀ z) → News h₀ L h news →
      wpAny (model prog w) A (isTrue test env (eval test env)) (fun b s₂ =>
        if b = true then wpAny (model prog w) A (execs body env) (W1Post h₀ L s x m₀ news P Q n) E s₂ else Q .next s₂) E { s with heap := h, toks := tk })
    (hE : PassesOwn (model prog w) A env E := by passes_own) :
    wpAny (model prog w) A (exec (.While test body [] pos) env) Q E s := by
  refine While_inv2 (fun n m nx => nx = news ∧ ∃ i t, m x = some (.int i t) ∧ (∀ z, z ≠ x → m z = m₀ z) ∧ P n i) F N ⟨rfl, i₀, t₀, hv, fun _ _ => rfl, h0⟩ ?_ hE
  rintro n m₁ nx h tk F₁ N₁ ⟨rfl, i, t, hm, ho, hP⟩
  rw [mset1 hm ho] at F₁
  refine wpAny_mono (turn n i t h tk hP F₁ N₁) (fun b s₂ hb => ?_) fun _ _ e => e
  cases b with
  | false => simpa using hb
  | true =>
    simp only [if_true] at hb ⊢
    refine wpAny_mono hb (fun f s₃ hf => ?_) fun _ _ e => e
    have fin : W1End h₀ L s x m₀ nx P n s₃ → WhileStep2 h₀ L s (fun n m nx' => nx' = nx ∧ ∃ i t, m x = some (.int i t) ∧ (∀ z, z ≠ x → m z = m₀ z) ∧ P n i) Q n .next s₃ := by
      rintro ⟨h', tk', m', i', t', n', news', rfl, F', N', hs, hm', ho', hP', hlt⟩
      exact ⟨h', tk', m', nx, n', rfl, F', fun p hp => N' p (hs p hp), hlt, rfl, i', t', hm', ho', hP'⟩
    cases f with
    | ret v => exact hf
    | brk => exact hf
    | next => exact fin hf
    | cont => exact fin hf
end
end Mine
end

section
open PySem PySem.W PyProof.Rows
namespace Mine
noncomputable def mkS (l : List Nat) : PySem.Str := ⟨l.toArray⟩
theorem mkS_len (l : List Nat) : (mkS l).length = l.length := by simp [mkS, PySem.Str.length]
theorem mkS_eta (x : PySem.Str) : mkS x.cps.toList = x := by simp [mkS]
theorem slice_from (x : PySem.Str) (k : Nat) (h : k ≤ x.length) : Txt.slice x (some (k : Int)) none = mkS (x.cps.toList.drop k) := by
  rw [slice_from_eq (b := (x.length : Int)) (by lia) (by lia) rfl]
  unfold mkS
  congr 2
  rw [Int.toNat_natCast]
  apply List.take_of_length_le
  have : x.cps.toList.length = x.length := by simp [PySem.Str.length]
  rw [List.length_drop]; lia
theorem sliceIdx_pos (n : Nat) (u : Nat) (h : u ≤ n) : (PySem.sliceRange 0 (u : Int) 1) = List.range u := by
  unfold PySem.sliceRange
  simp only [show (1 : Int) > 0 by decide, if_true, Int.ediv_one]
  by_cases h0 : (0 : Int) < u
  · rw [if_pos h0]
    have e : ((u : Int) - 0 + 1 - 1).toNat = u := by lia
    rw [e]
    conv => rhs; rw [← List.map_id (List.range u)]
    apply List.map_congr_left
    intro a _
    show ((0 : Int) + 1 * (a : Int)).toNat = a
    lia
  · rw [if_neg h0]
    have : u = 0 := by lia
    subst this; rfl
theorem filt_take (l : List Nat) (u : Nat) (h : u ≤ l.length) : (List.range u).filterMap (l.toArray[·]?) = l.take u := by
  induction u with
  | zero => simp
  | succ u ih =>
    rw [List.range_succ, List.filterMap_append, ih (by lia)]
    have : l.toArray[u]? = some l[u] := by simp [show u < l.length by lia]
    simp only [List.filterMap_cons, this, List.filterMap_nil]
    rw [List.take_add_one, List.getElem?_eq_getElem (by lia)]; rfl
theorem slice_of_idx (l : List Nat) (lo hi : Option Int) (u : Nat) (h : u ≤ l.length) (e : PySem.Builtin.Str.strSliceIndices lo hi 1 l.length = List.range u) : Txt.slice (mkS l) lo hi = mkS (l.take u) := by
  unfold Txt.slice
  rw [mkS_len, e]
  split
  · rename_i hc
    have : u = l.length := by simpa using hc
    rw [this, List.take_length]
  · show (⟨((List.range u).filterMap (l.toArray[·]?)).toArray⟩ : PySem.Str) = mkS _
    rw [filt_take l u h]; rfl
theorem slice_all (l : List Nat) : Txt.slice (mkS l) none none = mkS l := by
  rw [slice_of_idx l none none l.length (Nat.le_refl _), List.take_length]
  unfold PySem.Builtin.Str.strSliceIndices
  simp only [show (1 : Int) > 0 by decide, if_true]
  exact sliceIdx_pos l.length l.length (Nat.le_refl _)
theorem slice_neg (l : List Nat) (j : Nat) (h0 : 0 < j) (h : j ≤ l.length) : Txt.slice (mkS l) none (some (-(j : Int))) = mkS (l.take (l.length - j)) := by
  rw [slice_of_idx l none (some (-(j : Int))) (l.length - j) (by lia)]
  unfold PySem.Builtin.Str.strSliceIndices
  simp only [show (1 : Int) > 0 by decide, if_true]
  have e : max 0 (min (if -(j : Int) < 0 then -(j : Int) + (l.length : Int) else -(j : Int)) (l.length : Int)) = ((l.length - j : Nat) : Int) := by
    rw [if_pos (by lia)]; lia
  rw [e]
  exact sliceIdx_pos l.length (l.length - j) (by lia)
theorem slice_to (l : List Nat) (u : Nat) (h : u ≤ l.length) : Txt.slice (mkS l) none (some (u : Int)) = mkS (l.take u) := by
  rw [slice_of_idx l none (some (u : Int)) u h]
  unfold PySem.Builtin.Str.strSliceIndices
  simp only [show (1 : Int) > 0 by decide, if_true]
  have e : max 0 (min (if (u : Int) < 0 then (u : Int) + (l.length : Int) else (u : Int)) (l.length : Int)) = (u : Int) := by
    rw [if_neg (by lia)]; lia
  rw [e]
  exact sliceIdx_pos l.length u h
section
variable {prog : Program} {w : World} {A : Around} {E : Value → Shared → Prop} {s : Shared} {h₀ : Heap} {L a : Addr} {m : PySem.Str → Option Value} {news : List (Addr × Obj)} {name : PySem.Str} {scope : Scope} {cd : Value}
theorem cut_rule {v q : PySem.Str} {l : List Nat} {j : Nat} {t u : Tok} {p1 p2 p3 p4 p5 p6 : Pos} {k0 : Nat} {Q : Value → Shared → Prop} (F : Fr h₀ L s.heap m) (N : News h₀ L s.heap news)
    (hv : m v = some (.str (mkS l) t)) (hp : m q = some (.int (-(j : Int)) u)) (hx : (mkS l).length ≤ 100) (hj : j ≤ (mkS l).length)
    (hk : scope.kind = .function) (hl1 : (envOf name scope L a cd).kindOf v = some .local) (hl2 : (envOf name scope L a cd).kindOf q = some .local) (hd1 : (v == ("__debug__" : PySem.Str)) = false) (hd2 : (q == ("__debug__" : PySem.Str)) = false)
    (h : ∀ t' h' k, Fr h₀ L h' m → News h₀ L h' news → (mkS (l.take (l.length - j))).length = (mkS l).length - j → Q (.str (mkS (l.take (l.length - j))) t') { s with heap := h', toks := k }) :
    wpAny (model prog w) A (eval (.Subscript (.Name v p1) (.Slice none (some (.BoolOp .Or [.Name q p2, .Constant .none k0 p3] p4)) none p5) p6) (envOf name scope L a cd)) Q E s := by
  have hlen : (mkS (l.take (l.length - j))).length = (mkS l).length - j := by
    rw [mkS_len] at hj; rw [mkS_len, mkS_len, List.length_take]; lia
  rw [mkS_len] at hx hj
  refine Subscript_ ?_
  refine ld F hv ?_ hk hl1 hd1
  refine wpAny_Slice ?_
  refine evalPart_none_step ?_
  refine evalPart_some_step ?_
  refine BoolOp_or ?_
  refine ld F hp ?_ hk hl2 hd2
  refine truthy_int ?_
  by_cases h0 : j = 0
  · subst h0
    rw [if_neg (by decide)]
    refine BoolOp_one ?_
    refine wpAny_Constant_none ?_
    refine evalPart_none_step ?_
    refine slice_strN_nn F N (fun h' t' k F' N' => ?_) (by with_unfolding_all rfl) (by intro _; with_unfolding_all rfl) (by rw [sizeLine_eq, mkS_len]; lia)
    have := h t' h' k F' N' hlen
    rw [Nat.sub_zero, List.take_length] at this
    rw [slice_all]
    exact this
  · rw [if_pos (by simp; lia)]
    refine evalPart_none_step ?_
    refine slice_strN_ns F N (fun h' t' k F' N' => ?_) (by with_unfolding_all rfl) (by intro _; with_unfolding_all rfl) (by rw [sizeLine_eq, mkS_len]; lia)
    have := h t' h' k F' N' hlen
    rw [slice_neg l j (by lia) hj]
    exact this
end
section
variable {prog : Program} {w : World} {A : Around} {E : Value → Shared → Prop} {s : Shared} {h₀ : Heap} {L a : Addr} {m : PySem.Str → Option Value} {news : List (Addr × Obj)} {name : PySem.Str} {scope : Scope} {cd : Value}
theorem from_rule {v q : PySem.Str} {l : List Nat} {j : Nat} {t u : Tok} {p1 p2 p5 p6 : Pos} {Q : Value → Shared → Prop} (F : Fr h₀ L s.heap m) (N : News h₀ L s.heap news)
    (hv : m v = some (.str (mkS l) t)) (hp : m q = some (.int (j : Int) u)) (hx : (mkS l).length ≤ 100) (hj : j ≤ (mkS l).length)
    (hk : scope.kind = .function) (hl1 : (envOf name scope L a cd).kindOf v = some .local) (hl2 : (envOf name scope L a cd).kindOf q = some .local) (hd1 : (v == ("__debug__" : PySem.Str)) = false) (hd2 : (q == ("__debug__" : PySem.Str)) = false)
    (h : ∀ t' h' k, Fr h₀ L h' m → News h₀ L h' news → (mkS (l.drop j)).length = (mkS l).length - j → Q (.str (mkS (l.drop j)) t') { s with heap := h', toks := k }) :
    wpAny (model prog w) A (eval (.Subscript (.Name v p1) (.Slice (some (.Name q p2)) none none p5) p6) (envOf name scope L a cd)) Q E s := by
  have hlen : (mkS (l.drop j)).length = (mkS l).length - j := by
    rw [mkS_len] at hj; rw [mkS_len, mkS_len, List.length_drop]
  refine Subscript_ ?_
  refine ld F hv ?_ hk hl1 hd1
  refine wpAny_Slice ?_
  refine evalPart_some_step ?_
  refine ld F hp ?_ hk hl2 hd2
  refine evalPart_none_step ?_
  refine evalPart_none_step ?_
  refine slice_strN_sn F N (fun h' t' k F' N' => ?_) (by with_unfolding_all rfl) (by intro _; with_unfolding_all rfl) (by rw [sizeLine_eq]; lia)
  have := h t' h' k F' N' hlen
  rw [slice_from _ j hj, show (mkS l).cps.toList = l by simp [mkS]]
  exact this
theorem truthy_y {x : PySem.Str} {t : Tok} {Q : Bool → Shared → Prop} (h0 : x.length ≠ 0) (h1 : x.length ≤ 100) (h : Q true { s with toks := s.toks + 1 + 1 }) :
    wpAny (model prog w) A (truthy (.str x t)) Q E s := P.truthy_str (by lia) (by
  have : ((x.length : Int) != 0) = true := by simp; lia
  rw [this]; exact h)
end
theorem item_pos (x : PySem.Str) (k : Nat) (h : k < x.length) : Txt.item x (k : Int) = mkS [x.cps.toList.getD k 0] := by
  unfold Txt.item Txt.charAt
  have e : seqIndex? (k : Int) x.length = some k := by
    unfold seqIndex?
    simp only [show ¬ ((k : Int) < 0) by lia, if_false]
    rw [if_pos (by simp; lia), Int.toNat_natCast]
  rw [e]
  have h' : k < x.cps.size := h
  simp [mkS, h', List.getD_eq_getElem?_getD]
theorem item_neg (l : List Nat) (j : Nat) (h : j < (mkS l).length) : Txt.item (mkS l) (-(j : Int) - 1) = mkS [l.getD (l.length - 1 - j) 0] := by
  rw [mkS_len] at h
  have e0 : Txt.item (mkS l) (-(j : Int) - 1) = Txt.item (mkS l) ((l.length - 1 - j : Nat) : Int) := by
    unfold Txt.item Txt.charAt
    have e : seqIndex? (-(j : Int) - 1) (mkS l).length = seqIndex? ((l.length - 1 - j : Nat) : Int) (mkS l).length := by
      rw [mkS_len]
      unfold seqIndex?
      simp only [show (-(j : Int) - 1 < 0) by lia, if_true, show ¬ (((l.length - 1 - j : Nat) : Int) < 0) by lia, if_false]
      rw [if_pos (by simp; lia), if_pos (by simp; lia)]
      congr 1; lia
    rw [e]
  rw [e0, item_pos _ _ (by rw [mkS_len]; lia)]
  simp [mkS]
theorem mkS1_inj {u v : Nat} : mkS [u] = mkS [v] ↔ u = v := by
  constructor
  · intro h
    have := congrArg (fun s : PySem.Str => s.cps.toList) h
    simpa [mkS] using this
  · rintro rfl; rfl
theorem cps_mkS (l : List Nat) : (mkS l).cps.toList = l := by simp [mkS]
noncomputable def LevDE (la lb : List Nat) (d e : Nat) : Prop :=
  d + e < la.length ∧ (∀ i, i < d → la.getD i 0 = lb.getD i 0) ∧ la.getD d 0 ≠ lb.getD d 0 ∧ (∀ i, i < e → la.getD (la.length - 1 - i) 0 = lb.getD (la.length - 1 - i) 0) ∧ la.getD (la.length - 1 - e) 0 ≠ lb.getD (la.length - 1 - e) 0
theorem diff_ex : ∀ (la lb : List Nat), lb.length = la.length → la ≠ lb → ∃ d, d < la.length ∧ (∀ i, i < d → la.getD i 0 = lb.getD i 0) ∧ la.getD d 0 ≠ lb.getD d 0
  | [], [], _, h => absurd rfl h
  | [], _ :: _, h, _ => by simp at h
  | _ :: _, [], h, _ => by simp at h
  | a :: la, b :: lb, hl, hne => by
    by_cases hab : a = b
    · obtain ⟨d, hd, h1, h2⟩ := diff_ex la lb (by simpa using hl) (fun e => hne (by rw [hab, e]))
      refine ⟨d + 1, by simpa using hd, ?_, by simpa using h2⟩
      intro i hi
      cases i with
      | zero => simpa using hab
      | succ i => simpa using h1 i (by lia)
    · exact ⟨0, by simp, fun i hi => by lia, by simpa using hab⟩
theorem least_ex (p : Nat → Prop) [DecidablePred p] : ∀ (n : Nat), ¬ p n → ∃ e, e ≤ n ∧ (∀ i, i < e → p i) ∧ ¬ p e := by
  intro n
  induction n using Nat.strongRecOn with
  | ind n ih =>
    intro hn
    by_cases h : ∀ i, i < n → p i
    · exact ⟨n, Nat.le_refl _, h, hn⟩
    · have : ∃ i, i < n ∧ ¬ p i := by
        apply Classical.byContradiction
        intro q
        apply h
        intro i hi
        apply Classical.byContradiction
        intro z
        exact q ⟨i, hi, z⟩
      obtain ⟨i, hi, hp⟩ := this
      obtain ⟨e, he, h1, h2⟩ := ih i hi hp
      exact ⟨e, by lia, h1, h2⟩
theorem levDE_ex (la lb : List Nat) (hl : lb.length = la.length) (hne : la ≠ lb) : ∃ d e, LevDE la lb d e := by
  obtain ⟨d, hd, h1, h2⟩ := diff_ex la lb hl hne
  obtain ⟨e, he, h3, h4⟩ := least_ex (fun i => la.getD (la.length - 1 - i) 0 = lb.getD (la.length - 1 - i) 0) (la.length - 1 - d) (by
    rw [show la.length - 1 - (la.length - 1 - d) = d by lia]; exact h2)
  exact ⟨d, e, by lia, h1, h2, h3, h4⟩
noncomputable def midL (la : List Nat) (d e : Nat) : List Nat := (la.drop d).take (la.length - d - e)
noncomputable def costN (u v : Nat) : Int := if u = v then 0 else 2
abbrev DSt := Int × Int × Int × List Int
noncomputable def stepI (A : List Nat) (bc : Nat) (st : DSt) (i : Nat) : DSt :=
  let sub := st.1 + costN bc (A.getD i 0)
  let d' := st.2.2.2.getD i 0
  let r := if sub < (if d' < st.2.1 then d' else st.2.1) + 2 then sub else (if d' < st.2.1 then d' else st.2.1) + 2
  (d', r, (if r < st.2.2.1 then r else st.2.2.1), st.2.2.2.set i r)
noncomputable def innerF (A : List Nat) (bc : Nat) (st : DSt) : Nat → DSt
  | 0 => st
  | k+1 => stepI A bc (innerF A bc st k) k
noncomputable def bigM : Int := 9223372036854775807
noncomputable def dpO (A B : List Nat) (mx : Int) : Nat → Nat → List Int → Int → Int
  | 0, _, _, res => res
  | f+1, bi, row, _ =>
    let st := innerF A (B.getD bi 0) ((bi : Int) * 2, (bi : Int) * 2, bigM, row) A.length
    if st.2.2.1 > mx then mx + 1 else dpO A B mx f (bi+1) st.2.2.2 st.2.1
noncomputable def row0 (m : Nat) : List Int := (List.range m).map fun (i : Nat) => (2 : Int) + (i : Int) * 2
noncomputable def dpF (A B : List Nat) (mx : Int) : Int := dpO A B mx B.length 0 (row0 A.length) 0
end Mine
end

section
open PySem PySem.W PyProof.Rows
namespace Mine
set_option maxRecDepth 100000 in
set_option maxHeartbeats 8000000 in
theorem c_iseof (w : World) (mean : ExcName → Option Value) (mg mb : Str → Option Value) (x : Int) (tx : CbTok) :
  Cl 1 w mean mg mb 60 (fun _ => True) [.int x tx] (fun _ => .bool (decide (x = 0))) := by
  (((have kf : PySem.Challenge.rw_sn0048_01 = PySem.Challenge.rw_sn0048_01 ∧ Mine.a.heap_1_1 = Mine.a.heap_1_1 := by (w_top off; k_with_none; k_fill; exact ⟨rfl, rfl⟩)); clear kf; dsimp only [Cl, CbRet]; intros))
  rename_i hret
  ((((refine wpAny_call ?_; k_dflt cell_enter)); k_steps))
  all_goals cb_end hret
noncomputable def riderL (k : Nat) : List Nat := ([[], [92, 40], [34, 41, 34], [92, 34], [92, 92]] : List (List Nat)).getD k []
noncomputable def ridC (x : Int) (c : PySem.Str) : Prop := (x = 0 ∧ c = mkS []) ∨ (x = 1 ∧ c = mkS [92, 40]) ∨ (x = 2 ∧ c = mkS [34, 41, 34]) ∨ (x = 3 ∧ c = mkS [92, 34]) ∨ (x = 4 ∧ c = mkS [92, 92])
set_option maxRecDepth 100000 in
set_option maxHeartbeats 8000000 in
theorem c_rider (w : World) (mean : ExcName → Option Value) (mg mb : Str → Option Value) (x : Int) (tx : CbTok) :
  Cl 1 w mean mg mb 109 (fun _ => 0 ≤ x ∧ x < 5) [.int x tx] (fun t => .str (mkS (riderL x.toNat)) t) := by
  (((have kf : PySem.Challenge.rw_sn0048_01 = PySem.Challenge.rw_sn0048_01 ∧ Mine.a.heap_1_1 = Mine.a.heap_1_1 := by (w_top off; k_with_none; k_fill; exact ⟨rfl, rfl⟩)); clear kf; dsimp only [Cl, CbRet]; intros))
  rename_i hpre _ _ hret
  obtain ⟨h0, h1⟩ := hpre
  have hc : x = 0 ∨ x = 1 ∨ x = 2 ∨ x = 3 ∨ x = 4 := by omega
  rcases hc with rfl | rfl | rfl | rfl | rfl
  all_goals ((((refine wpAny_call ?_; k_dflt cell_enter)); k_steps))
  all_goals cb_end hret
end Mine
end

section
open PySem PySem.W PyProof.Rows
namespace Mine
noncomputable def oddN : Nat → Nat → Int
  | 0, _ => 0
  | f+1, n => if n = 0 then 0 else (((n:Int) % 2) + oddN f (n/2)) % 2
noncomputable def odd (n : Int) : Int := oddN (n.toNat) n.toNat
theorem oddN_fuel : ∀ (f n : Nat), n ≤ f → ∀ g, n ≤ g → oddN f n = oddN g n := by
  intro f
  induction f with
  | zero => intro n hn g hg; have : n = 0 := by lia
            subst this; cases g <;> simp [oddN]
  | succ f ih =>
    intro n hn g hg
    by_cases h0 : n = 0
    · subst h0; cases g <;> simp [oddN]
    · cases g with
      | zero => lia
      | succ g =>
        simp only [oddN, if_neg h0]
        rw [ih (n/2) (by lia) g (by lia)]
theorem odd_step (n : Int) (h : 0 < n) : odd n = (n % 2 + odd (n / 2)) % 2 := by
  unfold odd
  obtain ⟨k, rfl⟩ : ∃ k : Nat, n = k := ⟨n.toNat, by lia⟩
  have hk : k ≠ 0 := by lia
  cases k with
  | zero => lia
  | succ k =>
    have e1 : ((((k+1 : Nat)) : Int) / 2).toNat = (k+1)/2 := by lia
    rw [e1]
    simp only [Int.toNat_natCast, oddN, if_neg hk]
    rw [oddN_fuel k ((k+1)/2) (by lia) ((k+1)/2) (by lia)]
theorem odd_zero : odd 0 = 0 := rfl
theorem odd_bd (n : Int) (h : 0 ≤ n) : 0 ≤ odd n ∧ odd n < 2 := by
  by_cases h0 : n = 0
  · subst h0; decide
  · rw [odd_step n (by lia)]; lia
noncomputable def OddW (n0 n o : Int) : Prop := 0 ≤ n ∧ (o + odd n) % 2 = odd n0 ∧ 0 ≤ o ∧ o < 2
theorem odd_start {x : Int} (h : 0 ≤ x) : OddW x x 0 := by
  have := odd_bd x h
  refine ⟨h, ?_, by lia, by lia⟩; lia
theorem odd_turn {n0 n o : Int} (h : OddW n0 n o) (h1 : 0 < n) : OddW n0 (Int.fdiv n 2) (Int.fmod (o + n) 2) := by
  obtain ⟨h0, h, ha, hb⟩ := h
  have e1 := Int.fmod_eq_emod_of_nonneg (o + n) (b := 2) (by lia)
  have e2 := Int.fdiv_eq_ediv_of_nonneg n (b := 2) (by lia)
  rw [e1, e2]
  refine ⟨by lia, ?_, by lia, by lia⟩
  rw [← h, odd_step n h1]
  lia
theorem odd_last {n0 n o : Int} (h : OddW n0 n o) (h1 : ¬ 0 < n) : o = odd n0 := by
  obtain ⟨h0, h, ha, hb⟩ := h
  have : n = 0 := by lia
  subst this
  rw [odd_zero] at h; lia
theorem odd_less {n0 n o : Int} (h : OddW n0 n o) (h1 : 0 < n) : (Int.fdiv n 2).toNat < n.toNat := by
  rw [Int.fdiv_eq_ediv_of_nonneg n (by lia)]; lia
set_option maxRecDepth 100000 in
set_option maxHeartbeats 8000000 in
theorem c_odd (w : World) (mean : ExcName → Option Value) (mg mb : Str → Option Value) (x : Int) (tx : CbTok) :
  Cl 1 w mean mg mb 95 (fun _ => 0 ≤ x) [.int x tx] (fun t => .int (odd x) t) := by
  (((have kf : PySem.Challenge.rw_sn0048_01 = PySem.Challenge.rw_sn0048_01 ∧ Mine.a.heap_1_1 = Mine.a.heap_1_1 := by (w_top off; k_with_none; k_fill; exact ⟨rfl, rfl⟩)); clear kf; dsimp only [Cl, CbRet]; intros))
  rename_i hret
  ((refine wpAny_call ?_; k_dflt cell_enter))
  iterate 6 walk1
  k_with "state" => first | exact odd_start (by assumption) | exact odd_turn (by assumption) (by assumption) 
  k_with "measure" => exact odd_less (by assumption) (by assumption)
  k_while_given ["number!"] (fun n0 script n o => OddW n0 n o) (fun n0 script n o => n.toNat) "number" "odd"
  k_steps
  k_with "tree" => exact odd_last (by assumption) (by assumption)
  all_goals cb_end hret
noncomputable def onesN : Nat → Nat → Int
  | 0, _ => 0
  | f+1, n => if n % 2 = 1 then 1 + onesN f (n/2) else 0
noncomputable def ones (n : Int) : Int := onesN (n.toNat+1) n.toNat
theorem onesN_fuel : ∀ (f n : Nat), n < f → ∀ g, n < g → onesN f n = onesN g n := by
  intro f
  induction f with
  | zero => intro n hn; lia
  | succ f ih =>
    intro n hn g hg
    cases g with
    | zero => lia
    | succ g =>
      simp only [onesN]
      by_cases h1 : n % 2 = 1
      · rw [if_pos h1, if_pos h1, ih (n/2) (by lia) g (by lia)]
      · rw [if_neg h1, if_neg h1]
theorem ones_step (n : Int) (h0 : 0 ≤ n) (h : n % 2 = 1) : ones n = 1 + ones (n / 2) := by
  unfold ones
  obtain ⟨k, rfl⟩ : ∃ k : Nat, n = k := ⟨n.toNat, by lia⟩
  have e1 : ((k : Int) / 2).toNat = k/2 := by lia
  have h' : k % 2 = 1 := by lia
  rw [e1]
  simp only [Int.toNat_natCast]
  show onesN (k+1) k = _
  rw [onesN, if_pos h', onesN_fuel k (k/2) (by lia) (k/2+1) (by lia)]
theorem ones_end (n : Int) (h0 : 0 ≤ n) (h : ¬ n % 2 = 1) : ones n = 0 := by
  unfold ones
  have h' : ¬ n.toNat % 2 = 1 := by lia
  simp only [onesN, if_neg h']
noncomputable def OnesW (n0 n o : Int) : Prop := 0 ≤ n ∧ o + ones n = ones n0
theorem ones_start {x : Int} (h : 0 ≤ x) : OnesW x x 0 := ⟨h, by lia⟩
theorem ones_turn {n0 n o : Int} (h : OnesW n0 n o) (h1 : Int.fmod n 2 = 1) : OnesW n0 (Int.fdiv n 2) (o + 1) := by
  obtain ⟨h0, h⟩ := h
  rw [Int.fmod_eq_emod_of_nonneg n (by lia)] at h1
  rw [Int.fdiv_eq_ediv_of_nonneg n (by lia)]
  refine ⟨by lia, ?_⟩
  rw [ones_step n h0 h1] at h; lia
theorem ones_last {n0 n o : Int} (h : OnesW n0 n o) (h1 : ¬ Int.fmod n 2 = 1) : o = ones n0 := by
  obtain ⟨h0, h⟩ := h
  rw [Int.fmod_eq_emod_of_nonneg n (by lia)] at h1
  rw [ones_end n h0 h1] at h; lia
theorem ones_less {n0 n o : Int} (h : OnesW n0 n o) (h1 : Int.fmod n 2 = 1) : (Int.fdiv n 2).toNat < n.toNat := by
  obtain ⟨h0, h⟩ := h
  rw [Int.fmod_eq_emod_of_nonneg n (by lia)] at h1
  rw [Int.fdiv_eq_ediv_of_nonneg n (by lia)]; lia
set_option maxRecDepth 100000 in
set_option maxHeartbeats 8000000 in
theorem c_ones (w : World) (mean : ExcName → Option Value) (mg mb : Str → Option Value) (x : Int) (tx : CbTok) :
  Cl 1 w mean mg mb 102 (fun _ => 0 ≤ x) [.int x tx] (fun t => .int (ones x) t) := by
  (((have kf : PySem.Challenge.rw_sn0048_01 = PySem.Challenge.rw_sn0048_01 ∧ Mine.a.heap_1_1 = Mine.a.heap_1_1 := by (w_top off; k_with_none; k_fill; exact ⟨rfl, rfl⟩)); clear kf; dsimp only [Cl, CbRet]; intros))
  rename_i hret
  ((refine wpAny_call ?_; k_dflt cell_enter))
  iterate 6 walk1
  k_with "state" => first | exact ones_start (by assumption) | exact ones_turn (by assumption) (by assumption) 
  k_with "measure" => exact ones_less (by assumption) (by assumption)
  k_while_given ["number!"] (fun n0 script n o => OnesW n0 n o) (fun n0 script n o => n.toNat) "number" "ones"
  k_steps
  k_with "tree" => exact ones_last (by assumption) (by assumption)
  all_goals cb_end hret
noncomputable def alikeN : Nat → Int → Int → Bool
  | 0, _, _ => false
  | f+1, p, s =>
    if s % 2 = 0 then (if p % 2 = 1 then false else alikeN f (p/2) (s/2))
    else if s = 1 then decide (ones p % 2 = 1)
    else if s = 3 ∧ p % 4 = 3 then decide (ones p % 2 = 0) && decide (ones (p+4) % 2 = 0) else false
noncomputable def alike (p s : Int) : Bool := alikeN s.toNat p s
theorem alikeN_fuel : ∀ (f : Nat) (p s : Int), 1 ≤ s → s ≤ f → ∀ g : Nat, s ≤ g → alikeN f p s = alikeN g p s := by
  intro f
  induction f with
  | zero => intro p s h1 h2; lia
  | succ f ih =>
    intro p s h1 h2 g hg
    cases g with
    | zero => lia
    | succ g =>
      simp only [alikeN]
      by_cases h : s % 2 = 0
      · rw [if_pos h, if_pos h, ih (p/2) (s/2) (by lia) (by lia) g (by lia)]
      · rw [if_neg h, if_neg h]
theorem alike_step (p s : Int) (h1 : 1 ≤ s) (h : s % 2 = 0) : alike p s = if p % 2 = 1 then false else alike (p/2) (s/2) := by
  unfold alike
  obtain ⟨k, hk⟩ : ∃ k : Nat, s.toNat = k + 1 := ⟨s.toNat - 1, by lia⟩
  rw [hk]
  simp only [alikeN, if_pos h]
  rw [alikeN_fuel k (p/2) (s/2) (by lia) (by lia) (s/2).toNat (by lia)]
theorem alike_last (p s : Int) (h1 : 1 ≤ s) (h : ¬ s % 2 = 0) : alike p s = (if s = 1 then decide (ones p % 2 = 1)
    else if s = 3 ∧ p % 4 = 3 then decide (ones p % 2 = 0) && decide (ones (p+4) % 2 = 0) else false) := by
  unfold alike
  obtain ⟨k, hk⟩ : ∃ k : Nat, s.toNat = k + 1 := ⟨s.toNat - 1, by lia⟩
  rw [hk]
  simp only [alikeN, if_neg h]
noncomputable def AlW (p0 s0 p s : Int) : Prop := 0 ≤ p ∧ 1 ≤ s ∧ alike p s = alike p0 s0
theorem al_start {p s : Int} (h : 0 ≤ p ∧ 1 ≤ s) : AlW p s p s := ⟨h.1, h.2, rfl⟩
theorem al_turn {p0 s0 p s : Int} (h : AlW p0 s0 p s) (h1 : Int.fmod s 2 = 0) (h2 : ¬ Int.fmod p 2 = 1) : AlW p0 s0 (Int.fdiv p 2) (Int.fdiv s 2) := by
  obtain ⟨ha, hb, h⟩ := h
  rw [Int.fmod_eq_emod_of_nonneg _ (by lia)] at h1 h2
  rw [Int.fdiv_eq_ediv_of_nonneg _ (by lia), Int.fdiv_eq_ediv_of_nonneg _ (by lia)]
  refine ⟨by lia, by lia, ?_⟩
  rw [← h, alike_step p s hb h1, if_neg h2]
theorem al_less {p0 s0 p s : Int} (h : AlW p0 s0 p s) (h1 : Int.fmod s 2 = 0) : (Int.fdiv s 2).toNat < s.toNat := by
  obtain ⟨ha, hb, h⟩ := h
  rw [Int.fmod_eq_emod_of_nonneg _ (by lia)] at h1
  rw [Int.fdiv_eq_ediv_of_nonneg _ (by lia)]; lia
theorem al_e1 {p0 s0 p s : Int} (h : AlW p0 s0 p s) (h1 : Int.fmod s 2 = 0) (h2 : Int.fmod p 2 = 1) : false = alike p0 s0 := by
  obtain ⟨ha, hb, h⟩ := h
  rw [Int.fmod_eq_emod_of_nonneg _ (by lia)] at h1 h2
  rw [← h, alike_step p s hb h1, if_pos h2]
theorem al_fin {p0 s0 p s : Int} (h : AlW p0 s0 p s) (h1 : Int.fmod s 2 ≠ 0) : alike p0 s0 = if s = 1 then decide (Int.fmod (ones p) 2 = 1) else if s = 3 ∧ Int.fmod p 4 = 3 then decide (Int.fmod (ones p) 2 = 0) && decide (Int.fmod (ones (p+4)) 2 = 0) else false := by
  obtain ⟨ha, hb, h⟩ := h
  rw [Int.fmod_eq_emod_of_nonneg _ (by lia)] at h1
  rw [Int.fmod_eq_emod_of_nonneg _ (by lia), Int.fmod_eq_emod_of_nonneg _ (by lia), Int.fmod_eq_emod_of_nonneg _ (by lia)]
  rw [← h, alike_last p s hb h1]
theorem al_pre {p0 s0 p s : Int} (h : AlW p0 s0 p s) : 0 ≤ p := h.1
theorem al_pre4 {p0 s0 p s : Int} (h : AlW p0 s0 p s) : 0 ≤ p + 4 := by have := h.1; lia
section
local macro_rules | `(tactic| walk_at "mine 1") => `(tactic| ((with_reducible show wpAny _ _ (call (Value.ref 102) _) _ _ _); ((k_here; k_dflt ((refine' (c_ones _ _ _ _ _ _) _ _ _ _ _ _ _ _ _ _ _ _ _ _ _ _ _ _ ?k1u11 ?k2u11 ?k3u11 ?k4u11 ?k5u11 ?kKu11 ?kpu11 ?kdu11 ?kuu11 ?kRu11); (case k1u11 => k_asm); (case k2u11 => k_asm); (case k3u11 => k_asm); (case k4u11 => k_asm); (case k5u11 => k_asm); (case kKu11 => first | exact rfl | assumption); (case kpu11 => (try dsimp only); first | trivial | k_extra "pre" | assumption | omega | l_fact); (case kdu11 => ktr_room); (case kuu11 => ktr_units); (intro _ _ _ _ _); (try dsimp only); (try k_fold))))))
local macro_rules | `(tactic| walk_at "call ref") => `(tactic| (walk_at "mine 1"))
set_option maxRecDepth 100000 in
set_option maxHeartbeats 8000000 in
theorem c_alike (w : World) (mean : ExcName → Option Value) (mg mb : Str → Option Value) (x y : Int) (tx ty : CbTok) :
  Cl 2 w mean mg mb 123 (fun _ => 0 ≤ x ∧ 1 ≤ y) [.int x tx, .int y ty] (fun _ => .bool (alike x y)) := by
  (((have kf : PySem.Challenge.rw_sn0048_01 = PySem.Challenge.rw_sn0048_01 ∧ Mine.a.heap_1_1 = Mine.a.heap_1_1 := by (w_top off; k_with_none; k_fill; exact ⟨rfl, rfl⟩)); clear kf; dsimp only [Cl, CbRet]; intros))
  rename_i hret
  ((refine wpAny_call ?_; k_dflt cell_enter))
  iterate 2 walk1
  k_with "state" => first | exact al_start (by assumption) | exact al_turn (by assumption) (by assumption) (by assumption)
  k_with "measure" => exact al_less (by assumption) (by assumption)
  k_while_given ["place!", "size!"] (fun p0 s0 script p s => AlW p0 s0 p s) (fun p0 s0 script p s => s.toNat) "place" "size"
  k_with "pre" => first | exact al_pre (by assumption) | exact al_pre4 (by assumption)
  k_steps
  k_with "tree" => first | exact al_e1 (by assumption) (by assumption) (by assumption) | (rw [al_fin (by assumption) (by assumption)]; simp [*])
  all_goals cb_end hret
end
end Mine
end

section
open PySem PySem.W PyProof.Rows
namespace Mine
noncomputable def nmL : List PySem.Str := ["OPTIMIZED", "NEWLOCALS", "VARARGS", "VARKEYWORDS", "NESTED", "GENERATOR", "NOFREE", "COROUTINE", "ITERABLE_COROUTINE", "ASYNC_GENERATOR", "0x400", "0x800", "0x1000", "0x2000", "0x4000"]
noncomputable def nmU (n k : Nat) : List PySem.Str := ((List.range k).filter (fun i => n.testBit i)).map (fun i => nmL.getD i "")
noncomputable def pretty (n : Nat) : PySem.Str := PySem.Txt.join (PySem.Str.ofString ", ") (nmU n 15)
noncomputable def fl (n i : Nat) : Int := ((n / 2^i * 2^i : Nat) : Int)
theorem nmU_succ (n k : Nat) : nmU n (k+1) = if n.testBit k then nmU n k ++ [nmL.getD k ""] else nmU n k := by
  unfold nmU
  rw [List.range_succ, List.filter_append, List.map_append]
  by_cases h : n.testBit k = true <;> simp [h]
theorem nmU_len (n k : Nat) : (nmU n k).length ≤ k := by
  unfold nmU; rw [List.length_map]; exact Nat.le_trans (List.length_filter_le _ _) (by simp)
theorem pow_cast (i : Nat) : (1 * 2 ^ (0 + (i : Int)).toNat : Int) = ((2^i : Nat) : Int) := by
  have e : (0 + (i : Int)).toNat = i := by lia
  rw [e, Int.one_mul]; push_cast; rfl
theorem div_succ (n i : Nat) : n / 2^(i+1) = n / 2^i / 2 := by rw [Nat.pow_succ, Nat.div_div_eq_div_mul]
theorem fl_succ (n i : Nat) : fl n (i+1) = if n.testBit i then fl n i - ((2^i : Nat) : Int) else fl n i := by
  unfold fl
  rw [div_succ, Nat.testBit_eq_decide_div_mod_eq, Nat.pow_succ]
  generalize n / 2^i = q
  have e : q = 2 * (q / 2) + q % 2 := by lia
  by_cases h : q % 2 = 1
  · rw [if_pos (by simp [h])]
    have e2 : q * 2^i = q / 2 * (2^i * 2) + 2^i := by
      conv => lhs; rw [e, h]
      rw [Nat.add_mul, Nat.one_mul, Nat.mul_comm 2 (q/2), Nat.mul_assoc, Nat.mul_comm 2]
    lia
  · rw [if_neg (by simp [h])]
    have h0 : q % 2 = 0 := by lia
    have e2 : q * 2^i = q / 2 * (2^i * 2) := by
      conv => lhs; rw [e, h0]
      rw [Nat.add_zero, Nat.mul_comm 2 (q/2), Nat.mul_assoc, Nat.mul_comm 2]
    rw [e2]
theorem and_pow (q i : Nat) : q &&& 2^i = if q.testBit i then 2^i else 0 := by
  apply Nat.eq_of_testBit_eq
  intro j
  rw [Nat.testBit_and, Nat.testBit_two_pow]
  by_cases hij : i = j
  · subst hij
    by_cases h : q.testBit i = true
    · simp [h, Nat.testBit_two_pow_self]
    · simp [h]
  · by_cases h : q.testBit i = true
    · simp [h, hij, Nat.testBit_two_pow]
    · simp [h, hij]
theorem band (n i : Nat) : Builtin.bitAnd (fl n i) (1 * 2 ^ (0 + (i : Int)).toNat) = if n.testBit i then ((2^i : Nat) : Int) else 0 := by
  rw [pow_cast]
  unfold Builtin.bitAnd fl
  rw [decide_eq_true (Int.natCast_nonneg _), decide_eq_true (Int.natCast_nonneg _)]
  simp only [Int.toNat_natCast]
  rw [and_pow, ← Nat.shiftRight_eq_div_pow, ← Nat.shiftLeft_eq, Nat.testBit_shiftLeft, Nat.testBit_shiftRight]
  simp only [ge_iff_le, Nat.le_refl, decide_true, Nat.sub_self, Nat.add_zero, Bool.true_and]
  by_cases h : n.testBit i = true
  · simp [h]
  · simp [h]
theorem bxor (n i : Nat) (h : n.testBit i = true) : Builtin.bitXor (fl n i) (1 * 2 ^ (0 + (i : Int)).toNat) = fl n (i+1) := by
  rw [bitXor_and, band, fl_succ, if_pos h, if_pos h, pow_cast]; lia
theorem tb1 {n i : Nat} (h : Builtin.bitAnd (fl n i) (1 * 2 ^ (0 + (i : Int)).toNat) ≠ 0) : n.testBit i = true := by
  rw [band] at h
  by_cases q : n.testBit i = true
  · exact q
  · rw [if_neg q] at h; exact absurd rfl h
theorem tb0 {n i : Nat} (h : Builtin.bitAnd (fl n i) (1 * 2 ^ (0 + (i : Int)).toNat) = 0) : n.testBit i = false := by
  rw [band] at h
  by_cases q : n.testBit i = true
  · rw [if_pos q] at h
    have := Nat.two_pow_pos i
    lia
  · simpa using q
theorem fl_zero {n i : Nat} (h : fl n i = 0) : ∀ j, i ≤ j → n.testBit j = false := by
  intro j hj
  unfold fl at h
  have h1 : n / 2^i = 0 := by
    have h2 : n / 2^i * 2^i = 0 := by exact_mod_cast h
    rcases Nat.mul_eq_zero.mp h2 with h3 | h3
    · exact h3
    · exact absurd h3 (Nat.ne_of_gt (Nat.two_pow_pos i))
  have h2 : n < 2^i := by
    rcases Nat.lt_or_ge n (2^i) with h3 | h3
    · exact h3
    · have := Nat.div_pos h3 (Nat.two_pow_pos i); lia
  exact Nat.testBit_lt_two_pow (Nat.lt_of_lt_of_le h2 (Nat.pow_le_pow_right (n := 2) (by decide) hj))
theorem nmU_all {n i : Nat} (h : fl n i = 0) : ∀ k, nmU n (i + k) = nmU n i
  | 0 => rfl
  | k+1 => by rw [← Nat.add_assoc, nmU_succ, fl_zero h (i+k) (by lia)]; simpa using nmU_all h k
theorem nmU_fin {n i : Nat} (h : fl n i = 0) (hi : i ≤ 15) : nmU n 15 = nmU n i := by
  have := nmU_all h (15 - i)
  rwa [show i + (15 - i) = 15 by lia] at this
theorem fl_15 {n i : Nat} (hn : n < 32768) (h : fl n i ≠ 0) : i < 15 := by
  rcases Nat.lt_or_ge i 15 with q | q
  · exact q
  · exfalso; apply h; unfold fl
    have : n / 2^i = 0 := Nat.div_eq_of_lt (Nat.lt_of_lt_of_le hn (Nat.pow_le_pow_right (n := 2) (by decide) q))
    rw [this, Nat.zero_mul]; rfl
theorem sv_push (l : List (PySem.Str × Tok)) (x : PySem.Str) (t : Tok) : (PySem.strValues l).toArray.push (.str x t) = (PySem.strValues (l ++ [(x, t)])).toArray := by
  simp [PySem.strValues]
noncomputable def PJ (G : Array GenState) (ln : Addr) (news : List (Addr × Obj)) (n i : Nat) (gs : Array GenState) (m : PySem.Str → Option Value) (nx : List (Addr × Obj)) : Prop :=
  gs = G ∧ fl n i ≠ 0 ∧ ∃ (l : List (PySem.Str × Tok)) (cnt : Nat) (t : Tok), m "names" = some (.ref ln) ∧ m "flags" = some (.int (fl n i) t) ∧ nx = (ln, W.listOf (PySem.strValues l).toArray cnt) :: news ∧ l.map (·.1) = nmU n i
theorem endA {g h₁ h' : Heap} {L ln : Addr} {m' : PySem.Str → Option Value} {G : Array GenState} {d : Drawn} {os : OsState} {tk tk' cnt n i : Nat} {l : List (PySem.Str × Tok)} {x : PySem.Str} {t tf : Tok} {news own : List (Addr × Obj)} {adr : List Addr}
    (F : Fr g L h' m') (N : News g L h' ((ln, W.listOf ((PySem.strValues l).toArray.push (.str x t)) (cnt+1)) :: (news.append own)))
    (hb : Builtin.bitAnd (fl n i) (1 * 2 ^ (0 + (i : Int)).toNat) ≠ 0) (hx : Builtin.bitXor (fl n i) (1 * 2 ^ (0 + (i : Int)).toNat) ≠ 0) (hl : l.map (·.1) = nmU n i)
    (hm1 : m' "names" = some (.ref ln)) (hm2 : m' "flags" = some (.int (Builtin.bitXor (fl n i) (1 * 2 ^ (0 + (i : Int)).toNat)) tf)) (hnm : nmL.getD i "" = x) (ha : adr = ln :: news.map (·.1)) :
    TurnEnd g L (PJ G ln news n (i+1)) own adr ⟨h₁, G, d, tk, os⟩ ⟨h', G, d, tk', os⟩ := by
  have tb := tb1 hb
  rw [bxor n i tb] at hx hm2
  rw [sv_push] at N
  refine ⟨h', tk', G, m', _, (ln, W.listOf (PySem.strValues (l ++ [(x, t)])).toArray (cnt+1)) :: news, rfl, F, N, ?_, ?_, ha.symm, rfl, hx, l ++ [(x, t)], cnt+1, tf, hm1, hm2, rfl, ?_⟩
  · intro p hp
    rcases List.mem_cons.mp hp with rfl | hp
    · exact .head _
    · exact .tail _ (List.mem_append.mpr (.inl hp))
  · intro p hp; exact .tail _ (List.mem_append.mpr (.inr hp))
  · rw [List.map_append, hl, nmU_succ, if_pos tb, ← hnm]; rfl
theorem endC {g h₁ h' : Heap} {L ln : Addr} {m' : PySem.Str → Option Value} {G : Array GenState} {d : Drawn} {os : OsState} {tk tk' cnt n i : Nat} {l : List (PySem.Str × Tok)} {tf : Tok} {news own : List (Addr × Obj)} {adr : List Addr}
    (F : Fr g L h' m') (N : News g L h' ((ln, W.listOf (PySem.strValues l).toArray cnt) :: news ++ own))
    (hb : Builtin.bitAnd (fl n i) (1 * 2 ^ (0 + (i : Int)).toNat) = 0) (hf : fl n i ≠ 0) (hl : l.map (·.1) = nmU n i)
    (hm1 : m' "names" = some (.ref ln)) (hm2 : m' "flags" = some (.int (fl n i) tf)) (ha : adr = ln :: news.map (·.1)) :
    TurnEnd g L (PJ G ln news n (i+1)) own adr ⟨h₁, G, d, tk, os⟩ ⟨h', G, d, tk', os⟩ := by
  have tb := tb0 hb
  have e1 : fl n (i+1) = fl n i := by rw [fl_succ, tb]; rfl
  have e2 : nmU n (i+1) = nmU n i := by rw [nmU_succ, tb]; rfl
  refine ⟨h', tk', G, m', _, (ln, W.listOf (PySem.strValues l).toArray cnt) :: news, rfl, F, N, ?_, ?_, ha.symm, rfl, by rw [e1]; exact hf, l, cnt, tf, hm1, by rw [e1]; exact hm2, rfl, by rw [e2]; exact hl⟩
  · intro p hp; exact List.mem_append.mpr (.inl hp)
  · intro p hp; exact List.mem_append.mpr (.inr hp)
theorem joinB {n i : Nat} {l : List (PySem.Str × Tok)} {x : PySem.Str} {t : Tok} (hn : n < 32768) (hf : fl n i ≠ 0) (hb : Builtin.bitAnd (fl n i) (1 * 2 ^ (0 + (i : Int)).toNat) ≠ 0) (hx : Builtin.bitXor (fl n i) (1 * 2 ^ (0 + (i : Int)).toNat) = 0) (hl : l.map (·.1) = nmU n i) (hnm : nmL.getD i "" = x) :
    (l ++ [(x, t)]).map (·.1) = nmU n 15 := by
  have tb := tb1 hb
  rw [bxor n i tb] at hx
  have := fl_15 hn hf
  rw [nmU_fin hx (by lia), List.map_append, hl, nmU_succ, if_pos tb, ← hnm]; rfl
theorem nmL_len : ∀ i, (nmL.getD i "").length ≤ 18 := by
  intro i
  rcases Nat.lt_or_ge i 15 with h | h
  · have : ∀ i : Fin 15, (nmL.getD i.val "").length ≤ 18 := by decide +kernel
    exact this ⟨i, h⟩
  · rw [List.getD_eq_getElem?_getD, List.getElem?_eq_none (by exact h)]; decide +kernel
theorem foldl_bd (f : PySem.Str → Nat) (c : Nat) (b : Nat) : ∀ (xs : List PySem.Str) (a : Nat), (∀ x ∈ xs, f x ≤ b) → xs.foldl (fun acc x => acc + f x + c) a ≤ a + xs.length * (b + c)
  | [], a, _ => by simp
  | x :: xs, a, h => by
    have h1 := foldl_bd f c b xs (a + f x + c) (fun y hy => h y (.tail _ hy))
    have h2 := h x (.head _)
    simp only [List.foldl_cons, List.length_cons]
    rw [Nat.add_mul, Nat.one_mul]; lia
theorem joinOk_pretty (n : Nat) : JoinOk (PySem.Str.ofString ", ") (nmU n 15) = true := by
  unfold JoinOk
  have h0 : ∀ x ∈ nmU n 15, x.length ≤ 18 := by
    intro x hx
    unfold nmU at hx
    obtain ⟨i, _, rfl⟩ := List.mem_map.mp hx
    exact nmL_len i
  have h1 := foldl_bd (·.length) (PySem.Str.ofString ", ").length 18 (nmU n 15) 0 h0
  have h2 := nmU_len n 15
  have h3 : (PySem.Str.ofString ", ").length = 2 := by decide +kernel
  rw [h3] at h1
  have h4 : (nmU n 15).length * (18 + 2) ≤ 300 := by lia
  rw [List.foldl_toArray]
  rw [h3]
  have h5 : PySem.Builtin.Str.tooLong ((nmU n 15).foldl (fun acc x => acc + x.length + 2) 0) = false := by
    unfold PySem.Builtin.Str.tooLong
    simp only [decide_eq_false_iff_not, sizeLine_eq, gt_iff_lt, Nat.not_lt, ge_iff_le, Nat.not_le]; lia
  rw [h5]; rfl
end Mine
end

section
open PySem PySem.W PyProof.Rows
namespace Mine
theorem mid_str {M : Model} {A : Around} {a : Sem Value} {c : PySem.Str} {E : Value → Shared → Prop} {h₀ h : Heap} {L : Addr} {m : PySem.Str → Option Value} {news : List (Addr × Obj)} {gs : Array GenState} {d : Drawn} {os : OsState} {tk : Nat} {Q : Value → Shared → Prop} (_F : Fr h₀ L h m) (_N : News h₀ L h news)
    (h1 : wpAny M A a (fun v s' => ∃ t tk' h', v = .str c t ∧ s' = ⟨h', gs, d, tk', os⟩ ∧ Fr h₀ L h' m ∧ News h₀ L h' news) E ⟨h, gs, d, tk, os⟩)
    (h2 : ∀ t tk' h', Fr h₀ L h' m → News h₀ L h' news → Q (.str c t) ⟨h', gs, d, tk', os⟩) : wpAny M A a Q E ⟨h, gs, d, tk, os⟩ :=
  wpAny_mono h1 (fun v s' ⟨t, tk', h', e1, e2, F, N⟩ => e1 ▸ e2 ▸ h2 t tk' h' F N) fun _ _ e => e
theorem mid_end {c x : PySem.Str} {t : Tok} {h₀ h : Heap} {L : Addr} {m : PySem.Str → Option Value} {news : List (Addr × Obj)} {gs : Array GenState} {d : Drawn} {os : OsState} {tk : Nat} (F : Fr h₀ L h m) (N : News h₀ L h news) (e : x = c) :
    ∃ t' tk' h', Value.str x t = .str c t' ∧ (⟨h, gs, d, tk, os⟩ : Shared) = ⟨h', gs, d, tk', os⟩ ∧ Fr h₀ L h' m ∧ News h₀ L h' news := ⟨t, tk, h, by rw [e], rfl, F, N⟩
section
local macro_rules | `(tactic| k_all) => `(tactic| assumption)
local macro_rules | `(tactic| walk_at "TurnPost") => `(tactic| (dsimp only [TurnPost]))
local macro_rules | `(tactic| walk_at "TurnEnd") => `(tactic| first
  | exact endA (by assumption) (by assumption) (by assumption) (by assumption) (by assumption) rfl rfl rfl rfl
  | exact endC (by assumption) (by assumption) (by assumption) (by assumption) (by assumption) rfl rfl rfl)
local macro_rules | `(tactic| walk_at "eval Call Attribute") => `(tactic| ((with_reducible show wpAny _ _ (eval (Expr.Call (Expr.Attribute (Expr.Name (PySem.Str.ofString "COMPILER_FLAG_NAMES") _) _ _) _ _ _) _) _ _ _); (with_reducible rename (_ < 15) => h15); refine StopW.mk ?_))
local macro_rules | `(tactic| walk_at "call builtin:str.join") => `(tactic| (
  (rename News _ _ _ _ => nJ); rw [sv_push] at nJ
  refine' SC.join (News.isList nJ ?m1) (joinB (by assumption) (by assumption) (by assumption) (by assumption) (by assumption) ?m2) (joinOk_pretty _) ?_
  (case m1 => exact .head _)
  (case m2 => exact rfl)
  intro _ _))
set_option maxRecDepth 100000 in
set_option maxHeartbeats 8000000 in
theorem c_pretty (w : World) (mean : ExcName → Option Value) (mg mb : Str → Option Value) (n : Nat) (tx : CbTok) :
  Cl 1 w mean mg mb 22 (fun _ => 1 ≤ n ∧ n < 32768) [.int (n : Int) tx] (fun t => .str (pretty n) t) := by
  (((have kf : PySem.Challenge.rw_sn0048_01 = PySem.Challenge.rw_sn0048_01 ∧ Mine.a.heap_1_1 = Mine.a.heap_1_1 := by (w_top off; k_with_none; k_fill; exact ⟨rfl, rfl⟩)); clear kf; dsimp only [Cl, CbRet]; intros))
  rename_i news s Q E _ _ _ _ _ _ hpre _ _ hret
  obtain ⟨hn1, hn2⟩ := hpre
  ((refine wpAny_call ?_; k_dflt cell_enter))
  iterate 9 walk1
  refine for_G ?_
  iterate 7 walk1
  rename_i ln _ l1 _ _ _ _ _ _ _ _ hr F N K0
  refine rg_loop (n := 32) (PJ s.gens ln news n) rfl rfl rfl hr (by decide) (by decide) F N ?_ ?_ ?_
  · refine ⟨rfl, ?_, [], 0, tx, rfl, ?_, rfl, rfl⟩
    · unfold fl; simp; omega
    · show some (Value.int (n : Int) tx) = _
      unfold fl; simp
  · intro i gs m₁ news₁ h tk t own hi hadr hoff hJ F N
    obtain ⟨rfl, hf, l, cnt, tf, hm1, hm2, rfl, hl⟩ := hJ
    have hm : m₁ = kstB m₁ [("names", .ref ln), ("flags", .int (fl n i) tf)] := by
      funext z; exact (kstB_eq (by intro p hp; simp at hp; rcases hp with rfl | rfl <;> assumption) (fun _ => rfl)).symm
    rw [hm] at F
    clear hm hm1 hm2
    have hne : ∀ p ∈ news ++ own, p.1 ≠ ln := by
      intro p hp
      rcases List.mem_append.mp hp with hp | hp
      · exact Nat.ne_of_lt (l1 p hp)
      · exact fun e => hoff p hp ln (by simp) e
    have hsz : (PySem.strValues l).toArray.size ≤ sizeLine := by
      have h1 : l.length = (nmU n i).length := by rw [← hl, List.length_map]
      have h2 := nmU_len n i
      simp only [PySem.strValues, List.size_toArray, List.length_map]
      rw [sizeLine_eq]; omega
    have hi15 := fl_15 hn2 hf
    k_steps
    unfold StopW
    rename Fr _ _ _ _ => F
    rename News _ _ _ _ => N
    refine mid_str (c := nmL.getD i "") F N ?_ ?_
    · have hc : i = 0 ∨ i = 1 ∨ i = 2 ∨ i = 3 ∨ i = 4 ∨ i = 5 ∨ i = 6 ∨ i = 7 ∨ i = 8 ∨ i = 9 ∨ i = 10 ∨ i = 11 ∨ i = 12 ∨ i = 13 ∨ i = 14 := by omega
      rename (_ < 15) => hi15
      clear hi15
      rcases hc with rfl | rfl | rfl | rfl | rfl | rfl | rfl | rfl | rfl | rfl | rfl | rfl | rfl | rfl | rfl
      all_goals k_steps
      all_goals first | assumption | (refine mid_end (by assumption) (by assumption) ?_; decide +kernel)
    · intro t9 tk9 h9 F N
      have hln := nmL_len i
      k_steps
      all_goals ((rename News _ _ _ _ => nE); (rename Fr _ _ _ _ => fE); exact hret _ _ _ fE (cb_drop nE (fun p hp => .tail _ (List.mem_append.mpr (.inl hp)))))
  · intro gs m₁ news₁ h tk hJ
    exact absurd (fl_15 hn2 hJ.2.1) (by omega)
end
end Mine
namespace Mine
theorem c_prettyI (w : World) (mean : ExcName → Option Value) (mg mb : Str → Option Value) (x : Int) (tx : CbTok) :
  Cl 1 w mean mg mb 22 (fun _ => 1 ≤ x ∧ x < 32768) [.int x tx] (fun t => .str (pretty x.toNat) t) := by
  by_cases h : 0 ≤ x
  · obtain ⟨n, rfl⟩ : ∃ n : Nat, x = n := ⟨x.toNat, by omega⟩
    intro dp un gd cn cs a ccd cl outer A₀ base h₀ L m news s Q E h1 h2 h3 h4 h5 h6 h7
    exact c_pretty w mean mg mb n tx dp un gd cn cs a ccd cl outer A₀ base h₀ L m news s Q E h1 h2 h3 h4 h5 h6 (by constructor <;> omega)
  · intro dp un gd cn cs a ccd cl outer A₀ base h₀ L m news s Q E h1 h2 h3 h4 h5 h6 h7
    exact absurd h7.1 (by omega)
end Mine
end

section
open PySem PySem.W PyProof.Rows
namespace Mine
noncomputable def octs (n : Int) : List Int := if n < 64 then [n % 64] else if n < 4096 then [n / 64 % 64 + 64, n % 64] else [n / 64 / 64 % 64 + 64, n / 64 % 64 + 64, n % 64]
theorem fd64 (x : Int) : Int.fdiv x 64 = x / 64 := Int.fdiv_eq_ediv_of_nonneg x (by decide)
theorem fm64 (x : Int) : Int.fmod x 64 = x % 64 := Int.fmod_eq_emod_of_nonneg x (by decide)
theorem octs_1 {x : Int} (_h0 : 0 ≤ x) (h : x < 64) : octs x = [Int.fmod x 64] := by simp only [octs, if_pos h, fm64]
theorem octs_2 {x : Int} (h0 : 64 ≤ x) (h : x < 4096) : octs x = [Int.fmod (Int.fdiv x 64) 64 + 64, Int.fmod x 64] := by
  simp only [octs, if_neg (show ¬ x < 64 by omega), if_pos h, fm64, fd64]
theorem octs_3 {x : Int} (h0 : 4096 ≤ x) : octs x = [Int.fmod (Int.fdiv (Int.fdiv x 64) 64) 64 + 64, Int.fmod (Int.fdiv x 64) 64 + 64, Int.fmod x 64] := by
  simp only [octs, if_neg (show ¬ x < 64 by omega), if_neg (show ¬ x < 4096 by omega), fm64, fd64]
abbrev ClO (w : World) (mean : ExcName → Option Value) (mg mb : Str → Option Value) (x : Int) (tx : CbTok) : Prop :=
  ∀ (dp un : Nat) (gd : Option (List Code)) (cn : Str) (cs : Scope) (a : Addr) (ccd : Value) (cl : List (Str × Addr)) (outer : List Env) (A₀ : Around) (base h₀ : Heap) (L : Addr) (m : Str → Option Value) (news : List (Addr × Obj)) (s : Shared) (Q E : Value → Shared → Prop),
    Below A₀ base outer h₀ → Fr h₀ L s.heap m → (Mine.a.heap_1_1 w.params).In h₀ → News h₀ L s.heap news → Top Mine.a.view_1_2 (looseW Mine.a.view_1_2 [PySem.Str.ofString "COMPILER_FLAG_NAMES", PySem.Str.ofString "EXACT_TOKEN_TYPES"]) mean mg mb h₀ → cs.kind = .function →
    (0 ≤ x ∧ x < 16384) → dp + 10 * 1 < recursionLimit → un + 100 * 1 < cLine →
    (∀ (a : Addr) (vs : List Value) (c : Nat) (h' : Heap) (tk' : Nat), Fr h₀ L h' m → News h₀ L h' ((a, W.listOf vs.toArray c) :: news) → IntsAre vs (octs x) → Q (.ref a) { s with heap := h', toks := tk' }) →
      wpAny (model PySem.Challenge.pw_sn0048_01 w) (ktrTop dp un gd cn cs L a ccd cl outer) (call (.ref 81) [.int x tx]) Q E s
section
local macro_rules | `(tactic| walk_at "WhlIf") => `(tactic| first | (refine WhlIf.yes (by (simp only [decide_eq_true_eq, ge_iff_le]; omega)) ?_) | (refine WhlIf.no (by (simp only [decide_eq_false_iff_not, ge_iff_le]; omega)) ?_))
local macro_rules | `(tactic| walk_at "exec While Compare cons nil") => `(tactic| (k_here; k_dflt (refine whl_start 100 ?_)))
set_option maxRecDepth 100000 in
set_option maxHeartbeats 8000000 in
theorem c_octets (w : World) (mean : ExcName → Option Value) (mg mb : Str → Option Value) (x : Int) (tx : CbTok) : ClO w mean mg mb x tx := by
  have _kf : PySem.Challenge.rw_sn0048_01 = PySem.Challenge.rw_sn0048_01 ∧ Mine.a.heap_1_1 = Mine.a.heap_1_1 := by (w_top off; k_with_none; k_fill; exact ⟨rfl, rfl⟩)
  clear _kf
  dsimp only [ClO]
  intros
  rename_i hpre _ _ hret
  obtain ⟨h0, h1⟩ := hpre
  have hc : x < 64 ∨ (64 ≤ x ∧ x < 4096) ∨ 4096 ≤ x := by omega
  have e1 := Int.fdiv_eq_ediv_of_nonneg x (b := 64) (by omega)
  have e2 := Int.fdiv_eq_ediv_of_nonneg (Int.fdiv x 64) (b := 64) (by omega)
  rcases hc with hc | hc | hc
  all_goals ((refine wpAny_call ?_; k_dflt cell_enter))
  all_goals k_steps
  all_goals ((rename News _ _ _ _ => nE); (rename Fr _ _ _ _ => fE))
  · refine hret _ _ _ _ _ fE nE ?_
    rw [octs_1 h0 hc]
    exact .cons _ _ .nil
  · refine hret _ _ _ _ _ fE nE ?_
    rw [octs_2 hc.1 hc.2]
    exact .cons _ _ (.cons _ _ .nil)
  · refine hret _ _ _ _ _ fE nE ?_
    rw [octs_3 hc]
    exact .cons _ _ (.cons _ _ (.cons _ _ .nil))
end
end Mine
end

section
open PySem PySem.W PyProof.Rows PySem.Spec PySem.Calls PySem.W.KBw
namespace Mine
noncomputable def biObj (b : Array UInt8) (t : Tok) (i : Nat) : Obj := { cls := .type "bytes_iterator", dict := none, data := .fields #[.bytes b t, .int i 0], slots := #[] }
section
variable {prog : Program} {w : World} {A : Around} {E : Value → Shared → Prop} {s : Shared} {h₀ : Heap} {L I : Addr} {m : PySem.Str → Option Value} {news news' : List (Addr × Obj)} {b : Array UInt8} {t : Tok} {i : Nat}
theorem bi_iter {Q : Value → Shared → Prop} (F : Fr h₀ L s.heap m) (N : News h₀ L s.heap news)
    (h : ∀ (I : Addr) h', Fr h₀ L h' m → News h₀ L h' ((I, biObj b t 0) :: news) → (∀ p ∈ news, p.1 < I) → Q (.ref I) { s with heap := h' }) :
    wpAny (model prog w) A (call (.builtin "iter") [.bytes b t]) Q E s := by
  refine call_function_entry (by decide +kernel) (by decide +kernel) kdk_entry_iter (kdk_args_iter _) ?_
  unfold Builtin.«iter»
  refine wpAny_bind (m := someArgs "iter" 1 2 _) (wpAny_of_eq (a := [Value.bytes b t]) (by first | rfl | kernel_rfl!) ?_)
  show wpAny _ _ (pyIter (.bytes b t) >>= _) _ _ _
  refine wpAny_bind (pyIter_bytes ?_)
  exact wpAny_pure ⟨_, rfl, h _ _ (F.push _) (News.push F N _ rfl) (fun q hq => Heap.lt_size (N q hq).1)⟩
theorem bi_next {k : Int} {Q : Value → Shared → Prop} (F : Fr h₀ L s.heap m) (N : News h₀ L s.heap news) (U : Upd I (biObj b t i) (biObj b t (i+1)) news news') (hx : (bInts b)[i]? = some k)
    (h : ∀ h', Fr h₀ L h' m → News h₀ L h' news' → Q (.int k s.toks) { s with heap := h', toks := s.toks + 1 }) :
    wpAny (model prog w) A (call (.builtin "next") [.ref I]) Q E s := by
  obtain ⟨pre, post, hl, hg, a, b'⟩ := U.split
  have hmem : (I, biObj b t i) ∈ news := by rw [hl]; exact List.mem_append_right _ (.head _)
  have hm := N (I, biObj b t i) hmem
  have ho := hm.1
  have hit : IsBytesIter s.heap I b t i := ⟨_, ho, rfl, rfl⟩
  have hd : (biObj b t i).data = .fields #[.bytes b t, .int i 0] := rfl
  obtain ⟨c, hc, hk⟩ : ∃ c, b[i]? = some c ∧ (c.toNat : Int) = k := by
    simp only [bInts, List.getElem?_map, Array.getElem?_toList] at hx
    cases q : b[i]? with
    | none => rw [q] at hx; cases hx
    | some c => rw [q] at hx; exact ⟨c, rfl, Option.some.inj hx⟩
  refine call_function_entry (by decide +kernel) (by decide +kernel) kdk_entry_next (kdk_args_next _) ?_
  unfold Builtin.«next»
  refine wpAny_bind (m := someArgs "next" 1 2 _) (wpAny_of_eq (a := [Value.ref I]) (by first | rfl | kernel_rfl!) ?_)
  dsimp only
  refine wpAny_bind (wpAny_specialOf (name := PySem.Str.ofString "__next__") (iter_typeIs hit) slot_next.lookup ?_)
  refine wpAny_ite_split (fun hab => absurd hab (by decide)) (fun _ => ?_)
  refine wpAny_bind (wpAny_callSpecial?_slot (name := PySem.Str.ofString "__next__") (iter_typeIs hit) slot_next
    (wpAny_call_entry slot_next (iter_typeIs hit) entry_next ?_ (args_next _)))
  show wpAny _ _ (field (.ref I) 0 >>= _) _ _ s
  refine wpAny_bind (wpAny_field ho hd (x := .bytes b t) rfl ?_)
  show wpAny _ _ (if (Value.bytes b t == Value.none) = true then _ else _) _ _ s
  rw [if_neg (show ¬ ((Value.bytes b t == Value.none) = true) from Bool.false_ne_true)]
  show wpAny _ _ (field (.ref I) 1 >>= _) _ _ s
  refine wpAny_bind (wpAny_field ho hd (x := .int i 0) rfl ?_)
  refine wpAny_bind (wpAny_of_eq (a := b) rfl ?_)
  simp only [Int.toNat_natCast, hc]
  refine wpAny_bind (wpAny_setField ho hd (by simp) (wpAny_bind (wpAny_mkInt (wpAny_pure ⟨_, rfl, ?_⟩))))
  refine wpAny_pure ⟨_, rfl, ?_⟩
  rw [hk]
  refine h _ (F.change (Heap.SameBut.update ..) hm.2.1 hm.2.2) ?_
  rw [hg]
  exact news_set (hl ▸ N) a b' (Heap.SameBut.update ..) (by
    have e := Heap.get?_update_self (Obj.mapFields (·.setIfInBounds 1 (rawInt ((i : Int) + 1)))) ho (Obj.isFreed_of_fields (Obj.data_mapFields hd _))
    exact e)
end
end Mine
end

section
open PySem PySem.W PyProof.Rows PySem.W.KBw
namespace Mine
theorem ba64_n {k : Int} (h0 : 0 ≤ k) (h1 : k < 64) : Builtin.bitAnd k 64 = 0 := by
  obtain ⟨m, rfl⟩ : ∃ m : Nat, k = m := ⟨k.toNat, by lia⟩
  rw [bitAnd_pp (by lia) (by decide)]
  have : ∀ m : Fin 64, m.val &&& 64 = 0 := by decide +kernel
  have e := this ⟨m, by lia⟩
  have e' : m &&& 64 = 0 := e
  simpa using e'
theorem ba64_y {k : Int} (h0 : 64 ≤ k) (h1 : k < 128) : Builtin.bitAnd k 64 = 64 := by
  obtain ⟨m, rfl⟩ : ∃ m : Nat, k = m := ⟨k.toNat, by lia⟩
  rw [bitAnd_pp (by lia) (by decide)]
  have : ∀ m : Fin 64, (64 + m.val) &&& 64 = 64 := by decide +kernel
  have e := this ⟨m - 64, by lia⟩
  have e' : m &&& 64 = 64 := by
    have q : 64 + (m - 64) = m := by lia
    simp only [q] at e
    exact e
  show ((m &&& 64 : Nat) : Int) = 64
  rw [e']; rfl
theorem wh64_n {k : Int} (h0 : 0 ≤ k) (h1 : k < 64) : (Builtin.bitAnd k 64 != 0) = false := by rw [ba64_n h0 h1]; rfl
theorem wh64_y {k : Int} (h0 : 64 ≤ k) (h1 : k < 128) : (Builtin.bitAnd k 64 != 0) = true := by rw [ba64_y h0 h1]; rfl
theorem and_disj (u v : Nat) (hv : v < 64) : (u * 64) &&& v = 0 := by
  apply Nat.eq_of_testBit_eq
  intro j
  rw [Nat.testBit_and, Nat.zero_testBit, show u * 64 = u * 2^6 by rfl, ← Nat.shiftLeft_eq, Nat.testBit_shiftLeft]
  by_cases hj : 6 ≤ j
  · have : v.testBit j = false := Nat.testBit_lt_two_pow (Nat.lt_of_lt_of_le hv (Nat.pow_le_pow_right (n := 2) (by decide) hj))
    rw [this, Bool.and_false]
  · rw [decide_eq_false hj]; simp
theorem or_disj {x y : Int} (hx : 0 ≤ x) (hy : 0 ≤ y) (hy2 : y < 64) : Builtin.bitOr (x * 64) y = x * 64 + y := by
  rw [bitOr_and]
  obtain ⟨u, rfl⟩ : ∃ u : Nat, x = u := ⟨x.toNat, by lia⟩
  obtain ⟨v, rfl⟩ : ∃ v : Nat, y = v := ⟨y.toNat, by lia⟩
  rw [bitAnd_pp (by lia) (by lia)]
  have e : ((u : Int) * 64).toNat = u * 64 := by lia
  rw [e, Int.toNat_natCast, and_disj u v (by lia)]
  simp
section
variable {prog : Program} {w : World} {A : Around} {E : Value → Shared → Prop} {s : Shared} {t u : Tok} {Q : Value → Shared → Prop} {a b : Int}
theorem and63 (h : Q (.int (a % 64) s.toks) { s with toks := s.toks + 1 }) : wpAny (model prog w) A (binaryOp .BitAnd (.int a t) (.int 63 u)) Q E s := and_int (by rw [bitAnd_m6]; exact h)
theorem shl6 (ha : a.natAbs < 2 ^ 64) (h : Q (.int (a * 64) s.toks) { s with toks := s.toks + 1 }) : wpAny (model prog w) A (inplaceOp .LShift (.int a t) (.int 6 u)) Q E s :=
  ilshift_int_small (by decide) (by decide) ha (by exact h)
theorem or6 (hx : 0 ≤ a) (hy : 0 ≤ b) (hy2 : b < 64) (h : Q (.int (a * 64 + b) s.toks) { s with toks := s.toks + 1 }) : wpAny (model prog w) A (inplaceOp .BitOr (.int (a * 64) t) (.int b u)) Q E s :=
  ior_int (by rw [or_disj hx hy hy2]; exact h)
end
theorem ret_eq {h₀ h' : Heap} {L : Addr} {m : PySem.Str → Option Value} {news : List (Addr × Obj)} {s : Shared} {Q : Value → Shared → Prop} {x y : Int} {t : Tok} {tk' : Nat}
    (hret : ∀ (t : Tok) (h' : Heap) (tk' : Nat), Fr h₀ L h' m → News h₀ L h' news → Q (.int x t) { s with heap := h', toks := tk' }) (e : y = x) (F : Fr h₀ L h' m) (N : News h₀ L h' news) : Q (.int y t) { s with heap := h', toks := tk' } := by
  subst e; exact hret t h' tk' F N
abbrev ClP (w : World) (mean : ExcName → Option Value) (mg mb : PySem.Str → Option Value) (b : Array UInt8) (t : Tok) (i : Nat) (n : Int) (I : Addr) : Prop :=
  ∀ (dp un : Nat) (gd : Option (List Code)) (cn : PySem.Str) (cs : Scope) (a : Addr) (ccd : Value) (cl : List (PySem.Str × Addr)) (outer : List Env) (A₀ : Around) (base h₀ : Heap) (L : Addr) (m : PySem.Str → Option Value) (news : List (Addr × Obj)) (s : Shared) (Q E : Value → Shared → Prop),
    Below A₀ base outer h₀ → Fr h₀ L s.heap m → (Mine.a.heap_1_1 w.params).In h₀ → News h₀ L s.heap ((I, biObj b t i) :: news) → Top Mine.a.view_1_2 (looseW Mine.a.view_1_2 [PySem.Str.ofString "COMPILER_FLAG_NAMES", PySem.Str.ofString "EXACT_TOKEN_TYPES"]) mean mg mb h₀ → cs.kind = .function →
    (∀ p ∈ news, p.1 ≠ I) → (0 ≤ n ∧ n < 16384) → (∀ j k, (octs n)[j]? = some k → (bInts b)[i+j]? = some k) → dp + 10 * 1 < recursionLimit → un + 100 * 1 < cLine →
    (∀ (tn : Tok) (h' : Heap) (tk' : Nat), Fr h₀ L h' m → News h₀ L h' ((I, biObj b t (i + (octs n).length)) :: news) → Q (.int n tn) { s with heap := h', toks := tk' }) →
      wpAny (model PySem.Challenge.pw_sn0048_01 w) (ktrTop dp un gd cn cs L a ccd cl outer) (call (.ref 29) [.ref I]) Q E s
section
local macro_rules | `(tactic| walk_at "exec While BinOp cons nil") => `(tactic| (k_here; k_dflt (refine whl_start 100 ?_)))
local macro_rules | `(tactic| walk_at "WhlIf") => `(tactic| first | (refine WhlIf.yes (wh64_y (by omega) (by omega)) ?_) | (refine WhlIf.no (wh64_n (by omega) (by omega)) ?_))
local macro_rules | `(tactic| walk_at "binaryOp BitAnd int int") => `(tactic| (refine and63 ?_))
local macro_rules | `(tactic| walk_at "inplaceOp LShift int int") => `(tactic| (refine shl6 (by omega) ?_))
local macro_rules | `(tactic| walk_at "inplaceOp BitOr int int") => `(tactic| (refine or6 (by omega) (by omega) (by omega) ?_))
local macro_rules | `(tactic| walk_at "call builtin:next") => `(tactic| (k_here; k_dflt (refine' bi_next ?F ?N ?U ?x ?_; (case F => k_asm); (case N => k_asm); (case U => exact Upd.head (by assumption)); (case x => assumption)); intro h' F' N'))
set_option maxRecDepth 100000 in
set_option maxHeartbeats 8000000 in
theorem c_parse (w : World) (mean : ExcName → Option Value) (mg mb : PySem.Str → Option Value) (b : Array UInt8) (t : Tok) (i : Nat) (n : Int) (I : Addr) : ClP w mean mg mb b t i n I := by
  have _kf : PySem.Challenge.rw_sn0048_01 = PySem.Challenge.rw_sn0048_01 ∧ Mine.a.heap_1_1 = Mine.a.heap_1_1 := by (w_top off; k_with_none; k_fill; exact ⟨rfl, rfl⟩)
  clear _kf
  dsimp only [ClP]
  intros
  rename_i hI hn hx _ _ hret
  obtain ⟨h0, h1⟩ := hn
  have hc : n < 64 ∨ (64 ≤ n ∧ n < 4096) ∨ 4096 ≤ n := by lia
  have b0 := fm64 n
  have b1 := fm64 (Int.fdiv n 64)
  have b2 := fm64 (Int.fdiv (Int.fdiv n 64) 64)
  have d1 := fd64 n
  have d2 := fd64 (Int.fdiv n 64)
  rcases hc with hc | hc | hc
  · rw [octs_1 h0 hc] at hx hret
    have hx0 := hx 0 _ rfl
    ((refine wpAny_call ?_; k_dflt cell_enter))
    k_steps
    all_goals ((rename News _ _ _ _ => nE); (rename Fr _ _ _ _ => fE); exact ret_eq hret (by lia) fE nE)
  · rw [octs_2 hc.1 hc.2] at hx hret
    have hx0 := hx 0 _ rfl
    have hx1 := hx 1 _ rfl
    ((refine wpAny_call ?_; k_dflt cell_enter))
    k_steps
    all_goals ((rename News _ _ _ _ => nE); (rename Fr _ _ _ _ => fE); exact ret_eq hret (by omega) fE nE)
  · rw [octs_3 hc] at hx hret
    have hx0 := hx 0 _ rfl
    have hx1 := hx 1 _ rfl
    have hx2 := hx 2 _ rfl
    ((refine wpAny_call ?_; k_dflt cell_enter))
    k_steps
    all_goals ((rename News _ _ _ _ => nE); (rename Fr _ _ _ _ => fE); exact ret_eq hret (by omega) fE nE)
end
end Mine
end

section
open PySem PySem.W PyProof.Rows PySem.Builtin PySem.Builtin.Str PySem.StrLaws
namespace Mine
noncomputable def cnt : List Nat → Nat
  | [] => 0
  | c :: r => (if (c :: r).take 2 = [44, 32] then 1 else 0) + cnt r
noncomputable def good (s sub : PySem.Str) (hi i : Nat) : Bool := decide (i + sub.length ≤ hi) && subAt s sub i
theorem occ_cnt (s : PySem.Str) (hi limit : Nat) (hl : limit = hi + 1) (sub : PySem.Str) (h2 : sub.length = 2)
    (hov : ∀ i, good s sub hi i = true → good s sub hi (i+1) = false) :
    ∀ (n lo : Nat) (st : Array Nat × Nat), lo + n = hi + 1 → st.fst.size ≤ lo → (st.snd ≤ lo ∨ (st.snd = lo + 1 ∧ good s sub hi lo = false)) →
      (forIn (List.range' lo n) st (occBody s sub hi limit)).run.fst.size = st.fst.size + ((List.range' lo n).filter (good s sub hi)).length
  | 0, lo, st, _, _, _ => by simp
  | n+1, lo, st, hn, hs, hf => by
    rw [List.range'_succ, List.forIn_cons]
    unfold occBody
    split
    · rename_i hc
      have hg : good s sub hi lo = true := by
        unfold good; simp only [Bool.and_eq_true, decide_eq_true_eq]; exact ⟨hc.1.2, hc.2⟩
      have ih := occ_cnt s hi limit hl sub h2 hov n (lo+1) (st.fst.push lo, lo + sub.length) (by lia) (by simp; lia) (by
        right; exact ⟨by show lo + sub.length = _; lia, hov lo hg⟩)
      rw [List.filter_cons_of_pos hg, List.length_cons]
      have e : (st.fst.push lo, lo + sub.length).fst.size = st.fst.size + 1 := by simp
      rw [e] at ih
      have ih' : (forIn (List.range' (lo+1) n) (st.fst.push lo, lo + sub.length) (occBody s sub hi limit)).run.fst.size = st.fst.size + 1 + ((List.range' (lo+1) n).filter (good s sub hi)).length := ih
      show (forIn (List.range' (lo+1) n) (st.fst.push lo, lo + sub.length) (occBody s sub hi limit)).run.fst.size = _
      rw [ih']; lia
    · rename_i hc
      have hg : good s sub hi lo = false := by
        cases q : good s sub hi lo with
        | false => rfl
        | true =>
          exfalso; apply hc
          unfold good at q
          simp only [Bool.and_eq_true, decide_eq_true_eq] at q
          refine ⟨⟨⟨by lia, ?_⟩, q.1⟩, q.2⟩
          rcases hf with h | h
          · exact h
          · rw [show good s sub hi lo = true by unfold good; simp only [Bool.and_eq_true, decide_eq_true_eq]; exact q] at h
            exact absurd h.2 (by decide)
      have ih := occ_cnt s hi limit hl sub h2 hov n (lo+1) st (by lia) (by lia) (by left; rcases hf with h | h <;> lia)
      rw [List.filter_cons_of_neg (by rw [hg]; decide)]
      exact ih
theorem filt_cnt (cs : List Nat) (p : Nat → Bool) (hp : ∀ i, p i = true ↔ (cs.drop i).take 2 = [44, 32]) : ∀ (n lo : Nat), lo + n = cs.length + 1 → ((List.range' lo n).filter p).length = cnt (cs.drop lo)
  | 0, lo, h => by
    rw [List.drop_of_length_le (by lia)]; rfl
  | n+1, lo, h => by
    rw [List.range'_succ]
    have ih := filt_cnt cs p hp n (lo+1) (by lia)
    by_cases hl : lo < cs.length
    · have e : cs.drop lo = cs[lo] :: cs.drop (lo+1) := List.drop_eq_getElem_cons hl
      by_cases q : p lo = true
      · rw [List.filter_cons_of_pos q, List.length_cons, ih]
        have := (hp lo).mp q
        rw [e] at this
        conv => rhs; rw [e]
        simp only [cnt, if_pos this]; lia
      · rw [List.filter_cons_of_neg q, ih]
        have : ¬ (cs.drop lo).take 2 = [44, 32] := fun z => q ((hp lo).mpr z)
        rw [e] at this
        conv => rhs; rw [e]
        simp only [cnt, if_neg this]; lia
    · have hlo : lo = cs.length := by lia
      have q : ¬ p lo = true := by
        rw [hp lo, hlo, List.drop_of_length_le (by lia)]; simp
      rw [List.filter_cons_of_neg q, ih, List.drop_of_length_le (by lia), List.drop_of_length_le (by lia)]
theorem cnt_free : ∀ a : List Nat, 44 ∉ a → cnt a = 0
  | [], _ => rfl
  | c :: r, h => by
    have h1 : c ≠ 44 := fun e => h (e ▸ .head _)
    have : ¬ (c :: r).take 2 = [44, 32] := by intro e; simp at e; exact h1 e.1
    simp only [cnt, if_neg this, cnt_free r (fun q => h (.tail _ q))]
theorem cnt_app : ∀ (a r : List Nat), 44 ∉ a → cnt (a ++ 44 :: 32 :: r) = 1 + cnt r
  | [], r, _ => by
    show (if (44 :: 32 :: r).take 2 = [44, 32] then 1 else 0) + ((if (32 :: r).take 2 = [44, 32] then 1 else 0) + cnt r) = 1 + cnt r
    rw [if_pos (by simp), if_neg (by simp)]; lia
  | c :: a, r, h => by
    have h1 : c ≠ 44 := fun e => h (e ▸ .head _)
    have : ¬ (c :: (a ++ 44 :: 32 :: r)).take 2 = [44, 32] := by intro e; simp at e; exact h1 e.1
    show cnt (c :: (a ++ 44 :: 32 :: r)) = _
    simp only [cnt, if_neg this]
    rw [cnt_app a r (fun q => h (.tail _ q))]; lia
theorem cnt_join : ∀ xs : List PySem.Str, (∀ x ∈ xs, 44 ∉ x.cps.toList) → cnt (Str.join (PySem.Str.ofString ", ") xs).cps.toList = xs.length - 1
  | [], _ => by decide
  | [x], h => by show cnt x.cps.toList = 0; exact cnt_free _ (h x (.head _))
  | x :: y :: r, h => by
    have ih := cnt_join (y :: r) (fun z hz => h z (.tail _ hz))
    show cnt (x ++ PySem.Str.ofString ", " ++ Str.join (PySem.Str.ofString ", ") (y :: r)).cps.toList = _
    simp only [Str.cps_append, Array.toList_append]
    have e : (PySem.Str.ofString ", ").cps.toList = [44, 32] := by decide +kernel
    rw [e, List.append_assoc]
    simp only [List.cons_append, List.nil_append]
    rw [cnt_app _ _ (h x (.head _)), ih]
    simp only [List.length_cons]; lia
theorem split_len (xs : List PySem.Str) (hne : xs ≠ []) (hx : ∀ x ∈ xs, 44 ∉ x.cps.toList) : (Txt.split (Txt.join (PySem.Str.ofString ", ") xs) (PySem.Str.ofString ", ")).length = xs.length := by
  have hj : Txt.join (PySem.Str.ofString ", ") xs = Str.join (PySem.Str.ofString ", ") xs := glued_eq_join _ _
  rw [hj]
  have hc := cnt_join xs hx
  generalize Str.join (PySem.Str.ofString ", ") xs = x at hc
  have hpos : 1 ≤ xs.length := by cases xs with
    | nil => exact absurd rfl hne
    | cons _ _ => simp
  have e : (PySem.Str.ofString ", ").cps.toList = [44, 32] := by decide +kernel
  have h2 : (PySem.Str.ofString ", ").length = 2 := by decide +kernel
  have hxl : x.cps.toList.length = x.length := by simp [PySem.Str.length]
  have hg : ∀ i, good x (PySem.Str.ofString ", ") x.length i = true ↔ (x.cps.toList.drop i).take 2 = [44, 32] := by
    intro i
    unfold good
    rw [subAt_eq, h2, e]
    simp only [Bool.and_eq_true, decide_eq_true_eq, beq_iff_eq]
    constructor
    · exact fun h => h.2
    · intro h
      refine ⟨?_, h⟩
      have hlen := congrArg List.length h
      simp only [List.length_take, List.length_drop, List.length_cons, List.length_nil] at hlen
      lia
  have hov : ∀ i, good x (PySem.Str.ofString ", ") x.length i = true → good x (PySem.Str.ofString ", ") x.length (i+1) = false := by
    intro i hi
    cases q : good x (PySem.Str.ofString ", ") x.length (i+1) with
    | false => rfl
    | true =>
      exfalso
      rw [hg] at hi q
      rw [← List.drop_drop] at q
      generalize x.cps.toList.drop i = l at hi q
      match l, hi, q with
      | [], hi, _ => simp at hi
      | [a], hi, _ => simp at hi
      | a :: b :: l, hi, q =>
        have hb : b = 32 := by simp at hi; exact hi.2
        cases l with
        | nil => simp at q
        | cons c l => simp at q; lia
  have hocc : (occurrences x (PySem.Str.ofString ", ") 0 x.length (x.length + 1)).length = cnt x.cps.toList := by
    rw [occ_eq]
    have := occ_cnt x x.length (x.length + 1) rfl (PySem.Str.ofString ", ") h2 hov (x.length + 1 - 0) 0 (#[], 0) (by lia) (by simp) (by left; simp)
    rw [Array.length_toList, this]
    have f := filt_cnt x.cps.toList (good x (PySem.Str.ofString ", ") x.length) hg (x.length + 1 - 0) 0 (by rw [hxl]; lia)
    rw [f]; simp
  unfold Txt.split
  have hk : decide (strKind x < strKind (PySem.Str.ofString ", ")) = false := by
    have h1 : strKind (PySem.Str.ofString ", ") = 1 := by decide +kernel
    have h2 : 1 ≤ PySem.Builtin.Str.strKind x := by unfold PySem.Builtin.Str.strKind; split <;> (try split) <;> lia
    rw [h1]; exact decide_eq_false (by lia)
  rw [hk, Bool.or_false]
  by_cases hlt : x.length < (PySem.Str.ofString ", ").length
  · rw [if_pos (by simpa using hlt)]
    have : cnt x.cps.toList = 0 := by
      rw [h2] at hlt
      match hxx : x.cps.toList with
      | [] => rfl
      | [a] => simp [cnt]
      | a :: b :: l => rw [hxx] at hxl; simp at hxl; lia
    simp only [List.length_cons, List.length_nil]; lia
  · rw [if_neg (by simpa using hlt)]
    by_cases hem : (occurrences x (PySem.Str.ofString ", ") 0 x.length (x.length + 1)).isEmpty = true
    · rw [if_pos hem]
      have : (occurrences x (PySem.Str.ofString ", ") 0 x.length (x.length + 1)).length = 0 := by
        rw [List.isEmpty_iff] at hem; rw [hem]; rfl
      simp only [List.length_cons, List.length_nil]; lia
    · rw [if_neg hem, partsBetween_eq]
      have hp : ∀ (cuts : List Nat) (a : Nat), (partsFrom x (PySem.Str.ofString ", ").length a cuts).length = cuts.length + 1 := by
        intro cuts
        induction cuts with
        | nil => intro a; rfl
        | cons c r ih => intro a; show (_ :: partsFrom _ _ _ r).length = _; rw [List.length_cons, ih]; rfl
      rw [hp, hocc]; lia
theorem nmU_free (n k : Nat) : ∀ x ∈ nmU n k, 44 ∉ x.cps.toList := by
  intro x hx
  unfold nmU at hx
  obtain ⟨i, _, rfl⟩ := List.mem_map.mp hx
  rcases Nat.lt_or_ge i 15 with h | h
  · have : ∀ i : Fin 15, 44 ∉ (nmL.getD i.val "").cps.toList := by decide +kernel
    exact this ⟨i, h⟩
  · rw [List.getD_eq_getElem?_getD, List.getElem?_eq_none (by exact h)]; decide +kernel
theorem nmU_ne {n : Nat} (h1 : 1 ≤ n) (h2 : n < 32768) : nmU n 15 ≠ [] := by
  intro h
  unfold nmU at h
  rw [List.map_eq_nil_iff, List.filter_eq_nil_iff] at h
  have : n = 0 := by
    apply Nat.eq_of_testBit_eq
    intro i
    rw [Nat.zero_testBit]
    rcases Nat.lt_or_ge i 15 with hi | hi
    · simpa using h i (List.mem_range.mpr hi)
    · exact Nat.testBit_lt_two_pow (Nat.lt_of_lt_of_le h2 (Nat.pow_le_pow_right (n := 2) (by decide) hi))
  lia
theorem words_pretty {n : Nat} (h1 : 1 ≤ n) (h2 : n < 32768) : (Txt.split (pretty n) (PySem.Str.ofString ", ")).length = (nmU n 15).length :=
  split_len _ (nmU_ne h1 h2) (nmU_free n 15)
theorem join_len (sep : PySem.Str) (b : Nat) : ∀ xs : List PySem.Str, (∀ x ∈ xs, x.length ≤ b) → (Str.join sep xs).length ≤ xs.length * (b + sep.length)
  | [], _ => Nat.zero_le _
  | [x], h => by
    have := h x (.head _)
    show x.length ≤ _
    simp only [List.length_cons, List.length_nil]; lia
  | x :: y :: r, h => by
    have ih := join_len sep b (y :: r) (fun z hz => h z (.tail _ hz))
    have := h x (.head _)
    show (x ++ sep ++ Str.join sep (y :: r)).length ≤ _
    rw [Str.length_append, Str.length_append]
    simp only [List.length_cons] at ih ⊢
    rw [Nat.add_mul _ 1, Nat.one_mul]
    lia
theorem pretty_len (n : Nat) : (pretty n).length ≤ 300 := by
  have hj : pretty n = Str.join (PySem.Str.ofString ", ") (nmU n 15) := glued_eq_join _ _
  rw [hj]
  have h0 : ∀ x ∈ nmU n 15, x.length ≤ 18 := by
    intro x hx
    unfold nmU at hx
    obtain ⟨i, _, rfl⟩ := List.mem_map.mp hx
    exact nmL_len i
  have h1 := join_len (PySem.Str.ofString ", ") 18 _ h0
  have h2 := nmU_len n 15
  have h3 : (PySem.Str.ofString ", ").length = 2 := by decide +kernel
  rw [h3] at h1
  lia
end Mine
end

section
open PySem PySem.W PyProof.Rows
namespace Mine
noncomputable def wn (v : Int) : Nat := (nmU v.toNat 15).length
noncomputable def br (p : Int) : PySem.Str := if wn (2*p+1) % 2 = 1 then PySem.Str.ofString "(" else PySem.Str.ofString ")"
noncomputable def rowS (b : Int) : Nat → PySem.Str
  | 0 => PySem.Str.ofString ""
  | k+1 => rowS b k ++ br (b + (k : Int))
noncomputable def RJ (G : Array GenState) (x : Int) (tx : Tok) (news : List (Addr × Obj)) (i : Nat) (gs : Array GenState) (m : PySem.Str → Option Value) (nx : List (Addr × Obj)) : Prop :=
  gs = G ∧ nx = news ∧ ∃ (t : Tok), m "row" = some (.str (rowS x i) t)
theorem pretty_sz (n : Nat) : (pretty n).length + 2 ≤ sizeLine := by
  have := pretty_len n
  rw [sizeLine_eq]; lia
theorem nmU15 (n : Nat) : (nmU n 15).length ≤ 15 := nmU_len n 15
theorem len_words {prog : Program} {w : World} {A : Around} {E : Value → Shared → Prop} {s : Shared} {a : Addr} {l : List (PySem.Str × Tok)} {v : Int} {Q : Value → Shared → Prop} (hl : s.heap.IsList a (PySem.strValues l).toArray)
    (e : l.map (·.1) = Txt.split (pretty v.toNat) (PySem.Str.ofString ", ")) (h1 : 1 ≤ v) (h2 : v < 32768)
    (h : Q (.int (wn v : Nat) (s.toks + 1)) { s with toks := s.toks + 1 + 1 }) : wpAny (model prog w) A (call (.builtin "len") [.ref a]) Q E s := by
  have e1 : l.length = wn v := by
    have := congrArg List.length e
    rw [List.length_map, words_pretty (by lia) (by lia)] at this
    exact this
  have := nmU15 v.toNat
  refine len_strs hl (by rw [e1]; unfold wn; lia) ?_
  rw [e1]; exact h
theorem br_len (p : Int) : (br p).length = 1 := by unfold br; split <;> decide +kernel
theorem rowS_len (b : Int) : ∀ k, (rowS b k).length = k
  | 0 => by show (PySem.Str.ofString "").length = 0; decide +kernel
  | k+1 => by show (rowS b k ++ br _).length = _; rw [Str.length_append, rowS_len b k, br_len]
theorem add_br {prog : Program} {w : World} {A : Around} {E : Value → Shared → Prop} {s : Shared} {x y : PySem.Str} {t u : Tok} {Q : Value → Shared → Prop} (hx : x.length ≤ 100) (hy : y.length ≤ 100) (h : ∀ t' tk, Q (.str (x ++ y) t') { s with toks := tk }) :
    wpAny (model prog w) A (binaryOp .Add (.str x t) (.str y u)) Q E s := add_str h (by rw [sizeLine_eq]; lia)
theorem fm7 : Int.fmod 7 2 = 1 := by decide
theorem fm8 : Int.fmod 8 2 = 0 := by decide
theorem row_no1 {w : Nat} (h1 : Int.fmod 7 2 = Int.fmod (w : Int) 2) (h2 : Int.fmod 8 2 = Int.fmod (w : Int) 2) : False := by rw [fm7] at h1; rw [fm8] at h2; lia
theorem row_no2 {w : Nat} (h1 : Int.fmod 7 2 ≠ Int.fmod (w : Int) 2) (h2 : Int.fmod 8 2 ≠ Int.fmod (w : Int) 2) : False := by
  rw [fm7] at h1; rw [fm8] at h2
  rw [Int.fmod_eq_emod_of_nonneg _ (by decide)] at h1 h2
  lia
theorem br_o {p : Int} (h : Int.fmod 7 2 = Int.fmod ((wn (2*p+1) : Nat) : Int) 2) : br p = PySem.Str.ofString "(" := by
  rw [fm7, Int.fmod_eq_emod_of_nonneg _ (by decide)] at h
  unfold br; rw [if_pos (by lia)]
theorem br_c {p : Int} (h : Int.fmod 8 2 = Int.fmod ((wn (2*p+1) : Nat) : Int) 2) : br p = PySem.Str.ofString ")" := by
  rw [fm8, Int.fmod_eq_emod_of_nonneg _ (by decide)] at h
  unfold br; rw [if_neg (by lia)]
theorem row_end {g h₁ h' : Heap} {L : Addr} {m' : PySem.Str → Option Value} {G : Array GenState} {d : Drawn} {os : OsState} {tk tk' i : Nat} {x : Int} {c : PySem.Str} {tx t : Tok} {news own all : List (Addr × Obj)} {adr : List Addr}
    (F : Fr g L h' m') (N : News g L h' all) (hc : br (x + (i : Int)) = c) (hs : ∀ p ∈ news ++ own, p ∈ all) (hm : m' "row" = some (.str (rowS x i ++ c) t)) (ha : adr = news.map (·.1)) :
    TurnEnd g L (RJ G x tx news (i+1)) own adr ⟨h₁, G, d, tk, os⟩ ⟨h', G, d, tk', os⟩ := by
  refine ⟨h', tk', G, m', _, news, rfl, F, N, fun p hp => hs p (List.mem_append.mpr (.inl hp)), fun p hp => hs p (List.mem_append.mpr (.inr hp)), ha.symm, rfl, rfl, t, ?_⟩
  rw [hm, ← hc]; rfl
section
local macro_rules | `(tactic| walk_at "TurnEnd") => `(tactic| first
  | exact (row_no1 (by assumption) (by assumption)).elim
  | exact (row_no2 (by assumption) (by assumption)).elim
  | exact row_end (by assumption) (by assumption) (br_o (by assumption)) (fun p hp => .tail _ hp) rfl rfl
  | exact row_end (by assumption) (by assumption) (br_c (by assumption)) (fun p hp => .tail _ hp) rfl rfl)
local macro_rules | `(tactic| walk_at "UnrEnd") => `(tactic| ((rename News _ _ _ _ => nU); (rename Fr _ _ _ _ => fU); (refine UnrEnd.intro fU nU _ (fun p hp => hp) (fun p hp => Nat.ne_of_lt (ktn_ltOf (by assumption) p hp)) ?_)))
local macro_rules | `(tactic| walk_at "binaryOp Add str str") => `(tactic| (k_here; (refine add_br (by omega) (by decide +kernel) ?_); intro t' tk'))
local macro_rules | `(tactic| walk_at "call builtin:len") => `(tactic| (k_here; (refine len_words (News.isList (by k_asm) (by k_mem)) (by assumption) (by omega) (by omega) ?_)))
local macro_rules | `(tactic| walk_at "call builtin:str.split") => `(tactic| (k_here; (refine KSpl.split1 (by k_asm) (by k_asm) (by decide) ?_ (pretty_sz _)); intro D' l' h' k' e' a' F' N' l1; (try k_lt l1)))
local macro_rules | `(tactic| walk_at "TurnPost") => `(tactic| (dsimp only [TurnPost]))
local macro_rules | `(tactic| walk_at "mine 2") => `(tactic| ((with_reducible show wpAny _ _ (call (Value.ref 22) _) _ _ _); ((k_here; k_dflt ((refine' (c_prettyI _ _ _ _ _ _) _ _ _ _ _ _ _ _ _ _ _ _ _ _ _ _ _ _ ?k1u20 ?k2u20 ?k3u20 ?k4u20 ?k5u20 ?kKu20 ?kpu20 ?kdu20 ?kuu20 ?kRu20); (case k1u20 => k_asm); (case k2u20 => k_asm); (case k3u20 => k_asm); (case k4u20 => k_asm); (case k5u20 => k_asm); (case kKu20 => first | exact rfl | assumption); (case kpu20 => (try dsimp only); first | trivial | k_extra "pre" | assumption | omega | l_fact); (case kdu20 => ktr_room); (case kuu20 => ktr_units); (intro _ _ _ _ _); (try dsimp only); (try k_fold))))))
local macro_rules | `(tactic| walk_at "call ref") => `(tactic| (walk_at "mine 2"))
set_option maxRecDepth 100000 in
set_option maxHeartbeats 8000000 in
theorem c_row (w : World) (mean : ExcName → Option Value) (mg mb : PySem.Str → Option Value) (x y : Int) (tx ty : CbTok) :
  Cl 2 w mean mg mb 88 (fun _ => 0 ≤ x ∧ 0 ≤ y ∧ y ≤ 12 ∧ x + y ≤ 16384) [.int x tx, .int y ty] (fun t => .str (rowS x y.toNat) t) := by
  (((have kf : PySem.Challenge.rw_sn0048_01 = PySem.Challenge.rw_sn0048_01 ∧ Mine.a.heap_1_1 = Mine.a.heap_1_1 := by (w_top off; k_with_none; k_fill; exact ⟨rfl, rfl⟩)); clear kf; dsimp only [Cl, CbRet]; intros))
  rename_i news s Q E _ _ _ _ _ _ hpre _ _ hret
  obtain ⟨hx0, hy0, hy1, hxy⟩ := hpre
  ((refine wpAny_call ?_; k_dflt cell_enter))
  iterate 6 walk1
  refine for_G ?_
  iterate 12 walk1
  rename_i hr F N K0
  refine rg_loop (n := y.toNat) (RJ s.gens x tx news) rfl rfl rfl hr (small_one (by lia) (by lia) (by lia) (by lia)) (by rw [rangeSize_nat]; lia) F N ⟨rfl, rfl, _, rfl⟩ ?_ ?_
  · intro i gs m₁ news₁ h tk t own hi hadr hoff hJ F N
    obtain ⟨rfl, rfl, tr, hm1⟩ := hJ
    have hm : m₁ = fun z => if z = PySem.Str.ofString "row" then some (.str (rowS x i) tr) else m₁ z := by
      funext z
      by_cases hz : z = PySem.Str.ofString "row"
      · rw [if_pos hz, hz]; exact hm1
      · rw [if_neg hz]
    rw [hm] at F
    dsimp only at F
    have hrl := rowS_len x i
    clear hm hm1
    have hi' : (i : Int) < y := by lia
    k_steps
  · intro gs m₁ news₁ h tk hJ F N
    obtain ⟨rfl, rfl, tr, hm1⟩ := hJ
    have hm : m₁ = fun z => if z = PySem.Str.ofString "row" then some (.str (rowS x y.toNat) tr) else m₁ z := by
      funext z
      by_cases hz : z = PySem.Str.ofString "row"
      · rw [if_pos hz, hz]; exact hm1
      · rw [if_neg hz]
    rw [hm] at F
    clear hm hm1
    k_steps
    all_goals cb_end hret
end
end Mine
end

section
open PySem PySem.W PyProof.Rows
namespace Mine
noncomputable def takenB (a b lo : Int) (ns : List Int) : Bool :=
  if Int.fmod a 2 = 1 ∧ Int.fmod b 2 = 1 then (ns.getD (Int.fdiv a 2 - lo).toNat 0 == 1) && (ns.getD (Int.fdiv b 2 - lo).toNat 0 == 1)
  else if Int.fmod a 2 = 0 ∧ Int.fmod b 2 = 0 then !((ns.drop (Int.fdiv a 2 - lo).toNat).take ((Int.fdiv b 2 - lo).toNat - (Int.fdiv a 2 - lo).toNat)).any (fun x => x == 1)
  else false
section
local macro_rules | `(tactic| walk_at "subscriptTail Name BinOp ref int") => `(tactic| ((with_reducible show wpAny _ _ (subscriptTail _ _ (Value.ref _) (Value.int _ _)) _ _ _); (with_unfolding_all refine' item_list_ints (News.isList (by k_asm) (by assumption)) (by assumption) ?k3 ?k4 ?k5 ?_; (case k3 => omega); (case k4 => omega); (case k5 => omega); k_whole); intro _))
set_option maxRecDepth 100000 in
set_option maxHeartbeats 8000000 in
theorem c_taken (w : World) (mean : ExcName → Option Value) (mg mb : PySem.Str → Option Value) (a b lo : Int) (ta tb tl : CbTok) (l : Addr) (vs : List Value) (ns : List Int) (c : Nat) :
  Cl 1 w mean mg mb 116 (fun news => (l, W.listOf vs.toArray c) ∈ news ∧ IntsAre vs ns ∧ ns.length = 7 ∧ 0 ≤ a / 2 - lo ∧ a / 2 - lo ≤ 4 ∧ 0 ≤ b / 2 - lo ∧ b / 2 - lo ≤ 4) [.int a ta, .int b tb, .int lo tl, .ref l] (fun _ => .bool (takenB a b lo ns)) := by
  (((have kf : PySem.Challenge.rw_sn0048_01 = PySem.Challenge.rw_sn0048_01 ∧ Mine.a.heap_1_1 = Mine.a.heap_1_1 := by (w_top off; k_with_none; k_fill; exact ⟨rfl, rfl⟩)); clear kf; dsimp only [Cl, CbRet]; intros))
  rename_i hpre _ _ hret
  obtain ⟨hm, hi, hlen, h1, h2, h3, h4⟩ := hpre
  have d1 : Int.fdiv a 2 = a / 2 := Int.fdiv_eq_ediv_of_nonneg a (by decide)
  have d2 : Int.fdiv b 2 = b / 2 := Int.fdiv_eq_ediv_of_nonneg b (by decide)
  have e : min (Int.fdiv b 2 - lo).toNat ns.length = (Int.fdiv b 2 - lo).toNat := by lia
  ((refine wpAny_call ?_; k_dflt cell_enter))
  k_steps
  k_with "tree" => (unfold takenB; (try rw [e]); simp [*])
  all_goals (try cb_end hret)
end
end Mine
end

section
open PySem PySem.W PyProof.Rows
namespace Mine
theorem mkS_inj {l l' : List Nat} (h : mkS l = mkS l') : l = l' := by rw [← cps_mkS l, ← cps_mkS l', h]
theorem item_beq {x y : PySem.Str} {k : Nat} (hx : k < x.length) (hy : k < y.length) : (Txt.item x (k : Int) == Txt.item y (k : Int)) = decide (x.cps.toList.getD k 0 = y.cps.toList.getD k 0) := by
  rw [item_pos x k hx, item_pos y k hy]
  by_cases h : x.cps.toList.getD k 0 = y.cps.toList.getD k 0
  · rw [h]; simp
  · rw [decide_eq_false h, beq_eq_false_iff_ne]
    exact fun e => h (mkS1_inj.mp e)
theorem drop_getD (l : List Nat) (d i : Nat) : (l.drop d).getD i 0 = l.getD (d + i) 0 := by
  simp [List.getD_eq_getElem?_getD, List.getElem?_drop]
theorem item_neg_beq {l l' : List Nat} {j : Nat} (hl : l'.length = l.length) (hx : j < l.length) : (Txt.item (mkS l) (-(j : Int) - 1) == Txt.item (mkS l') (-(j : Int) - 1)) = decide (l.getD (l.length - 1 - j) 0 = l'.getD (l.length - 1 - j) 0) := by
  rw [item_neg l j (by rw [mkS_len]; exact hx), item_neg l' j (by rw [mkS_len]; lia), hl]
  by_cases h : l.getD (l.length - 1 - j) 0 = l'.getD (l.length - 1 - j) 0
  · rw [h]; simp
  · rw [decide_eq_false h, beq_eq_false_iff_ne]
    exact fun e => h (mkS1_inj.mp e)
theorem neg_beq {la lb : List Nat} {d j : Nat} {b : Bool} (h2 : lb.length = la.length) (hx : d + j < la.length) (h : (Txt.item (mkS (la.drop d)) (-(j : Int) - 1) == Txt.item (mkS (lb.drop d)) (-(j : Int) - 1)) = b) :
    decide (la.getD (la.length - 1 - j) 0 = lb.getD (la.length - 1 - j) 0) = b := by
  rw [item_neg_beq (by simp only [List.length_drop]; lia) (by simp only [List.length_drop]; lia), drop_getD, drop_getD, List.length_drop] at h
  rw [show d + (la.length - d - 1 - j) = la.length - 1 - j by lia] at h
  exact h
theorem lev_lt {la lb : List Nat} {d e k : Nat} (h : LevDE la lb d e) (hk : k ≤ d) (hq : la.getD k 0 = lb.getD k 0) : k < d := by
  rcases Nat.lt_or_ge k d with z | z
  · exact z
  · have : k = d := by lia
    subst this; exact absurd hq h.2.2.1
theorem lev_eq {la lb : List Nat} {d e k : Nat} (h : LevDE la lb d e) (hk : k ≤ d) (hq : la.getD k 0 ≠ lb.getD k 0) : k = d := by
  rcases Nat.lt_or_ge k d with z | z
  · exact absurd (h.2.1 k z) hq
  · lia
theorem lev_lt2 {la lb : List Nat} {d e k : Nat} (h : LevDE la lb d e) (hk : k ≤ e) (hq : la.getD (la.length - 1 - k) 0 = lb.getD (la.length - 1 - k) 0) : k < e := by
  rcases Nat.lt_or_ge k e with z | z
  · exact z
  · have : k = e := by lia
    subst this; exact absurd hq h.2.2.2.2
theorem lev_eq2 {la lb : List Nat} {d e k : Nat} (h : LevDE la lb d e) (hk : k ≤ e) (hq : la.getD (la.length - 1 - k) 0 ≠ lb.getD (la.length - 1 - k) 0) : k = e := by
  rcases Nat.lt_or_ge k e with z | z
  · exact absurd (h.2.2.2.1 k z) hq
  · lia
theorem mkitem_dec {l l' : List Nat} {k : Nat} {b : Bool} (hx : k < l.length) (hy : k < l'.length) (h : (Txt.item (mkS l) (k : Int) == Txt.item (mkS l') (k : Int)) = b) : decide (l.getD k 0 = l'.getD k 0) = b := by
  rw [item_beq (by rw [mkS_len]; exact hx) (by rw [mkS_len]; exact hy), cps_mkS, cps_mkS] at h; exact h
section
variable {prog : Program} {w : World} {A : Around} {E : Value → Shared → Prop} {s : Shared} {h₀ : Heap} {L a : Addr} {m₀ : PySem.Str → Option Value} {news : List (Addr × Obj)} {name : PySem.Str} {scope : Scope} {cd : Value}
theorem pre_loop {va vb x : PySem.Str} {la lb : List Nat} {d e : Nat} {t u t₀ : Tok} {Q : Flow → Shared → Prop} {k0 : Nat}
    {p1 p2 p3 p4 p5 p6 p7 p8 p9 p10 p11 p12 p13 p14 p15 p16 p17 p18 p19 p20 : Pos}
    (F : Fr h₀ L s.heap m₀) (N : News h₀ L s.heap news)
    (hva : m₀ va = some (.str (mkS la) t)) (hvb : m₀ vb = some (.str (mkS lb) u)) (hx : m₀ x = some (.int 0 t₀))
    (hk : scope.kind = .function) (hl1 : (envOf name scope L a cd).kindOf va = some .local) (hl2 : (envOf name scope L a cd).kindOf vb = some .local) (hl3 : (envOf name scope L a cd).kindOf x = some .local)
    (hd1 : (va == ("__debug__" : PySem.Str)) = false) (hd2 : (vb == ("__debug__" : PySem.Str)) = false) (hd3 : (x == ("__debug__" : PySem.Str)) = false)
    (hax : va ≠ x) (hbx : vb ≠ x) (hlen : la.length ≤ 100) (hlb : lb.length = la.length) (hde : LevDE la lb d e)
    (h : ∀ t' h' tk, Fr h₀ L h' (fun z => if z = x then some (.int (d : Int) t') else m₀ z) → News h₀ L h' news → Q .next { s with heap := h', toks := tk })
    (hE : PassesOwn (model prog w) A (envOf name scope L a cd) E := by passes_own) :
    wpAny (model prog w) A (exec (.While (.BoolOp .And [.Subscript (.Name va p1) (.Slice (some (.Name x p2)) none none p3) p4, .Subscript (.Name vb p5) (.Slice (some (.Name x p6)) none none p7) p8,
      .Compare (.Subscript (.Name va p9) (.Name x p10) p11) [.Eq] [.Subscript (.Name vb p12) (.Name x p13) p14] p15] p16)
      [.AugAssign (.Name x p17) .Add (.Constant (.int 1) k0 p18) p19] [] p20) (envOf name scope L a cd)) Q E s := by
  have hd := hde.1
  refine while_int1 x (fun n p => ∃ k : Nat, p = (k : Int) ∧ k ≤ d ∧ n = d - k) d F N hx ⟨0, rfl, Nat.zero_le _, rfl⟩ ?_ hE
  rintro n p t₁ h₁ tk ⟨k, rfl, hk1, rfl⟩ F N
  have lkx : (fun z => if z = x then some (Value.int (k : Int) t₁) else m₀ z) x = some (Value.int (k : Int) t₁) := if_pos rfl
  have lka : (fun z => if z = x then some (Value.int (k : Int) t₁) else m₀ z) va = some (Value.str (mkS la) t) := (if_neg hax).trans hva
  have lkb : (fun z => if z = x then some (Value.int (k : Int) t₁) else m₀ z) vb = some (Value.str (mkS lb) u) := (if_neg hbx).trans hvb
  refine isTrue_and ?_
  refine isTrue_plain ?_
  refine from_rule F N lka lkx (by rw [mkS_len]; lia) (by rw [mkS_len]; lia) hk hl1 hl3 hd1 hd3 ?_
  intro ta ha ka F N hla
  refine truthy_y (by rw [hla, mkS_len]; lia) (by rw [hla, mkS_len]; lia) ?_
  simp only [if_true]
  refine isTrue_and ?_
  refine isTrue_plain ?_
  refine from_rule F N lkb lkx (by rw [mkS_len]; lia) (by rw [mkS_len]; lia) hk hl2 hl3 hd2 hd3 ?_
  intro tb hb kb F N hlb
  refine truthy_y (by rw [hlb, mkS_len]; lia) (by rw [hlb, mkS_len]; lia) ?_
  simp only [if_true]
  refine isTrue_and ?_
  refine wpAny_isTrue_Compare1 ?_
  refine Subscript_ ?_
  refine ld F lka ?_ hk hl1 hd1
  refine ld F lkx ?_ hk hl3 hd3
  refine item_str (fitsSsize_of (N := 9223372036854775808) (by lia) (by lia) (Int.le_refl _)) (by rw [mkS_len]; lia) (by rw [mkS_len]; lia) (fun _ => ?_)
  refine Subscript_ ?_
  refine ld F lkb ?_ hk hl2 hd2
  refine ld F lkx ?_ hk hl3 hd3
  refine item_str (fitsSsize_of (N := 9223372036854775808) (by lia) (by lia) (Int.le_refl _)) (by rw [mkS_len]; lia) (by rw [mkS_len]; lia) (fun _ => ?_)
  refine eq_str ?_
  refine wpAny_truthy_bool ?_
  cases hb : (Txt.item (mkS la) (k : Int) == Txt.item (mkS lb) (k : Int)) with
  | false =>
    have := decide_eq_false_iff_not.mp (mkitem_dec (by lia) (by lia) hb)
    have := lev_eq hde hk1 this
    subst this
    simp only [Bool.false_eq_true, if_false]
    exact h _ _ _ F N
  | true =>
    have := decide_eq_true_eq.mp (mkitem_dec (by lia) (by lia) hb)
    have := lev_lt hde hk1 this
    simp only [if_true]
    refine isTrue_and_nil ?_
    simp only [if_true]
    refine wpAny_execs_cons ?_
    refine wpAny_AugAssign_Name ?_
    refine ldn F lkx ?_ hk hl3
    refine wpAny_Constant_int ?_
    refine iadd_int ?_
    refine stN F N ?_ hk hl3
    intro h₂ F₂ N₂
    refine wpAny_execs_nil ?_
    exact ⟨_, _, _, _, _, d - (k + 1), _, rfl, F₂, N₂, fun _ h => h, if_pos rfl, fun z hz => by simp only [if_neg hz], ⟨k + 1, by push_cast; rfl, by lia, rfl⟩, by lia⟩
theorem post_loop {va vb x : PySem.Str} {la lb : List Nat} {d e : Nat} {t u t₀ : Tok} {Q : Flow → Shared → Prop} {k0 k1 k2 k3 k4 : Nat}
    {p1 p2 p3 p4 p5 p6 p7 p8 p9 p10 p11 p12 p13 p14 p15 p16 p17 p18 p19 p20 p21 p22 p23 p24 p25 p26 p27 p28 : Pos}
    (F : Fr h₀ L s.heap m₀) (N : News h₀ L s.heap news)
    (hva : m₀ va = some (.str (mkS (la.drop d)) t)) (hvb : m₀ vb = some (.str (mkS (lb.drop d)) u)) (hx : m₀ x = some (.int 0 t₀))
    (hk : scope.kind = .function) (hl1 : (envOf name scope L a cd).kindOf va = some .local) (hl2 : (envOf name scope L a cd).kindOf vb = some .local) (hl3 : (envOf name scope L a cd).kindOf x = some .local)
    (hd1 : (va == ("__debug__" : PySem.Str)) = false) (hd2 : (vb == ("__debug__" : PySem.Str)) = false) (hd3 : (x == ("__debug__" : PySem.Str)) = false)
    (hax : va ≠ x) (hbx : vb ≠ x) (hlen : la.length ≤ 100) (hlb : lb.length = la.length) (hde : LevDE la lb d e)
    (h : ∀ t' h' tk, Fr h₀ L h' (fun z => if z = x then some (.int (-(e : Int)) t') else m₀ z) → News h₀ L h' news → Q .next { s with heap := h', toks := tk })
    (hE : PassesOwn (model prog w) A (envOf name scope L a cd) E := by passes_own) :
    wpAny (model prog w) A (exec (.While (.BoolOp .And [.Subscript (.Name va p1) (.Slice none (some (.BoolOp .Or [.Name x p2, .Constant .none k1 p3] p4)) none p5) p6,
      .Subscript (.Name vb p7) (.Slice none (some (.BoolOp .Or [.Name x p8, .Constant .none k2 p9] p10)) none p11) p12,
      .Compare (.Subscript (.Name va p13) (.BinOp (.Name x p14) .Sub (.Constant (.int 1) k3 p15) p16) p17) [.Eq] [.Subscript (.Name vb p18) (.BinOp (.Name x p19) .Sub (.Constant (.int 1) k4 p20) p21) p22] p23] p24)
      [.AugAssign (.Name x p25) .Sub (.Constant (.int 1) k0 p26) p27] [] p28) (envOf name scope L a cd)) Q E s := by
  have hd := hde.1
  have hA : (mkS (la.drop d)).length = la.length - d := by rw [mkS_len, List.length_drop]
  have hB : (mkS (lb.drop d)).length = la.length - d := by rw [mkS_len, List.length_drop, hlb]
  refine while_int1 x (fun n p => ∃ k : Nat, p = -(k : Int) ∧ k ≤ e ∧ n = e - k) e F N hx ⟨0, rfl, Nat.zero_le _, rfl⟩ ?_ hE
  rintro n p t₁ h₁ tk ⟨k, rfl, hk1, rfl⟩ F N
  have lkx : (fun z => if z = x then some (Value.int (-(k : Int)) t₁) else m₀ z) x = some (Value.int (-(k : Int)) t₁) := if_pos rfl
  have lka : (fun z => if z = x then some (Value.int (-(k : Int)) t₁) else m₀ z) va = some (Value.str (mkS (la.drop d)) t) := (if_neg hax).trans hva
  have lkb : (fun z => if z = x then some (Value.int (-(k : Int)) t₁) else m₀ z) vb = some (Value.str (mkS (lb.drop d)) u) := (if_neg hbx).trans hvb
  refine isTrue_and ?_
  refine isTrue_plain ?_
  refine cut_rule F N lka lkx (by rw [hA]; lia) (by rw [hA]; lia) hk hl1 hl3 hd1 hd3 ?_
  intro ta ha ka F N hla
  refine truthy_y (by rw [hla, hA]; lia) (by rw [hla, hA]; lia) ?_
  simp only [if_true]
  refine isTrue_and ?_
  refine isTrue_plain ?_
  refine cut_rule F N lkb lkx (by rw [hB]; lia) (by rw [hB]; lia) hk hl2 hl3 hd2 hd3 ?_
  intro tb hb kb F N hlb'
  refine truthy_y (by rw [hlb', hB]; lia) (by rw [hlb', hB]; lia) ?_
  simp only [if_true]
  refine isTrue_and ?_
  refine wpAny_isTrue_Compare1 ?_
  refine Subscript_ ?_
  refine ld F lka ?_ hk hl1 hd1
  refine wpAny_BinOp ?_
  refine ld F lkx ?_ hk hl3 hd3
  refine wpAny_Constant_int ?_
  refine sub_int ?_
  refine item_str (fitsSsize_of (N := 9223372036854775808) (by lia) (by lia) (Int.le_refl _)) (by rw [hA]; lia) (by rw [hA]; lia) (fun _ => ?_)
  refine Subscript_ ?_
  refine ld F lkb ?_ hk hl2 hd2
  refine wpAny_BinOp ?_
  refine ld F lkx ?_ hk hl3 hd3
  refine wpAny_Constant_int ?_
  refine sub_int ?_
  refine item_str (fitsSsize_of (N := 9223372036854775808) (by lia) (by lia) (Int.le_refl _)) (by rw [hB]; lia) (by rw [hB]; lia) (fun _ => ?_)
  refine eq_str ?_
  refine wpAny_truthy_bool ?_
  cases hb : (Txt.item (mkS (la.drop d)) (-(k : Int) - 1) == Txt.item (mkS (lb.drop d)) (-(k : Int) - 1)) with
  | false =>
    have := decide_eq_false_iff_not.mp (neg_beq hlb (by lia) hb)
    have := lev_eq2 hde hk1 this
    subst this
    simp only [Bool.false_eq_true, if_false]
    exact h _ _ _ F N
  | true =>
    have := decide_eq_true_eq.mp (neg_beq hlb (by lia) hb)
    have := lev_lt2 hde hk1 this
    simp only [if_true]
    refine isTrue_and_nil ?_
    simp only [if_true]
    refine wpAny_execs_cons ?_
    refine wpAny_AugAssign_Name ?_
    refine ldn F lkx ?_ hk hl3
    refine wpAny_Constant_int ?_
    refine isub_int ?_
    refine stN F N ?_ hk hl3
    intro h₂ F₂ N₂
    refine wpAny_execs_nil ?_
    exact ⟨_, _, _, _, _, e - (k + 1), _, rfl, F₂, N₂, fun _ h => h, if_pos rfl, fun z hz => by simp only [if_neg hz], ⟨k + 1, by push_cast; lia, by lia, rfl⟩, by lia⟩
end
end Mine
end

section
open PySem PySem.W PyProof.Rows PySem.Spec PySem.Calls
namespace Mine
theorem midL_len (la : List Nat) (d e : Nat) : (midL la d e).length = la.length - d - e := by
  simp only [midL, List.length_take, List.length_drop]; lia
theorem midL_eq (la : List Nat) (d e : Nat) : (la.drop d).take ((la.drop d).length - e) = midL la d e := by
  rw [List.length_drop, midL]
theorem midL_mem {la : List Nat} {d e c : Nat} (h : c ∈ midL la d e) : c ∈ la := List.mem_of_mem_drop (List.mem_of_mem_take h)
theorem mset {m : PySem.Str → Option Value} {x : PySem.Str} {v : Value} (h : m x = some v) : m = fun z => if z = x then some v else m z := by
  funext z
  by_cases hz : z = x
  · rw [if_pos hz, hz]; exact h
  · rw [if_neg hz]
theorem Fr_as {g h : Heap} {L : Addr} {m m' : PySem.Str → Option Value} (F : Fr g L h m) (e : m = m') : Fr g L h m' := e ▸ F
theorem msetF {g h : Heap} {L : Addr} {m m₁ : PySem.Str → Option Value} {x : PySem.Str} {v : Value} (F : Fr g L h m) (e : m = fun z => m₁ z) (hx : m₁ x = some v) : Fr g L h (fun z => m₁ z) := e ▸ F
theorem ints_of : ∀ (vs : List Value) (a c : Int) (n : Nat), vs.length = n → (∀ (j : Nat) (v : Value), vs[j]? = some v → ∃ t, v = .int (a + j * c) t) → IntsAre vs ((List.range n).map fun (i : Nat) => a + (i : Int) * c)
  | [], a, c, n, e, _ => by subst e; exact IntsAre.nil
  | v :: r, a, c, n, e, h => by
    subst e
    rw [List.length_cons, List.range_succ_eq_map, List.map_cons, List.map_map]
    obtain ⟨t, ht⟩ := h 0 v rfl
    subst ht
    refine IntsAre.cons _ _ ?_
    have := ints_of r (a + c) c r.length rfl fun j v hj => by
      obtain ⟨t', ht'⟩ := h (j + 1) v hj
      refine ⟨t', ht'.trans ?_⟩
      congr 1
      push_cast
      rw [Int.add_mul]; lia
    have e2 : ((List.range r.length).map fun (i : Nat) => a + c + (i : Int) * c) = (List.range r.length).map ((fun (i : Nat) => a + (i : Int) * c) ∘ Nat.succ) := by
      apply List.map_congr_left
      intro i _
      simp only [Function.comp, Nat.succ_eq_add_one]
      push_cast
      rw [Int.add_mul]; lia
    rw [← e2]; exact this
section
variable {prog : Program} {w : World} {A : Around} {E : Value → Shared → Prop} {s : Shared} {h₀ : Heap} {L r : Addr} {m : PySem.Str → Option Value} {news : List (Addr × Obj)} {a b c : Int} {t₀ u₀ v₀ : Tok} {n : Nat} {Q : Value → Shared → Prop}
theorem lr_rule (hh : A.handled = none) (F : Fr h₀ L s.heap m) (N : News h₀ L s.heap news) (hr : IsRange s.heap r a b c t₀ u₀ v₀) (hsmall : Builtin.Range.small a b c = true) (hn : Builtin.Range.rangeSize a b c = (n : Int)) (hz : n ≤ 2 ^ 24)
    (h : ∀ D us c' h' tk, Fr h₀ L h' m → News h₀ L h' ((D, listOf (List.toArray us) c') :: news) → (∀ p ∈ news, p.1 < D) → IntsAre us ((List.range n).map fun (i : Nat) => a + (i : Int) * c) → Q (.ref D) { s with heap := h', toks := tk }) :
    wpAny (model prog w) A (call (.type "list") [.ref r]) Q E s := by
  refine call_list_range hh hr hsmall hn hz fun h' tk acc c' hk hD hI => ?_
  have hD' : h'.get? s.heap.objs.size = some (listOf (List.toArray acc.toList) c') := by
    rw [Array.toArray_toList]
    exact hD
  exact h _ acc.toList c' h' tk (F.keeps hk) (news_pushed F N hk hD' rfl) (fun p hp => Heap.lt_size (N p hp).1) (ints_of _ _ _ _ (by rw [Array.length_toList]; exact hI.1) fun j v hj => hI.2 j v (by rw [← hj, Array.getElem?_toList]))
end
theorem te_cons {g h₁ h' : Heap} {L D : Addr} {J : Array GenState → (PySem.Str → Option Value) → List (Addr × Obj) → Prop} {o : Obj} {rest own : List (Addr × Obj)} {m' : PySem.Str → Option Value} {gs gs' : Array GenState} {d : Drawn} {os : OsState} {tk tk' : Nat} {adr : List Addr}
    (F : Fr g L h' m') (N : News g L h' ((D, o) :: (rest ++ own))) (ha : ((D, o) :: rest).map (·.1) = adr) (hJ : J gs' m' ((D, o) :: rest)) :
    TurnEnd g L J own adr ⟨h₁, gs, d, tk, os⟩ ⟨h', gs', d, tk', os⟩ :=
  ⟨_, _, _, _, _, (D, o) :: rest, rfl, F, N, fun p hp => by
    rcases List.mem_cons.mp hp with rfl | hp
    · exact .head _
    · exact .tail _ (List.mem_append.mpr (.inl hp)), fun p hp => .tail _ (List.mem_append.mpr (.inr hp)), ha, hJ⟩
theorem small2 : ∀ m, m < 7 → Builtin.Range.small 2 (2 * ((m : Nat) + 1 : Int)) 2 = true := by decide
theorem size2 : ∀ m, m < 7 → Builtin.Range.rangeSize 2 (2 * ((m : Nat) + 1 : Int)) 2 = (m : Int) := by decide
theorem low_par : (Txt.lower (mkS [40]) = Txt.lower (mkS [41])) = False ∧ (Txt.lower (mkS [41]) = Txt.lower (mkS [40])) = False := by
  constructor <;> (simp only [eq_iff_iff, iff_false]; decide +kernel)
theorem cost_eq {A B : List Nat} {i j : Nat} (hi : i < A.length) (hj : j < B.length) (hA : ∀ c ∈ A, c = 40 ∨ c = 41) (hB : ∀ c ∈ B, c = 40 ∨ c = 41) :
    (if Txt.item (mkS B) (j : Int) = Txt.item (mkS A) (i : Int) then (0 : Int) else if Txt.lower (Txt.item (mkS B) (j : Int)) = Txt.lower (Txt.item (mkS A) (i : Int)) then 1 else 2) = costN (B.getD j 0) (A.getD i 0) := by
  rw [item_pos (mkS A) _ (by rw [mkS_len]; exact hi), item_pos (mkS B) _ (by rw [mkS_len]; exact hj), cps_mkS, cps_mkS]
  have e1 : A.getD i 0 = A[i] := by simp [hi]
  have e2 : B.getD j 0 = B[j] := by simp [hj]
  have h1 := hA _ (List.getElem_mem hi)
  have h2 := hB _ (List.getElem_mem hj)
  rw [e1, e2]
  unfold costN
  by_cases h : B[j] = A[i]
  · rw [h]; simp
  · rw [if_neg (fun z => h (mkS1_inj.mp z)), if_neg h]
    rw [if_neg]
    intro z
    rcases h1 with h1 | h1 <;> rcases h2 with h2 | h2 <;> rw [h1, h2] at z
    · exact h (h2.trans h1.symm)
    · rw [low_par.2] at z; exact z
    · rw [low_par.1] at z; exact z
    · exact h (h2.trans h1.symm)
theorem dpO_succ (A B : List Nat) (mx : Int) (f bi : Nat) (row : List Int) (res : Int) : dpO A B mx (f+1) bi row res =
    if (innerF A (B.getD bi 0) ((bi : Int) * 2, (bi : Int) * 2, bigM, row) A.length).2.2.1 > mx then mx + 1 else
      dpO A B mx f (bi+1) (innerF A (B.getD bi 0) ((bi : Int) * 2, (bi : Int) * 2, bigM, row) A.length).2.2.2 (innerF A (B.getD bi 0) ((bi : Int) * 2, (bi : Int) * 2, bigM, row) A.length).2.1 := rfl
theorem innerF_succ (A : List Nat) (bc : Nat) (st : DSt) (k : Nat) : innerF A bc st (k+1) = stepI A bc (innerF A bc st k) k := rfl
theorem innerF_len (A : List Nat) (bc : Nat) (st : DSt) : ∀ k, (innerF A bc st k).2.2.2.length = st.2.2.2.length
  | 0 => rfl
  | k + 1 => by
    show ((innerF A bc st k).2.2.2.set k _).length = _
    rw [List.length_set, innerF_len A bc st k]
end Mine
end

section
open PySem PySem.W PyProof.Rows
namespace Mine
section
set_option maxRecDepth 100000 in
set_option maxHeartbeats 8000000 in
theorem c_subst (w : World) (mean : ExcName → Option Value) (mg mb : PySem.Str → Option Value) (a b : PySem.Str) (ta tb : CbTok) :
  Cl 1 w mean mg mb 67 (fun _ => a.length = 1 ∧ b.length = 1) [.str a ta, .str b tb] (fun t => .int (if a = b then 0 else if Txt.lower a = Txt.lower b then 1 else 2) t) := by
  (((have kf : PySem.Challenge.rw_sn0048_01 = PySem.Challenge.rw_sn0048_01 ∧ Mine.a.heap_1_1 = Mine.a.heap_1_1 := by (w_top off; k_with_none; k_fill; exact ⟨rfl, rfl⟩)); clear kf; dsimp only [Cl, CbRet]; intros))
  rename_i hpre _ _ hret
  obtain ⟨h1, h2⟩ := hpre
  ((refine wpAny_call ?_; k_dflt cell_enter))
  k_steps
  all_goals cb_end hret
end
noncomputable def LevPre (la lb : List Nat) (mx R : Int) : Prop :=
  la.length ≤ 6 ∧ lb.length = la.length ∧ 0 ≤ mx ∧ mx ≤ 6 ∧ (∀ c ∈ la, c = 40 ∨ c = 41) ∧ (∀ c ∈ lb, c = 40 ∨ c = 41) ∧ (la = lb → R = 0) ∧
  ∀ d e, LevDE la lb d e → dpF (midL la d e) (midL lb d e) mx = R
theorem c_subst2 (w : World) (mean : ExcName → Option Value) (mg mb : PySem.Str → Option Value) (A B : List Nat) (i j : Nat) (ta tb : CbTok) :
  Cl 1 w mean mg mb 67 (fun _ => i < A.length ∧ j < B.length ∧ (∀ c ∈ A, c = 40 ∨ c = 41) ∧ (∀ c ∈ B, c = 40 ∨ c = 41)) [.str (Txt.item (mkS B) (j : Int)) ta, .str (Txt.item (mkS A) (i : Int)) tb] (fun t => .int (costN (B.getD j 0) (A.getD i 0)) t) := by
  intro dp un gd cn cs a ccd cl outer A₀ base h₀ L m news s Q E h1 h2 h3 h4 h5 h6 hp
  obtain ⟨hi, hj, hA, hB⟩ := hp
  have := c_subst w mean mg mb (Txt.item (mkS B) (j : Int)) (Txt.item (mkS A) (i : Int)) ta tb dp un gd cn cs a ccd cl outer A₀ base h₀ L m news s Q E h1 h2 h3 h4 h5 h6 ⟨by rw [item_pos (mkS B) j (by rw [mkS_len]; exact hj), mkS_len]; rfl, by rw [item_pos (mkS A) i (by rw [mkS_len]; exact hi), mkS_len]; rfl⟩
  rw [cost_eq hi hj hA hB] at this
  exact this
noncomputable def OJ (g₀ : Array GenState) (A B : List Nat) (mx R : Int) (tA tB tM : Tok) (D : Addr) (news : List (Addr × Obj)) (i : Nat) (gs : Array GenState) (m : PySem.Str → Option Value) (nx : List (Addr × Obj)) : Prop :=
  gs = g₀ ∧ m (PySem.Str.ofString "a") = some (.str (mkS A) tA) ∧ m (PySem.Str.ofString "b") = some (.str (mkS B) tB) ∧ m (PySem.Str.ofString "max_cost") = some (.int mx tM) ∧ m (PySem.Str.ofString "row") = some (.ref D) ∧
  ∃ res t vs c row, m (PySem.Str.ofString "result") = some (.int res t) ∧ nx = (D, listOf (List.toArray vs) c) :: news ∧ IntsAre vs row ∧ row.length = A.length ∧ dpO A B mx (B.length - i) i row res = R
noncomputable def IJ (g₀ : Array GenState) (A : List Nat) (mx bi bc : Int) (bcN : Nat) (st : DSt) (bch : PySem.Str) (tA tM : Tok) (D : Addr) (news : List (Addr × Obj)) (B : List Nat) (tB : Tok) (i : Nat) (gs : Array GenState) (m : PySem.Str → Option Value) (nx : List (Addr × Obj)) : Prop :=
  gs = g₀ ∧ m (PySem.Str.ofString "a") = some (.str (mkS A) tA) ∧ m (PySem.Str.ofString "b") = some (.str (mkS B) tB) ∧ m (PySem.Str.ofString "max_cost") = some (.int mx tM) ∧ m (PySem.Str.ofString "row") = some (.ref D) ∧
  ∃ t1 t2 t3 t4 vs c, m (PySem.Str.ofString "bchar") = some (.str bch t4) ∧ m (PySem.Str.ofString "distance") = some (.int (innerF A bcN st i).1 t1) ∧ m (PySem.Str.ofString "result") = some (.int (innerF A bcN st i).2.1 t2) ∧ m (PySem.Str.ofString "minimum") = some (.int (innerF A bcN st i).2.2.1 t3) ∧ 
    nx = (D, listOf (List.toArray vs) c) :: news ∧ IntsAre vs (innerF A bcN st i).2.2.2
section
local macro_rules | `(tactic| walk_at "truthy str") => `(tactic| (refine truthy_y (by omega) (by omega) ?_))
local macro_rules | `(tactic| walk_at "eval Subscript") => `(tactic| (k_here; (with_reducible show wpAny _ _ (eval (Expr.Subscript (Expr.Name _ _) (Expr.Slice (some (Expr.Name _ _)) none none _) _) _) _ _ _); (k_dflt (refine' from_rule ?F ?N ?hv ?hp ?a ?b ?e1 ?e2 ?e3 ?d1 ?d2 ?_; (case F => k_asm); (case N => k_asm); (case hv => exact rfl); (case hp => exact rfl); (case a => omega); (case b => omega); (case e1 => exact rfl); (case e2 => exact rfl); (case e3 => exact rfl); (case d1 => decide); (case d2 => decide))); intro t' h' k' F' N' hl'))
local macro_rules | `(tactic| walk_at "eval Subscript") => `(tactic| (k_here; (with_reducible show wpAny _ _ (eval (Expr.Subscript (Expr.Name _ _) (Expr.Slice none (some (Expr.BoolOp _ _ _)) none _) _) _) _ _ _); (k_dflt (refine' cut_rule ?F ?N ?hv ?hp ?a ?b ?e1 ?e2 ?e3 ?d1 ?d2 ?_; (case F => k_asm); (case N => k_asm); (case hv => exact rfl); (case hp => exact rfl); (case a => omega); (case b => omega); (case e1 => exact rfl); (case e2 => exact rfl); (case e3 => exact rfl); (case d1 => decide); (case d2 => decide))); intro t' h' k' F' N' hl'))
local macro_rules | `(tactic| walk_at "exec While BoolOp cons nil") => `(tactic| (refine StopW.mk ?_))
local macro_rules | `(tactic| walk_at "mine 3") => `(tactic| ((k_here; k_dflt ((refine' (c_subst2 _ _ _ _ _ _ _ _ _ _) _ _ _ _ _ _ _ _ _ _ _ _ _ _ _ _ _ _ ?k1u27 ?k2u27 ?k3u27 ?k4u27 ?k5u27 ?kKu27 ?kpu27 ?kdu27 ?kuu27 ?kRu27); (case k1u27 => k_asm); (case k2u27 => k_asm); (case k3u27 => k_asm); (case k4u27 => k_asm); (case k5u27 => k_asm); (case kKu27 => first | exact rfl | assumption); (case kpu27 => (try dsimp only); first | trivial | k_extra "pre" | assumption | omega | l_fact); (case kdu27 => ktr_room); (case kuu27 => ktr_units); (intro _ _ _ _ _); (try dsimp only); (try k_fold)))))
local macro_rules | `(tactic| walk_at "call ref") => `(tactic| (walk_at "mine 3"))
local macro_rules | `(tactic| k_all) => `(tactic| assumption)
local macro_rules | `(tactic| walk_at "TurnPost") => `(tactic| (dsimp only [TurnPost]))
local macro_rules | `(tactic| walk_at "exec For Name Call cons nil") => `(tactic| (refine StopW.mk ?_))
local macro_rules | `(tactic| walk_at "exec If BoolOp cons nil") => `(tactic| (refine StopW.mk ?_))
local macro_rules | `(tactic| walk_at "exec If BoolOp") => `(tactic| (refine StopW.mk ?_))
set_option maxRecDepth 100000 in
set_option maxHeartbeats 12000000 in
theorem c_lev (w : World) (mean : ExcName → Option Value) (mg mb : PySem.Str → Option Value) (la lb : List Nat) (mx R : Int) (ta tb tm : CbTok) :
  Cl 3 w mean mg mb 74 (fun _ => LevPre la lb mx R) [.str (mkS la) ta, .str (mkS lb) tb, .int mx tm] (fun t => .int R t) := by
  (((have kf : PySem.Challenge.rw_sn0048_01 = PySem.Challenge.rw_sn0048_01 ∧ Mine.a.heap_1_1 = Mine.a.heap_1_1 := by (w_top off; k_with_none; k_fill; exact ⟨rfl, rfl⟩)); clear kf; dsimp only [Cl, CbRet]; intros))
  rename_i news s Q E _ _ _ _ _ _ hpre _ _ hret
  obtain ⟨h1, h2, h3, h4, hca, hcb, hR0, hR⟩ := hpre
  by_cases hab : la = lb
  · have hR1 := hR0 hab
    subst hab hR1
    have hab' : (mkS la == mkS la) = true := beq_self_eq_true _
    ((refine wpAny_call ?_; k_dflt cell_enter))
    k_steps
    cb_end hret
  have hla := mkS_len la
  have hlb := mkS_len lb
  obtain ⟨d, e, hde⟩ := levDE_ex la lb h2 hab
  have hRR := hR d e hde
  clear hR hR0
  have de1 := hde.1
  have hab' : (mkS la == mkS lb) = false := by rw [beq_eq_false_iff_ne]; exact fun z => hab (mkS_inj z)
  ((refine wpAny_call ?_; k_dflt cell_enter))
  k_steps
  unfold StopW
  rename_i F N
  refine pre_loop F N rfl rfl rfl rfl rfl rfl rfl (by decide) (by decide) (by decide) (by decide) (by decide) (by lia) h2 hde ?_
  intro t1 h1' k1 F N
  k_steps
  unfold StopW
  rename_i F N
  refine post_loop F N rfl rfl rfl rfl rfl rfl rfl (by decide) (by decide) (by decide) (by decide) (by decide) (by lia) h2 hde ?_
  intro t1 h1' k1 F N
  k_steps
  unfold StopW
  rename Fr _ _ _ _ => F
  rename News _ _ _ _ => N
  have hA : (mkS (midL la d e)).length = la.length - d - e := by rw [mkS_len, midL_len]
  have hB : (mkS (midL lb d e)).length = la.length - d - e := by rw [mkS_len, midL_len, h2]
  have hcA : ∀ c ∈ midL la d e, c = 40 ∨ c = 41 := fun c h => hca c (midL_mem h)
  have hcB : ∀ c ∈ midL lb d e, c = 40 ∨ c = 41 := fun c h => hcb c (midL_mem h)
  rw [midL_eq, midL_eq] at F
  have hm0 : la.length - d - e ≤ 6 := by lia
  have hm1 : 1 ≤ la.length - d - e := by lia
  clear hde hab hab' h1 h2 hca hcb hla hlb
  generalize la.length - d - e = m at *
  generalize midL la d e = A at *
  generalize midL lb d e = B at *
  refine wpAny_If ?_
  k_steps
  unfold StopW
  refine wpAny_If ?_
  k_steps
  rename_i hr F N _
  have hr' := hr
  rw [hA] at hr'
  refine lr_rule rfl F N hr' (small2 m (by lia)) (size2 m (by lia)) (by lia) ?_
  intro D us c' h' tk F N hD hI
  have hI' : IntsAre us (row0 A.length) := by rw [mkS_len] at hA; rw [hA]; exact hI
  clear hr hr' hI
  k_steps
  unfold StopW
  rename Fr _ _ _ _ => F
  rename News _ _ _ _ => N
  with_unfolding_all refine for_G ?_
  k_steps
  rename_i hr F N _
  have hbl : B.length = m := by rw [← hB, mkS_len]
  have hal : A.length = m := by rw [← hA, mkS_len]
  refine rg_loop (n := B.length) (OJ s.gens A B mx R _ _ _ D news) rfl rfl rfl hr (small_one (by lia) (by lia) (by lia) (by lia)) (by rw [rangeSize_nat]; lia) F N ⟨rfl, rfl, rfl, rfl, rfl, 0, _, us, c', row0 A.length, rfl, rfl, hI', by simp [row0], hRR⟩ ?_ ?_
  · clear hI' hr hRR F N
    intro i gs m₁ news₁ h tk t own hi hadr hoff hJ F N
    obtain ⟨rfl, ha, hb, hmx, hrow, res, tr, vs, c, row, hres, rfl, hI, hlen, hdp⟩ := hJ
    rw [mset ha, mset hb, mset hmx, mset hrow] at F
    dsimp only at F
    rw [Int.zero_add] at F
    rw [show B.length - i = (B.length - i - 1) + 1 by lia, dpO_succ] at hdp
    clear ha hb hmx hrow hres
    k_steps
    unfold StopW
    with_unfolding_all refine for_G ?_
    k_steps
    rename_i hr F N _
    refine rg_loop (n := A.length) (IJ s.gens A mx i 0 (B.getD i 0) ((i : Int) * 2, (i : Int) * 2, bigM, row) (Txt.item (mkS B) (i : Int)) _ _ D (news ++ own) B _) rfl rfl rfl hr (small_one (by lia) (by lia) (by lia) (by lia)) (by rw [rangeSize_nat]; lia) F N ⟨rfl, rfl, rfl, rfl, rfl, _, _, _, _, vs, c, rfl, rfl, rfl, rfl, rfl, hI⟩ ?_ ?_
    · clear hdp hr F N
      intro k gs m₂ news₂ h tk t own2 hk hadr2 hoff2 hJ F N
      obtain ⟨rfl, ha, hb, hmx, hrow, t1, t2, t3, t4, vs', c'', hbc, hdi, hres, hmi, rfl, hI2⟩ := hJ
      rw [mset ha, mset hb, mset hmx, mset hrow, mset hbc, mset hdi, mset hres, mset hmi] at F
      dsimp only at F
      rw [Int.zero_add] at F
      have hl2 := innerF_len A (B.getD i 0) ((i : Int) * 2, (i : Int) * 2, bigM, row) k
      clear ha hb hmx hrow hbc hdi hres hmi
      obtain ⟨st, hst⟩ : ∃ st, innerF A (B.getD i 0) ((i : Int) * 2, (i : Int) * 2, bigM, row) k = st := ⟨_, rfl⟩
      rw [hst] at F hl2 hI2
      obtain ⟨dd, rr, mm, row'⟩ := st
      dsimp only at F hl2 hI2
      rw [hlen] at hl2
      rw [List.cons_append] at N
      have hne : ∀ p ∈ news ++ own ++ own2, p.1 ≠ D := by
        intro p hp
        rcases List.mem_append.mp hp with hp | hp
        · rcases List.mem_append.mp hp with hp | hp
          · exact Nat.ne_of_lt (hD p hp)
          · exact fun e => hoff p hp D (by simp) e
        · exact fun e => hoff2 p hp D (by simp) e
      k_steps
      all_goals
        rename Fr _ _ _ _ => F'
        rename News _ _ _ _ => N'
        rename IntsAre (List.set _ _ _) _ => hI'
        have e := innerF_succ A (B.getD i 0) ((i : Int) * 2, (i : Int) * 2, bigM, row) k
        rw [hst] at e
        unfold IJ
        refine te_cons F' N' rfl ?_
        rw [e]
      · exact ⟨rfl, rfl, rfl, rfl, rfl, _, _, _, _, _, _, rfl, rfl, rfl, congrArg (fun z => some (Value.int z _)) (if_pos (by assumption)).symm, rfl, hI'⟩
      · exact ⟨rfl, rfl, rfl, rfl, rfl, _, _, _, _, _, _, rfl, rfl, rfl, congrArg (fun z => some (Value.int z _)) (if_neg (by assumption)).symm, rfl, hI'⟩
    · clear hr F N
      intro gs m₂ news₂ h tk hJ F N
      obtain ⟨rfl, ha, hb, hmx, hrow, t1, t2, t3, t4, vs', c'', hbc, hdi, hres, hmi, rfl, hI2⟩ := hJ
      rw [mset ha, mset hb, mset hmx, mset hrow, mset hbc, mset hdi, mset hres, mset hmi] at F
      dsimp only at F
      have hl2 := innerF_len A (B.getD i 0) ((i : Int) * 2, (i : Int) * 2, bigM, row) A.length
      clear ha hb hmx hrow hbc hdi hres hmi
      generalize innerF A (B.getD i 0) ((i : Int) * 2, (i : Int) * 2, bigM, row) A.length = st at *
      obtain ⟨dd, rr, mm, row'⟩ := st
      dsimp only at F hl2 hI2 hdp
      rw [hlen] at hl2
      k_steps
      · rw [if_pos (by assumption)] at hdp
        subst hdp
        rename Fr _ _ _ _ => F'
        rename News _ _ _ _ => N'
        exact hret _ _ _ F' (cb_drop N' (fun p hp => .tail _ (List.mem_append.mpr (.inl hp))))
      · rw [if_neg (by assumption)] at hdp
        rename Fr _ _ _ _ => F'
        rename News _ _ _ _ => N'
        exact te_cons F' N' rfl ⟨rfl, rfl, rfl, rfl, rfl, rr, _, vs', c'', row', rfl, rfl, hI2, hl2, by rw [show B.length - (i + 1) = B.length - i - 1 by lia]; exact hdp⟩
  · clear hI' hr hRR F N
    intro gs m₁ news₁ h tk hJ F N
    obtain ⟨rfl, ha, hb, hmx, hrow, res, tr, vs, c, row, hres, rfl, hI, hlen, hdp⟩ := hJ
    rw [Nat.sub_self] at hdp
    have hdp' : res = R := hdp
    subst hdp'
    rw [mset hres] at F
    clear ha hb hmx hrow hres
    k_steps
    rename Fr _ _ _ _ => F'
    rename News _ _ _ _ => N'
    exact hret _ _ _ F' (cb_drop N' (fun p hp => .tail _ hp))
end
end Mine
end

section
open PySem PySem.W PyProof.Rows PySem.Spec PySem.Calls
namespace Mine
section
variable {M : Model} {A : Around} {R : GenEnd} {Y : Protocol} {n : Nat} {s₀ : Shared} {c : Code} {fs : List Frame} {s : Shared} {env : Env}
  {K : Flow → Sem Fin} {H : Value → Sem Fin} {gd : Bool → Bool} {lv : List Value → List Value}
theorem sg_For {target iter : Expr} {body orelse : List Stmt} {pos : Pos}
    (h : wpAny M (A.over c fs) (eval iter env) (fun x s₁ => wpAny M (A.over c fs) (pyIter x) (fun it s₂ => ∀ p, Seg M A R Y n s₀ (.forLoop target it body orelse env) (M.den (.forLoop target it body orelse env))
      (.ret (fun r => ((match r with | .ok f => (.pure f : Sem Flow) | .error e => .raise e).onRaise fun (x : Value) => do
        if (← field x 1) == Value.none then unsupported "frame.own-activation:exception-without-traceback"
        setFlight x env.frame).wrap K H gd lv) none (gd false) (lv []) c p [] :: fs) s₂)
       (fun x s' => Seg M A R Y n s₀ c (H x) fs s') s₁) (fun x s' => Seg M A R Y n s₀ c (H x) fs s') s)
    (hs : ∀ x, foldedSetIterable iter env x = pure x := by intro _; rfl) :
    Seg M A R Y n s₀ c ((exec (.For target iter body orelse pos) env).wrap K H gd lv) fs s := by
  rw [exec_For]
  refine seg_bind_wrap (wpAny_standAt ?_)
  refine seg_bind_wrap (wpAny_mono h (fun x s₁ h₁ => ?_) fun _ _ e => e)
  refine seg_bind_wrap (wpAny_of_eq (hs x) ?_)
  refine seg_bind_wrap (wpAny_standAt ?_)
  refine seg_bind_wrap (wpAny_holding (wpAny_mono h₁ (fun it s₂ h₂ => ?_) fun _ _ e => e))
  exact seg_call h₂
theorem sg_stmt {st : Stmt} (h : wpAny M (A.over c fs) (exec st env) (fun f s' => Seg M A R Y n s₀ c (K f) fs s') (fun x s' => Seg M A R Y n s₀ c (H x) fs s') s) :
    Seg M A R Y n s₀ c ((exec st env).wrap K H gd lv) fs s := seg_wrap h
theorem sg_If {test : Expr} {body orelse : List Stmt} {pos : Pos}
    (h : wpAny M (A.over c fs) (isTrue test env (eval test env)) (fun b s' => if b = true then Seg M A R Y n s₀ c ((execs body env).wrap K H gd lv) fs s' else Seg M A R Y n s₀ c ((execs orelse env).wrap K H gd lv) fs s')
      (fun x s' => Seg M A R Y n s₀ c (H x) fs s') s) :
    Seg M A R Y n s₀ c ((exec (.If test body orelse pos) env).wrap K H gd lv) fs s := by
  rw [arm_exec_If]
  refine seg_bind_wrap (wpAny_standAt ?_)
  refine seg_bind_wrap (wpAny_mono h (fun b s' hb => ?_) fun _ _ e => e)
  cases b with
  | true => simpa using hb
  | false => simpa using hb
end
section
variable {prog : Program} {w : World} {A : Around} {R : GenEnd} {Y : Protocol} {n : Nat} {s₀ : Shared} {fs : List Frame} {s : Shared} {env : Env}
theorem sg_turn {target : Expr} {it : Value} {body orelse : List Stmt}
    (h : wpAny (model prog w) (A.over (.forLoop target it body orelse env) fs) (pyNext it) (fun r s₁ => match r with
        | none => Seg (model prog w) A R Y n s₀ (.block orelse env) ((model prog w).den (.block orelse env)) fs s₁
        | some v => wpAny (model prog w) (A.over (.forLoop target it body orelse env) fs) (letOwnedTupleGo target it v) (fun _ s₁' => wpAny (model prog w) (A.over (.forLoop target it body orelse env) fs) (assign target env v) (fun _ s₂ =>
            Seg (model prog w) A R Y n s₀ (.forLoop target it body orelse env) ((execs body env).wrap (fun f => match f with
              | .next | .cont => .pure (.again (.forLoop target it body orelse env))
              | .brk => .pure (.done .next)
              | .ret v => .pure (.done (.ret v))) (fun e => (do noteFrame e env; theTreesLotGoes e : Sem Unit).bind (fun _ => .raise e)) id id) fs s₂)
            (fun _ _ => False) s₁') (fun _ _ => False) s₁) (fun _ _ => False) s) :
    Seg (model prog w) A R Y n s₀ (.forLoop target it body orelse env) ((model prog w).den (.forLoop target it body orelse env)) fs s := by
  show Seg _ A R Y n s₀ _ ((forTurn target it body orelse env).onRaise (fun x => do noteFrame x env; theTreesLotGoes x)) fs s
  rw [Sem.onRaise_eq_wrap]
  unfold forTurn
  refine seg_bind_wrap (wpAny_standAt ?_)
  refine seg_bind_wrap (wpAny_onRaise (wpAny_mono h (fun r s₁ h₁ => ?_) fun _ _ x => x.elim))
  cases r with
  | none => exact seg_again rfl h₁
  | some v =>
    refine seg_bind_wrap (wpAny_mono h₁ (fun _ s₁' h₁' => ?_) fun _ _ x => x.elim)
    refine seg_bind_wrap (wpAny_mono h₁' (fun _ s₂ h₂ => ?_) fun _ _ x => x.elim)
    rw [Sem.bind_eq_wrap', Sem.wrap_wrap]
    have e := Sem.wrap_congr (execs body env) id id (K := fun f => match f with
              | .next | .cont => (.pure (.again (.forLoop target it body orelse env)) : Sem Fin)
              | .brk => .pure (.done .next)
              | .ret v => .pure (.done (.ret v))) (K' := fun f => Sem.wrap .pure (fun e => (do noteFrame e env; theTreesLotGoes e : Sem Unit).bind fun _ => .raise e) id id (match f with
              | .next | .cont => again (.forLoop target it body orelse env)
              | .brk => pure (.done .next)
              | .ret v => pure (.done (.ret v)))) (H := fun e => (do noteFrame e env; theTreesLotGoes e : Sem Unit).bind (fun _ => .raise e)) (H' := fun e => Sem.wrap .pure (fun e => (do noteFrame e env; theTreesLotGoes e : Sem Unit).bind fun _ => .raise e) id id (.raise e)) (fun f => by cases f <;> rfl) (fun e => rfl)
    rw [e] at h₂
    exact h₂
end

noncomputable def escL : List Nat → Nat → Bool → List (Nat × List Nat)
  | [], i, esc => if esc then [(i - 1, [92])] else []
  | c :: cs, i, esc => if esc then (i, [92, c]) :: escL cs (i+1) false else if c = 92 then escL cs (i+1) true else (i, [c]) :: escL cs (i+1) false
noncomputable def eproto (g₀ : Heap) (C e it : Addr) (items : List (Nat × List Nat)) : Protocol := fun m s₀ v s kap =>
  (∃ T p c tp tc, items[items.length - 1 - m]? = some (p, c) ∧ v = .ref T ∧ s.heap.IsTuple T #[.int ((p : Nat) : Int) tp, .str (mkS c) tc]) ∧ GenSince C [e, it] s₀ s ∧
    ∀ s'' : Shared, (∀ b ∈ [C, e, it], ∀ o, s.heap.get? b = some o → s''.heap.get? b = some o) → (∀ b o, g₀.get? b = some o → s''.heap.get? b = some o) → kap (.send .none) s''
noncomputable def eend (C e it : Addr) : GenEnd := fun n s₀ r s₁ => r = .ok (.ret .none) ∧ n = 0 ∧ GenSince C [e, it] s₀ s₁
theorem drop_next {α : Type} {items : List α} {N : Nat} {a : α} {rest : List α} (h : items.drop (items.length - (N + 1)) = a :: rest) (hl : rest.length = N) :
    items[items.length - 1 - N]? = some a ∧ items.drop (items.length - N) = rest := by
  have h1 := congrArg List.length h
  simp only [List.length_drop, List.length_cons] at h1
  have h2 : items.length - (N + 1) + (N + 1) = items.length := by lia
  constructor
  · have := congrArg (fun l => l[0]?) h
    simp only [List.getElem?_drop, List.getElem?_cons_zero, Nat.add_zero] at this
    rw [← this]; congr 1; lia
  · have := congrArg List.tail h
    simp only [List.tail_drop, List.tail_cons] at this
    rw [← this]; congr 1; lia
theorem strX_eq (bs : PySem.Str) (c : Nat) (hbs : bs = mkS [92]) : ((⟨#[c]⟩ : PySem.Str) == bs) = decide (c = 92) := by
  subst hbs
  by_cases h : c = 92
  · subst h; rfl
  · rw [decide_eq_false h, beq_eq_false_iff_ne]
    exact fun e => h (mkS1_inj.mp (show mkS [c] = mkS [92] from e))
theorem drawsX {prog : Program} {w : World} {A : Around} (hh : A.handled = none) (it : Addr) (x : PySem.Str) (t : Tok) :
    Draws prog w A it [it] x.cps.size (fun i v => ∃ c u, x.cps[i]? = some c ∧ v = .str ⟨#[c]⟩ u) (fun i h => h.IsStrIter it (strIterType x) x t i) := by
  cases ha : x.cps.all (· < 128)
  · have e : strIterType x = "str_iterator" := by simp [strIterType, ha]
    rw [e]; exact Draws.strWide hh it x t
  · have e : strIterType x = "str_ascii_iterator" := by simp [strIterType, ha]
    rw [e]; exact Draws.strAscii hh it x t
end Mine
end

section
open PySem PySem.W PyProof.Rows PySem.Spec PySem.Calls
namespace Mine
section
variable {prog : Program} {w : World} {A : Around} {s : Shared} {g₀ : Heap} {C e it fa : Addr} {name : PySem.Str} {scope : Scope} {cd : Value}
noncomputable def EscSt (g₀ : Heap) (C e it : Addr) (X : PySem.Str) (tx : Tok) (i : Nat) (h : Heap) (m : PySem.Str → Option Value) : Prop :=
  Fr g₀ C h m ∧ (∃ old, IsEnum h e it i old) ∧ h.IsStrIter it (strIterType X) X tx i
theorem EscSt.alive {X : PySem.Str} {tx : Tok} {i : Nat} {h h' : Heap} {m : PySem.Str → Option Value} (S : EscSt g₀ C e it X tx i h m)
    (h1 : ∀ b ∈ [C, e, it], ∀ o, h.get? b = some o → h'.get? b = some o) (h2 : ∀ b o, g₀.get? b = some o → h'.get? b = some o) : EscSt g₀ C e it X tx i h' m := by
  obtain ⟨F, ⟨old, he⟩, o, ho, hc, hd⟩ := S
  exact ⟨⟨F.ns.at' fun o e => h1 _ (by simp) o e, h2, F.above⟩, ⟨old, h1 _ (by simp) _ he⟩, o, h1 _ (by simp) _ ho, hc, hd⟩
theorem EscSt.set {X : PySem.Str} {tx : Tok} {i : Nat} {h h' : Heap} {m m' : PySem.Str → Option Value} (S : EscSt g₀ C e it X tx i h m) (hCe : C ≠ e) (hCi : C ≠ it)
    (F' : Fr g₀ C h' m') (hs : Heap.SameBut C h h') : EscSt g₀ C e it X tx i h' m' := by
  obtain ⟨F, ⟨old, he⟩, o, ho, hc, hd⟩ := S
  exact ⟨F', ⟨old, (hs.2 _ hCe.symm).trans he⟩, o, (hs.2 _ hCi.symm).trans ho, hc, hd⟩
theorem EscSt.push {X : PySem.Str} {tx : Tok} {i : Nat} {h : Heap} {m : PySem.Str → Option Value} (S : EscSt g₀ C e it X tx i h m) (o : Obj) : EscSt g₀ C e it X tx i (h.push o) m :=
  ⟨S.1.push o, let ⟨old, he⟩ := S.2.1; ⟨old, Heap.get?_push_of_some _ he⟩, let ⟨o', ho, r⟩ := S.2.2; ⟨o', Heap.get?_push_of_some _ ho, r⟩⟩

theorem esc_loop {xe xp xc : PySem.Str} {x : List Nat} {items : List (Nat × List Nat)} {tx : Tok} {bs : PySem.Str} {k1 k2 k3 k4 k5 k6 : Nat}
    {p1 p2 p3 p4 p5 p6 p7 p8 p9 p10 p11 p12 p13 p14 p15 p16 p17 p18 p19 p20 p21 p22 p23 p24 p25 p26 p27 : Pos}
    {kk : Result → Sem Fin} {c : Code} {p : Pos} (hh : A.handled = none)
    (hk : scope.kind = .function) (hle : (envOf name scope C fa cd).kindOf xe = some .local) (hlp : (envOf name scope C fa cd).kindOf xp = some .local) (hlc : (envOf name scope C fa cd).kindOf xc = some .local)
    (hde : (xe == ("__debug__" : PySem.Str)) = false) (hdp : (xp == ("__debug__" : PySem.Str)) = false) (hdc : (xc == ("__debug__" : PySem.Str)) = false)
    (hec : xe ≠ xc) (hep : xe ≠ xp) (hpc : xp ≠ xc) (hco : scope.isCoroutine = false) (hbs : bs = mkS [92])
    (hCe : C ≠ e) (hCi : C ≠ it) (hei : e ≠ it) (hge : g₀.get? e = none) (hgi : g₀.get? it = none) (hx : x.length ≤ 100)
    (hdone : ∀ s₀ s m esc, Fr g₀ C s.heap m → m xe = some (.bool esc) → (esc = true → ∃ tp, m xp = some (.int ((x.length - 1 : Nat) : Int) tp)) → GenSince C [e, it] s₀ s →
      items.drop (items.length - (escL [] x.length esc).length) = escL [] x.length esc →
      Seg (model prog w) A (eend C e it) (eproto g₀ C e it items) (escL [] x.length esc).length s₀ c (kk (.ok .next)) [] s) :
    ∀ (cs : List Nat) (i : Nat) (s₀ s : Shared) (m : PySem.Str → Option Value) (esc : Bool), x.drop i = cs → i ≤ x.length → EscSt g₀ C e it (mkS x) tx i s.heap m → m xe = some (.bool esc) →
      (esc = true → ∃ tp, m xp = some (.int ((i - 1 : Nat) : Int) tp)) → GenSince C [e, it] s₀ s → items.drop (items.length - (escL cs i esc).length) = escL cs i esc →
      Seg (model prog w) A (eend C e it) (eproto g₀ C e it items) (escL cs i esc).length s₀
        (.forLoop (.Tuple [.Name xp p1, .Name xc p2] k1 p3) (.ref e)
          [.If (.Name xe p4) [.Expr (.Yield (some (.Tuple [.Name xp p5, .BinOp (.Constant (.str bs) k2 p6) .Add (.Name xc p7) p8] k3 p9)) p10) p11, .Assign [.Name xe p12] (.Constant (.bool false) k4 p13) p14]
            [.If (.Compare (.Name xc p15) [.Eq] [.Constant (.str bs) k5 p16] p17) [.Assign [.Name xe p18] (.Constant (.bool true) k4 p19) p20]
              [.Expr (.Yield (some (.Tuple [.Name xp p21, .Name xc p22] k6 p23)) p24) p25] p26] p27] [] (envOf name scope C fa cd))
        ((model prog w).den (.forLoop (.Tuple [.Name xp p1, .Name xc p2] k1 p3) (.ref e)
          [.If (.Name xe p4) [.Expr (.Yield (some (.Tuple [.Name xp p5, .BinOp (.Constant (.str bs) k2 p6) .Add (.Name xc p7) p8] k3 p9)) p10) p11, .Assign [.Name xe p12] (.Constant (.bool false) k4 p13) p14]
            [.If (.Compare (.Name xc p15) [.Eq] [.Constant (.str bs) k5 p16] p17) [.Assign [.Name xe p18] (.Constant (.bool true) k4 p19) p20]
              [.Expr (.Yield (some (.Tuple [.Name xp p21, .Name xc p22] k6 p23)) p24) p25] p26] p27] [] (envOf name scope C fa cd)))
        [.ret kk none false [] c p []] s := by
  have hcl : (((envOf name scope C fa cd).scope.kind == .class || ((envOf name scope C fa cd).scope.kind == .module && (envOf name scope C fa cd).locals != (envOf name scope C fa cd).globals)) = false) := by
    show (scope.kind == .class || (scope.kind == .module && C != mainGlobals)) = false; rw [hk]; rfl
  have hint : interactive (envOf name scope C fa cd) = false := by
    show (scope.kind == .module && _) = false; rw [hk]; rfl
  intro cs
  induction cs with
  | nil =>
    intro i s₀ s m esc hdr hi S he hp hsince hit
    have hil : i = x.length := by
      have := congrArg List.length hdr
      simp only [List.length_drop, List.length_nil] at this
      omega
    subst hil
    obtain ⟨F, ⟨old, hen⟩, hst⟩ := S
    refine sg_turn ?_
    refine wpAny_pyNext_enum_endD (drawsX (by exact hh) it (mkS x) tx) hen (by rw [show (mkS x).cps.size = x.length by simp [mkS]]; exact hst) (fun h' hx' => ?_)
    have S' : Fr g₀ C h' m := ⟨F.ns.at' fun o q => hx' _ o hCi q, fun b o q => hx' b o (fun z => by rw [z, hgi] at q; cases q) (F.keep b o q), F.above⟩
    exact seg_leaf (.ok .next) (hdone s₀ _ m esc S' he hp (hsince.step fun b o _ hw e => hx' b o (fun q => hw (by rw [q]; simp)) e) hit)
  | cons ch cs ih =>
    intro i s₀ s m esc hdr hi S he hp hsince hit
    have hil : i < x.length := by
      have := congrArg List.length hdr
      simp only [List.length_drop, List.length_cons] at this
      omega
    have hdr' : x.drop (i + 1) = cs := by rw [← List.tail_drop, hdr]; rfl
    have hxi : x[i]? = some ch := by
      have := congrArg (fun l => l[0]?) hdr
      simpa using this
    obtain ⟨F, ⟨old, hen⟩, hst⟩ := id S
    refine sg_turn ?_
    refine wpAny_pyNext_enum_itemD (drawsX (by exact hh) it (mkS x) tx) hen hst (by simpa [mkS] using hil) hei (by simpa using hei) (fun v h₁ tk hP heo hst₁ htup hsz hk₁ => ?_)
    obtain ⟨c', u, hc', rfl⟩ := hP
    have : c' = ch := by
      have e1 : (mkS x).cps[i]? = x[i]? := by simp [mkS]
      rw [e1, hxi] at hc'
      exact (Option.some.inj hc').symm
    subst this
    refine wpAny_letOwnedTupleGo_enum heo fun h₂ he₂ hs₂ => ?_
    replace hs₂ : Heap.SameBut e h₁ h₂ := hs₂
    have k2 : ∀ b o, b ≠ e → b ≠ it → s.heap.get? b = some o → h₂.get? b = some o := fun b o q1 q2 q => hs₂.extBut b o q1 (hk₁ b o q1 q2 q)
    have F₂ : Fr g₀ C h₂ m := ⟨F.ns.at' fun o q => k2 C o hCe hCi q, fun b o q => k2 b o (fun z => by rw [z, hge] at q; cases q) (fun z => by rw [z, hgi] at q; cases q) (F.keep b o q), F.above⟩
    have S₂ : EscSt g₀ C e it (mkS x) tx (i + 1) h₂ m := by
      refine ⟨F₂, ⟨_, by rw [show ((i + 1 : Nat) : Int) = (i : Int) + 1 by push_cast; rfl]; exact he₂⟩, ?_⟩
      obtain ⟨o, ho, hr⟩ := hst₁
      exact ⟨o, hs₂.extBut _ _ hei.symm ho, hr⟩
    have heS : e < s.heap.objs.size := Heap.lt_size hen
    have ht₂ : h₂.IsTuple s.heap.objs.size #[.int i tk, .str ⟨#[c']⟩ u] := ⟨_, (hs₂.2 _ (Nat.ne_of_gt heS)).trans htup, rfl, _, rfl⟩
    have hz₂ : h₂.objs.size = s.heap.objs.size + 1 := hs₂.1.trans hsz
    refine wpAny_assign_Tuple (by exact hh) ht₂ rfl rfl fun h₃ hx₃ => ?_
    replace hx₃ : Heap.ExtBut h₂.objs.size h₂ h₃ := hx₃
    have old₃ : ∀ b o, h₂.get? b = some o → h₃.get? b = some o := fun b o q => hx₃ b o (Nat.ne_of_lt (Heap.lt_size q)) q
    have S₃ : EscSt g₀ C e it (mkS x) tx (i + 1) h₃ m := S₂.alive (fun b _ o q => old₃ b o q) (fun b o q => old₃ b o (F₂.keep b o q))
    show wpAny _ _ (do holding [Value.str ⟨#[c']⟩ u] (assign (.Name xp p1) _ (.int i tk)); do holding [] (assign (.Name xc p2) _ (.str ⟨#[c']⟩ u)); pure ()) _ _ _
    refine wpAny_bind (wpAny_holding (wpAny_assign_Name (stNK S₃.1 News.nil (fun h₄ F₄ _ hs₄ _ => ?_) hk hlp)))
    have S₄ := S₃.set hCe hCi F₄ hs₄
    refine wpAny_bind (wpAny_holding (wpAny_assign_Name (stNK S₄.1 News.nil (fun h₅ F₅ _ hs₅ _ => wpAny_pure ?_) hk hlc)))
    have S₅ := S₄.set hCe hCi F₅ hs₅
    have hsince₅ : GenSince C [e, it] s₀ { s with heap := h₅, toks := tk + 1 + 1 + 1 } := hsince.step fun b o q1 q2 q => by
      refine hs₅.extBut b o q1 (hs₄.extBut b o q1 (old₃ b o (k2 b o (fun z => q2 (by rw [z]; simp)) (fun z => q2 (by rw [z]; simp)) q)))
    have lc : (fun y => if y = xc then some (Value.str ⟨#[c']⟩ u) else (fun y => if y = xp then some (Value.int (i : Int) tk) else m y) y) xc = some (Value.str ⟨#[c']⟩ u) := if_pos rfl
    have lp : (fun y => if y = xc then some (Value.str ⟨#[c']⟩ u) else (fun y => if y = xp then some (Value.int (i : Int) tk) else m y) y) xp = some (Value.int (i : Int) tk) := by
      show (if xp = xc then _ else if xp = xp then _ else _) = _
      rw [if_neg hpc, if_pos rfl]
    have le : (fun y => if y = xc then some (Value.str ⟨#[c']⟩ u) else (fun y => if y = xp then some (Value.int (i : Int) tk) else m y) y) xe = some (Value.bool esc) := by
      show (if xe = xc then _ else if xe = xp then _ else _) = _
      rw [if_neg hec, if_neg hep]; exact he
    generalize (fun y => if y = xc then some (Value.str ⟨#[c']⟩ u) else (fun y => if y = xp then some (Value.int (i : Int) tk) else m y) y) = m₅ at F₅ S₅ lc lp le
    clear old₃ S₃ S₂ F₂ k2 ht₂ hz₂ hx₃ hs₂ he₂ hk₁ htup hsz heo hst₁ F₄ hs₄ S₄ hs₅ he hp
    refine seg_execs_cons ?_
    refine sg_If ?_
    refine isTrue_plain ?_
    refine ld F₅ le ?_ hk hle hde
    refine wpAny_truthy_bool ?_
    cases esc with
    | true =>
      simp only [if_true]
      have hit' : items.drop (items.length - ((escL cs (i+1) false).length + 1)) = (i, [92, c']) :: escL cs (i+1) false := by simpa [escL] using hit
      obtain ⟨hi1, hi2⟩ := drop_next hit' rfl
      have hlen : (escL (c' :: cs) i true).length = (escL cs (i+1) false).length + 1 := by simp [escL]
      rw [hlen]
      refine seg_execs_cons ?_
      refine seg_Expr_Yield (by rfl) rfl (by rfl) ?_ hco hint
      refine Tuple_ ?_
      refine spliced_more (ld F₅ lp ?_ hk hlp hdp)
      refine spliced_more (wpAny_BinOp (wpAny_Constant_str (ld F₅ lc ?_ hk hlc hdc)))
      refine KXadd.add (K := 1) (L := 1) (by rw [hbs, mkS_len]; decide) (by show (mkS [c']).length ≤ 1; rw [mkS_len]; exact Nat.le_refl 1) (by decide) (fun t' k _ => ?_)
      refine spliced_none ?_
      refine wpAny_newTuple ?_ (by show 2 ≤ sizeLine; rw [sizeLine_eq]; decide)
      have ebs : bs ++ (⟨#[c']⟩ : PySem.Str) = mkS [92, c'] := by rw [hbs]; rfl
      rw [ebs]
      intro kap hkap
      have S₆ := S₅.push { cls := .type "tuple", data := .seq [Value.int (i : Int) tk, Value.str (mkS [92, c']) t'].toArray }
      refine ⟨⟨_, i, [92, c'], tk, t', hi1, rfl, _, Heap.get?_push_size _ rfl, rfl, _, rfl⟩, hsince₅.step fun b o _ _ q => Heap.get?_push_of_some _ q, fun s'' a1 a2 => hkap .none s'' ?_⟩
      have S₇ := S₆.alive a1 a2
      show Seg _ _ _ _ _ _ _ ((execs _ _).wrap _ _ _ _) _ _
      refine seg_execs_cons ?_
      refine sg_stmt (wpAny_Assign_Name (wpAny_Constant_bool (stNK S₇.1 News.nil (fun h₈ F₈ _ hs₈ _ => ?_) hk hle)))
      have S₈ := S₇.set hCe hCi F₈ hs₈
      show Seg _ _ _ _ _ _ _ (.pure (.again _)) _ _
      exact seg_again rfl (ih (i + 1) s'' _ _ false hdr' (by omega) S₈ (if_pos rfl) (fun z => by cases z) ((GenSince.refl _ _ _).step fun b o q1 _ q => hs₈.extBut b o q1 q) hi2)
    | false =>
      simp only [Bool.false_eq_true, if_false]
      refine seg_execs_cons ?_
      refine sg_If ?_
      refine wpAny_isTrue_Compare1 ?_
      refine ld F₅ lc ?_ hk hlc hdc
      refine wpAny_Constant_str ?_
      refine eq_str ?_
      refine wpAny_truthy_bool ?_
      rw [strX_eq bs c' hbs]
      by_cases h92 : c' = 92
      · rw [decide_eq_true h92]
        simp only [if_true]
        have hit' : items.drop (items.length - (escL cs (i+1) true).length) = escL cs (i+1) true := by simpa [escL, h92] using hit
        have hlen : (escL (c' :: cs) i false).length = (escL cs (i+1) true).length := by simp [escL, h92]
        rw [hlen]
        refine seg_execs_cons ?_
        refine sg_stmt (wpAny_Assign_Name (wpAny_Constant_bool (stNK F₅ News.nil (fun h₈ F₈ _ hs₈ _ => ?_) hk hle)))
        have S₈ := S₅.set hCe hCi F₈ hs₈
        show Seg _ _ _ _ _ _ _ (.pure (.again _)) _ _
        refine seg_again rfl (ih (i + 1) s₀ _ _ true hdr' (by omega) S₈ (if_pos rfl) (fun _ => ⟨tk, ?_⟩) (hsince₅.step fun b o q1 _ q => hs₈.extBut b o q1 q) hit')
        show (if xp = xe then _ else m₅ xp) = _
        rw [if_neg hep.symm, lp]; rfl
      · rw [decide_eq_false h92]
        simp only [Bool.false_eq_true, if_false]
        have hit' : items.drop (items.length - ((escL cs (i+1) false).length + 1)) = (i, [c']) :: escL cs (i+1) false := by simpa [escL, h92] using hit
        obtain ⟨hi1, hi2⟩ := drop_next hit' rfl
        have hlen : (escL (c' :: cs) i false).length = (escL cs (i+1) false).length + 1 := by simp [escL, h92]
        rw [hlen]
        refine seg_execs_cons ?_
        refine seg_Expr_Yield (by rfl) rfl (by rfl) ?_ hco hint
        refine Tuple_ ?_
        refine spliced_more (ld F₅ lp ?_ hk hlp hdp)
        refine spliced_more (ld F₅ lc ?_ hk hlc hdc)
        refine spliced_none ?_
        refine wpAny_newTuple ?_ (by show 2 ≤ sizeLine; rw [sizeLine_eq]; decide)
        intro kap hkap
        have S₆ := S₅.push { cls := .type "tuple", data := .seq [Value.int (i : Int) tk, Value.str (mkS [c']) u].toArray }
        refine ⟨⟨_, i, [c'], tk, u, hi1, rfl, _, Heap.get?_push_size _ rfl, rfl, _, rfl⟩, hsince₅.step fun b o _ _ q => Heap.get?_push_of_some _ q, fun s'' a1 a2 => hkap .none s'' ?_⟩
        have S₇ := S₆.alive a1 a2
        show Seg _ _ _ _ _ _ _ (.pure (.again _)) _ _
        exact seg_again rfl (ih (i + 1) s'' s'' _ false hdr' (by omega) S₇ le (fun z => by cases z) (GenSince.refl _ _ _) hi2)
end
end Mine
end

section
open PySem PySem.W PyProof.Rows PySem.Spec PySem.Calls
namespace Mine
section
variable {prog : Program} {w : World} {A : Around} {s : Shared} {g₀ : Heap} {C fa : Addr} {name : PySem.Str} {scope : Scope} {cd : Value}
theorem esc_gen {xa xe xp xc xn : PySem.Str} {x : List Nat} {tx : Tok} {bs : PySem.Str} {k0 k1 k2 k3 k4 k5 k6 k8 k9 : Nat} {m : PySem.Str → Option Value}
    {p1 p2 p3 p4 p5 p6 p7 p8 p9 p10 p11 p12 p13 p14 p15 p16 p17 p18 p19 p20 p21 p22 p23 p24 p25 p26 p27 p28 p29 p30 p31 p32 p33 p34 p35 p36 p37 p38 p39 p40 p41 p42 p43 p44 : Pos}
    (hh : A.handled = none)
    (hk : scope.kind = .function) (hla : (envOf name scope C fa cd).kindOf xa = some .local) (hle : (envOf name scope C fa cd).kindOf xe = some .local) (hlp : (envOf name scope C fa cd).kindOf xp = some .local) (hlc : (envOf name scope C fa cd).kindOf xc = some .local)
    (hda : (xa == ("__debug__" : PySem.Str)) = false) (hde : (xe == ("__debug__" : PySem.Str)) = false) (hdp : (xp == ("__debug__" : PySem.Str)) = false) (hdc : (xc == ("__debug__" : PySem.Str)) = false)
    (hec : xe ≠ xc) (hep : xe ≠ xp) (hpc : xp ≠ xc) (hae : xa ≠ xe) (hap : xa ≠ xp) (hco : scope.isCoroutine = false) (hbs : bs = mkS [92])
    (hload : ∀ (A' : Around) (E : Value → Shared → Prop) (s : Shared) (m : PySem.Str → Option Value) (Q : Value → Shared → Prop), Fr g₀ C s.heap m → Q (.type "enumerate") s → wpAny (model prog w) A' (eval (.Name xn p28) (envOf name scope C fa cd)) Q E s)
    (hx : x.length ≤ 100) (F : Fr g₀ C s.heap m) (ha : m xa = some (.str (mkS x) tx)) :
    Seg (model prog w) A (eend C (s.heap.objs.size + 1) s.heap.objs.size) (eproto g₀ C (s.heap.objs.size + 1) s.heap.objs.size (escL x 0 false)) (escL x 0 false).length s
      (.func [.Assign [.Name xp p29] (.Constant (.int 0) k0 p30) p31, .Assign [.Name xe p32] (.Constant (.bool false) k4 p33) p34,
        .For (.Tuple [.Name xp p1, .Name xc p2] k1 p3) (.Call (.Name xn p28) [.Name xa p35] [] p36)
          [.If (.Name xe p4) [.Expr (.Yield (some (.Tuple [.Name xp p5, .BinOp (.Constant (.str bs) k2 p6) .Add (.Name xc p7) p8] k3 p9)) p10) p11, .Assign [.Name xe p12] (.Constant (.bool false) k4 p13) p14]
            [.If (.Compare (.Name xc p15) [.Eq] [.Constant (.str bs) k5 p16] p17) [.Assign [.Name xe p18] (.Constant (.bool true) k4 p19) p20]
              [.Expr (.Yield (some (.Tuple [.Name xp p21, .Name xc p22] k6 p23)) p24) p25] p26] p27] [] p37,
        .If (.Name xe p38) [.Expr (.Yield (some (.Tuple [.Name xp p39, .Constant (.str bs) k8 p40] k9 p41)) p42) p43] [] p44] (envOf name scope C fa cd))
      ((model prog w).den (.func [.Assign [.Name xp p29] (.Constant (.int 0) k0 p30) p31, .Assign [.Name xe p32] (.Constant (.bool false) k4 p33) p34,
        .For (.Tuple [.Name xp p1, .Name xc p2] k1 p3) (.Call (.Name xn p28) [.Name xa p35] [] p36)
          [.If (.Name xe p4) [.Expr (.Yield (some (.Tuple [.Name xp p5, .BinOp (.Constant (.str bs) k2 p6) .Add (.Name xc p7) p8] k3 p9)) p10) p11, .Assign [.Name xe p12] (.Constant (.bool false) k4 p13) p14]
            [.If (.Compare (.Name xc p15) [.Eq] [.Constant (.str bs) k5 p16] p17) [.Assign [.Name xe p18] (.Constant (.bool true) k4 p19) p20]
              [.Expr (.Yield (some (.Tuple [.Name xp p21, .Name xc p22] k6 p23)) p24) p25] p26] p27] [] p37,
        .If (.Name xe p38) [.Expr (.Yield (some (.Tuple [.Name xp p39, .Constant (.str bs) k8 p40] k9 p41)) p42) p43] [] p44] (envOf name scope C fa cd))) [] s := by
  have hint : interactive (envOf name scope C fa cd) = false := by
    show (scope.kind == .module && _) = false; rw [hk]; rfl
  have hCs : C < s.heap.objs.size := F.ns.lt
  have hgs : g₀.objs.size ≤ C := F.above
  obtain ⟨K, hK⟩ : ∃ K, s.heap.objs.size = K := ⟨_, rfl⟩
  rw [hK] at hCs ⊢
  refine seg_func ?_
  refine seg_execs_cons ?_
  refine sg_stmt (wpAny_Assign_Name (wpAny_Constant_int (stNK F News.nil (fun h₁ F₁ _ hs₁ _ => ?_) hk hlp)))
  show Seg _ _ _ _ _ _ _ ((execs _ _).wrap _ _ _ _) _ _
  refine seg_execs_cons ?_
  refine sg_stmt (wpAny_Assign_Name (wpAny_Constant_bool (stNK F₁ News.nil (fun h₂ F₂ _ hs₂ _ => ?_) hk hle)))
  show Seg _ _ _ _ _ _ _ ((execs _ _).wrap _ _ _ _) _ _
  have hz₂ : h₂.objs.size = K := by rw [hs₂.1]; exact (hs₁.1).trans hK
  refine seg_execs_cons ?_
  refine sg_For ?_
  refine Call_ ?_
  refine hload _ _ _ _ _ F₂ ?_
  refine Pv.callWith_type1 ?_
  refine spliced_more (ld (v := .str (mkS x) tx) F₂ (by
    show (if xa = xe then _ else if xa = xp then _ else m xa) = _
    rw [if_neg hae, if_neg hap]; exact ha) ?_ hk hla hda)
  refine spliced_none ?_
  refine call_enumerate_str (fun h₃ he hi hz₃ hk₃ => ?_)
  replace he : IsEnum h₃ (h₂.objs.size + 1) h₂.objs.size 0 .none := he
  replace hi : h₃.IsStrIter h₂.objs.size (strIterType (mkS x)) (mkS x) tx 0 := hi
  replace hk₃ : ∀ b o, h₂.get? b = some o → h₃.get? b = some o := hk₃
  rw [hz₂] at he hi
  show wpAny _ _ (pyIter (.ref (h₂.objs.size + 1))) _ _ _
  rw [hz₂]
  refine wpAny_pyIter_enum he ?_
  intro p
  have hCK : C < K := hCs
  have hgK : g₀.objs.size ≤ C := hgs
  have hge : g₀.get? (K + 1) = none := Heap.get?_none_of_le (Nat.le_trans hgK (Nat.le_of_lt (Nat.lt_succ_of_lt hCK)))
  have hgi : g₀.get? K = none := Heap.get?_none_of_le (Nat.le_trans hgK (Nat.le_of_lt hCK))
  have F₃ := F₂.keeps hk₃
  have S₃ : EscSt g₀ C (K + 1) K (mkS x) tx 0 h₃ _ := ⟨F₃, ⟨_, he⟩, hi⟩
  refine esc_loop (x := x) (tx := tx) (A := A) (items := escL x 0 false) hh hk hle hlp hlc hde hdp hdc hec hep hpc hco hbs (Nat.ne_of_lt (Nat.lt_succ_of_lt hCK)) (Nat.ne_of_lt hCK) (Nat.succ_ne_self K) hge hgi hx ?_ x 0 s _ _ false rfl (Nat.zero_le _) S₃ (if_pos rfl) (fun z => by cases z) ?_ (by rw [Nat.sub_self]; rfl)
  · intro s₀ s m esc F he hp hsince hit
    show Seg _ _ _ _ _ _ _ ((execs _ _).wrap _ _ _ _) _ _
    refine seg_execs_cons ?_
    refine sg_If ?_
    refine isTrue_plain ?_
    refine ld F he ?_ hk hle hde
    refine wpAny_truthy_bool ?_
    cases esc with
    | false =>
      simp only [Bool.false_eq_true, if_false]
      exact seg_end (.ok (.ret .none)) ⟨rfl, rfl, hsince⟩
    | true =>
      simp only [if_true]
      obtain ⟨tp, hp⟩ := hp rfl
      have hit' : (escL x 0 false).drop ((escL x 0 false).length - (0 + 1)) = (x.length - 1, [92]) :: [] := hit
      obtain ⟨hi1, hi2⟩ := drop_next hit' rfl
      show Seg _ _ _ _ (0 + 1) _ _ _ _ _
      refine seg_execs_cons ?_
      refine seg_Expr_Yield (by rfl) rfl (by rfl) ?_ hco hint
      refine Tuple_ ?_
      refine spliced_more (ld F hp ?_ hk hlp hdp)
      refine spliced_more (wpAny_Constant_str ?_)
      refine spliced_none ?_
      refine wpAny_newTuple ?_ (by show 2 ≤ sizeLine; rw [sizeLine_eq]; decide)
      intro kap hkap
      refine ⟨⟨_, x.length - 1, [92], tp, s.toks, hi1, rfl, _, Heap.get?_push_size _ rfl, rfl, _, by rw [hbs]⟩, hsince.step fun b o _ _ q => Heap.get?_push_of_some _ q, fun s'' a1 a2 => hkap .none s'' ?_⟩
      exact seg_end (.ok (.ret .none)) ⟨rfl, rfl, GenSince.refl _ _ _⟩
  · exact (GenSince.refl C [K + 1, K] s).step fun b o q1 _ q => hk₃ b o (hs₂.extBut b o q1 (hs₁.extBut b o q1 q))
end
end Mine
end

section
open PySem PySem.W PyProof.Rows PySem.Spec PySem.Calls
namespace Mine
theorem adF {L C a K b : Nat} (h1 : L < C) (h2 : C < a) (h3 : a + 1 = K) (hb : b ∈ [a, C, K + 1, K]) : L < b ∧ C ≤ b := by
  simp only [List.mem_cons, List.not_mem_nil, or_false] at hb
  lia
theorem adA {C a K : Nat} (h2 : C < a) (h3 : a + 1 = K) : a ∉ [C, K + 1, K] := by
  simp only [List.mem_cons, List.not_mem_nil, or_false, not_or]
  lia
noncomputable def Bare (gs : Array GenState) : Prop := ∀ x ∈ gs, x.bare = true
noncomputable def EscAt (prog : Program) (w : World) (A : Around) (a : Addr) (g : Nat) (C K : Addr) (g₀ : Heap) (items : List (Nat × List Nat)) (j : Nat) (s : Shared) : Prop :=
  s.heap.IsGen a g ∧ ∃ gs, s.gens[g]? = some gs ∧ ∀ s'' : Shared, (j = 0 → s''.heap.objs.size = K) → (∀ b ∈ [C, K + 1, K], ∀ o, s.heap.get? b = some o → s''.heap.get? b = some o) →
    (∀ b o, g₀.get? b = some o → s''.heap.get? b = some o) → gs.Goes (model prog w) A.in1 (eend C (K + 1) K) (eproto g₀ C (K + 1) K items) (items.length - j) (.send .none) s''
theorem EscAt.move {prog : Program} {w : World} {A : Around} {a : Addr} {g : Nat} {C K : Addr} {g₀ : Heap} {items : List (Nat × List Nat)} {j : Nat} {s : Shared} {h' : Heap} {tk : Nat}
    (S : EscAt prog w A a g C K g₀ items j s) (hk : ∀ b ∈ [a, C, K + 1, K], ∀ o, s.heap.get? b = some o → h'.get? b = some o) : EscAt prog w A a g C K g₀ items j { s with heap := h', toks := tk } := by
  obtain ⟨⟨o, nm, qn, ho, hr⟩, gs, hg, hgo⟩ := S
  exact ⟨⟨o, nm, qn, hk a (by simp) o ho, hr⟩, gs, hg, fun s'' h0 h1 h2 => hgo s'' h0 (fun b hb o q => h1 b hb o (hk b (List.mem_cons_of_mem _ hb) o q)) h2⟩
section
variable {prog : Program} {w : World} {A : Around} {s : Shared} {g₀ : Heap} {C fa : Addr} {name : PySem.Str} {scope : Scope} {cd : Value}
theorem EscAt.start {xa xe xp xc xn : PySem.Str} {x : List Nat} {tx : Tok} {bs : PySem.Str} {k0 k1 k2 k3 k4 k5 k6 k8 k9 : Nat} {m : PySem.Str → Option Value}
    {p1 p2 p3 p4 p5 p6 p7 p8 p9 p10 p11 p12 p13 p14 p15 p16 p17 p18 p19 p20 p21 p22 p23 p24 p25 p26 p27 p28 p29 p30 p31 p32 p33 p34 p35 p36 p37 p38 p39 p40 p41 p42 p43 p44 : Pos}
    {a : Addr} {g : Nat} {K : Addr} (hh : A.handled = none)
    (hk : scope.kind = .function) (hla : (envOf name scope C fa cd).kindOf xa = some .local) (hle : (envOf name scope C fa cd).kindOf xe = some .local) (hlp : (envOf name scope C fa cd).kindOf xp = some .local) (hlc : (envOf name scope C fa cd).kindOf xc = some .local)
    (hda : (xa == ("__debug__" : PySem.Str)) = false) (hde : (xe == ("__debug__" : PySem.Str)) = false) (hdp : (xp == ("__debug__" : PySem.Str)) = false) (hdc : (xc == ("__debug__" : PySem.Str)) = false)
    (hec : xe ≠ xc) (hep : xe ≠ xp) (hpc : xp ≠ xc) (hae : xa ≠ xe) (hap : xa ≠ xp) (hco : scope.isCoroutine = false) (hbs : bs = mkS [92])
    (hload : ∀ (A' : Around) (E : Value → Shared → Prop) (s : Shared) (m : PySem.Str → Option Value) (Q : Value → Shared → Prop), Fr g₀ C s.heap m → Q (.type "enumerate") s → wpAny (model prog w) A' (eval (.Name xn p28) (envOf name scope C fa cd)) Q E s)
    (hx : x.length ≤ 100) (F : Fr g₀ C s.heap m) (ha : m xa = some (.str (mkS x) tx))
    (hIG : s.heap.IsGen a g) (hK : s.heap.objs.size = K)
    (hg : s.gens[g]? = some (.fresh (.func [.Assign [.Name xp p29] (.Constant (.int 0) k0 p30) p31, .Assign [.Name xe p32] (.Constant (.bool false) k4 p33) p34,
        .For (.Tuple [.Name xp p1, .Name xc p2] k1 p3) (.Call (.Name xn p28) [.Name xa p35] [] p36)
          [.If (.Name xe p4) [.Expr (.Yield (some (.Tuple [.Name xp p5, .BinOp (.Constant (.str bs) k2 p6) .Add (.Name xc p7) p8] k3 p9)) p10) p11, .Assign [.Name xe p12] (.Constant (.bool false) k4 p13) p14]
            [.If (.Compare (.Name xc p15) [.Eq] [.Constant (.str bs) k5 p16] p17) [.Assign [.Name xe p18] (.Constant (.bool true) k4 p19) p20]
              [.Expr (.Yield (some (.Tuple [.Name xp p21, .Name xc p22] k6 p23)) p24) p25] p26] p27] [] p37,
        .If (.Name xe p38) [.Expr (.Yield (some (.Tuple [.Name xp p39, .Constant (.str bs) k8 p40] k9 p41)) p42) p43] [] p44] (envOf name scope C fa cd)))) :
    EscAt prog w A a g C K g₀ (escL x 0 false) 0 s := by
  refine ⟨hIG, _, hg, fun s'' h0 h1 h2 => ⟨rfl, ?_⟩⟩
  have F'' : Fr g₀ C s''.heap m := ⟨F.ns.at' fun o e => h1 _ (by simp) o e, h2, F.above⟩
  have := esc_gen (s := s'') (A := A.in1) (prog := prog) (w := w) (k0 := k0) (k1 := k1) (k2 := k2) (k3 := k3) (k4 := k4) (k5 := k5) (k6 := k6) (k8 := k8) (k9 := k9) (p1 := p1) (p2 := p2) (p3 := p3) (p4 := p4) (p5 := p5) (p6 := p6) (p7 := p7) (p8 := p8) (p9 := p9) (p10 := p10) (p11 := p11) (p12 := p12) (p13 := p13) (p14 := p14) (p15 := p15) (p16 := p16) (p17 := p17) (p18 := p18) (p19 := p19) (p20 := p20) (p21 := p21) (p22 := p22) (p23 := p23) (p24 := p24) (p25 := p25) (p26 := p26) (p27 := p27) (p29 := p29) (p30 := p30) (p31 := p31) (p32 := p32) (p33 := p33) (p34 := p34) (p35 := p35) (p36 := p36) (p37 := p37) (p38 := p38) (p39 := p39) (p40 := p40) (p41 := p41) (p42 := p42) (p43 := p43) (p44 := p44) (show A.in1.handled = none from hh) hk hla hle hlp hlc hda hde hdp hdc hec hep hpc hae hap hco hbs hload hx F'' ha
  rw [h0 rfl] at this
  exact this
end
section
variable {prog : Program} {w : World} {A : Around} {E : Value → Shared → Prop} {s : Shared} {a C K : Addr} {g : Nat} {g₀ : Heap} {items : List (Nat × List Nat)}
theorem letOwned_gen {elts : List Expr} {k : Nat} {pos : Pos} {T : Addr} {Q : Unit → Shared → Prop} (hg : s.heap.IsGen a g) (hQ : Q () s) :
    wpAny (model prog w) A (letOwnedTupleGo (.Tuple elts k pos) (.ref a) (.ref T)) Q E s := by
  obtain ⟨⟨c, dct, dt, sl⟩, nm, qn, ho, hc, hd, hs⟩ := hg
  replace hc : c = .type "generator" := hc
  replace hd : dt = .fields #[.int g 0, nm, qn] := hd
  subst hc hd
  unfold letOwnedTupleGo
  refine wpAny_bind (wpAny_load ho ?_)
  show wpAny _ A (if (["enumerate", "zip", "dict_itemiterator", "dict_reverseitemiterator", "odict_iterator", "itertools.zip_longest", "itertools.pairwise"].contains "generator" && _) = true then _ else _) Q E s
  rw [show (["enumerate", "zip", "dict_itemiterator", "dict_reverseitemiterator", "odict_iterator", "itertools.zip_longest", "itertools.pairwise"].contains "generator") = false by decide]
  simp only [Bool.false_and, Bool.false_eq_true, if_false]
  exact wpAny_pure hQ
theorem esc_next {j : Nat} {Q : Option Value → Shared → Prop} (hh : A.handled = none) (hroom : A.depth < recursionLimit) (hl : s.heap.NoLimit) (S : EscAt prog w A a g C K g₀ items j s) (hj : j ≤ items.length)
    (hK : j = 0 → s.heap.objs.size = K) (hC : C < a) (ha : a + 1 = K) (hg₀ : ∀ b o, g₀.get? b = some o → s.heap.get? b = some o) (hgn : ∀ b ∈ [C, K + 1, K], g₀.get? b = none)
    (item : ∀ T p c tp tc h' tk gs', j < items.length → items[j]? = some (p, c) → h'.IsTuple T #[.int ((p : Nat) : Int) tp, .str (mkS c) tc] → (∀ b o, b ∉ [C, K + 1, K] → s.heap.get? b = some o → h'.get? b = some o) →
      EscAt prog w A a g C K g₀ items (j + 1) { s with heap := h', toks := tk, gens := gs' } → (Bare s.gens → Bare gs') → Q (some (.ref T)) { s with heap := h', toks := tk, gens := gs' })
    (done : ∀ h' tk gs', j = items.length → (∀ b o, b ∉ [C, K + 1, K] → s.heap.get? b = some o → h'.get? b = some o) → (Bare s.gens → Bare gs') → Q none { s with heap := h', toks := tk, gens := gs' }) :
    wpAny (model prog w) A (pyNext (.ref a)) Q E s := by
  obtain ⟨hg, gs, hgs, hgo⟩ := S
  have ha' : a ∉ [C, K + 1, K] := adA hC ha
  have hgo' := hgo (s.setGen g .running) hK (fun _ _ _ e => e) hg₀
  unfold pyNext
  refine wpAny_bind (wpAny_attempt (wpAny_callSpecial?_slot (name := Str.ofString "__next__") hg.typeIs slot_gen_next
    (wpAny_call_entry slot_gen_next hg.typeIs entry_gen_next ?_ (args_gen_next _))))
  show wpAny _ _ (Builtin.Generator.genWake (.ref a) (.send .none)) _ _ s
  unfold Builtin.Generator.genWake
  refine wpAny_bind (wpAny_holding (wpAny_genNumber hg (wpAny_bind (wpAny_genState hgs ?_))))
  cases gs with
  | running => exact hgo'.elim
  | finished => exact hgo'.elim
  | _ =>
    refine wpAny_bind (wpAny_roomToWake hl hroom ?_)
    show wpAny _ _ (.resume g (.send .none) [] _) _ _ s
    refine wpAny_resumeQ hgs hgo' (fun x s₁ hx => ?_) (fun v s₁ gs' hb hv => ?_)
    · obtain ⟨rfl, hp, h₁, tk₁, rfl, hk₁⟩ := hx
      show wpAny _ _ (newExc (.type "StopIteration") [] >>= _) _ _ _
      refine wpAny_bind ?_
      simp only [newExc, newTuple]
      refine wpAny_bind (wpAny_newObj_type ?_ (by size_fits))
      refine wpAny_bind (m := firstArgMember _ _) (wpAny_of_eq (a := Value.none) (by first | rfl | (simp only [firstArgMember]; rfl)) ?_)
      refine wpAny_newObj_type ?_ (by size_fits)
      simp only [raiseNew]
      refine wpAny_bind (wpAny_bind (wpAny_handled ?_))
      rw [show A.in1.handled = none from hh]
      refine wpAny_throw ?_
      refine wpAny_bind (wpAny_isInstance (T := "StopIteration") (b := true) ⟨_, Heap.get?_push_size _ rfl, rfl⟩ isSubtype_stop ?_)
      refine wpAny_pure (done _ _ _ (by lia) (fun b o hb q => ?_) ?_)
      · exact Heap.get?_push_of_some _ (Heap.get?_push_of_some _ (hk₁ b o (fun z => hb (by rw [z]; simp)) (fun z => hb (List.mem_cons_of_mem _ z)) q))
      · exact fun hB => (GenOnlyQ.of ((GenOnly.setGen s g .running).trans (GenOnly.setGen _ g .finished)) (setGen_self (gs := .running) (setGen_self hgs)) rfl).bare hB
    · refine wpAny_pure ⟨v, rfl, wpAny_pure ?_⟩
      obtain ⟨⟨T, p, c, tp, tc, hi, rfl, hT⟩, ⟨h₁, tk₁, rfl, hk₁⟩, hkap⟩ := hv
      by_cases hjl : j < items.length
      · obtain ⟨n, hn⟩ : ∃ n, items.length - j = n + 1 := ⟨items.length - j - 1, by lia⟩
        rw [hn] at hi hkap
        rw [show items.length - 1 - (n + 1 - 1) = j by lia] at hi
        refine item T p c tp tc h₁ tk₁ _ hjl hi hT (fun b o hb q => hk₁ b o (fun z => hb (by rw [z]; simp)) (fun z => hb (List.mem_cons_of_mem _ z)) q) ?_ ?_
        · refine ⟨let ⟨o, nm, qn, ho, hr⟩ := hg; ⟨o, nm, qn, hk₁ a o (fun z => ha' (by rw [z]; simp)) (fun z => ha' (List.mem_cons_of_mem _ z)) ho, hr⟩, gs', setGen_self (gs := .running) (setGen_self hgs), fun s'' _ h1 h2 => ?_⟩
          rw [show items.length - (j + 1) = n by lia]
          exact hkap s'' h1 h2
        · exact fun hB => (GenOnlyQ.of ((GenOnly.setGen s g .running).trans (GenOnly.setGen _ g gs')) (setGen_self (gs := .running) (setGen_self hgs)) hb).bare hB
      · exfalso
        have h0 : items.length - j = 0 := by lia
        rw [h0] at hkap
        exact hkap _ (fun _ _ _ e => e) (fun b o q => hk₁ b o (fun z => by rw [z, hgn C (by simp)] at q; cases q) (fun z => by rw [hgn b (List.mem_cons_of_mem _ z)] at q; cases q) (hg₀ b o q))

variable {env : Env}
theorem esc_for {xi xv : PySem.Str} {pi pv pt : Pos} {k : Nat} {body orelse : List Stmt} {Q : Flow → Shared → Prop} {m₀ : PySem.Str → Option Value} {news : List (Addr × Obj)}
    (J : Nat → (PySem.Str → Option Value) → List (Addr × Obj) → Prop)
    (hh : A.handled = none) (hroom : A.depth < recursionLimit) (hl : g₀.NoLimit) (hxi : env.kindOf xi = some .local) (hxv : env.kindOf xv = some .local)
    (hp : (env.scope.kind == .class || (env.scope.kind == .module && env.locals != env.globals)) = false)
    (S : EscAt prog w A a g C K g₀ items 0 s) (hK : s.heap.objs.size = K) (hC : C < a) (ha : a + 1 = K) (hLC : env.locals < C)
    (F : Fr g₀ env.locals s.heap m₀) (N : News g₀ env.locals s.heap news) (hN : ∀ p ∈ news, p.1 < C) (hj : J 0 m₀ news)
    (turn : ∀ i p c m₁ news₁ h tk gs t1 t2 own, items[i]? = some (p, c) → news₁.map (·.1) = news.map (·.1) → OwnOff own (news.map (·.1)) → J i m₁ news₁ → (Bare s.gens → Bare gs) →
      Fr g₀ env.locals h (fun y => if y = xv then some (.str (mkS c) t2) else if y = xi then some (.int ((p : Nat) : Int) t1) else m₁ y) → News g₀ env.locals h (news₁ ++ own) →
      wpAny (model prog w) A (execs body env) (TurnPost g₀ env.locals (fun gs' m' nx => gs' = gs ∧ J (i + 1) m' nx) own (news.map (·.1)) { s with heap := h, toks := tk, gens := gs } Q) E { s with heap := h, toks := tk, gens := gs })
    (done : ∀ m₁ news₁ h tk gs, J items.length m₁ news₁ → (Bare s.gens → Bare gs) → Fr g₀ env.locals h m₁ → News g₀ env.locals h news₁ → wpAny (model prog w) A (execs orelse env) Q E { s with heap := h, toks := tk, gens := gs }) :
    wpAny (model prog w) A (pyIter (.ref a)) (fun it s₂ => LoopG prog w A env (.Tuple [.Name xi pi, .Name xv pv] k pt) body orelse Q E it s₂) E s := by
  have hgL : g₀.objs.size ≤ env.locals := F.above
  have hgn : ∀ b ∈ [a, C, K + 1, K], g₀.get? b = none := fun b hb => Heap.get?_none_of_le (Nat.le_trans hgL (Nat.le_of_lt (adF hLC hC ha hb).1))
  have hLn : ∀ b ∈ [a, C, K + 1, K], b ≠ env.locals := fun b hb => Nat.ne_of_gt (adF hLC hC ha hb).1
  have hNn : ∀ b ∈ [a, C, K + 1, K], ∀ p ∈ news, b ≠ p.1 := fun b hb p hp => Nat.ne_of_gt (Nat.lt_of_lt_of_le (hN p hp) (adF hLC hC ha hb).2)
  refine wpAny_pyIter_gen S.1 ?_
  refine ⟨fun n s' => ∃ i h' tk gs m' nx, s' = { s with heap := h', toks := tk, gens := gs } ∧ n = items.length - i ∧ i ≤ items.length ∧ EscAt prog w A a g C K g₀ items i s' ∧ (i = 0 → h'.objs.size = K) ∧ Fr g₀ env.locals h' m' ∧ News g₀ env.locals h' nx ∧
    nx.map (·.1) = news.map (·.1) ∧ J i m' nx ∧ (Bare s.gens → Bare gs), items.length, ⟨0, s.heap, s.toks, s.gens, m₀, news, rfl, rfl, Nat.zero_le _, S, fun _ => hK, F, N, rfl, hj, fun z => z⟩, ?_⟩
  rintro n s' ⟨i, h', tk, gs, m', nx, rfl, rfl, hi, S', hK', F', N', hadr, hJ, hB⟩
  have keep : ∀ h₁ : Heap, (∀ b o, b ∉ [C, K + 1, K] → h'.get? b = some o → h₁.get? b = some o) → Fr g₀ env.locals h₁ m' ∧ News g₀ env.locals h₁ nx := fun h₁ hk =>
    ⟨⟨F'.ns.at' fun o q => hk _ o (fun z => hLn _ (List.mem_cons_of_mem _ z) rfl) q, fun b o q => hk b o (fun z => by rw [hgn b (List.mem_cons_of_mem _ z)] at q; cases q) (F'.keep b o q), F'.above⟩,
      fun p hp => ⟨hk _ _ (fun z => by
        have : p.1 ∈ nx.map (·.1) := List.mem_map.mpr ⟨p, hp, rfl⟩
        rw [hadr] at this
        obtain ⟨q, hq, e2⟩ := List.mem_map.mp this
        exact hNn _ (List.mem_cons_of_mem _ z) q hq e2.symm) (N' p hp).1, (N' p hp).2⟩⟩
  refine esc_next hh hroom (hl.keeps F'.keep) S' hi hK' hC ha F'.keep (fun b hb => hgn b (List.mem_cons_of_mem _ hb)) (fun T p c tp tc h₁ tk₁ gs' hjl hit hT hk₁ S₁ hB₁ => ?_) (fun h₁ tk₁ gs' hjl hk₁ hB₁ => ?_)
  · obtain ⟨F₁, N₁⟩ := keep h₁ hk₁
    refine letOwned_gen S₁.1 ?_
    refine wpAny_assign_Tuple hh hT rfl rfl fun h₂ hx₂ => ?_
    replace hx₂ : Heap.ExtBut h₁.objs.size h₁ h₂ := hx₂
    have old₂ : ∀ b o, h₁.get? b = some o → h₂.get? b = some o := fun b o q => hx₂ b o (Nat.ne_of_lt (Heap.lt_size q)) q
    have F₂ := F₁.keeps old₂
    have N₂ := N₁.keeps old₂
    show wpAny _ _ (do holding [Value.str (mkS c) tc] (assign (.Name xi pi) env (.int ((p : Nat) : Int) tp)); do holding [] (assign (.Name xv pv) env (.str (mkS c) tc)); pure ()) _ _ _
    refine wpAny_bind (wpAny_holding (wpAny_assign_Name (wpAny_storeName_local hxi F₂.ns (fun h₃ hn₃ hs₃ => ?_) hp)))
    have F₃ := F₂.set hn₃ hs₃
    have N₃ := N₂.set hs₃
    refine wpAny_bind (wpAny_holding (wpAny_assign_Name (wpAny_storeName_local hxv F₃.ns (fun h₄ hn₄ hs₄ => wpAny_pure ?_) hp)))
    have F₄ := F₃.set hn₄ hs₄
    have N₄ := N₃.set hs₄
    have S₄ := S₁.move (h' := h₄) (tk := tk₁ + 1 + 1) (fun b hb o q => hs₄.extBut b o (hLn b hb) (hs₃.extBut b o (hLn b hb) (old₂ b o q)))
    have ownN : ∀ q ∈ [a, C, K + 1, K].filterMap (fun b => (h₄.get? b).map fun o => (b, o)), q.1 ∈ [a, C, K + 1, K] ∧ h₄.get? q.1 = some q.2 := by
      intro q hq
      obtain ⟨b, hb, e1⟩ := List.mem_filterMap.mp hq
      cases e2 : h₄.get? b with
      | none => rw [e2] at e1; cases e1
      | some o => rw [e2] at e1; cases e1; exact ⟨hb, e2⟩
    refine wpAny_mono (turn i p c m' nx h₄ _ gs' tp tc ([a, C, K + 1, K].filterMap (fun b => (h₄.get? b).map fun o => (b, o))) hit hadr ?_ hJ (fun z => hB₁ (hB z)) F₄ ?_) (fun f s₃ h₃ => ?_) fun _ _ e => e
    · intro q hq b hb z
      obtain ⟨q', hq', e2⟩ := List.mem_map.mp hb
      exact hNn _ (ownN q hq).1 q' hq' (z.trans e2.symm)
    · intro q hq
      rcases List.mem_append.mp hq with hq | hq
      · exact N₄ q hq
      · exact ⟨(ownN q hq).2, hLn _ (ownN q hq).1, hgn _ (ownN q hq).1⟩
    · have fin : ∀ tkx, TurnEnd g₀ env.locals (fun gs₂ m' nx => gs₂ = gs' ∧ J (i + 1) m' nx) ([a, C, K + 1, K].filterMap (fun b => (h₄.get? b).map fun o => (b, o))) (news.map (·.1)) { s with heap := h₄, toks := tkx, gens := gs' } s₃ →
          ∃ n, n < items.length - i ∧ ∃ i h' tk gs m' nx, s₃ = { s with heap := h', toks := tk, gens := gs } ∧ n = items.length - i ∧ i ≤ items.length ∧ EscAt prog w A a g C K g₀ items i s₃ ∧ (i = 0 → h'.objs.size = K) ∧ Fr g₀ env.locals h' m' ∧ News g₀ env.locals h' nx ∧
            nx.map (·.1) = news.map (·.1) ∧ J i m' nx ∧ (Bare s.gens → Bare gs) := by
        rintro tkx ⟨h5, tk5, gs5, m5, news5, nx5, rfl, F5, N5, hn5, ho5, ha5, rfl, hJ5⟩
        exact ⟨items.length - (i + 1), by lia, i + 1, h5, tk5, _, m5, nx5, rfl, rfl, hjl, S₄.move (fun b hb o q => (N5 (b, o) (ho5 _ (List.mem_filterMap.mpr ⟨b, hb, by rw [q]; rfl⟩))).1), fun z => absurd z (Nat.succ_ne_zero i), F5, fun p hp => N5 p (hn5 p hp), ha5, hJ5, fun z => hB₁ (hB z)⟩
      cases f with
      | next => exact fin _ h₃
      | cont => exact fin _ h₃
      | brk => exact h₃
      | ret v => exact h₃
  · obtain ⟨F₁, N₁⟩ := keep h₁ hk₁
    subst hjl
    exact done m' nx h₁ tk₁ gs' hJ (fun z => hB₁ (hB z)) F₁ N₁
end
end Mine
end

section
open PySem PySem.W PyProof.Rows PySem.Spec PySem.Calls
namespace Mine
section
variable {prog : Program} {w : World} {A : Around} {s : Shared} {h₀ : Heap} {L : Addr} {m : PySem.Str → Option Value} {news : List (Addr × Obj)} {K : Frag} {p : Program} {loose : List PySem.Str} {mean : ExcName → Option Value} {mg mb : PySem.Str → Option Value}
  {R : Result → Shared → Prop} {name qual : PySem.Str} {params : Arguments} {body : List Stmt} {scope : Scope} {dV kV doc pm cdv ct oc : Value} {an od : Option Addr} {osl : Array (Option Value)} {f : Addr} {args : Args} {binds : List (PySem.Str × Value)}
theorem gen_def (F : Fr h₀ L s.heap m) (X₀ : K.In h₀) (N : News h₀ L s.heap news) (T : Top p loose mean mg mb h₀)
    (ho : K.lookup f = some ⟨oc, od, .func (fnOf name qual params body scope dV kV doc pm an cdv ct), osl⟩) (hcd : codeIn K cdv qual = true) (hroom : A.depth < recursionLimit)
    (hbind : BindsTo s (fnOf name qual params body scope dV kV doc pm an cdv ct) args binds) (hloc : ∀ y ∈ binds, scope.names.lookup y.1 = some .local)
    (h : ∀ C a h₁ tk, C = s.heap.objs.size → C < a → a + 1 = h₁.objs.size → Fr h₀ C h₁ (fun y => binds.reverse.lookup y) → Fr h₀ L h₁ m → News h₀ L h₁ news → L < C → (∀ p ∈ news, p.1 < C) → h₁.IsGen a s.gens.size →
      R (.ok (.ret (.ref a))) { s with gens := s.gens.push (.fresh (.func body (envOf qual scope C f cdv))), toks := tk, heap := h₁ })
    (hco : scope.isCoroutine = false) (hgen : scope.isGenerator = true) (hk : scope.kind = .function)
    (hcell : ∀ x ∈ scope.names, x.2 ≠ .cell) : codeAny (model prog w) A (.call (.ref f) args) R s := by
  have X := X₀.keeps F.keep
  refine codeAny_call_generator (fd := fnOf name qual params body scope dV kV doc pm an cdv ct) (body := body) hroom (X _ _ ho) rfl hco hgen rfl (codeRec_of X hcd) (hbind _ _ _ _ ?_)
  refine wpAny_newFunctionEnv hcell hloc (fun h₁ hns₁ hsb₁ => ?_) hk
  have hk₁ : ∀ b o, s.heap.get? b = some o → h₁.get? b = some o := fun b o e => hsb₁.extBut b o (Nat.ne_of_lt (Heap.lt_size e)) (Heap.get?_push_of_some _ e)
  have hz₁ : h₁.objs.size = s.heap.objs.size + 1 := by rw [hsb₁.1, Heap.size_push]
  refine ⟨(T.nolimit.keeps F.keep).keeps hk₁, ?_⟩
  have hLC : L < s.heap.objs.size := F.ns.lt
  have FC : Fr h₀ s.heap.objs.size h₁ (fun y => binds.reverse.lookup y) := ⟨hns₁, fun b o e => hk₁ b o (F.keep b o e), Nat.le_trans F.above (Nat.le_of_lt hLC)⟩
  have FL := F.keeps hk₁
  have NL := N.keeps hk₁
  refine h s.heap.objs.size h₁.objs.size _ _ rfl (by rw [hz₁]; exact Nat.lt_succ_self _) (by rw [Heap.size_push]) (FC.push _) (FL.push _) (fun p hp => ⟨Heap.get?_push_of_some _ (NL p hp).1, (NL p hp).2⟩) hLC (fun p hp => Heap.lt_size (N p hp).1) ?_
  exact ⟨_, _, _, Heap.get?_push_size _ rfl, rfl, rfl, rfl⟩
end
end Mine
end

section
open PySem PySem.W PyProof.Rows PySem.Spec PySem.Calls
namespace Mine
abbrev SSt := Nat × Option Nat × List (List Nat)
noncomputable def stripStep (x : List Nat) (st : SSt) (it : Nat × List Nat) : SSt :=
  if it.2 = [34] then (match st.2.1 with
    | none => (st.1, some it.1, st.2.2)
    | some o => (it.1 + 1, none, if st.1 = o then st.2.2 else st.2.2 ++ [(x.take o).drop st.1])) else st
noncomputable def stripF (x : List Nat) (its : List (Nat × List Nat)) : SSt := its.foldl (stripStep x) (0, none, [])
noncomputable def stripL (x : List Nat) : List Nat :=
  if 34 ∈ x then ((stripF x (escL x 0 false)).2.2 ++ (if (stripF x (escL x 0 false)).1 < x.length then [x.drop (stripF x (escL x 0 false)).1] else [])).flatten else x
theorem escL_pos : ∀ (cs : List Nat) (i : Nat) (esc : Bool) (it : Nat × List Nat), (esc = true → 1 ≤ i) → it ∈ escL cs i esc → it.1 < i + cs.length
  | [], i, esc, it, h, hm => by
    cases esc with
    | false => cases hm
    | true =>
      have := h rfl
      simp only [escL, if_true, List.mem_singleton] at hm
      subst hm
      simp; lia
  | c :: cs, i, esc, it, h, hm => by
    simp only [List.length_cons]
    cases esc with
    | true =>
      simp only [escL, if_true, List.mem_cons] at hm
      rcases hm with rfl | hm
      · simp
      · have := escL_pos cs (i+1) false it (fun z => by cases z) hm
        lia
    | false =>
      simp only [escL, Bool.false_eq_true, if_false] at hm
      by_cases h92 : c = 92
      · rw [if_pos h92] at hm
        have := escL_pos cs (i+1) true it (fun z => by lia) hm
        lia
      · rw [if_neg h92] at hm
        rcases List.mem_cons.mp hm with rfl | hm
        · simp
        · have := escL_pos cs (i+1) false it (fun z => by cases z) hm
          lia
theorem escL_len : ∀ (cs : List Nat) (i : Nat) (esc : Bool), (escL cs i esc).length ≤ cs.length + 1
  | [], i, esc => by cases esc <;> simp [escL]
  | c :: cs, i, esc => by
    have h1 := escL_len cs (i+1) false
    have h2 := escL_len cs (i+1) true
    simp only [List.length_cons]
    cases esc with
    | true => simp [escL]; lia
    | false =>
      simp only [escL, Bool.false_eq_true, if_false]
      split
      · lia
      · simp; lia
theorem take_succ_get {α : Type} {l : List α} {i : Nat} {a : α} (h : l[i]? = some a) : l.take (i + 1) = l.take i ++ [a] := by
  rw [List.take_add_one, h]; rfl
theorem stripF_step {x : List Nat} {items : List (Nat × List Nat)} {i : Nat} {it : Nat × List Nat} (h : items[i]? = some it) : stripF x (items.take (i+1)) = stripStep x (stripF x (items.take i)) it := by
  rw [take_succ_get h]; simp [stripF, List.foldl_append]
theorem occ34 (x : List Nat) : (Builtin.Str.occurrences (mkS x) (PySem.Str.ofString "\"") 0 (mkS x).length 1).isEmpty = !(decide (34 ∈ x)) := by
  have h := StrLaws.found_one (mkS x) 34
  rw [cps_mkS] at h
  have e : (PySem.Str.ofString "\"") = ⟨#[34]⟩ := rfl
  rw [e, ← h, Bool.not_not]
theorem sliceIdx_ab (n a b : Nat) : (PySem.sliceRange (a : Int) (b : Int) 1) = (List.range (b - a)).map (a + ·) := by
  unfold PySem.sliceRange
  simp only [show (1 : Int) > 0 by decide, if_true, Int.ediv_one]
  by_cases h0 : (a : Int) < b
  · rw [if_pos h0]
    have e : ((b : Int) - a + 1 - 1).toNat = b - a := by lia
    rw [e]
    apply List.map_congr_left
    intro i _
    show ((a : Int) + 1 * (i : Int)).toNat = a + i
    lia
  · rw [if_neg h0]
    have : b - a = 0 := by lia
    rw [this]; rfl
theorem filt_ab (l : List Nat) (a b : Nat) (hb : b ≤ l.length) : ((List.range (b - a)).map (a + ·)).filterMap (l.toArray[·]?) = (l.take b).drop a := by
  by_cases hab : a ≤ b
  · apply List.ext_getElem?
    intro i
    rw [List.filterMap_map, List.getElem?_drop, List.getElem?_take]
    have key : ∀ k, k ≤ b - a → (List.range k).filterMap ((fun x => l.toArray[x]?) ∘ (a + ·)) = (l.drop a).take k := by
      intro k
      induction k with
      | zero => simp
      | succ k ih =>
        intro hk
        rw [List.range_succ, List.filterMap_append, ih (by lia)]
        have : ((fun x => l.toArray[x]?) ∘ (a + ·)) k = some l[a + k] := by simp [show a + k < l.length by lia]
        simp only [List.filterMap_cons, this, List.filterMap_nil]
        rw [List.take_add_one, List.getElem?_drop, List.getElem?_eq_getElem (by lia)]; rfl
    rw [key _ (Nat.le_refl _), List.getElem?_take, List.getElem?_drop]
    by_cases hi : i < b - a
    · rw [if_pos hi, if_pos (by lia)]
    · rw [if_neg hi, if_neg (by lia)]
  · have : b - a = 0 := by lia
    rw [this]
    have : (l.take b).length ≤ a := by rw [List.length_take]; lia
    rw [List.drop_eq_nil_of_le this]; rfl
theorem slice_ab (l : List Nat) (a b : Nat) (hb : b ≤ l.length) (ha : a ≤ l.length) : Txt.slice (mkS l) (some (a : Int)) (some (b : Int)) = mkS ((l.take b).drop a) := by
  have e : PySem.Builtin.Str.strSliceIndices (some (a : Int)) (some (b : Int)) 1 l.length = (List.range (b - a)).map (a + ·) := by
    unfold PySem.Builtin.Str.strSliceIndices
    simp only [show (1 : Int) > 0 by decide, if_true]
    have e1 : max 0 (min (if (b : Int) < 0 then (b : Int) + (l.length : Int) else (b : Int)) (l.length : Int)) = (b : Int) := by
      rw [if_neg (by lia)]; lia
    have e2 : max 0 (min (if (a : Int) < 0 then (a : Int) + (l.length : Int) else (a : Int)) (l.length : Int)) = (a : Int) := by
      rw [if_neg (by lia)]; lia
    rw [e1, e2]
    exact sliceIdx_ab l.length a b
  unfold Txt.slice
  rw [mkS_len, e]
  split
  · rename_i hc
    have hc' : ((List.range (b - a)).map (a + ·)).length = l.length := by simpa using hc
    rw [List.length_map, List.length_range] at hc'
    have ha0 : a = 0 := by lia
    have hb0 : b = l.length := by lia
    subst ha0 hb0
    simp
  · show (⟨(((List.range (b - a)).map (a + ·)).filterMap (l.toArray[·]?)).toArray⟩ : PySem.Str) = mkS _
    rw [filt_ab l a b hb]; rfl
theorem stripF_bd (x : List Nat) : ∀ (its : List (Nat × List Nat)) (st : SSt), (∀ y ∈ st.2.2, y.length ≤ x.length) → ∀ y ∈ (its.foldl (stripStep x) st).2.2, y.length ≤ x.length
  | [], st, h => h
  | it :: its, st, h => by
    refine stripF_bd x its (stripStep x st it) ?_
    unfold stripStep
    split
    · split
      · exact h
      · rename_i o _
        dsimp only
        split
        · exact h
        · intro y hy
          rcases List.mem_append.mp hy with hy | hy
          · exact h y hy
          · rw [List.mem_singleton.mp hy, List.length_drop, List.length_take]; lia
    · exact h
theorem sjoin_flat : ∀ (sl : List (List Nat)), Str.join (PySem.Str.ofString "") (sl.map mkS) = mkS sl.flatten
  | [] => rfl
  | [a] => by
    show mkS a = _
    simp
  | a :: b :: r => by
    have ih := sjoin_flat (b :: r)
    have e : Str.join (PySem.Str.ofString "") ((a :: b :: r).map mkS) = mkS a ++ PySem.Str.ofString "" ++ Str.join (PySem.Str.ofString "") ((b :: r).map mkS) := rfl
    rw [e, ih]
    show (⟨(a.toArray ++ #[]) ++ ((b :: r).flatten).toArray⟩ : PySem.Str) = ⟨((a :: b :: r).flatten).toArray⟩
    simp
theorem join_flat (sl : List (List Nat)) : Txt.join (PySem.Str.ofString "") (sl.map mkS) = mkS sl.flatten :=
  (StrLaws.glued_eq_join _ _).trans (sjoin_flat sl)
theorem joinOk_bd {sl : List (List Nat)} {n : Nat} (h : ∀ y ∈ sl, y.length ≤ 100) (hn : sl.length ≤ n) (hn' : n ≤ 100) : JoinOk (PySem.Str.ofString "") (sl.map mkS) = true := by
  refine joinOk_of_weight ?_ (by decide)
  have key : ∀ (sl : List (List Nat)), (∀ y ∈ sl, y.length ≤ 100) → ((sl.map mkS).map (·.length)).sum ≤ 100 * sl.length := by
    intro sl
    induction sl with
    | nil => intro _; simp
    | cons a r ih =>
      intro h
      have h1 := h a (List.mem_cons_self ..)
      have h2 := ih (fun y hy => h y (List.mem_cons_of_mem _ hy))
      simp only [List.map_cons, List.sum_cons, List.length_cons, mkS_len]
      lia
  have := key sl h
  rw [List.length_map]
  lia
theorem bare_push {gs : Array GenState} {y : GenState} (h : Bare gs) (hy : y.bare = true) : Bare (gs.push y) := by
  intro z hz
  rcases Array.mem_push.mp hz with hz | hz
  · exact h z hz
  · rw [hz]; exact hy
end Mine
end

section
open PySem PySem.W PyProof.Rows PySem.Spec PySem.Calls
namespace Mine
abbrev ClG (lv : Nat) (w : World) (mean : ExcName → Option Value) (mg mb : PySem.Str → Option Value) (f : Addr) (pre : List (Addr × Obj) → Prop) (vs : List Value) (R : Tok → Value) : Prop :=
  ∀ (dp un : Nat) (gd : Option (List Code)) (cn : PySem.Str) (cs : Scope) (a : Addr) (ccd : Value) (cl : List (PySem.Str × Addr)) (outer : List Env) (A₀ : Around) (base h₀ : Heap) (L : Addr) (m : PySem.Str → Option Value) (news : List (Addr × Obj)) (s : Shared) (Q E : Value → Shared → Prop),
    Below A₀ base outer h₀ → Fr h₀ L s.heap m → (Mine.a.heap_1_1 w.params).In h₀ → News h₀ L s.heap news → Top Mine.a.view_1_2 (looseW Mine.a.view_1_2 [PySem.Str.ofString "COMPILER_FLAG_NAMES", PySem.Str.ofString "EXACT_TOKEN_TYPES"]) mean mg mb h₀ → cs.kind = .function →
    pre news → dp + 10 * lv < recursionLimit → un + 100 * lv < cLine → (∀ t h' tk gs, Fr h₀ L h' m → News h₀ L h' news → (Bare s.gens → Bare gs) → Q (R t) { s with heap := h', toks := tk, gens := gs }) →
      wpAny (model PySem.Challenge.pw_sn0048_01 w) (ktrTop dp un gd cn cs L a ccd cl outer) (call (.ref f) vs) Q E s
noncomputable def SJ (x : List Nat) (tA : Tok) (D : Addr) (news : List (Addr × Obj)) (items : List (Nat × List Nat)) (i : Nat) (m : PySem.Str → Option Value) (nx : List (Addr × Obj)) : Prop :=
  m (PySem.Str.ofString "addr") = some (.str (mkS x) tA) ∧ m (PySem.Str.ofString "result") = some (.ref D) ∧ (stripF x (items.take i)).1 ≤ x.length ∧ (∀ o, (stripF x (items.take i)).2.1 = some o → o < x.length) ∧
  ∃ l cnt ts opv, m (PySem.Str.ofString "start") = some (.int (((stripF x (items.take i)).1 : Nat) : Int) ts) ∧ m (PySem.Str.ofString "open_pos") = some opv ∧
    (match (stripF x (items.take i)).2.1 with | none => opv = .none | some o => ∃ t, opv = .int ((o : Nat) : Int) t) ∧
    nx = (D, listOf (PySem.strValues l).toArray cnt) :: news ∧ l.map (·.1) = (stripF x (items.take i)).2.2.map mkS ∧ l.length ≤ i
section
local macro_rules | `(tactic| k_all) => `(tactic| assumption)
local macro_rules | `(tactic| walk_at "exec For Tuple Call cons nil") => `(tactic| (refine StopW.mk ?_))
local macro_rules | `(tactic| walk_at "call ref") => `(tactic| (refine StopW.mk ?_))
local macro_rules | `(tactic| walk_at "TurnPost") => `(tactic| (dsimp only [TurnPost]))
set_option maxRecDepth 100000 in
set_option maxHeartbeats 8000000 in
theorem c_strip (w : World) (mean : ExcName → Option Value) (mg mb : PySem.Str → Option Value) (x : List Nat) (tx : CbTok) :
  ClG 2 w mean mg mb 43 (fun _ => x.length ≤ 24) [.str (mkS x) tx] (fun t => .str (mkS (stripL x)) t) := by
  (((have kf : PySem.Challenge.rw_sn0048_01 = PySem.Challenge.rw_sn0048_01 ∧ Mine.a.heap_1_1 = Mine.a.heap_1_1 := by (w_top off; k_with_none; k_fill; exact ⟨rfl, rfl⟩)); clear kf; dsimp only [ClG]; intros))
  rename_i news s Q E _ _ _ _ _ _ hpre _ _ hret
  have hlx := mkS_len x
  ((refine wpAny_call ?_; k_dflt cell_enter))
  k_steps
  · have ho := (by assumption : (Builtin.Str.occurrences (mkS x) (PySem.Str.ofString "\"") 0 (mkS x).length 1).isEmpty = true)
    rw [occ34] at ho
    have h34 : ¬ (34 ∈ x) := by simpa using ho
    have e : stripL x = x := if_neg h34
    rw [e] at hret
    rename Fr _ _ _ _ => F
    rename News _ _ _ _ => N
    exact hret _ _ _ _ F N (fun z => z)
  have ho := (by assumption : (Builtin.Str.occurrences (mkS x) (PySem.Str.ofString "\"") 0 (mkS x).length 1).isEmpty = false)
  rw [occ34] at ho
  have h34 : 34 ∈ x := by simpa using ho
  clear ho
  unfold StopW
  rename Fr _ _ _ _ => F
  rename News _ _ _ _ => N
  rename_i D _ hDn _
  with_unfolding_all refine for_G ?_
  k_steps
  unfold StopW
  refine wpAny_call ?_
  refine' gen_def ?F ?X ?N ?T ?ho ?hcd ?hroom ?hbind ?hloc ?_ ?hco ?hgen ?hk ?hcell
  case F => k_asm
  case X => k_asm
  case N => k_asm
  case T => k_asm
  case ho => k_is
  case hcd => k_is
  case hroom => ktr_room
  case hbind => exact BindsTo.of_eq rfl
  case hloc => exact locs rfl
  case hco => exact rfl
  case hgen => exact rfl
  case hk => exact rfl
  case hcell => decide
  intro C ga h1 tk1 hC hCa hK FC F1 N1 hLC hNC hIG
  dsimp only
  have hl := (by k_asm : Top Mine.a.view_1_2 (looseW Mine.a.view_1_2 [PySem.Str.ofString "COMPILER_FLAG_NAMES", PySem.Str.ofString "EXACT_TOKEN_TYPES"]) mean mg mb _)
  refine' esc_for (items := escL x 0 false) (K := ga + 1) (SJ x tx D news (escL x 0 false)) ?hh ?hroom (topRead_of hl).nolimit ?hxi ?hxv ?hp ?S hK.symm hCa rfl hLC F1 N1 hNC ?hj ?turn ?done
  case hh => exact rfl
  case hroom => ktr_room
  case hxi => exact rfl
  case hxv => exact rfl
  case hp => exact rfl
  case S =>
    refine' EscAt.start ?hh ?hk ?hla ?hle ?hlp ?hlc ?hda ?hde ?hdp ?hdc ?hec ?hep ?hpc ?hae ?hap ?hco ?hbs ?hload ?hx FC ?ha hIG hK.symm ?hg
    case hg => exact Array.getElem?_push_size ..
    case hh => exact rfl
    case hk => exact rfl
    case hla => exact rfl
    case hle => exact rfl
    case hlp => exact rfl
    case hlc => exact rfl
    case hda => decide
    case hde => decide
    case hdp => decide
    case hdc => decide
    case hec => decide
    case hep => decide
    case hpc => decide
    case hae => decide
    case hap => decide
    case hco => exact rfl
    case hbs => exact rfl
    case hload => exact fun A' E s m Q F q => nameX_B F (by k_asm) (topRead_of hl) (by k_is) boot_enumerate (by decide) q
    case hx => lia
    case ha => exact rfl
  case hj => exact ⟨rfl, rfl, Nat.zero_le _, fun o z => (by cases z), [], 0, _, _, rfl, rfl, rfl, rfl, rfl, Nat.le_refl _⟩
  case turn =>
    clear FC F1 N1 hIG hNC hK hCa hC hLC F N
    intro i p c m₁ news₁ h tk gs t1 t2 own hit hadr hoff hJ hB F N
    obtain ⟨ha, hr, hs1, hs2, l, cnt, ts, opv, hst, hop, hov, rfl, hl1, hl2⟩ := hJ
    have hpx := escL_pos x 0 false (p, c) (fun z => by cases z) (List.mem_of_getElem? hit)
    have hil := (List.getElem?_eq_some_iff.mp hit).1
    have hel := escL_len x 0 false
    have hnx := stripF_step (x := x) hit
    obtain ⟨st, hste⟩ : ∃ st, stripF x ((escL x 0 false).take i) = st := ⟨_, rfl⟩
    rw [hste] at hs1 hs2 hst hov hl1 hnx
    obtain ⟨sa, so, sl⟩ := st
    dsimp only at hs1 hs2 hst hov hl1
    have hsz : (PySem.strValues l).toArray.size ≤ sizeLine := by
      simp only [PySem.strValues, List.size_toArray, List.length_map]
      rw [sizeLine_eq]; lia
    have hne : ∀ p ∈ news ++ own, p.1 ≠ D := by
      intro p hp
      rcases List.mem_append.mp hp with hp | hp
      · exact Nat.ne_of_lt (hDn p hp)
      · exact fun e => hoff p hp D (by simp) e
    rw [List.cons_append] at N
    clear hadr hoff hl
    by_cases hc : c = [34]
    · have hcb : (mkS c == PySem.Str.ofString "\"") = true := by rw [hc]; rfl
      subst hc
      cases so with
      | none =>
        dsimp only at hov
        subst hov
        rw [mset ha, mset hr, mset hst, mset hop] at F
        dsimp only at F
        clear ha hr hst hop
        k_steps
        rename Fr _ _ _ _ => F'
        rename News _ _ _ _ => N'
        have hn : stripF x ((escL x 0 false).take (i + 1)) = (sa, some p, sl) := hnx
        refine te_cons F' N' rfl ⟨rfl, ?_⟩
        unfold SJ
        rw [hn]
        exact ⟨rfl, rfl, hs1, fun o z => by cases z; simpa using hpx, l, cnt, _, _, rfl, rfl, ⟨_, rfl⟩, rfl, hl1, by lia⟩
      | some o =>
        dsimp only at hov
        obtain ⟨t, rfl⟩ := hov
        have hos := hs2 o rfl
        rw [mset ha, mset hr, mset hst, mset hop] at F
        dsimp only at F
        clear ha hr hst hop
        have hpx' : p + 1 ≤ x.length := by
          have z : p < 0 + x.length := hpx
          lia
        k_steps
        · have hso : sa ≠ o := fun z => (by assumption : (sa : Int) ≠ (o : Int)) (by rw [z])
          rename Fr _ _ _ _ => F'
          rename News _ _ _ _ => N'
          have hn : stripF x ((escL x 0 false).take (i + 1)) = (p + 1, none, sl ++ [(x.take o).drop sa]) := by
            rw [hnx]; show (p + 1, none, if sa = o then sl else _) = _; rw [if_neg hso]
          have e : ∀ t', (PySem.strValues l).toArray.push (Value.str (Txt.slice (mkS x) (some (sa : Int)) (some (o : Int))) t') = (PySem.strValues (l ++ [(mkS ((x.take o).drop sa), t')])).toArray := by
            intro t'
            rw [slice_ab x sa o (by lia) hs1]; simp [PySem.strValues]
          rw [e] at N'
          rw [show ((p : Int) + 1) = ((p + 1 : Nat) : Int) by push_cast; rfl] at F'
          refine te_cons F' N' rfl ⟨rfl, ?_⟩
          unfold SJ
          rw [hn]
          exact ⟨rfl, rfl, hpx', fun o z => (nomatch z), _, _, _, _, rfl, rfl, rfl, rfl, (by rw [List.map_append, hl1, List.map_append]; rfl), (by rw [List.length_append]; exact Nat.succ_le_succ hl2)⟩
        · have hso : sa = o := Int.ofNat.inj (by assumption : (sa : Int) = (o : Int))
          rename Fr _ _ _ _ => F'
          rename News _ _ _ _ => N'
          have hn : stripF x ((escL x 0 false).take (i + 1)) = (p + 1, none, sl) := by
            rw [hnx]; show (p + 1, none, if sa = o then sl else _) = _; rw [if_pos hso]
          rw [show ((p : Int) + 1) = ((p + 1 : Nat) : Int) by push_cast; rfl] at F'
          refine te_cons F' N' rfl ⟨rfl, ?_⟩
          unfold SJ
          rw [hn]
          exact ⟨rfl, rfl, hpx', fun o z => (nomatch z), _, _, _, _, rfl, rfl, rfl, rfl, hl1, by lia⟩
    · have hcb : (mkS c == PySem.Str.ofString "\"") = false := by
        rw [beq_eq_false_iff_ne]; exact fun z => hc (mkS_inj (show mkS c = mkS [34] from z))
      rw [mset ha, mset hr, mset hst] at F
      dsimp only at F
      k_steps
      have hn : stripF x ((escL x 0 false).take (i + 1)) = (sa, so, sl) := by
        rw [hnx]; exact if_neg hc
      refine te_cons F N rfl ⟨rfl, ?_⟩
      unfold SJ
      rw [hn]
      exact ⟨rfl, rfl, hs1, hs2, l, cnt, _, _, rfl, hop, hov, rfl, hl1, by lia⟩
  case done =>
    clear FC F1 N1 hIG hNC hK hCa hC hLC F N
    intro m₁ news₁ h tk gs hJ hB F N
    obtain ⟨ha, hr, hs1, hs2, l, cnt, ts, opv, hst, hop, hov, rfl, hl1, hl2⟩ := hJ
    rw [List.take_length] at hs1 hst hl1
    have hbd := stripF_bd x (escL x 0 false) (0, none, []) (fun y hy => nomatch hy)
    have hres : stripL x = ((stripF x (escL x 0 false)).2.2 ++ (if (stripF x (escL x 0 false)).1 < x.length then [x.drop (stripF x (escL x 0 false)).1] else [])).flatten := if_pos h34
    have hel := escL_len x 0 false
    have hbd' : ∀ y ∈ (stripF x (escL x 0 false)).2.2, y.length ≤ 100 := fun y hy => Nat.le_trans (hbd y hy) (by lia)
    clear hbd
    generalize stripF x (escL x 0 false) = st at *
    obtain ⟨sa, so, sl⟩ := st
    dsimp only at hs1 hst hl1 hres hbd'
    have hsl : sl.length = l.length := by have := congrArg List.length hl1; simpa using this.symm
    have hsz : (PySem.strValues l).toArray.size ≤ sizeLine := by
      simp only [PySem.strValues, List.size_toArray, List.length_map]
      rw [sizeLine_eq]; lia
    rw [mset ha, mset hr, mset hst] at F
    dsimp only at F
    clear ha hr hst hop hov hs2
    k_steps
    · have hlt : sa < x.length := by rw [mkS_len] at *; lia
      rw [if_pos hlt] at hres
      rename News _ _ _ _ => nJ
      rename Fr _ _ _ _ => fJ
      have e : ∀ t', (PySem.strValues l).toArray.push (Value.str (Txt.slice (mkS x) (some (sa : Int)) none) t') = (PySem.strValues (l ++ [(mkS (x.drop sa), t')])).toArray := by
        intro t'
        rw [slice_from (mkS x) sa (by rw [mkS_len]; lia), cps_mkS]; simp [PySem.strValues]
      rw [e] at nJ
      refine' SC.join (texts := (sl ++ [x.drop sa]).map mkS) (News.isList nJ (.head _)) ?m2 (joinOk_bd (n := 30) ?m3 ?m4 (by decide)) ?_
      case m2 => rw [List.map_append, hl1, List.map_append]; rfl
      case m3 =>
        intro y hy
        rcases List.mem_append.mp hy with hy | hy
        · exact hbd' y hy
        · rw [List.mem_singleton.mp hy, List.length_drop]; lia
      case m4 => rw [List.length_append, hsl]; simp only [List.length_singleton]; lia
      intro t' k
      rw [join_flat, ← hres]
      k_steps
      rename Fr _ _ _ _ => F9
      rename News _ _ _ _ => N9
      exact hret _ _ _ _ F9 (cb_drop N9 (fun p hp => .tail _ hp)) (fun z => hB (bare_push z rfl))
    · have hlt : ¬ sa < x.length := by rw [mkS_len] at *; lia
      rw [if_neg hlt, List.append_nil] at hres
      refine' SC.join (texts := sl.map mkS) (News.isList N (.head _)) hl1 (joinOk_bd (n := 30) hbd' (by lia) (by decide)) ?_
      intro t' k
      rw [join_flat, ← hres]
      k_steps
      rename Fr _ _ _ _ => F9
      rename News _ _ _ _ => N9
      exact hret _ _ _ _ F9 (cb_drop N9 (fun p hp => .tail _ hp)) (fun z => hB (bare_push z rfl))
end
end Mine
end

section
open PySem PySem.W PyProof.Rows PySem.Spec PySem.Calls
namespace Mine
noncomputable def chk : List (Nat × List Nat) → Int → Bool
  | [], o => decide (o = 0)
  | it :: r, o => if it.2 = [40] then chk r (o + 1) else if it.2 = [41] then (if o - 1 < 0 then false else chk r (o - 1)) else chk r o
noncomputable def checkL (x : List Nat) : Bool := chk (escL (stripL x) 0 false) 0
noncomputable def CJ (R : Bool) (items : List (Nat × List Nat)) (news : List (Addr × Obj)) (i : Nat) (m : PySem.Str → Option Value) (nx : List (Addr × Obj)) : Prop :=
  nx = news ∧ ∃ o t, m (PySem.Str.ofString "opens") = some (.int o t) ∧ chk (items.drop i) o = R ∧ 0 ≤ o ∧ o ≤ (i : Int)
theorem mk_beq (c : List Nat) (k : Nat) (y : PySem.Str) (hy : y = mkS [k]) : (mkS c == y) = decide (c = [k]) := by
  subst hy
  by_cases h : c = [k]
  · rw [h]; simp
  · rw [decide_eq_false h, beq_eq_false_iff_ne]
    exact fun z => h (mkS_inj z)
theorem drop_get {α : Type} {l : List α} {i : Nat} {a : α} (h : l[i]? = some a) : l.drop i = a :: l.drop (i + 1) := by
  obtain ⟨hi, rfl⟩ := List.getElem?_eq_some_iff.mp h
  exact List.drop_eq_getElem_cons hi
theorem te_all {g h₁ h' : Heap} {L : Addr} {J : Array GenState → (PySem.Str → Option Value) → List (Addr × Obj) → Prop} {rest own : List (Addr × Obj)} {m' : PySem.Str → Option Value} {gs gs' : Array GenState} {d : Drawn} {os : OsState} {tk tk' : Nat} {adr : List Addr}
    (F : Fr g L h' m') (N : News g L h' (rest ++ own)) (ha : rest.map (·.1) = adr) (hJ : J gs' m' rest) :
    TurnEnd g L J own adr ⟨h₁, gs, d, tk, os⟩ ⟨h', gs', d, tk', os⟩ :=
  ⟨_, _, _, _, _, rest, rfl, F, N, fun p hp => List.mem_append.mpr (.inl hp), fun p hp => List.mem_append.mpr (.inr hp), ha, hJ⟩
section
local macro_rules | `(tactic| walk_at "exec For Tuple Call cons nil") => `(tactic| (refine StopW.mk ?_))
local macro_rules | `(tactic| walk_at "call ref") => `(tactic| (refine StopW.mk ?_))
local macro_rules | `(tactic| walk_at "TurnPost") => `(tactic| (dsimp only [TurnPost]))
set_option maxRecDepth 100000 in
set_option maxHeartbeats 8000000 in
theorem c_check (w : World) (mean : ExcName → Option Value) (mg mb : PySem.Str → Option Value) (x : List Nat) (tx : CbTok) :
  ClG 3 w mean mg mb 50 (fun _ => x.length ≤ 24 ∧ (stripL x).length ≤ 24) [.str (mkS x) tx] (fun _ => .bool (checkL x)) := by
  (((have kf : PySem.Challenge.rw_sn0048_01 = PySem.Challenge.rw_sn0048_01 ∧ Mine.a.heap_1_1 = Mine.a.heap_1_1 := by (w_top off; k_with_none; k_fill; exact ⟨rfl, rfl⟩)); clear kf; dsimp only [ClG]; intros))
  rename_i news s Q E _ _ _ _ _ _ hpre _ _ hret
  obtain ⟨hx1, hx2⟩ := hpre
  have hlx := mkS_len (stripL x)
  ((refine wpAny_call ?_; k_dflt cell_enter))
  k_steps
  unfold StopW
  ((k_here; k_dflt ((refine' (c_strip _ _ _ _ _ _) _ _ _ _ _ _ _ _ _ _ _ _ _ _ _ _ _ _ ?k1u35 ?k2u35 ?k3u35 ?k4u35 ?k5u35 ?kKu35 ?kpu35 ?kdu35 ?kuu35 ?kRu35); (case k1u35 => k_asm); (case k2u35 => k_asm); (case k3u35 => k_asm); (case k4u35 => k_asm); (case k5u35 => k_asm); (case kKu35 => first | exact rfl | assumption); (case kpu35 => (try dsimp only); first | trivial | k_extra "pre" | assumption | lia | l_fact); (case kdu35 => ktr_room); (case kuu35 => ktr_units); (intro _ _ _ _ _ _ _); (try dsimp only); (try k_fold))))
  have hR : chk (escL (stripL x) 0 false) 0 = checkL x := rfl
  generalize checkL x = R at *
  generalize stripL x = x' at *
  k_steps
  unfold StopW
  rename Fr _ _ _ _ => F
  rename News _ _ _ _ => N
  with_unfolding_all refine for_G ?_
  k_steps
  unfold StopW
  refine wpAny_call ?_
  refine' gen_def ?F ?X ?N ?T ?ho ?hcd ?hroom ?hbind ?hloc ?_ ?hco ?hgen ?hk ?hcell
  case F => k_asm
  case X => k_asm
  case N => k_asm
  case T => k_asm
  case ho => k_is
  case hcd => k_is
  case hroom => ktr_room
  case hbind => exact BindsTo.of_eq rfl
  case hloc => exact locs rfl
  case hco => exact rfl
  case hgen => exact rfl
  case hk => exact rfl
  case hcell => decide
  intro C ga h1 tk1 hC hCa hK FC F1 N1 hLC hNC hIG
  dsimp only
  have hl := (by k_asm : Top Mine.a.view_1_2 (looseW Mine.a.view_1_2 [PySem.Str.ofString "COMPILER_FLAG_NAMES", PySem.Str.ofString "EXACT_TOKEN_TYPES"]) mean mg mb _)
  refine' esc_for (items := escL x' 0 false) (K := ga + 1) (CJ R (escL x' 0 false) news) ?hh ?hroom (topRead_of hl).nolimit ?hxi ?hxv ?hp ?S hK.symm hCa rfl hLC F1 N1 hNC ?hj ?turn ?done
  case hh => exact rfl
  case hroom => ktr_room
  case hxi => exact rfl
  case hxv => exact rfl
  case hp => exact rfl
  case S =>
    refine' EscAt.start ?hh ?hk ?hla ?hle ?hlp ?hlc ?hda ?hde ?hdp ?hdc ?hec ?hep ?hpc ?hae ?hap ?hco ?hbs ?hload ?hx FC ?ha hIG hK.symm ?hg
    case hg => exact Array.getElem?_push_size ..
    case hh => exact rfl
    case hk => exact rfl
    case hla => exact rfl
    case hle => exact rfl
    case hlp => exact rfl
    case hlc => exact rfl
    case hda => decide
    case hde => decide
    case hdp => decide
    case hdc => decide
    case hec => decide
    case hep => decide
    case hpc => decide
    case hae => decide
    case hap => decide
    case hco => exact rfl
    case hbs => exact rfl
    case hload => exact fun A' E s m Q F q => nameX_B F (by k_asm) (topRead_of hl) (by k_is) boot_enumerate (by decide) q
    case hx => lia
    case ha => exact rfl
  case hj => exact ⟨rfl, 0, _, rfl, hR, Int.le_refl _, Int.le_refl _⟩
  case turn =>
    clear FC F1 N1 hIG hNC hK hCa hC hLC F N hR
    intro i p c m₁ news₁ h tk gs t1 t2 own hit hadr hoff hJ hB F N
    obtain ⟨rfl, o, t, ho, hck, ho1, ho2⟩ := hJ
    rw [drop_get hit] at hck
    have h40 := mk_beq c 40 (PySem.Str.ofString "(") rfl
    have h41 := mk_beq c 41 (PySem.Str.ofString ")") rfl
    have hil := (List.getElem?_eq_some_iff.mp hit).1
    have hel := escL_len x' 0 false
    rw [mset ho] at F
    dsimp only at F
    clear ho hadr hoff hl
    by_cases c40 : c = [40]
    · rw [decide_eq_true c40] at h40
      have hck' : chk ((escL x' 0 false).drop (i + 1)) (o + 1) = R := by rw [← hck]; exact (if_pos c40).symm
      k_steps
      rename Fr _ _ _ _ => F'
      rename News _ _ _ _ => N'
      exact te_all F' N' rfl ⟨rfl, rfl, _, _, rfl, hck', by lia, by lia⟩
    rw [decide_eq_false c40] at h40
    by_cases c41 : c = [41]
    · rw [decide_eq_true c41] at h41
      have hck' : (if o - 1 < 0 then false else chk ((escL x' 0 false).drop (i + 1)) (o - 1)) = R := by
        rw [← hck]; exact ((if_neg c40).trans (if_pos c41)).symm
      k_steps
      · rw [if_pos (by assumption)] at hck'
        subst hck'
        rename Fr _ _ _ _ => F'
        rename News _ _ _ _ => N'
        exact hret (0 : Nat) _ _ _ F' (cb_drop N' (fun p hp => List.mem_append.mpr (.inl hp))) (fun z => hB (bare_push ((by assumption : Bare s.gens → Bare _) z) rfl))
      · rw [if_neg (by assumption)] at hck'
        rename Fr _ _ _ _ => F'
        rename News _ _ _ _ => N'
        exact te_all F' N' rfl ⟨rfl, rfl, _, _, rfl, hck', by lia, by lia⟩
    · rw [decide_eq_false c41] at h41
      have hck' : chk ((escL x' 0 false).drop (i + 1)) o = R := by
        rw [← hck]; exact ((if_neg c40).trans (if_neg c41)).symm
      k_steps
      exact te_all F N rfl ⟨rfl, rfl, _, _, rfl, hck', by lia, by lia⟩
  case done =>
    clear FC F1 N1 hIG hNC hK hCa hC hLC F N hR
    intro m₁ news₁ h tk gs hJ hB F N
    obtain ⟨rfl, o, t, ho, hck, ho1, ho2⟩ := hJ
    rw [List.drop_length] at hck
    rw [mset ho] at F
    clear ho
    have hck' : decide (o = 0) = R := hck
    subst hck'
    k_steps
    all_goals
      rename Fr _ _ _ _ => F'
      rename News _ _ _ _ => N'
      exact hret (0 : Nat) _ _ _ F' N' (fun z => hB (bare_push ((by assumption : Bare s.gens → Bare _) z) rfl))
end
end Mine
end

section
open PySem PySem.W PyProof.Rows PySem.Spec PySem.Calls
namespace Mine
section
variable {prog : Program} {w : World} {A : Around} {s : Shared} {h₀ : Heap} {L : Addr} {m : PySem.Str → Option Value} {env : Env}
theorem comp_all {elt : Expr} {x : PySem.Str} {scope : Scope} {cl : List (PySem.Str × Addr)} {S : List (Addr × Obj) → Prop} {P : Nat → Value → Prop} {Fin : List Value → List (Addr × Obj) → Prop} {news : List (Addr × Obj)} (spec : Nat → Value → Prop) (n : Nat) (hS : S news)
    (el : ∀ i v I oI C oC D ys m₂ h tk (Q : Value → Shared → Prop) (E' : Value → Shared → Prop), i < n → P i v → LCg.NsObj oC m₂ → m₂ x = some v → Fr h₀ L h m → News h₀ L h ((I, oI) :: (C, oC) :: (D, LCg.lst ys) :: news) →
      (∀ y h' tk', spec i y → Fr h₀ L h' m → News h₀ L h' ((I, oI) :: (C, oC) :: (D, LCg.lst ys) :: news) → Q y { s with heap := h', toks := tk' }) →
      wpAny (model prog w) A (eval elt (compEnvC scope cl C env)) Q E' { s with heap := h, toks := tk })
    (fin : ∀ ys : List Value, ys.length = n → (∀ i y, ys[i]? = some y → spec i y) → Fin ys news) :
    LCg.CompRest prog w A h₀ L m env elt x scope cl s S P Fin n 0 [] news := by
  have key : ∀ k i (ys : List Value), i + k = n → ys.length = i → (∀ j y, ys[j]? = some y → spec j y) → LCg.CompRest prog w A h₀ L m env elt x scope cl s S P Fin k i ys news := by
    intro k
    induction k with
    | zero =>
      intro i ys hik hl hy
      exact LCg.CompRest.zero (fin ys (by omega) hy)
    | succ k ih =>
      intro i ys hik hl hy
      refine LCg.CompRest.succ fun v I oI C oC D m₂ h tk E' hP hN hx F N off hne => ?_
      refine el i v I oI C oC D ys m₂ h tk _ E' (by omega) hP hN hx F N (fun y h' tk' hs F' N' => ?_)
      refine ⟨h', tk', news, rfl, F', N', off, hS, ih (i + 1) (ys ++ [y]) (by omega) (by rw [List.length_append, hl]; rfl) (fun j z hz => ?_)⟩
      rcases Nat.lt_trichotomy j ys.length with hj | hj | hj
      · rw [List.getElem?_append_left hj] at hz; exact hy j z hz
      · subst hj
        rw [List.getElem?_append_right (Nat.le_refl _), Nat.sub_self] at hz
        cases hz
        rw [hl]; exact hs
      · rw [List.getElem?_append_right (Nat.le_of_lt hj)] at hz
        have : ([y] : List Value)[j - ys.length]? = none := List.getElem?_eq_none (by simp; omega)
        rw [this] at hz; cases hz
  exact key n 0 [] (by omega) rfl (fun j y hz => by simp at hz)
end
end Mine
end

section
open PySem PySem.W PyProof.Rows PySem.Spec PySem.Calls
namespace Mine
theorem ints_mem : ∀ {vs : List Value} {ns : List Int}, IntsAre vs ns → ∀ v ∈ vs, ∃ n t, v = Value.int n t
  | _, _, .nil, v, h => nomatch h
  | _, _, .cons n t r, v, h => by
    rcases List.mem_cons.mp h with rfl | h
    · exact ⟨n, t, rfl⟩
    · exact ints_mem r v h
theorem ints_mk (P : Int → Prop) : ∀ (ys : List Value), (∀ (i : Nat) (y : Value), ys[i]? = some y → ∃ n t, y = Value.int n t ∧ P n) → ∃ ks, IntsAre ys ks ∧ (∀ k ∈ ks, P k) ∧ ks.length = ys.length
  | [], _ => ⟨[], .nil, fun _ h => (nomatch h), rfl⟩
  | y :: r, h => by
    obtain ⟨n, t, rfl, hn⟩ := h 0 y rfl
    obtain ⟨ks, h1, h2, h3⟩ := ints_mk P r (fun i y hy => h (i+1) y hy)
    refine ⟨n :: ks, .cons n t h1, fun k hk => ?_, by simp [h3]⟩
    rcases List.mem_cons.mp hk with rfl | hk
    · exact hn
    · exact h2 k hk
theorem slicePick_mem {items : Array Value} {lo hi st : Option Int} {v : Value} (h : v ∈ (slicePick items lo hi st).toList) : v ∈ items.toList := by
  unfold slicePick at h
  simp only [List.toList_toArray] at h
  obtain ⟨i, _, hi⟩ := List.mem_filterMap.mp h
  exact Array.mem_toList_iff.mpr (Array.mem_of_getElem? hi)
section
variable {prog : Program} {w : World} {A : Around} {E : Value → Shared → Prop} {s : Shared} {h₀ : Heap} {L l a : Addr} {m : PySem.Str → Option Value} {news : List (Addr × Obj)} {cn : PySem.Str} {cs : Scope} {ccd : Value} {cl : List (PySem.Str × Addr)}
theorem comp_mod {xn xs : PySem.Str} {i j M : Int} {k0 k1 k2 k3 : Nat} {vs : List Value} {ns : List Int} {scope : Scope} {p1 p2 p3 p4 p5 p6 p7 p8 p9 p10 p11 : Pos} {Q : Value → Shared → Prop}
    (hh : A.handled = none) (F : Fr h₀ L s.heap m) (N : News h₀ L s.heap news) (hxs : m xs = some (.ref l)) (hl : h₀.IsList l vs.toArray) (hi : IntsAre vs ns) (hlen : ns.length ≤ 63) (hM : 0 < M)
    (hk : cs.kind = .function) (hx : (envX cn cs L a ccd cl).kindOf xs = some .local) (hd : (xs == ("__debug__" : PySem.Str)) = false) (hdn : (xn == ("__debug__" : PySem.Str)) = false)
    (hclos : closureFor scope (envX cn cs L a ccd cl) = pure []) (hcell : ∀ y ∈ scope.names, y.2 ≠ .cell) (hkind : scope.kind = .function)
    (hnames : ∀ y ∈ scope.names, y.2 = .local → scope.names.lookup y.1 = some .local) (hxn : scope.names.lookup xn = some .local)
    (hkn : ∀ C, (compEnvC scope [] C (envX cn cs L a ccd cl)).kindOf xn = some .local)
    (hpick : (slicePick vs.toArray (some i) (some j) (some 3)).size ≤ 63)
    (h : ∀ D ys ks h' tk, Fr h₀ L h' m → News h₀ L h' ((D, listOf (List.toArray ys) ys.length) :: news) → (∀ p ∈ news, p.1 ≠ D) → IntsAre ys ks → (∀ k ∈ ks, 0 ≤ k ∧ k < M) → ks.length ≤ 63 → Q (.ref D) { s with heap := h', toks := tk }) :
    wpAny (model prog w) A (eval (.ListComp (.BinOp (.Name xn p1) .Mod (.Constant (.int M) k0 p2) p3) [⟨.Name xn p4, .Subscript (.Name xs p5) (.Slice (some (.Constant (.int i) k1 p6)) (some (.Constant (.int j) k2 p7)) (some (.Constant (.int 3) k3 p8)) p9) p10, [], 0⟩] scope p11) (envX cn cs L a ccd cl)) Q E s := by
  refine LCg.ListComp_U F hclos hcell hkind hnames hxn ?_
  refine Subscript_ ?_
  refine nameX_L F hxs ?_ hk hx hd
  refine wpAny_Slice ?_
  refine evalPart_some_step ?_
  refine wpAny_Constant_int ?_
  refine evalPart_some_step ?_
  refine wpAny_Constant_int ?_
  refine evalPart_some_step ?_
  refine wpAny_Constant_int ?_
  have hls : s.heap.IsList l vs.toArray := hl.at fun o e => F.keep l o e
  refine slice_list3 (s := { s with toks := s.toks + 1 + 1 + 1 }) F N hls (.int i _) (.int j _) (.int 3 _) (by decide) (fun h₁ F₁ N₁ => ?_) (by with_unfolding_all rfl) (by intro _; with_unfolding_all rfl) (by rw [sizeLine_eq, List.size_toArray, hi.length]; lia)
  refine LCg.CompSrc.ledger hh F₁ N₁ (.head _) (by rw [sizeLine_eq]; lia) (fun g => ?_)
  refine comp_all (fun _ y => ∃ n t, y = .int n t ∧ (0 ≤ n ∧ n < M)) _ (.inr ⟨_, .head _, rfl, _, rfl⟩) ?_ ?_
  · intro q v I oI C oC D ys m₂ h₂ tk Q' E' hq hP hN hxv F₂ N₂ hQ
    have hv : v ∈ vs := by
      have := slicePick_mem (Array.mem_toList_iff.mpr (Array.mem_of_getElem? hP))
      simpa using this
    obtain ⟨n, t, rfl⟩ := ints_mem hi v hv
    refine wpAny_BinOp ?_
    refine LCgL.ld_own (m₂ := m₂) (oC := oC) N₂ (.tail _ (.head _)) hN hxv ?_ (by simp [compEnvC, relabel, hkind]) (hkn C) hdn
    refine wpAny_Constant_int ?_
    refine mod_int (by lia) ?_
    refine hQ _ _ _ ⟨_, _, rfl, ?_⟩ F₂ N₂
    rw [Int.fmod_eq_emod_of_nonneg _ (by lia)]
    exact ⟨Int.emod_nonneg _ (by lia), Int.emod_lt_of_pos _ hM⟩
  · intro ys hyl hy D h₂ tk F₂ N₂ off
    obtain ⟨ks, h1, h2, h3⟩ := ints_mk (fun n => 0 ≤ n ∧ n < M) ys hy
    refine h D ys ks h₂ tk F₂ (fun p hp => N₂ p ?_) (fun p hp => ?_) h1 h2 (by rw [h3, hyl]; exact hpick)
    · rcases List.mem_cons.mp hp with rfl | hp
      · exact .head _
      · exact .tail _ (.tail _ hp)
    · have key : ∀ (l : List (Addr × Obj)), LCg.Off1 D l → ∀ p ∈ l, p.1 ≠ D := by
        intro l
        induction l with
        | nil => intro _ p hp; cases hp
        | cons q r ih =>
          intro ho p hp
          rcases List.mem_cons.mp hp with rfl | hp
          · exact ho.1
          · exact ih ho.2 p hp
      exact key _ off p (.tail _ hp)
end
end Mine
namespace Mine
theorem pick_le {vs : List Value} {ns : List Int} (hi : IntsAre vs ns) (h : ns.length ≤ 63) (lo hi' st : Option Int) : (slicePick vs.toArray lo hi' st).size ≤ 63 := by
  have := slicePick_size_le vs.toArray lo hi' st
  have e : vs.toArray.size = ns.length := by rw [List.size_toArray, hi.length]
  exact Nat.le_trans this (by lia)
theorem sum_nonneg : ∀ (ks : List Int) (M : Int), (∀ k ∈ ks, 0 ≤ k ∧ k < M) → 0 ≤ ks.sum
  | [], _, _ => by simp
  | k :: r, M, h => by
    have h1 := (h k (List.mem_cons_self ..)).1
    have h2 := sum_nonneg r M (fun z hz => h z (List.mem_cons_of_mem _ hz))
    simp only [List.sum_cons]; lia
theorem fmod_ex (c M : Int) (hc : 0 ≤ c) (hM : 0 < M) (ks : List Int) (h : ∀ k ∈ ks, 0 ≤ k ∧ k < M) : ∃ x, (c + ks.sum).fmod M = x ∧ 0 ≤ x ∧ x < M := by
  have := sum_nonneg ks M h
  refine ⟨_, rfl, ?_⟩
  rw [Int.fmod_eq_emod_of_nonneg _ (by lia)]
  exact ⟨Int.emod_nonneg _ (by lia), Int.emod_lt_of_pos _ hM⟩
end Mine
end

section
open PySem PySem.W PyProof.Rows PySem.Spec PySem.Calls
namespace Mine
theorem octs_len (n : Int) : (octs n).length ≤ 3 := by
  unfold octs; split
  · simp
  · split <;> simp
theorem octs_in (n : Int) (h0 : 0 ≤ n) (h1 : n < 16384) : ∀ k ∈ octs n, 0 ≤ k ∧ k < 256 := by
  intro k hk
  unfold octs at hk
  split at hk
  · simp at hk; lia
  · split at hk
    · simp at hk; lia
    · simp at hk; lia
end Mine
namespace Mine
theorem pos_at {l a b c : List Int} (e : l = a ++ b ++ c) {i : Nat} (hi : i = a.length) : ∀ (j : Nat) (k : Int), b[j]? = some k → l[i + j]? = some k := by
  intro j k h
  subst e hi
  have hj := (List.getElem?_eq_some_iff.mp h).1
  rw [List.append_assoc, List.getElem?_append_right (by lia), Nat.add_sub_cancel_left, List.getElem?_append_left hj]
  exact h
end Mine
namespace Mine
theorem ne4 {D a b c d : Addr} {oa ob oc od : Obj} (h : a < D ∧ b < D ∧ c < D ∧ d < D) : ∀ p ∈ ([(a, oa), (b, ob), (c, oc), (d, od)] : List (Addr × Obj)), p.1 ≠ D := by
  intro p hp
  simp only [List.mem_cons, List.not_mem_nil, or_false] at hp
  rcases hp with rfl | rfl | rfl | rfl
  · exact Nat.ne_of_lt h.1
  · exact Nat.ne_of_lt h.2.1
  · exact Nat.ne_of_lt h.2.2.1
  · exact Nat.ne_of_lt h.2.2.2
end Mine
end

section
open PySem PySem.W PyProof.Rows PySem.Spec PySem.Calls
namespace Mine
theorem intsAre_snoc : ∀ {ys : List Value} {ks : List Int}, IntsAre ys ks → ∀ (n : Int) (t : Tok), IntsAre (ys ++ [.int n t]) (ks ++ [n])
  | _, _, .nil, n, t => .cons n t .nil
  | _, _, .cons k u r, n, t => .cons k u (intsAre_snoc r n t)
theorem filt_succ (p : Nat → Bool) (f : Nat → Int) (i : Nat) : ((List.range (i+1)).filter p).map f = if p i = true then ((List.range i).filter p).map f ++ [f i] else ((List.range i).filter p).map f := by
  rw [List.range_succ, List.filter_append]
  by_cases h : p i = true
  · simp [h]
  · simp [h]
section
variable {prog : Program} {w : World} {A : Around} {s : Shared} {h₀ : Heap} {L : Addr} {m : PySem.Str → Option Value} {env : Env}
theorem comp_allT {ct elt : Expr} {x : PySem.Str} {scope : Scope} {cl : List (PySem.Str × Addr)} {S : List (Addr × Obj) → Prop} {P : Nat → Value → Prop} {Fin : List Value → List (Addr × Obj) → Prop} {news : List (Addr × Obj)} (p : Nat → Bool) (f : Nat → Int) (n : Nat) (hS : S news)
    (el : ∀ i v I oI C oC D ys m₂ h tk (R' : Shared → Prop) (R : Value → Shared → Prop) (E' : Value → Shared → Prop), i < n → P i v → LCg.NsObj oC m₂ → m₂ x = some v → Fr h₀ L h m → News h₀ L h ((I, oI) :: (C, oC) :: (D, LCg.lst ys) :: news) →
      (∀ h' tk', p i = false → Fr h₀ L h' m → News h₀ L h' ((I, oI) :: (C, oC) :: (D, LCg.lst ys) :: news) → R' { s with heap := h', toks := tk' }) →
      (∀ t h' tk', p i = true → Fr h₀ L h' m → News h₀ L h' ((I, oI) :: (C, oC) :: (D, LCg.lst ys) :: news) → R (.int (f i) t) { s with heap := h', toks := tk' }) →
      wpAny (model prog w) A (isTrue ct (compEnvC scope cl C env) (eval ct (compEnvC scope cl C env))) (fun ok s' => if ok = true then
        wpAny (model prog w) A (eval elt (compEnvC scope cl C env)) R E' s' else R' s') E' { s with heap := h, toks := tk })
    (fin : ∀ ys : List Value, IntsAre ys (((List.range n).filter p).map f) → Fin ys news) :
    LCt.CompRestT prog w A h₀ L m env ct elt x scope cl s S P Fin n 0 [] news := by
  have key : ∀ k i (ys : List Value), i + k = n → IntsAre ys (((List.range i).filter p).map f) → LCt.CompRestT prog w A h₀ L m env ct elt x scope cl s S P Fin k i ys news := by
    intro k
    induction k with
    | zero =>
      intro i ys hik hy
      have : i = n := by lia
      subst this
      exact LCt.CompRestT.zero (fin ys hy)
    | succ k ih =>
      intro i ys hik hy
      refine LCt.CompRestT.succ fun v I oI C oC D m₂ h tk E' hP hN hx F N off hne => ?_
      refine el i v I oI C oC D ys m₂ h tk _ _ E' (by lia) hP hN hx F N (fun h' tk' hp F' N' => ?_) (fun t h' tk' hp F' N' => ?_)
      · refine ⟨h', tk', news, rfl, F', N', off, hS, ih (i + 1) ys (by lia) ?_⟩
        rw [filt_succ, hp]; simpa using hy
      · refine ⟨h', tk', news, rfl, F', N', off, hS, ih (i + 1) (ys ++ [.int (f i) t]) (by lia) ?_⟩
        rw [filt_succ, if_pos hp]; exact intsAre_snoc hy _ _
  exact key n 0 [] (by lia) .nil
end
end Mine
end

section
open PySem PySem.W PyProof.Rows PySem.Spec PySem.Calls
namespace Mine
noncomputable def powP (z : Int) (i : Nat) : Bool := decide (((2 * z + 1).fdiv (2 ^ (0 + (i : Int)).toNat)).fmod 2 = 1)
noncomputable def powF (i : Nat) : Int := 2 ^ (0 + (i : Int)).toNat
noncomputable def powL (z : Int) : List Int := ((List.range 15).filter (powP z)).map powF
theorem pow_test (z : Int) (hz : 0 ≤ z) (i : Nat) : powP z i = (2 * z + 1).toNat.testBit i := by
  unfold powP
  obtain ⟨n, hn⟩ : ∃ n : Nat, 2 * z + 1 = (n : Int) := ⟨(2 * z + 1).toNat, by lia⟩
  have e : (0 + (i : Int)).toNat = i := by lia
  rw [hn, e, Int.toNat_natCast]
  have e1 : ((n : Int)).fdiv (2 ^ i) = ((n / 2 ^ i : Nat) : Int) := by
    rw [Int.fdiv_eq_ediv_of_nonneg _ (by exact_mod_cast Nat.zero_le (2 ^ i))]
    push_cast; rfl
  rw [e1, Int.fmod_eq_emod_of_nonneg _ (by lia), Nat.testBit_eq_decide_div_mod_eq]
  apply decide_eq_decide.mpr
  lia
theorem powL_eq (z : Int) (hz : 0 ≤ z) : powL z = ((List.range 15).filter (fun i => (2 * z + 1).toNat.testBit i)).map (fun i => ((2 ^ i : Nat) : Int)) := by
  unfold powL
  rw [show powP z = (fun i => (2 * z + 1).toNat.testBit i) from funext fun i => pow_test z hz i]
  apply List.map_congr_left
  intro i _
  unfold powF
  have e : (0 + (i : Int)).toNat = i := by lia
  rw [e]; push_cast; rfl
theorem powL_mem {z : Int} (hz : 0 ≤ z) {k : Int} (h : k ∈ powL z) : 1 ≤ k ∧ k < 32768 := by
  rw [powL_eq z hz] at h
  obtain ⟨i, hi, rfl⟩ := List.mem_map.mp h
  have hi := List.mem_range.mp (List.mem_filter.mp hi).1
  have h1 : 2 ^ i ≤ 2 ^ 14 := Nat.pow_le_pow_right (by lia) (by lia)
  have h2 : 0 < 2 ^ i := Nat.two_pow_pos i
  constructor <;> lia
theorem powL_len {z : Int} (hz : 0 ≤ z) : (powL z).length ≤ 15 := by
  rw [powL_eq z hz, List.length_map]
  exact Nat.le_trans (List.length_filter_le _ _) (by simp)
theorem pretty_pow : ∀ i, i < 15 → pretty (2 ^ i) = nmL.getD i "" := by decide +kernel
theorem pretty_sum (z : Int) (hz : 0 ≤ z) : Txt.join (PySem.Str.ofString ", ") ((powL z).map (fun k => pretty k.toNat)) = pretty (2 * z + 1).toNat := by
  rw [powL_eq z hz, List.map_map]
  unfold pretty
  congr 1
  unfold nmU
  apply List.map_congr_left
  intro i hi
  have hi := List.mem_range.mp (List.mem_filter.mp hi).1
  exact pretty_pow i hi
theorem joinOk_pow {ks : List Int} (hn : ks.length ≤ 15) : JoinOk (PySem.Str.ofString ", ") (ks.map (fun k => pretty k.toNat)) = true := by
  unfold JoinOk
  have h1 := foldl_bd (·.length) (PySem.Str.ofString ", ").length 300 (ks.map (fun k => pretty k.toNat)) 0 (by
    intro x hx
    obtain ⟨i, _, rfl⟩ := List.mem_map.mp hx
    exact pretty_len _)
  have h3 : (PySem.Str.ofString ", ").length = 2 := by decide +kernel
  rw [List.length_map] at h1
  rw [h3] at h1
  rw [List.foldl_toArray, h3]
  have h4 : ks.length * (300 + 2) ≤ 4530 := by lia
  have h5 : PySem.Builtin.Str.tooLong ((ks.map (fun k => pretty k.toNat)).foldl (fun acc x => acc + x.length + 2) 0) = false := by
    unfold PySem.Builtin.Str.tooLong
    simp only [decide_eq_false_iff_not, sizeLine_eq, gt_iff_lt, Nat.not_lt, ge_iff_le, Nat.not_le]; lia
  rw [h5]; rfl
theorem strs_mk (f : Nat → PySem.Str) : ∀ (ys : List Value) (o : Nat), (∀ (i : Nat) (y : Value), ys[i]? = some y → ∃ t, y = Value.str (f (o + i)) t) → ∃ l : List (PySem.Str × Tok), ys = strValues l ∧ l.map (·.1) = (List.range ys.length).map (fun i => f (o + i))
  | [], _, _ => ⟨[], rfl, rfl⟩
  | y :: r, o, h => by
    obtain ⟨t, rfl⟩ := h 0 y rfl
    obtain ⟨l, h1, h2⟩ := strs_mk f r (o + 1) (fun i y hy => by
      have := h (i + 1) y hy
      rwa [show o + (i + 1) = o + 1 + i by lia] at this)
    refine ⟨(f (o + 0), t) :: l, by rw [h1]; rfl, ?_⟩
    rw [List.map_cons, h2, List.length_cons, List.range_succ_eq_map, List.map_cons, List.map_map]
    refine congrArg _ (List.map_congr_left fun i _ => ?_)
    show f (o + 1 + i) = f (o + (i + 1))
    rw [show o + 1 + i = o + (i + 1) by lia]
theorem ints_get : ∀ {vs : List Value} {ns : List Int}, IntsAre vs ns → ∀ (i : Nat) (v : Value), vs[i]? = some v → ∃ n t, ns[i]? = some n ∧ v = Value.int n t
  | _, _, .nil, i, v, h => by simp at h
  | _, _, .cons n t r, 0, v, h => by cases h; exact ⟨n, t, rfl, rfl⟩
  | _, _, .cons n t r, i + 1, v, h => ints_get r i v h
end Mine
namespace Mine
theorem strs_of {α : Type} (g : α → PySem.Str) : ∀ (ys : List Value) (ps : List α), ys.length = ps.length → (∀ (i : Nat) (y : Value), ys[i]? = some y → ∃ k, ps[i]? = some k ∧ ∃ t, y = Value.str (g k) t) → ∃ l : List (PySem.Str × Tok), ys = strValues l ∧ l.map (·.1) = ps.map g
  | [], [], _, _ => ⟨[], rfl, rfl⟩
  | [], _ :: _, h, _ => by simp at h
  | _ :: _, [], h, _ => by simp at h
  | y :: r, p :: ps, hl, h => by
    obtain ⟨k, hk, t, rfl⟩ := h 0 y rfl
    cases hk
    obtain ⟨l, h1, h2⟩ := strs_of g r ps (by simpa using hl) (fun i y hy => h (i + 1) y hy)
    exact ⟨(g p, t) :: l, by rw [h1]; rfl, by rw [List.map_cons, h2]; rfl⟩
end Mine
namespace Mine
theorem ints_of2 (f : Nat → Int) : ∀ (ys : List Value) (o : Nat), (∀ (i : Nat) (y : Value), ys[i]? = some y → ∃ t, y = Value.int (f (o + i)) t) → IntsAre ys ((List.range ys.length).map (fun i => f (o + i)))
  | [], _, _ => .nil
  | y :: r, o, h => by
    obtain ⟨t, rfl⟩ := h 0 y rfl
    have := ints_of2 f r (o + 1) (fun i y hy => by
      have := h (i + 1) y hy
      rwa [show o + (i + 1) = o + 1 + i by lia] at this)
    rw [List.length_cons, List.range_succ_eq_map, List.map_cons, List.map_map]
    have e : (List.range r.length).map ((fun i => f (o + i)) ∘ Nat.succ) = (List.range r.length).map (fun i => f (o + 1 + i)) := by
      refine List.map_congr_left fun i _ => ?_
      show f (o + (i + 1)) = f (o + 1 + i)
      rw [show o + 1 + i = o + (i + 1) by lia]
    rw [e]
    exact .cons _ t this
noncomputable def oddL (lo : Int) : List Int := (List.range 7).map (fun (i : Nat) => odd (lo + (i : Int)))
theorem oddL_ints {ys : List Value} {lo : Int} (hl : ys.length = 7) (h : ∀ (i : Nat) (y : Value), ys[i]? = some y → ∃ t, y = Value.int (odd (lo + (i : Int))) t) : IntsAre ys (oddL lo) := by
  have := ints_of2 (fun i => odd (lo + (i : Int))) ys 0 (fun i y hy => by simpa using h i y hy)
  rw [hl] at this
  simpa [oddL] using this
theorem oddL_len (lo : Int) : (oddL lo).length = 7 := by simp [oddL]
end Mine
end

section
open PySem PySem.W PyProof.Rows PySem.Spec PySem.Calls
namespace Mine
noncomputable def brN (p : Int) : Nat := if wn (2*p+1) % 2 = 1 then 40 else 41
noncomputable def rowL (b : Int) (k : Nat) : List Nat := (List.range k).map (fun (i : Nat) => brN (b + (i : Int)))
theorem mkS_app (a b : List Nat) : mkS a ++ mkS b = mkS (a ++ b) := by
  show (⟨a.toArray ++ b.toArray⟩ : PySem.Str) = _
  rw [List.append_toArray]; rfl
theorem br_mk (p : Int) : br p = mkS [brN p] := by
  unfold br brN; split <;> decide +kernel
theorem rowS_mk (b : Int) : ∀ k, rowS b k = mkS (rowL b k)
  | 0 => by show PySem.Str.ofString "" = mkS []; decide +kernel
  | k+1 => by
    show rowS b k ++ br (b + (k : Int)) = _
    rw [rowS_mk b k, br_mk, mkS_app]
    unfold rowL
    rw [List.range_succ, List.map_append]; rfl
theorem rowL_len (b : Int) (k : Nat) : (rowL b k).length = k := by simp [rowL]
theorem rowL_mem {b : Int} {k c : Nat} (h : c ∈ rowL b k) : c = 40 ∨ c = 41 := by
  unfold rowL at h
  obtain ⟨i, _, rfl⟩ := List.mem_map.mp h
  unfold brN; split
  · exact .inl rfl
  · exact .inr rfl
theorem cnt_step : ∀ (k n : Nat), ((List.range (k+1)).filter (fun i => n.testBit i)).length = n % 2 + ((List.range k).filter (fun i => (n/2).testBit i)).length := by
  intro k n
  rw [List.range_succ_eq_map, List.filter_cons, List.filter_map, ]
  have e : ((fun i => n.testBit i) ∘ Nat.succ) = (fun i => (n/2).testBit i) := by
    funext i
    show n.testBit (i+1) = _
    rw [Nat.testBit_succ]
  rw [e]
  by_cases h : n.testBit 0 = true
  · rw [if_pos h, List.length_cons, List.length_map]
    have : n % 2 = 1 := by simpa using h
    lia
  · rw [if_neg h, List.length_map]
    have : n % 2 = 0 := by
      have h' : n % 2 ≠ 1 := by simpa using h
      lia
    lia
theorem cnt_odd : ∀ (k n : Nat), n < 2 ^ k → ((((List.range k).filter (fun i => n.testBit i)).length : Nat) : Int) % 2 = odd (n : Int)
  | 0, n, h => by
    have : n = 0 := by simpa using h
    subst this; rfl
  | k+1, n, h => by
    rw [cnt_step]
    by_cases h0 : n = 0
    · subst h0
      have := cnt_odd k 0 (Nat.two_pow_pos k)
      rw [show (0 / 2 : Nat) = 0 from rfl]
      lia
    · rw [odd_step n (by lia)]
      have h1 := cnt_odd k (n / 2) (by rw [Nat.pow_succ] at h; lia)
      rw [← show (((n / 2 : Nat)) : Int) = (n : Int) / 2 by lia]
      lia
theorem wn_odd (p : Int) (h0 : 0 ≤ p) (h1 : p < 16384) : ((wn (2 * p + 1) : Nat) : Int) % 2 = 1 - odd p := by
  obtain ⟨n, rfl⟩ : ∃ n : Nat, p = n := ⟨p.toNat, by lia⟩
  unfold wn nmU
  rw [List.length_map]
  have e : (2 * (n : Int) + 1).toNat = 2 * n + 1 := by lia
  rw [e, cnt_odd 15 (2 * n + 1) (by lia)]
  rw [odd_step _ (by lia)]
  have : (((2 * n + 1 : Nat)) : Int) / 2 = n := by lia
  rw [this]
  have := odd_bd n (by lia)
  lia
theorem brN_odd (p : Int) (h0 : 0 ≤ p) (h1 : p < 16384) : brN p = if odd p = 0 then 40 else 41 := by
  have h := wn_odd p h0 h1
  have h2 := odd_bd p h0
  unfold brN
  by_cases hz : odd p = 0
  · rw [if_pos hz, if_pos (by lia)]
  · rw [if_neg hz, if_neg (by lia)]
end Mine
namespace Mine
theorem item_br (x lo : Int) (i : Nat) (h0 : 0 ≤ x) (h1 : x < 4096) (ha : 2 * lo ≤ x) (hb : x < 2 * lo + 2) (hi : i < 12) :
    Txt.item (PySem.Str.ofString "()") (((oddL lo).getD ((x + (i : Int)).fdiv 2 - lo).toNat 0 + (x + (i : Int))).fmod 2) = mkS [brN (x + (i : Int))] := by
  have e1 : (x + (i : Int)).fdiv 2 = (x + (i : Int)) / 2 := Int.fdiv_eq_ediv_of_nonneg _ (by decide)
  rw [e1]
  obtain ⟨j, hj, hj2⟩ : ∃ j : Nat, ((x + (i : Int)) / 2 - lo).toNat = j ∧ j < 7 ∧ lo + (j : Int) = (x + (i : Int)) / 2 := ⟨_, rfl, by lia, by lia⟩
  rw [hj]
  have e2 : (oddL lo).getD j 0 = odd ((x + (i : Int)) / 2) := by
    unfold oddL
    rw [List.getD_eq_getElem?_getD, List.getElem?_map, List.getElem?_range hj2.1]
    show odd (lo + (j : Int)) = _
    rw [hj2.2]
  rw [e2]
  have e3 : (odd ((x + (i : Int)) / 2) + (x + (i : Int))).fmod 2 = odd (x + (i : Int)) := by
    rw [Int.fmod_eq_emod_of_nonneg _ (by decide)]
    by_cases hp : 0 < x + (i : Int)
    · rw [odd_step _ hp]; lia
    · have : x + (i : Int) = 0 := by lia
      rw [this]; decide
  rw [e3, brN_odd _ (by lia) (by lia)]
  have hbd := odd_bd (x + (i : Int)) (by lia)
  by_cases hz : odd (x + (i : Int)) = 0
  · rw [if_pos hz, hz]; decide +kernel
  · rw [if_neg hz, show odd (x + (i : Int)) = 1 by lia]; decide +kernel
theorem flat_one (f : Nat → Nat) : ∀ l : List Nat, (l.map (fun i => [f i])).flatten = l.map f
  | [] => rfl
  | a :: r => by simp [flat_one f r]
theorem row_flat (b : Int) (k : Nat) : Txt.join (PySem.Str.ofString "") ((List.range k).map (fun (i : Nat) => mkS [brN (b + (i : Int))])) = mkS (rowL b k) := by
  have := join_flat ((List.range k).map (fun (i : Nat) => [brN (b + (i : Int))]))
  rw [List.map_map] at this
  rw [flat_one] at this
  exact this
theorem row_joinOk (b : Int) (k : Nat) (hk : k ≤ 100) : JoinOk (PySem.Str.ofString "") ((List.range k).map (fun (i : Nat) => mkS [brN (b + (i : Int))])) = true := by
  have := joinOk_bd (sl := (List.range k).map (fun (i : Nat) => [brN (b + (i : Int))])) (n := k) (by
    intro y hy
    obtain ⟨i, _, rfl⟩ := List.mem_map.mp hy
    simp) (by simp) hk
  rw [List.map_map] at this
  exact this
end Mine
namespace Mine
noncomputable def pieceL (z : Int) (R : List Nat) (k : Nat) : List Nat := (if (k : Int) = z / 5 % 7 then riderL (z % 5).toNat else []) ++ [R.getD k 0]
end Mine
namespace Mine
theorem mkS_nil : PySem.Str.ofString "" = mkS [] := by decide +kernel
theorem fd57 (z : Int) : (z.fdiv 5).fmod 7 = z / 5 % 7 := by rw [Int.fdiv_eq_ediv_of_nonneg _ (by decide), Int.fmod_eq_emod_of_nonneg _ (by decide)]
theorem fm5 (z : Int) : z.fmod 5 = z % 5 := Int.fmod_eq_emod_of_nonneg _ (by decide)
theorem piece_n {z : Int} {R : List Nat} {i : Nat} (h : (i : Int) ≠ (z.fdiv 5).fmod 7) : PySem.Str.ofString "" ++ mkS [R.getD i 0] = mkS (pieceL z R i) := by
  rw [fd57] at h
  rw [mkS_nil, mkS_app, pieceL, if_neg h]
theorem piece_y {z : Int} {R : List Nat} {i : Nat} (h : (i : Int) = (z.fdiv 5).fmod 7) : mkS (riderL (z.fmod 5).toNat) ++ mkS [R.getD i 0] = mkS (pieceL z R i) := by
  rw [fd57] at h
  rw [mkS_app, pieceL, if_pos h, fm5]
theorem item_mk (R : List Nat) (i : Nat) (h : i < R.length) : Txt.item (mkS R) (i : Int) = mkS [R.getD i 0] := by
  have := item_pos (mkS R) i (by rw [mkS_len]; exact h)
  rwa [cps_mkS] at this
theorem rider_len (k : Nat) : (riderL k).length ≤ 3 := by
  unfold riderL
  match k with
  | 0 | 1 | 2 | 3 | 4 => decide
  | k+5 => simp
theorem piece_len (z : Int) (R : List Nat) (k : Nat) : (pieceL z R k).length ≤ 4 := by
  unfold pieceL
  split
  · have := rider_len (z % 5).toNat
    simp only [List.length_append, List.length_singleton]; lia
  · simp
end Mine
end

section
open PySem PySem.W PyProof.Rows PySem.Spec PySem.Calls
namespace Mine
theorem filt_abV {α : Type} (l : List α) (a b : Nat) (hab : a ≤ b) (hb : b ≤ l.length) : ((List.range (b - a)).map (a + ·)).filterMap (l.toArray[·]?) = (l.take b).drop a := by
  apply List.ext_getElem?
  intro i
  rw [List.filterMap_map, List.getElem?_drop, List.getElem?_take]
  have key : ∀ k, k ≤ b - a → (List.range k).filterMap ((fun x => l.toArray[x]?) ∘ (a + ·)) = (l.drop a).take k := by
    intro k
    induction k with
    | zero => simp
    | succ k ih =>
      intro hk
      rw [List.range_succ, List.filterMap_append, ih (by lia)]
      have : ((fun x => l.toArray[x]?) ∘ (a + ·)) k = some l[a + k] := by simp [show a + k < l.length by lia]
      simp only [List.filterMap_cons, this, List.filterMap_nil]
      rw [List.take_add_one, List.getElem?_drop, List.getElem?_eq_getElem (by lia)]; rfl
  rw [key _ (Nat.le_refl _), List.getElem?_take, List.getElem?_drop]
  by_cases hi : i < b - a
  · rw [if_pos hi, if_pos (by lia)]
  · rw [if_neg hi, if_neg (by lia)]
theorem pick_ab (l : List Value) (a b : Nat) (hab : a ≤ b) (hb : b ≤ l.length) : slicePick l.toArray (some (a : Int)) (some (b : Int)) none = ((l.take b).drop a).toArray := by
  unfold slicePick sliceBounds
  simp only [Option.getD_none, show (1 : Int) > 0 by decide, if_true, List.size_toArray]
  have e1 : max 0 (min (if (b : Int) < 0 then (b : Int) + (l.length : Int) else (b : Int)) (l.length : Int)) = (b : Int) := by
    rw [if_neg (by lia)]; lia
  have e2 : max 0 (min (if (a : Int) < 0 then (a : Int) + (l.length : Int) else (a : Int)) (l.length : Int)) = (a : Int) := by
    rw [if_neg (by lia)]; lia
  rw [e1, e2, sliceIdx_ab l.length a b, filt_abV l a b hab hb]
theorem pick_strs (l : List (PySem.Str × Tok)) (a b : Nat) (hab : a ≤ b) (hb : b ≤ l.length) : slicePick (strValues l).toArray (some (a : Int)) (some (b : Int)) none = (strValues ((l.take b).drop a)).toArray := by
  rw [pick_ab _ a b hab (by simpa [strValues] using hb)]
  simp [strValues, List.map_take, List.map_drop]
noncomputable def pcs (z : Int) (R : List Nat) (a b : Nat) : List (List Nat) := (((List.range 7).map (pieceL z R)).take b).drop a
noncomputable def segL (z : Int) (R : List Nat) (a b : Nat) : List Nat := (pcs z R a b).flatten
theorem pcs_map {z : Int} {R : List Nat} {l : List (PySem.Str × Tok)} (h : l.map (·.1) = (List.range 7).map (fun i => mkS (pieceL z R i))) (a b : Nat) : ((l.take b).drop a).map (·.1) = (pcs z R a b).map mkS := by
  unfold pcs
  rw [List.map_drop, List.map_take, h, List.map_drop, List.map_take, List.map_map]; rfl
theorem pcs_mem {z : Int} {R : List Nat} {a b : Nat} {p : List Nat} (h : p ∈ pcs z R a b) : p.length ≤ 4 := by
  have h := List.mem_of_mem_take (List.mem_of_mem_drop h)
  obtain ⟨i, _, rfl⟩ := List.mem_map.mp h
  exact piece_len z R i
theorem pcs_len (z : Int) (R : List Nat) (a b : Nat) : (pcs z R a b).length ≤ 7 := by
  unfold pcs
  rw [List.length_drop, List.length_take, List.length_map, List.length_range]; lia
theorem pcs_ok (z : Int) (R : List Nat) (a b : Nat) : JoinOk (PySem.Str.ofString "") ((pcs z R a b).map mkS) = true :=
  joinOk_bd (n := 7) (fun y hy => Nat.le_trans (pcs_mem hy) (by decide)) (pcs_len z R a b) (by decide)
theorem pcs_join (z : Int) (R : List Nat) (a b : Nat) : Txt.join (PySem.Str.ofString "") ((pcs z R a b).map mkS) = mkS (segL z R a b) := join_flat _
end Mine
end

section
open PySem PySem.W PyProof.Rows PySem.Spec PySem.Calls
namespace Mine
noncomputable def o8 : List Nat := [0, 1, 1, 0, 1, 0, 0, 1]
noncomputable def TT (k : Nat) (w : List Nat) (j : Nat) : Nat := (w.getD (j / k) 0 + o8.getD (j % k) 0) % 2
noncomputable def W6 : List (List Nat) := [[0,0,1],[0,1,0],[0,1,1],[1,0,0],[1,0,1],[1,1,0]]
theorem odd2 (n b : Int) (hn : 0 ≤ n) (h0 : 0 ≤ b) (h1 : b < 2) : odd (2 * n + b) = (odd n + b) % 2 := by
  by_cases hz : 0 < 2 * n + b
  · rw [odd_step _ hz]
    have e1 : (2 * n + b) % 2 = b := by lia
    have e2 : (2 * n + b) / 2 = n := by lia
    rw [e1, e2, Int.add_comm]
  · have : n = 0 := by lia
    have : b = 0 := by lia
    subst_vars; decide
theorem o8_odd : ∀ r : Nat, r < 8 → odd (r : Int) = ((o8.getD r 0 : Nat) : Int) := by decide
theorem odd8 (n : Int) (r : Nat) (hn : 0 ≤ n) (h1 : r < 8) : odd (8 * n + (r : Int)) = (odd n + odd (r : Int)) % 2 := by
  have e : 8 * n + (r : Int) = 2 * (2 * (2 * n + (r : Int) / 4) + (r : Int) / 2 % 2) + (r : Int) % 2 := by lia
  rw [e, odd2 _ _ (by lia) (by lia) (by lia), odd2 _ _ (by lia) (by lia) (by lia), odd2 _ _ (by lia) (by lia) (by lia), o8_odd r h1]
  have hb := odd_bd n hn
  have h : r = 0 ∨ r = 1 ∨ r = 2 ∨ r = 3 ∨ r = 4 ∨ r = 5 ∨ r = 6 ∨ r = 7 := by lia
  rcases h with rfl | rfl | rfl | rfl | rfl | rfl | rfl | rfl <;> simp [o8] <;> lia
theorem odd4 (n : Int) (r : Nat) (hn : 0 ≤ n) (h1 : r < 4) : odd (4 * n + (r : Int)) = (odd n + odd (r : Int)) % 2 := by
  have e : 4 * n + (r : Int) = 2 * (2 * n + (r : Int) / 2) + (r : Int) % 2 := by lia
  rw [e, odd2 _ _ (by lia) (by lia) (by lia), odd2 _ _ (by lia) (by lia) (by lia), o8_odd r (by lia)]
  have hb := odd_bd n hn
  have h : r = 0 ∨ r = 1 ∨ r = 2 ∨ r = 3 := by lia
  rcases h with rfl | rfl | rfl | rfl <;> simp [o8] <;> lia
noncomputable def WOf (q : Int) (w : List Nat) : Prop := ∀ t : Nat, t < 3 → odd (q + (t : Int)) = ((w.getD t 0 : Nat) : Int)
theorem w_ex (q : Int) (hq : 0 ≤ q) : ∃ w ∈ W6, WOf q w := by
  have b0 := odd_bd q hq
  have b1 := odd_bd (q + 1) (by lia)
  have b2 := odd_bd (q + 2) (by lia)
  have hne : ¬ (odd q = odd (q + 1) ∧ odd (q + 1) = odd (q + 2)) := by
    rintro ⟨h1, h2⟩
    by_cases hp : q % 2 = 0
    · have e0 := odd2 (q / 2) 0 (by lia) (by lia) (by lia)
      have e1 := odd2 (q / 2) 1 (by lia) (by lia) (by lia)
      rw [show 2 * (q / 2) + 0 = q by lia] at e0
      rw [show 2 * (q / 2) + 1 = q + 1 by lia] at e1
      lia
    · have e0 := odd2 ((q + 1) / 2) 0 (by lia) (by lia) (by lia)
      have e1 := odd2 ((q + 1) / 2) 1 (by lia) (by lia) (by lia)
      rw [show 2 * ((q + 1) / 2) + 0 = q + 1 by lia] at e0
      rw [show 2 * ((q + 1) / 2) + 1 = q + 2 by lia] at e1
      lia
  have key : ∀ w : List Nat, odd q = ((w.getD 0 0 : Nat) : Int) → odd (q + 1) = ((w.getD 1 0 : Nat) : Int) → odd (q + 2) = ((w.getD 2 0 : Nat) : Int) → WOf q w := by
    intro w h0 h1 h2 t ht
    have h : t = 0 ∨ t = 1 ∨ t = 2 := by lia
    rcases h with rfl | rfl | rfl
    · simpa using h0
    · simpa using h1
    · simpa using h2
  have c0 : odd q = 0 ∨ odd q = 1 := by lia
  have c1 : odd (q + 1) = 0 ∨ odd (q + 1) = 1 := by lia
  have c2 : odd (q + 2) = 0 ∨ odd (q + 2) = 1 := by lia
  rcases c0 with h0 | h0 <;> rcases c1 with h1 | h1 <;> rcases c2 with h2 | h2
  · exact absurd ⟨by lia, by lia⟩ hne
  · exact ⟨[0,0,1], by decide, key _ h0 h1 h2⟩
  · exact ⟨[0,1,0], by decide, key _ h0 h1 h2⟩
  · exact ⟨[0,1,1], by decide, key _ h0 h1 h2⟩
  · exact ⟨[1,0,0], by decide, key _ h0 h1 h2⟩
  · exact ⟨[1,0,1], by decide, key _ h0 h1 h2⟩
  · exact ⟨[1,1,0], by decide, key _ h0 h1 h2⟩
  · exact absurd ⟨by lia, by lia⟩ hne
theorem T1_eq {q : Int} {w : List Nat} (hq : 0 ≤ q) (h : WOf q w) (j : Nat) (hj : j < 24) : odd (8 * q + (j : Int)) = ((TT 8 w j : Nat) : Int) := by
  have e : 8 * q + (j : Int) = 8 * (q + ((j / 8 : Nat) : Int)) + ((j % 8 : Nat) : Int) := by lia
  rw [e, odd8 _ _ (by lia) (by lia), h (j / 8) (by lia), o8_odd _ (by lia)]
  unfold TT; lia
theorem T4_eq {q : Int} {w : List Nat} (hq : 0 ≤ q) (h : WOf q w) (j : Nat) (hj : j < 12) : odd (4 * q + (j : Int)) = ((TT 4 w j : Nat) : Int) := by
  have e : 4 * q + (j : Int) = 4 * (q + ((j / 4 : Nat) : Int)) + ((j % 4 : Nat) : Int) := by lia
  rw [e, odd4 _ _ (by lia) (by lia), h (j / 4) (by lia), o8_odd _ (by lia)]
  unfold TT; lia
theorem T2_eq {q : Int} {w : List Nat} (hq : 0 ≤ q) (h : WOf q w) (j : Nat) (hj : j < 6) : odd (2 * q + (j : Int)) = ((TT 2 w j : Nat) : Int) := by
  have e : 2 * q + (j : Int) = 2 * (q + ((j / 2 : Nat) : Int)) + ((j % 2 : Nat) : Int) := by lia
  rw [e, odd2 _ _ (by lia) (by lia) (by lia), h (j / 2) (by lia)]
  have h8 := o8_odd (j % 2) (by lia)
  have hr : j % 2 = 0 ∨ j % 2 = 1 := by lia
  unfold TT
  rcases hr with hr | hr <;> rw [hr] <;> simp [o8] <;> lia
noncomputable def RW (w : List Nat) (m n : Nat) : List Nat := (List.range n).map (fun i => 40 + TT 8 w (m + i))
theorem rowL_RW {q : Int} {w : List Nat} (hq : 0 ≤ q) (hq2 : q < 512) (h : WOf q w) (m n : Nat) (hm : m < 8) (hn : n ≤ 12) : rowL (8 * q + (m : Int)) n = RW w m n := by
  unfold rowL RW
  apply List.map_congr_left
  intro i hi
  have hi := List.mem_range.mp hi
  have e : 8 * q + (m : Int) + (i : Int) = 8 * q + ((m + i : Nat) : Int) := by lia
  rw [e, brN_odd _ (by lia) (by lia), T1_eq hq h (m + i) (by lia)]
  have : TT 8 w (m + i) < 2 := Nat.mod_lt _ (by decide)
  by_cases hz : TT 8 w (m + i) = 0
  · rw [hz]; rfl
  · have : TT 8 w (m + i) = 1 := by lia
    rw [this]; rfl
noncomputable def OL (w : List Nat) (m : Nat) : List Int := (List.range 7).map (fun i => ((TT 4 w (m / 2 + i) : Nat) : Int))
theorem oddL_OL {q lo : Int} {w : List Nat} (hq : 0 ≤ q) (h : WOf q w) (m : Nat) (hm : m < 8) (hlo : lo = 4 * q + ((m / 2 : Nat) : Int)) : oddL lo = OL w m := by
  unfold oddL OL
  apply List.map_congr_left
  intro i hi
  have hi := List.mem_range.mp hi
  have e : lo + (i : Int) = 4 * q + ((m / 2 + i : Nat) : Int) := by lia
  rw [e, T4_eq hq h (m / 2 + i) (by lia)]
end Mine
end

section
open PySem PySem.W PyProof.Rows PySem.Spec PySem.Calls
namespace Mine
noncomputable def Br (l : List Nat) : Prop := ∀ c ∈ l, c = 40 ∨ c = 41
theorem Br.tail {c : Nat} {l : List Nat} (h : Br (c :: l)) : Br l := fun x hx => h x (.tail _ hx)
theorem Br.ne {c : Nat} {l : List Nat} (h : Br (c :: l)) : c ≠ 92 ∧ c ≠ 34 := by
  have := h c (.head _); lia
theorem escL_br : ∀ (u : List Nat), Br u → ∀ (t : List Nat) (i : Nat), escL (u ++ t) i false = escL u i false ++ escL t (i + u.length) false
  | [], _, t, i => by simp [escL]
  | c :: u, h, t, i => by
    rw [List.cons_append]
    simp only [escL, Bool.false_eq_true, if_false, if_neg h.ne.1, List.cons_append, List.length_cons]
    rw [escL_br u h.tail t (i + 1), show i + 1 + u.length = i + (u.length + 1) by lia]
theorem escL_it : ∀ (u : List Nat), Br u → ∀ (i : Nat), ∀ it ∈ escL u i false, it.2 ≠ [34]
  | [], _, i, it, h => by simp [escL] at h
  | c :: u, hb, i, it, h => by
    simp only [escL, Bool.false_eq_true, if_false, if_neg hb.ne.1] at h
    rcases List.mem_cons.mp h with rfl | h
    · intro e; exact hb.ne.2 (by simpa using e)
    · exact escL_it u hb.tail (i + 1) it h
theorem strip_none (x : List Nat) : ∀ (its : List (Nat × List Nat)) (st : SSt), (∀ it ∈ its, it.2 ≠ [34]) → its.foldl (stripStep x) st = st
  | [], st, _ => rfl
  | it :: r, st, h => by
    have e : stripStep x st it = st := by unfold stripStep; rw [if_neg (h it (.head _))]
    rw [List.foldl_cons, e]
    exact strip_none x r st (fun y hy => h y (.tail _ hy))
theorem chk_idx : ∀ (cs : List Nat) (i j : Nat) (esc : Bool) (o : Int), chk (escL cs i esc) o = chk (escL cs j esc) o
  | [], i, j, esc, o => by cases esc <;> simp [escL, chk]
  | c :: cs, i, j, true, o => by
    simp only [escL, if_true, chk]
    rw [chk_idx cs (i + 1) (j + 1) false o, chk_idx cs (i + 1) (j + 1) false (o + 1), chk_idx cs (i + 1) (j + 1) false (o - 1)]
  | c :: cs, i, j, false, o => by
    simp only [escL, Bool.false_eq_true, if_false]
    by_cases h : c = 92
    · rw [if_pos h, if_pos h]; exact chk_idx cs (i + 1) (j + 1) true o
    · rw [if_neg h, if_neg h]
      simp only [chk]
      rw [chk_idx cs (i + 1) (j + 1) false o, chk_idx cs (i + 1) (j + 1) false (o + 1), chk_idx cs (i + 1) (j + 1) false (o - 1)]
theorem chk_cong {t t' : List Nat} (ht : ∀ (o : Int) (i j : Nat), chk (escL t i false) o = chk (escL t' j false) o) : ∀ (u : List Nat), Br u → ∀ (o : Int) (i j : Nat), chk (escL (u ++ t) i false) o = chk (escL (u ++ t') j false) o
  | [], _, o, i, j => ht o i j
  | c :: u, hb, o, i, j => by
    rw [List.cons_append, List.cons_append]
    simp only [escL, Bool.false_eq_true, if_false, if_neg hb.ne.1, chk]
    rw [chk_cong ht u hb.tail o (i + 1) (j + 1), chk_cong ht u hb.tail (o + 1) (i + 1) (j + 1), chk_cong ht u hb.tail (o - 1) (i + 1) (j + 1)]
theorem strip_no (x : List Nat) (h : 34 ∉ x) : stripL x = x := by unfold stripL; rw [if_neg h]
theorem br_no34 {u : List Nat} (h : Br u) : 34 ∉ u := fun hm => by have := h 34 hm; lia
theorem chk_esc {u v : List Nat} (hu : Br u) (c : Nat) (o : Int) : chk (escL (u ++ 92 :: c :: v) 0 false) o = chk (escL (u ++ v) 0 false) o := by
  refine chk_cong (fun o i j => ?_) u hu o 0 0
  simp only [escL, Bool.false_eq_true, if_false, if_true, chk]
  rw [if_neg (by simp), if_neg (by simp)]
  exact chk_idx v _ _ _ _
theorem strip_esc {u v : List Nat} (hu : Br u) (hv : Br v) (c : Nat) : stripL (u ++ 92 :: c :: v) = u ++ 92 :: c :: v := by
  by_cases h : 34 ∈ u ++ 92 :: c :: v
  · unfold stripL
    rw [if_pos h]
    have e : stripF (u ++ 92 :: c :: v) (escL (u ++ 92 :: c :: v) 0 false) = (0, none, []) := by
      unfold stripF
      refine strip_none _ _ _ (fun it hit => ?_)
      rw [escL_br u hu] at hit
      simp only [escL, Bool.false_eq_true, if_false, if_true] at hit
      rcases List.mem_append.mp hit with hit | hit
      · exact escL_it u hu _ it hit
      · rcases List.mem_cons.mp hit with rfl | hit
        · simp
        · exact escL_it v hv _ it hit
    rw [e]
    simp only [List.nil_append, List.drop_zero]
    rw [if_pos (by simp; lia)]
    simp
  · exact strip_no _ h
theorem strip_quo {u v : List Nat} (hu : Br u) (hv : Br v) : stripL (u ++ 34 :: 41 :: 34 :: v) = u ++ v := by
  have h : 34 ∈ u ++ 34 :: 41 :: 34 :: v := by simp
  unfold stripL
  rw [if_pos h]
  have e : stripF (u ++ 34 :: 41 :: 34 :: v) (escL (u ++ 34 :: 41 :: 34 :: v) 0 false) = (u.length + 3, none, if 0 = u.length then [] else [u]) := by
    unfold stripF
    rw [escL_br u hu]
    simp only [escL, Bool.false_eq_true, if_false, show ¬ (34 = 92) by decide, show ¬ (41 = 92) by decide]
    rw [List.foldl_append, strip_none _ _ _ (fun it hit => escL_it u hu _ it hit)]
    simp only [List.foldl_cons]
    rw [strip_none _ _ _ (fun it hit => escL_it v hv _ it hit)]
    simp [stripStep]
  rw [e]
  by_cases h0 : u.length = 0
  · have : u = [] := List.eq_nil_of_length_eq_zero h0
    subst this
    cases v <;> simp
  · have hd : (u ++ 34 :: 41 :: 34 :: v).drop (u.length + 3) = v := by
      rw [List.drop_append]; simp
    rw [if_neg (Ne.symm h0), hd]
    cases v <;> simp
theorem check_rider {u v : List Nat} (hu : Br u) (hv : Br v) (k : Nat) (hl : u.length + v.length ≤ 7) :
    ((u ++ riderL k ++ v).length ≤ 24 ∧ (stripL (u ++ riderL k ++ v)).length ≤ 24) ∧ checkL (u ++ riderL k ++ v) = checkL (u ++ v) := by
  have huv : Br (u ++ v) := fun c hc => (List.mem_append.mp hc).elim (hu c) (hv c)
  have hs := strip_no (u ++ v) (br_no34 huv)
  have h1 : ∀ c, ((u ++ 92 :: c :: v).length ≤ 24 ∧ (stripL (u ++ 92 :: c :: v)).length ≤ 24) ∧ checkL (u ++ 92 :: c :: v) = checkL (u ++ v) := by
    intro c
    unfold checkL
    rw [strip_esc hu hv c, hs]
    refine ⟨⟨by simp; lia, by simp; lia⟩, chk_esc hu c 0⟩
  have h0 : ((u ++ v).length ≤ 24 ∧ (stripL (u ++ v)).length ≤ 24) ∧ checkL (u ++ v) = checkL (u ++ v) := by
    rw [hs]; exact ⟨⟨by simp; lia, by simp; lia⟩, rfl⟩
  have h2 : ((u ++ 34 :: 41 :: 34 :: v).length ≤ 24 ∧ (stripL (u ++ 34 :: 41 :: 34 :: v)).length ≤ 24) ∧ checkL (u ++ 34 :: 41 :: 34 :: v) = checkL (u ++ v) := by
    unfold checkL
    rw [strip_quo hu hv, hs]
    exact ⟨⟨by simp; lia, by simp; lia⟩, rfl⟩
  match k with
  | 0 => simpa [riderL] using h0
  | 1 => simpa [riderL] using h1 40
  | 2 => simpa [riderL] using h2
  | 3 => simpa [riderL] using h1 34
  | 4 => simpa [riderL] using h1 92
  | k + 5 => simpa [riderL] using h0
theorem decomp (f : Nat → Nat) (p : Nat) (r : List Nat) : ∀ ks : List Nat, ks.Nodup → ∃ u v, ks.map f = u ++ v ∧ ((ks.map (fun k => (if k = p then r else []) ++ [f k])).flatten = u ++ r ++ v ∨ (ks.map (fun k => (if k = p then r else []) ++ [f k])).flatten = u ++ v)
  | [], _ => ⟨[], [], rfl, .inr rfl⟩
  | k :: ks, hn => by
    obtain ⟨hk, hn⟩ := List.nodup_cons.mp hn
    by_cases h : k = p
    · refine ⟨[], f k :: ks.map f, rfl, .inl ?_⟩
      have e : ks.map (fun k => (if k = p then r else []) ++ [f k]) = ks.map (fun k => [f k]) := by
        apply List.map_congr_left
        intro j hj
        rw [if_neg (fun e => hk (by rw [h, ← e]; exact hj))]; rfl
      rw [List.map_cons, List.flatten_cons, if_pos h, e, flat_one f]
      simp
    · obtain ⟨u, v, h1, h2⟩ := decomp f p r ks hn
      refine ⟨f k :: u, v, by rw [List.map_cons, h1]; rfl, ?_⟩
      rw [List.map_cons, List.flatten_cons, if_neg h]
      rcases h2 with h2 | h2
      · exact .inl (by rw [h2]; rfl)
      · exact .inr (by rw [h2]; rfl)
noncomputable def seg0 (R : List Nat) (a b : Nat) : List Nat := (((List.range 7).map (fun k => R.getD k 0)).take b).drop a
theorem seg_rider (z : Int) (R : List Nat) (a b : Nat) (hR : ∀ k, k < 7 → R.getD k 0 = 40 ∨ R.getD k 0 = 41) :
    ((segL z R a b).length ≤ 24 ∧ (stripL (segL z R a b)).length ≤ 24) ∧ checkL (segL z R a b) = checkL (seg0 R a b) := by
  have hks : (((List.range 7).take b).drop a).Nodup := (List.nodup_range.sublist (List.take_sublist b _)).sublist (List.drop_sublist a _)
  obtain ⟨u, v, h1, h2⟩ := decomp (fun k => R.getD k 0) (z / 5 % 7).toNat (riderL (z % 5).toNat) (((List.range 7).take b).drop a) hks
  have e1 : seg0 R a b = u ++ v := by rw [← h1]; unfold seg0; rw [List.map_drop, List.map_take]
  have e2 : segL z R a b = ((((List.range 7).take b).drop a).map (fun k => (if k = (z / 5 % 7).toNat then riderL (z % 5).toNat else []) ++ [R.getD k 0])).flatten := by
    unfold segL pcs
    rw [← List.map_take, ← List.map_drop]
    congr 1
    apply List.map_congr_left
    intro k _
    unfold pieceL
    by_cases hk : (k : Int) = z / 5 % 7
    · rw [if_pos hk, if_pos (by lia)]
    · rw [if_neg hk, if_neg (by lia)]
  have hb : Br (u ++ v) := by
    rw [← h1]
    intro c hc
    obtain ⟨k, hk, rfl⟩ := List.mem_map.mp hc
    exact hR k (List.mem_range.mp (List.mem_of_mem_take (List.mem_of_mem_drop hk)))
  have hu : Br u := fun c hc => hb c (List.mem_append.mpr (.inl hc))
  have hv : Br v := fun c hc => hb c (List.mem_append.mpr (.inr hc))
  have hl : u.length + v.length ≤ 7 := by
    rw [← List.length_append, ← h1, List.length_map, List.length_drop, List.length_take, List.length_range]; lia
  rw [e2, e1]
  rcases h2 with h2 | h2
  · rw [h2]; exact check_rider hu hv _ hl
  · rw [h2]
    have := check_rider hu hv 0 hl
    simpa [riderL] using this
theorem taken_shift (a b lo c : Int) (ns : List Int) : takenB (a + 2 * c) (b + 2 * c) (lo + c) ns = takenB a b lo ns := by
  unfold takenB
  have m1 : ∀ a : Int, Int.fmod (a + 2 * c) 2 = Int.fmod a 2 := fun a => by
    rw [Int.fmod_eq_emod_of_nonneg _ (by decide), Int.fmod_eq_emod_of_nonneg _ (by decide)]; lia
  have m2 : ∀ a : Int, Int.fdiv (a + 2 * c) 2 - (lo + c) = Int.fdiv a 2 - lo := fun a => by
    rw [Int.fdiv_eq_ediv_of_nonneg _ (by decide), Int.fdiv_eq_ediv_of_nonneg _ (by decide)]; lia
  rw [m1, m1, m2, m2]
noncomputable def ckA (w : List Nat) (m : Nat) : Bool :=
  (List.range 7).all fun a => (List.range 8).all fun b => checkL (seg0 (RW w m 12) a b) == takenB ((m + a : Nat) : Int) ((m + b : Nat) : Int) ((m / 2 : Nat) : Int) (OL w m) || Nat.ble b a
theorem ckA_all : (W6.all fun w => (List.range 8).all fun m => ckA w m) = true := by decide +kernel
theorem all_range {n : Nat} {p : Nat → Bool} (h : (List.range n).all p = true) {i : Nat} (hi : i < n) : p i = true := List.all_eq_true.mp h i (List.mem_range.mpr hi)
theorem ckA_at {w : List Nat} (hw : w ∈ W6) {m a b : Nat} (hm : m < 8) (hab : a < b) (hb : b ≤ 7) : checkL (seg0 (RW w m 12) a b) = takenB ((m + a : Nat) : Int) ((m + b : Nat) : Int) ((m / 2 : Nat) : Int) (OL w m) := by
  have h1 := all_range (List.all_eq_true.mp ckA_all w hw) hm
  have h2 := all_range (all_range h1 (show a < 7 by lia)) (show b < 8 by lia)
  have h3 : Nat.ble b a = false := by
    cases h : Nat.ble b a
    · rfl
    · exact absurd (Nat.le_of_ble_eq_true h) (by lia)
  rw [h3, Bool.or_false] at h2
  exact eq_of_beq h2
theorem plain_check (x z lo : Int) (h0 : 0 ≤ x) (h1 : x < 4096) (ha : 2 * lo ≤ x) (hb : x < 2 * lo + 2) (a b : Nat) (hab : a < b) (hb7 : b ≤ 7) :
    ((segL z (rowL x 12) a b).length ≤ 24 ∧ (stripL (segL z (rowL x 12) a b)).length ≤ 24) ∧ checkL (segL z (rowL x 12) a b) = takenB (x + (a : Int)) (x + (b : Int)) lo (oddL lo) := by
  have hR : ∀ k, k < 7 → (rowL x 12).getD k 0 = 40 ∨ (rowL x 12).getD k 0 = 41 := by
    intro k hk
    have hl := rowL_len x 12
    rw [List.getD_eq_getElem?_getD, List.getElem?_eq_getElem (by lia)]
    exact rowL_mem (List.getElem_mem _)
  obtain ⟨hs, he⟩ := seg_rider z (rowL x 12) a b hR
  refine ⟨hs, he.trans ?_⟩
  obtain ⟨q, m, hq, hq0, hq2, hm⟩ : ∃ (q : Int) (m : Nat), x = 8 * q + (m : Int) ∧ 0 ≤ q ∧ q < 512 ∧ m < 8 := ⟨x / 8, (x % 8).toNat, by lia, by lia, by lia, by lia⟩
  obtain ⟨w, hw, hwq⟩ := w_ex q hq0
  have hlo : lo = 4 * q + ((m / 2 : Nat) : Int) := by lia
  rw [oddL_OL hq0 hwq m hm hlo, hq, rowL_RW hq0 hq2 hwq m 12 hm (by lia), ckA_at hw hm hab hb7]
  have := taken_shift ((m + a : Nat) : Int) ((m + b : Nat) : Int) ((m / 2 : Nat) : Int) (4 * q) (OL w m)
  rw [← this]
  rw [show ((m + a : Nat) : Int) + 2 * (4 * q) = 8 * q + (m : Int) + (a : Int) by lia, show ((m + b : Nat) : Int) + 2 * (4 * q) = 8 * q + (m : Int) + (b : Int) by lia, show ((m / 2 : Nat) : Int) + 4 * q = lo by lia]
end Mine
end

section
open PySem PySem.W PyProof.Rows PySem.Spec PySem.Calls
namespace Mine
theorem ones_odd (p : Int) (hp : 0 ≤ p) : ones p % 2 = (odd p + odd (p + 1) + 1) % 2 := by
  obtain ⟨n, rfl⟩ : ∃ n : Nat, p = n := ⟨p.toNat, by lia⟩
  induction n using Nat.strongRecOn with
  | ind n ih =>
    by_cases h : (n : Int) % 2 = 1
    · have e := ones_step (n : Int) (by lia) h
      have e1 := odd_step (n : Int) (by lia)
      have e2 := odd_step ((n : Int) + 1) (by lia)
      have e3 : ((n : Int) + 1) / 2 = (n : Int) / 2 + 1 := by lia
      have e4 : (n : Int) / 2 = ((n / 2 : Nat) : Int) := by lia
      have := ih (n / 2) (by lia) (by lia)
      rw [e3] at e2
      rw [e4] at e e1 e2
      lia
    · rw [ones_end (n : Int) (by lia) h]
      have h0 := odd2 ((n : Int) / 2) 0 (by lia) (by lia) (by lia)
      have h1 := odd2 ((n : Int) / 2) 1 (by lia) (by lia) (by lia)
      rw [show 2 * ((n : Int) / 2) + 0 = n by lia] at h0
      rw [show 2 * ((n : Int) / 2) + 1 = (n : Int) + 1 by lia] at h1
      have := odd_bd ((n : Int) / 2) (by lia)
      lia
theorem alike1 (p : Int) (hp : 0 ≤ p) : alike p 1 = decide (odd p = odd (p + 1)) := by
  rw [alike_last p 1 (by decide) (by decide), if_pos rfl, ones_odd p hp]
  have h0 := odd_bd p hp
  have h1 := odd_bd (p + 1) (by lia)
  apply decide_eq_decide.mpr; lia
theorem alike3 (p : Int) (hp : 0 ≤ p) : alike p 3 = decide (p % 4 = 3 ∧ odd p ≠ odd (p + 1) ∧ odd (p + 4) ≠ odd (p + 5)) := by
  rw [alike_last p 3 (by decide) (by decide), if_neg (by decide), ones_odd p hp, ones_odd (p + 4) (by lia)]
  have h0 := odd_bd p hp
  have h1 := odd_bd (p + 1) (by lia)
  have h2 := odd_bd (p + 4) (by lia)
  have h3 := odd_bd (p + 5) (by lia)
  rw [show p + 4 + 1 = p + 5 by lia]
  by_cases h : p % 4 = 3
  · rw [if_pos ⟨rfl, h⟩, ← Bool.decide_and]
    apply decide_eq_decide.mpr; lia
  · rw [if_neg (fun z => h z.2), eq_comm, decide_eq_false_iff_not]
    exact fun z => h z.1
noncomputable def alT (w : List Nat) (m : Nat) : Nat → Bool
  | 1 => decide (TT 8 w m = TT 8 w (m + 1))
  | 2 => decide (m % 2 = 0 ∧ TT 4 w (m / 2) = TT 4 w (m / 2 + 1))
  | 3 => decide (m % 4 = 3 ∧ TT 8 w m ≠ TT 8 w (m + 1) ∧ TT 8 w (m + 4) ≠ TT 8 w (m + 5))
  | 4 => decide (m % 4 = 0 ∧ TT 2 w (m / 4) = TT 2 w (m / 4 + 1))
  | 6 => decide (m % 2 = 0 ∧ m / 2 % 4 = 3 ∧ TT 4 w (m / 2) ≠ TT 4 w (m / 2 + 1) ∧ TT 4 w (m / 2 + 4) ≠ TT 4 w (m / 2 + 5))
  | _ => false
theorem alike_T {q : Int} {w : List Nat} (hq : 0 ≤ q) (h : WOf q w) (m s : Nat) (hm : m < 8) (h1 : 1 ≤ s) (h6 : s ≤ 6) : alike (8 * q + (m : Int)) (s : Int) = alT w m s := by
  have t1 : ∀ j : Nat, j < 24 → ∀ p : Int, p = 8 * q + (j : Int) → odd p = ((TT 8 w j : Nat) : Int) := fun j hj p hp => by rw [hp, T1_eq hq h j hj]
  have t4 : ∀ j : Nat, j < 12 → ∀ p : Int, p = 4 * q + (j : Int) → odd p = ((TT 4 w j : Nat) : Int) := fun j hj p hp => by rw [hp, T4_eq hq h j hj]
  have t2 : ∀ j : Nat, j < 6 → ∀ p : Int, p = 2 * q + (j : Int) → odd p = ((TT 2 w j : Nat) : Int) := fun j hj p hp => by rw [hp, T2_eq hq h j hj]
  have hs : s = 1 ∨ s = 2 ∨ s = 3 ∨ s = 4 ∨ s = 5 ∨ s = 6 := by lia
  rcases hs with rfl | rfl | rfl | rfl | rfl | rfl
  · show alike _ 1 = _
    rw [alike1 _ (by lia), t1 m (by lia) _ rfl, t1 (m + 1) (by lia) _ (by lia)]
    apply decide_eq_decide.mpr; lia
  · show alike _ 2 = _
    rw [alike_step _ 2 (by decide) (by decide), show (2 : Int) / 2 = 1 by decide, alike1 _ (by lia), t4 (m / 2) (by lia) _ (by lia), t4 (m / 2 + 1) (by lia) _ (by lia)]
    by_cases hp : (8 * q + (m : Int)) % 2 = 1
    · rw [if_pos hp, eq_comm]; exact decide_eq_false (fun z => by lia)
    · rw [if_neg hp]; apply decide_eq_decide.mpr; lia
  · show alike _ 3 = _
    rw [alike3 _ (by lia), t1 m (by lia) _ rfl, t1 (m + 1) (by lia) _ (by lia), t1 (m + 4) (by lia) _ (by lia), t1 (m + 5) (by lia) _ (by lia)]
    apply decide_eq_decide.mpr; lia
  · show alike _ 4 = _
    rw [alike_step _ 4 (by decide) (by decide), show (4 : Int) / 2 = 2 by decide, alike_step _ 2 (by decide) (by decide), show (2 : Int) / 2 = 1 by decide, alike1 _ (by lia), t2 (m / 4) (by lia) _ (by lia), t2 (m / 4 + 1) (by lia) _ (by lia)]
    by_cases hp : (8 * q + (m : Int)) % 2 = 1
    · rw [if_pos hp, eq_comm]; exact decide_eq_false (fun z => by lia)
    · rw [if_neg hp]
      by_cases hp2 : (8 * q + (m : Int)) / 2 % 2 = 1
      · rw [if_pos hp2, eq_comm]; exact decide_eq_false (fun z => by lia)
      · rw [if_neg hp2]; apply decide_eq_decide.mpr; lia
  · show alike _ 5 = _
    rw [alike_last _ 5 (by decide) (by decide), if_neg (by decide), if_neg (by rintro ⟨z, _⟩; exact absurd z (by decide))]; rfl
  · show alike _ 6 = _
    rw [alike_step _ 6 (by decide) (by decide), show (6 : Int) / 2 = 3 by decide, alike3 _ (by lia), t4 (m / 2) (by lia) _ (by lia), t4 (m / 2 + 1) (by lia) _ (by lia), t4 (m / 2 + 4) (by lia) _ (by lia), t4 (m / 2 + 5) (by lia) _ (by lia)]
    by_cases hp : (8 * q + (m : Int)) % 2 = 1
    · rw [if_pos hp, eq_comm]; exact decide_eq_false (fun z => by lia)
    · rw [if_neg hp]; apply decide_eq_decide.mpr; lia
noncomputable def deB (la lb : List Nat) (d e : Nat) : Bool :=
  decide (d + e < la.length) && ((List.range d).all fun i => decide (la.getD i 0 = lb.getD i 0)) && decide (la.getD d 0 ≠ lb.getD d 0) &&
    ((List.range e).all fun i => decide (la.getD (la.length - 1 - i) 0 = lb.getD (la.length - 1 - i) 0)) && decide (la.getD (la.length - 1 - e) 0 ≠ lb.getD (la.length - 1 - e) 0)
theorem deB_of {la lb : List Nat} {d e : Nat} (h : LevDE la lb d e) : deB la lb d e = true := by
  obtain ⟨h1, h2, h3, h4, h5⟩ := h
  have a2 : ((List.range d).all fun i => decide (la.getD i 0 = lb.getD i 0)) = true := List.all_eq_true.mpr fun i hi => decide_eq_true (h2 i (List.mem_range.mp hi))
  have a4 : ((List.range e).all fun i => decide (la.getD (la.length - 1 - i) 0 = lb.getD (la.length - 1 - i) 0)) = true := List.all_eq_true.mpr fun i hi => decide_eq_true (h4 i (List.mem_range.mp hi))
  unfold deB
  rw [a2, a4, decide_eq_true h1, decide_eq_true h3, decide_eq_true h5]; rfl
noncomputable def lvB (la lb : List Nat) (mx R : Int) : Bool :=
  (decide (R = 0) || decide (la ≠ lb)) && ((List.range 6).all fun d => (List.range 6).all fun e => !(deB la lb d e) || decide (dpF (midL la d e) (midL lb d e) mx = R))
theorem lev_of {la lb : List Nat} {mx R : Int} (h1 : la.length ≤ 6) (h2 : lb.length = la.length) (h3 : 0 ≤ mx ∧ mx ≤ 6) (h4 : ∀ c ∈ la, c = 40 ∨ c = 41) (h5 : ∀ c ∈ lb, c = 40 ∨ c = 41) (h : lvB la lb mx R = true) : LevPre la lb mx R := by
  unfold lvB at h
  obtain ⟨ha, hb⟩ := Bool.and_eq_true_iff.mp h
  refine ⟨h1, h2, h3.1, h3.2, h4, h5, fun e => ?_, fun d e hde => ?_⟩
  · rcases Bool.or_eq_true_iff.mp ha with ha | ha
    · exact of_decide_eq_true ha
    · exact absurd e (of_decide_eq_true ha)
  · have hd := hde.1
    have h6 := all_range (all_range hb (show d < 6 by lia)) (show e < 6 by lia)
    rw [deB_of hde] at h6
    exact of_decide_eq_true (by simpa using h6)
theorem alB_all : (W6.all fun w => (List.range 8).all fun m => (List.range 7).all fun s => lvB ((RW w m 12).take s) (((RW w m 12).take (2 * s)).drop s) 0 (if alT w m s = true then 0 else 1) || Nat.ble s 0) = true := by decide +kernel
theorem plain_alike (x : Int) (h0 : 0 ≤ x) (h1 : x < 4096) (s : Nat) (hs1 : 1 ≤ s) (hs : s ≤ 6) :
    LevPre ((rowL x 12).take s) (((rowL x 12).take (2 * s)).drop s) 0 (if alike x (s : Int) = true then 0 else 1) := by
  have hl := rowL_len x 12
  refine lev_of (by rw [List.length_take]; lia) (by rw [List.length_drop, List.length_take, List.length_take]; lia) (by decide) (fun c hc => rowL_mem (List.mem_of_mem_take hc)) (fun c hc => rowL_mem (List.mem_of_mem_take (List.mem_of_mem_drop hc))) ?_
  obtain ⟨q, m, hq, hq0, hq2, hm⟩ : ∃ (q : Int) (m : Nat), x = 8 * q + (m : Int) ∧ 0 ≤ q ∧ q < 512 ∧ m < 8 := ⟨x / 8, (x % 8).toNat, by lia, by lia, by lia, by lia⟩
  obtain ⟨w, hw, hwq⟩ := w_ex q hq0
  rw [hq, rowL_RW hq0 hq2 hwq m 12 hm (by lia), alike_T hq0 hwq m s hm hs1 hs]
  have h2 := all_range (all_range (List.all_eq_true.mp alB_all w hw) hm) (show s < 7 by lia)
  have h3 : Nat.ble s 0 = false := by
    cases h : Nat.ble s 0
    · rfl
    · exact absurd (Nat.le_of_ble_eq_true h) (by lia)
  rw [h3, Bool.or_false] at h2
  exact h2
noncomputable def DW (o k : Nat) : List Nat := (List.range (2 ^ k)).map (fun i => 40 + (o + o8.getD i 0) % 2)
theorem odd_pow (x : Int) (hx : 0 ≤ x) (k i : Nat) (hk : k < 3) (hi : i < 2 ^ k) : odd (x * 2 ^ k + (i : Int)) = (odd x + odd (i : Int)) % 2 := by
  have hb := odd_bd x hx
  have h3 : k = 0 ∨ k = 1 ∨ k = 2 := by lia
  rcases h3 with rfl | rfl | rfl
  · have : i = 0 := by simpa using hi
    subst this
    rw [show x * 2 ^ 0 + ((0 : Nat) : Int) = x by lia, o8_odd 0 (by decide)]
    simp [o8]; lia
  · have hi : i < 2 := by simpa using hi
    rw [show x * 2 ^ 1 + (i : Int) = 2 * x + (i : Int) by lia, odd2 _ _ hx (by lia) (by lia), o8_odd i (by lia)]
    have h : i = 0 ∨ i = 1 := by lia
    rcases h with rfl | rfl <;> simp [o8]
  · have hi : i < 4 := by simpa using hi
    rw [show x * 2 ^ 2 + (i : Int) = 4 * x + (i : Int) by lia, odd4 _ _ hx hi]
theorem row_DW (x : Int) (h0 : 0 ≤ x) (h1 : x < 4096) (k : Nat) (hk : k < 3) : rowL (x * 2 ^ k) (2 ^ k) = DW (odd x).toNat k := by
  unfold rowL DW
  apply List.map_congr_left
  intro i hi
  have hi := List.mem_range.mp hi
  have hpw : (2 : Nat) ^ k ≤ 4 := by
    have h3 : k = 0 ∨ k = 1 ∨ k = 2 := by lia
    rcases h3 with rfl | rfl | rfl <;> decide
  have hbd : 0 ≤ x * 2 ^ k + (i : Int) ∧ x * 2 ^ k + (i : Int) < 16384 := by
    have h3 : k = 0 ∨ k = 1 ∨ k = 2 := by lia
    rcases h3 with rfl | rfl | rfl <;> simp at hi ⊢ <;> lia
  have hb := odd_bd x h0
  rw [brN_odd _ hbd.1 hbd.2, odd_pow x h0 k i hk hi, o8_odd i (by lia)]
  by_cases hz : (odd x + ((o8.getD i 0 : Nat) : Int)) % 2 = 0
  · rw [if_pos hz]; lia
  · rw [if_neg hz]; lia
theorem dueB_all : ((List.range 2).all fun a => (List.range 2).all fun b => (List.range 3).all fun k => lvB (DW a k) (DW b k) (if a = b then 0 else 2 * ((k : Int) + 1)) (if a = b then 0 else 2 * ((k : Int) + 1))) = true := by decide +kernel
theorem plain_due (x y : Int) (h0 : 0 ≤ x) (h1 : x < 4096) (h2 : 0 ≤ y) (h3 : y < 4096) (k : Nat) (hk : k < 3) :
    LevPre (rowL (x * 2 ^ k) (2 ^ k)) (rowL (y * 2 ^ k) (2 ^ k)) (if odd x = odd y then 0 else 2 * ((k : Int) + 1)) (if odd x = odd y then 0 else 2 * ((k : Int) + 1)) := by
  have hpw : (2 : Nat) ^ k ≤ 4 := by
    have h3 : k = 0 ∨ k = 1 ∨ k = 2 := by lia
    rcases h3 with rfl | rfl | rfl <;> decide
  have hbx := odd_bd x h0
  have hby := odd_bd y h2
  refine lev_of (by rw [rowL_len]; lia) (by rw [rowL_len, rowL_len]) (by split <;> lia) (fun c hc => rowL_mem hc) (fun c hc => rowL_mem hc) ?_
  rw [row_DW x h0 h1 k hk, row_DW y h2 h3 k hk]
  have h := all_range (all_range (all_range dueB_all (show (odd x).toNat < 2 by lia)) (show (odd y).toNat < 2 by lia)) hk
  by_cases hxy : odd x = odd y
  · rw [if_pos hxy]
    rw [if_pos (by lia)] at h
    exact h
  · rw [if_neg hxy]
    rw [if_neg (by lia)] at h
    exact h
end Mine
end

section
open PySem PySem.W PyProof.Rows PySem.Spec PySem.Calls
namespace Mine
theorem goodWG_bool {c : ClaimW} {cl : PySem.Str → Option Addr} {mean : ExcName → Option Value} {args : List WData} {s₁ s' : Shared} {L : Addr} {m : PySem.Str → Option Value} {b : Bool} (F : Fr s₁.heap L s'.heap m) (hg : AllBare s'.gens) (hn : ∀ cls, c.raises args cls = false) (hp : c.post args (.bool b) args = true) (hos : s'.os = s₁.os) :
    GoodWG c cl mean args s₁ (.ok (.ret (.bool b))) s' :=
  ⟨.inl ⟨.bool b, .bool b, [], rfl, hn, .bool b, hp, unshared_nil⟩, .of_keep F.keep, hos, hg⟩
end Mine
end

section
open PySem PySem.W PyProof.Rows PySem.Spec PySem.Calls
namespace Mine
local macro_rules | `(tactic| walk_at "binaryOp Add ref ref") => `(tactic| (k_here; k_dflt (refine' kmk_add_ints ?F ?N ?a ?b ?i ?j ?_ ?z; (case F => k_asm); (case N => k_asm); (case a => kmk_list); (case b => kmk_list); (case i => l_ints); (case j => l_ints); (case z => (simp only [sizeLine_eq, List.length_append]; omega))); intro D' ws' h' F' N' l1 hI'; (try k_lt l1)))
local macro_rules | `(tactic| walk_at "call builtin:iter") => `(tactic| (k_here; k_dflt (refine' bi_iter ?F ?N ?_; (case F => k_asm); (case N => k_asm)); intro I' h' F' N' l1; (try k_lt l1)))
local macro_rules | `(tactic| walk_at "call ref") => `(tactic| (refine StopW.mk ?_))
local macro_rules | `(tactic| walk_at "eval ListComp") => `(tactic| (refine StopW.mk ?_))
local macro_rules | `(tactic| walk_at "exec Assign cons ListComp") => `(tactic| (lct_look; refine StopW.mk ?_))
local macro_rules | `(tactic| walk_at "CompSrcT") => `(tactic| (refine StopW.mk ?_))
local macro_rules | `(tactic| walk_at "CompSrc") => `(tactic| (refine StopW.mk ?_))
local macro_rules | `(tactic| walk_at "exec For Name Call cons nil") => `(tactic| (refine StopW.mk ?_))
local macro_rules | `(tactic| walk_at "TurnPost") => `(tactic| (dsimp only [TurnPost]))
local macro_rules | `(tactic| k_all) => `(tactic| assumption)
noncomputable def law.tw4893575301116900237 : Nat := 0
noncomputable def law.tw16756087238492270046 : Nat := 0
noncomputable def law.tw10017303938028548802 : Nat := 0
noncomputable def law.tw10682346804044242067 : Nat := 0
noncomputable def law.tw1938744211872416739 : Nat := 0
noncomputable def law.tw11638641577016448809 : Nat := 0
noncomputable def law.tw3875074332801123443 : Nat := 0
noncomputable def law.tw17865747701858748339 : Nat := 0
noncomputable def law.tw9557124704186283899 : Nat := 0
noncomputable def law.tw11522750334253289022 : Nat := 0
noncomputable def law.tw5791664423640123072 : Nat := 0
noncomputable def law.tw9509988469621980896 : Nat := 0
noncomputable def law.tw15190560575060366405 : Nat := 0
noncomputable def law.tw16234711888074852603 : Nat := 0
noncomputable def law.tw12287136234533164809 : Nat := 0
noncomputable def law.tw5163882766636681606 : Nat := 0
noncomputable def law.tw7873568984172552413 : Nat := 0
noncomputable def law.tw15965980055267658272 : Nat := 0
noncomputable def law.tw3008341582244820868 : Nat := 0
noncomputable def law.tw10679139363750780021 : Nat := 0
noncomputable def law.tw14599413283764096708 : Nat := 0
noncomputable def law.tw17084091479934422900 : Nat := 0
noncomputable def law.tw8862305216795178012 : Nat := 0
noncomputable def law.tw10309131346113790939 : Nat := 0
noncomputable def law.tw759412082559616514 : Nat := 0
noncomputable def law.tw163467674121137261 : Nat := 0
noncomputable def law.tw5926448791855114412 : Nat := 0
noncomputable def law.tw9035912170408793244 : Nat := 0
noncomputable def law.tw3546409519315090473 : Nat := 0
noncomputable def law.tw3626631501046058187 : Nat := 0
noncomputable def law.tw3635574925395915108 : Nat := 0
noncomputable def law.tw11013384265288417636 : Nat := 0
noncomputable def law.tw11321696052379929097 : Nat := 0
noncomputable def law.tw8765402361407721219 : Nat := 0
noncomputable def law.tw1823688381079382038 : Nat := 0
noncomputable def law.tw8695362306470200571 : Nat := 0
noncomputable def law.tw9383713532851269502 : Nat := 0
noncomputable def law.tw10426067975794604667 : Nat := 0
noncomputable def law.tw13047991302672676317 : Nat := 0
noncomputable def law.tw12460558941114831546 : Nat := 0
noncomputable def law.tw17794265857875359651 : Nat := 0
noncomputable def law.tw17047492394340028445 : Nat := 0
noncomputable def law.tw15494371944516692473 : Nat := 0
noncomputable def law.tw9148902814395704832 : Nat := 0
noncomputable def law.tw1534048385495124832 : Nat := 0
noncomputable def law.tw11382707499955547593 : Nat := 0
noncomputable def law.tw12493615336969742014 : Nat := 0
noncomputable def law.tw1686647556559472485 : Nat := 0
noncomputable def law.tw5995636244603389501 : Nat := 0
noncomputable def law.tw6277695593091390052 : Nat := 0
noncomputable def law.tw7712447660842303439 : Nat := 0
noncomputable def law.tw17985451953469339569 : Nat := 0
noncomputable def law.tw4194663440844013013 : Nat := 0
noncomputable def law.tw10331120583188404884 : Nat := 0
noncomputable def law.tw18219528747456934684 : Nat := 0
noncomputable def law.tw9937669407633546576 : Nat := 0
noncomputable def law.tw4189197808216739701 : Nat := 0
noncomputable def law.tw4811541298574165355 : Nat := 0
noncomputable def law.tw4089622393701157624 : Nat := 0
noncomputable def law.tw2070672184697497193 : Nat := 0
noncomputable def law.tw15527927729848545629 : Nat := 0
noncomputable def law.tw15716018542321952146 : Nat := 0
noncomputable def law.tw4789647429693112344 : Nat := 0
noncomputable def law.tw3354418783263562886 : Nat := 0
noncomputable def law.tw16121300976676042060 : Nat := 0
noncomputable def law.tw78471710054612476 : Nat := 0
noncomputable def law.tw3540389220791546976 : Nat := 0
noncomputable def law.tw16143402536387952546 : Nat := 0
noncomputable def law.tw15057182624156400746 : Nat := 0
noncomputable def law.tw10514562384108138522 : Nat := 0
noncomputable def law.tw3602087526383413984 : Nat := 0
noncomputable def law.tw10739836229700673485 : Nat := 0
noncomputable def law.tw2030965984702790068 : Nat := 0
noncomputable def law.tw9084386154913301970 : Nat := 0
noncomputable def law.tw3054335285294786930 : Nat := 0
noncomputable def law.tw6003215673028684012 : Nat := 0
noncomputable def law.tw14454013014457997316 : Nat := 0
noncomputable def law.tw14805874555140095111 : Nat := 0
noncomputable def law.tw6944951937206755967 : Nat := 0
noncomputable def law.tw11935970676940699786 : Nat := 0
noncomputable def law.tw2190958759868804901 : Nat := 0
noncomputable def law.tw3886675843612926803 : Nat := 0
noncomputable def law.tw10688277823682773845 : Nat := 0
noncomputable def law.tw102369953223478417 : Nat := 0
noncomputable def law.tw8925713298282904106 : Nat := 0
noncomputable def law.tw14863036695008648806 : Nat := 0
noncomputable def law.tw8393808627357018136 : Nat := 0
noncomputable def law.tw15700806725817004867 : Nat := 0
noncomputable def law.tw445187652221266311 : Nat := 0
noncomputable def law.tw5112332982280096225 : Nat := 0
noncomputable def law.tw16176092079185841447 : Nat := 0
noncomputable def law.tw16127396978525395202 : Nat := 0
noncomputable def law.tw407461395843676723 : Nat := 0
noncomputable def law.tw4567791690157840171 : Nat := 0
noncomputable def law.tw1710791838299486756 : Nat := 0
noncomputable def law.tw16617871175012263787 : Nat := 0
noncomputable def law.tw13542253949724653569 : Nat := 0
noncomputable def law.tw7874035108860355382 : Nat := 0
noncomputable def law.tw14152130928434042037 : Nat := 0
noncomputable def law.tw9641771715135223730 : Nat := 0
noncomputable def law.tw2759683279807804344 : Nat := 0
noncomputable def law.tw16114145909470816235 : Nat := 0
noncomputable def law.tw5220970943305120558 : Nat := 0
noncomputable def law.tw7637284107889890762 : Nat := 0
noncomputable def law.tw14000446723430198427 : Nat := 0
noncomputable def law.tw10365027968710667838 : Nat := 0
noncomputable def law.tw14035150605665280278 : Nat := 0
noncomputable def law.tw6152378112859876241 : Nat := 0
noncomputable def law.tw9710088225557845874 : Nat := 0
noncomputable def law.tw17289018086036417837 : Nat := 0
noncomputable def law.tw10036594631794845626 : Nat := 0
noncomputable def law.tw8476946520831507393 : Nat := 0
noncomputable def law.tw10243927037389961114 : Nat := 0
noncomputable def law.tw6446545568877546841 : Nat := 0
noncomputable def law.tw2688440419461138214 : Nat := 0
noncomputable def law.tw13015613923333616007 : Nat := 0
noncomputable def law.tw16508637522281333976 : Nat := 0
noncomputable def law.tw8319792697340206452 : Nat := 0
noncomputable def law.tw16884566110622355778 : Nat := 0
noncomputable def law.tw5778479216837208672 : Nat := 0
noncomputable def law.tw4374311865265045770 : Nat := 0
set_option Elab.async true in
set_option maxRecDepth 100000 in
set_option maxHeartbeats 100000000 in
theorem law : PySem.Challenge.rw_sn0048_01.Holds := by
  w_on; o_law; k_head
  (case hw => w_witness2)
  w_top off
  k_with_none
  k_fill
  intro w s₀ s₁ mg mb G Y fa o pm cd doc dV kV ho hd hcd hD hmg hg args vals as hpre hlay hrd hwl hlo
  have KX : (Mine.a.heap_1_1 w.params).In s₁.heap := kIn_of Y
  have X := (Ground.X G).1
  have V := (Ground.X G).2
  try w_nolog (first | (have GL := glob_more (Ground.glob G (by first | k_qdec | decide +kernel)) V) | (have GL := glob_more (Ground.glob G (by decide +kernel)) V))
  refine Ground.open G ?_
  intro T B D TE TW
  try (refine guard_noD D (by decide +kernel) ?_; clear D)
  obtain ⟨_, _, M⟩ := bmod_of_top T
  have TA := at_of_top T
  try (obtain ⟨_, _, he, B0⟩ := based_of_top T rfl hmg ho hd; have he' : cd = _ := he; subst he'; clear he)
  clear hmg
  wrow_args hpre hlay hrd hwl hlo
  all_goals (
    first | refine callC_kw (enter_call ?_) | refine enter_call ?_ | refine callC_kw (enter_callW ?_) | refine enter_callW ?_ | w_how
    w_top on
    have K0 := below_caller s₁.heap
    w_call any ho hd hcd hD T F
    clear hd TA
    k_drop
    skip)
  all_goals try k_fold
  replace T : Top Mine.a.view_1_2 (looseW Mine.a.view_1_2 [PySem.Str.ofString "COMPILER_FLAG_NAMES", PySem.Str.ofString "EXACT_TOKEN_TYPES"]) (ExcName.means s₀.heap) mg mb s₁.heap := T
  rename IntsAre _ _ => hI
  rename News _ _ _ _ => N
  k_steps
  unfold StopW
  rename Fr _ _ _ _ => F
  refine comp_mod rfl F N rfl (by assumption) hI (by omega) (by decide) rfl rfl (by decide) (by decide) rfl (by decide) rfl (by decide) rfl (fun _ => rfl) (pick_le hI (by omega) _ _ _) ?_
  intro D ys ks h tk F N _ hI1 hk1 hl1
  iterate 2 walk1
  rename News _ _ _ _ => N
  replace N := cb_drop N (fun p hp => .tail _ hp)
  k_steps
  unfold StopW
  rename Fr _ _ _ _ => F
  rename News _ _ _ _ => N
  obtain ⟨x, he, hx0, hx1⟩ := fmod_ex 11 4096 (by decide) (by decide) ks hk1
  rw [he] at F
  clear he hI1 hk1 hl1
  refine comp_mod rfl F N rfl (by assumption) hI (by omega) (by decide) rfl rfl (by decide) (by decide) rfl (by decide) rfl (by decide) rfl (fun _ => rfl) (pick_le hI (by omega) _ _ _) ?_
  intro D ys ks h tk F N _ hI1 hk1 hl1
  iterate 2 walk1
  rename News _ _ _ _ => N
  replace N := cb_drop N (fun p hp => .tail _ hp)
  k_steps
  unfold StopW
  rename Fr _ _ _ _ => F
  rename News _ _ _ _ => N
  obtain ⟨y, he, hy0, hy1⟩ := fmod_ex 36 4096 (by decide) (by decide) ks hk1
  rw [he] at F
  clear he hI1 hk1 hl1
  refine comp_mod rfl F N rfl (by assumption) hI (by omega) (by decide) rfl rfl (by decide) (by decide) rfl (by decide) rfl (by decide) rfl (fun _ => rfl) (pick_le hI (by omega) _ _ _) ?_
  intro D ys ks h tk F N _ hI1 hk1 hl1
  iterate 2 walk1
  rename News _ _ _ _ => N
  replace N := cb_drop N (fun p hp => .tail _ hp)
  k_steps
  unfold StopW
  rename Fr _ _ _ _ => F
  rename News _ _ _ _ => N
  obtain ⟨z, he, hz0, hz1⟩ := fmod_ex 7 16384 (by decide) (by decide) ks hk1
  rename (Obj.data _ = Data.cell (some _)) => hz
  rw [he] at hz
  clear hI1 hk1 hl1
  ((k_here; k_dflt ((refine' (c_octets _ _ _ _ _ _) _ _ _ _ _ _ _ _ _ _ _ _ _ _ _ _ _ _ ?k1u36 ?k2u36 ?k3u36 ?k4u36 ?k5u36 ?kKu36 ?kpu36 ?kdu36 ?kuu36 ?kRu36); (case k1u36 => k_asm); (case k2u36 => k_asm); (case k3u36 => k_asm); (case k4u36 => k_asm); (case k5u36 => k_asm); (case kKu36 => first | exact rfl | assumption); (case kpu36 => constructor <;> omega); (case kdu36 => ktr_room); (case kuu36 => ktr_units); (intro _ _ _ _ _ _ _ _); (try dsimp only); (try k_fold))))
  have ox := octs_len x
  have oy := octs_len y
  have oz := octs_len z
  k_steps
  unfold StopW
  ((k_here; k_dflt ((refine' (c_octets _ _ _ _ _ _) _ _ _ _ _ _ _ _ _ _ _ _ _ _ _ _ _ _ ?k1u37 ?k2u37 ?k3u37 ?k4u37 ?k5u37 ?kKu37 ?kpu37 ?kdu37 ?kuu37 ?kRu37); (case k1u37 => k_asm); (case k2u37 => k_asm); (case k3u37 => k_asm); (case k4u37 => k_asm); (case k5u37 => k_asm); (case kKu37 => first | exact rfl | assumption); (case kpu37 => constructor <;> omega); (case kdu37 => ktr_room); (case kuu37 => ktr_units); (intro _ _ _ _ _ _ _ _); (try dsimp only); (try k_fold))))
  k_steps
  unfold StopW
  ((k_here; k_dflt ((refine' (c_octets _ _ _ _ _ _) _ _ _ _ _ _ _ _ _ _ _ _ _ _ _ _ _ _ ?k1u38 ?k2u38 ?k3u38 ?k4u38 ?k5u38 ?kKu38 ?kpu38 ?kdu38 ?kuu38 ?kRu38); (case k1u38 => k_asm); (case k2u38 => k_asm); (case k3u38 => k_asm); (case k4u38 => k_asm); (case k5u38 => k_asm); (case kKu38 => first | exact rfl | assumption); (case kpu38 => constructor <;> omega); (case kdu38 => ktr_room); (case kuu38 => ktr_units); (intro _ _ _ _ _ _ _ _); (try dsimp only); (try k_fold))))
  k_steps
  rename Fr _ _ _ _ => F
  rename News _ _ _ _ => N
  rename IntsAre _ (octs x ++ octs y ++ octs z) => hIB
  have hin : KBa.In (octs x ++ octs y ++ octs z) := by
    intro k hk
    rcases List.mem_append.mp hk with hk | hk
    · rcases List.mem_append.mp hk with hk | hk
      · exact octs_in x (by omega) (by omega) k hk
      · exact octs_in y (by omega) (by omega) k hk
    · exact octs_in z (by omega) (by omega) k hk
  refine KBa.make_K F N rfl (News.isList N (.head _)) hIB hin (by simp only [List.length_append]; omega) ?_
  intro h tb k F N _
  have hbi := KBa.ints_make hin
  generalize byteArr (octs x ++ octs y ++ octs z) = bs at *
  replace N := cb_drop N (fun p hp => .tail _ (.tail _ (.tail _ (.tail _ (.tail _ hp)))))
  clear hin hIB
  k_steps
  unfold StopW
  rename Fr _ _ _ _ => F
  rename News _ _ _ _ => N
  have ho1 := pos_at (l := KBw.bInts bs) (a := []) (b := octs x) (c := octs y ++ octs z) (by rw [hbi]; simp) (i := 0) rfl
  have ho2 := pos_at (l := KBw.bInts bs) (a := octs x) (b := octs y) (c := octs z) hbi (i := 0 + (octs x).length) (by simp)
  have ho3 := pos_at (l := KBw.bInts bs) (a := octs x ++ octs y) (b := octs z) (c := []) (by rw [hbi]; simp) (i := 0 + (octs x).length + (octs y).length) (by simp)
  ((k_here; k_dflt ((refine' (c_parse _ _ _ _ _ _ _ x _) _ _ _ _ _ _ _ _ _ _ _ _ _ _ _ _ _ _ ?k1u39 ?k2u39 ?k3u39 ?k4u39 ?k5u39 ?kKu39 ?knu39 ?kbu39 ?kou39 ?kdu39 ?kuu39 ?kRu39); (case k1u39 => k_asm); (case k2u39 => k_asm); (case k3u39 => k_asm); (case k4u39 => k_asm); (case k5u39 => k_asm); (case kKu39 => first | exact rfl | assumption); (case knu39 => first | assumption | exact ne4 (by assumption)); (case kbu39 => constructor <;> omega); (case kou39 => assumption); (case kdu39 => ktr_room); (case kuu39 => ktr_units); (intro _ _ _ _ _); (try dsimp only); (try k_fold))))
  k_steps
  unfold StopW
  ((k_here; k_dflt ((refine' (c_parse _ _ _ _ _ _ _ y _) _ _ _ _ _ _ _ _ _ _ _ _ _ _ _ _ _ _ ?k1u40 ?k2u40 ?k3u40 ?k4u40 ?k5u40 ?kKu40 ?knu40 ?kbu40 ?kou40 ?kdu40 ?kuu40 ?kRu40); (case k1u40 => k_asm); (case k2u40 => k_asm); (case k3u40 => k_asm); (case k4u40 => k_asm); (case k5u40 => k_asm); (case kKu40 => first | exact rfl | assumption); (case knu40 => first | assumption | exact ne4 (by assumption)); (case kbu40 => constructor <;> omega); (case kou40 => assumption); (case kdu40 => ktr_room); (case kuu40 => ktr_units); (intro _ _ _ _ _); (try dsimp only); (try k_fold))))
  k_steps
  unfold StopW
  ((k_here; k_dflt ((refine' (c_parse _ _ _ _ _ _ _ z _) _ _ _ _ _ _ _ _ _ _ _ _ _ _ _ _ _ _ ?k1u41 ?k2u41 ?k3u41 ?k4u41 ?k5u41 ?kKu41 ?knu41 ?kbu41 ?kou41 ?kdu41 ?kuu41 ?kRu41); (case k1u41 => k_asm); (case k2u41 => k_asm); (case k3u41 => k_asm); (case k4u41 => k_asm); (case k5u41 => k_asm); (case kKu41 => first | exact rfl | assumption); (case knu41 => first | assumption | exact ne4 (by assumption)); (case kbu41 => constructor <;> omega); (case kou41 => assumption); (case kdu41 => ktr_room); (case kuu41 => ktr_units); (intro _ _ _ _ _); (try dsimp only); (try k_fold))))
  k_steps
  unfold StopW
  rename Fr _ _ _ _ => F
  rename News _ _ _ _ => N
  replace N := cb_drop N (fun p hp => .tail _ (.tail _ (.tail _ hp)))
  refine LCt.Assign_ListComp_T (F₀ := F) (by rfl) (by with_unfolding_all rfl) (by with_unfolding_all rfl) (by decide) (by rfl) (by decide) (by rfl) (by rfl) (by rfl) ?_
  k_steps
  unfold StopW
  rename Fr _ _ _ _ => F
  rename News _ _ _ _ => N
  rename IsRange _ _ _ _ _ _ _ _ => hr
  refine LCt.CompSrcT.range (n := 15) rfl F N hr (by decide) (by decide) (by rw [sizeLine_eq]; omega) (fun g => ?_)
  refine comp_allT (powP z) powF _ trivial ?_ ?_
  · intro i v I oI C oC D2 ys2 m2 h tk R' R E' hi hP hN hx F N hR' hR
    obtain ⟨t, rfl⟩ := hP
    obtain ⟨k, hk, hk0, hk1⟩ : ∃ k : Int, 0 + (i : Int) = k ∧ 0 ≤ k ∧ k ≤ 14 := ⟨_, rfl, by omega, by omega⟩
    rw [hk] at hx
    have hpf : powF i = 2 ^ k.toNat := by unfold powF; rw [hk]
    have hpp : powP z i = decide (((2 * z + 1).fdiv (2 ^ k.toNat)).fmod 2 = 1) := by unfold powP; rw [hk]
    dsimp only
    iterate 14 walk1
    dsimp only
    iterate 4 walk1
    dsimp only
    k_steps
    · dsimp only
      rw [← hpf]
      exact hR _ _ _ (hpp.trans (decide_eq_true (by assumption))) F N
    · exact hR' _ _ (hpp.trans (decide_eq_false (by assumption))) F N
  · intro ys hI8
    k_steps
    unfold StopW
    change IntsAre _ (powL z) at hI8
    have hL8 := hI8.length
    have hL9 := powL_len hz0
    have hM9 := fun (k : Int) => @powL_mem z hz0 k
    have hS9 := pretty_sum z hz0
    generalize powL z = ps at *
    ((k_here; k_dflt ((refine' (c_prettyI _ _ _ _ _ _) _ _ _ _ _ _ _ _ _ _ _ _ _ _ _ _ _ _ ?k1u42 ?k2u42 ?k3u42 ?k4u42 ?k5u42 ?kKu42 ?kpu42 ?kdu42 ?kuu42 ?kRu42); (case k1u42 => k_asm); (case k2u42 => k_asm); (case k3u42 => k_asm); (case k4u42 => k_asm); (case k5u42 => k_asm); (case kKu42 => first | exact rfl | assumption); (case kpu42 => (try dsimp only); first | trivial | k_extra "pre" | assumption | omega | l_fact); (case kdu42 => ktr_room); (case kuu42 => ktr_units); (intro _ _ _ _ _); (try dsimp only); (try k_fold))))
    k_steps
    ((unfold StopW; k_here; k_dflt (refine LCg.ListComp_U (F₀ := by k_asm) (by with_unfolding_all rfl) (by decide) (by rfl) (by decide) (by rfl) ?_); k_steps))
    unfold StopW
    rename Fr _ _ _ _ => F
    rename News _ _ _ _ => N
    refine LCg.CompSrc.ledger rfl F N (.head _) (by rw [sizeLine_eq, List.size_toArray, hL8]; omega) (fun g => ?_)
    refine comp_all (fun i v => ∃ k, ps[i]? = some k ∧ ∃ t, v = .str (pretty k.toNat) t) _ (.inr ⟨_, .head _, rfl, _, rfl⟩) ?_ ?_
    · intro i v I oI C oC D2 ys2 m2 h tk Q' E' hi hP hN hx F N hQ
      rw [List.getElem?_toArray] at hP
      obtain ⟨k, t, hk, rfl⟩ := ints_get hI8 i v hP
      have hk1 := hM9 k (List.mem_of_getElem? hk)
      k_steps
      unfold StopW
      ((k_here; k_dflt ((refine' (c_prettyI _ _ _ _ _ _) _ _ _ _ _ _ _ _ _ _ _ _ _ _ _ _ _ _ ?k1u44 ?k2u44 ?k3u44 ?k4u44 ?k5u44 ?kKu44 ?kpu44 ?kdu44 ?kuu44 ?kRu44); (case k1u44 => k_asm); (case k2u44 => k_asm); (case k3u44 => k_asm); (case k4u44 => k_asm); (case k5u44 => k_asm); (case kKu44 => first | exact rfl | assumption); (case kpu44 => (try dsimp only); first | trivial | k_extra "pre" | assumption | omega | l_fact); (case kdu44 => ktr_room); (case kuu44 => ktr_units); (intro _ _ _ _ _); (try dsimp only); (try k_fold))))
      rename Fr _ _ _ _ => F
      rename News _ _ _ _ => N
      exact hQ _ _ _ ⟨k, hk, _, rfl⟩ F N
    · intro ys2 hyl hy D2 h tk F N off
      rw [List.size_toArray, hL8] at hyl
      obtain ⟨l2, rfl, hl2⟩ := strs_of (fun k : Int => pretty k.toNat) ys2 ps hyl hy
      k_steps
      refine' SC.join (News.isList N (.head _)) hl2 (joinOk_pow hL9) ?_
      rw [hS9]
      have hne9 : (pretty (2 * z + 1).toNat != pretty (2 * z + 1).toNat) = false := by simp
      replace N := cb_drop N (fun p hp => .tail _ (.tail _ hp))
      k_steps
      ((unfold StopW; k_here; k_dflt (refine LCg.ListComp_U (F₀ := by k_asm) (by with_unfolding_all rfl) (by decide) (by rfl) (by decide) (by rfl) ?_); k_steps))
      unfold StopW
      have hf2 := Int.fdiv_eq_ediv_of_nonneg x (b := 2) (by omega)
      generalize hlo : x.fdiv 2 = lo at *
      have hlo1 : 2 * lo ≤ x := by omega
      have hlo2 : x < 2 * lo + 2 := by omega
      clear hf2
      rename Fr _ _ _ _ => F
      rename News _ _ _ _ => N
      rename IsRange _ _ _ _ _ _ _ _ => hr
      refine LCg.CompSrc.range (n := 7) rfl F N hr (small_one (by omega) (by omega) (by omega) (by omega)) (by rw [rangeSize_nat]; omega) (by rw [sizeLine_eq]; omega) (fun g => ?_)
      refine comp_all (fun i v => ∃ t, v = .int (odd (lo + (i : Int))) t) _ trivial ?_ ?_
      · intro i v I oI C oC D2 ys2 m2 h tk Q' E' hi hP hN hx F N hQ
        obtain ⟨t, rfl⟩ := hP
        k_steps
        unfold StopW
        ((k_here; k_dflt ((refine' (c_odd _ _ _ _ _ _) _ _ _ _ _ _ _ _ _ _ _ _ _ _ _ _ _ _ ?k1u46 ?k2u46 ?k3u46 ?k4u46 ?k5u46 ?kKu46 ?kpu46 ?kdu46 ?kuu46 ?kRu46); (case k1u46 => k_asm); (case k2u46 => k_asm); (case k3u46 => k_asm); (case k4u46 => k_asm); (case k5u46 => k_asm); (case kKu46 => first | exact rfl | assumption); (case kpu46 => (try dsimp only); first | trivial | k_extra "pre" | assumption | omega | l_fact); (case kdu46 => ktr_room); (case kuu46 => ktr_units); (intro _ _ _ _ _); (try dsimp only); (try k_fold))))
        rename Fr _ _ _ _ => F
        rename News _ _ _ _ => N
        exact hQ _ _ _ ⟨_, rfl⟩ F N
      · intro ys3 hyl hy D2 h tk F N off
        have hI3 := oddL_ints hyl hy
        clear hy
        k_steps
        unfold StopW
        ((k_here; k_dflt ((refine' (c_row _ _ _ _ _ 12 _ _) _ _ _ _ _ _ _ _ _ _ _ _ _ _ _ _ _ _ ?k1u47 ?k2u47 ?k3u47 ?k4u47 ?k5u47 ?kKu47 ?kpu47 ?kdu47 ?kuu47 ?kRu47); (case k1u47 => k_asm); (case k2u47 => k_asm); (case k3u47 => k_asm); (case k4u47 => k_asm); (case k5u47 => k_asm); (case kKu47 => first | exact rfl | assumption); (case kpu47 => (try dsimp only); first | trivial | k_extra "pre" | assumption | omega | l_fact); (case kdu47 => ktr_room); (case kuu47 => ktr_units); (intro _ _ _ _ _); (try dsimp only); (try k_fold))))
        rw [show rowS x (Int.toNat 12) = mkS (rowL x 12) from rowS_mk x 12]
        have hRl := rowL_len x 12
        have hRm := fun (c : Nat) => @rowL_mem x 12 c
        k_steps
        ((unfold StopW; k_here; k_dflt (refine LCg.ListComp_U (F₀ := by k_asm) (by with_unfolding_all rfl) (by decide) (by rfl) (by decide) (by rfl) ?_); k_steps))
        unfold StopW
        rename Fr _ _ _ _ => F
        rename News _ _ _ _ => N
        rename IsRange _ _ _ _ _ _ _ _ => hr
        refine LCg.CompSrc.range (n := 12) rfl F N hr (small_one (by omega) (by omega) (by omega) (by omega)) (by rw [rangeSize_nat]; omega) (by rw [sizeLine_eq]; omega) (fun g => ?_)
        refine comp_all (fun i v => ∃ k, (List.range 12)[i]? = some k ∧ ∃ t, v = .str (mkS [brN (x + (k : Int))]) t) _ trivial ?_ ?_
        · intro i v I oI C oC D2 ys2 m2 h tk Q' E' hi hP hN hx F N hQ
          obtain ⟨t, rfl⟩ := hP
          have hit := item_br x lo i hx0 hx1 hlo1 hlo2 hi
          k_steps
          dsimp only
          rw [hit]
          exact hQ _ _ _ ⟨i, List.getElem?_range hi, _, rfl⟩ F N
        · intro ys4 hyl hy D2 h tk F N off
          obtain ⟨l4, rfl, hl4⟩ := strs_of (fun i : Nat => mkS [brN (x + (i : Int))]) ys4 (List.range 12) (by rw [hyl, List.length_range]) hy
          k_steps
          refine' SC.join (News.isList N (.head _)) hl4 (row_joinOk x 12 (by omega)) ?_
          rw [row_flat x 12]
          generalize hReq : rowL x 12 = R at *
          have hRl' : (mkS R).length = 12 := by rw [mkS_len, hRl]
          have hneR : (mkS R != mkS R) = false := by simp
          replace N := cb_drop N (fun p hp => .tail _ hp)
          k_steps
          unfold StopW
          rename Fr _ _ _ _ => F
          rename News _ _ _ _ => N
          rename IsRange _ _ _ _ _ _ _ _ => hr
          refine LCg.CompSrc.range (n := 7) rfl F N hr (small_one (by omega) (by omega) (by omega) (by omega)) (by rw [rangeSize_nat]; omega) (by rw [sizeLine_eq]; omega) (fun g => ?_)
          refine comp_all (fun i v => ∃ k, (List.range 7)[i]? = some k ∧ ∃ t, v = .str (mkS (pieceL z R k)) t) _ trivial ?_ ?_
          · intro i v I oI C oC D2 ys2 m2 h tk Q' E' hi hP hN hx F N hQ
            obtain ⟨t, rfl⟩ := hP
            have hit := item_mk R i (by omega)
            rw [Int.zero_add] at hx
            k_steps
            · unfold StopW
              ((k_here; k_dflt ((refine' (c_rider _ _ _ _ _ _) _ _ _ _ _ _ _ _ _ _ _ _ _ _ _ _ _ _ ?k1u49 ?k2u49 ?k3u49 ?k4u49 ?k5u49 ?kKu49 ?kpu49 ?kdu49 ?kuu49 ?kRu49); (case k1u49 => k_asm); (case k2u49 => k_asm); (case k3u49 => k_asm); (case k4u49 => k_asm); (case k5u49 => k_asm); (case kKu49 => first | exact rfl | assumption); (case kpu49 => (try dsimp only); first | trivial | k_extra "pre" | assumption | omega | l_fact); (case kdu49 => ktr_room); (case kuu49 => ktr_units); (intro _ _ _ _ _); (try dsimp only); (try k_fold))))
              rename (_ = (z.fdiv 5).fmod 7) => hc
              have hpc := piece_y (R := R) hc
              k_steps
              rw [hit]
              refine add_br (by rw [mkS_len]; exact Nat.le_trans (rider_len _) (by decide)) (by rw [mkS_len]; exact Nat.le_of_ble_eq_true rfl) (fun t' tk' => ?_)
              rw [hpc]
              exact hQ _ _ _ ⟨i, List.getElem?_range hi, _, rfl⟩ (by assumption) (by assumption)
            · rename (_ ≠ (z.fdiv 5).fmod 7) => hc
              have hpc := piece_n (R := R) hc
              try dsimp only
              rw [hit, hpc]
              exact hQ _ _ _ ⟨i, List.getElem?_range hi, _, rfl⟩ (by assumption) (by assumption)
          · intro ys5 hyl hy D2 h tk F N off
            obtain ⟨l5, rfl, hl5⟩ := strs_of (fun i : Nat => mkS (pieceL z R i)) ys5 (List.range 7) (by rw [hyl, List.length_range]) hy
            k_steps
            unfold StopW
            with_unfolding_all refine for_G ?_
            k_steps
            rename Fr _ _ _ _ => F
            rename News _ _ _ _ => N
            rename IsRange _ _ _ _ _ _ _ _ => hr
            refine rg_loop (n := 7) (fun i gs m nx => Bare gs ∧ m "x" = some (.int x _) ∧ m "y" = some (.int y _) ∧ m "pieces" = some (.ref _) ∧ nx = _) rfl rfl rfl hr (small_one (by omega) (by omega) (by omega) (by omega)) (by rw [rangeSize_nat]; omega) F N ⟨by intro y hy; simp [hg] at hy, rfl, rfl, rfl, rfl⟩ ?_ ?_
            · clear F N hr
              intro i gs m₁ news₁ h tk t own hi hadr hoff hJ F N
              obtain ⟨hB, jx, jy, jp, rfl⟩ := hJ
              rw [mset jx, mset jy, mset jp] at F
              dsimp only at F
              clear jx jy jp
              rw [Int.zero_add] at F
              k_steps
              unfold StopW
              with_unfolding_all refine for_G ?_
              k_steps
              rename Fr _ _ _ _ => F
              rename News _ _ _ _ => N
              rename IsRange _ _ _ _ _ _ _ _ => hr
              refine rg_loop (n := 7 - i) (fun k gs m nx => Bare gs ∧ m "x" = some (.int x _) ∧ m "y" = some (.int y _) ∧ m "pieces" = some (.ref _) ∧ m "a" = some (.int (i : Int) _) ∧ nx = _) rfl rfl rfl hr (small_one (by omega) (by omega) (by omega) (by omega)) (by rw [rangeSize_nat]; omega) F N ⟨hB, rfl, rfl, rfl, rfl, rfl⟩ ?_ ?_
              · clear F N hr hB
                intro j gs m₁ news₁ h tk t own2 hj hadr2 hoff2 hJ F N
                obtain ⟨hB, jx, jy, jp, ja, rfl⟩ := hJ
                rw [mset jx, mset jy, mset jp, mset ja] at F
                dsimp only at F
                clear jx jy jp ja
                obtain ⟨b, hb, hb1, hb2⟩ : ∃ b : Nat, (i : Int) + 1 + (j : Int) = (b : Int) ∧ i < b ∧ b ≤ 7 := ⟨i + 1 + j, by omega, by omega, by omega⟩
                rw [hb] at F
                k_steps
                have hl7 : l5.length = 7 := by simpa [strValues] using hyl
                rw [pick_strs l5 i b (by omega) (by omega)] at *
                rename Fr _ _ _ _ => F
                rename News _ _ _ _ => N
                refine' SC.join (News.isList N (.head _)) (pcs_map hl5 i b) (pcs_ok z R i b) ?_
                rw [pcs_join z R i b]
                k_steps
                unfold StopW
                obtain ⟨⟨hsl1, hsl2⟩, hck⟩ := plain_check x z lo hx0 hx1 hlo1 hlo2 i b hb1 hb2
                rw [hReq] at hsl1 hsl2 hck
                have hpr : (segL z R i b).length ≤ 24 ∧ (stripL (segL z R i b)).length ≤ 24 := ⟨hsl1, hsl2⟩
                ((k_here; k_dflt ((refine' (c_check _ _ _ _ _ _) _ _ _ _ _ _ _ _ _ _ _ _ _ _ _ _ _ _ ?k1u50 ?k2u50 ?k3u50 ?k4u50 ?k5u50 ?kKu50 ?kpu50 ?kdu50 ?kuu50 ?kRu50); (case k1u50 => k_asm); (case k2u50 => k_asm); (case k3u50 => k_asm); (case k4u50 => k_asm); (case k5u50 => k_asm); (case kKu50 => first | exact rfl | assumption); (case kpu50 => (try dsimp only); first | trivial | k_extra "pre" | assumption | lia | l_fact); (case kdu50 => ktr_room); (case kuu50 => ktr_units); (intro _ _ _ _ _ _ _); (try dsimp only); (try k_fold))))
                k_steps
                unfold StopW
                have hta : ∀ (c : Nat), c ≤ 7 → 0 ≤ (x + (c : Int)) / 2 - lo ∧ (x + (c : Int)) / 2 - lo ≤ 4 := fun c hc => by omega
                rename IntsAre ys3 (oddL lo) => hI3
                ((k_here; k_dflt ((refine' (c_taken _ _ _ _ _ _ _ _ _ _ _ ys3 (oddL lo) ys3.length) _ _ _ _ _ _ _ _ _ _ _ _ _ _ _ _ _ _ ?k1u51 ?k2u51 ?k3u51 ?k4u51 ?k5u51 ?kKu51 ?kpu51 ?kdu51 ?kuu51 ?kRu51); (case k1u51 => k_asm); (case k2u51 => k_asm); (case k3u51 => k_asm); (case k4u51 => k_asm); (case k5u51 => k_asm); (case kKu51 => first | exact rfl | assumption); (case kpu51 => exact ⟨.tail _ (.tail _ (.head _)), hI3, oddL_len lo, (hta i (by omega)).1, (hta i (by omega)).2, (hta b hb2).1, (hta b hb2).2⟩); (case kdu51 => ktr_room); (case kuu51 => ktr_units); (intro _ _ _ _ _); (try dsimp only); (try k_fold))))
                k_steps
                · exact absurd (by assumption : (checkL (segL z R i b) != takenB (x + (i : Int)) (x + (b : Int)) lo (oddL lo)) = true) (by rw [hck]; simp)
                · rename Fr _ _ _ _ => F
                  rename News _ _ _ _ => N
                  rename (Bare _ → Bare _) => hB9
                  exact te_all F (cb_drop N (fun p hp => .tail _ hp)) rfl ⟨hB9 hB, rfl, rfl, rfl, rfl, rfl⟩
              · clear F N hr hB
                intro gs m₁ news₁ h tk hJ F N
                obtain ⟨hB, jx, jy, jp, ja, rfl⟩ := hJ
                k_steps
                exact te_all F N rfl ⟨hB, jx, jy, jp, rfl⟩
            · clear F N hr
              intro gs m₁ news₁ h tk hJ F N
              obtain ⟨hB, jx, jy, jp, rfl⟩ := hJ
              rw [mset jx, mset jy] at F
              clear jx jy jp
              dsimp only at F
              k_steps
              unfold StopW
              with_unfolding_all refine for_G ?_
              k_steps
              rename Fr _ _ _ _ => F
              rename News _ _ _ _ => N
              rename IsRange _ _ _ _ _ _ _ _ => hr
              refine rg_loop (n := 6) (fun i gs m nx => Bare gs ∧ m "x" = some (.int x _) ∧ m "y" = some (.int y _) ∧ nx = _) rfl rfl rfl hr (small_one (by omega) (by omega) (by omega) (by omega)) (by rw [rangeSize_nat]; omega) F N ⟨hB, rfl, rfl, rfl⟩ ?_ ?_
              · clear F N hr hB
                intro i gs m₁ news₁ h tk t own hi hadr hoff hJ F N
                obtain ⟨hB, jx, jy, rfl⟩ := hJ
                rw [mset jx, mset jy] at F
                dsimp only at F
                clear jx jy
                obtain ⟨s, hs, hs1, hs2⟩ : ∃ s : Nat, (1 : Int) + (i : Int) = (s : Int) ∧ 1 ≤ s ∧ s ≤ 6 := ⟨1 + i, by omega, by omega, by omega⟩
                rw [hs] at F
                k_steps
                unfold StopW
                ((k_here; k_dflt ((refine' (c_alike _ _ _ _ _ _ _ _) _ _ _ _ _ _ _ _ _ _ _ _ _ _ _ _ _ _ ?k1u52 ?k2u52 ?k3u52 ?k4u52 ?k5u52 ?kKu52 ?kpu52 ?kdu52 ?kuu52 ?kRu52); (case k1u52 => k_asm); (case k2u52 => k_asm); (case k3u52 => k_asm); (case k4u52 => k_asm); (case k5u52 => k_asm); (case kKu52 => first | exact rfl | assumption); (case kpu52 => (try dsimp only); first | trivial | k_extra "pre" | assumption | omega | l_fact); (case kdu52 => ktr_room); (case kuu52 => ktr_units); (intro _ _ _ _ _); (try dsimp only); (try k_fold))))
                k_steps
                unfold StopW
                have hLP := plain_alike x hx0 hx1 s hs1 hs2
                rw [hReq] at hLP
                rw [slice_to R s (by omega), show (2 * (s : Int)) = ((2 * s : Nat) : Int) by omega, slice_ab R s (2 * s) (by omega) (by omega)]
                generalize alike x (s : Int) = al at *
                cases al
                · simp only [Bool.false_eq_true, if_false] at hLP
                  ((k_here; k_dflt ((refine' (c_lev _ _ _ _ _ _ 0 1 _ _ _) _ _ _ _ _ _ _ _ _ _ _ _ _ _ _ _ _ _ ?k1u53 ?k2u53 ?k3u53 ?k4u53 ?k5u53 ?kKu53 ?kpu53 ?kdu53 ?kuu53 ?kRu53); (case k1u53 => k_asm); (case k2u53 => k_asm); (case k3u53 => k_asm); (case k4u53 => k_asm); (case k5u53 => k_asm); (case kKu53 => first | exact rfl | assumption); (case kpu53 => (try dsimp only); first | trivial | k_extra "pre" | assumption | omega | l_fact); (case kdu53 => ktr_room); (case kuu53 => ktr_units); (intro _ _ _ _ _); (try dsimp only); (try k_fold))))
                  k_steps
                  unfold StopW
                  ((k_here; k_dflt ((refine' (c_iseof _ _ _ _ _ _) _ _ _ _ _ _ _ _ _ _ _ _ _ _ _ _ _ _ ?k1u54 ?k2u54 ?k3u54 ?k4u54 ?k5u54 ?kKu54 ?kpu54 ?kdu54 ?kuu54 ?kRu54); (case k1u54 => k_asm); (case k2u54 => k_asm); (case k3u54 => k_asm); (case k4u54 => k_asm); (case k5u54 => k_asm); (case kKu54 => first | exact rfl | assumption); (case kpu54 => exact trivial); (case kdu54 => ktr_room); (case kuu54 => ktr_units); (intro _ _ _ _ _); (try dsimp only); (try k_fold))))
                  k_steps
                  rename Fr _ _ _ _ => F
                  rename News _ _ _ _ => N
                  exact te_all F N rfl ⟨hB, rfl, rfl, rfl⟩
                · simp only [if_true] at hLP
                  ((k_here; k_dflt ((refine' (c_lev _ _ _ _ _ _ 0 0 _ _ _) _ _ _ _ _ _ _ _ _ _ _ _ _ _ _ _ _ _ ?k1u55 ?k2u55 ?k3u55 ?k4u55 ?k5u55 ?kKu55 ?kpu55 ?kdu55 ?kuu55 ?kRu55); (case k1u55 => k_asm); (case k2u55 => k_asm); (case k3u55 => k_asm); (case k4u55 => k_asm); (case k5u55 => k_asm); (case kKu55 => first | exact rfl | assumption); (case kpu55 => (try dsimp only); first | trivial | k_extra "pre" | assumption | omega | l_fact); (case kdu55 => ktr_room); (case kuu55 => ktr_units); (intro _ _ _ _ _); (try dsimp only); (try k_fold))))
                  k_steps
                  unfold StopW
                  ((k_here; k_dflt ((refine' (c_iseof _ _ _ _ _ _) _ _ _ _ _ _ _ _ _ _ _ _ _ _ _ _ _ _ ?k1u56 ?k2u56 ?k3u56 ?k4u56 ?k5u56 ?kKu56 ?kpu56 ?kdu56 ?kuu56 ?kRu56); (case k1u56 => k_asm); (case k2u56 => k_asm); (case k3u56 => k_asm); (case k4u56 => k_asm); (case k5u56 => k_asm); (case kKu56 => first | exact rfl | assumption); (case kpu56 => exact trivial); (case kdu56 => ktr_room); (case kuu56 => ktr_units); (intro _ _ _ _ _); (try dsimp only); (try k_fold))))
                  k_steps
                  rename Fr _ _ _ _ => F
                  rename News _ _ _ _ => N
                  exact te_all F N rfl ⟨hB, rfl, rfl, rfl⟩
              · clear F N hr hB
                intro gs m₁ news₁ h tk hJ F N
                obtain ⟨hB, jx, jy, rfl⟩ := hJ
                rw [mset jx, mset jy] at F
                clear jx jy
                dsimp only at F
                k_steps
                unfold StopW
                with_unfolding_all refine for_G ?_
                k_steps
                rename Fr _ _ _ _ => F
                rename News _ _ _ _ => N
                rename IsRange _ _ _ _ _ _ _ _ => hr
                refine rg_loop (n := 3) (fun i gs m nx => Bare gs ∧ m "x" = some (.int x _) ∧ m "y" = some (.int y _) ∧ nx = _) rfl rfl rfl hr (small_one (by omega) (by omega) (by omega) (by omega)) (by rw [rangeSize_nat]; omega) F N ⟨hB, rfl, rfl, rfl⟩ ?_ ?_
                · clear F N hr hB
                  intro i gs m₁ news₁ h tk t own hi hadr hoff hJ F N
                  obtain ⟨hB, jx, jy, rfl⟩ := hJ
                  rw [mset jx, mset jy] at F
                  dsimp only at F
                  clear jx jy
                  rw [Int.zero_add] at F
                  k_steps
                  unfold StopW
                  ((k_here; k_dflt ((refine' (c_odd _ _ _ _ _ _) _ _ _ _ _ _ _ _ _ _ _ _ _ _ _ _ _ _ ?k1u57 ?k2u57 ?k3u57 ?k4u57 ?k5u57 ?kKu57 ?kpu57 ?kdu57 ?kuu57 ?kRu57); (case k1u57 => k_asm); (case k2u57 => k_asm); (case k3u57 => k_asm); (case k4u57 => k_asm); (case k5u57 => k_asm); (case kKu57 => first | exact rfl | assumption); (case kpu57 => (try dsimp only); first | trivial | k_extra "pre" | assumption | omega | l_fact); (case kdu57 => ktr_room); (case kuu57 => ktr_units); (intro _ _ _ _ _); (try dsimp only); (try k_fold))))
                  k_steps
                  unfold StopW
                  ((k_here; k_dflt ((refine' (c_odd _ _ _ _ _ _) _ _ _ _ _ _ _ _ _ _ _ _ _ _ _ _ _ _ ?k1u58 ?k2u58 ?k3u58 ?k4u58 ?k5u58 ?kKu58 ?kpu58 ?kdu58 ?kuu58 ?kRu58); (case k1u58 => k_asm); (case k2u58 => k_asm); (case k3u58 => k_asm); (case k4u58 => k_asm); (case k5u58 => k_asm); (case kKu58 => first | exact rfl | assumption); (case kpu58 => (try dsimp only); first | trivial | k_extra "pre" | assumption | omega | l_fact); (case kdu58 => ktr_room); (case kuu58 => ktr_units); (intro _ _ _ _ _); (try dsimp only); (try k_fold))))
                  have hLP := plain_due x y hx0 hx1 hy0 hy1 i hi
                  have hti : ((i : Int)).toNat = i := by omega
                  have hwN : ((2 : Int) ^ i).toNat = 2 ^ i := by
                    rw [show (2 : Int) ^ i = ((2 ^ i : Nat) : Int) by push_cast; rfl, Int.toNat_natCast]
                  have hpx : ∀ x : Int, 0 ≤ x → x < 4096 → 0 ≤ x * 2 ^ i ∧ 0 ≤ (2 : Int) ^ i ∧ (2 : Int) ^ i ≤ 12 ∧ x * 2 ^ i + 2 ^ i ≤ 16384 := by
                    intro x h0 h1
                    have h3 : i = 0 ∨ i = 1 ∨ i = 2 := by omega
                    rcases h3 with rfl | rfl | rfl <;> simp <;> omega
                  k_steps
                  · unfold StopW
                    rename (odd x = odd y) => hxy
                    rw [if_pos hxy] at hLP
                    ((k_here; k_dflt ((refine' (c_row _ _ _ _ _ _ _ _) _ _ _ _ _ _ _ _ _ _ _ _ _ _ _ _ _ _ ?k1u59 ?k2u59 ?k3u59 ?k4u59 ?k5u59 ?kKu59 ?kpu59 ?kdu59 ?kuu59 ?kRu59); (case k1u59 => k_asm); (case k2u59 => k_asm); (case k3u59 => k_asm); (case k4u59 => k_asm); (case k5u59 => k_asm); (case kKu59 => first | exact rfl | assumption); (case kpu59 => exact hpx x hx0 hx1); (case kdu59 => ktr_room); (case kuu59 => ktr_units); (intro _ _ _ _ _); (try dsimp only); (try k_fold))))
                    k_steps
                    unfold StopW
                    ((k_here; k_dflt ((refine' (c_row _ _ _ _ _ _ _ _) _ _ _ _ _ _ _ _ _ _ _ _ _ _ _ _ _ _ ?k1u60 ?k2u60 ?k3u60 ?k4u60 ?k5u60 ?kKu60 ?kpu60 ?kdu60 ?kuu60 ?kRu60); (case k1u60 => k_asm); (case k2u60 => k_asm); (case k3u60 => k_asm); (case k4u60 => k_asm); (case k5u60 => k_asm); (case kKu60 => first | exact rfl | assumption); (case kpu60 => exact hpx y hy0 hy1); (case kdu60 => ktr_room); (case kuu60 => ktr_units); (intro _ _ _ _ _); (try dsimp only); (try k_fold))))
                    k_steps
                    unfold StopW
                    rw [hti, hwN, rowS_mk, rowS_mk]
                    ((k_here; k_dflt ((refine' (c_lev _ _ _ _ _ _ 0 0 _ _ _) _ _ _ _ _ _ _ _ _ _ _ _ _ _ _ _ _ _ ?k1u61 ?k2u61 ?k3u61 ?k4u61 ?k5u61 ?kKu61 ?kpu61 ?kdu61 ?kuu61 ?kRu61); (case k1u61 => k_asm); (case k2u61 => k_asm); (case k3u61 => k_asm); (case k4u61 => k_asm); (case k5u61 => k_asm); (case kKu61 => first | exact rfl | assumption); (case kpu61 => (try dsimp only); first | trivial | k_extra "pre" | assumption | omega | l_fact); (case kdu61 => ktr_room); (case kuu61 => ktr_units); (intro _ _ _ _ _); (try dsimp only); (try k_fold))))
                    k_steps
                    rename Fr _ _ _ _ => F
                    rename News _ _ _ _ => N
                    exact te_all F N rfl ⟨hB, rfl, rfl, rfl⟩
                  · unfold StopW
                    rename (odd x ≠ odd y) => hxy
                    rw [if_neg hxy] at hLP
                    ((k_here; k_dflt ((refine' (c_row _ _ _ _ _ _ _ _) _ _ _ _ _ _ _ _ _ _ _ _ _ _ _ _ _ _ ?k1u62 ?k2u62 ?k3u62 ?k4u62 ?k5u62 ?kKu62 ?kpu62 ?kdu62 ?kuu62 ?kRu62); (case k1u62 => k_asm); (case k2u62 => k_asm); (case k3u62 => k_asm); (case k4u62 => k_asm); (case k5u62 => k_asm); (case kKu62 => first | exact rfl | assumption); (case kpu62 => exact hpx x hx0 hx1); (case kdu62 => ktr_room); (case kuu62 => ktr_units); (intro _ _ _ _ _); (try dsimp only); (try k_fold))))
                    k_steps
                    unfold StopW
                    ((k_here; k_dflt ((refine' (c_row _ _ _ _ _ _ _ _) _ _ _ _ _ _ _ _ _ _ _ _ _ _ _ _ _ _ ?k1u63 ?k2u63 ?k3u63 ?k4u63 ?k5u63 ?kKu63 ?kpu63 ?kdu63 ?kuu63 ?kRu63); (case k1u63 => k_asm); (case k2u63 => k_asm); (case k3u63 => k_asm); (case k4u63 => k_asm); (case k5u63 => k_asm); (case kKu63 => first | exact rfl | assumption); (case kpu63 => exact hpx y hy0 hy1); (case kdu63 => ktr_room); (case kuu63 => ktr_units); (intro _ _ _ _ _); (try dsimp only); (try k_fold))))
                    k_steps
                    unfold StopW
                    rw [hti, hwN, rowS_mk, rowS_mk]
                    ((k_here; k_dflt ((refine' (c_lev _ _ _ _ _ _ (2 * ((i : Int) + 1)) (2 * ((i : Int) + 1)) _ _ _) _ _ _ _ _ _ _ _ _ _ _ _ _ _ _ _ _ _ ?k1u64 ?k2u64 ?k3u64 ?k4u64 ?k5u64 ?kKu64 ?kpu64 ?kdu64 ?kuu64 ?kRu64); (case k1u64 => k_asm); (case k2u64 => k_asm); (case k3u64 => k_asm); (case k4u64 => k_asm); (case k5u64 => k_asm); (case kKu64 => first | exact rfl | assumption); (case kpu64 => (try dsimp only); first | trivial | k_extra "pre" | assumption | omega | l_fact); (case kdu64 => ktr_room); (case kuu64 => ktr_units); (intro _ _ _ _ _); (try dsimp only); (try k_fold))))
                    k_steps
                    · exact absurd rfl (by assumption : 2 * ((i : Int) + 1) ≠ 2 * ((i : Int) + 1))
                    rename Fr _ _ _ _ => F
                    rename News _ _ _ _ => N
                    exact te_all F N rfl ⟨hB, rfl, rfl, rfl⟩
                · clear F N hr hB
                  intro gs m₁ news₁ h tk hJ F N
                  obtain ⟨hB, jx, jy, rfl⟩ := hJ
                  k_steps
                  dsimp only
                  k_unfold
                  try dsimp only
                  have hAB : AllBare gs := hB
                  refine goodWG_bool F hAB (raisesW_false ?_) ?_ rfl
                  · wrow_none_raised
                  · kc_post
end Mine
end
theorem PySem.Challenge.cw_sn0048_01_holds : PySem.Challenge.rw_sn0048_01.Holds :=
  Mine.law
