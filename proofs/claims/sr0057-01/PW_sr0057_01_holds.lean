import PyProof.Rows.All
import Wide.All
import OpenK.AllK
import Wide.FinOn
import PySem.Challenge.RW_sr0057_01
set_option Elab.async false
set_option rowWalk.seconds 0
section
open PySem PySem.W PyProof.Rows
namespace Mine
theorem hd0.tw1964151592259241686 : True := trivial
theorem hd0.tw4362339590307168383 : True := trivial
theorem hd0.tw8992658316643575043 : True := trivial
theorem hd0.tw2573141630467482725 : True := trivial
theorem hd0.tw17524989057665669244 : True := trivial
theorem hd0.tw17792766463123686146 : True := trivial
theorem hd0.tw17529906274252830889 : True := trivial
theorem hd0.tw14069131116232622754 : True := trivial
theorem hd0.tw867648360776247323 : True := trivial
theorem hd0.tw10236485129801162741 : True := trivial
theorem hd0.tw320435456359867813 : True := trivial
theorem hd0.tw16912591420726631485 : True := trivial
theorem hd0.tw650764759088172349 : True := trivial
theorem hd0.tw17043531303389682065 : True := trivial
theorem hd0.tw1144143789490447932 : True := trivial
theorem hd0.tw13130983519766148356 : True := trivial
theorem hd0.tw13932984963572511754 : True := trivial
theorem hd0.tw10679606280593905679 : True := trivial
theorem hd0.tw14115321166360365155 : True := trivial
theorem hd0.tw7836344262993359910 : True := trivial
theorem hd0.tw3687841886611527418 : True := trivial
theorem hd0.tw15134839469752433495 : True := trivial
theorem hd0.tw7647748658271166302 : True := trivial
theorem hd0.tw4863585562482331352 : True := trivial
theorem hd0.tw14905831658627392255 : True := trivial
theorem hd0.tw14133583787211923317 : True := trivial
theorem hd0.tw6643238626148955698 : True := trivial
theorem hd0.tw16112634630230434484 : True := trivial
theorem hd0.tw4550181199752876123 : True := trivial
theorem hd0.tw13823000061887915914 : True := trivial
theorem hd0.tw17953067251519666585 : True := trivial
theorem hd0.tw13008693350213662659 : True := trivial
theorem hd0.tw1489290327475714230 : True := trivial
theorem hd0.tw961968547571948100 : True := trivial
theorem hd0.tw4983706646000405154 : True := trivial
theorem hd0.tw6135209137545511349 : True := trivial
theorem hd0.tw4703955889729650114 : True := trivial
theorem hd0.tw906593335335552129 : True := trivial
theorem hd0.tw3771890792122485445 : True := trivial
theorem hd0.tw6767838431112568887 : True := trivial
theorem hd0.tw17957938934236213626 : True := trivial
theorem hd0.tw3404567561779638057 : True := trivial
theorem hd0.tw3563376653281826072 : True := trivial
theorem hd0.tw14487139744964632365 : True := trivial
theorem hd0.tw1189054894648436682 : True := trivial
theorem law0.tw11859431632840310305 : True := trivial
theorem law0.tw15306539674793857377 : True := trivial
theorem law0.tw8992658316643575043 : True := trivial
theorem law0.tw18149290519433639906 : True := trivial
theorem law0.tw2361512705433084800 : True := trivial
theorem law0.tw2068793640757994395 : True := trivial
theorem law0.tw6507899236002629847 : True := trivial
theorem law0.tw2345004794090384986 : True := trivial
theorem law0.tw9271306791820800260 : True := trivial
theorem law0.tw3383080383691934540 : True := trivial
theorem law0.tw3886419183921765784 : True := trivial
theorem law0.tw11743516832410986192 : True := trivial
theorem law0.tw10509397538588029826 : True := trivial
theorem law0.tw12539281456134806840 : True := trivial
theorem law0.tw16657587348063317417 : True := trivial
theorem law0.tw13538943877853874382 : True := trivial
theorem law0.tw4893077289049728802 : True := trivial
theorem law0.tw13887094470469057045 : True := trivial
theorem law0.tw14200610244241395743 : True := trivial
theorem law0.tw18094338034007330530 : True := trivial
theorem law0.tw5651199925033432619 : True := trivial
theorem law0.tw6315476539618263395 : True := trivial
theorem law0.tw15096049168482566556 : True := trivial
theorem law0.tw9253683799435313286 : True := trivial
theorem law0.tw17475498791739800603 : True := trivial
theorem law0.tw592230626558410880 : True := trivial
theorem law0.tw8993865214624504486 : True := trivial
theorem law0.tw11769744777727433914 : True := trivial
theorem law0.tw8061300883978502320 : True := trivial
theorem law0.tw7029406129357418648 : True := trivial
theorem law0.tw11100738904498411591 : True := trivial
theorem law0.tw289858469092574169 : True := trivial
theorem law0.tw11781440929437947442 : True := trivial
theorem law0.tw3582954245757958440 : True := trivial
theorem law0.tw7070538115585392904 : True := trivial
theorem law0.tw9884289315470704403 : True := trivial
theorem law0.tw7385239516411280475 : True := trivial
theorem law0.tw12685334502247184692 : True := trivial
theorem law0.tw6340828899037711153 : True := trivial
theorem law0.tw10634763797877725175 : True := trivial
theorem law0.tw4345878073995232941 : True := trivial
theorem law0.tw6859409545170283108 : True := trivial
theorem law0.tw16255955146399468362 : True := trivial
theorem law0.tw6357754386109894475 : True := trivial
theorem law0.tw7688396677744957350 : True := trivial
/-- another claim about the same program, proved for the sake of its head: the heap and the view that are written out there serve the whole text -/
def rowI : OpenRow := { PySem.Challenge.rw_sr0057_01.row with name := Str.ofString "ISTERMINAL", args := [.int], returns := .bool, pre := .lit (.bool true), post := .lit (.bool true) }
set_option Elab.async true in
set_option maxRecDepth 100000 in
set_option maxHeartbeats 8000000 in
theorem hd0 : OpenRow.Holds rowI := by
  w_on
  k_head
  case hw => w_witness2
  k_go
theorem hd0sync : Mine.hd0.heap_1_1 = Mine.hd0.heap_1_1 ∧ Mine.hd0.view_1_2 = Mine.hd0.view_1_2 := ⟨rfl, rfl⟩
end Mine
end
section
local macro_rules | `(tactic| walk_at "MINE C0 0") => `(tactic| skip)
theorem Mine.offC0 : True := by
  w_top off
  trivial
open PySem PySem.W PyProof.Rows PySem.Calls
set_option maxRecDepth 100000
namespace Mine
abbrev Ext (h h' : Heap) : Prop := ∀ b o, h.get? b = some o → h'.get? b = some o

theorem enterK {prog : Program} {w : World} {A : Around} {R : Result → Shared → Prop} {s : Shared} {K : Frag} {name : Str} {params : Arguments} {body : List Stmt} {scope : Scope}
    {pm cd doc oc : Value} {od : Option Addr} {osl : Array (Option Value)} {f : Addr} {args : List Value} (binds : List (Str × Value))
    (X : K.In s.heap) (hlim : s.heap.NoLimit) (hroom : A.depth < recursionLimit) 
    (ho : K.lookup f = some ⟨oc, od, .func (docDef name params body scope pm cd doc), osl⟩) (hcd : codeIn K cd name = true)
    (hbind : bindArgs (docDef name params body scope pm cd doc) ⟨args, []⟩ = pure binds)
    (hloc : ∀ x ∈ binds, scope.names.lookup x.1 = some .local)
    (h : ∀ h₁, Fr s.heap s.heap.objs.size h₁ (fun x => binds.reverse.lookup x) → News s.heap s.heap.objs.size h₁ [] →
      wpAny (model prog w) (A.deeper (envOf name scope s.heap.objs.size f cd)) (execs body (envOf name scope s.heap.objs.size f cd))
        (fun fl s' => R (.ok (.ret (match fl with | .ret v => v | _ => .none))) s') (fun _ _ => False)
        { s with heap := h₁, toks := s.toks + binds.length })
    (hco : scope.isCoroutine = false) (hgen : scope.isGenerator = false) (hk : scope.kind = .function)
    (hcell : ∀ x ∈ scope.names, x.2 ≠ .cell) : codeAny (model prog w) A (.call (.ref f) ⟨args, []⟩) R s :=
  call_plain_ret hroom (X _ _ ho) rfl hlim (codeRec_of X hcd) hbind hloc (fun h₁ F => h h₁ F News.nil) hco hgen hk hcell

end Mine
end
section
theorem Mine.offC1 : True := by
  w_top off
  trivial
open PySem PySem.W PyProof.Rows PySem.Calls
set_option maxRecDepth 100000
namespace Mine

abbrev noE : Value → Shared → Prop := fun _ _ => False
theorem noE_any {α : Type} {M : Model} {A : Around} {t : Sem α} {Q : α → Shared → Prop} {E : Value → Shared → Prop} {s : Shared} (h : wpAny M A t Q noE s) : wpAny M A t Q E s :=
  wpAny_mono h (fun _ _ x => x) fun _ _ x => x.elim

theorem frExt {h₀ h h' : Heap} {L : Addr} {m : Str → Option Value} (F : Fr h₀ L h m) (e : Ext h h') : Fr h₀ L h' m :=
  ⟨F.ns.at' fun o x => e _ o x, fun b o x => e b o (F.keep b o x), F.above⟩
theorem newsExt {h₀ h h' : Heap} {L : Addr} {news : List (Addr × Obj)} (N : News h₀ L h news) (e : Ext h h') : News h₀ L h' news :=
  fun p hp => ⟨e _ _ (N p hp).1, (N p hp).2⟩
theorem newsSub {h₀ h : Heap} {L : Addr} {news news' : List (Addr × Obj)} (N : News h₀ L h news) (e : ∀ p ∈ news', p ∈ news) : News h₀ L h news' :=
  fun p hp => N p (e p hp)
/-- an object that came back from a call, put onto the ledger -/
theorem newsAdd {h₀ h h' : Heap} {L a : Addr} {m : Str → Option Value} {o : Obj} {news : List (Addr × Obj)} (F : Fr h₀ L h m) (N : News h₀ L h' news) (ho : h'.get? a = some o) (hn : h.get? a = none) : News h₀ L h' ((a, o) :: news) := by
  intro p hp
  rcases List.mem_cons.mp hp with rfl | hp
  · refine ⟨ho, ?_, ?_⟩
    · intro e
      obtain ⟨oL, _, _, hL, _⟩ := F.ns
      rw [show a = L from e] at hn
      rw [hn] at hL
      cases hL
    · cases hq : h₀.get? a with
      | none => rfl
      | some q => rw [F.keep _ _ hq] at hn; cases hn
  · exact N p hp

/-- the turn of a loop has ended well -/
def TurnOk (h₀ : Heap) (L : Addr) (own : List (Addr × Obj)) (J : (Str → Option Value) → List (Addr × Obj) → Prop) (s₀ s₃ : Shared) : Prop :=
  ∃ m' news' nx, Fr h₀ L s₃.heap m' ∧ News h₀ L s₃.heap news' ∧ (∀ p ∈ nx, p ∈ news') ∧ (∀ p ∈ own, p ∈ news') ∧ OwnOff own (nx.map (·.1)) ∧ J m' nx ∧ s₃.os = s₀.os ∧ AllBare s₃.gens

def TurnEnd (h₀ : Heap) (L : Addr) (own : List (Addr × Obj)) (J : (Str → Option Value) → List (Addr × Obj) → Prop) (s₀ : Shared) (Q : Flow → Shared → Prop) (f : Flow) (s₃ : Shared) : Prop :=
  match f with
  | .ret v => Q (.ret v) s₃
  | .brk => Q .next s₃
  | _ => TurnOk h₀ L own J s₀ s₃

section
variable {prog : Program} {w : World} {A : Around} {s : Shared} {env : Env} {h₀ : Heap}

theorem forLoop_w {target : Expr} {body orelse : List Stmt} {Q : Flow → Shared → Prop} {I : Addr} {fp : List Addr} {n : Nat} {P : Nat → Value → Prop} {St : Nat → Heap → Prop}
    {m₀ : Str → Option Value} {news₀ : List (Addr × Obj)} (W : Walks prog w A I fp [I] n P St)
    (J : Nat → (Str → Option Value) → List (Addr × Obj) → Prop) (hI : ∀ i h, St i h → ∃ o, h.get? I = some o)
    (hlet : ∀ i v s₁ (Q : Unit → Shared → Prop), St (i + 1) s₁.heap → Q () s₁ → wpAny (model prog w) A (letOwnedTupleGo target (.ref I) v) Q noE s₁)
    (hLf : env.locals ∉ fp) (hwr : h₀.get? I = none) (hnw : ∀ p ∈ news₀, p.1 ≠ I)
    (hfp : ∀ b ∈ fp, b ≠ I → (∃ o, h₀.get? b = some o) ∨ ∃ o, ∀ i m nx, J i m nx → (b, o) ∈ nx)
    (hst : St 0 s.heap) (F : Fr h₀ env.locals s.heap m₀) (N : News h₀ env.locals s.heap news₀) (G : AllBare s.gens) (hj : J 0 m₀ news₀)
    (turn : ∀ i v m₁ nx s₁ own, i < n → P i v → OwnOff own (nx.map (·.1)) → J i m₁ nx →
      Fr h₀ env.locals s₁.heap m₁ → News h₀ env.locals s₁.heap (nx ++ own) → s₁.os = s.os → AllBare s₁.gens →
      wpAny (model prog w) A (assign target env v) (fun _ s₂ => wpAny (model prog w) A (execs body env)
        (TurnEnd h₀ env.locals own (J (i + 1)) s Q) noE s₂) noE s₁)
    (done : ∀ m₁ nx s₁, J n m₁ nx → Fr h₀ env.locals s₁.heap m₁ → News h₀ env.locals s₁.heap nx → s₁.os = s.os → AllBare s₁.gens → wpAny (model prog w) A (execs orelse env) Q noE s₁) :
    codeAny (model prog w) A (.forLoop target (.ref I) body orelse env) (fun r s' => match r with | .ok f => Q f s' | .error _ => False) s := by
  have hLw : env.locals ∉ [I] := fun h => hLf (W.sub _ h)
  have hLI : env.locals ≠ I := fun h => hLw (by rw [h]; exact .head _)
  refine codeAny_forLoop_any (fun k s₁ => ∃ i m₁ nx, St i s₁.heap ∧ Fr h₀ env.locals s₁.heap m₁ ∧ News h₀ env.locals s₁.heap nx ∧ (∀ p ∈ nx, p.1 ≠ I) ∧ J i m₁ nx ∧ i ≤ n ∧ k = n + 1 - i ∧ s₁.os = s.os ∧ AllBare s₁.gens) ?_ (n + 1)
    ⟨0, m₀, news₀, hst, F, N, hnw, hj, Nat.zero_le _, rfl, rfl, G⟩
  rintro k s₁ ⟨i, m₁, nx, hst₁, F₁, N₁, ha, hJ, hi, rfl, hos, hg⟩
  have next : ∀ h₂ : Heap, (∀ b o, b ∉ [I] → s₁.heap.get? b = some o → h₂.get? b = some o) → Fr h₀ env.locals h₂ m₁ ∧ News h₀ env.locals h₂ nx := fun h₂ hk =>
    ⟨⟨F₁.ns.at' fun o e => hk _ o hLw e, fun b o e => hk b o (fun hb => by rw [List.mem_singleton.mp hb, hwr] at e; cases e) (F₁.keep b o e), F₁.above⟩,
      fun p hp => ⟨hk _ _ (fun hb => ha p hp (List.mem_singleton.mp hb)) (N₁ p hp).1, (N₁ p hp).2⟩⟩
  by_cases hlt : i < n
  · refine W.item i _ _ _ hlt hst₁ fun v h₂ tk₂ hP hst₂ hk => ?_
    obtain ⟨F₂, N₂⟩ := next h₂ hk
    refine noE_any (hlet i v _ _ hst₂ ?_)
    obtain ⟨ob, hob⟩ := hI _ _ hst₂
    have N₃ : News h₀ env.locals h₂ (nx ++ [(I, ob)]) := by
      intro p hp
      rcases List.mem_append.mp hp with hp | hp
      · exact N₂ p hp
      · rw [List.mem_singleton.mp hp]
        exact ⟨hob, fun e => hLI e.symm, hwr⟩
    refine noE_any (wpAny_mono (turn i v m₁ nx { s₁ with heap := h₂, toks := tk₂ } [(I, ob)] hlt hP (fun p hp b hb e => ?_) hJ F₂ N₃ hos hg) (fun _ s₃ h₃ => noE_any (wpAny_mono h₃ (fun f s₄ h₄ => ?_) fun _ _ x => x)) fun _ _ x => x)
    · obtain ⟨q, hq, rfl⟩ := List.mem_map.mp hb
      rw [List.mem_singleton.mp hp] at e
      exact ha q hq e.symm
    · have fin : TurnOk h₀ env.locals [(I, ob)] (J (i + 1)) s s₄ →
          ∃ k', k' < n + 1 - i ∧ ∃ i m₁ nx, St i s₄.heap ∧ Fr h₀ env.locals s₄.heap m₁ ∧ News h₀ env.locals s₄.heap nx ∧ (∀ p ∈ nx, p.1 ≠ I) ∧ J i m₁ nx ∧ i ≤ n ∧ k' = n + 1 - i ∧ s₄.os = s.os ∧ AllBare s₄.gens := by
        rintro ⟨m', news', nx', F', N', hn', ho', ha', hJ', hos', hg'⟩
        refine ⟨n + 1 - (i + 1), by omega, i + 1, m', nx', ?_, F', newsSub N' hn', fun p hp e => ha' _ (.head _) p.1 (List.mem_map.mpr ⟨p, hp, rfl⟩) e.symm, hJ', hlt, rfl, hos', hg'⟩
        refine W.frame _ _ _ hst₂ fun b hb o e => ?_
        by_cases hw : b = I
        · subst hw
          rw [hob] at e
          cases e
          exact (N' _ (ho' _ (.head _))).1
        · rcases hfp b hb hw with ⟨o', e'⟩ | ⟨o', e'⟩
          · have := F₂.keep b o' e'
            rw [e] at this
            cases this
            exact F'.keep b _ e'
          · have h1 := (N₂ _ (e' _ _ _ hJ)).1
            rw [e] at h1
            cases h1
            exact (N' _ (hn' _ (e' _ _ _ hJ'))).1
      cases f with
      | ret v => exact h₄
      | brk => exact h₄
      | cont => exact fin h₄
      | next => exact fin h₄
  · have hin : i = n := by omega
    subst hin
    refine W.done _ _ _ hst₁ fun h₂ tk₂ hk => ?_
    obtain ⟨F₂, N₂⟩ := next h₂ hk
    exact noE_any (done m₁ nx _ hJ F₂ N₂ hos hg)

/-- exec For: the head -/
theorem for_head {target iter : Expr} {body orelse : List Stmt} {pos : Pos} {Q : Flow → Shared → Prop}
    (h : wpAny (model prog w) A (eval iter env) (fun xv s₁ => wpAny (model prog w) A (pyIter xv) (fun it s₂ =>
      codeAny (model prog w) A (.forLoop target it body orelse env) (fun r s' => match r with | .ok f => Q f s' | .error _ => False) s₂) noE s₁) noE s)
    (hs : ∀ x, foldedSetIterable iter env x = pure x) :
    wpAny (model prog w) A (exec (.For target iter body orelse pos) env) Q noE s := by
  refine wpAny_For (wpAny_mono h (fun xv s₁ h₁ => wpAny_mono h₁ (fun it s₂ h₂ => ?_) fun _ _ e => e) fun _ _ e => e) hs
  refine codeAny_mono h₂ fun r s' h => ?_
  cases r with
  | ok f => exact h
  | error e => exact h.elim

/-- over a list (of the base, or of the ledger where the loop leaves it as it is) -/
theorem iter_list {target : Expr} {body orelse : List Stmt} {Q : Flow → Shared → Prop} {l : Addr} {vs : List Value} {m₀ : Str → Option Value} {news₀ : List (Addr × Obj)}
    (J : Nat → (Str → Option Value) → List (Addr × Obj) → Prop)
    (hh : A.handled = none) (hl : s.heap.IsList l vs.toArray) (hlL : l ≠ env.locals)
    (hfp : (∃ o, h₀.get? l = some o) ∨ ∃ o, ∀ i m nx, J i m nx → (l, o) ∈ nx)
    (F : Fr h₀ env.locals s.heap m₀) (N : News h₀ env.locals s.heap news₀) (G : AllBare s.gens) (hj : J 0 m₀ news₀)
    (turn : ∀ i v m₁ nx s₁ own, vs[i]? = some v → OwnOff own (nx.map (·.1)) → J i m₁ nx →
      Fr h₀ env.locals s₁.heap m₁ → News h₀ env.locals s₁.heap (nx ++ own) → s₁.os = s.os → AllBare s₁.gens →
      wpAny (model prog w) A (assign target env v) (fun _ s₂ => wpAny (model prog w) A (execs body env)
        (TurnEnd h₀ env.locals own (J (i + 1)) s Q) noE s₂) noE s₁)
    (done : ∀ m₁ nx s₁, J vs.length m₁ nx → Fr h₀ env.locals s₁.heap m₁ → News h₀ env.locals s₁.heap nx → s₁.os = s.os → AllBare s₁.gens → wpAny (model prog w) A (execs orelse env) Q noE s₁) :
    wpAny (model prog w) A (pyIter (.ref l)) (fun it s₂ => codeAny (model prog w) A (.forLoop target it body orelse env) (fun r s' => match r with | .ok f => Q f s' | .error _ => False) s₂) noE s := by
  refine wpAny_pyIter_list hl ?_
  obtain ⟨ol, hol, _⟩ := id hl
  have hll : l < s.heap.objs.size := Heap.lt_size hol
  have hne : l ≠ s.heap.objs.size := Nat.ne_of_lt hll
  have hLs : env.locals < s.heap.objs.size := F.ns.lt
  have W := Walks.list (prog := prog) (w := w) hh s.heap.objs.size l hne vs.toArray
  have hsz : vs.toArray.size = vs.length := by simp
  rw [hsz] at W
  refine forLoop_w (h₀ := h₀) (m₀ := m₀) (news₀ := news₀) W J (fun i h st => st.1.imp fun o e => e.1) ?_ ?_ ?_ ?_ ?_ ⟨⟨_, Heap.get?_push_size _ rfl, rfl, rfl⟩, hl.at fun o e => Heap.get?_push_of_some _ e⟩ (F.push _) (fun p hp => ⟨Heap.get?_push_of_some _ (N p hp).1, (N p hp).2⟩) G hj ?_ ?_
  · rintro i v s₁ Q ⟨⟨o, ho, hc, hd⟩, _⟩ hq
    cases target with
    | Tuple a b c =>
      cases v with
      | ref b =>
        simp only [letOwnedTupleGo]
        refine wpAny_bind (wpAny_load ho ?_)
        rw [hc, hd]
        exact wpAny_pure hq
      | _ => exact wpAny_pure hq
    | List a b =>
      cases v with
      | ref b =>
        simp only [letOwnedTupleGo]
        refine wpAny_bind (wpAny_load ho ?_)
        rw [hc, hd]
        exact wpAny_pure hq
      | _ => exact wpAny_pure hq
    | _ => exact wpAny_pure hq
  · intro hm
    rcases List.mem_cons.mp hm with e | hm
    · exact absurd hLs (e ▸ Nat.lt_irrefl _)
    · exact hlL (List.mem_singleton.mp hm).symm
  · exact next_is_new F
  · intro p hp hI
    exact absurd (Heap.lt_size (N p hp).1) (hI ▸ Nat.lt_irrefl _)
  · intro b hb hw
    rcases List.mem_cons.mp hb with e | hb
    · exact absurd e hw
    · rw [List.mem_singleton.mp hb]; exact hfp
  · intro i v m₁ nx s₁ own hi hP
    exact turn i v m₁ nx s₁ own (by simpa using hP)
  · exact done

/-- over a range by ones -/
theorem iter_range {target : Expr} {body orelse : List Stmt} {Q : Flow → Shared → Prop} {r : Addr} {a₀ b₀ : Int} {t₀ u₀ v₀ : Tok} {n : Nat} {m₀ : Str → Option Value} {news₀ : List (Addr × Obj)} {x : Str} {px : Pos}
    (J : Nat → (Str → Option Value) → List (Addr × Obj) → Prop) (htg : target = .Name x px)
    (hh : A.handled = none) (hr : IsRange s.heap r a₀ b₀ 1 t₀ u₀ v₀) (hsmall : Builtin.Range.small a₀ b₀ 1 = true) (hn : Builtin.Range.rangeSize a₀ b₀ 1 = (n : Int))
    (F : Fr h₀ env.locals s.heap m₀) (N : News h₀ env.locals s.heap news₀) (G : AllBare s.gens) (hj : J 0 m₀ news₀)
    (turn : ∀ i t m₁ nx s₁ own, i < n → OwnOff own (nx.map (·.1)) → J i m₁ nx →
      Fr h₀ env.locals s₁.heap m₁ → News h₀ env.locals s₁.heap (nx ++ own) → s₁.os = s.os → AllBare s₁.gens →
      wpAny (model prog w) A (assign target env (.int (a₀ + (i : Int)) t)) (fun _ s₂ => wpAny (model prog w) A (execs body env)
        (TurnEnd h₀ env.locals own (J (i + 1)) s Q) noE s₂) noE s₁)
    (done : ∀ m₁ nx s₁, J n m₁ nx → Fr h₀ env.locals s₁.heap m₁ → News h₀ env.locals s₁.heap nx → s₁.os = s.os → AllBare s₁.gens → wpAny (model prog w) A (execs orelse env) Q noE s₁) :
    wpAny (model prog w) A (pyIter (.ref r)) (fun it s₂ => codeAny (model prog w) A (.forLoop target it body orelse env) (fun r s' => match r with | .ok f => Q f s' | .error _ => False) s₂) noE s := by
  refine wpAny_pyIter_range hr hsmall ?_
  have hLs : env.locals < s.heap.objs.size := F.ns.lt
  have W : Walks prog w A s.heap.objs.size [s.heap.objs.size] [s.heap.objs.size] n (fun i v => i < n ∧ ∃ t, v = .int (a₀ + i * 1) t)
      (fun i h => IsRangeIter h s.heap.objs.size (a₀ + (i : Nat) * 1) ((n : Int) - (i : Nat)) 1) := (Walks.range hh _ a₀ 1 n).bound
  refine forLoop_w (h₀ := h₀) (m₀ := m₀) (news₀ := news₀) W J (fun i h st => ⟨_, st⟩) ?_ ?_ ?_ ?_ ?_ (by show IsRangeIter _ _ _ _ _; rw [hn]; simpa using Heap.get?_push_size _ rfl) (F.push _) (fun p hp => ⟨Heap.get?_push_of_some _ (N p hp).1, (N p hp).2⟩) G hj ?_ ?_
  · rintro i v s₁ Q _ hq
    subst htg
    exact wpAny_pure hq
  · intro hm
    exact absurd hLs ((List.mem_singleton.mp hm) ▸ Nat.lt_irrefl _)
  · exact next_is_new F
  · intro p hp hI
    exact absurd (Heap.lt_size (N p hp).1) (hI ▸ Nat.lt_irrefl _)
  · intro b hb hw
    exact absurd (List.mem_singleton.mp hb) hw
  · rintro i v m₁ nx s₁ own hi ⟨_, t, rfl⟩
    have e1 : a₀ + (i : Int) * 1 = a₀ + (i : Int) := by omega
    rw [e1]
    exact turn i t m₁ nx s₁ own hi
  · exact done
end
end Mine
end
section
local macro_rules | `(tactic| walk_at "MINE C2 0") => `(tactic| skip)
theorem Mine.offC2 : True := by
  w_top off
  trivial
open PySem PySem.W PyProof.Rows PySem.Calls PySem.Spec
set_option maxRecDepth 100000
namespace Mine

abbrev StJ {σ : Type} (Led : σ → List (Addr × Obj)) (ps : σ → List (Str × Value)) (stored : List Str) (m₀ : Str → Option Value) (P : σ → Prop) (m : Str → Option Value) (nx : List (Addr × Obj)) : Prop :=
  ∃ c : σ, P c ∧ nx = Led c ∧ (∀ p ∈ ps c, m p.1 = some p.2) ∧ ∀ z, stored.contains z = false → m z = m₀ z

theorem frMap {h₀ h : Heap} {L : Addr} {m m₀ : Str → Option Value} {ps : List (Str × Value)} {stored : List Str} (F : Fr h₀ L h m) (h1 : ∀ p ∈ ps, m p.1 = some p.2) (h2 : ∀ z, stored.contains z = false → m z = m₀ z) :
    Fr h₀ L h (kstB (fun z => if stored.contains z then m z else m₀ z) ps) := by
  have e : kstB (fun z => if stored.contains z then m z else m₀ z) ps = m := by
    funext z
    refine kstB_eq h1 fun _ => ?_
    cases h3 : stored.contains z with
    | true => simp
    | false => simp only [Bool.false_eq_true, if_false]; exact (h2 z h3).symm
  rw [e]
  exact F

section
variable {prog : Program} {w : World} {A : Around} {s : Shared} {env : Env} {h₀ : Heap}

theorem iter_listS {σ : Type} {body orelse : List Stmt} {Q : Flow → Shared → Prop} {l : Addr} {vs : List Value} {m₀ : Str → Option Value} {x : Str} {px : Pos}
    (Led : σ → List (Addr × Obj)) (ps : σ → List (Str × Value)) (stored : List Str) (P : Nat → σ → Prop) (c₀ : σ) {L : Addr}
    (hh : A.handled = none) (hl : s.heap.IsList l vs.toArray) (hlL : l ≠ L)
    (hfp : (∃ o, h₀.get? l = some o) ∨ ∃ o, ∀ c, (l, o) ∈ Led c)
    (F : Fr h₀ L s.heap m₀) (N : News h₀ L s.heap (Led c₀)) (G : AllBare s.gens) (hL : env.locals = L) (hp : P 0 c₀) (hk : ∀ p ∈ ps c₀, m₀ p.1 = some p.2)
    (hx : env.kindOf x = some .local) (hsc : (env.scope.kind == .class || (env.scope.kind == .module && env.locals != env.globals)) = false)
    (turn : ∀ i v c (u : Str → Option Value) s₁ own, vs[i]? = some v → P i c → OwnOff own ((Led c).map (·.1)) →
      Fr h₀ L s₁.heap (fun y => if y = x then some v else kstB (fun z => if stored.contains z then u z else m₀ z) (ps c) y) → News h₀ L s₁.heap (Led c ++ own) → s₁.os = s.os → AllBare s₁.gens →
      wpAny (model prog w) A (execs body env) (TurnEnd h₀ L own (StJ Led ps stored m₀ (P (i + 1))) s Q) noE s₁)
    (done : ∀ c (u : Str → Option Value) s₁, P vs.length c → Fr h₀ L s₁.heap (kstB (fun z => if stored.contains z then u z else m₀ z) (ps c)) → News h₀ L s₁.heap (Led c) → s₁.os = s.os → AllBare s₁.gens →
      wpAny (model prog w) A (execs orelse env) Q noE s₁) :
    wpAny (model prog w) A (pyIter (.ref l)) (fun it s₂ => codeAny (model prog w) A (.forLoop (.Name x px) it body orelse env) (fun r s' => match r with | .ok f => Q f s' | .error _ => False) s₂) noE s := by
  subst hL
  refine iter_list (h₀ := h₀) (m₀ := m₀) (news₀ := Led c₀) (fun i m nx => StJ Led ps stored m₀ (P i) m nx) hh hl hlL ?_ F N G ⟨c₀, hp, rfl, hk, fun _ _ => rfl⟩ ?_ ?_
  · rcases hfp with h | ⟨o, h⟩
    · exact .inl h
    · exact .inr ⟨o, fun i m nx ⟨c, _, e, _⟩ => e ▸ h c⟩
  · rintro i v m₁ nx s₁ own hv hoff ⟨c, hP, rfl, h1, h2⟩ F₁ N₁ hos hg
    refine wpAny_assign_Name (wpAny_storeName_local hx F₁.ns (fun h' hn hs => ?_) hsc)
    have F₂ := (frMap F₁ h1 h2).set (m' := fun y => if y = x then some v else kstB (fun z => if stored.contains z then m₁ z else m₀ z) (ps c) y) ?_ hs
    · exact turn i v c m₁ _ own hv hP hoff F₂ (N₁.set hs) hos hg
    · have e : kstB (fun z => if stored.contains z then m₁ z else m₀ z) (ps c) = m₁ := by
        funext z
        refine kstB_eq h1 fun _ => ?_
        cases h3 : stored.contains z with
        | true => simp
        | false => simp only [Bool.false_eq_true, if_false]; exact (h2 z h3).symm
      rw [e]
      exact hn
  · rintro m₁ nx s₁ ⟨c, hP, rfl, h1, h2⟩ F₁ N₁ hos hg
    exact done c m₁ s₁ hP (frMap F₁ h1 h2) N₁ hos hg

theorem iter_rangeS {σ : Type} {body orelse : List Stmt} {Q : Flow → Shared → Prop} {r : Addr} {a₀ b₀ : Int} {t₀ u₀ v₀ : Tok} {n : Nat} {m₀ : Str → Option Value} {x : Str} {px : Pos}
    (Led : σ → List (Addr × Obj)) (ps : σ → List (Str × Value)) (stored : List Str) (P : Nat → σ → Prop) (c₀ : σ) {L : Addr}
    (hh : A.handled = none) (hr : IsRange s.heap r a₀ b₀ 1 t₀ u₀ v₀) (hsmall : Builtin.Range.small a₀ b₀ 1 = true) (hn : Builtin.Range.rangeSize a₀ b₀ 1 = (n : Int))
    (F : Fr h₀ L s.heap m₀) (N : News h₀ L s.heap (Led c₀)) (G : AllBare s.gens) (hL : env.locals = L) (hp : P 0 c₀) (hk : ∀ p ∈ ps c₀, m₀ p.1 = some p.2)
    (hx : env.kindOf x = some .local) (hsc : (env.scope.kind == .class || (env.scope.kind == .module && env.locals != env.globals)) = false)
    (turn : ∀ i t c (u : Str → Option Value) s₁ own, i < n → P i c → OwnOff own ((Led c).map (·.1)) →
      Fr h₀ L s₁.heap (fun y => if y = x then some (.int (a₀ + (i : Int)) t) else kstB (fun z => if stored.contains z then u z else m₀ z) (ps c) y) → News h₀ L s₁.heap (Led c ++ own) → s₁.os = s.os → AllBare s₁.gens →
      wpAny (model prog w) A (execs body env) (TurnEnd h₀ L own (StJ Led ps stored m₀ (P (i + 1))) s Q) noE s₁)
    (done : ∀ c (u : Str → Option Value) s₁, P n c → Fr h₀ L s₁.heap (kstB (fun z => if stored.contains z then u z else m₀ z) (ps c)) → News h₀ L s₁.heap (Led c) → s₁.os = s.os → AllBare s₁.gens →
      wpAny (model prog w) A (execs orelse env) Q noE s₁) :
    wpAny (model prog w) A (pyIter (.ref r)) (fun it s₂ => codeAny (model prog w) A (.forLoop (.Name x px) it body orelse env) (fun r s' => match r with | .ok f => Q f s' | .error _ => False) s₂) noE s := by
  subst hL
  refine iter_range (h₀ := h₀) (m₀ := m₀) (news₀ := Led c₀) (fun i m nx => StJ Led ps stored m₀ (P i) m nx) rfl hh hr hsmall hn F N G ⟨c₀, hp, rfl, hk, fun _ _ => rfl⟩ ?_ ?_
  · rintro i t m₁ nx s₁ own hi hoff ⟨c, hP, rfl, h1, h2⟩ F₁ N₁ hos hg
    refine wpAny_assign_Name (wpAny_storeName_local hx F₁.ns (fun h' hn hs => ?_) hsc)
    have F₂ := (frMap F₁ h1 h2).set (m' := fun y => if y = x then some (.int (a₀ + (i : Int)) t) else kstB (fun z => if stored.contains z then m₁ z else m₀ z) (ps c) y) ?_ hs
    · exact turn i t c m₁ _ own hi hP hoff F₂ (N₁.set hs) hos hg
    · have e : kstB (fun z => if stored.contains z then m₁ z else m₀ z) (ps c) = m₁ := by
        funext z
        refine kstB_eq h1 fun _ => ?_
        cases h3 : stored.contains z with
        | true => simp
        | false => simp only [Bool.false_eq_true, if_false]; exact (h2 z h3).symm
      rw [e]
      exact hn
  · rintro m₁ nx s₁ ⟨c, hP, rfl, h1, h2⟩ F₁ N₁ hos hg
    exact done c m₁ s₁ hP (frMap F₁ h1 h2) N₁ hos hg
end

theorem TurnOk.mk {σ : Type} {Led : σ → List (Addr × Obj)} {ps : σ → List (Str × Value)} {stored : List Str} {m₀ m' : Str → Option Value} {P : σ → Prop} {h₀ : Heap} {L : Addr} {own news' : List (Addr × Obj)} {s₀ s₃ : Shared} (c : σ)
    (F : Fr h₀ L s₃.heap m') (N : News h₀ L s₃.heap news') (hP : P c) (hn : ∀ p ∈ Led c, p ∈ news') (ho : ∀ p ∈ own, p ∈ news') (ha : OwnOff own ((Led c).map (·.1)))
    (hk : ∀ p ∈ ps c, m' p.1 = some p.2) (hm : ∀ z, stored.contains z = false → m' z = m₀ z) (hos : s₃.os = s₀.os) (hg : AllBare s₃.gens) : TurnOk h₀ L own (StJ Led ps stored m₀ P) s₀ s₃ :=
  ⟨m', news', Led c, F, N, hn, ho, ha, ⟨c, hP, rfl, hk, hm⟩, hos, hg⟩

theorem off_ite {stored : List Str} {a z : Str} {v x y : Option Value} (ha : stored.contains a = true) (h : stored.contains z = false) (hr : x = y) : (if z = a then v else x) = y := by
  rw [if_neg]
  · exact hr
  · rintro rfl
    rw [ha] at h
    cases h
theorem off_st {stored : List Str} {z : Str} {w x y : Option Value} (h : stored.contains z = false) (hr : x = y) : (if stored.contains z = true then w else x) = y := by
  rw [h]
  exact hr
theorem off_sub {stored st2 : List Str} {z : Str} {w x y : Option Value} (hs : st2.all (fun a => stored.contains a) = true) (h : stored.contains z = false) (hr : x = y) : (if st2.contains z = true then w else x) = y := by
  rw [if_neg]
  · exact hr
  · intro h2
    rw [List.contains_iff_mem] at h2
    have := List.all_eq_true.mp hs z h2
    rw [h] at this
    cases this
theorem off_same {a z : Str} {v x y : Option Value} (hr : x = if z = a then v else y) : (if z = a then v else x) = if z = a then v else y := by
  by_cases h : z = a
  · rw [if_pos h, if_pos h]
  · rw [if_neg h, hr]
def SpecEnd (s : Shared) (Post : Value → Heap → Heap → Prop) (r : Result) (s' : Shared) : Prop := ∃ v, r = .ok (.ret v) ∧ Ext s.heap s'.heap ∧ s'.os = s.os ∧ AllBare s'.gens ∧ Post v s.heap s'.heap
theorem SpecEnd.mk {s s' : Shared} {Post : Value → Heap → Heap → Prop} {v : Value} (he : Ext s.heap s'.heap) (ho : s'.os = s.os) (hg : AllBare s'.gens) (hp : Post v s.heap s'.heap) : SpecEnd s Post (.ok (.ret v)) s' := ⟨v, rfl, he, ho, hg, hp⟩
/-- the contract of a def: a call changes nothing that stood -/
def SpecF (w : World) (k : Nat) (f : Addr) (args : List Value) (pre : Heap → Prop) (Post : Value → Heap → Heap → Prop) : Prop :=
  ∀ (A : Around) (s : Shared) (loose : List Str) (mean : ExcName → Option Value) (mg mb : Str → Option Value), (hd0.heap_1_1 w.params).In s.heap → Top hd0.view_1_2 loose mean mg mb s.heap → A.handled = none →
    A.depth + k < recursionLimit → A.units + 20 * k < cLine → AllBare s.gens → pre s.heap →
    codeAny (model Challenge.rw_sr0057_01.row.prog w) A (.call (.ref f) ⟨args, []⟩) (SpecEnd s Post) s

theorem SpecF.call {w : World} {k : Nat} {f : Addr} {args : List Value} {pre : Heap → Prop} {Post : Value → Heap → Heap → Prop} (S : SpecF w k f args pre Post)
    {A : Around} {s : Shared} {loose : List Str} {mean : ExcName → Option Value} {mg mb : Str → Option Value} {h₀ : Heap} {L : Addr} {m : Str → Option Value} {news : List (Addr × Obj)} {Q : Value → Shared → Prop}
    (X : (hd0.heap_1_1 w.params).In h₀) (T : Top hd0.view_1_2 loose mean mg mb h₀) (F : Fr h₀ L s.heap m) (N : News h₀ L s.heap news)
    (hh : A.handled = none) (hd' : A.depth + k < recursionLimit) (hu : A.units + 20 * k < cLine) (G : AllBare s.gens) (hpre : pre s.heap)
    (h : ∀ v s', Post v s.heap s'.heap → Ext s.heap s'.heap → Fr h₀ L s'.heap m → News h₀ L s'.heap news → s'.os = s.os → AllBare s'.gens → Q v s') :
    wpAny (model Challenge.rw_sr0057_01.row.prog w) A (PySem.call (.ref f) args []) Q noE s := by
  refine wpAny_call (codeAny_mono (S A s loose mean mg mb (X.keeps F.keep) (T.keeps F.keep) hh hd' hu G hpre) ?_)
  rintro r s' ⟨v, rfl, e, ho, hg, hp⟩
  exact h v s' hp e (frExt F e) (newsExt N e) ho hg

theorem newsHead {h₀ h : Heap} {L : Addr} {p : Addr × Obj} {r : List (Addr × Obj)} (N : News h₀ L h (p :: r)) : News h₀ L h [p] := fun q hq => N q (by rw [List.mem_singleton.mp hq]; exact .head _)
theorem newsTail {h₀ h : Heap} {L : Addr} {p : Addr × Obj} {r : List (Addr × Obj)} (N : News h₀ L h (p :: r)) : News h₀ L h r := fun q hq => N q (.tail _ hq)
theorem newsNil {h₀ h : Heap} {L : Addr} {r : List (Addr × Obj)} (_ : News h₀ L h r) : News h₀ L h [] := fun q hq => nomatch hq
theorem list_neL {h : Heap} {l : Addr} {items : Array Value} (hl : h.IsList l items) : l ≠ h.objs.size := by
  obtain ⟨o, ho, _⟩ := hl
  exact Nat.ne_of_lt (Heap.lt_size ho)
theorem list_ex {h : Heap} {l : Addr} {items : Array Value} (hl : h.IsList l items) : ∃ o, h.get? l = some o := by
  obtain ⟨o, ho, _⟩ := hl
  exact ⟨o, ho⟩
theorem ints_get {vs : List Value} {ns : List Int} (hi : IntsAre vs ns) : ∀ {i : Nat} {v : Value}, vs[i]? = some v → ∃ n t, v = .int n t ∧ ns[i]? = some n := by
  induction hi with
  | nil => intro i v h; simp at h
  | cons n t _ ih =>
    intro i v h
    cases i with
    | zero => simp at h; exact ⟨n, t, h.symm, by simp⟩
    | succ j => simp at h; simpa using ih h
theorem strs_get {vs : List Value} {ns : List Str} (hi : StrsAre vs ns) : ∀ {i : Nat} {v : Value}, vs[i]? = some v → ∃ n t, v = .str n t ∧ ns[i]? = some n := by
  induction hi with
  | nil => intro i v h; simp at h
  | cons n t _ ih =>
    intro i v h
    cases i with
    | zero => simp at h; exact ⟨n, t, h.symm, by simp⟩
    | succ j => simp at h; simpa using ih h
theorem strs_inj {vs : List Value} {ns : List Str} (h : StrsAre vs ns) : ∀ {ms : List Str}, StrsAre vs ms → ms = ns := by
  induction h with
  | nil => intro ms h; cases h; rfl
  | cons n t _ ih => intro ms h; cases h with | cons _ _ h' => rw [ih h']
theorem ints_inj {vs : List Value} {ns : List Int} (h : IntsAre vs ns) : ∀ {ms : List Int}, IntsAre vs ms → ms = ns := by
  induction h with
  | nil => intro ms h; cases h; rfl
  | cons n t _ ih => intro ms h; cases h with | cons _ _ h' => rw [ih h']
theorem offNew {own : List (Addr × Obj)} {d : Addr} (h : AllLt d own) : ∀ p ∈ own, p.1 ≠ d := fun p hp => Nat.ne_of_lt (kst_ltOf h p hp)
theorem offCons {own : List (Addr × Obj)} {d : Addr} {r : List Addr} (h : ∀ p ∈ own, p.1 ≠ d) (hr : OwnOff own r) : OwnOff own (d :: r) := fun p hp b hb => by
  rcases List.mem_cons.mp hb with rfl | hb
  · exact h p hp
  · exact hr p hp b hb
theorem offNil {own : List (Addr × Obj)} : OwnOff own [] := fun _ _ _ hb => nomatch hb
theorem readsAll_strs {h : Heap} : ∀ {vs : List Value} {ws : List Str}, StrsAre vs ws → ReadsAll h vs (ws.map PyData.str) []
  | _, _, .nil => .nil
  | _, _, .cons k t r => by
    have := ReadsAll.cons (Reads.str (h := h) k t) (readsAll_strs (h := h) r)
    simpa using this
theorem reads_strs {h : Heap} {a : Addr} {vs : List Value} {ws : List Str} (hl : h.IsList a vs.toArray) (hi : StrsAre vs ws) : Reads h (.ref a) (.list (ws.map PyData.str)) [a] := by
  obtain ⟨o, ho, hc, n, hd⟩ := hl
  exact Reads.list ho hc hd (by simpa using readsAll_strs hi)
theorem same_strs : ∀ ns ms : List Str, PySem.Spec.sameAll (ns.map PyData.str) (ms.map PyData.str) = decide (ns = ms)
  | [], [] => by simp [PySem.Spec.sameAll]
  | [], _ :: _ => by simp [PySem.Spec.sameAll]
  | _ :: _, [] => by simp [PySem.Spec.sameAll]
  | n :: r, k :: q => by
    simp only [List.map_cons, PySem.Spec.sameAll, PySem.Spec.same, same_strs r q]
    by_cases h : n = k <;> simp [h]
end Mine
end
section
theorem Mine.offC3 : True := by
  w_top off
  trivial
open PySem PySem.W PyProof.Rows PySem.Calls PySem.Spec PyProof.V PySem.SeqAt
set_option maxRecDepth 100000
namespace Mine
theorem canLayAll0_strs : ∀ ns : List Str, (∀ x ∈ ns, PyData.strOk x = true) → PyData.canLayAll0 (ns.map PyData.str) = true
  | [], _ => by simp [PyData.canLayAll0]
  | n :: r, h => by simp [PyData.canLayAll0, PyData.canLay0, canLayAll0_strs r (fun x hx => h x (.tail _ hx)), h n (.head _)]
theorem depthAll_strs : ∀ ns : List Str, PyData.depthAll (ns.map PyData.str) ≤ 1
  | [] => by simp [PyData.depthAll]
  | n :: r => by
    have := depthAll_strs r
    simp only [List.map_cons, PyData.depthAll, PyData.depth]
    omega
theorem shaped_strs (ns : List Str) (ok : ∀ x ∈ ns, PyData.strOk x = true) : shaped (.list (ns.map PyData.str)) = true := by
  have h1 := depthAll_strs ns
  have h2 : PyData.depth (.list (ns.map PyData.str)) ≤ 64 := by simp only [PyData.depth]; omega
  show (PyData.canLay0 (.list (ns.map PyData.str)) && decide (PyData.depth (.list (ns.map PyData.str)) ≤ 64)) = true
  rw [Bool.and_eq_true]
  exact ⟨by simp only [PyData.canLay0]; exact canLayAll0_strs ns ok, decide_eq_true h2⟩
theorem noMix_strs : ∀ ns ms : List Str, noMixAll (ns.map PyData.str) (ms.map PyData.str) = true
  | [], [] => by simp [noMixAll]
  | [], _ :: _ => by simp [noMixAll]
  | _ :: _, [] => by simp [noMixAll]
  | _ :: r, _ :: q => by simp [noMixAll, noMix, noMix_strs r q]
section
variable {prog : Program} {w : World} {A : Around} {s : Shared} {E : Value → Shared → Prop}
theorem eq_strs {a b : Addr} {vs us : List Value} {ns ms : List Str} {Q : Value → Shared → Prop} (hl : s.heap.IsList a vs.toArray) (hi : StrsAre vs ns) (hl' : s.heap.IsList b us.toArray) (hi' : StrsAre us ms) (o1 : ∀ x ∈ ns, PyData.strOk x = true) (o2 : ∀ x ∈ ms, PyData.strOk x = true) (hu : A.units + 64 < cLine)
    (h : Q (.bool (decide (ns = ms))) s) : wpAny (model prog w) A (compareOp .Eq (.ref a) (.ref b)) Q E s :=
  eq_dataH_same (reads_strs hl hi) (reads_strs hl' hi') (shaped_strs ns o1) (shaped_strs ms o2) hu (by simp only [noMix]; exact noMix_strs ns ms) (by simp only [PySem.Spec.same]; rw [same_strs]; exact h)
theorem ne_strs {a b : Addr} {vs us : List Value} {ns ms : List Str} {Q : Value → Shared → Prop} (hl : s.heap.IsList a vs.toArray) (hi : StrsAre vs ns) (hl' : s.heap.IsList b us.toArray) (hi' : StrsAre us ms) (o1 : ∀ x ∈ ns, PyData.strOk x = true) (o2 : ∀ x ∈ ms, PyData.strOk x = true) (hu : A.units + 64 < cLine)
    (h : Q (.bool (!decide (ns = ms))) s) : wpAny (model prog w) A (compareOp .NotEq (.ref a) (.ref b)) Q E s :=
  ne_dataH_same (reads_strs hl hi) (reads_strs hl' hi') (shaped_strs ns o1) (shaped_strs ms o2) hu (by simp only [noMix]; exact noMix_strs ns ms) (by simp only [PySem.Spec.same]; rw [same_strs]; exact h)
/-- xs[k], k in bounds, the item known -/
theorem itemAt {value slice : Expr} {l : Addr} {vs : List Value} {k : Int} {u : Tok} {v : Value} {Q : Value → Shared → Prop}
    (hl : s.heap.IsList l vs.toArray) (h0 : 0 ≤ k) (hhi : k < 2 ^ 63) (hx : vs[k.toNat]? = some v) (h : Q v s)
    (hs : subscripted slice false (.ref l) (.int k u) = operate [.ref l, .int k u] (getItem (.ref l) (.int k u))) :
    wpAny (model prog w) A (subscriptTail value slice (.ref l) (.int k u)) Q E s :=
  tail_any hl.typeIs slot_list_getitem.lookup (wpAny_getItem_list hl h0 hhi (by simpa using hx) h) hs
/-- xs[-1], the last item known -/
theorem itemLast {value slice : Expr} {l : Addr} {vs : List Value} {u : Tok} {v : Value} {Q : Value → Shared → Prop}
    (hl : s.heap.IsList l (vs ++ [v]).toArray) (h : Q v s)
    (hs : subscripted slice false (.ref l) (.int (-1) u) = operate [.ref l, .int (-1) u] (getItem (.ref l) (.int (-1) u))) :
    wpAny (model prog w) A (subscriptTail value slice (.ref l) (.int (-1) u)) Q E s :=
  tail_any hl.typeIs slot_list_getitem.lookup (wpAny_getItem_list_neg hl (by decide) (by simp only [List.size_toArray, List.length_append, List.length_cons, List.length_nil]; omega) (by decide) (by
    have e : (-1 + (((vs ++ [v]).toArray.size : Nat) : Int)).toNat = vs.length := by simp only [List.size_toArray, List.length_append, List.length_cons, List.length_nil]; omega
    rw [e]; simp) h) hs
end
theorem pick_drop (l : List Value) (k : Nat) : kms_pick l (some (k : Int)) none = l.drop k := by
  have h : ¬ ((k : Int) < 0) := by omega
  simp only [kms_pick, kms_lo, kms_hi, if_neg h, Int.toNat_natCast]
  by_cases hk : k ≤ l.length
  · rw [Nat.min_eq_left hk, List.take_of_length_le (by simp)]
  · rw [Nat.min_eq_right (by omega)]; simp [List.drop_of_length_le (show l.length ≤ k by omega)]
theorem pick_take (l : List Value) (k : Nat) : kms_pick l none (some (k : Int)) = l.take k := by
  have h : ¬ ((k : Int) < 0) := by omega
  simp only [kms_pick, kms_lo, kms_hi, if_neg h, Int.toNat_natCast, List.drop_zero, Nat.sub_zero]
  by_cases hk : k ≤ l.length
  · rw [Nat.min_eq_left hk]
  · rw [Nat.min_eq_right (by omega), List.take_of_length_le (Nat.le_refl _), List.take_of_length_le (by omega)]
theorem pick_mid (l : List Value) (j k : Nat) (hj : j ≤ l.length) (hk : k ≤ l.length) : kms_pick l (some (j : Int)) (some (k : Int)) = (l.drop j).take (k - j) := by
  have h : ¬ ((k : Int) < 0) := by omega
  have h2 : ¬ ((j : Int) < 0) := by omega
  simp only [kms_pick, kms_lo, kms_hi, if_neg h, if_neg h2, Int.toNat_natCast, Nat.min_eq_left hj, Nat.min_eq_left hk]
theorem app_head {prog : Program} {w : World} {A : Around} {s : Shared} {E : Value → Shared → Prop} {h₀ : Heap} {L D : Addr} {m : Str → Option Value} {r : List (Addr × Obj)} {us : List Value} {c : Nat} {x : Value} {Q : Value → Shared → Prop}
    (F : Fr h₀ L s.heap m) (N : News h₀ L s.heap ((D, listOf us.toArray c) :: r)) (hoff : ∀ p ∈ r, p.1 ≠ D) (hsz : us.length ≤ 1000)
    (h : ∀ h', Fr h₀ L h' m → News h₀ L h' ((D, listOf (us ++ [x]).toArray (c + 1)) :: r) → Q .none { s with heap := h' }) : wpAny (model prog w) A (call (.builtin "list.append") [.ref D, x]) Q E s := by
  refine append_K F N (.head hoff) (fun h' F' N' => h h' F' ?_) (by rw [List.size_toArray, sizeLine_eq]; omega)
  rw [List.push_toArray] at N'
  exact N'
def Asc (x : Str) : Prop := ∀ c ∈ x.cps.toList, c < 128
theorem Asc.ok {x : Str} (h : Asc x) : PyData.strOk x = true := by
  unfold PyData.strOk
  rw [← Array.all_toList, List.all_eq_true]
  intro c hc
  have := h c hc
  exact decide_eq_true (by omega)
def AscAll (l : List Str) : Prop := ∀ x ∈ l, Asc x
theorem AscAll.ok {l : List Str} (h : AscAll l) : ∀ x ∈ l, PyData.strOk x = true := fun x hx => (h x hx).ok
theorem AscAll.nil : AscAll [] := fun _ h => nomatch h
end Mine
end
section
local macro_rules | `(tactic| walk_at "MINE C4 0") => `(tactic| skip)
theorem Mine.offC4 : True := by
  w_top off
  trivial
open PySem PySem.W PyProof.Rows PySem.Calls PySem.Spec PyProof.V PySem.SeqAt
set_option maxRecDepth 100000
namespace Mine
section
variable {prog : Program} {w : World} {A : Around} {s : Shared} {env : Env}

def CompK (prog : Program) (w : World) (A : Around) (cl : List (Str × Addr)) (env : Env) (scope : Scope) (x : Str) (ifs : List Expr) (elt : Expr) (p : Value → Bool) (F : Value → Value → Prop) (Q : Value → Shared → Prop) (E : Value → Shared → Prop) (xv : Value) (s₁ : Shared) : Prop :=
  ∃ (h₀ : Heap) (L : Addr) (l : Addr) (vs : List Value) (m : Str → Option Value) (news : List (Addr × Obj)), xv = .ref l ∧ A.handled = none ∧ s₁.heap.IsList l vs.toArray ∧ vs.length ≤ 10000 ∧ Fr h₀ L s₁.heap m ∧ News h₀ L s₁.heap news ∧
    (∀ C v s₃ m₃ E', s₁.heap.objs.size ≤ C → v ∈ vs → s₃.heap.Ns C m₃ → m₃ x = some v → Ext s₁.heap s₃.heap →
      wpAny (model prog w) A (forIn ifs true fun c r => if r = true then do let ok ← isTrue c (compEnvC scope cl C env) (eval c (compEnvC scope cl C env)); pure (ForInStep.yield ok) else pure (ForInStep.yield r)) (fun ok s₄ => ok = p v ∧ Keeps s₃ s₄) E' s₃) ∧
    (∀ C v s₃ m₃ E', s₁.heap.objs.size ≤ C → v ∈ vs → p v = true → s₃.heap.Ns C m₃ → m₃ x = some v → Ext s₁.heap s₃.heap →
      wpAny (model prog w) A (eval elt (compEnvC scope cl C env)) (fun y s₄ => F v y ∧ Keeps s₃ s₄) E' s₃) ∧
    (∀ D n ys h' tk, Fr h₀ L h' m → News h₀ L h' ((D, listOf ys.toArray n) :: news) → (∀ q ∈ news, q.1 ≠ D) → Paired F (vs.filter p) ys → Q (.ref D) { s₁ with heap := h', toks := tk })

theorem comp_K {elt iter : Expr} {x : Str} {px : Pos} {ifs : List Expr} {scope : Scope} {cl : List (Str × Addr)} {pos : Pos} {Q : Value → Shared → Prop} {E : Value → Shared → Prop} (p : Value → Bool) (F : Value → Value → Prop)
    (hclos : closureFor scope env = pure cl) (hcell : ∀ y ∈ scope.names, y.2 ≠ .cell) (hkind : scope.kind = .function)
    (hnames : ∀ y ∈ scope.names, y.2 = .local → scope.names.lookup y.1 = some .local) (hx : scope.names.lookup x = some .local)
    (hs : ∀ x, foldedSetIterable iter env x = pure x)
    (h : wpAny (model prog w) A (eval iter env) (CompK prog w A cl env scope x ifs elt p F Q E) E s) :
    wpAny (model prog w) A (eval (.ListComp elt [⟨.Name x px, iter, ifs, 0⟩] scope pos) env) Q E s := by
  refine wpAny_ListComp_free p F hclos hcell hkind hnames hx (wpAny_mono h (fun xv s₁ hc => ?_) fun _ _ e => e) hs
  obtain ⟨h₀, L, l, vs, m, news, rfl, hh, hl, hlen, hF, hN, ht, he, hQ⟩ := hc
  refine wpAny_pyIter_list hl ?_
  obtain ⟨ol, hol, hol'⟩ := id hl
  have hll : l < s₁.heap.objs.size := Heap.lt_size hol
  have hne : l ≠ s₁.heap.objs.size := Nat.ne_of_lt hll
  have W := Walks.list (prog := prog) (w := w) hh s₁.heap.objs.size l hne vs.toArray
  have hsz : vs.toArray.size = vs.length := by simp
  rw [hsz] at W
  refine ⟨_, _, _, _, _, _, rfl, W, by rw [sizeLine_eq]; omega, ⟨⟨_, Heap.get?_push_size _ rfl, rfl, rfl⟩, hl.at fun o e => Heap.get?_push_of_some _ e⟩, ?_, ⟨?_, ?_⟩, ?_⟩
  · intro b hb
    rw [Heap.size_push]
    rcases List.mem_cons.mp hb with rfl | hb
    · exact Nat.lt_succ_self _
    · rw [List.mem_singleton.mp hb]; exact Nat.lt_succ_of_lt hll
  · intro C i v s₃ m₃ E' hC hP hn hm hk _
    rw [Heap.size_push] at hC
    have hv : v ∈ vs := List.mem_of_getElem? (by simpa using hP)
    exact ht C v s₃ m₃ E' (Nat.le_of_succ_le hC) hv hn hm fun b o e => hk b o (fun hb => by rw [List.mem_singleton.mp hb] at e; exact absurd (Heap.lt_size e) (Nat.lt_irrefl _)) (Heap.get?_push_of_some _ e)
  · intro C i v s₃ m₃ E' hC hP hp hn hm hk _
    rw [Heap.size_push] at hC
    have hv : v ∈ vs := List.mem_of_getElem? (by simpa using hP)
    exact he C v s₃ m₃ E' (Nat.le_of_succ_le hC) hv hp hn hm fun b o e => hk b o (fun hb => by rw [List.mem_singleton.mp hb] at e; exact absurd (Heap.lt_size e) (Nat.lt_irrefl _)) (Heap.get?_push_of_some _ e)
  · intro D h' tk ys vs' hD hlD hpl hvl hP hPd hk
    have hvs : vs' = vs := by
      apply List.ext_getElem? 
      intro j
      by_cases hj : j < vs'.length
      · have h1 : vs'[j]? = some vs'[j] := List.getElem?_eq_getElem hj
        have h2 := hP j _ h1
        rw [h1]
        simpa using h2.symm
      · rw [List.getElem?_eq_none (by omega), List.getElem?_eq_none (by omega)]
    subst hvs
    have hext : Ext s₁.heap h' := fun b o e => hk b o (fun hb => by rw [List.mem_singleton.mp hb] at e; exact absurd (Heap.lt_size e) (Nat.lt_irrefl _)) (Heap.get?_push_of_some _ e)
    have hD' : s₁.heap.get? D = none := by
      cases hq : s₁.heap.get? D with
      | none => rfl
      | some o => rw [Heap.get?_push_of_some _ hq] at hD; cases hD
    obtain ⟨c, hget⟩ := hpl
    refine hQ D c ys.toList h' tk (frExt hF hext) (newsAdd hF (newsExt hN hext) ?_ hD') (fun q hq => ?_) hPd
    · rw [hget]
    · intro e
      have h1 := (hN q hq).1
      rw [e, hD'] at h1
      cases h1
theorem test_one {c : Expr} {cenv : Env} {R : Bool → Shared → Prop} {E : Value → Shared → Prop} (h : wpAny (model prog w) A (isTrue c cenv (eval c cenv)) R E s) :
    wpAny (model prog w) A (forIn [c] true fun c r => if r = true then do let ok ← isTrue c cenv (eval c cenv); pure (ForInStep.yield ok) else pure (ForInStep.yield r)) R E s := by
  simp only [List.forIn_cons, List.forIn_nil, if_true]
  exact wpAny_bind (wpAny_bind (wpAny_mono h (fun _ _ x => wpAny_pure (wpAny_pure x)) fun _ _ x => x))
theorem test_nil {cenv : Env} {R : Bool → Shared → Prop} {E : Value → Shared → Prop} (h : R true s) :
    wpAny (model prog w) A (forIn ([] : List Expr) true fun c r => if r = true then do let ok ← isTrue c cenv (eval c cenv); pure (ForInStep.yield ok) else pure (ForInStep.yield r)) R E s := wpAny_pure h
theorem keeps_toks {s : Shared} {k : Nat} : Keeps s { s with toks := k } := ⟨s.heap, k, rfl, fun _ _ e => e⟩
theorem keeps_refl {s : Shared} : Keeps s s := ⟨s.heap, s.toks, rfl, fun _ _ e => e⟩
theorem ints_mem {vs : List Value} {ns : List Int} (hi : IntsAre vs ns) {v : Value} (hv : v ∈ vs) : ∃ n t, v = .int n t ∧ n ∈ ns := by
  obtain ⟨i, hi'⟩ := List.mem_iff_getElem?.mp hv
  obtain ⟨n, t, e, h⟩ := ints_get hi hi'
  exact ⟨n, t, e, List.mem_of_getElem? h⟩
end
/-- what a comprehension over ints gives -/
theorem paired_ints {F : Value → Value → Prop} {p : Value → Bool} {pz : Int → Bool} {f : Int → Int} (hp : ∀ n t, p (.int n t) = pz n) (hF : ∀ n t y, F (.int n t) y → ∃ u, y = .int (f n) u) :
    ∀ {vs : List Value} {ns : List Int}, IntsAre vs ns → ∀ {ys : List Value}, Paired F (vs.filter p) ys → IntsAre ys ((ns.filter pz).map f)
  | _, _, .nil, _, h => by cases h; exact .nil
  | _, _, .cons n t r, ys, h => by
    rw [List.filter_cons, hp] at h
    rw [List.filter_cons]
    cases hq : pz n with
    | true =>
      rw [hq, if_pos rfl] at h
      rw [if_pos rfl]
      cases h with
      | cons a b =>
        obtain ⟨u, rfl⟩ := hF _ _ _ a
        exact .cons _ _ (paired_ints hp hF r b)
    | false =>
      rw [hq, if_neg Bool.false_ne_true] at h
      rw [if_neg Bool.false_ne_true]
      exact paired_ints hp hF r h
end Mine
namespace Mine
section
open PySem.Builtin PySem.Builtin.Str
theorem gives_find4 (x y : Str) (i j : Int) (t u v z : Tok) (hj : fromIndex x.length j = x.length) : Gives («str.find» ⟨[.str x t, .str y u, .int i v, .int j z], []⟩) (.int (match occurrences x y (fromIndex x.length i) x.length 1 with | k :: _ => (k : Int) | [] => -1)) := by
  show Gives (match occurrences x y (fromIndex x.length i) (min (fromIndex x.length j) x.length) 1 with | k :: _ => retInt k | [] => (do rule "str.find.not-found"; retInt (-1))) _
  rw [hj, Nat.min_self]
  cases occurrences x y (fromIndex x.length i) x.length 1 with
  | nil => exact .rule (.of_eq rfl)
  | cons k _ => exact .of_eq rfl
end
theorem find4 {prog : Program} {w : World} {A : Around} {E : Value → Shared → Prop} {s : Shared} {x y : Str} {t u v z : Tok} {i j : Int} {Q : Value → Shared → Prop} (hj : fromIndex x.length j = x.length)
    (hq : Q (.int (Txt.find3 x y i) s.toks) { s with toks := s.toks + 1 }) : wpAny (model prog w) A (call (.builtin "str.find") [.str x t, .str y u, .int i v, .int j z]) Q E s :=
  call_gives F.slot_str_find (typeIs_str _ _ _) F.entry_str_find (F.args_str_find_4 _ _ _ _) (gives_find4 x y i j t u v z hj) hq
end Mine
end
section
theorem Mine.offPbits : True := by
  w_top off
  trivial
open PySem PySem.W PyProof.Rows PySem.Calls
namespace Mine
def flagNames : List Str := [Str.ofString "OPTIMIZED", Str.ofString "NEWLOCALS", Str.ofString "VARARGS", Str.ofString "VARKEYWORDS", Str.ofString "NESTED", Str.ofString "GENERATOR", Str.ofString "NOFREE", Str.ofString "COROUTINE", Str.ofString "ITERABLE_COROUTINE", Str.ofString "ASYNC_GENERATOR"]
def hexOf (n : Nat) : Str := baseText "0x" 16 (n : Int)
def nameOf (i : Nat) : Str := match flagNames[i]? with | some x => x | none => hexOf (2 ^ i)
def namesBelow (n k : Nat) : List Str := ((List.range k).filter n.testBit).map nameOf

theorem low_bit (n i : Nat) : ((n >>> i) <<< i).testBit i = n.testBit i := by simp
theorem and_low (n i : Nat) : ((n >>> i) <<< i) &&& 2 ^ i = if n.testBit i then 2 ^ i else 0 := by
  apply Nat.eq_of_testBit_eq
  intro j
  rw [Nat.testBit_and, Nat.testBit_two_pow]
  by_cases h : i = j
  · subst h
    rw [low_bit]
    cases n.testBit i <;> simp
  · have : decide (i = j) = false := decide_eq_false h
    rw [this, Bool.and_false]
    cases n.testBit i <;> simp [Nat.testBit_two_pow, h]
theorem bitAnd_nat (a b : Nat) : Builtin.bitAnd (a : Int) (b : Int) = ((a &&& b : Nat) : Int) := by
  rw [bitAnd_pp (by omega) (by omega)]; simp
theorem low_next (n i : Nat) : (n >>> i) <<< i = (n >>> (i + 1)) <<< (i + 1) + (if n.testBit i then 2 ^ i else 0) := by
  rw [Nat.testBit_eq_decide_div_mod_eq]
  simp only [Nat.shiftRight_eq_div_pow, Nat.shiftLeft_eq, decide_eq_true_eq]
  have e : n / 2 ^ (i + 1) = n / 2 ^ i / 2 := by rw [Nat.pow_succ, Nat.div_div_eq_div_mul]
  rw [e, Nat.pow_succ]
  generalize n / 2 ^ i = q
  generalize 2 ^ i = p
  have h1 : q / 2 * (p * 2) = (2 * (q / 2)) * p := by rw [Nat.mul_comm p 2, ← Nat.mul_assoc, Nat.mul_comm (q / 2) 2]
  rw [h1]
  by_cases h : q % 2 = 1
  · rw [if_pos h]
    have : q = 2 * (q / 2) + 1 := by omega
    calc q * p = (2 * (q / 2) + 1) * p := by rw [← this]
      _ = _ := by rw [Nat.add_mul, Nat.one_mul]
  · rw [if_neg h]
    have : q = 2 * (q / 2) := by omega
    rw [Nat.add_zero, ← this]
theorem namesBelow_succ (n i : Nat) : namesBelow n (i + 1) = namesBelow n i ++ (if n.testBit i then [nameOf i] else []) := by
  unfold namesBelow
  rw [List.range_succ, List.filter_append, List.map_append]
  cases h : n.testBit i <;> simp [h]
theorem namesBelow_zero (n : Nat) : namesBelow n 0 = [] := rfl
theorem namesBelow_stop {n i : Nat} (h : (n >>> i) <<< i = 0) : ∀ k, i ≤ k → namesBelow n k = namesBelow n i := by
  have hz : ∀ j, i ≤ j → n.testBit j = false := by
    intro j hj
    have h1 : ((n >>> i) <<< i).testBit j = n.testBit j := by simp [hj]
    rw [← h1, h]; simp
  intro k hk
  induction k with
  | zero => have : i = 0 := by omega
            rw [this]
  | succ k ih =>
    by_cases e : i = k + 1
    · rw [e]
    · rw [namesBelow_succ, hz k (by omega), ih (by omega)]; simp
theorem namesBelow_length (n k : Nat) : (namesBelow n k).length ≤ k := by
  unfold namesBelow
  rw [List.length_map]
  have := List.length_filter_le n.testBit (List.range k)
  simpa using this

theorem hex_len {n k : Nat} (hk : 1 ≤ k) (hn : n < 16 ^ k) : (hexOf n).length ≤ 3 + k := by
  unfold hexOf baseText
  rw [Str.length_append, Str.length_append, show (Str.ofString "0x").length = 2 from by decide, ofString_ofList_length (Nat.toDigits 16 ((n : Int)).natAbs)]
  have h1 : (Nat.toDigits 16 ((n : Int)).natAbs).length ≤ k := toDigits_len_pow (by omega) hk (by simpa using hn)
  have h3 : (Str.ofString (if (n : Int) < 0 then "-" else "")).length ≤ 1 := by
    split <;> (rw [PyProof.Rows.ofString_len]; decide)
  omega
theorem pow_lt {i k : Nat} (h : i < 4 * k) : 2 ^ i < 16 ^ k := by
  have : (16 : Nat) ^ k = 2 ^ (4 * k) := by rw [Nat.pow_mul]
  rw [this]
  exact Nat.pow_lt_pow_right (by omega) h
theorem flag_len : ∀ x ∈ flagNames, x.length ≤ 20 := by decide
theorem nameOf_len {i : Nat} (h : i < 48) : (nameOf i).length ≤ 20 := by
  unfold nameOf
  cases hq : flagNames[i]? with
  | none => exact Nat.le_trans (hex_len (k := 12) (by omega) (pow_lt (by omega))) (by omega)
  | some x => exact flag_len x (List.mem_of_getElem? hq)
theorem sum_len {B : Nat} : ∀ {ys : List Str}, (∀ y ∈ ys, y.length ≤ B) → (ys.map (·.length)).sum ≤ B * ys.length
  | [], _ => by simp
  | y :: r, h => by
    have h1 := sum_len (B := B) (ys := r) fun z hz => h z (.tail _ hz)
    have h2 := h y (.head _)
    simp only [List.map_cons, List.sum_cons, List.length_cons, Nat.mul_succ]
    omega
theorem namesBelow_all {n k : Nat} (hk : k ≤ 48) : ∀ y ∈ namesBelow n k, y.length ≤ 20 := by
  intro y hy
  unfold namesBelow at hy
  obtain ⟨i, hi, rfl⟩ := List.mem_map.mp hy
  have := (List.mem_filter.mp hi).1
  exact nameOf_len (by have := List.mem_range.mp this; omega)
theorem top_lt {n : Nat} (hn : n < 2 ^ 48) : (n >>> 32) <<< 32 < 16 ^ 12 := by
  rw [Nat.shiftRight_eq_div_pow, Nat.shiftLeft_eq]
  have : n / 2 ^ 32 * 2 ^ 32 ≤ n := Nat.div_mul_le_self n _
  have e : (16 : Nat) ^ 12 = 2 ^ 48 := by decide
  omega
/-- the strings that pretty_flags joins -/
def prettyWords (n : Nat) : List Str := if n ≠ 0 ∧ n < 2 ^ 32 then namesBelow n 32 else namesBelow n 32 ++ [hexOf ((n >>> 32) <<< 32)]
theorem pretty_all {n : Nat} (hn : n < 2 ^ 48) : ∀ y ∈ prettyWords n, y.length ≤ 20 := by
  intro y hy
  unfold prettyWords at hy
  split at hy
  · exact namesBelow_all (by omega) y hy
  · rcases List.mem_append.mp hy with h | h
    · exact namesBelow_all (by omega) y h
    · rw [List.mem_singleton.mp h]
      exact Nat.le_trans (hex_len (k := 12) (by omega) (top_lt hn)) (by omega)
theorem pretty_count {n : Nat} : (prettyWords n).length ≤ 33 := by
  have := namesBelow_length n 32
  unfold prettyWords
  split
  · omega
  · simp; omega
theorem pretty_weight {n : Nat} (hn : n < 2 ^ 48) : ((prettyWords n).map (·.length)).sum + (prettyWords n).length ≤ 1048576 := by
  have h1 := sum_len (pretty_all hn)
  have h2 := pretty_count (n := n)
  omega
end Mine
end
section
local macro_rules | `(tactic| walk_at "MINE C5 0") => `(tactic| skip)
theorem Mine.offC5 : True := by
  w_top off
  trivial
open PySem PySem.W PyProof.Rows PySem.Calls PySem.Spec PyProof.V PySem.SeqAt
set_option maxRecDepth 100000
namespace Mine
section
variable {prog : Program} {w : World} {A : Around} {s : Shared} {env : Env}

def CompKA (prog : Program) (w : World) (A : Around) (cl : List (Str × Addr)) (env : Env) (scope : Scope) (x y : Str) (ifs : List Expr) (elt : Expr) (p : Value → Bool) (F : Value → Value → Prop) (Q : Flow → Shared → Prop) (E : Value → Shared → Prop) (xv : Value) (s₁ : Shared) : Prop :=
  ∃ (h₀ : Heap) (L : Addr) (l : Addr) (vs : List Value) (m : Str → Option Value) (news : List (Addr × Obj)), xv = .ref l ∧ A.handled = none ∧ env.locals = L ∧ s₁.heap.IsList l vs.toArray ∧ vs.length ≤ 10000 ∧ Fr h₀ L s₁.heap m ∧ News h₀ L s₁.heap news ∧
    (∀ C v s₃ m₃ E', s₁.heap.objs.size ≤ C → v ∈ vs → s₃.heap.Ns C m₃ → m₃ x = some v → Ext s₁.heap s₃.heap →
      wpAny (model prog w) A (forIn ifs true fun c r => if r = true then do let ok ← isTrue c (compEnvC scope cl C env) (eval c (compEnvC scope cl C env)); pure (ForInStep.yield ok) else pure (ForInStep.yield r)) (fun ok s₄ => ok = p v ∧ Keeps s₃ s₄) E' s₃) ∧
    (∀ C v s₃ m₃ E', s₁.heap.objs.size ≤ C → v ∈ vs → p v = true → s₃.heap.Ns C m₃ → m₃ x = some v → Ext s₁.heap s₃.heap →
      wpAny (model prog w) A (eval elt (compEnvC scope cl C env)) (fun y s₄ => F v y ∧ Keeps s₃ s₄) E' s₃) ∧
    (∀ D n ys h' tk, Fr h₀ L h' (fun z => if z = y then some (.ref D) else m z) → News h₀ L h' ((D, listOf ys.toArray n) :: news) → (∀ q ∈ news, q.1 ≠ D) → Paired F (vs.filter p) ys → Q .next { s₁ with heap := h', toks := tk })

theorem comp_KA {elt iter : Expr} {x y : Str} {px py : Pos} {ifs : List Expr} {scope : Scope} {cl : List (Str × Addr)} {pos spos : Pos} {Q : Flow → Shared → Prop} {E : Value → Shared → Prop} (p : Value → Bool) (F : Value → Value → Prop)
    (hsw : swapsWith (.ListComp elt [⟨.Name x px, iter, ifs, 0⟩] scope pos) (some (.Name y py)) spos.line env = pure true)
    (hclos : closureFor scope env = pure cl) (hcell : ∀ y ∈ scope.names, y.2 ≠ .cell) (hkind : scope.kind = .function)
    (hnames : ∀ y ∈ scope.names, y.2 = .local → scope.names.lookup y.1 = some .local) (hx : scope.names.lookup x = some .local)
    (hy : env.kindOf y = some .local) (hp : (env.scope.kind == .class || (env.scope.kind == .module && env.locals != env.globals)) = false)
    (hs : ∀ x, foldedSetIterable iter env x = pure x)
    (h : wpAny (model prog w) A (eval iter env) (CompKA prog w A cl env scope x y ifs elt p F Q E) E s) :
    wpAny (model prog w) A (exec (.Assign [.Name y py] (.ListComp elt [⟨.Name x px, iter, ifs, 0⟩] scope pos) spos) env) Q E s := by
  refine wpAny_Assign_ListComp_free p F hsw hclos hcell hkind hnames hx hy hp (wpAny_mono h (fun xv s₁ hc => ?_) fun _ _ e => e) hs
  obtain ⟨h₀, L, l, vs, m, news, rfl, hh, rfl, hl, hlen, hF, hN, ht, he, hQ⟩ := hc
  refine wpAny_pyIter_list hl ?_
  obtain ⟨ol, hol, hol'⟩ := id hl
  have hll : l < s₁.heap.objs.size := Heap.lt_size hol
  have hne : l ≠ s₁.heap.objs.size := Nat.ne_of_lt hll
  have W := Walks.list (prog := prog) (w := w) hh s₁.heap.objs.size l hne vs.toArray
  have hsz : vs.toArray.size = vs.length := by simp
  rw [hsz] at W
  have hLs : env.locals < s₁.heap.objs.size := by obtain ⟨o, _, _, ho, _⟩ := hF.ns; exact Heap.lt_size ho
  refine ⟨_, _, _, _, _, _, m, rfl, W, by rw [sizeLine_eq]; omega, ⟨⟨_, Heap.get?_push_size _ rfl, rfl, rfl⟩, hl.at fun o e => Heap.get?_push_of_some _ e⟩, ?_, ?_, hF.ns.at' (fun o e => Heap.get?_push_of_some _ e), ⟨?_, ?_⟩, ?_⟩
  · intro b hb
    rw [Heap.size_push]
    rcases List.mem_cons.mp hb with rfl | hb
    · exact Nat.lt_succ_self _
    · rw [List.mem_singleton.mp hb]; exact Nat.lt_succ_of_lt hll
  · intro hb
    exact Nat.ne_of_lt hLs (List.mem_singleton.mp hb)
  · intro C i v s₃ m₃ E' hC hP hn hm hk _
    rw [Heap.size_push] at hC
    have hv : v ∈ vs := List.mem_of_getElem? (by simpa using hP)
    exact ht C v s₃ m₃ E' (Nat.le_of_succ_le hC) hv hn hm fun b o e => hk b o (fun hb => by rw [List.mem_singleton.mp hb] at e; exact absurd (Heap.lt_size e) (Nat.lt_irrefl _)) (Heap.get?_push_of_some _ e)
  · intro C i v s₃ m₃ E' hC hP hp hn hm hk _
    rw [Heap.size_push] at hC
    have hv : v ∈ vs := List.mem_of_getElem? (by simpa using hP)
    exact he C v s₃ m₃ E' (Nat.le_of_succ_le hC) hv hp hn hm fun b o e => hk b o (fun hb => by rw [List.mem_singleton.mp hb] at e; exact absurd (Heap.lt_size e) (Nat.lt_irrefl _)) (Heap.get?_push_of_some _ e)
  · intro D h' tk ys vs' hD hlD hpl hvl hP hPd hn' hk
    have hvs : vs' = vs := by
      apply List.ext_getElem? 
      intro j
      by_cases hj : j < vs'.length
      · have h1 : vs'[j]? = some vs'[j] := List.getElem?_eq_getElem hj
        have h2 := hP j _ h1
        rw [h1]
        simpa using h2.symm
      · rw [List.getElem?_eq_none (by omega), List.getElem?_eq_none (by omega)]
    subst hvs
    have hext : ∀ b o, b ≠ env.locals → s₁.heap.get? b = some o → h'.get? b = some o := fun b o hb e => hk b o hb (fun hb => by rw [List.mem_singleton.mp hb] at e; exact absurd (Heap.lt_size e) (Nat.lt_irrefl _)) (Heap.get?_push_of_some _ e)
    have hD' : s₁.heap.get? D = none := by
      cases hq : s₁.heap.get? D with
      | none => rfl
      | some o => rw [Heap.get?_push_of_some _ hq] at hD; cases hD
    obtain ⟨c, hget⟩ := hpl
    have hDL : D ≠ env.locals := by
      rintro rfl
      obtain ⟨o, _, _, ho, _⟩ := hF.ns
      rw [hD'] at ho
      cases ho
    refine hQ D c ys.toList h' tk ⟨hn', fun b o e => hext b o ?_ (hF.keep b o e), hF.above⟩ ?_ (fun q hq => ?_) hPd
    · exact Nat.ne_of_lt (Nat.lt_of_lt_of_le (Heap.lt_size e) hF.above)
    · intro q hq
      rcases List.mem_cons.mp hq with rfl | hq
      · refine ⟨hget, hDL, ?_⟩
        cases hz : h₀.get? D with
        | none => rfl
        | some o => rw [hF.keep _ _ hz] at hD'; cases hD'
      · exact ⟨hext _ _ (hN q hq).2.1 (hN q hq).1, (hN q hq).2⟩
    · intro e
      have h1 := (hN q hq).1
      rw [e, hD'] at h1
      cases h1
theorem ints_set {vs : List Value} {ns : List Int} (h : IntsAre vs ns) : ∀ (i : Nat) (x : Int) (t : Tok), IntsAre (vs.set i (.int x t)) (ns.set i x) := by
  induction h with
  | nil => intro i x t; exact .nil
  | cons n u h ih =>
    intro i x t
    cases i with
    | zero => exact .cons _ _ h
    | succ j => exact .cons _ _ (ih j x t)
end
/-- an object that a call has made -/
def NewAt (h h' : Heap) (a : Addr) (o : Obj) : Prop := h'.get? a = some o ∧ h.get? a = none
theorem NewAt.mk {h h' : Heap} {L : Addr} {news : List (Addr × Obj)} {a : Addr} {o : Obj} (N : News h L h' news) (hm : (a, o) ∈ news) : NewAt h h' a o := ⟨(N _ hm).1, (N _ hm).2.2⟩
def IsRow (r : List Int) : Prop := r.length = 5 ∧ ∀ n ∈ r, 0 ≤ n ∧ n < 56
end Mine
end
section
theorem Mine.offC6 : True := by
  w_top off
  trivial
open PySem PySem.W PyProof.Rows PySem.Calls PySem.Spec PyProof.V PySem.SeqAt
set_option maxRecDepth 100000
namespace Mine
section
variable {prog : Program} {w : World} {A : Around} {s : Shared} {env : Env} {h₀ : Heap}
/-- over the keys of a dict of the base, the keys strings -/
theorem iter_tabS {σ : Type} {body orelse : List Stmt} {Q : Flow → Shared → Prop} {d : Addr} {D : List (PyData × PyData)} {m₀ : Str → Option Value} {x : Str} {px : Pos}
    (Led : σ → List (Addr × Obj)) (ps : σ → List (Str × Value)) (stored : List Str) (P : Nat → σ → Prop) (c₀ : σ) {L : Addr}
    (hh : A.handled = none) (T : StrTab prog w s.heap d D) (hfp : ∃ o, h₀.get? d = some o)
    (F : Fr h₀ L s.heap m₀) (N : News h₀ L s.heap (Led c₀)) (G : AllBare s.gens) (hL : env.locals = L) (hp : P 0 c₀) (hk : ∀ p ∈ ps c₀, m₀ p.1 = some p.2)
    (hx : env.kindOf x = some .local) (hsc : (env.scope.kind == .class || (env.scope.kind == .module && env.locals != env.globals)) = false)
    (turn : ∀ i k t dv c (u : Str → Option Value) s₁ own, D[i]? = some (.str k, dv) → P i c → OwnOff own ((Led c).map (·.1)) →
      Fr h₀ L s₁.heap (fun y => if y = x then some (.str k t) else kstB (fun z => if stored.contains z then u z else m₀ z) (ps c) y) → News h₀ L s₁.heap (Led c ++ own) → s₁.os = s.os → AllBare s₁.gens →
      wpAny (model prog w) A (execs body env) (TurnEnd h₀ L own (StJ Led ps stored m₀ (P (i + 1))) s Q) noE s₁)
    (done : ∀ c (u : Str → Option Value) s₁, P D.length c → Fr h₀ L s₁.heap (kstB (fun z => if stored.contains z then u z else m₀ z) (ps c)) → News h₀ L s₁.heap (Led c) → s₁.os = s.os → AllBare s₁.gens →
      wpAny (model prog w) A (execs orelse env) Q noE s₁) :
    wpAny (model prog w) A (pyIter (.ref d)) (fun it s₂ => codeAny (model prog w) A (.forLoop (.Name x px) it body orelse env) (fun r s' => match r with | .ok f => Q f s' | .error _ => False) s₂) noE s := by
  subst hL
  obtain ⟨lo, kvs, hdo, hf⟩ := id T
  obtain ⟨ep, hat⟩ := hdo.dictAt
  refine wpAny_pyIter_dict lo hat ?_
  have hll : d < s.heap.objs.size := hat.lt_size
  have hne : d ≠ s.heap.objs.size := Nat.ne_of_lt hll
  have hLs : env.locals < s.heap.objs.size := F.ns.lt
  have W := Walks.dictKeys (knd := strKind prog w) hh s.heap.objs.size d hne kvs ep
  refine forLoop_w (h₀ := h₀) (m₀ := m₀) (news₀ := Led c₀) W (fun i m nx => StJ Led ps stored m₀ (P i) m nx) (fun i h st => st.1.imp fun o e => e.1) ?_ ?_ ?_ ?_ ?_ ⟨⟨_, Heap.get?_push_size _ rfl, rfl, rfl⟩, hat.push _⟩ (F.push _) (fun p hp => ⟨Heap.get?_push_of_some _ (N p hp).1, (N p hp).2⟩) G ⟨c₀, hp, rfl, hk, fun _ _ => rfl⟩ ?_ ?_
  · rintro i v s₁ Q _ hq
    exact wpAny_pure hq
  · intro hm
    rcases List.mem_cons.mp hm with e | hm
    · exact absurd hLs (e ▸ Nat.lt_irrefl _)
    · obtain ⟨o, ho⟩ := hfp
      rw [List.mem_singleton] at hm
      exact absurd (Heap.lt_size ho) (Nat.not_lt.mpr (hm ▸ F.above))
  · exact Heap.get?_none_of_le (Nat.le_of_lt (Nat.lt_of_le_of_lt F.above hLs))
  · intro p hp e
    exact absurd (Heap.lt_size (N p hp).1) (by rw [e]; exact Nat.lt_irrefl _)
  · intro b hb hbI
    rcases List.mem_cons.mp hb with e | hb
    · exact absurd e hbI
    · rw [List.mem_singleton.mp hb]
      exact .inl hfp
  · rintro i v m₁ nx s₁ own hi ⟨k, xv, hx1, hkey⟩ hoff ⟨c, hP, rfl, h1, h2⟩ F₁ N₁ hos hg
    obtain ⟨dv, hD, _⟩ := hf.at hx1
    obtain ⟨t, rfl⟩ := Value.isStrOf_shape hkey
    refine wpAny_assign_Name (wpAny_storeName_local hx F₁.ns (fun h' hn hs => ?_) hsc)
    have F₂ := (frMap F₁ h1 h2).set (m' := fun y => if y = x then some (.str k t) else kstB (fun z => if stored.contains z then m₁ z else m₀ z) (ps c) y) ?_ hs
    · exact turn i k t dv c m₁ _ own hD hP hoff F₂ (N₁.set hs) hos hg
    · have e : kstB (fun z => if stored.contains z then m₁ z else m₀ z) (ps c) = m₁ := by
        funext z
        refine kstB_eq h1 fun _ => ?_
        cases h3 : stored.contains z with
        | true => simp
        | false => simp only [Bool.false_eq_true, if_false]; exact (h2 z h3).symm
      rw [e]
      exact hn
  · rintro m₁ nx s₁ ⟨c, hP, rfl, h1, h2⟩ F₁ N₁ hos hg
    exact done c m₁ s₁ (hf.length ▸ hP) (frMap F₁ h1 h2) N₁ hos hg
end
/-- the tokens, as the module dict keeps them -/
def tokD : List (Str × PyData) := [("!", 54), ("!=", 28), ("%", 24), ("%=", 40), ("&", 19), ("&=", 41), ("(", 7), (")", 8), ("*", 16), ("**", 35), ("**=", 46), ("*=", 38), ("+", 14), ("+=", 36), (",", 12), ("-", 15), ("-=", 37), ("->", 51), (".", 23), ("...", 52), ("/", 17), ("//", 47), ("//=", 48), ("/=", 39), (":", 11), (":=", 53), (";", 13), ("<", 20), ("<<", 33), ("<<=", 44), ("<=", 29), ("=", 22), ("==", 27), (">", 21), (">=", 30), (">>", 34), (">>=", 45), ("@", 49), ("@=", 50), ("[", 9), ("]", 10), ("^", 32), ("^=", 43), ("{", 25), ("|", 18), ("|=", 42), ("}", 26), ("~", 31)].map fun p => (Str.ofString p.1, PyData.int p.2)
abbrev prg : Program := Challenge.rw_sr0057_01.row.prog
theorem tok_tab {w : World} {h : Heap} (X : (hd0.heap_1_1 w.params).In h) : StrTab prg w h 44 (tokD.map fun p => (PyData.str p.1, p.2)) :=
  kt_tab_in _ w X (by rfl) (by decide) (by rfl)
end Mine
end
section
local macro_rules | `(tactic| walk_at "MINE C7 0") => `(tactic| skip)
theorem Mine.offC7 : True := by
  w_top off
  trivial
open PySem PySem.W PyProof.Rows PySem.Calls PySem.Spec
set_option maxRecDepth 100000
namespace Mine
section
variable {prog : Program} {w : World} {A : Around} {s : Shared} {env : Env} {h₀ : Heap}
/-- over a list, the loop's name a cell of the frame -/
theorem iter_listC {σ : Type} {body orelse : List Stmt} {Q : Flow → Shared → Prop} {l : Addr} {vs : List Value} {m₀ : Str → Option Value} {x : Str} {px : Pos} {cA : Addr} {oc : Obj} {ov : Option Value}
    (Led : σ → List (Addr × Obj)) (ps : σ → List (Str × Value)) (stored : List Str) (P : Nat → σ → Prop) (c₀ : σ) {L : Addr}
    (hh : A.handled = none) (hl : s.heap.IsList l vs.toArray) (hlL : l ≠ L)
    (hfp : (∃ o, h₀.get? l = some o) ∨ ∃ o, ∀ c, (l, o) ∈ Led c)
    (F : Fr h₀ L s.heap m₀) (N : News h₀ L s.heap ((cA, oc) :: Led c₀)) (hoc : oc.data = .cell ov) (hcA : ∀ c, ∀ p ∈ Led c, p.1 ≠ cA) (G : AllBare s.gens) (hL : env.locals = L) (hp : P 0 c₀) (hk : ∀ p ∈ ps c₀, m₀ p.1 = some p.2)
    (hkf : env.scope.kind = .function) (hx : env.kindOf x = some .cell) (hxc : env.cells.lookup x = some cA)
    (turn : ∀ i v c o2 (u : Str → Option Value) s₁ own, vs[i]? = some v → P i c → o2.data = .cell (some v) → OwnOff own (((cA, o2) :: Led c).map (·.1)) →
      Fr h₀ L s₁.heap (kstB (fun z => if stored.contains z then u z else m₀ z) (ps c)) → News h₀ L s₁.heap ((cA, o2) :: Led c ++ own) → s₁.os = s.os → AllBare s₁.gens →
      wpAny (model prog w) A (execs body env) (TurnEnd h₀ L own (StJ (fun c : σ × Obj => (cA, c.2) :: Led c.1) (fun c => ps c.1) stored m₀ (fun c => P (i + 1) c.1 ∧ ∃ v', c.2.data = .cell v')) s Q) noE s₁)
    (done : ∀ c o2 (u : Str → Option Value) s₁, P vs.length c → Fr h₀ L s₁.heap (kstB (fun z => if stored.contains z then u z else m₀ z) (ps c)) → News h₀ L s₁.heap ((cA, o2) :: Led c) → s₁.os = s.os → AllBare s₁.gens →
      wpAny (model prog w) A (execs orelse env) Q noE s₁) :
    wpAny (model prog w) A (pyIter (.ref l)) (fun it s₂ => codeAny (model prog w) A (.forLoop (.Name x px) it body orelse env) (fun r s' => match r with | .ok f => Q f s' | .error _ => False) s₂) noE s := by
  subst hL
  refine iter_list (h₀ := h₀) (m₀ := m₀) (news₀ := (cA, oc) :: Led c₀) (fun i m nx => StJ (fun c : σ × Obj => (cA, c.2) :: Led c.1) (fun c => ps c.1) stored m₀ (fun c => P i c.1 ∧ ∃ v', c.2.data = .cell v') m nx) hh hl hlL ?_ F N G ⟨(c₀, oc), ⟨hp, _, hoc⟩, rfl, hk, fun _ _ => rfl⟩ ?_ ?_
  · rcases hfp with h | ⟨o, h⟩
    · exact .inl h
    · exact .inr ⟨o, fun i m nx ⟨c, _, e, _⟩ => e ▸ .tail _ (h c.1)⟩
  · rintro i v m₁ nx s₁ own hv hoff ⟨⟨c, o1⟩, ⟨hP, v1, hv1⟩, rfl, h1, h2⟩ F₁ N₁ hos hg
    dsimp only at hP hv1 hoff N₁
    have hcell : s₁.heap.IsCell cA v1 := ⟨o1, (N₁ _ (.head _)).1, hv1⟩
    refine wpAny_assign_Name (wpAny_storeName_cell hkf hx hxc hcell fun h' hc' hs' => ?_)
    obtain ⟨o2, ho2, hd2⟩ := hc'
    have hcL : cA ≠ env.locals := (N₁ _ (.head _)).2.1
    have hcN : h₀.get? cA = none := (N₁ _ (.head _)).2.2
    have hF : Fr h₀ env.locals h' m₁ := ⟨F₁.ns.at' fun o e => (hs'.2 _ (Ne.symm hcL)).trans e, fun b o e => (hs'.2 b (fun q => by rw [q, hcN] at e; cases e)).trans (F₁.keep b o e), F₁.above⟩
    have hN : News h₀ env.locals h' ((cA, o2) :: Led c ++ own) := by
      intro p hp
      rcases List.mem_append.mp hp with hp | hp
      · rcases List.mem_cons.mp hp with rfl | hp
        · exact ⟨ho2, hcL, hcN⟩
        · have := N₁ p (List.mem_append_left _ (.tail _ hp))
          exact ⟨(hs'.2 _ (hcA c p hp)).trans this.1, this.2⟩
      · have := N₁ p (List.mem_append_right _ hp)
        exact ⟨(hs'.2 _ (fun e => hoff p hp cA (.head _) e)).trans this.1, this.2⟩
    exact turn i v c o2 m₁ _ own hv hP hd2 hoff (frMap hF h1 h2) hN hos hg
  · rintro m₁ nx s₁ ⟨⟨c, o1⟩, ⟨hP, _⟩, rfl, h1, h2⟩ F₁ N₁ hos hg
    exact done c o1 m₁ s₁ hP (frMap F₁ h1 h2) N₁ hos hg
end
end Mine
end
section
theorem Mine.offC8 : True := by
  w_top off
  trivial
open PySem PySem.W PyProof.Rows PySem.Calls PySem.Spec
set_option maxRecDepth 100000
namespace Mine
section
variable {prog : Program} {w : World} {A : Around} {s : Shared} {env : Env} {h₀ : Heap}
/-- for x, y in a list of pairs: lists of two, all of them in the ledger, which the loop leaves alone -/
theorem iter_pairs {body orelse : List Stmt} {Q : Flow → Shared → Prop} {l : Addr} {vs : List Value} {m₀ : Str → Option Value} {x y : Str} {px py pt : Pos} {kx : Nat} {news : List (Addr × Obj)} {lo : Obj} (stored : List Str) {L : Addr}
    (hh : A.handled = none) (hl : s.heap.IsList l vs.toArray) (hlL : l ≠ L) (hlm : (l, lo) ∈ news)
    (F : Fr h₀ L s.heap m₀) (N : News h₀ L s.heap news) (G : AllBare s.gens) (hL : env.locals = L)
    (R : Nat → Value → Value → Prop) (hp : ∀ (i : Nat) (v : Value), vs[i]? = some v → ∃ (p : Addr) (a b : Value) (n : Nat), v = Value.ref p ∧ (p, listOf #[a, b] n) ∈ news ∧ R i a b)
    (hx : env.kindOf x = some .local) (hy : env.kindOf y = some .local) (hsc : (env.scope.kind == .class || (env.scope.kind == .module && env.locals != env.globals)) = false)
    (turn : ∀ (i : Nat) (a b : Value) (u : Str → Option Value) s₁ own, R i a b → OwnOff own (news.map (·.1)) →
      Fr h₀ L s₁.heap (fun z => if z = y then some b else if z = x then some a else if stored.contains z then u z else m₀ z) → News h₀ L s₁.heap (news ++ own) → s₁.os = s.os → AllBare s₁.gens →
      wpAny (model prog w) A (execs body env) (TurnEnd h₀ L own (fun m nx => nx = news ∧ ∀ z, stored.contains z = false → m z = m₀ z) s Q) noE s₁)
    (done : ∀ (u : Str → Option Value) s₁, Fr h₀ L s₁.heap (fun z => if stored.contains z then u z else m₀ z) → News h₀ L s₁.heap news → s₁.os = s.os → AllBare s₁.gens →
      wpAny (model prog w) A (execs orelse env) Q noE s₁) :
    wpAny (model prog w) A (pyIter (.ref l)) (fun it s₂ => codeAny (model prog w) A (.forLoop (.Tuple [.Name x px, .Name y py] kx pt) it body orelse env) (fun r s' => match r with | .ok f => Q f s' | .error _ => False) s₂) noE s := by
  subst hL
  have same : ∀ {m : Str → Option Value}, (∀ z, stored.contains z = false → m z = m₀ z) → (fun z => if stored.contains z then m z else m₀ z) = m := by
    intro m h
    funext z
    cases h3 : stored.contains z with
    | true => simp
    | false => simp only [Bool.false_eq_true, if_false]; exact (h z h3).symm
  refine iter_list (h₀ := h₀) (m₀ := m₀) (news₀ := news) (fun i m nx => nx = news ∧ ∀ z, stored.contains z = false → m z = m₀ z) hh hl hlL (.inr ⟨lo, fun i m nx ⟨e, _⟩ => e ▸ hlm⟩) F N G ⟨rfl, fun _ _ => rfl⟩ ?_ ?_
  · rintro i v m₁ nx s₁ own hv hoff ⟨rfl, h2⟩ F₁ N₁ hos hg
    obtain ⟨p, a, b, n, rfl, hm, hR⟩ := hp i v hv
    refine kun_list F₁ N₁ (N₁.isList (List.mem_append_left _ hm)) hh rfl rfl fun h₃ F₃ N₃ => ?_
    show wpAny _ _ (do holding [b] (assign (.Name x px) env a); do holding [] (assign (.Name y py) env b); pure ()) _ _ _
    refine wpAny_bind (wpAny_holding (wpAny_assign_Name (wpAny_storeName_local hx F₃.ns (fun h₄ hn₄ hs₄ => ?_) hsc)))
    refine wpAny_bind (wpAny_holding (wpAny_assign_Name (wpAny_storeName_local hy hn₄ (fun h₅ hn₅ hs₅ => wpAny_pure ?_) hsc)))
    have F₅ := (F₃.set hn₄ hs₄).set hn₅ hs₅
    have N₅ := (N₃.set hs₄).set hs₅
    refine turn i a b m₁ _ own hR hoff ?_ N₅ hos hg
    have e := same h2
    have e2 : (fun z => if z = y then some b else if z = x then some a else if stored.contains z then m₁ z else m₀ z) = fun z => if z = y then some b else if z = x then some a else m₁ z := by
      funext z
      have := congrFun e z
      rw [this]
    rw [e2]
    exact F₅
  · rintro m₁ nx s₁ ⟨rfl, h2⟩ F₁ N₁ hos hg
    refine done m₁ s₁ ?_ N₁ hos hg
    rw [same h2]
    exact F₁
end
end Mine
end
section
local macro_rules | `(tactic| walk_at "MINE S_tab 0") => `(tactic| skip)
theorem Mine.offStab : True := by
  w_top off
  trivial
open PySem
set_option maxRecDepth 100000
namespace Mine

def Rises (xs : Array Nat) : Prop := xs.toList.Pairwise (· < ·)
/-- the table of a set that has only been added to -/
structure TblOk (led : Bool) (t : SetTable) : Prop where
  led : t.led = led
  dum : t.dummies = #[]
  rise : Rises t.place

theorem rises_lt {xs : Array Nat} (hr : Rises xs) {i k : Nat} (h : i < k) (hk : k < xs.size) : xs.getD i 0 < xs.getD k 0 := by
  have h1 := List.pairwise_iff_getElem.mp hr i k (by rw [Array.length_toList]; omega) (by rw [Array.length_toList]; exact hk) h
  simp only [Array.getElem_toList] at h1
  rw [Array.getD_eq_getD_getElem?, Array.getD_eq_getD_getElem?, Array.getElem?_eq_getElem (show i < xs.size by omega), Array.getElem?_eq_getElem hk]
  exact h1
theorem getD_any {xs : Array Nat} {i a b : Nat} (h : i < xs.size) : xs.getD i a = xs.getD i b := by
  rw [Array.getD_eq_getD_getElem?, Array.getD_eq_getD_getElem?, Array.getElem?_eq_getElem h]
  rfl
/-- p parts what is below j from what is not -/
def Parts (xs : Array Nat) (j p : Nat) : Prop := p ≤ xs.size ∧ (∀ i, i < p → xs.getD i 0 < j) ∧ ∀ i, p ≤ i → i < xs.size → j ≤ xs.getD i 0
theorem parts_unique {xs : Array Nat} {j p q : Nat} (hp : Parts xs j p) (hq : Parts xs j q) : p = q := by
  rcases Nat.lt_trichotomy p q with h | h | h
  · have h1 := hq.2.1 p h
    have h2 := hp.2.2 p (Nat.le_refl _) (Nat.lt_of_lt_of_le h hq.1)
    omega
  · exact h
  · have h1 := hp.2.1 q h
    have h2 := hq.2.2 q (Nat.le_refl _) (Nat.lt_of_lt_of_le h hp.1)
    omega
theorem below_go {xs : Array Nat} {j : Nat} (hr : Rises xs) : ∀ (fuel lo hi : Nat), hi - lo ≤ fuel → lo ≤ hi → hi ≤ xs.size → (∀ i, i < lo → xs.getD i 0 < j) → (∀ i, hi ≤ i → i < xs.size → j ≤ xs.getD i 0) →
    Parts xs j (SetTable.below.go xs j fuel lo hi) := by
  intro fuel
  induction fuel with
  | zero =>
    intro lo hi h1 h2 h3 h4 h5
    have : lo = hi := by omega
    subst this
    exact ⟨h3, h4, h5⟩
  | succ fuel ih =>
    intro lo hi h1 h2 h3 h4 h5
    unfold SetTable.below.go
    split
    · rename_i hlt
      have hm : (lo + hi) / 2 < hi := by omega
      have hm2 : lo ≤ (lo + hi) / 2 := by omega
      have hms : (lo + hi) / 2 < xs.size := by omega
      dsimp only
      rw [getD_any (b := 0) hms]
      by_cases hc : xs.getD ((lo + hi) / 2) 0 < j
      · rw [if_pos hc]
        refine ih ((lo + hi) / 2 + 1) hi (by omega) (by omega) h3 (fun i hi' => ?_) h5
        rcases Nat.lt_or_ge i ((lo + hi) / 2) with h | h
        · exact Nat.lt_trans (rises_lt hr h hms) hc
        · have : i = (lo + hi) / 2 := by omega
          rw [this]; exact hc
      · rw [if_neg hc]
        refine ih lo ((lo + hi) / 2) (by omega) (by omega) (by omega) h4 (fun i hi' his => ?_)
        rcases Nat.lt_or_ge ((lo + hi) / 2) i with h | h
        · have := rises_lt hr h his
          omega
        · have : i = (lo + hi) / 2 := by omega
          rw [this]; omega
    · have : lo = hi := by omega
      subst this
      exact ⟨h3, h4, h5⟩
theorem below_parts {xs : Array Nat} (hr : Rises xs) (j : Nat) : Parts xs j (SetTable.below xs j) :=
  below_go hr _ _ _ (Nat.le_refl _) (Nat.zero_le _) (Nat.le_refl _) (fun i h => absurd h (Nat.not_lt_zero _)) (fun i h h' => absurd h' (Nat.not_lt.mpr h))
theorem below_zero {xs : Array Nat} (hr : Rises xs) : SetTable.below xs 0 = 0 :=
  parts_unique (below_parts hr 0) ⟨Nat.zero_le _, fun i h => absurd h (Nat.not_lt_zero _), fun i _ _ => Nat.zero_le _⟩
theorem below_next {xs : Array Nat} (hr : Rises xs) {i : Nat} (h : i < xs.size) : SetTable.below xs (xs.getD i 0 + 1) = i + 1 := by
  refine parts_unique (below_parts hr _) ⟨h, fun k hk => ?_, fun k hk hk' => rises_lt hr hk hk'⟩
  rcases Nat.lt_or_ge k i with h1 | h1
  · have := rises_lt hr h1 h; omega
  · have : k = i := by omega
    rw [this]; omega
theorem insertAt_list {α : Type} (xs : Array α) (p : Nat) (x : α) (hp : p ≤ xs.size) : (SetTable.insertAt xs p x).toList = xs.toList.take p ++ x :: xs.toList.drop p := by
  unfold SetTable.insertAt
  simp only [Array.toList_append, Array.toList_push, Array.toList_extract, List.extract_eq_take_drop]
  simp [List.append_assoc]
  rw [List.take_of_length_le (by simp)]
theorem rises_insert {xs : Array Nat} (hr : Rises xs) {j : Nat} (hn : xs[SetTable.below xs j]? ≠ some j) : Rises (SetTable.insertAt xs (SetTable.below xs j) j) := by
  obtain ⟨hp, h1, h2⟩ := below_parts hr j
  generalize SetTable.below xs j = p at *
  unfold Rises
  rw [insertAt_list _ _ _ hp]
  have key : ∀ b ∈ xs.toList.drop p, j < b := by
    intro b hb
    obtain ⟨k, hk, rfl⟩ := List.mem_iff_getElem.mp hb
    rw [List.length_drop, Array.length_toList] at hk
    have hks : p + k < xs.size := by omega
    have e : (xs.toList.drop p)[k]'(by rw [List.length_drop, Array.length_toList]; exact hk) = xs.getD (p + k) 0 := by
      rw [List.getElem_drop, Array.getElem_toList, Array.getD_eq_getD_getElem?, Array.getElem?_eq_getElem hks]; rfl
    rw [e]
    have h3 := h2 p (Nat.le_refl _) (by omega)
    have hne : xs.getD p 0 ≠ j := by
      intro e
      apply hn
      rw [Array.getElem?_eq_getElem (show p < xs.size by omega)]
      rw [Array.getD_eq_getD_getElem?, Array.getElem?_eq_getElem (show p < xs.size by omega)] at e
      exact congrArg some e
    rcases Nat.eq_zero_or_pos k with rfl | hk0
    · rw [Nat.add_zero]; omega
    · have := rises_lt hr (show p < p + k by omega) hks
      omega
  refine List.pairwise_append.mpr ⟨List.Pairwise.take hr, List.pairwise_cons.mpr ⟨key, List.Pairwise.drop hr⟩, ?_⟩
  intro a ha b hb
  have haj : a < j := by
    obtain ⟨k, hk, rfl⟩ := List.mem_iff_getElem.mp ha
    rw [List.length_take, Array.length_toList] at hk
    have hks : k < xs.size := by omega
    have e : (xs.toList.take p)[k]'(by rw [List.length_take, Array.length_toList]; exact hk) = xs.getD k 0 := by
      rw [List.getElem_take, Array.getElem_toList, Array.getD_eq_getD_getElem?, Array.getElem?_eq_getElem hks]; rfl
    rw [e]
    exact h1 k (by omega)
  rcases List.mem_cons.mp hb with rfl | hb
  · exact haj
  · exact Nat.lt_trans haj (key b hb)
theorem has_nil (j : Nat) : SetTable.has #[] j = false := by simp [SetTable.has]
theorem slot_cases {t : SetTable} (hd : t.dummies = #[]) (j : Nat) : t.slot j ≠ .dummy ∧ (t.slot j = .empty → t.place[SetTable.below t.place j]? ≠ some j) := by
  unfold SetTable.slot
  rw [hd, has_nil]
  dsimp only
  split
  · rename_i h
    exact ⟨by simp, by simp⟩
  · rename_i h
    exact ⟨by simp, fun _ e => h (by rw [e]; exact beq_self_eq_true _)⟩
theorem probe_go {t : SetTable} (hd : t.dummies = #[]) (f : Nat → Int) (h : Int) : ∀ (fuel : Nat) (p : SetTable.Probe), p.dummy = none → ∀ j d, SetTable.probe.go t f h fuel p = some (.empty j d) → d = none ∧ t.slot j = .empty := by
  intro fuel
  induction fuel with
  | zero => intro p _ j d e; cases e
  | succ fuel ih =>
    intro p hp j d e
    unfold SetTable.probe.go at e
    cases hs : t.slot p.j with
    | empty =>
      rw [hs] at e
      simp only [Option.some.injEq, SetTable.Met.empty.injEq] at e
      obtain ⟨rfl, rfl⟩ := e
      exact ⟨hp, hs⟩
    | dummy => exact absurd hs (slot_cases hd p.j).1
    | live i =>
      rw [hs] at e
      dsimp only at e
      split at e
      · cases e
      · refine ih _ ?_ j d e
        unfold SetTable.advance
        split
        · exact hp
        · exact hp
theorem free_slot {t : SetTable} (hd : t.dummies = #[]) {h : Int} {j : Nat} {b : Bool} (e : t.freeSlot h = some (j, b)) : t.place[SetTable.below t.place j]? ≠ some j := by
  unfold SetTable.freeSlot at e
  split at e
  · rename_i k d hp
    simp only [Option.some.injEq, Prod.mk.injEq] at e
    obtain ⟨hdn, hs⟩ := probe_go hd _ _ _ _ rfl _ _ hp
    subst hdn
    obtain ⟨rfl, _⟩ := e
    exact (slot_cases hd _).2 hs
  · cases e
theorem rises_range (n : Nat) : Rises (Array.range n) := by
  unfold Rises
  rw [Array.toList_range]
  exact List.pairwise_lt_range
theorem standIn_ok {led : Bool} {t : SetTable} (h : TblOk led t) (n : Nat) : TblOk led (t.standIn n) := ⟨h.led, rfl, rises_range n⟩
theorem layNew_ok {led : Bool} {t : SetTable} (ht : TblOk led t) (es : Array (Int × Value)) (h : Int) (x : Value) : TblOk led (layNew t es h x).2.1 := by
  unfold layNew
  split
  · rename_i slot b e
    have hf := free_slot ht.dum e
    have hput : TblOk led (t.put slot).1 := by
      refine ⟨ht.led, ?_, rises_insert ht.rise hf⟩
      show (if SetTable.has t.dummies slot then _ else t.dummies) = #[]
      rw [ht.dum, has_nil]
      rfl
    show TblOk led (SetTable.orStandIn _ _)
    unfold SetTable.orStandIn
    split
    · exact hput
    · exact standIn_ok hput _
  · exact standIn_ok ht _
theorem laid_rise {mask finger moves : Nat} {led plain : Bool} {hashes : Array Int} {t : SetTable} {o : Array Nat} (e : SetTable.laid mask finger moves led plain hashes = some (t, o)) : TblOk led t := by
  unfold SetTable.laid at e
  cases hq : SetTable.layClean mask hashes with
  | none => rw [hq] at e; cases e
  | some owner =>
    rw [hq] at e
    simp only [Option.bind_eq_bind, Option.bind_some, pure, Option.some.injEq, Prod.mk.injEq] at e
    obtain ⟨rfl, _⟩ := e
    refine ⟨rfl, rfl, ?_⟩
    unfold Rises
    dsimp only
    rw [List.map_filterMap]
    have : ∀ (l : List Nat) (f : Nat → Option Nat), (∀ a b, f a = some b → b = a) → l.Pairwise (· < ·) → (l.filterMap f).Pairwise (· < ·) := by
      intro l f hf hl
      refine List.Pairwise.filterMap f ?_ hl
      intro a a' h b hb b' hb'
      rw [hf a b hb, hf a' b' hb']
      exact h
    refine this _ _ ?_ List.pairwise_lt_range
    intro a b h
    cases hg : owner.getD a none with
    | none => rw [hg] at h; cases h
    | some k => rw [hg] at h; cases h; rfl
theorem relayAll_ok {led : Bool} {t : SetTable} (ht : TblOk led t) (es : Array (Int × Value)) (n : Nat) : TblOk led (relayAll t es n).2.1 := by
  unfold relayAll
  split
  · rename_i t' order e
    dsimp only
    split
    · have := laid_rise e
      rw [ht.led] at this
      exact this
    · exact standIn_ok ht _
  · exact standIn_ok ht _
theorem fresh_ok (led : Bool) : TblOk led (SetTable.fresh 0 0 led) := ⟨rfl, rfl, List.Pairwise.nil⟩
theorem plain_ok {led : Bool} {t : SetTable} (h : TblOk led t) (b : Bool) : TblOk led { t with plain := b } := ⟨h.led, h.dum, h.rise⟩

theorem cons_erase_perm {α : Type} : ∀ {l : List α} {i : Nat} (h : i < l.length), (l[i] :: l.eraseIdx i).Perm l
  | a :: l, 0, _ => .refl _
  | a :: l, i + 1, h => by
    show (l[i]'(by simpa using h) :: a :: l.eraseIdx i).Perm (a :: l)
    exact (List.Perm.swap _ _ _).trans (List.Perm.cons a (cons_erase_perm (by simpa using h)))
theorem pick_go {α : Type} (next : Nat → Nat) : ∀ (fuel k : Nat) (left : List α) (out : Array α), left.length = fuel → (pickOrder.go next fuel k left out).toList.Perm (out.toList ++ left) := by
  intro fuel
  induction fuel with
  | zero =>
    intro k left out h
    rw [List.length_eq_zero_iff.mp h]
    unfold pickOrder.go
    rw [List.append_nil]
  | succ fuel ih =>
    intro k left out h
    unfold pickOrder.go
    have hl : next k % left.length < left.length := Nat.mod_lt _ (by omega)
    rw [List.getElem?_eq_getElem hl]
    dsimp only
    refine (ih _ _ _ (by rw [List.length_eraseIdx]; split <;> omega)).trans ?_
    rw [Array.toList_push, List.append_assoc]
    refine List.Perm.append_left _ ?_
    show (left[next k % left.length] :: left.eraseIdx (next k % left.length)).Perm left
    exact cons_erase_perm hl
theorem pick_perm {α : Type} (next : Nat → Nat) (xs : Array α) : (pickOrder next xs).toList.Perm xs.toList := by
  have := pick_go next xs.size 0 xs.toList #[] (by simp)
  simpa [pickOrder] using this
/-- a list that holds all of a list without doubles and is no longer is that list, in some order -/
theorem perm_of_sub {l₁ : List Int} (h1 : l₁.Nodup) : ∀ {l₂ : List Int}, (∀ a ∈ l₁, a ∈ l₂) → l₂.length ≤ l₁.length → l₁.Perm l₂ := by
  induction l₁ with
  | nil =>
    intro l₂ _ h
    rw [List.length_nil] at h
    rw [List.length_eq_zero_iff.mp (Nat.le_zero.mp h)]
  | cons a l ih =>
    intro l₂ h2 h3
    have ha : a ∈ l₂ := h2 a (.head _)
    refine List.Perm.trans ?_ (List.perm_cons_erase ha).symm
    refine List.Perm.cons a (ih (List.nodup_cons.mp h1).2 (fun b hb => ?_) ?_)
    · refine (List.mem_erase_of_ne ?_).mpr (h2 b (.tail _ hb))
      rintro rfl
      exact (List.nodup_cons.mp h1).1 hb
    · rw [List.length_erase_of_mem ha]
      simp only [List.length_cons] at h3
      omega
end Mine
end
section
theorem Mine.offSset : True := by
  w_top off
  trivial
open PySem PySem.W PyProof.Rows PySem.Calls PySem.Spec
set_option maxRecDepth 100000
namespace Mine
section
variable {prog : Program} {w : World} {A : Around} {E : Value → Shared → Prop} {s : Shared}

def byText (w : World) : Bool := w.params.followText "set-order"
abbrev setObj (es : Array (Int × Value)) (ep : Nat) (t : SetTable) : Obj := { cls := .type "set", dict := none, data := .set es ep t }
/-- a set of ints made by adding alone: what it holds, and its table -/
def SetG (prog : Program) (w : World) (h : Heap) (a : Addr) (S : List Int) : Prop := ∃ es ep t, h.get? a = some (setObj es ep t) ∧ ElemsOf (intKind prog w) es.toList ∧
  (∀ k, k ∈ S ↔ ∃ e ∈ es.toList, (intKind prog w).is k e.2 = true) ∧ es.size = S.length ∧ t.fits es.size = true ∧ TblOk (!byText w) t

def addTo (S : List Int) (k : Int) : List Int := if k ∈ S then S else S ++ [k]
theorem addTo_len (S : List Int) (k : Int) : (addTo S k).length ≤ S.length + 1 := by
  unfold addTo; split <;> simp
theorem addTo_nodup {S : List Int} (h : S.Nodup) (k : Int) : (addTo S k).Nodup := by
  unfold addTo
  split
  · exact h
  · rename_i hk
    refine List.nodup_append.mpr ⟨h, by simp, ?_⟩
    rintro a ha b hb rfl
    exact hk (List.mem_singleton.mp hb ▸ ha)
theorem mem_addTo {S : List Int} {k x : Int} : x ∈ addTo S k ↔ x ∈ S ∨ x = k := by
  unfold addTo
  split
  · rename_i h
    exact ⟨.inl, fun h' => h'.elim id fun e => e ▸ h⟩
  · simp

theorem putSet_eq (es es' : Array (Int × Value)) (ep : Nat) (t t' : SetTable) : Obj.putSet es' t' (setObj es ep t) = setObj es' (ep + 1) t' := rfl
theorem storeG {a : Addr} {es es' : Array (Int × Value)} {ep : Nat} {t t' : SetTable} {Q : Unit → Shared → Prop} (ho : s.heap.get? a = some (setObj es ep t)) (hz : es'.size < scanBound)
    (h : ∀ h', Heap.SameBut a s.heap h' → h'.get? a = some (setObj es' (ep + 1) t') → Q () { s with heap := h' }) : wpAny (model prog w) A (storeSet a es' t') Q E s := by
  refine wpAny_storeSet_of ho rfl (h _ (Heap.SameBut.update ..) ?_) (fits_of_scanBound hz)
  have := Heap.get?_update_self (Obj.putSet es' t') ho rfl
  rwa [putSet_eq] at this
theorem gaveG {b : Bool} {Q : Unit → Shared → Prop} (h : Q () s) : wpAny (model prog w) A (match b with | true => rule "set.scan.the-table-gave-way" | false => pure ()) Q E s := by
  cases b
  · exact wpAny_pure h
  · exact wpAny_rule h

theorem addG {a : Addr} {S : List Int} {k : Int} {tk : Tok} {Q : Bool → Shared → Prop} (hS : SetG prog w s.heap a S) (hroom : S.length + 1 < scanBound)
    (h : ∀ b h', Heap.SameBut a s.heap h' → SetG prog w h' a (addTo S k) → Q b { s with heap := h' }) :
    wpAny (model prog w) A (setAddHashed a (.int k tk) ((intKind prog w).hash k)) Q E s := by
  obtain ⟨es, ep, t, ho, hel, hmem, hn, hf, ht⟩ := hS
  have hkey := intKind_is prog w k tk
  unfold setAddHashed setAddHashedIn
  refine wpAny_holding (wpAny_bind (wpAny_setState_of ho rfl hf ?_))
  dsimp only
  rw [byScan_of (knd := intKind prog w) rfl (by omega) hel]
  simp only [↓reduceIte]
  unfold setAddByScan
  refine wpAny_bind (wpAny_bind (wpAny_rule (wpAny_bind (wpAny_setScan_of hkey ho rfl hf hel ?_))))
  cases hr : List.findIdx? (fun e => (intKind prog w).is k e.2) es.toList with
  | some j =>
    dsimp only
    obtain ⟨hj, hpj, _⟩ := List.findIdx?_eq_some_iff_getElem.mp hr
    have hSk : k ∈ S := (hmem k).mpr ⟨es.toList[j], List.getElem_mem hj, hpj⟩
    have e : addTo S k = S := if_pos hSk
    refine wpAny_pure (wpAny_pure ?_)
    have := h false s.heap (Heap.SameBut.refl a s.heap) (by rw [e]; exact ⟨es, ep, t, ho, hel, hmem, hn, hf, ht⟩)
    obtain ⟨hp, g, d, tk, os⟩ := s
    exact this
  | none =>
    dsimp only
    have hSk : k ∉ S := by
      intro hk
      obtain ⟨e, he, hp⟩ := (hmem k).mp hk
      have := List.findIdx?_eq_none_iff.mp hr e he
      rw [hp] at this
      cases this
    have eS : addTo S k = S ++ [k] := if_neg hSk
    have hperm := layNew_perm t es ((intKind prog w).hash k) (.int k tk)
    have hfits := layNew_fits t es ((intKind prog w).hash k) (.int k tk)
    have hok := layNew_ok ht es ((intKind prog w).hash k) (.int k tk)
    generalize layNew t es ((intKind prog w).hash k) (.int k tk) = L at hperm hfits hok ⊢
    obtain ⟨es1, t1, wasDummy, gave⟩ := L
    dsimp only at hperm hfits hok ⊢
    rw [Array.toList_push] at hperm
    have hel1 : ElemsOf (intKind prog w) es1.toList := (hel.push hkey rfl).perm hperm
    have hmem1 : ∀ k', k' ∈ addTo S k ↔ ∃ e ∈ es1.toList, (intKind prog w).is k' e.2 = true := by
      intro k'
      rw [mem_addTo, hmem k']
      constructor
      · rintro (⟨e, he, hp⟩ | rfl)
        · exact ⟨e, hperm.mem_iff.mpr (List.mem_append_left _ he), hp⟩
        · exact ⟨_, hperm.mem_iff.mpr (List.mem_append_right _ (List.mem_singleton.mpr rfl)), hkey⟩
      · rintro ⟨e, he, hp⟩
        rcases List.mem_append.mp (hperm.mem_iff.mp he) with he | he
        · exact .inl ⟨e, he, hp⟩
        · rw [List.mem_singleton] at he
          subst he
          exact .inr ((intKind prog w).inj _ k' k hp hkey)
    have hsz1 : es1.size = (addTo S k).length := by
      rw [eS, ← Array.length_toList, hperm.length_eq, List.length_append, Array.length_toList, hn, List.length_append]; rfl
    have hb1 : es1.size < scanBound := by rw [hsz1, eS, List.length_append]; exact hroom
    refine wpAny_bind (gaveG ?_)
    have hfin : ∀ t2 : SetTable, t2.fits es1.size = true → TblOk (!byText w) t2 → ∀ g : Bool → Sem Unit, (∀ (b : Bool) (s₁ : Shared) (Q' : Unit → Shared → Prop), Q' () s₁ → wpAny (model prog w) A (g b) Q' E s₁) → wpAny (model prog w) A (do
        storeSet a es1 t2
        if (!wasDummy && t2.tooFull) = true then do
            g (relayAll t2 es1 (SetTable.grown es1.size)).2.2
            storeSet a (relayAll t2 es1 (SetTable.grown es1.size)).1 (relayAll t2 es1 (SetTable.grown es1.size)).2.1
            pure (some true)
          else pure (some true)) (fun r s' => ∃ h', r = some true ∧ s' = { s with heap := h' } ∧ Heap.SameBut a s.heap h' ∧ SetG prog w h' a (addTo S k)) E s := by
      intro t2 hf2 hok2 g hg
      refine wpAny_bind (storeG ho hb1 fun h' hsb ho' => ?_)
      split
      · have hp := relayAll_perm t2 es1 (SetTable.grown es1.size)
        have hfr := relayAll_fits t2 es1 (SetTable.grown es1.size)
        have hokr := relayAll_ok hok2 es1 (SetTable.grown es1.size)
        generalize relayAll t2 es1 (SetTable.grown es1.size) = R at hp hfr hokr ⊢
        obtain ⟨es2, t3, gave2⟩ := R
        dsimp only at hp hfr hokr ⊢
        have hsz : es2.size = es1.size := by rw [← Array.length_toList, hp.length_eq, Array.length_toList]
        refine wpAny_bind (hg _ _ _ (wpAny_bind (storeG (s := { s with heap := h' }) ho' (by rw [hsz]; exact hb1) fun h2 hsb2 ho2 => ?_)))
        refine wpAny_pure ⟨h2, rfl, rfl, hsb.trans hsb2, es2, _, t3, ho2, hel1.perm hp, fun k' => (hmem1 k').trans ⟨fun ⟨e, he, q⟩ => ⟨e, hp.mem_iff.mpr he, q⟩, fun ⟨e, he, q⟩ => ⟨e, hp.mem_iff.mp he, q⟩⟩, by rw [hsz]; exact hsz1, hfr, hokr⟩
      · exact wpAny_pure ⟨h', rfl, rfl, hsb, es1, _, t2, ho', hel1, hmem1, hsz1, hf2, hok2⟩
    have hg : ∀ (b : Bool) (s₁ : Shared) (Q' : Unit → Shared → Prop), Q' () s₁ → wpAny (model prog w) A (match b with | true => rule "set.scan.the-table-gave-way" | false => pure ()) Q' E s₁ := fun b s₁ Q' hq => gaveG hq
    have hend : ∀ (r : Option Bool) (s' : Shared), (∃ h', r = some true ∧ s' = { s with heap := h' } ∧ Heap.SameBut a s.heap h' ∧ SetG prog w h' a (addTo S k)) →
        wpAny (model prog w) A (match r with | some added => pure added | none => setAddHashedIn a (.int k tk) ((intKind prog w).hash k) 99999) Q E s' := by
      rintro r s' ⟨h', rfl, rfl, hsb, hG⟩
      exact wpAny_pure (h true h' hsb hG)
    split
    · rw [hashByValue_scannable 8 rfl]
      refine wpAny_bind (wpAny_pure ?_)
      exact wpAny_mono (hfin t1 hfits hok _ hg) hend fun _ _ e => e
    · refine wpAny_bind (wpAny_pure ?_)
      exact wpAny_mono (hfin t1 hfits hok _ hg) hend fun _ _ e => e
end
end Mine
end
section
local macro_rules | `(tactic| walk_at "MINE S_call 0") => `(tactic| skip)
theorem Mine.offScall : True := by
  w_top off
  trivial
open PySem PySem.W PyProof.Rows PySem.Calls PySem.Spec
set_option maxRecDepth 100000
namespace Mine
section
variable {prog : Program} {w : World} {A : Around} {E : Value → Shared → Prop} {s : Shared}

theorem SetG.at {h h' : Heap} {a : Addr} {S : List Int} (x : SetG prog w h a S) (e : ∀ o, h.get? a = some o → h'.get? a = some o) : SetG prog w h' a S :=
  let ⟨es, ep, t, ho, r⟩ := x; ⟨es, ep, t, e _ ho, r⟩

/-- the first k of the list, without doubles -/
def seenOf (ns : List Int) (k : Nat) : List Int := (ns.take k).foldl addTo []
theorem seenOf_next {ns : List Int} {i : Nat} {n : Int} (h : ns[i]? = some n) : seenOf ns (i + 1) = addTo (seenOf ns i) n := by
  simp [seenOf, List.take_add_one, h, List.foldl_append]
theorem fold_len : ∀ (ns S : List Int), (ns.foldl addTo S).length ≤ S.length + ns.length
  | [], S => by simp
  | n :: r, S => by
    rw [List.foldl_cons]
    have := fold_len r (addTo S n)
    have := addTo_len S n
    simp only [List.length_cons]
    omega
theorem seenOf_len (ns : List Int) (k : Nat) : (seenOf ns k).length ≤ ns.length := by
  have h1 := fold_len (ns.take k) []
  have h2 : (ns.take k).length ≤ ns.length := by rw [List.length_take]; omega
  simp only [List.length_nil] at h1
  unfold seenOf
  omega

theorem updateG {I : Addr} {fp wr : List Addr} {n : Nat} {P : Nat → Value → Prop} {St : Nat → Heap → Prop} {R : Result → Shared → Prop}
    (W : Walks prog w A.in1 I fp wr n P St) (a : Addr) (ha : a ∉ fp) {ns : List Int} (hlen : n = ns.length) (hval : ∀ i v, P i v → ∃ x t, v = .int x t ∧ ns[i]? = some x) (hb : n + 1 < scanBound) :
    ∀ (k i : Nat) (s : Shared), n - i = k → i ≤ n → St i s.heap → SetG prog w s.heap a (seenOf ns i) →
      (∀ h' tk, SetG prog w h' a (seenOf ns n) → (∀ b o, b ∉ wr → b ≠ a → s.heap.get? b = some o → h'.get? b = some o) → R (.ok (.ret .none)) { s with heap := h', toks := tk }) →
      codeAny (model prog w) A (.builtin "set.update.loop" ⟨[.ref a, .ref I], []⟩) R s := by
  have haw : a ∉ wr := fun h => ha (W.sub _ h)
  intro k
  induction k with
  | zero =>
    intro i s hk hi hst hS hR
    have hin : i = n := by omega
    subst hin
    refine codeAny_builtin F.entry_set_update_loop ?_
    rw [Around.under_plainId F.plain_set_update_loop _]
    show wpAny _ A.in1 (pyNext (.ref I) >>= _) _ _ s
    refine wpAny_bind (W.done s _ _ hst fun h' tk hm => ?_)
    show wpAny _ A.in1 (ret Value.none) _ _ _
    exact wpAny_pure (hR h' tk (hS.at fun o e => hm _ o haw e) fun b o hb _ e => hm b o hb e)
  | succ k ih =>
    intro i s hk hi hst hS hR
    have hlt : i < n := by omega
    refine codeAny_builtin F.entry_set_update_loop ?_
    rw [Around.under_plainId F.plain_set_update_loop _]
    show wpAny _ A.in1 (pyNext (.ref I) >>= _) _ _ s
    refine wpAny_bind (W.item i s _ _ hlt hst fun v h1 tk1 hP hst' hm => ?_)
    obtain ⟨x, t, rfl, hx⟩ := hval i v hP
    have hS' : SetG prog w h1 a (seenOf ns i) := hS.at fun o e => hm _ o haw e
    show wpAny _ A.in1 (holding [Value.int x t] (setAdd a (.int x t)) >>= _) _ _ _
    refine wpAny_bind (wpAny_holding ?_)
    unfold setAdd
    refine wpAny_holding (wpAny_bind ((intKind prog w).pyHash (k := x) (intKind_is _ _ _ _) ?_))
    have hroom : (seenOf ns i).length + 1 < scanBound := by have := seenOf_len ns i; omega
    refine addG (s := { s with heap := h1, toks := tk1 + 1 }) hS' hroom fun b h2 hsb hS2 => ?_
    rw [← seenOf_next hx] at hS2
    refine wpAny_pure ⟨plainId_quiet F.plain_set_update_loop _, ih (i + 1) _ (by omega) hlt (W.frame _ _ _ hst' fun b hb o e => ?_) hS2 fun h3 tk3 hS3 hk3 => ?_⟩
    · show h2.get? b = some o
      rw [hsb.2 b (fun h : b = a => ha (h ▸ hb))]
      exact e
    · refine hR h3 tk3 hS3 fun b o hb hba e => hk3 b o hb hba ?_
      show h2.get? b = some o
      rw [hsb.2 b hba]
      exact hm b o hb e

theorem set_new_G (a : Value) {Q₁ : Value → Shared → Prop}
    (h : Q₁ (.ref s.heap.objs.size) { s with heap := s.heap.push (setObj #[] 0 (.fresh 0 0 (!byText w))) }) :
    codeAny (model prog w) A (.call (.builtin "set.__new__") ⟨[.type "set", a], []⟩) (wants Q₁ E) s := by
  refine codeAny_of_tree ?_
  show wpAny _ A.in1 (do checkBuiltinCall "set.__new__" ⟨[.type "set", a], []⟩; again (.builtin "set.__new__" ⟨[.type "set", a], []⟩)) _ _ s
  refine wpAny_bind (wpAny_of_eq (PySem.F.newCall_set_1 a) (wpAny_pure ⟨plainId_quiet PySem.F.plain_set_new _, codeAny_builtin PySem.F.entry_set_new ?_⟩))
  rw [Around.under_plainId PySem.F.plain_set_new _]
  unfold Builtin.«set.__new__» Builtin.Frozenset.newClass
  have hsub := sub_set_self
  obtain ⟨hp, g, d, tk, os⟩ := s
  dsimp only
  wp_walk
  refine wpAny_askSetting (wpAny_pure ?_)
  dsimp only
  simp only [newObj]
  refine wpAny_bind (wpAny_alloc (wpAny_pure ?_))
  exact wpAny_pure h

set_option maxHeartbeats 3200000 in
theorem call_set_G {l : Addr} {vs : List Value} {ns : List Int} {Q : Value → Shared → Prop}
    (hh : A.handled = none) (hl : s.heap.IsList l vs.toArray) (hi : IntsAre vs ns) (hb : ns.length + 1 < scanBound)
    (h : ∀ (h' : Heap) (tk : Nat), SetG prog w h' s.heap.objs.size (seenOf ns ns.length) →
      (∀ b o, s.heap.get? b = some o → h'.get? b = some o) → Q (.ref s.heap.objs.size) { s with heap := h', toks := tk }) :
    wpAny (model prog w) A (call (.type "set") [.ref l]) Q E s := by
  obtain ⟨c, tl, hmro⟩ := PySem.F.called_set.mro
  have hmade := PySem.F.called_set.made
  have hsub := PySem.F.called_set.sub
  refine wpAny_call (codeAny_of_tree ?_)
  show wpAny _ _ (callAny (.type "set") _) _ _ _
  refine wpAny_pure ⟨Code.quiet_builtin _ (by decide +kernel), codeAny_builtin PySem.F.entry_type_call ?_⟩
  rw [Around.under_plain (weight_type_call_type "set" [.ref l] []) rfl]
  have h1 := PySem.F.called_set.notType
  have h2 := PySem.F.called_set.canCreate
  have hct := PySem.F.typeCall_set_1 (.ref l)
  repeat (any_goals (first | assumption | wp_step))
  refine codeAny_mono (set_new_G (.ref l) (E := E) (Q₁ := fun obj s₁ => obj = .ref s.heap.objs.size ∧ s₁ = { s with heap := s.heap.push (setObj #[] 0 (.fresh 0 0 (!byText w))) }) ⟨rfl, rfl⟩) fun r s₁ hr => ?_
  cases r with
  | error e => exact hr
  | ok fl =>
    cases fl with
    | ret obj =>
      obtain ⟨rfl, rfl⟩ := hr
      generalize hled : (!byText w) = led
      have hS : (s.heap.push (setObj #[] 0 (.fresh 0 0 led))).get? s.heap.objs.size = some (setObj #[] 0 (.fresh 0 0 led)) := Heap.get?_push_size _ rfl
      have hT : Shared.TypeIs { s with heap := s.heap.push (setObj #[] 0 (.fresh 0 0 led)) } (.ref s.heap.objs.size) "set" := ⟨_, hS, rfl⟩
      have hli := PySem.F.called_set.init.lookup
      have hbi := PySem.F.called_set.init.bind (.ref s.heap.objs.size)
      repeat (any_goals (first | assumption | wp_step))
      refine codeAny_mono (codeAny_call_builtin (R := wants (fun r s₂ => r = .none ∧ ∃ h' tk, s₂ = { s with heap := h', toks := tk } ∧
          SetG prog w h' s.heap.objs.size (seenOf ns ns.length) ∧ (∀ b o, s.heap.get? b = some o → h'.get? b = some o)) E) PySem.F.called_set.init.plain PySem.F.entry_set_init (check_set_init_1 hT ?_)) fun r₂ s₂ hr₂ => ?_
      · obtain ⟨ol, hol, hcl, nl, hdl⟩ := id hl
        obtain ⟨ocls, odict, odata, oslots⟩ := ol
        simp only at hcl hdl
        subst hcl; subst hdl
        have hol' : (s.heap.push (setObj #[] 0 (.fresh 0 0 led))).get? l = some { cls := .type "list", dict := odict, data := .seq vs.toArray nl, slots := oslots } := Heap.get?_push_of_some _ hol
        have hsls := PySem.F.sub_list_set
        have hslf := PySem.F.sub_list_frozenset
        have hne : (Value.type "list" == Value.type "dict") = false := by decide
        have hl1 : (s.heap.push (setObj #[] 0 (.fresh 0 0 led))).IsList l vs.toArray := ⟨_, hol', rfl, nl, rfl⟩
        unfold Builtin.«set.__init__» noKeywords Builtin.Frozenset.updateFrom
        generalize hPI : pyIter = PI
        wp_walk
        subst hPI
        refine wpAny_pyIter_list hl1 ?_
        refine wpAny_bind (wpAny_runValue ?_)
        have hlS : l < s.heap.objs.size := Heap.lt_size hol
        have hh3 : A.in1.in1.in1.handled = none := by simp [hh]
        have hneI : l ≠ (s.heap.push (setObj #[] 0 (.fresh 0 0 led))).objs.size := by
          rw [Heap.size_push]; exact Nat.ne_of_lt (Nat.lt_succ_of_lt hlS)
        have hSf : s.heap.objs.size ∉ [(s.heap.push (setObj #[] 0 (.fresh 0 0 led))).objs.size, l] := by
          rw [Heap.size_push]; simp only [List.mem_cons, List.not_mem_nil, or_false, not_or]
          exact ⟨Nat.ne_of_lt (Nat.lt_succ_self _), Nat.ne_of_gt hlS⟩
        have hsz : vs.toArray.size = ns.length := by rw [List.size_toArray]; exact IntsAre.length hi
        refine updateG (Walks.list hh3 _ l hneI vs.toArray) s.heap.objs.size hSf (ns := ns) hsz (fun i v hv => ints_get hi (by simpa using hv)) (by rw [hsz]; exact hb) (vs.toArray.size - 0) 0 _ (by omega) (Nat.zero_le _)
          ⟨⟨_, Heap.get?_push_size _ rfl, rfl, rfl⟩, hl1.push _⟩ ?hS0 ?hR
        case hS0 =>
          refine ⟨#[], 0, _, Heap.get?_push_of_some _ hS, fun e he => by simp at he, fun k => by simp [seenOf], rfl, rfl, ?_⟩
          rw [hled]
          exact fresh_ok led
        case hR =>
          intro h' tk hS' hk
          rw [hsz] at hS'
          show wpAny _ _ _ _ _ _
          refine wpAny_pure ?_
          show wpAny _ _ (ret Value.none) _ _ _
          refine wpAny_pure ⟨rfl, h', tk, rfl, hS', fun b o e => ?_⟩
          have hb1 : b < s.heap.objs.size := Heap.lt_size e
          refine hk b o ?_ (Nat.ne_of_lt hb1) (Heap.get?_push_of_some _ (Heap.get?_push_of_some _ e))
          rw [Heap.size_push, List.mem_singleton]
          exact Nat.ne_of_lt (Nat.lt_succ_of_lt hb1)
      · cases r₂ with
        | error e => exact hr₂
        | ok fl₂ =>
          cases fl₂ with
          | ret r =>
            obtain ⟨rfl, h', tk, rfl, hS', hk'⟩ := hr₂
            repeat (any_goals (first | assumption | wp_step))
            exact h _ _ hS' hk'
          | _ => exact hr₂.elim
    | _ => exact hr.elim
end
end Mine
end
section
theorem Mine.offSiter : True := by
  w_top off
  trivial
open PySem PySem.W PyProof.Rows PySem.Calls PySem.Spec
set_option maxRecDepth 100000
namespace Mine
namespace SF
theorem owner_si : Manifest.owners.lookup (String.ofList ['r', 'o', 't', 'a', 'r', 'e', 't', 'i', '_', 't', 'e', 's'].reverse) = some Manifest.sig_set_iterator := by kernel_rfl
theorem slot_si_next : Slot "set_iterator" "__next__" "set_iterator.__next__" :=
  .of (owner := "set_iterator") (n := "__next__") (by rw [typeLookup_type, builtinLookup_eq_fast]; kernel_rfl) (by decide +kernel) (by decide +kernel) (by decide +kernel)
    (by first | exact .inl (by decide +kernel) | exact .inr (by decide +kernel)) (by rw [isSubtype_type]; kernel_rfl)
theorem entry_si_next : entryFor table "set_iterator.__next__" = some Builtin.«set_iterator.__next__» := entryFor_of_tree (by kernel_rfl)
theorem args_si_next (a : Value) : argsOk "set_iterator.__next__" ⟨[a], []⟩ := by
  unfold argsOk; rw [signature?_of (id := "set_iterator.__next__") (n := ['_', '_', 't', 'x', 'e', 'n', '_', '_']) (o := ['r', 'o', 't', 'a', 'r', 'e', 't', 'i', '_', 't', 'e', 's']) (by kernel_rfl) owner_si]; kernel_rfl
theorem slot_si_iter : Slot "set_iterator" "__iter__" "set_iterator.__iter__" :=
  .of (owner := "set_iterator") (n := "__iter__") (by rw [typeLookup_type, builtinLookup_eq_fast]; kernel_rfl) (by decide +kernel) (by decide +kernel) (by decide +kernel)
    (by first | exact .inl (by decide +kernel) | exact .inr (by decide +kernel)) (by rw [isSubtype_type]; kernel_rfl)
theorem entry_si_iter : entryFor table "set_iterator.__iter__" = some Builtin.«dict_keyiterator.__iter__» :=
  entryFor_alias (id' := "dict_keyiterator.__iter__") (by kernel_rfl) rfl (by decide +kernel) (by kernel_rfl)
theorem args_si_iter (a : Value) : argsOk "set_iterator.__iter__" ⟨[a], []⟩ := by
  unfold argsOk; rw [signature?_of (id := "set_iterator.__iter__") (n := ['_', '_', 'r', 'e', 't', 'i', '_', '_']) (o := ['r', 'o', 't', 'a', 'r', 'e', 't', 'i', '_', 't', 'e', 's']) (by kernel_rfl) owner_si]; kernel_rfl
theorem entry_set_iter : entryFor table "set.__iter__" = some Builtin.«frozenset.__iter__» :=
  entryFor_alias (id' := "frozenset.__iter__") (by kernel_rfl) rfl (by decide +kernel) (by kernel_rfl)
end SF
section
variable {prog : Program} {w : World} {A : Around} {E : Value → Shared → Prop} {s : Shared}

/-- the iterator over a set -/
abbrev itObj (first : Value) (i : Nat) (a : Addr) (n ep : Nat) : Obj := { cls := .type "set_iterator", dict := none, data := .fields #[first, .int i 0, .ref a, .int n 0, .int ep 0] }

theorem si_self {I a : Addr} {first : Value} {i n ep : Nat} {Q : Value → Shared → Prop} (ho : s.heap.get? I = some (itObj first i a n ep)) (h : Q (.ref I) s) : wpAny (model prog w) A (pyIter (.ref I)) Q E s := by
  have hT : s.TypeIs (.ref I) "set_iterator" := ⟨_, ho, rfl⟩
  refine wpAny_pyIter_slot hT SF.slot_si_iter (wpAny_call_entry SF.slot_si_iter hT SF.entry_si_iter ?_ (SF.args_si_iter _))
  show wpAny _ _ (ret (.ref I)) _ _ s
  exact wpAny_pure ⟨_, rfl, "set_iterator", _, hT, SF.slot_si_next.lookup, h⟩

theorem si_next {I a : Addr} {slot i n ep : Nat} {es : Array (Int × Value)} {t : SetTable} {x : Value} {nx : Nat} {Q : Option Value → Shared → Prop}
    (ho : s.heap.get? I = some (itObj (.int slot 0) i a n ep)) (ha : s.heap.get? a = some (setObj es ep t)) (hf : t.fits es.size = true) (hn : es.size = n)
    (hnext : ∀ (B : Around) (Q' : Option (Value × Nat) → Shared → Prop) (E' : Value → Shared → Prop), Q' (some (x, nx)) s → wpAny (model prog w) B (setNext a slot i ep) Q' E' s)
    (h : ∀ h', h'.get? I = some (itObj (.int nx 0) (i + 1) a n ep) → Heap.SameBut I s.heap h' → Q (some x) { s with heap := h' }) : wpAny (model prog w) A (pyNext (.ref I)) Q E s := by
  have hT : s.TypeIs (.ref I) "set_iterator" := ⟨_, ho, rfl⟩
  unfold pyNext
  refine wpAny_bind (wpAny_attempt (wpAny_callSpecial?_slot (name := Str.ofString "__next__") hT SF.slot_si_next
    (wpAny_call_entry SF.slot_si_next hT SF.entry_si_next ?_ (SF.args_si_next _))))
  unfold Builtin.«set_iterator.__next__»
  refine wpAny_bind (m := slotArgs "__next__" 0 _) (wpAny_pure ?_)
  dsimp only
  refine wpAny_bind (wpAny_fieldsOf ho rfl ?_)
  dsimp only
  refine wpAny_bind (wpAny_setEntries_of ha rfl hf ?_)
  rw [if_neg (by rw [hn]; simp)]
  refine wpAny_bind (hnext _ _ _ ?_)
  dsimp only
  refine wpAny_bind (wpAny_setField_rec ho (by simp) fun h1 ho1 hs1 => ?_)
  refine wpAny_bind (wpAny_setField_rec (s := { s with heap := h1 }) ho1 (by simp) fun h2 ho2 hs2 => ?_)
  refine wpAny_pure ⟨_, rfl, wpAny_pure (h _ ho2 (hs1.trans hs2))⟩

theorem si_stop {I a : Addr} {slot i n ep : Nat} {es : Array (Int × Value)} {t : SetTable} {Q : Option Value → Shared → Prop} (hh : A.handled = none)
    (ho : s.heap.get? I = some (itObj (.int slot 0) i a n ep)) (ha : s.heap.get? a = some (setObj es ep t)) (hf : t.fits es.size = true) (hn : es.size = n)
    (hnext : ∀ (B : Around) (Q' : Option (Value × Nat) → Shared → Prop) (E' : Value → Shared → Prop), Q' none s → wpAny (model prog w) B (setNext a slot i ep) Q' E' s)
    (h : ∀ h', Heap.ExtBut I s.heap h' → Q none { s with heap := h' }) : wpAny (model prog w) A (pyNext (.ref I)) Q E s := by
  have hT : s.TypeIs (.ref I) "set_iterator" := ⟨_, ho, rfl⟩
  unfold pyNext
  refine wpAny_bind (wpAny_attempt (wpAny_callSpecial?_slot (name := Str.ofString "__next__") hT SF.slot_si_next
    (wpAny_call_entry SF.slot_si_next hT SF.entry_si_next ?_ (SF.args_si_next _))))
  unfold Builtin.«set_iterator.__next__»
  refine wpAny_bind (m := slotArgs "__next__" 0 _) (wpAny_pure ?_)
  dsimp only
  refine wpAny_bind (wpAny_fieldsOf ho rfl ?_)
  dsimp only
  refine wpAny_bind (wpAny_setEntries_of ha rfl hf ?_)
  rw [if_neg (by rw [hn]; simp)]
  refine wpAny_bind (hnext _ _ _ ?_)
  dsimp only
  refine wpAny_bind (wpAny_setField_rec ho (by simp) fun h1 ho1 hs1 => ?_)
  show wpAny _ _ (newExc (.type "StopIteration") [] >>= _) _ _ _
  refine wpAny_bind ?_
  simp only [newExc, newTuple]
  refine wpAny_bind (wpAny_newObj_type ?_ (by size_fits))
  refine wpAny_bind (m := firstArgMember _ _) (wpAny_of_eq (a := Value.none) (by first | rfl | (simp only [firstArgMember]; rfl)) ?_)
  refine wpAny_newObj_type ?_ (by size_fits)
  simp only [raiseNew]
  refine wpAny_bind (wpAny_handled ?_)
  rw [show A.in1.handled = none from hh]
  refine wpAny_bind (wpAny_pure (wpAny_throw ?_))
  refine wpAny_bind (wpAny_isInstance (T := "StopIteration") (b := true) ⟨_, Heap.get?_push_size _ rfl, rfl⟩ isSubtype_stop ?_)
  exact wpAny_pure (h _ ((hs1.extBut.push _).push _))

theorem setNext_text {a : Addr} {slot i ep : Nat} {es : Array (Int × Value)} {t : SetTable} (hb : byText w = true) (ha : s.heap.get? a = some (setObj es ep t)) (hf : t.fits es.size = true)
    (B : Around) (Q : Option (Value × Nat) → Shared → Prop) (E : Value → Shared → Prop) (h : Q (((pickOrder (w.params.setOrder a ep) es)[i]?).map fun e => (e.2, slot)) s) : wpAny (model prog w) B (setNext a slot i ep) Q E s := by
  unfold setNext setsByText
  refine wpAny_bind (wpAny_setState_of ha rfl hf ?_)
  dsimp only
  refine wpAny_bind (wpAny_bind (wpAny_askSetting (wpAny_pure ?_)))
  have hb' : w.params.followText "set-order" = true := hb
  show wpAny _ _ (if w.params.followText "set-order" = true then _ else _) _ _ s
  rw [if_pos hb', if_neg (by simp)]
  unfold setWalk setsByText
  refine wpAny_bind (wpAny_bind (wpAny_setState_of ha rfl hf ?_))
  dsimp only
  refine wpAny_bind (wpAny_bind (wpAny_askSetting (wpAny_pure ?_)))
  show wpAny _ _ (if w.params.followText "set-order" = true then _ else _) _ _ s
  rw [if_pos hb']
  exact wpAny_bind (wpAny_askSetting (wpAny_pure (wpAny_pure h)))

theorem setNext_place {a : Addr} {slot i ep : Nat} {es : Array (Int × Value)} {t : SetTable} (hb : byText w = false) (hd : (!t.plain && decide (es.size > 1)) = false) (hl : t.led = true) (ha : s.heap.get? a = some (setObj es ep t)) (hf : t.fits es.size = true)
    (B : Around) (Q : Option (Value × Nat) → Shared → Prop) (E : Value → Shared → Prop)
    (h : Q (match es[SetTable.below t.place slot]?, t.place[SetTable.below t.place slot]? with | some (_, x), some j => some (x, j + 1) | _, _ => none) s) : wpAny (model prog w) B (setNext a slot i ep) Q E s := by
  unfold setNext setsByText
  refine wpAny_bind (wpAny_setState_of ha rfl hf ?_)
  dsimp only
  refine wpAny_bind (wpAny_bind (wpAny_askSetting (wpAny_pure ?_)))
  have hb' : w.params.followText "set-order" = false := hb
  show wpAny _ _ (if w.params.followText "set-order" = true then _ else _) _ _ s
  rw [hb', if_neg (by decide)]
  show wpAny _ _ (if (!t.plain && decide (es.size > 1)) = true then _ else _) _ _ s
  rw [hd, if_neg (by decide)]
  refine wpAny_bind ?_
  show wpAny _ _ (if (!t.led && !es.isEmpty) = true then _ else _) _ _ s
  rw [hl, if_neg (by simp)]
  exact wpAny_pure (wpAny_pure h)
end
end Mine
end
section
local macro_rules | `(tactic| walk_at "MINE S_col 0") => `(tactic| skip)
theorem Mine.offScol : True := by
  w_top off
  trivial
open PySem PySem.W PyProof.Rows PySem.Calls PySem.Spec
set_option maxRecDepth 100000
namespace Mine
section
variable {prog : Program} {w : World} {A : Around} {E : Value → Shared → Prop} {s : Shared}

theorem choose_any {M : Model} {src : Source} {n : Nat} {Q : Nat → Shared → Prop} (hn : n ≠ 0) (h : ∀ i d, i < n → Q i { s with drawn := d }) : wpAny M A (choose src n) Q E s :=
  fun Γ p hΓ => ⟨hn, h _ _ (Nat.mod_lt _ (Nat.pos_of_ne_zero hn))⟩
theorem draw_any {M : Model} {α : Type} : ∀ (n : Nat) (xs : List α) (s : Shared) (Q : List α → Shared → Prop), xs.length = n → (∀ ys d, ys.Perm xs → Q ys { s with drawn := d }) → wpAny M A (drawOrder n xs) Q E s
  | 0, xs, s, Q, hl, h => by
    rw [List.length_eq_zero_iff.mp hl] at h ⊢
    unfold drawOrder
    exact wpAny_pure (h [] s.drawn (.refl _))
  | n + 1, xs, s, Q, hl, h => by
    obtain ⟨x, r, rfl⟩ : ∃ x r, xs = x :: r := by
      cases xs with
      | nil => cases hl
      | cons x r => exact ⟨x, r, rfl⟩
    unfold drawOrder
    refine wpAny_bind (choose_any (by simp) fun i d hi => ?_)
    rw [List.getElem?_eq_getElem hi]
    dsimp only
    refine wpAny_bind (draw_any n _ _ _ (by rw [List.length_eraseIdx, if_pos hi, hl]; rfl) fun ys d' hp => wpAny_pure (h _ d' ?_))
    exact (List.Perm.cons _ hp).trans (cons_erase_perm hi)

abbrev drawnTup (ps : List Nat) : Obj := { cls := .type "tuple", dict := none, data := .seq (ps.map fun (i : Nat) => rawInt i).toArray }
theorem sd_next {I a T : Addr} {i n ep k : Nat} {ps : List Nat} {es : Array (Int × Value)} {t : SetTable} {e : Int × Value} {Q : Option Value → Shared → Prop}
    (ho : s.heap.get? I = some (itObj (.ref T) i a n ep)) (hT' : s.heap.get? T = some (drawnTup ps)) (ha : s.heap.get? a = some (setObj es ep t)) (hf : t.fits es.size = true) (hn : es.size = n)
    (hk : ps[i]? = some k) (he : es[k]? = some e)
    (h : ∀ h', h'.get? I = some (itObj (.ref T) (i + 1) a n ep) → Heap.SameBut I s.heap h' → Q (some e.2) { s with heap := h' }) : wpAny (model prog w) A (pyNext (.ref I)) Q E s := by
  have hT : s.TypeIs (.ref I) "set_iterator" := ⟨_, ho, rfl⟩
  unfold pyNext
  refine wpAny_bind (wpAny_attempt (wpAny_callSpecial?_slot (name := Str.ofString "__next__") hT SF.slot_si_next
    (wpAny_call_entry SF.slot_si_next hT SF.entry_si_next ?_ (SF.args_si_next _))))
  unfold Builtin.«set_iterator.__next__»
  refine wpAny_bind (m := slotArgs "__next__" 0 _) (wpAny_pure ?_)
  dsimp only
  refine wpAny_bind (wpAny_fieldsOf ho rfl ?_)
  dsimp only
  refine wpAny_bind (wpAny_setEntries_of ha rfl hf ?_)
  rw [if_neg (by rw [hn]; simp)]
  refine wpAny_bind (wpAny_seqItems hT' rfl ?_)
  have hg : ((ps.map fun (i : Nat) => rawInt i).toArray)[((i : Int)).toNat]? = some (Value.int (k : Int) 0) := by
    show ((ps.map fun (i : Nat) => rawInt i).toArray)[i]? = _
    rw [List.getElem?_toArray, List.getElem?_map, hk]
    rfl
  dsimp only
  rw [hg]
  dsimp only
  unfold setNextDrawn
  refine wpAny_bind (wpAny_bind (wpAny_setState_of ha rfl hf ?_))
  dsimp only
  rw [if_neg (by simp)]
  show wpAny _ _ (match es[k]? with | some (_, x) => _ | _ => _) _ _ s
  rw [he]
  obtain ⟨eh, ev⟩ := e
  refine wpAny_pure ?_
  refine wpAny_bind (wpAny_setField_rec ho (by simp) fun h1 ho1 hs1 => ?_)
  exact wpAny_pure ⟨_, rfl, wpAny_pure (h _ ho1 hs1)⟩

theorem sd_stop {I a T : Addr} {i n ep : Nat} {ps : List Nat} {es : Array (Int × Value)} {t : SetTable} {Q : Option Value → Shared → Prop} (hh : A.handled = none)
    (ho : s.heap.get? I = some (itObj (.ref T) i a n ep)) (hT' : s.heap.get? T = some (drawnTup ps)) (ha : s.heap.get? a = some (setObj es ep t)) (hf : t.fits es.size = true) (hn : es.size = n)
    (hk : ps[i]? = none)
    (h : ∀ h', Heap.ExtBut I s.heap h' → Q none { s with heap := h' }) : wpAny (model prog w) A (pyNext (.ref I)) Q E s := by
  have hT : s.TypeIs (.ref I) "set_iterator" := ⟨_, ho, rfl⟩
  unfold pyNext
  refine wpAny_bind (wpAny_attempt (wpAny_callSpecial?_slot (name := Str.ofString "__next__") hT SF.slot_si_next
    (wpAny_call_entry SF.slot_si_next hT SF.entry_si_next ?_ (SF.args_si_next _))))
  unfold Builtin.«set_iterator.__next__»
  refine wpAny_bind (m := slotArgs "__next__" 0 _) (wpAny_pure ?_)
  dsimp only
  refine wpAny_bind (wpAny_fieldsOf ho rfl ?_)
  dsimp only
  refine wpAny_bind (wpAny_setEntries_of ha rfl hf ?_)
  rw [if_neg (by rw [hn]; simp)]
  refine wpAny_bind (wpAny_seqItems hT' rfl ?_)
  have hg : ((ps.map fun (i : Nat) => rawInt i).toArray)[((i : Int)).toNat]? = none := by
    show ((ps.map fun (i : Nat) => rawInt i).toArray)[i]? = _
    rw [List.getElem?_toArray, List.getElem?_map, hk]
    rfl
  dsimp only
  rw [hg]
  dsimp only
  refine wpAny_bind (wpAny_setField_rec ho (by simp) fun h1 ho1 hs1 => ?_)
  refine wpAny_bind (wpAny_setField_rec (s := { s with heap := h1 }) ho1 (by simp) fun h2 ho2 hs2 => ?_)
  show wpAny _ _ (newExc (.type "StopIteration") [] >>= _) _ _ _
  refine wpAny_bind ?_
  simp only [newExc, newTuple]
  refine wpAny_bind (wpAny_newObj_type ?_ (by size_fits))
  refine wpAny_bind (m := firstArgMember _ _) (wpAny_of_eq (a := Value.none) (by first | rfl | (simp only [firstArgMember]; rfl)) ?_)
  refine wpAny_newObj_type ?_ (by size_fits)
  simp only [raiseNew]
  refine wpAny_bind (wpAny_handled ?_)
  rw [show A.in1.handled = none from hh]
  refine wpAny_bind (wpAny_pure (wpAny_throw ?_))
  refine wpAny_bind (wpAny_isInstance (T := "StopIteration") (b := true) ⟨_, Heap.get?_push_size _ rfl, rfl⟩ isSubtype_stop ?_)
  exact wpAny_pure (h _ (((hs1.trans hs2).extBut.push _).push _))

/-- the order in which a set is gone through -/
def InOrder (order : List (Int × Value)) (i : Nat) (v : Value) : Prop := ∃ e, order[i]? = some e ∧ v = e.2

theorem walks_text (hh : A.handled = none) (hb : byText w = true) {I a : Addr} (hne : a ≠ I) {es : Array (Int × Value)} {ep : Nat} {t : SetTable} (hf : t.fits es.size = true) :
    Walks prog w A I [I, a] [I] es.size (InOrder (pickOrder (w.params.setOrder a ep) es).toList) (fun i h => h.get? I = some (itObj (.int ((0 : Nat) : Int) 0) i a es.size ep) ∧ h.get? a = some (setObj es ep t)) where
  sub := fun b hb => by simp at hb; simp [hb]
  frame := fun _ _ _ st hk => ⟨hk I (by simp) _ st.1, hk a (by simp) _ st.2⟩
  item := fun i s Q E hi st hQ => by
    have hl : (pickOrder (w.params.setOrder a ep) es).size = es.size := by rw [← Array.length_toList, (pick_perm _ _).length_eq, Array.length_toList]
    have hi' : i < (pickOrder (w.params.setOrder a ep) es).size := by omega
    refine si_next st.1 st.2 hf rfl (x := (pickOrder (w.params.setOrder a ep) es)[i].2) (nx := 0) (fun B Q' E' hq => setNext_text hb st.2 hf B Q' E' ?_) fun h' ho' hs' => ?_
    · rw [Array.getElem?_eq_getElem hi']; exact hq
    · refine hQ _ h' s.toks ⟨_, by rw [Array.getElem?_toList, Array.getElem?_eq_getElem hi'], rfl⟩ ⟨ho', by rw [hs'.2 a hne]; exact st.2⟩ fun b o hb e => ?_
      rw [hs'.2 b (fun h => hb (by simp [h]))]; exact e
  done := fun s Q E st hQ => by
    have hl : (pickOrder (w.params.setOrder a ep) es).size = es.size := by rw [← Array.length_toList, (pick_perm _ _).length_eq, Array.length_toList]
    refine si_stop hh st.1 st.2 hf rfl (fun B Q' E' hq => setNext_text hb st.2 hf B Q' E' ?_) fun h' he' => hQ h' s.toks fun b o hb e => he' b o (fun h => hb (by simp [h])) e
    rw [Array.getElem?_eq_none (by omega)]; exact hq
  self := fun _ _ _ _ st hQ => si_self st.1 hQ

theorem walks_place (hh : A.handled = none) (hb : byText w = false) {I a : Addr} (hne : a ≠ I) {es : Array (Int × Value)} {ep : Nat} {t : SetTable} (hf : t.fits es.size = true) (hd : (!t.plain && decide (es.size > 1)) = false) (ht : TblOk (!byText w) t) :
    Walks prog w A I [I, a] [I] es.size (InOrder es.toList) (fun i h => h.get? I = some (itObj (.int ((if i = 0 then 0 else t.place.getD (i - 1) 0 + 1 : Nat) : Int) 0) i a es.size ep) ∧ h.get? a = some (setObj es ep t)) := by
  have hl : t.led = true := by rw [ht.led, hb]; rfl
  have hps : t.place.size = es.size := by
    simp only [SetTable.fits, Bool.and_eq_true, beq_iff_eq] at hf
    exact hf.1
  have hbel : ∀ i, i ≤ es.size → SetTable.below t.place (if i = 0 then 0 else t.place.getD (i - 1) 0 + 1) = i := by
    intro i hi
    by_cases h0 : i = 0
    · subst h0; exact below_zero ht.rise
    · rw [if_neg h0, below_next ht.rise (by omega)]; omega
  exact {
    sub := fun b hb => by simp at hb; simp [hb]
    frame := fun _ _ _ st hk => ⟨hk I (by simp) _ st.1, hk a (by simp) _ st.2⟩
    item := fun i s Q E hi st hQ => by
      refine si_next st.1 st.2 hf rfl (x := es[i].2) (nx := t.place.getD i 0 + 1) (fun B Q' E' hq => setNext_place hb hd hl st.2 hf B Q' E' ?_) fun h' ho' hs' => ?_
      · rw [hbel i (Nat.le_of_lt hi), Array.getElem?_eq_getElem hi, Array.getElem?_eq_getElem (show i < t.place.size by omega)]
        have e : t.place.getD i 0 = t.place[i]'(by omega) := by rw [Array.getD_eq_getD_getElem?, Array.getElem?_eq_getElem (show i < t.place.size by omega)]; rfl
        rw [e] at hq
        exact hq
      · refine hQ _ h' s.toks ⟨es[i], by rw [Array.getElem?_toList, Array.getElem?_eq_getElem hi], rfl⟩ ⟨by rw [if_neg (Nat.succ_ne_zero i)]; exact ho', by rw [hs'.2 a hne]; exact st.2⟩ fun b o hb e => ?_
        rw [hs'.2 b (fun h => hb (by simp [h]))]; exact e
    done := fun s Q E st hQ => by
      refine si_stop hh st.1 st.2 hf rfl (fun B Q' E' hq => setNext_place hb hd hl st.2 hf B Q' E' ?_) fun h' he' => hQ h' s.toks fun b o hb e => he' b o (fun h => hb (by simp [h])) e
      rw [hbel es.size (Nat.le_refl _), Array.getElem?_eq_none (Nat.le_refl _)]
      exact hq
    self := fun _ _ _ _ st hQ => si_self st.1 hQ }

theorem walks_drawn (hh : A.handled = none) {I a T : Addr} (hne : a ≠ I) (hneT : T ≠ I) {ps : List Nat} {es : Array (Int × Value)} {ep : Nat} {t : SetTable} (hf : t.fits es.size = true) (hp : ps.Perm (List.range es.size)) :
    Walks prog w A I [I, a, T] [I] es.size (InOrder (ps.filterMap (es[·]?))) (fun i h => h.get? I = some (itObj (.ref T) i a es.size ep) ∧ h.get? a = some (setObj es ep t) ∧ h.get? T = some (drawnTup ps)) := by
  have hlen : ps.length = es.size := by rw [hp.length_eq, List.length_range]
  have hlt : ∀ k ∈ ps, k < es.size := fun k hk => List.mem_range.mp (hp.mem_iff.mp hk)
  have hall : ∀ (l : List Nat), (∀ k ∈ l, k < es.size) → ∀ (i k : Nat) (_ : l[i]? = some k) (h : k < es.size), (l.filterMap (es[·]?))[i]? = some (es[k]'h) := by
    intro l
    induction l with
    | nil => intro _ i k hk; simp at hk
    | cons a l ih =>
      intro h1 i k hk h
      have ha : a < es.size := h1 a (.head _)
      rw [List.filterMap_cons, Array.getElem?_eq_getElem ha]
      cases i with
      | zero =>
        simp only [List.getElem?_cons_zero, Option.some.injEq] at hk ⊢
        subst hk; rfl
      | succ i =>
        simp only [List.getElem?_cons_succ] at hk ⊢
        exact ih (fun k hk => h1 k (.tail _ hk)) i k hk h
  exact {
    sub := fun b hb => by simp at hb; simp [hb]
    frame := fun _ _ _ st hk => ⟨hk I (by simp) _ st.1, hk a (by simp) _ st.2.1, hk T (by simp) _ st.2.2⟩
    item := fun i s Q E hi st hQ => by
      have hi' : i < ps.length := by omega
      have hk : ps[i]? = some ps[i] := List.getElem?_eq_getElem hi'
      have hb := hlt _ (List.getElem_mem hi')
      refine sd_next st.1 st.2.2 st.2.1 hf rfl hk (Array.getElem?_eq_getElem hb) fun h' ho' hs' => ?_
      refine hQ _ h' s.toks ⟨_, hall ps hlt i _ hk hb, rfl⟩ ⟨ho', by rw [hs'.2 a hne]; exact st.2.1, by rw [hs'.2 T hneT]; exact st.2.2⟩ fun b o hb e => ?_
      rw [hs'.2 b (fun h => hb (by simp [h]))]; exact e
    done := fun s Q E st hQ => by
      refine sd_stop hh st.1 st.2.2 st.2.1 hf rfl (List.getElem?_eq_none (by omega)) fun h' he' => hQ h' s.toks fun b o hb e => he' b o (fun h => hb (by simp [h])) e
    self := fun _ _ _ _ st hQ => si_self st.1 hQ }
end
end Mine
end
section
theorem Mine.offSsort : True := by
  w_top off
  trivial
open PySem PySem.W PyProof.Rows PySem.Calls PySem.Spec
set_option maxRecDepth 100000
namespace Mine
section
variable {prog : Program} {w : World} {A : Around} {E : Value → Shared → Prop} {s : Shared}

theorem wpAny_newFields {T : String} {vs : List Value} {Q : Value → Shared → Prop} (h : Q (.ref s.heap.objs.size) { s with heap := s.heap.push { cls := .type T, data := .fields vs.toArray } }) (hz : sizeOk (.fields vs.toArray)) :
    wpAny (model prog w) A (newFields T vs) Q E s := wpAny_newObj_type h hz

theorem iter_set {a : Addr} {es : Array (Int × Value)} {ep : Nat} {t : SetTable} {Q : Value → Shared → Prop} (ho : s.heap.get? a = some (setObj es ep t)) (hf : t.fits es.size = true) (ht : TblOk (!byText w) t) (hsm : es.size ≤ 1000)
    (h : ∀ I fp order St h' d, (∀ B : Around, B.handled = none → Walks prog w B I fp [I] es.size (InOrder order) St) → St 0 h' → order.Perm es.toList → (∀ b ∈ fp, b < h'.objs.size) → (∀ b ∈ fp, b = a ∨ s.heap.objs.size ≤ b) → s.heap.objs.size ≤ I → Ext s.heap h' → Q (.ref I) { s with heap := h', drawn := d }) :
    wpAny (model prog w) A (pyIter (.ref a)) Q E s := by
  have hT : s.TypeIs (.ref a) "set" := ⟨_, ho, rfl⟩
  have hal : a < s.heap.objs.size := Heap.lt_size ho
  refine wpAny_pyIter_slot hT PySem.F.slot_set_iter (wpAny_call_entry PySem.F.slot_set_iter hT SF.entry_set_iter ?_ (PySem.F.args_set_iter_1 _))
  unfold Builtin.«frozenset.__iter__»
  refine wpAny_bind (m := Builtin.Frozenset.slot0 "__iter__" _) (wpAny_pure ?_)
  unfold Builtin.Frozenset.sizeOf
  refine wpAny_bind (wpAny_bind (wpAny_setEntries_of ho rfl hf (wpAny_pure ?_)))
  unfold setDrawn setsByText
  refine wpAny_bind (wpAny_bind (wpAny_setState_of ho rfl hf ?_))
  dsimp only
  refine wpAny_bind (wpAny_bind (wpAny_askSetting (wpAny_pure ?_)))
  refine wpAny_pure ?_
  show wpAny _ _ (if (!(byText w) && (!t.plain && decide (es.size > 1))) = true then _ else _) _ _ s
  cases hb : byText w with
  | true =>
    simp only [Bool.not_true, Bool.false_and, Bool.false_eq_true, if_false]
    refine wpAny_bind (wpAny_pure ?_)
    refine wpAny_bind (wpAny_setEpoch_of ho rfl hf ?_)
    refine wpAny_bind (wpAny_newFields ?_ (by size_fits))
    refine wpAny_pure ⟨_, rfl, "set_iterator", _, ⟨_, Heap.get?_push_size _ rfl, rfl⟩, SF.slot_si_next.lookup, ?_⟩
    refine h _ _ _ _ _ s.drawn (fun B hB => walks_text hB hb (Nat.ne_of_lt hal) hf) ⟨Heap.get?_push_size _ rfl, Heap.get?_push_of_some _ ho⟩ (pick_perm _ _) ?_ (fun b hb' => (List.mem_cons.mp hb').elim (fun e => .inr (Nat.le_of_eq e.symm)) fun e => .inl (List.mem_singleton.mp e)) (Nat.le_refl _) fun b o e => Heap.get?_push_of_some _ e
    intro b hb'
    rw [Heap.size_push]
    rcases List.mem_cons.mp hb' with rfl | hb'
    · exact Nat.lt_succ_self _
    · rw [List.mem_singleton.mp hb']; exact Nat.lt_succ_of_lt hal
  | false =>
    cases hd : (!t.plain && decide (es.size > 1)) with
    | false =>
      simp only [Bool.and_false, Bool.false_eq_true, if_false]
      refine wpAny_bind (wpAny_pure ?_)
      refine wpAny_bind (wpAny_setEpoch_of ho rfl hf ?_)
      refine wpAny_bind (wpAny_newFields ?_ (by size_fits))
      refine wpAny_pure ⟨_, rfl, "set_iterator", _, ⟨_, Heap.get?_push_size _ rfl, rfl⟩, SF.slot_si_next.lookup, ?_⟩
      refine h _ _ _ _ _ s.drawn (fun B hB => walks_place hB hb (Nat.ne_of_lt hal) hf hd ht) ⟨Heap.get?_push_size _ rfl, Heap.get?_push_of_some _ ho⟩ (.refl _) ?_ (fun b hb' => (List.mem_cons.mp hb').elim (fun e => .inr (Nat.le_of_eq e.symm)) fun e => .inl (List.mem_singleton.mp e)) (Nat.le_refl _) fun b o e => Heap.get?_push_of_some _ e
      intro b hb'
      rw [Heap.size_push]
      rcases List.mem_cons.mp hb' with rfl | hb'
      · exact Nat.lt_succ_self _
      · rw [List.mem_singleton.mp hb']; exact Nat.lt_succ_of_lt hal
    | true =>
      simp only [Bool.not_false, Bool.and_true, if_true]
      refine wpAny_bind (draw_any _ _ _ _ (by rw [List.length_range]) fun ys d hp => ?_)
      have hylen : ys.length = es.size := by rw [hp.length_eq, List.length_range]
      refine wpAny_bind (wpAny_newTuple ?_ (by rw [List.length_map, hylen, sizeLine_eq]; omega))
      have ho1 : (s.heap.push (drawnTup ys)).get? a = some (setObj es ep t) := Heap.get?_push_of_some _ ho
      refine wpAny_bind (wpAny_setEpoch_of (s := { s with heap := s.heap.push (drawnTup ys), drawn := d }) ho1 rfl hf ?_)
      refine wpAny_bind (wpAny_newFields ?_ (by size_fits))
      refine wpAny_pure ⟨_, rfl, "set_iterator", _, ⟨_, Heap.get?_push_size _ rfl, rfl⟩, SF.slot_si_next.lookup, ?_⟩
      have hsz : (s.heap.push (drawnTup ys)).objs.size = s.heap.objs.size + 1 := Heap.size_push ..
      refine h _ _ _ _ _ d (fun B hB => walks_drawn hB (T := s.heap.objs.size) ?_ ?_ hf hp) ⟨Heap.get?_push_size _ rfl, Heap.get?_push_of_some _ ho1, Heap.get?_push_of_some _ (Heap.get?_push_size _ rfl)⟩ ?_ ?_ ?_ (hsz ▸ Nat.le_succ _) fun b o e => Heap.get?_push_of_some _ (Heap.get?_push_of_some _ e)
      · show a ≠ (s.heap.push (drawnTup ys)).objs.size
        rw [hsz]; exact Nat.ne_of_lt (Nat.lt_succ_of_lt hal)
      · show s.heap.objs.size ≠ (s.heap.push (drawnTup ys)).objs.size
        rw [hsz]; exact Nat.ne_of_lt (Nat.lt_succ_self _)
      · refine (List.Perm.filterMap _ hp).trans ?_
        have : (List.range es.size).filterMap (es[·]?) = es.toList := by
          apply List.ext_getElem?
          intro i
          have : ∀ (n : Nat) (hn : n ≤ es.size), (List.range n).filterMap (es[·]?) = es.toList.take n := by
            intro n
            induction n with
            | zero => intro _; simp
            | succ n ih =>
              intro hn
              rw [List.range_succ, List.filterMap_append, ih (by omega), List.take_add_one]
              congr 1
              rw [Array.getElem?_toList, Array.getElem?_eq_getElem (show n < es.size by omega)]
              simp [Array.getElem?_eq_getElem (show n < es.size by omega)]
          rw [this es.size (Nat.le_refl _), List.take_of_length_le (by simp)]
        rw [this]
      · intro b hb'
        rw [Heap.size_push, hsz]
        simp only [List.mem_cons, List.not_mem_nil, or_false] at hb'
        rcases hb' with rfl | rfl | rfl
        · exact hsz ▸ Nat.lt_succ_self _
        · exact Nat.lt_succ_of_lt (Nat.lt_succ_of_lt hal)
        · exact Nat.lt_succ_of_lt (Nat.lt_succ_self _)
      · intro b hb'
        simp only [List.mem_cons, List.not_mem_nil, or_false] at hb'
        rcases hb' with rfl | rfl | rfl
        · exact .inr (hsz ▸ Nat.le_succ _)
        · exact .inl rfl
        · exact .inr (Nat.le_refl _)
end
end Mine
end
section
local macro_rules | `(tactic| walk_at "MINE S_fin 0") => `(tactic| skip)
theorem Mine.offSfin : True := by
  w_top off
  trivial
open PySem PySem.W PyProof.Rows PySem.Calls PySem.Spec
set_option maxRecDepth 100000
namespace Mine
namespace SF
theorem len_set : typeLookup (.type "set") "__len__" = pure (some (.builtin "set.__len__")) := by rw [typeLookup_type, builtinLookup_eq_fast]; kernel_rfl
end SF
section
variable {prog : Program} {w : World} {A : Around} {E : Value → Shared → Prop} {s : Shared}

theorem items_order {order : List (Int × Value)} {acc : Array Value} (h : ItemsOf (InOrder order) acc order.length) : acc.toList = order.map (·.2) := by
  apply List.ext_getElem?
  intro i
  rw [Array.getElem?_toList, List.getElem?_map]
  by_cases hi : i < acc.size
  · have hv : acc[i]? = some acc[i] := Array.getElem?_eq_getElem hi
    obtain ⟨e, he, hv'⟩ := h.2 i _ hv
    rw [hv, he, hv']
    rfl
  · rw [Array.getElem?_eq_none (by omega), List.getElem?_eq_none (by have := h.1; omega)]
    rfl

theorem collect_set {a : Addr} {es : Array (Int × Value)} {ep : Nat} {t : SetTable} {Q : List Value → Shared → Prop} (hh : A.handled = none) (ho : s.heap.get? a = some (setObj es ep t)) (hf : t.fits es.size = true) (ht : TblOk (!byText w) t) (hsm : es.size ≤ 1000)
    (h : ∀ (order : List (Int × Value)) h' d tk, order.Perm es.toList → Ext s.heap h' → Q (order.map (·.2)) { s with heap := h', drawn := d, toks := tk }) : wpAny (model prog w) A (collect (.ref a)) Q E s := by
  have hal : a < s.heap.objs.size := Heap.lt_size ho
  unfold collect
  refine wpAny_bind (wpAny_runValue (codeAny_builtin PySem.F.entry_proto_collect ?_))
  rw [Around.under_plainId PySem.F.plain_proto_collect _]
  show wpAny _ A.in1 (newList [] >>= fun l => again (.builtin "list.__iadd__" ⟨[l, .ref a], []⟩)) _ _ s
  refine wpAny_bind (wpAny_newObj_type ?_)
  refine wpAny_pure ⟨plainId_quiet PySem.F.plain_list_iadd _, codeAny_builtin PySem.F.entry_list_iadd ?_⟩
  rw [Around.under_plainId PySem.F.plain_list_iadd _]
  generalize hh1 : s.heap.push { cls := .type "list", data := .seq ([] : List Value).toArray } = h1
  have hS₁ : h1.get? s.heap.objs.size = some { cls := .type "list", data := .seq ([] : List Value).toArray } := by rw [← hh1]; exact Heap.get?_push_size _ rfl
  have ho1 : h1.get? a = some (setObj es ep t) := by rw [← hh1]; exact Heap.get?_push_of_some _ ho
  have hext1 : Ext s.heap h1 := fun b o e => by rw [← hh1]; exact Heap.get?_push_of_some _ e
  have hSI : s.heap.objs.size ≠ a := Nat.ne_of_gt hal
  have e1 : Builtin.List.listSameRef (.ref s.heap.objs.size) (.ref a) = false := by simp [Builtin.List.listSameRef, hSI]
  show wpAny _ A.in1 (Builtin.List.listExtendWith (.ref s.heap.objs.size) (.ref a) (.ref s.heap.objs.size)) _ _ { s with heap := h1 }
  unfold Builtin.List.listExtendWith
  refine wpAny_bind (wpAny_typeOf (s := { s with heap := h1 }) (T := "set") ⟨_, ho1, rfl⟩ ?_)
  rw [if_neg (by rw [e1]; decide)]
  refine wpAny_bind (iter_set (s := { s with heap := h1 }) ho1 hf ht hsm fun I fp order St h2 d W hst hperm hfp hnew hIn hext2 => ?_)
  have ho2 : h2.get? a = some (setObj es ep t) := hext2 _ _ ho1
  have hS2 : h2.get? s.heap.objs.size = some { cls := .type "list", data := .seq ([] : List Value).toArray } := hext2 _ _ hS₁
  refine wpAny_bind (wpAny_holding ?_)
  unfold Builtin.List.listLengthHint
  refine wpAny_bind (wpAny_specialOf (T := "set") ⟨_, ho2, rfl⟩ SF.len_set ?_)
  (generalize hid : ("set.__len__" : String) = id0; (fail_if_success (clear hid id0)); wp_delta; rw [show splitId id0 = some ("set", "__len__") from by subst hid; decide +kernel]; subst hid)
  refine wpAny_bind (wpAny_isInstance (b := true) (T := "set") ⟨_, ho2, rfl⟩ (by rw [isSubtype_type]; kernel_rfl) ?_)
  rw [if_neg (by decide)]
  rw [if_pos (by decide +kernel)]
  refine wpAny_bind (wpAny_typeOf (T := "set") ⟨_, ho2, rfl⟩ ?_)
  refine wpAny_pure ?_
  rw [if_pos (by decide +kernel)]
  refine wpAny_bind (wpAny_rule ?_)
  refine wpAny_bind (m := Builtin.List.listTouch _) ?_
  unfold Builtin.List.listTouch
  refine wpAny_bind (listUpdate_at (s := { s with heap := h2, drawn := d }) hS2 rfl ?_ (Nat.zero_le _) (by simp))
  have hS3 := get?_update_seq hS2 (·.push .none)
  refine listUpdate_at (s := { s with heap := h2.update s.heap.objs.size (Obj.mapSeq (·.push .none)), drawn := d }) hS3 rfl ?_ (by simp; rw [sizeLine_eq]; omega) (by simp)
  have hS4 := get?_update_seq hS3 (·.pop)
  generalize hh3 : (h2.update s.heap.objs.size (Obj.mapSeq (·.push .none))).update s.heap.objs.size (Obj.mapSeq (·.pop)) = h3 at hS4
  have hkeep : ∀ b o, b ≠ s.heap.objs.size → h2.get? b = some o → h3.get? b = some o := by
    intro b o hb e
    rw [← hh3, Heap.get?_update_ne _ _ _ _ hb, Heap.get?_update_ne _ _ _ _ hb]
    exact e
  have hSf : s.heap.objs.size ∉ fp := by
    intro hm
    rcases hnew _ hm with e | e
    · exact hSI e
    · have : s.heap.objs.size < h1.objs.size := Heap.lt_size hS₁
      exact absurd e (Nat.not_le.mpr this)
  have hWS := (W A.in1 (by simp [hh])).toS
  have hordl : order.length = es.size := by rw [hperm.length_eq, Array.length_toList]
  have hst3 : St 0 h3 := (W A hh).frame 0 _ _ hst fun b hb o e => hkeep b o (fun e => hSf (e ▸ hb)) e
  refine wpAny_pure ⟨plainId_quiet PySem.F.plain_extend_loop _, codeAny_extend_loopS (s := { s with heap := h3, drawn := d }) hWS (by rw [sizeLine_eq]; omega) _ hSf _ es.size 0 _ _ rfl (Nat.zero_le _) hst3 hS4 (ItemsOf.nil _) fun s' acc' c' hm hS' hacc => ?_⟩
  obtain ⟨hp', g', d', tk', os'⟩ := s'
  have eg : g' = s.gens := hm.gens
  have ed : d' = d := hm.drawn
  have eo : os' = s.os := hm.os
  subst eg; subst ed; subst eo
  show wpAny _ A (load s.heap.objs.size >>= _) _ _ _
  refine wpAny_bind (wpAny_load hS' ?_)
  rw [← hordl] at hacc
  refine wpAny_pure ?_
  rw [items_order hacc]
  refine h order hp' d' tk' hperm fun b o e => ?_
  have hb : b < s.heap.objs.size := Heap.lt_size e
  refine hm.heap b o ?_ (hkeep b o (Nat.ne_of_lt hb) (hext2 b o (hext1 b o e)))
  intro hmem
  rcases List.mem_cons.mp hmem with e' | e'
  · exact Nat.ne_of_lt hb e'
  · rw [List.mem_singleton] at e'
    subst e'
    have : b < h1.objs.size := Heap.lt_size (hext1 _ _ e)
    exact absurd hIn (Nat.not_le.mpr this)

theorem sorted_set {a : Addr} {S : List Int} {Q : Value → Shared → Prop} (hh : A.handled = none) (hS : SetG prog w s.heap a S) (hnd : S.Nodup) (h60 : S.length < 60)
    (h : ∀ D (us : List Value) ns n h' d tk, IntsAre us ns → ns.Perm S → ns.Pairwise (· ≤ ·) → Ext s.heap h' → NewAt s.heap h' D (listOf us.toArray n) → Q (.ref D) { s with heap := h', drawn := d, toks := tk }) :
    wpAny (model prog w) A (call (.builtin "sorted") [.ref a]) Q E s := by
  obtain ⟨es, ep, t, ho, hel, hmem, hn, hf, ht⟩ := hS
  refine call_function_entry kind_sorted plain_sorted entry_sorted (args_sorted1 _) ?_
  unfold Builtin.«sorted»
  refine wpAny_bind (m := checkCount "sorted" 1 1 _) (wpAny_pure ?_)
  refine wpAny_bind (collect_set (by simp [hh]) ho hf ht (by omega) fun order h1 d tk hperm hext => ?_)
  have hall : ∀ v ∈ order.map (·.2), ∃ x t, v = Value.int x t ∧ x ∈ S := by
    intro v hv
    obtain ⟨e, he, rfl⟩ := List.mem_map.mp hv
    have he' := hperm.mem_iff.mp he
    obtain ⟨⟨k, hk, _⟩, _⟩ := hel e he'
    obtain ⟨t', ht'⟩ := Value.isInt_shape hk
    exact ⟨k, t', ht', (hmem k).mpr ⟨e, he', hk⟩⟩
  have hints : ∀ (l : List Value), (∀ v ∈ l, ∃ x t, v = Value.int x t ∧ x ∈ S) → ∃ ns, IntsAre l ns ∧ ∀ x ∈ ns, x ∈ S := by
    intro l
    induction l with
    | nil => intro _; exact ⟨[], .nil, fun _ h => nomatch h⟩
    | cons v r ih =>
      intro hv
      obtain ⟨x, t, rfl, hx⟩ := hv v (.head _)
      obtain ⟨ns, h1, h2⟩ := ih fun v hv' => hv v (.tail _ hv')
      exact ⟨x :: ns, .cons x t h1, fun y hy => (List.mem_cons.mp hy).elim (fun e => e ▸ hx) (h2 y)⟩
  obtain ⟨ns, hns, hsub⟩ := hints _ hall
  have hlen : ns.length = S.length := by rw [← IntsAre.length hns, List.length_map, hperm.length_eq, Array.length_toList, hn]
  have hSns : S.Perm ns := by
    refine perm_of_sub hnd (fun x hx => ?_) (Nat.le_of_eq hlen)
    obtain ⟨e, he, hk⟩ := (hmem x).mp hx
    obtain ⟨t', ht'⟩ := Value.isInt_shape hk
    have hv : Value.int x t' ∈ order.map (·.2) := List.mem_map.mpr ⟨e, hperm.mem_iff.mpr he, ht'⟩
    obtain ⟨n', t2, e2, h2⟩ := ints_mem hns hv
    cases e2
    exact h2
  refine wpAny_bind (wpAny_newList ?_)
  have hoL : (h1.push (seqObj "list" (order.map (·.2)).toArray 0)).get? h1.objs.size = some (seqObj "list" (order.map (·.2)).toArray 0) := Heap.get?_push_size _ rfl
  refine wpAny_bind (wpAny_holding (wpAny_call_entry (s := { s with heap := h1.push (seqObj "list" (order.map (·.2)).toArray 0), drawn := d, toks := tk }) slot_list_sort ⟨_, hoL, rfl⟩ entry_list_sort (list_sort_tree hoL hns (by rw [IntsAre.length hns]; omega) fun out ns' a1 a2 a3 => ⟨_, rfl, ?_⟩) (args_list_sort _)))
  obtain ⟨e, he⟩ := sortedHeap_at (out := out) hoL
  refine wpAny_pure ⟨_, rfl, h _ out.toList ns' e _ d tk a1 (a2.trans hSns.symm) a3 (fun b o e => ?_) ⟨he, ?_⟩⟩
  · have hb := hext _ _ e
    have hlt : b < h1.objs.size := Heap.lt_size hb
    rw [sortedHeap_old (Nat.ne_of_lt hlt) (by rw [Heap.size_push]; exact Nat.lt_succ_of_lt hlt)]
    exact Heap.get?_push_of_some _ hb
  · cases hq : s.heap.get? h1.objs.size with
    | none => rfl
    | some o => exact absurd (Heap.lt_size (hext _ _ hq)) (Nat.lt_irrefl _)
end
end Mine
end
section
theorem Mine.offGseg : True := by
  w_top off
  trivial
open PySem PySem.W PyProof.Rows PySem.Calls PySem.Spec
set_option maxRecDepth 100000
namespace Mine
section
variable {prog : Program} {w : World} {A : Around} {R : GenEnd} {Y : Protocol} {n : Nat} {s₀ : Shared} {c : Code} {fs : List Frame} {s : Shared} {env : Env}
  {K : Flow → Sem Fin} {H : Value → Sem Fin} {gd : Bool → Bool} {lv : List Value → List Value}

/-- a statement without a yield -/
theorem seg_plain {α : Type} {m : Sem α} {K : α → Sem Fin} {H : Value → Sem Fin}
    (h : wpAny (model prog w) (A.over c fs) m (fun a s' => Seg (model prog w) A R Y n s₀ c (K a) fs s') noE s) :
    Seg (model prog w) A R Y n s₀ c (m.wrap K H gd lv) fs s := seg_wrap (wpAny_mono h (fun _ _ x => x) fun _ _ x => x.elim)

def backK (K : Flow → Sem Fin) (H : Value → Sem Fin) (gd : Bool → Bool) (lv : List Value → List Value) (env : Env) (r : Result) : Sem Fin :=
  ((match r with | .ok f => (.pure f : Sem Flow) | .error e => .raise e).onRaise fun (x : Value) => do
        if (← field x 1) == Value.none then unsupported "frame.own-activation:exception-without-traceback"
        setFlight x env.frame).wrap K H gd lv

theorem seg_For {target iter : Expr} {body orelse : List Stmt} {pos : Pos}
    (h : wpAny (model prog w) (A.over c fs) (eval iter env) (fun x s₁ => wpAny (model prog w) (A.over c fs) (pyIter x) (fun it s₂ =>
      ∀ p, Seg (model prog w) A R Y n s₀ (.forLoop target it body orelse env) ((model prog w).den (.forLoop target it body orelse env)) (.ret (backK K H gd lv env) none (gd false) (lv []) c p [] :: fs) s₂) noE s₁) noE s)
    (hs : ∀ x, foldedSetIterable iter env x = pure x) :
    Seg (model prog w) A R Y n s₀ c ((exec (.For target iter body orelse pos) env).wrap K H gd lv) fs s := by
  rw [exec_For]
  show Seg (model prog w) A R Y n s₀ c (.at pos fun _ => (eval iter env >>= fun x0 => foldedSetIterable iter env x0 >>= fun x => standAt iter.pos >>= fun _ => holding [x] (pyIter x) >>= fun it =>
    runOwn (.forLoop target it body orelse env) env).wrap K H gd lv) fs s
  refine seg_at ?_
  rw [Sem.bind_eq_wrap', Sem.wrap_wrap]
  refine seg_plain (wpAny_mono h (fun x s₁ h₁ => ?_) fun _ _ e => e)
  rw [hs]
  show Seg (model prog w) A R Y n s₀ c (.at iter.pos fun _ => (holding [x] (pyIter x) >>= fun it => runOwn (.forLoop target it body orelse env) env).wrap K H gd lv) fs s₁
  refine seg_at ?_
  rw [Sem.bind_eq_wrap', Sem.wrap_wrap]
  refine seg_plain (wpAny_holding (wpAny_mono h₁ (fun it s₂ h₂ => ?_) fun _ _ e => e))
  exact seg_call h₂

theorem seg_If {test : Expr} {body orelse : List Stmt} {pos : Pos}
    (h : wpAny (model prog w) (A.over c fs) (isTrue test env (eval test env)) (fun b s₁ => Seg (model prog w) A R Y n s₀ c ((if b = true then execs body env else execs orelse env).wrap K H gd lv) fs s₁) noE s) :
    Seg (model prog w) A R Y n s₀ c ((exec (.If test body orelse pos) env).wrap K H gd lv) fs s := by
  rw [exec_If]
  show Seg (model prog w) A R Y n s₀ c (.at pos fun _ => (isTrue test env (eval test env) >>= fun b => if b = true then execs body env else execs orelse env).wrap K H gd lv) fs s
  refine seg_at ?_
  rw [Sem.bind_eq_wrap', Sem.wrap_wrap]
  exact seg_plain h

def turnK (target : Expr) (it : Value) (body orelse : List Stmt) (env : Env) (f : Flow) : Sem Fin := match f with
  | .next | .cont => .pure (.again (.forLoop target it body orelse env))
  | .brk => .pure (.done .next)
  | .ret v => .pure (.done (.ret v))
def notedH (env : Env) (e : Value) : Sem Fin := (do noteFrame e env; theTreesLotGoes e : Sem Unit).wrap (fun _ => .raise e) .raise id id

theorem seg_forLoop {target : Expr} {it : Value} {body orelse : List Stmt}
    (h : wpAny (model prog w) (A.over (.forLoop target it body orelse env) fs) (pyNext it) (fun r s₁ => match r with
      | none => Seg (model prog w) A R Y n s₀ (.block orelse env) ((model prog w).den (.block orelse env)) fs s₁
      | some v => wpAny (model prog w) (A.over (.forLoop target it body orelse env) fs) (letOwnedTupleGo target it v) (fun _ s₂ => wpAny (model prog w) (A.over (.forLoop target it body orelse env) fs) (assign target env v) (fun _ s₃ =>
          Seg (model prog w) A R Y n s₀ (.forLoop target it body orelse env) ((execs body env).wrap (turnK target it body orelse env) (notedH env) id id) fs s₃) noE s₂) noE s₁) noE s) :
    Seg (model prog w) A R Y n s₀ (.forLoop target it body orelse env) ((model prog w).den (.forLoop target it body orelse env)) fs s := by
  show Seg (model prog w) A R Y n s₀ _ ((forTurn target it body orelse env).onRaise (fun x => do noteFrame x env; theTreesLotGoes x)) fs s
  unfold forTurn
  rw [Sem.onRaise_eq_wrap]
  show Seg (model prog w) A R Y n s₀ _ (.at target.pos fun _ => Sem.wrap _ _ _ _ ((pyNext it).onRaise (fun _ => standAt { target.pos with line := 0 }) >>= _)) fs s
  refine seg_at ?_
  rw [Sem.bind_eq_wrap', Sem.wrap_wrap]
  refine seg_plain (wpAny_onRaise (wpAny_mono h (fun r s₁ h₁ => ?_) fun _ _ e => e.elim))
  cases r with
  | none => exact seg_again rfl h₁
  | some v =>
    show Seg (model prog w) A R Y n s₀ _ (Sem.wrap _ _ _ _ (letOwnedTupleGo target it v >>= fun _ => assign target env v >>= fun _ => execs body env >>= fun f => turnK target it body orelse env f)) fs s₁
    rw [Sem.bind_eq_wrap', Sem.wrap_wrap]
    refine seg_plain (wpAny_mono h₁ (fun _ s₂ h₂ => ?_) fun _ _ e => e)
    rw [Sem.bind_eq_wrap', Sem.wrap_wrap]
    refine seg_plain (wpAny_mono h₂ (fun _ s₃ h₃ => ?_) fun _ _ e => e)
    rw [Sem.bind_eq_wrap', Sem.wrap_wrap]
    rw [Sem.wrap_congr (execs body env) _ _ (K' := turnK target it body orelse env) (H' := notedH env)
      (fun f => by cases f <;> rfl)
      (fun e => by first | exact Sem.bind_eq_wrap _ _ | (show (do noteFrame e env; theTreesLotGoes e : Sem Unit).bind (fun _ => .raise e) = _; rw [Sem.bind_eq_wrap]; rfl))]
    exact h₃

theorem seg_block {stmts : List Stmt} (h : Seg (model prog w) A R Y n s₀ (.block stmts env) ((execs stmts env).wrap (fun f => .pure (.done f)) (notedH env) id id) fs s) :
    Seg (model prog w) A R Y n s₀ (.block stmts env) ((model prog w).den (.block stmts env)) fs s := by
  show Seg (model prog w) A R Y n s₀ _ (((execs stmts env).onRaise (fun x => do noteFrame x env; theTreesLotGoes x)) >>= fun f => .pure (.done f)) fs s
  rw [Sem.onRaise_eq_wrap, Sem.bind_eq_wrap', Sem.wrap_wrap]
  refine (congrArg (fun t => Seg (model prog w) A R Y n s₀ (.block stmts env) t fs s) (Sem.wrap_congr (execs stmts env) (K' := fun f => (.pure (.done f) : Sem Fin)) (H' := notedH env) id id (fun f => rfl)
    (fun e => ?_))).mpr h
  show Sem.wrap (fun f => (Sem.pure (Fin.done f) : Sem Fin)) Sem.raise id id ((do noteFrame e env; theTreesLotGoes e : Sem Unit).bind fun _ => Sem.raise e) = _
  rw [Sem.bind_eq_wrap, Sem.wrap_wrap]
  rfl
end
end Mine
end
section
local macro_rules | `(tactic| walk_at "MINE G_gen 0") => `(tactic| skip)
theorem Mine.offGgen : True := by
  w_top off
  trivial
open PySem PySem.W PyProof.Rows PySem.Calls PySem.Spec
set_option maxRecDepth 100000
namespace Mine
/-- a call of a generator function makes its frame and the generator, no more -/
theorem enterGen {prog : Program} {w : World} {A : Around} {R : Result → Shared → Prop} {s : Shared} {K : Frag} {name : Str} {params : Arguments} {body : List Stmt} {scope : Scope}
    {pm cd doc oc : Value} {od : Option Addr} {osl : Array (Option Value)} {f : Addr} {args : List Value} (binds : List (Str × Value))
    (X : K.In s.heap) (hlim : s.heap.NoLimit) (hroom : A.depth < recursionLimit)
    (ho : K.lookup f = some ⟨oc, od, .func (docDef name params body scope pm cd doc), osl⟩) (hcd : codeIn K cd name = true)
    (hbind : bindArgs (docDef name params body scope pm cd doc) ⟨args, []⟩ = pure binds)
    (hloc : ∀ x ∈ binds, scope.names.lookup x.1 = some .local)
    (h : ∀ h' tk, h'.Ns s.heap.objs.size (fun x => binds.reverse.lookup x) → Ext s.heap h' → h'.IsGen (s.heap.objs.size + 1) s.gens.size → h'.objs.size = s.heap.objs.size + 2 →
      R (.ok (.ret (.ref (s.heap.objs.size + 1)))) { s with heap := h', gens := s.gens.push (.fresh (.func body (envOf name scope s.heap.objs.size f cd))), toks := tk })
    (hco : scope.isCoroutine = false) (hgen : scope.isGenerator = true) (hk : scope.kind = .function)
    (hcell : ∀ x ∈ scope.names, x.2 ≠ .cell) : codeAny (model prog w) A (.call (.ref f) ⟨args, []⟩) R s := by
  refine codeAny_call_generator hroom (X _ _ ho) rfl hco hgen rfl (codeRec_of X hcd) ?_
  rw [hbind]
  refine wpAny_pure (wpAny_newFunctionEnv hcell hloc (fun h₁ hn hs => ?_) hk)
  have hk1 : Ext s.heap h₁ := fun b o e => hs.extBut b o (Nat.ne_of_lt (Heap.lt_size e)) (Heap.get?_push_of_some _ e)
  have hsz : h₁.objs.size = s.heap.objs.size + 1 := by rw [hs.1, Heap.size_push]
  refine ⟨hlim.keeps hk1, ?_⟩
  show R (.ok (.ret (.ref h₁.objs.size))) _
  rw [hsz]
  refine h _ _ (hn.at' fun o e => Heap.get?_push_of_some _ e) (fun b o e => Heap.get?_push_of_some _ (hk1 b o e)) ?_ (by rw [Heap.size_push, hsz])
  refine ⟨{ cls := .type "generator", data := .fields #[.int s.gens.size 0, .str name (s.toks + binds.length), .str name (s.toks + binds.length + 1)] }, _, _, ?_, rfl, rfl, rfl⟩
  rw [← hsz]
  exact Heap.get?_push_size _ rfl

end Mine
end
section
theorem Mine.offGturn : True := by
  w_top off
  trivial
open PySem PySem.W PyProof.Rows PySem.Calls PySem.Spec
set_option maxRecDepth 100000
namespace Mine

/-- the shared state has moved on, but for the objects wr -/
def Since (wr : List Addr) (s₀ s : Shared) : Prop := ∃ h' tk, s = { s₀ with heap := h', toks := tk } ∧ ∀ b o, b ∉ wr → s₀.heap.get? b = some o → h'.get? b = some o
theorem Since.refl (wr : List Addr) (s : Shared) : Since wr s s := ⟨s.heap, s.toks, rfl, fun _ _ _ e => e⟩
theorem Since.step {wr : List Addr} {s₀ s : Shared} (x : Since wr s₀ s) {h' : Heap} {tk : Nat} (hk : ∀ b o, b ∉ wr → s.heap.get? b = some o → h'.get? b = some o) : Since wr s₀ { s with heap := h', toks := tk } := by
  obtain ⟨h₁, tk₁, rfl, hk₁⟩ := x
  exact ⟨h', tk, rfl, fun b o hb e => hk b o hb (hk₁ b o hb e)⟩
theorem Since.heap {wr : List Addr} {s₀ s : Shared} (x : Since wr s₀ s) {b : Addr} {o : Obj} (hb : b ∉ wr) (e : s₀.heap.get? b = some o) : s.heap.get? b = some o := by
  obtain ⟨h₁, tk₁, rfl, hk₁⟩ := x
  exact hk₁ b o hb e
theorem Since.size {wr : List Addr} {s₀ s : Shared} (x : Since wr s₀ s) : s.os = s₀.os ∧ s.gens = s₀.gens := by
  obtain ⟨h₁, tk₁, rfl, hk₁⟩ := x
  exact ⟨rfl, rfl⟩

abbrev pairObj (i : Nat) (ti : Tok) (c : Nat) (tc : Tok) : Obj := { cls := .type "tuple", data := .seq #[.int i ti, .str ⟨#[c]⟩ tc] }
def GenY (x : Str) (wr : List Addr) : Protocol := fun k s₀ v s₁ kap =>
  (∃ T ti c tc, v = .ref T ∧ x.cps[x.cps.size - 1 - k]? = some c ∧ s₀.heap.get? T = none ∧ s₁.heap.get? T = some (pairObj (x.cps.size - 1 - k) ti c tc)) ∧ Since wr s₀ s₁ ∧ (∀ b ∈ wr, ∃ o, s₁.heap.get? b = some o) ∧
  ∀ s'', (∀ b ∈ wr, ∀ o, s₁.heap.get? b = some o → s''.heap.get? b = some o) → kap (.send .none) s''
def GenP (wr : List Addr) (n : Nat) (s₀ s₁ : Shared) : Prop := n = 0 ∧ Since wr s₀ s₁
abbrev GenR (wr : List Addr) : GenEnd := fun n s₀ r s₁ => r = .ok (.ret .none) ∧ GenP wr n s₀ s₁

section
variable {prog : Program} {w : World} {A : Around} {env : Env} {x : Str} {e it : Addr} {St : Nat → Heap → Prop}

/-- the text's own iterator, whichever it is -/
def CharDraws (prog : Program) (w : World) (x : Str) (it : Addr) (St : Nat → Heap → Prop) : Prop :=
  ∀ B : Around, B.handled = none → Draws prog w B it [it] x.cps.size (fun i v => ∃ c u, x.cps[i]? = some c ∧ v = .str ⟨#[c]⟩ u) St

def GenI (x : Str) (env : Env) (e it : Addr) (St : Nat → Heap → Prop) (i : Nat) (h : Heap) : Prop :=
  (∃ old, IsEnum h e it i old) ∧ St i h ∧ ∃ m, h.Ns env.locals m ∧ m (Str.ofString "escape") = some (.bool false)

theorem gen_turn {q0 q1 q2 q3 q4 q5 q6 q7 q8 q9 q10 q11 : Pos} {k0 k1 k2 : Nat} {X Y : List Stmt} {fs : List Frame}
    (D : CharDraws prog w x it St) (hei : e ≠ it) (heL : e ≠ env.locals) (hiL : it ≠ env.locals)
    (hkf : env.scope.kind = .function) (hxp : env.kindOf (Str.ofString "pos") = some .local) (hxc : env.kindOf (Str.ofString "ch") = some .local) (hxe : env.kindOf (Str.ofString "escape") = some .local)
    (hsc : (env.scope.kind == .class || (env.scope.kind == .module && env.locals != env.globals)) = false) (hco : env.scope.isCoroutine = false) (hint : interactive env = false)
    (hesc : ∀ c ∈ x.cps.toList, c ≠ 92) (hfs : splitAtGen fs = none) (hfg : fs.any Frame.guarded = false)
    (body : List Stmt) (hbody : body = [.If (.Name (Str.ofString "escape") q0) X [.If (.Compare (.Name (Str.ofString "ch") q1) [.Eq] [.Constant (.str (Str.ofString "\\")) k0 q2] q3) Y
      [.Expr (.Yield (some (.Tuple [.Name (Str.ofString "pos") q4, .Name (Str.ofString "ch") q5] k1 q6)) q7) q8] q9] q10])
    (hov : (A.over (.forLoop (.Tuple [.Name (Str.ofString "pos") q4', .Name (Str.ofString "ch") q5'] k2 q11) (.ref e) body [] env) fs).handled = none)
    (hdone : ∀ s₀ s m, s.heap.Ns env.locals m → m (Str.ofString "escape") = some (.bool false) → Since [env.locals, e, it] s₀ s → Seg (model prog w) A (GenR [env.locals, e, it]) (GenY x [env.locals, e, it]) 0 s₀ (.block [] env) ((model prog w).den (.block [] env)) fs s) :
    ∀ (n i : Nat) (s₀ s : Shared), i + n = x.cps.size → GenI x env e it St i s.heap → Since [env.locals, e, it] s₀ s →
      Seg (model prog w) A (GenR [env.locals, e, it]) (GenY x [env.locals, e, it]) n s₀ (.forLoop (.Tuple [.Name (Str.ofString "pos") q4', .Name (Str.ofString "ch") q5'] k2 q11) (.ref e) body [] env)
        ((model prog w).den (.forLoop (.Tuple [.Name (Str.ofString "pos") q4', .Name (Str.ofString "ch") q5'] k2 q11) (.ref e) body [] env)) fs s := by
  have hel : ∀ {h : Heap} {i : Nat}, GenI x env e it St i h → e < h.objs.size ∧ it < h.objs.size ∧ env.locals < h.objs.size := by
    rintro h i ⟨⟨old, he⟩, hst, m, hm, _⟩
    obtain ⟨o, ho⟩ := (D ⟨none, 0, none, none, 0⟩ rfl).live _ _ hst
    exact ⟨Heap.lt_size he, Heap.lt_size ho, hm.lt⟩
  intro n
  induction n with
  | zero =>
    intro i s₀ s hi hG hS
    have hiN : i = x.cps.size := by omega
    subst hiN
    obtain ⟨⟨old, he⟩, hst, m, hm, hesc'⟩ := id hG
    refine seg_forLoop (wpAny_pyNext_enum_endD (D _ hov) he hst fun h' he' => ?_)
    refine hdone s₀ _ m (hm.at' fun o e2 => he' _ o (Ne.symm hiL) e2) hesc' (hS.step (tk := s.toks) fun b o hb e2 => he' b o (fun q => hb (by simp [q])) e2)
  | succ n ih =>
    intro i s₀ s hi hG hS
    obtain ⟨⟨old, he⟩, hst, m, hm, hesc'⟩ := id hG
    obtain ⟨l1, l2, l3⟩ := hel hG
    refine seg_forLoop (wpAny_pyNext_enum_itemD (D _ hov) he hst (by omega) hei (by simpa using hei) fun v h₁ tk hP heo hst₁ hT hsz hk => ?_)
    obtain ⟨c, u, hc, rfl⟩ := hP
    dsimp only
    refine wpAny_letOwnedTupleGo_enum heo fun h₂ he₂ hs₂ => ?_
    have hT2 : h₂.IsTuple s.heap.objs.size #[.int i tk, .str ⟨#[c]⟩ u] := ⟨_, (hs₂.2 _ (Nat.ne_of_gt l1)).trans hT, rfl, _, rfl⟩
    have hz₂ : h₂.objs.size = s.heap.objs.size + 1 := hs₂.1.trans hsz
    refine wpAny_assign_Tuple hov hT2 rfl rfl fun h₃ hx₃ => ?_
    have old₃ : ∀ b o, b < s.heap.objs.size → h₂.get? b = some o → h₃.get? b = some o := fun b o hb x => hx₃ b o (by show b ≠ h₂.objs.size; rw [hz₂]; exact Nat.ne_of_lt (Nat.lt_succ_of_lt hb)) x
    have hn₃ : h₃.Ns env.locals m := (hm.at' fun o y => old₃ _ o l3 ((hs₂.2 _ (Ne.symm heL)).trans (hk _ o (Ne.symm heL) (Ne.symm hiL) y)))
    show wpAny _ _ (do holding [.str ⟨#[c]⟩ u] (assign (.Name (Str.ofString "pos") q4') env (.int i tk)); do holding [] (assign (.Name (Str.ofString "ch") q5') env (.str ⟨#[c]⟩ u)); pure ()) _ _ _
    refine wpAny_bind (wpAny_holding (wpAny_assign_Name (wpAny_storeName_local hxp hn₃ (fun h₄ hn₄ hs₄ => ?_) hsc)))
    refine wpAny_bind (wpAny_holding (wpAny_assign_Name (wpAny_storeName_local hxc hn₄ (fun h₅ hn₅ hs₅ => wpAny_pure ?_) hsc)))
    have up : ∀ b o, b ≠ env.locals → b < s.heap.objs.size → h₂.get? b = some o → h₅.get? b = some o := fun b o hbL hb x =>
      hs₅.extBut b o hbL (hs₄.extBut b o hbL (old₃ b o hb x))
    have hk5 : ∀ b o, b ∉ [env.locals, e, it] → s.heap.get? b = some o → h₅.get? b = some o := by
      intro b o hb e2
      simp only [List.mem_cons, List.not_mem_nil, or_false, not_or] at hb
      exact up b o hb.1 (Heap.lt_size e2) ((hs₂.2 _ hb.2.1).trans (hk _ o hb.2.1 hb.2.2 e2))
    have hme : (fun y => if y = Str.ofString "ch" then some (Value.str ⟨#[c]⟩ u) else if y = Str.ofString "pos" then some (Value.int i tk) else m y) (Str.ofString "escape") = some (.bool false) := by
      dsimp only
      rw [if_neg (by decide), if_neg (by decide)]
      exact hesc'
    have hmc : (fun y => if y = Str.ofString "ch" then some (Value.str ⟨#[c]⟩ u) else if y = Str.ofString "pos" then some (Value.int i tk) else m y) (Str.ofString "ch") = some (Value.str ⟨#[c]⟩ u) := if_pos rfl
    have hmp : (fun y => if y = Str.ofString "ch" then some (Value.str ⟨#[c]⟩ u) else if y = Str.ofString "pos" then some (Value.int i tk) else m y) (Str.ofString "pos") = some (Value.int i tk) := by
      dsimp only
      rw [if_neg (by decide), if_pos rfl]
    have hG5 : GenI x env e it St (i + 1) h₅ := by
      refine ⟨⟨.str ⟨#[c]⟩ u, ?_⟩, (D ⟨none, 0, none, none, 0⟩ rfl).frame _ _ _ hst₁ fun b hb o y => ?_, _, hn₅, ?_⟩
      · have : ((i + 1 : Nat) : Int) = (i : Int) + 1 := by push_cast; rfl
        rw [this]
        exact up e _ heL l1 he₂
      · rw [List.mem_singleton] at hb
        subst hb
        exact up _ o hiL l2 ((hs₂.2 _ (Ne.symm hei)).trans y)
      · exact hme
    have hS5 : Since [env.locals, e, it] s₀ { s with heap := h₅, toks := tk + 1 } := hS.step hk5
    subst hbody
    refine seg_execs_cons (seg_If (wpAny_isTrue_value (wpAny_Name (wpAny_loadName_local hkf hxe hn₅ hme (wpAny_truthy_bool ?_)))))
    rw [if_neg Bool.false_ne_true]
    have hcn : (⟨#[c]⟩ : Str) ≠ Str.ofString "\\" := by
      have := hesc c (by
        have := (Array.getElem?_eq_some_iff.mp hc)
        obtain ⟨hlt, rfl⟩ := this
        exact Array.getElem_mem_toList hlt)
      intro q
      have q2 : (#[c] : Array Nat) = #[92] := congrArg Str.cps q
      simp at q2
      exact this q2
    refine seg_execs_cons (seg_If (wpAny_isTrue_Compare1 (wpAny_Name (wpAny_loadName_local hkf hxc hn₅ hmc (wpAny_Constant_str (PyProof.Rows.eq_str (wpAny_truthy_bool ?_)))))))
    rw [if_neg (by simp [hcn])]
    refine seg_execs_cons (seg_Expr_Yield hfs rfl hfg ?_ hco hint)
    refine wpAny_Tuple (wpAny_items_cons (wpAny_Name (wpAny_loadName_local hkf hxp hn₅ hmp ?_)))
    refine wpAny_items_cons (wpAny_Name (wpAny_loadName_local hkf hxc hn₅ hmc ?_))
    refine wpAny_items_nil ?_
    refine ⟨by rw [sizeLine_eq]; simp only [List.length_cons, List.length_nil]; omega, fun kap hkap => ?_⟩
    dsimp only
    have hidx : x.cps.size - 1 - n = i := by omega
    have hpush : ∀ b o, h₅.get? b = some o → (h₅.push (pairObj i tk c u)).get? b = some o := fun b o e2 => Heap.get?_push_of_some _ e2
    obtain ⟨g1, g2, g3⟩ := hel hG5
    refine ⟨⟨h₅.objs.size, tk, c, u, rfl, by rw [hidx]; exact hc, ?_, by rw [hidx]; exact Heap.get?_push_size _ rfl⟩, hS5.step (tk := tk + 1 + 1 + 1 + 1) fun b o _ e2 => hpush b o e2, ?_, fun s'' hs'' => hkap .none s'' ?_⟩
    · cases hq : s₀.heap.get? h₅.objs.size with
      | none => rfl
      | some o =>
        refine absurd (Heap.lt_size (hS5.heap ?_ hq)) (Nat.lt_irrefl _)
        simp only [List.mem_cons, List.not_mem_nil, or_false, not_or]
        exact ⟨Nat.ne_of_gt g3, Nat.ne_of_gt g1, Nat.ne_of_gt g2⟩
    · obtain ⟨⟨old5, he5⟩, hst5, m5, ⟨oL, _, _, hoL, _⟩, hme5⟩ := hG5
      obtain ⟨oi, hoi⟩ := (D ⟨none, 0, none, none, 0⟩ rfl).live _ _ hst5
      intro b hb
      simp only [List.mem_cons, List.not_mem_nil, or_false] at hb
      rcases hb with rfl | rfl | rfl
      · exact ⟨_, hpush _ _ hoL⟩
      · exact ⟨_, hpush _ _ he5⟩
      · exact ⟨_, hpush _ _ hoi⟩
    · refine seg_again rfl (ih (i + 1) s'' s'' (by omega) ?_ (Since.refl _ _))
      obtain ⟨⟨old5, he5⟩, hst5, m5, hm5, hme5⟩ := hG5
      refine ⟨⟨old5, hs'' e (by simp) _ (hpush _ _ he5)⟩, (D ⟨none, 0, none, none, 0⟩ rfl).frame _ _ _ hst5 fun b hb o y => ?_, m5, hm5.at' fun o y => hs'' _ (by simp) _ (hpush _ _ y), hme5⟩
      rw [List.mem_singleton] at hb
      subst hb
      exact hs'' _ (by simp) _ (hpush _ _ y)
end
end Mine
end
section
local macro_rules | `(tactic| walk_at "MINE G_all 0") => `(tactic| skip)
theorem Mine.offGall : True := by
  w_top off
  trivial
open PySem PySem.W PyProof.Rows PySem.Calls PySem.Spec
set_option maxRecDepth 100000
namespace Mine
def Hold (p : Prop) : Prop := p
theorem held {p : Prop} (h : Hold p) : p := h
section
variable {prog : Program} {w : World} {A : Around} {E : Value → Shared → Prop} {s : Shared}

theorem next_gen {a : Addr} {g n : Nat} {gs : GenState} {P : Nat → Shared → Shared → Prop} {Y : Protocol} {Q : Option Value → Shared → Prop} (hh : A.handled = none)
    (hl : s.heap.NoLimit) (hroom : A.depth < recursionLimit) (hg : s.heap.IsGen a g) (hgs : s.gens[g]? = some gs)
    (hgo : gs.Goes (model prog w) A.in1 (fun n s₀ r s₁ => r = .ok (.ret .none) ∧ P n s₀ s₁) Y n (.send .none) (s.setGen g .running))
    (hY : ∀ v s₁ gs', gs'.bare = true → Y (n - 1) (s.setGen g .running) v s₁ (fun r' s'' => match n with
        | 0 => False
        | m + 1 => gs'.Goes (model prog w) A.in1 (fun n s₀ r s₁ => r = .ok (.ret .none) ∧ P n s₀ s₁) Y m r' s'') → Q (some v) (s₁.setGen g gs'))
    (hP : ∀ s₁, P n (s.setGen g .running) s₁ → ∀ h', (∀ b o, s₁.heap.get? b = some o → h'.get? b = some o) → Q none { s₁.setGen g .finished with heap := h' }) :
    wpAny (model prog w) A (pyNext (.ref a)) Q E s := by
  unfold pyNext
  refine wpAny_bind (wpAny_attempt (wpAny_callSpecial?_slot (name := Str.ofString "__next__") hg.typeIs slot_gen_next
    (wpAny_call_entry slot_gen_next hg.typeIs entry_gen_next ?_ (args_gen_next _))))
  show wpAny _ _ (Builtin.Generator.genWake (.ref a) (.send .none)) _ _ s
  unfold Builtin.Generator.genWake
  refine wpAny_bind (wpAny_holding (wpAny_genNumber hg (wpAny_bind (wpAny_genState hgs ?_))))
  cases gs with
  | running => exact hgo.elim
  | finished => exact hgo.elim
  | _ =>
    refine wpAny_bind (wpAny_roomToWake hl hroom ?_)
    show wpAny _ _ (.resume g (.send .none) [] _) _ _ s
    refine wpAny_resumeQ hgs hgo (fun x s₁ hx => ?_) (fun v s₁ gs' hb hv => ?_)
    · obtain ⟨rfl, hp⟩ := hx
      show wpAny _ _ (newExc (.type "StopIteration") [] >>= _) _ _ _
      refine wpAny_bind ?_
      simp only [newExc, newTuple]
      refine wpAny_bind (wpAny_newObj_type ?_ (by size_fits))
      refine wpAny_bind (m := firstArgMember _ _) (wpAny_of_eq (a := Value.none) (by first | rfl | (simp only [firstArgMember]; rfl)) ?_)
      refine wpAny_newObj_type ?_ (by size_fits)
      simp only [raiseNew]
      refine wpAny_bind (wpAny_bind (wpAny_handled ?_))
      rw [show A.in1.handled = none from hh]
      refine wpAny_throw ?_
      refine wpAny_bind (wpAny_isInstance (T := "StopIteration") (b := true) ⟨_, Heap.get?_push_size _ rfl, rfl⟩ isSubtype_stop ?_)
      exact wpAny_pure (hP s₁ hp _ fun b o hb => Heap.get?_push_of_some _ (Heap.get?_push_of_some _ hb))
    · exact wpAny_pure ⟨v, rfl, wpAny_pure (hY v s₁ gs' hb hv)⟩
end
theorem char_draws {prog : Program} {w : World} {x : Str} {t : Tok} {it : Addr} {h : Heap} (hit : h.IsStrIter it (strIterType x) x t 0) : ∃ St, CharDraws prog w x it St ∧ St 0 h := by
  cases ha : x.cps.all (· < 128)
  · have hit' : h.IsStrIter it "str_iterator" x t 0 := by simpa [strIterType, ha] using hit
    exact ⟨_, fun B hB => Draws.strWide hB it x t, hit'⟩
  · have hit' : h.IsStrIter it "str_ascii_iterator" x t 0 := by simpa [strIterType, ha] using hit
    exact ⟨_, fun B hB => Draws.strAscii hB it x t, hit'⟩
local macro_rules | `(tactic| walk_at "call type:enumerate") => `(tactic| k_dflt (refine held ?_))
set_option maxHeartbeats 4000000 in
theorem gen_call {w : World} {A : Around} {R : Result → Shared → Prop} {s : Shared} {loose : List Str} {mean : ExcName → Option Value} {mg mb : Str → Option Value} {x : Str} {t : Tok}
    (X : (hd0.heap_1_1 w.params).In s.heap) (T : Top hd0.view_1_2 loose mean mg mb s.heap) (hroom : A.depth < recursionLimit) (hh : A.handled = none) (hesc : ∀ c ∈ x.cps.toList, c ≠ 92)
    (hN : ∀ h' tk c, Ext s.heap h' → h'.IsGen (s.heap.objs.size + 1) s.gens.size → h'.objs.size = s.heap.objs.size + 2 →
       (∀ B : Around, B.handled = none → (GenState.fresh c).Goes (model Challenge.rw_sr0057_01.row.prog w) B (GenR [s.heap.objs.size, s.heap.objs.size + 3, s.heap.objs.size + 2]) (GenY x [s.heap.objs.size, s.heap.objs.size + 3, s.heap.objs.size + 2]) x.cps.size (.send .none)
         ({ s with heap := h', gens := s.gens.push (.fresh c), toks := tk }.setGen s.gens.size .running)) →
       R (.ok (.ret (.ref (s.heap.objs.size + 1)))) { s with heap := h', gens := s.gens.push (.fresh c), toks := tk }) :
    codeAny (model Challenge.rw_sr0057_01.row.prog w) A (.call (.ref 36) ⟨[.str x t], []⟩) R s := by
  have hlim := T.nolimit
  revert X; k_fill; intro X
  refine' enterGen [(Str.ofString "addr", Value.str x t)] X hlim hroom ?ho ?hcd ?hb ?hl ?_ ?c1 ?c2 ?c3 ?c4
  case ho => k_is
  case hcd => k_is
  case hb => rfl
  case hl => exact locs rfl
  case c1 => rfl
  case c2 => rfl
  case c3 => rfl
  case c4 => decide
  intro h' tk hns hext hgen hsz
  refine hN h' tk _ hext hgen hsz fun B hB => ⟨rfl, ?_⟩
  generalize hs1 : Shared.setGen _ _ _ = s1
  have hs1h : s1.heap = h' := by rw [← hs1]; rfl
  clear hs1
  obtain ⟨h1, g1, d1, tk1, os1⟩ := s1
  dsimp only at hs1h
  subst hs1h
  obtain ⟨hd0, dp, fr, gd, un⟩ := B
  dsimp only at hB
  subst hB
  have F : Fr s.heap s.heap.objs.size h1 (fun y => List.lookup y [(Str.ofString "addr", Value.str x t)].reverse) := ⟨hns, hext, Nat.le_refl _⟩
  have N : News s.heap s.heap.objs.size h1 [] := News.nil
  refine seg_func (seg_execs_cons (seg_plain (wpAny_Assign_Name (wpAny_Constant_int (wpAny_storeName_local rfl F.ns (fun h2 hn2 hs2 => ?_) rfl)) rfl)))
  dsimp only at hs2 ⊢
  refine seg_execs_cons (seg_plain (wpAny_Assign_Name (wpAny_Constant_bool (wpAny_storeName_local rfl hn2 (fun h3 hn3 hs3 => ?_) rfl)) rfl))
  dsimp only at hs3 ⊢
  have F3 := (F.set hn2 hs2).set hn3 hs3
  have N3 : News s.heap s.heap.objs.size h3 [] := News.nil
  have hz3 : h3.objs.size = s.heap.objs.size + 2 := hs3.1.trans (hs2.1.trans hsz)
  have hlim3 : h3.NoLimit := hlim.keeps F3.keep
  clear F N hn2
  refine seg_execs_cons (seg_For ?_ (by intro _; rfl))
  k_steps
  unfold Hold
  refine call_enumerate_str fun h5 he5 hit5 hsz5 hext5 => ?_
  dsimp only at he5 hit5 hsz5 hext5 ⊢
  rename Fr _ _ _ _ => F2
  refine wpAny_pyIter_slot (T := "enumerate") ⟨_, he5, rfl⟩ PySem.F.slot_enumerate_iter (wpAny_call_entry PySem.F.slot_enumerate_iter ⟨_, he5, rfl⟩ PySem.F.entry_enumerate_iter ?_ (PySem.F.args_enumerate_iter_1 _))
  show wpAny _ _ (ret (.ref _)) _ _ _
  refine wpAny_pure ⟨_, rfl, "enumerate", _, ⟨_, he5, rfl⟩, PySem.F.slot_enumerate_next.lookup, ?_⟩
  intro p
  rw [hz3] at he5 hit5 hsz5 ⊢
  obtain ⟨St, D, hst⟩ := char_draws (prog := Challenge.rw_sr0057_01.row.prog) (w := w) hit5
  have hn5 := hn3.at' fun o e2 => hext5 _ o e2
  refine gen_turn (env := envOf (Str.ofString "_iter_escaped_chars") _ s.heap.objs.size 36 (Value.ref 35)) D (Nat.succ_ne_self _) ?e1 ?e2 ?a1 ?a2 ?a3 ?a4 ?a5 ?a6 ?a7 hesc ?a8 ?a9 _ rfl ?hov ?_ x.cps.size 0 _ _ (Nat.zero_add _) ?g1 ?_
  case a1 => rfl
  case a2 => rfl
  case a3 => rfl
  case a4 => rfl
  case a5 => rfl
  case a6 => rfl
  case a7 => rfl
  case a8 => rfl
  case a9 => rfl
  case hov => rfl
  case g1 => exact ⟨⟨_, he5⟩, hst, _, hn5, rfl⟩
  case e1 => show s.heap.objs.size + 2 + 1 ≠ s.heap.objs.size; omega
  case e2 => show s.heap.objs.size + 2 ≠ s.heap.objs.size; omega
  · intro s₀ s2 m hm hme hS
    refine seg_block (seg_execs_nil ?_)
    refine seg_leaf (.ok .next) ?_
    show Seg _ _ _ _ _ _ _ (Sem.wrap _ _ _ _ (execs [_] _)) [] s2
    refine seg_execs_cons (seg_If (wpAny_isTrue_value (wpAny_Name (wpAny_loadName_local rfl rfl hm hme (wpAny_truthy_bool ?_)))))
    rw [if_neg Bool.false_ne_true]
    refine seg_execs_nil ?_
    refine seg_execs_nil ?_
    exact seg_end (.ok (.ret .none)) ⟨rfl, rfl, hS⟩
  · refine ⟨_, _, rfl, fun b o hb e2 => hext5 b o ?_⟩
    simp only [List.mem_cons, List.not_mem_nil, or_false, not_or] at hb
    exact hs3.extBut b o hb.1 (hs2.extBut b o hb.1 e2)
end Mine
end
section
theorem Mine.offGfor : True := by
  w_top off
  trivial
open PySem PySem.W PyProof.Rows PySem.Calls PySem.Spec
set_option maxRecDepth 100000
namespace Mine
section
variable {prog : Program} {w : World} {A : Around} {s : Shared} {env : Env} {h₀ : Heap}

abbrev GoesG (prog : Program) (w : World) (B : Around) (x : Str) (wr : List Addr) (n : Nat) (gs : GenState) (s : Shared) : Prop :=
  gs.Goes (model prog w) B (GenR wr) (GenY x wr) n (.send .none) s
/-- where the generator stands after i of its values -/
def GenSt (prog : Program) (w : World) (B : Around) (x : Str) (I g : Nat) (wr : List Addr) : Nat → Shared → Prop
  | 0, s => s.heap.IsGen I g ∧ s.heap.NoLimit ∧ ∃ gs, s.gens[g]? = some gs ∧ GoesG prog w B x wr x.cps.size gs (s.setGen g .running)
  | i + 1, s => s.heap.IsGen I g ∧ s.heap.NoLimit ∧ (∀ b ∈ wr, ∃ o, s.heap.get? b = some o) ∧ ∃ gs, s.gens[g]? = some gs ∧
      ∀ s'' : Shared, (∀ b ∈ wr, ∀ o, s.heap.get? b = some o → s''.heap.get? b = some o) → GoesG prog w B x wr (x.cps.size - (i + 1)) gs s''
theorem GenSt.now {B : Around} {x : Str} {I g : Nat} {wr : List Addr} : ∀ {i : Nat} {s : Shared}, GenSt prog w B x I g wr i s →
    s.heap.IsGen I g ∧ s.heap.NoLimit ∧ ∃ gs, s.gens[g]? = some gs ∧ GoesG prog w B x wr (x.cps.size - i) gs (s.setGen g .running)
  | 0, _, h => h
  | _ + 1, _, ⟨h1, h2, _, gs, h3, h4⟩ => ⟨h1, h2, gs, h3, h4 _ fun _ _ _ e => e⟩
theorem GenSt.frame {B : Around} {x : Str} {I g : Nat} {wr : List Addr} {i : Nat} {s s' : Shared} (st : GenSt prog w B x I g wr (i + 1) s) (hg : s'.gens = s.gens) (hl : s'.heap.NoLimit)
    (hk : ∀ b ∈ I :: wr, ∀ o, s.heap.get? b = some o → s'.heap.get? b = some o) : GenSt prog w B x I g wr (i + 1) s' := by
  obtain ⟨⟨o, nm, qn, ho, r⟩, h2, h3, gs, h4, h5⟩ := st
  refine ⟨⟨o, nm, qn, hk I (.head _) _ ho, r⟩, hl, fun b hb => ?_, gs, by rw [hg]; exact h4, fun s'' hs => h5 s'' fun b hb o e => hs b hb o (hk b (.tail _ hb) o e)⟩
  obtain ⟨o, e⟩ := h3 b hb
  exact ⟨o, hk b (.tail _ hb) o e⟩

theorem gens_bare {gens : Array GenState} {g : Nat} {gs : GenState} (G : AllBare gens) (hb : gs.bare = true) : AllBare (gens.setIfInBounds g gs) := by
  intro y hy
  obtain ⟨i, hi, rfl⟩ := Array.mem_iff_getElem.mp hy
  rw [Array.getElem_setIfInBounds (by simpa using hi)]
  split
  · exact hb
  · exact G _ (Array.getElem_mem (by simpa using hi))

theorem gen_item {B : Around} {x : Str} {I g : Nat} {wr : List Addr} {i : Nat} {E : Value → Shared → Prop} {Q : Option Value → Shared → Prop} (hh : B.handled = none) (hroom : B.depth < recursionLimit) (hIw : I ∉ wr) (hcw : cStatics ∉ wr)
    (st : GenSt prog w B.in1 x I g wr i s) (hi : i < x.cps.size)
    (h : ∀ T ti c tc s', x.cps[i]? = some c → s.heap.get? T = none → s'.heap.get? T = some (pairObj i ti c tc) → GenSt prog w B.in1 x I g wr (i + 1) s' → (∀ b o, b ∉ wr → s.heap.get? b = some o → s'.heap.get? b = some o) →
      s'.os = s.os → (AllBare s.gens → AllBare s'.gens) → Q (some (.ref T)) s') : wpAny (model prog w) B (pyNext (.ref I)) Q E s := by
  obtain ⟨hg, hl, gs, hgs, hgo⟩ := st.now
  obtain ⟨m, hm⟩ : ∃ m, x.cps.size - i = m + 1 := ⟨x.cps.size - i - 1, by omega⟩
  rw [hm] at hgo
  refine next_gen (P := GenP wr) (Y := GenY x wr) hh hl hroom hg hgs hgo (fun v s₁ gs' hb hv => ?_) (fun s₁ hp h' hk => ?_)
  · obtain ⟨⟨T, ti, c, tc, rfl, hc, hT0, hT1⟩, ⟨h1, tk1, rfl, hk1⟩, hlive, hkap⟩ := hv
    have hidx : x.cps.size - 1 - (m + 1 - 1) = i := by omega
    rw [hidx] at hc hT1
    refine h T ti c tc _ hc hT0 hT1 ⟨?_, ?_, hlive, gs', setGen_self (gs := .running) (setGen_self hgs), fun s'' hs => ?_⟩ (fun b o hb e => hk1 b o hb e) rfl fun G => ?_
    · obtain ⟨o, nm, qn, ho, r⟩ := hg
      exact ⟨o, nm, qn, hk1 I o hIw ho, r⟩
    · obtain ⟨mc, hns, hnn⟩ := hl
      exact ⟨mc, hns.at' fun o e => hk1 cStatics o hcw e, hnn⟩
    · have e : x.cps.size - (i + 1) = m := by omega
      rw [e]
      exact hkap s'' hs
    · exact gens_bare (gens_bare G rfl) hb
  · exact absurd hp.1 (Nat.succ_ne_zero m)
theorem gen_stop {B : Around} {x : Str} {I g : Nat} {wr : List Addr} {E : Value → Shared → Prop} {Q : Option Value → Shared → Prop} (hh : B.handled = none) (hroom : B.depth < recursionLimit)
    (st : GenSt prog w B.in1 x I g wr x.cps.size s)
    (h : ∀ s', (∀ b o, b ∉ wr → s.heap.get? b = some o → s'.heap.get? b = some o) → s'.os = s.os → (AllBare s.gens → AllBare s'.gens) → Q none s') : wpAny (model prog w) B (pyNext (.ref I)) Q E s := by
  obtain ⟨hg, hl, gs, hgs, hgo⟩ := st.now
  rw [Nat.sub_self] at hgo
  refine next_gen (P := GenP wr) (Y := GenY x wr) hh hl hroom hg hgs hgo (fun v s₁ gs' hb hv => ?_) (fun s₁ hp h' hk => ?_)
  · obtain ⟨_, _, _, hkap⟩ := hv
    exact False.elim (hkap s₁ fun _ _ _ e => e)
  · obtain ⟨_, h1, tk1, rfl, hk1⟩ := hp
    exact h _ (fun b o hb e => hk b o (hk1 b o hb e)) rfl fun G => gens_bare (gens_bare G rfl) rfl

/-- the turn has ended well, and no generator has moved -/
def TurnEndG (h₀ : Heap) (L : Addr) (own : List (Addr × Obj)) (J : (Str → Option Value) → List (Addr × Obj) → Prop) (s₀ s₁ : Shared) (Q : Flow → Shared → Prop) (f : Flow) (s₃ : Shared) : Prop := TurnEnd h₀ L own J s₀ Q f s₃ ∧ s₃.gens = s₁.gens

theorem owns_of {h : Heap} : ∀ (bs : List Addr), (∀ b ∈ bs, ∃ o, h.get? b = some o) → ∃ own : List (Addr × Obj), own.map (·.1) = bs ∧ ∀ p ∈ own, h.get? p.1 = some p.2
  | [], _ => ⟨[], rfl, fun _ h => nomatch h⟩
  | b :: bs, hb => by
    obtain ⟨o, ho⟩ := hb b (.head _)
    obtain ⟨own, h1, h2⟩ := owns_of bs fun c hc => hb c (.tail _ hc)
    refine ⟨(b, o) :: own, by simp [h1], fun p hp => ?_⟩
    rcases List.mem_cons.mp hp with rfl | hp
    · exact ho
    · exact h2 p hp

theorem iter_genS {σ : Type} {body orelse : List Stmt} {Q : Flow → Shared → Prop} {I g : Nat} {wr : List Addr} {x : Str} {m₀ : Str → Option Value} {xi xc : Str} {px1 px2 px : Pos} {kx : Nat}
    (Led : σ → List (Addr × Obj)) (ps : σ → List (Str × Value)) (stored : List Str) (P : Nat → σ → Prop) (c₀ : σ) {L : Addr}
    (hh : A.handled = none) (hroom : A.depth < recursionLimit) (hst : GenSt prog w A.in1 x I g wr 0 s) (hnL : h₀.NoLimit) (hIw : I ∉ wr) (hLw : L ∉ I :: wr) (hnew : ∀ b ∈ I :: wr, h₀.get? b = none) (hnw : ∀ p ∈ Led c₀, p.1 ∉ I :: wr)
    (F : Fr h₀ L s.heap m₀) (N : News h₀ L s.heap (Led c₀)) (G : AllBare s.gens) (hL : env.locals = L) (hp : P 0 c₀) (hk : ∀ p ∈ ps c₀, m₀ p.1 = some p.2)
    (hxi : env.kindOf xi = some .local) (hxc : env.kindOf xc = some .local) (hsc : (env.scope.kind == .class || (env.scope.kind == .module && env.locals != env.globals)) = false)
    (turn : ∀ i ch ti tc c (u : Str → Option Value) s₁ own, x.cps[i]? = some ch → P i c → OwnOff own ((Led c).map (·.1)) →
      Fr h₀ L s₁.heap (fun y => if y = xc then some (.str ⟨#[ch]⟩ tc) else if y = xi then some (.int (i : Int) ti) else kstB (fun z => if stored.contains z then u z else m₀ z) (ps c) y) → News h₀ L s₁.heap (Led c ++ own) → s₁.os = s.os → AllBare s₁.gens →
      wpAny (model prog w) A (execs body env) (TurnEndG h₀ L own (StJ Led ps stored m₀ (P (i + 1))) s s₁ Q) noE s₁)
    (done : ∀ c (u : Str → Option Value) s₁, P x.cps.size c → Fr h₀ L s₁.heap (kstB (fun z => if stored.contains z then u z else m₀ z) (ps c)) → News h₀ L s₁.heap (Led c) → s₁.os = s.os → AllBare s₁.gens →
      wpAny (model prog w) A (execs orelse env) Q noE s₁) :
    wpAny (model prog w) A (pyIter (.ref I)) (fun it s₂ => codeAny (model prog w) A (.forLoop (.Tuple [.Name xi px1, .Name xc px2] kx px) it body orelse env) (fun r s' => match r with | .ok f => Q f s' | .error _ => False) s₂) noE s := by
  subst hL
  obtain ⟨hgen0, _⟩ := hst.now
  refine wpAny_pyIter_gen hgen0 ?_
  have hcw : cStatics ∉ wr := by
    intro hm
    obtain ⟨mc, ⟨o, _, _, ho, _⟩, _⟩ := hnL
    have := hnew _ (.tail _ hm)
    rw [this] at ho
    cases ho
  refine codeAny_forLoop_any (fun k s₁ => ∃ i m₁ nx, GenSt prog w A.in1 x I g wr i s₁ ∧ Fr h₀ env.locals s₁.heap m₁ ∧ News h₀ env.locals s₁.heap nx ∧ (∀ p ∈ nx, p.1 ∉ I :: wr) ∧ StJ Led ps stored m₀ (P i) m₁ nx ∧ i ≤ x.cps.size ∧ k = x.cps.size + 1 - i ∧ s₁.os = s.os ∧ AllBare s₁.gens) ?_ (x.cps.size + 1)
    ⟨0, m₀, Led c₀, hst, F, N, hnw, ⟨c₀, hp, rfl, hk, fun _ _ => rfl⟩, Nat.zero_le _, rfl, rfl, G⟩
  rintro k s₁ ⟨i, m₁, nx, hst₁, F₁, N₁, ha, hJ, hi, rfl, hos, hg⟩
  have next : ∀ h₂ : Heap, (∀ b o, b ∉ wr → s₁.heap.get? b = some o → h₂.get? b = some o) → Fr h₀ env.locals h₂ m₁ ∧ News h₀ env.locals h₂ nx := fun h₂ hk =>
    ⟨⟨F₁.ns.at' fun o e => hk _ o (fun h => hLw (.tail _ h)) e, fun b o e => hk b o (fun hb => by rw [hnew b (.tail _ hb)] at e; cases e) (F₁.keep b o e), F₁.above⟩,
      fun p hp => ⟨hk _ _ (fun hb => ha p hp (.tail _ hb)) (N₁ p hp).1, (N₁ p hp).2⟩⟩
  by_cases hlt : i < x.cps.size
  · refine noE_any (gen_item hh hroom hIw hcw hst₁ hlt fun T ti c tc s₂ hc hT0 hT1 hst₂ hk₂ hos₂ hg₂ => ?_)
    obtain ⟨F₂, N₂⟩ := next s₂.heap hk₂
    dsimp only
    obtain ⟨oI, _, _, hoI, hcI, hdI, _⟩ := hst₂.now.1
    have hTI : T ≠ I := by
      rintro rfl
      obtain ⟨oI', _, _, hoI', _⟩ := hst₁.now.1
      rw [hT0] at hoI'
      cases hoI'
    -- the tuple is not the generator's own
    have hlet : ∀ (Q' : Unit → Shared → Prop), Q' () s₂ → wpAny (model prog w) A (letOwnedTupleGo (.Tuple [.Name xi px1, .Name xc px2] kx px) (.ref I) (.ref T)) Q' noE s₂ := by
      intro Q' hq
      unfold letOwnedTupleGo
      refine wpAny_bind (wpAny_load hoI ?_)
      rw [hcI, hdI]
      exact wpAny_pure hq
    refine noE_any (hlet _ ?_)
    have hTt : s₂.heap.IsTuple T #[.int i ti, .str ⟨#[c]⟩ tc] := ⟨_, hT1, rfl, _, rfl⟩
    refine noE_any (wpAny_assign_Tuple hh hTt rfl rfl fun h₃ hx₃ => ?_)
    have e3 : ∀ b o, s₂.heap.get? b = some o → h₃.get? b = some o := fun b o e => hx₃ b o (Nat.ne_of_lt (Heap.lt_size e)) e
    obtain ⟨c', hP, rfl, h1, h2⟩ := hJ
    have F₃ := frMap (frExt F₂ e3) h1 h2
    have N₃ := newsExt N₂ e3
    show wpAny _ _ (do holding [.str ⟨#[c]⟩ tc] (assign (.Name xi px1) env (.int i ti)); do holding [] (assign (.Name xc px2) env (.str ⟨#[c]⟩ tc)); pure ()) _ _ _
    refine wpAny_bind (wpAny_holding (wpAny_assign_Name (wpAny_storeName_local hxi F₃.ns (fun h₄ hn₄ hs₄ => ?_) hsc)))
    refine wpAny_bind (wpAny_holding (wpAny_assign_Name (wpAny_storeName_local hxc hn₄ (fun h₅ hn₅ hs₅ => wpAny_pure ?_) hsc)))
    have F₅ := (F₃.set hn₄ hs₄).set hn₅ hs₅
    have N₅ := (N₃.set hs₄).set hs₅
    have e5 : ∀ b o, b ≠ env.locals → s₂.heap.get? b = some o → h₅.get? b = some o := fun b o hb e => hs₅.extBut b o hb (hs₄.extBut b o hb (e3 b o e))
    have hbl : ∀ b ∈ I :: wr, b ≠ env.locals := fun b hb e => hLw (e ▸ hb)
    have hlive : ∀ b ∈ I :: wr, ∃ o, h₅.get? b = some o := by
      intro b hb
      rcases List.mem_cons.mp hb with rfl | hb'
      · exact ⟨_, e5 _ _ (hbl _ hb) hoI⟩
      · obtain ⟨o, ho⟩ := hst₂.2.2.1 b hb'
        exact ⟨o, e5 _ _ (hbl _ hb) ho⟩
    obtain ⟨own, hown1, hown2⟩ := owns_of (I :: wr) hlive
    have hmemO : ∀ p ∈ own, p.1 ∈ I :: wr := fun p hp => by rw [← hown1]; exact List.mem_map.mpr ⟨p, hp, rfl⟩
    have N₆ : News h₀ env.locals h₅ (Led c' ++ own) := by
      intro p hp
      rcases List.mem_append.mp hp with hp | hp
      · exact N₅ p hp
      · exact ⟨hown2 p hp, hbl _ (hmemO p hp), hnew _ (hmemO p hp)⟩
    have hoff : OwnOff own ((Led c').map (·.1)) := by
      intro p hp b hb e
      obtain ⟨q, hq, rfl⟩ := List.mem_map.mp hb
      exact ha q hq (e ▸ hmemO p hp)
    refine noE_any (wpAny_mono (turn i c ti tc c' m₁ _ own hc hP hoff F₅ N₆ (hos₂.trans hos) (hg₂ hg)) (fun f s₄ h₄ => ?_) fun _ _ x => x)
    obtain ⟨h₄, hge⟩ := h₄
    have fin : TurnOk h₀ env.locals own (StJ Led ps stored m₀ (P (i + 1))) s s₄ →
        ∃ k', k' < x.cps.size + 1 - i ∧ ∃ i m₁ nx, GenSt prog w A.in1 x I g wr i s₄ ∧ Fr h₀ env.locals s₄.heap m₁ ∧ News h₀ env.locals s₄.heap nx ∧ (∀ p ∈ nx, p.1 ∉ I :: wr) ∧ StJ Led ps stored m₀ (P i) m₁ nx ∧ i ≤ x.cps.size ∧ k' = x.cps.size + 1 - i ∧ s₄.os = s.os ∧ AllBare s₄.gens := by
      rintro ⟨m', news', nx', F', N', hn', ho', ha', hJ', hos', hg'⟩
      refine ⟨x.cps.size + 1 - (i + 1), by omega, i + 1, m', nx', hst₂.frame hge (hnL.keeps F'.keep) fun b hb o e => ?_, F', newsSub N' hn', fun p hp hmem => ?_, hJ', hlt, rfl, hos', hg'⟩
      · have hb' : b ∈ own.map (·.1) := by rw [hown1]; exact hb
        obtain ⟨q, hq, rfl⟩ := List.mem_map.mp hb'
        have h5 := hown2 q hq
        rw [e5 _ _ (hbl _ hb) e] at h5
        cases h5
        exact (N' q (ho' q hq)).1
      · have hb' : p.1 ∈ own.map (·.1) := by rw [hown1]; exact hmem
        obtain ⟨q, hq, e⟩ := List.mem_map.mp hb'
        exact ha' q hq p.1 (List.mem_map.mpr ⟨p, hp, rfl⟩) e
    cases f with
    | ret v => exact h₄
    | brk => exact h₄
    | cont => exact fin h₄
    | next => exact fin h₄
  · have hin : i = x.cps.size := by omega
    subst hin
    refine noE_any (gen_stop hh hroom hst₁ fun s₂ hk₂ hos₂ hg₂ => ?_)
    obtain ⟨F₂, N₂⟩ := next s₂.heap hk₂
    obtain ⟨c', hP, rfl, h1, h2⟩ := hJ
    exact noE_any (done c' m₁ s₂ hP (frMap F₂ h1 h2) N₂ (hos₂.trans hos) (hg₂ hg))
end
end Mine
end
section
local macro_rules | `(tactic| walk_at "MINE F_kind 0") => `(tactic| skip)
theorem Mine.offFkind : True := by
  w_top off
  trivial
open PySem PySem.W PyProof.Rows PySem.Calls PySem.Spec
set_option maxRecDepth 100000
namespace Mine

set_option maxHeartbeats 4000000 in
theorem sp_isterm {w : World} {n : Int} {t : Tok} : SpecF w 5 53 [.int n t] (fun _ => True) (fun v _ _ => v = .bool (decide (n < 256))) := by
  intro A s loose mean mg mb X T hh hd hu G _
  revert X; k_fill; intro X
  have hlim := T.nolimit
  (refine' enterK [(Str.ofString "x", Value.int n t)] X hlim ?hr1 ?ho1 ?hcd1 ?hb1 ?hl1 ?_ ?c11 ?c21 ?c31 ?c41; (case hr1 => (try dsimp only); omega); (case ho1 => k_is); (case hcd1 => k_is); (case hb1 => rfl); (case hl1 => exact locs rfl); (case c11 => rfl); (case c21 => rfl); (case c31 => rfl); (case c41 => decide))
  intro h₁ F N
  k_steps
  exact SpecEnd.mk F.keep rfl G rfl
set_option maxHeartbeats 4000000 in
theorem sp_isnon {w : World} {n : Int} {t : Tok} : SpecF w 5 60 [.int n t] (fun _ => True) (fun v _ _ => v = .bool (decide (n ≥ 256))) := by
  intro A s loose mean mg mb X T hh hd hu G _
  revert X; k_fill; intro X
  have hlim := T.nolimit
  (refine' enterK [(Str.ofString "x", Value.int n t)] X hlim ?hr2 ?ho2 ?hcd2 ?hb2 ?hl2 ?_ ?c12 ?c22 ?c32 ?c42; (case hr2 => (try dsimp only); omega); (case ho2 => k_is); (case hcd2 => k_is); (case hb2 => rfl); (case hl2 => exact locs rfl); (case c12 => rfl); (case c22 => rfl); (case c32 => rfl); (case c42 => decide))
  intro h₁ F N
  k_steps
  exact SpecEnd.mk F.keep rfl G rfl
set_option maxHeartbeats 4000000 in
theorem sp_iseof {w : World} {n : Int} {t : Tok} : SpecF w 5 67 [.int n t] (fun _ => True) (fun v _ _ => v = .bool (n == 0)) := by
  intro A s loose mean mg mb X T hh hd hu G _
  revert X; k_fill; intro X
  have hlim := T.nolimit
  (refine' enterK [(Str.ofString "x", Value.int n t)] X hlim ?hr3 ?ho3 ?hcd3 ?hb3 ?hl3 ?_ ?c13 ?c23 ?c33 ?c43; (case hr3 => (try dsimp only); omega); (case ho3 => k_is); (case hcd3 => k_is); (case hb3 => rfl); (case hl3 => exact locs rfl); (case c13 => rfl); (case c23 => rfl); (case c33 => rfl); (case c43 => decide))
  intro h₁ F N
  k_steps
  exact SpecEnd.mk F.keep rfl G rfl

def kindDue (ps : List Int) : Bool × Bool × Bool := if ps.any (fun p => decide (p > 7)) then (false, true, false) else (true, false, decide (ps = []))

set_option maxHeartbeats 4000000 in
theorem sp_kind {w : World} {n : Int} {t : Tok} {l : Addr} {vs : List Value} {ps : List Int} (hi : IntsAre vs ps) :
    SpecF w 20 108 [.int n t, .ref l] (fun h => h.IsList l vs.toArray) (fun v _ _ => v = .bool (decide (decide (n < 256) = (kindDue ps).1 ∧ decide (n ≥ 256) = (kindDue ps).2.1 ∧ (n == 0) = (kindDue ps).2.2))) := by
  intro A s loose mean mg mb X T hh hd hu G hl
  revert X; k_fill; intro X
  have hlim := T.nolimit
  (refine' enterK [(Str.ofString "number", Value.int n t), (Str.ofString "places", Value.ref l)] X hlim ?hr4 ?ho4 ?hcd4 ?hb4 ?hl4 ?_ ?c14 ?c24 ?c34 ?c44; (case hr4 => (try dsimp only); omega); (case ho4 => k_is); (case hcd4 => k_is); (case hb4 => rfl); (case hl4 => exact locs rfl); (case c14 => rfl); (case c24 => rfl); (case c34 => rfl); (case c44 => decide))
  intro h₁ F N
  k_steps
  ((rename Fr _ _ _ _ => F2); (rename News _ _ _ _ => N2))
  refine for_head ?_ (by intro _; rfl)
  walk1
  refine iter_listS (σ := Addr × (Bool × Bool × Bool)) (fun c => [(c.1, listOf [Value.bool c.2.1, Value.bool c.2.2.1, Value.bool c.2.2.2].toArray 0)]) (fun c => [(Str.ofString "due", .ref c.1)]) [Str.ofString "due", Str.ofString "place"]
    (fun i c => c.2 = if (ps.take i).any (fun p => decide (p > 7)) then (false, true, false) else (true, false, decide (ps = []))) (_, (_, _, _)) hh (Fr.lst F2 hl) (list_neL hl) (.inl (list_ex hl)) F2 (newsHead N2) G rfl rfl (by kst_all) rfl rfl ?_ ?_
  · rintro i v ⟨a, b1, b2, b3⟩ u s₁ own hv hP hoff F3 N3 hos hg
    obtain ⟨p, t, rfl, hp⟩ := ints_get hi hv
    dsimp only [kstB] at F3
    simp only [List.cons_append, List.nil_append] at N3
    clear F2 N2
    k_steps
    · ((rename Fr _ _ _ _ => F4x); (rename News _ _ _ _ => N4x); (try simp only [List.push_toArray] at N4x); (refine' TurnOk.mk (_, (false, true, false)) F4x N4x ?hP5 ?hn5 ?ho5 ?ha5 ?hk5 ?hm5 ?hos5 ?hg5); (case hk5 => kst_all); (case hn5 => ((try dsimp only); (repeat' first | exact List.forall_mem_nil _ | refine List.forall_mem_cons.mpr ⟨by k_memK, ?_⟩))); (case ho5 => (intro p hp; (repeat' (first | exact hp | exact List.mem_append_right _ hp | refine List.Mem.tail _ ?_)); done)); (case hm5 => (intro z h3; (try dsimp only [kstB]); (repeat (first | with_reducible rfl | refine off_st h3 ?_ | refine off_sub (by first | rfl | decide) h3 ?_ | refine off_ite (by first | rfl | decide) h3 ?_ | refine off_same ?_)); done)); (case hos5 => assumption); (case hg5 => assumption))
      · have e : (ps.take (i + 1)).any (fun p => decide (p > 7)) = ((ps.take i).any (fun p => decide (p > 7)) || decide (p > 7)) := by simp [List.take_add_one, hp]
        rw [e, show decide (p > 7) = true from decide_eq_true (by omega)]; simp
      · rename _ ∧ AllLt _ _ => hlt
        exact offCons (offNew hlt.2) offNil
    · ((rename Fr _ _ _ _ => F4x); (rename News _ _ _ _ => N4x); (try simp only [List.push_toArray] at N4x); (refine' TurnOk.mk (a, (b1, b2, b3)) F4x N4x ?hP6 ?hn6 ?ho6 ?ha6 ?hk6 ?hm6 ?hos6 ?hg6); (case hk6 => kst_all); (case hn6 => ((try dsimp only); (repeat' first | exact List.forall_mem_nil _ | refine List.forall_mem_cons.mpr ⟨by k_memK, ?_⟩))); (case ho6 => (intro p hp; (repeat' (first | exact hp | exact List.mem_append_right _ hp | refine List.Mem.tail _ ?_)); done)); (case hm6 => (intro z h3; (try dsimp only [kstB]); (repeat (first | with_reducible rfl | refine off_st h3 ?_ | refine off_sub (by first | rfl | decide) h3 ?_ | refine off_ite (by first | rfl | decide) h3 ?_ | refine off_same ?_)); done)); (case hos6 => assumption); (case hg6 => assumption))
      · have e : (ps.take (i + 1)).any (fun p => decide (p > 7)) = ((ps.take i).any (fun p => decide (p > 7)) || decide (p > 7)) := by simp [List.take_add_one, hp]
        rw [e, show decide (p > 7) = false from decide_eq_false (by omega), Bool.or_false]; exact hP
      · exact hoff
  · rintro ⟨a, b1, b2, b3⟩ u s₁ hP F3 N3 hos hg
    dsimp only [kstB] at F3
    clear F2 N2
    k_steps
    ((rename Fr _ _ _ _ => F0x); (rename News _ _ _ _ => N0x); (refine' SpecF.call sp_isterm ?kX7 ?kT7 F0x N0x ?kh7 ?kd7 ?ku7 ?kG7 ?kp7 ?_); (case kX7 => assumption); (case kT7 => assumption); (case kh7 => first | assumption | rfl); (case kd7 => simp only [depth_deeper, depth_in1]; omega); (case ku7 => simp only [Around.deeper_units, Around.in1_units]; omega); (case kG7 => assumption))
    · trivial
    rintro _ s' rfl he F0 N0 ho hg
    k_steps
    ((rename Fr _ _ _ _ => F0x); (rename News _ _ _ _ => N0x); (refine' SpecF.call sp_isnon ?kX8 ?kT8 F0x N0x ?kh8 ?kd8 ?ku8 ?kG8 ?kp8 ?_); (case kX8 => assumption); (case kT8 => assumption); (case kh8 => first | assumption | rfl); (case kd8 => simp only [depth_deeper, depth_in1]; omega); (case ku8 => simp only [Around.deeper_units, Around.in1_units]; omega); (case kG8 => assumption))
    · trivial
    rintro _ s' rfl he F0 N0 ho hg
    k_steps
    ((rename Fr _ _ _ _ => F0x); (rename News _ _ _ _ => N0x); (refine' SpecF.call sp_iseof ?kX9 ?kT9 F0x N0x ?kh9 ?kd9 ?ku9 ?kG9 ?kp9 ?_); (case kX9 => assumption); (case kT9 => assumption); (case kh9 => first | assumption | rfl); (case kd9 => simp only [depth_deeper, depth_in1]; omega); (case ku9 => simp only [Around.deeper_units, Around.in1_units]; omega); (case kG9 => assumption))
    · trivial
    rintro _ s' rfl he F0 N0 ho hg
    k_steps
    rename Fr _ _ _ _ => F9
    refine SpecEnd.mk F9.keep (by simp_all) (by assumption) ?_
    have hlen : vs.length = ps.length := hi.length
    rw [hlen, List.take_length] at hP
    have e : kindDue ps = (b1, b2, b3) := hP.symm
    rw [e]
    generalize decide (n < 256) = x1
    generalize decide (n ≥ 256) = x2
    generalize (n == 0) = x3
    cases x1 <;> cases x2 <;> cases x3 <;> cases b1 <;> cases b2 <;> cases b3 <;> rfl
end Mine
end
section
local macro_rules | `(tactic| walk_at "MINE F_within 0") => `(tactic| skip)
local macro_rules | `(tactic| walk_at "MINE F_within 1") => `(tactic| skip)
theorem Mine.offFwithin : True := by
  w_top off
  trivial
open PySem PySem.W PyProof.Rows PySem.Calls PySem.Spec
set_option maxRecDepth 100000
namespace Mine

local macro_rules | `(tactic| walk_at "compareOp Eq ref ref") => `(tactic| k_dflt (refine' eq_strs ?k1 ?k2 ?k3 ?k4 ?o1 ?o2 ?k5 ?_; (case k1 => is_list); (case k2 => assumption); (case k3 => is_list); (case k4 => first | exact StrsAre.nil | assumption); (case o1 => exact AscAll.ok (by assumption)); (case o2 => first | exact AscAll.ok AscAll.nil | exact AscAll.ok (by assumption)); (case k5 => simp only [Around.deeper_units]; omega)))
local macro_rules | `(tactic| walk_at "compareOp NotEq ref ref") => `(tactic| k_dflt (refine' ne_strs ?k1 ?k2 ?k3 ?k4 ?o1 ?o2 ?k5 ?_; (case k1 => is_list); (case k2 => assumption); (case k3 => is_list); (case k4 => first | exact StrsAre.nil | assumption); (case o1 => exact AscAll.ok (by assumption)); (case o2 => first | exact AscAll.ok AscAll.nil | exact AscAll.ok (by assumption)); (case k5 => simp only [Around.deeper_units]; omega)))


def wstep (left : List Str) (o : Str) : List Str := match left with
  | [] => []
  | y :: r => if (Builtin.Str.occurrences o y 0 o.length 1).isEmpty = false then r else y :: r
def withinF (ws ws2 : List Str) : List Str := ws2.foldl wstep ws
theorem wstep_next {ws ws2 : List Str} {i : Nat} {p : Str} (hp : ws2[i]? = some p) : withinF ws (ws2.take (i + 1)) = wstep (withinF ws (ws2.take i)) p := by
  simp [withinF, List.take_add_one, hp, List.foldl_append]

set_option maxHeartbeats 4000000 in
theorem sp_within {w : World} {l l2 : Addr} {vs vs2 : List Value} {ws ws2 : List Str} (hi : StrsAre vs ws) (hi2 : StrsAre vs2 ws2) (hn : ws.length < 100) (ha : AscAll ws) :
    SpecF w 20 101 [.ref l, .ref l2] (fun h => h.IsList l vs.toArray ∧ h.IsList l2 vs2.toArray) (fun v _ _ => v = .bool (decide (withinF ws ws2 = []))) := by
  intro A s loose mean mg mb X T hh hd hu G hpre
  obtain ⟨hl, hl2⟩ := hpre
  revert X; k_fill; intro X
  have hlim := T.nolimit
  (refine' enterK [(Str.ofString "words", Value.ref l), (Str.ofString "others", Value.ref l2)] X hlim ?hr10 ?ho10 ?hcd10 ?hb10 ?hl10 ?_ ?c110 ?c210 ?c310 ?c410; (case hr10 => (try dsimp only); omega); (case ho10 => k_is); (case hcd10 => k_is); (case hb10 => rfl); (case hl10 => exact locs rfl); (case c110 => rfl); (case c210 => rfl); (case c310 => rfl); (case c410 => decide))
  intro h₁ F N
  walk1
  walk1
  walk1
  walk1
  walk1
  walk1
  ((rename Fr _ _ _ _ => F2); (rename News _ _ _ _ => N2))
  refine for_head ?_ (by intro _; rfl)
  walk1
  refine iter_listS (σ := Addr × List Value × List Str × Bool × Nat) (fun c => if c.2.2.2.1 then [(c.1, listOf c.2.1.toArray c.2.2.2.2)] else []) (fun c => [(Str.ofString "left", .ref c.1)]) [Str.ofString "left", Str.ofString "other"]
    (fun i c => StrsAre c.2.1 c.2.2.1 ∧ c.2.2.1.length < 100 ∧ AscAll c.2.2.1 ∧ (c.2.2.2.1 = false → c.1 = l ∧ c.2.1 = vs) ∧ c.2.2.1 = withinF ws (ws2.take i)) (l, vs, ws, false, 0) hh (Fr.lst F2 hl2) (list_neL hl2) (.inl (list_ex hl2)) F2 (newsNil N2) G rfl ⟨hi, hn, ha, fun _ => ⟨rfl, rfl⟩, rfl⟩ (by kst_all) rfl rfl ?_ ?_
  · rintro i v ⟨a, us, ts, b, n⟩ u s₁ own hv ⟨hi3, hn3, ha3, hb, hw⟩ hoff F3 N3 hos hg
    obtain ⟨p, t, rfl, hp⟩ := strs_get hi2 hv
    dsimp only [kstB] at F3 hi3 hn3 ha3 hb hw
    clear F2 N2
    cases b with
    | true =>
      simp only [if_true, List.cons_append, List.nil_append] at N3 hoff
      k_steps
      · rename decide _ = true => hne
        ((rename Fr _ _ _ _ => F4x); (rename News _ _ _ _ => N4x); (try simp only [List.push_toArray] at N4x); (refine' TurnOk.mk (a, us, ts, true, n) F4x N4x ?hP11 ?hn11 ?ho11 ?ha11 ?hk11 ?hm11 ?hos11 ?hg11); (case hk11 => kst_all); (case hn11 => ((try dsimp only); (repeat' first | exact List.forall_mem_nil _ | refine List.forall_mem_cons.mpr ⟨by k_memK, ?_⟩))); (case ho11 => (intro p hp; (repeat' (first | exact hp | exact List.mem_append_right _ hp | refine List.Mem.tail _ ?_)); done)); (case hm11 => (intro z h3; (try dsimp only [kstB]); (repeat (first | with_reducible rfl | refine off_st h3 ?_ | refine off_sub (by first | rfl | decide) h3 ?_ | refine off_ite (by first | rfl | decide) h3 ?_ | refine off_same ?_)); done)); (case hos11 => assumption); (case hg11 => assumption))
        · refine ⟨hi3, hn3, ha3, (fun h => by cases h), ?_⟩
          rw [wstep_next hp, ← hw]
          have : ts = [] := of_decide_eq_true hne
          simp [wstep, this]
        · exact hoff
      · cases hi3 with
        | nil => rename decide _ = false => hne; exact absurd hne (by decide)
        | @cons y ty us' ts' hr =>
          refine itemAt (by is_list) (by decide) (by decide) rfl ?_ rfl
          k_steps
          · rename _ = true => hno
            ((rename Fr _ _ _ _ => F4x); (rename News _ _ _ _ => N4x); (try simp only [List.push_toArray] at N4x); (refine' TurnOk.mk (a, Value.str y ty :: us', y :: ts', true, n) F4x N4x ?hP12 ?hn12 ?ho12 ?ha12 ?hk12 ?hm12 ?hos12 ?hg12); (case hk12 => kst_all); (case hn12 => ((try dsimp only); (repeat' first | exact List.forall_mem_nil _ | refine List.forall_mem_cons.mpr ⟨by k_memK, ?_⟩))); (case ho12 => (intro p hp; (repeat' (first | exact hp | exact List.mem_append_right _ hp | refine List.Mem.tail _ ?_)); done)); (case hm12 => (intro z h3; (try dsimp only [kstB]); (repeat (first | with_reducible rfl | refine off_st h3 ?_ | refine off_sub (by first | rfl | decide) h3 ?_ | refine off_ite (by first | rfl | decide) h3 ?_ | refine off_same ?_)); done)); (case hos12 => assumption); (case hg12 => assumption))
            · refine ⟨.cons y ty hr, hn3, ha3, (fun h => by cases h), ?_⟩
              rw [wstep_next hp, ← hw]
              simp [wstep, hno]
            · exact hoff
          · rename _ = false => hno
            (refine' kms_slice_lit ?F13 ?N13 ?l13 ?p13 ?q13 ?e13 ?_ ?s13 ?t13 ?z13; (case F13 => assumption); (case N13 => assumption); (case l13 => is_list); (case p13 => kmk_part); (case q13 => kmk_part); (case e13 => exact (pick_drop _ 1)); (case s13 => with_unfolding_all rfl); (case t13 => kmk_pure))
            · intro D h' F' N' l1
              k_steps
              ((rename Fr _ _ _ _ => F4x); (rename News _ _ _ _ => N4x); (try simp only [List.push_toArray] at N4x); (refine' TurnOk.mk (D, us', ts', true, 0) F4x N4x ?hP14 ?hn14 ?ho14 ?ha14 ?hk14 ?hm14 ?hos14 ?hg14); (case hk14 => kst_all); (case hn14 => ((try dsimp only); (repeat' first | exact List.forall_mem_nil _ | refine List.forall_mem_cons.mpr ⟨by k_memK, ?_⟩))); (case ho14 => (intro p hp; (repeat' (first | exact hp | exact List.mem_append_right _ hp | refine List.Mem.tail _ ?_)); done)); (case hm14 => (intro z h3; (try dsimp only [kstB]); (repeat (first | with_reducible rfl | refine off_st h3 ?_ | refine off_sub (by first | rfl | decide) h3 ?_ | refine off_ite (by first | rfl | decide) h3 ?_ | refine off_same ?_)); done)); (case hos14 => assumption); (case hg14 => assumption))
              · refine ⟨hr, Nat.lt_of_le_of_lt (Nat.le_succ _) hn3, fun x hx => ha3 x (.tail _ hx), (fun h => by cases h), ?_⟩
                rw [wstep_next hp, ← hw]
                simp [wstep, hno]
              · exact offCons (fun p hp => Nat.ne_of_lt (l1 p (by simp [hp]))) offNil
            · have := hr.length
              simp only [List.length_cons] at hn3
              simp only [List.size_toArray, List.length_cons, PySem.sizeLine_eq]
              omega
    | false =>
      obtain ⟨rfl, rfl⟩ := hb rfl
      obtain rfl := strs_inj hi hi3
      clear hi
      simp only [Bool.false_eq_true, if_false, List.nil_append] at N3 hoff
      k_steps
      · rename decide _ = true => hne
        ((rename Fr _ _ _ _ => F4x); (rename News _ _ _ _ => N4x); (try simp only [List.push_toArray] at N4x); (refine' TurnOk.mk (a, us, ts, false, n) F4x N4x ?hP15 ?hn15 ?ho15 ?ha15 ?hk15 ?hm15 ?hos15 ?hg15); (case hk15 => kst_all); (case hn15 => ((try dsimp only); (repeat' first | exact List.forall_mem_nil _ | refine List.forall_mem_cons.mpr ⟨by k_memK, ?_⟩))); (case ho15 => (intro p hp; (repeat' (first | exact hp | exact List.mem_append_right _ hp | refine List.Mem.tail _ ?_)); done)); (case hm15 => (intro z h3; (try dsimp only [kstB]); (repeat (first | with_reducible rfl | refine off_st h3 ?_ | refine off_sub (by first | rfl | decide) h3 ?_ | refine off_ite (by first | rfl | decide) h3 ?_ | refine off_same ?_)); done)); (case hos15 => assumption); (case hg15 => assumption))
        · refine ⟨hi3, hn3, ha3, (fun _ => ⟨rfl, rfl⟩), ?_⟩
          rw [wstep_next hp, ← hw]
          have : ts = [] := of_decide_eq_true hne
          simp [wstep, this]
        · exact hoff
      · cases hi3 with
        | nil => rename decide _ = false => hne; exact absurd hne (by decide)
        | @cons y ty us' ts' hr =>
          refine itemAt (by is_list) (by decide) (by decide) rfl ?_ rfl
          k_steps
          · rename _ = true => hno
            ((rename Fr _ _ _ _ => F4x); (rename News _ _ _ _ => N4x); (try simp only [List.push_toArray] at N4x); (refine' TurnOk.mk (a, Value.str y ty :: us', y :: ts', false, n) F4x N4x ?hP16 ?hn16 ?ho16 ?ha16 ?hk16 ?hm16 ?hos16 ?hg16); (case hk16 => kst_all); (case hn16 => ((try dsimp only); (repeat' first | exact List.forall_mem_nil _ | refine List.forall_mem_cons.mpr ⟨by k_memK, ?_⟩))); (case ho16 => (intro p hp; (repeat' (first | exact hp | exact List.mem_append_right _ hp | refine List.Mem.tail _ ?_)); done)); (case hm16 => (intro z h3; (try dsimp only [kstB]); (repeat (first | with_reducible rfl | refine off_st h3 ?_ | refine off_sub (by first | rfl | decide) h3 ?_ | refine off_ite (by first | rfl | decide) h3 ?_ | refine off_same ?_)); done)); (case hos16 => assumption); (case hg16 => assumption))
            · refine ⟨.cons y ty hr, hn3, ha3, (fun _ => ⟨rfl, rfl⟩), ?_⟩
              rw [wstep_next hp, ← hw]
              simp [wstep, hno]
            · exact hoff
          · rename _ = false => hno
            (refine' kms_slice_lit ?F17 ?N17 ?l17 ?p17 ?q17 ?e17 ?_ ?s17 ?t17 ?z17; (case F17 => assumption); (case N17 => assumption); (case l17 => is_list); (case p17 => kmk_part); (case q17 => kmk_part); (case e17 => exact (pick_drop _ 1)); (case s17 => with_unfolding_all rfl); (case t17 => kmk_pure))
            · intro D h' F' N' l1
              k_steps
              ((rename Fr _ _ _ _ => F4x); (rename News _ _ _ _ => N4x); (try simp only [List.push_toArray] at N4x); (refine' TurnOk.mk (D, us', ts', true, 0) F4x N4x ?hP18 ?hn18 ?ho18 ?ha18 ?hk18 ?hm18 ?hos18 ?hg18); (case hk18 => kst_all); (case hn18 => ((try dsimp only); (repeat' first | exact List.forall_mem_nil _ | refine List.forall_mem_cons.mpr ⟨by k_memK, ?_⟩))); (case ho18 => (intro p hp; (repeat' (first | exact hp | exact List.mem_append_right _ hp | refine List.Mem.tail _ ?_)); done)); (case hm18 => (intro z h3; (try dsimp only [kstB]); (repeat (first | with_reducible rfl | refine off_st h3 ?_ | refine off_sub (by first | rfl | decide) h3 ?_ | refine off_ite (by first | rfl | decide) h3 ?_ | refine off_same ?_)); done)); (case hos18 => assumption); (case hg18 => assumption))
              · refine ⟨hr, Nat.lt_of_le_of_lt (Nat.le_succ _) hn3, fun x hx => ha3 x (.tail _ hx), (fun h => by cases h), ?_⟩
                rw [wstep_next hp, ← hw]
                simp [wstep, hno]
              · exact offCons (fun p hp => Nat.ne_of_lt (l1 p (by simp [hp]))) offNil
            · have := hr.length
              simp only [List.length_cons] at hn3
              simp only [List.size_toArray, List.length_cons, PySem.sizeLine_eq]
              omega
  · rintro ⟨a, us, ts, b, n⟩ u s₁ ⟨hi3, hn3, ha3, hb, hw⟩ F3 N3 hos hg
    dsimp only [kstB] at F3 hi3 hn3 ha3 hb hw
    rw [hi2.length, List.take_length] at hw
    clear F2 N2
    cases b with
    | true =>
      simp only [if_true] at N3
      k_steps
      rename Fr _ _ _ _ => F9
      exact SpecEnd.mk F9.keep hos hg (by rw [← hw])
    | false =>
      obtain ⟨rfl, rfl⟩ := hb rfl
      obtain rfl := strs_inj hi hi3
      simp only [Bool.false_eq_true, if_false] at N3
      k_steps
      rename Fr _ _ _ _ => F9
      exact SpecEnd.mk F9.keep hos hg (by rw [← hw])
end Mine
end
section
theorem Mine.offFpretty : True := by
  w_top off
  trivial
open PySem PySem.W PyProof.Rows PySem.Calls PySem.Spec
set_option maxRecDepth 100000
namespace Mine

def flagD : List (Int × PyData) := [(1, PyData.str (Str.ofString "OPTIMIZED")), (2, PyData.str (Str.ofString "NEWLOCALS")), (4, PyData.str (Str.ofString "VARARGS")), (8, PyData.str (Str.ofString "VARKEYWORDS")), (16, PyData.str (Str.ofString "NESTED")), (32, PyData.str (Str.ofString "GENERATOR")),
  (64, PyData.str (Str.ofString "NOFREE")), (128, PyData.str (Str.ofString "COROUTINE")), (256, PyData.str (Str.ofString "ITERABLE_COROUTINE")), (512, PyData.str (Str.ofString "ASYNC_GENERATOR"))]
theorem flag_keyed {P : Params} {h : Heap} (X : (hd0.heap_1_1 P).In h) : KTD.Keyed h 15 flagD := kt_keyed_in X (by rfl)
theorem flag_at {i : Nat} (hi : i < 32) : KTD.datumAt ((2 ^ i : Nat) : Int) flagD = flagNames[i]?.map PyData.str := by
  have h : ∀ i < 32, ((KTD.datumAt ((2 ^ i : Nat) : Int) flagD).map fun d => match d with | PyData.str x => some x | _ => none) = flagNames[i]?.map some := by decide +kernel
  have h2 := h i hi
  cases hd : KTD.datumAt ((2 ^ i : Nat) : Int) flagD with
  | none =>
    rw [hd] at h2
    cases hq : flagNames[i]? with
    | none => rfl
    | some x => rw [hq] at h2; cases h2
  | some d =>
    rw [hd] at h2
    cases hq : flagNames[i]? with
    | none => rw [hq] at h2; cases h2
    | some x =>
      rw [hq] at h2
      cases d <;> first | (cases h2; rfl) | (cases h2; done)
theorem flag_get {prog : Program} {w : World} {A : Around} {s : Shared} {h₀ : Heap} {Q : Value → Shared → Prop} {E : Value → Shared → Prop} {i : Nat} {t u : Tok} (hi : i < 32) (X : (hd0.heap_1_1 w.params).In h₀) (hk : ∀ b o, h₀.get? b = some o → s.heap.get? b = some o)
    (h : ∀ t', Q (.str (nameOf i) t') { s with toks := s.toks + 1 }) :
    wpAny (model prog w) A (call (.builtin "dict.get") [.ref 15, .int (1 * 2 ^ ((i : Int)).toNat) t, .str (hexOf (2 ^ i)) u]) Q E s := by
  rw [show (1 * 2 ^ ((i : Int)).toNat : Int) = ((2 ^ i : Nat) : Int) by simp]
  refine call_get2_intTab ((flag_keyed X).keep hk prog w) (PyProof.V.Flat.str (hexOf (2 ^ i)) u) fun v hv => ?_
  rw [KTD.lookup_keyed, flag_at hi] at hv
  unfold nameOf at h
  cases hq : flagNames[i]? with
  | none =>
    rw [hq] at hv h
    have hv' := hv default
    cases hv'
    exact h _
  | some x =>
    rw [hq] at hv h
    have hv' := hv default
    cases hv'
    exact h _

theorem hex_pow {prog : Program} {w : World} {A : Around} {s : Shared} {Q : Value → Shared → Prop} {E : Value → Shared → Prop} {i : Nat} {t : Tok} (hi : i < 32)
    (h : Q (.str (hexOf (2 ^ i)) s.toks) { s with toks := s.toks + 1 }) : wpAny (model prog w) A (call (.builtin "hex") [.int (1 * 2 ^ ((i : Int)).toNat) t]) Q E s := by
  rw [show (1 * 2 ^ ((i : Int)).toNat : Int) = ((2 ^ i : Nat) : Int) by simp]
  refine P.hex_of_int h ?_
  have := hex_len (k := 8) (by omega) (pow_lt (i := i) (k := 8) (by omega))
  rw [sizeLine_eq]
  exact Nat.le_trans this (by omega)
theorem bit_set {n i f : Nat} (hf : f = (n >>> i) <<< i) (hb : Builtin.bitAnd (f : Int) (1 * 2 ^ ((i : Int)).toNat) ≠ 0) : n.testBit i = true := by
  rw [show (1 * 2 ^ ((i : Int)).toNat : Int) = ((2 ^ i : Nat) : Int) by simp, bitAnd_nat, hf, and_low] at hb
  cases h : n.testBit i with
  | true => rfl
  | false => rw [h] at hb; simp at hb
theorem bit_clear {n i f : Nat} (hf : f = (n >>> i) <<< i) (hb : Builtin.bitAnd (f : Int) (1 * 2 ^ ((i : Int)).toNat) = 0) : n.testBit i = false := by
  rw [show (1 * 2 ^ ((i : Int)).toNat : Int) = ((2 ^ i : Nat) : Int) by simp, bitAnd_nat, hf, and_low] at hb
  cases h : n.testBit i with
  | false => rfl
  | true =>
    rw [h] at hb
    have : 0 < 2 ^ i := Nat.two_pow_pos i
    rw [if_pos rfl] at hb
    exact absurd (Int.ofNat_eq_zero.mp hb) (Nat.ne_of_gt this)
theorem stop_lt {n i : Nat} (h : (n >>> i) <<< i = 0) (hi : i ≤ 32) : n < 2 ^ 32 := by
  rw [Nat.shiftRight_eq_div_pow, Nat.shiftLeft_eq] at h
  have hp : 0 < 2 ^ i := Nat.two_pow_pos i
  have h0 : n / 2 ^ i = 0 := (Nat.mul_eq_zero.mp h).resolve_right (Nat.ne_of_gt hp)
  have h1 : n < 2 ^ i := by
    rcases (Nat.div_eq_zero_iff).mp h0 with h | h
    · omega
    · exact h
  exact Nat.lt_of_lt_of_le h1 (Nat.pow_le_pow_right (by omega) hi)
theorem flag_xor {n i f : Nat} (hf : f = (n >>> i) <<< i) (hb : n.testBit i = true) : Builtin.bitXor (f : Int) (1 * 2 ^ ((i : Int)).toNat) = (((n >>> (i + 1)) <<< (i + 1) : Nat) : Int) := by
  rw [show (1 * 2 ^ ((i : Int)).toNat : Int) = ((2 ^ i : Nat) : Int) by simp, bitXor_and, bitAnd_nat, hf, and_low, hb, low_next n i, hb]
  simp only [if_true]
  omega
local macro_rules | `(tactic| walk_at "call builtin:hex") => `(tactic| (refine' hex_pow ?k1 ?_; (case k1 => assumption)))
local macro_rules | `(tactic| walk_at "call builtin:dict.get") => `(tactic| ((rename Fr _ _ _ _ => F5); (refine' flag_get ?k1 ?k2 ?k3 ?_); (case k1 => assumption); (case k2 => assumption); (case k3 => exact F5.keep); intro t'))

local macro_rules | `(tactic| walk_at "call builtin:list.append") => `(tactic| ((rename Fr _ _ _ _ => F7); (rename News _ _ _ _ => N7); (refine' app_head F7 N7 ?ho ?hz ?_); (case ho => first | exact OwnOff.ne (by assumption) (by k_memK) | (intro p hp; cases hp; done)); (case hz => omega); intro h' F' N'; clear F7 N7))
set_option maxHeartbeats 4000000 in
theorem sp_pretty {w : World} {n : Nat} {t : Tok} (hn : n < 2 ^ 48) :
    SpecF w 20 22 [.int (n : Int) t] (fun _ => True) (fun v _ _ => ∃ t', v = .str (Txt.join (Str.ofString ", ") (prettyWords n)) t') := by
  intro A s loose mean mg mb X T hh hd hu G _
  revert X; k_fill; intro X
  have hlim := T.nolimit
  (refine' enterK [(Str.ofString "flags", Value.int (n : Int) t)] X hlim ?hr19 ?ho19 ?hcd19 ?hb19 ?hl19 ?_ ?c119 ?c219 ?c319 ?c419; (case hr19 => (try dsimp only); omega); (case ho19 => k_is); (case hcd19 => k_is); (case hb19 => rfl); (case hl19 => exact locs rfl); (case c119 => rfl); (case c219 => rfl); (case c319 => rfl); (case c419 => decide))
  intro h₁ F N
  k_steps
  ((rename Fr _ _ _ _ => F2); (rename News _ _ _ _ => N2))
  k_fold
  refine for_head ?_ (by intro _; rfl)
  k_steps
  rename IsRange _ _ _ _ _ _ _ _ => R
  ((rename Fr _ _ _ _ => F2); (rename News _ _ _ _ => N2))
  refine iter_rangeS (σ := Addr × List Value × List Str × Nat × Nat × Tok) (n := 32) (fun c => [(c.1, listOf c.2.1.toArray c.2.2.2.1)]) (fun c => [(Str.ofString "names", .ref c.1), (Str.ofString "flags", .int (c.2.2.2.2.1 : Int) c.2.2.2.2.2)])
    [Str.ofString "names", Str.ofString "flags", Str.ofString "i", Str.ofString "flag"]
    (fun i c => StrsAre c.2.1 c.2.2.1 ∧ c.2.2.1 = namesBelow n i ∧ c.2.2.2.2.1 = (n >>> i) <<< i ∧ (n = 0 ∨ c.2.2.2.2.1 ≠ 0)) (_, [], [], 0, n, t) hh R (by decide) rfl F2 N2 G rfl ⟨.nil, rfl, by simp, (Nat.eq_zero_or_pos n).imp id fun h => Nat.ne_of_gt h⟩ (by kst_all) rfl rfl ?_ ?_
  · rintro i ti ⟨a, us, ts, c, f, tf⟩ u s₁ own hi ⟨hs, hlen, hf, hnz⟩ hoff F3 N3 hos hg
    dsimp only [kstB] at F3 hs hlen hf hnz
    simp only [List.map_cons, List.map_nil] at hoff
    have hle : us.length ≤ 32 := by rw [hs.length, hlen]; exact Nat.le_trans (namesBelow_length n i) (by omega)
    simp only [List.cons_append, List.nil_append, Int.zero_add] at N3 F3
    clear F2 N2
    k_steps
    · rename Builtin.bitXor _ _ ≠ (0 : Int) => hx
      rename Builtin.bitAnd _ _ ≠ (0 : Int) => hb
      have hbit := bit_set hf hb
      rename Fr _ _ _ _ => F8
      rw [flag_xor hf hbit] at F8
      ((rename Fr _ _ _ _ => F4x); (rename News _ _ _ _ => N4x); (try simp only [List.push_toArray] at N4x); (refine' TurnOk.mk (a, us ++ [Value.str (nameOf i) _], ts ++ [nameOf i], c + 1, (n >>> (i + 1)) <<< (i + 1), _) F4x N4x ?hP20 ?hn20 ?ho20 ?ha20 ?hk20 ?hm20 ?hos20 ?hg20); (case hk20 => kst_all); (case hn20 => ((try dsimp only); (repeat' first | exact List.forall_mem_nil _ | refine List.forall_mem_cons.mpr ⟨by k_memK, ?_⟩))); (case ho20 => (intro p hp; (repeat' (first | exact hp | exact List.mem_append_right _ hp | refine List.Mem.tail _ ?_)); done)); (case hm20 => (intro z h3; (try dsimp only [kstB]); (repeat (first | with_reducible rfl | refine off_st h3 ?_ | refine off_sub (by first | rfl | decide) h3 ?_ | refine off_ite (by first | rfl | decide) h3 ?_ | refine off_same ?_)); done)); (case hos20 => assumption); (case hg20 => assumption))
      · refine ⟨StrsAre.append' hs (.cons _ _ .nil), ?_, rfl, .inr (by show (n >>> (i + 1)) <<< (i + 1) ≠ 0; rw [flag_xor hf hbit] at hx; omega)⟩
        rw [namesBelow_succ, hbit, ← hlen]; simp
      · exact hoff
    · rename Builtin.bitXor _ _ = (0 : Int) => hx
      rename Builtin.bitAnd _ _ ≠ (0 : Int) => hb
      have hbit := bit_set hf hb
      rw [flag_xor hf hbit] at hx
      have hx : (n >>> (i + 1)) <<< (i + 1) = 0 := by omega
      have hw : ts ++ [nameOf i] = prettyWords n := by
        have h1 := namesBelow_stop hx 32 (by omega)
        have h2 : n < 2 ^ 32 := stop_lt hx (by omega)
        have h3 : n ≠ 0 := by rintro rfl; simp at hbit
        unfold prettyWords
        rw [if_pos ⟨h3, h2⟩, h1, namesBelow_succ, hbit, ← hlen]; simp
      show qk Flow.next _
      k_steps
      rename News _ _ _ _ => N8
      simp only [List.push_toArray] at N8
      refine join_listW (N8.isList (.head _)) (by rw [List.toList_toArray]; exact StrsAre.append' hs (.cons _ _ .nil)) (by decide) (by rw [hw]; exact pretty_weight hn) ?_
      rw [hw]
      k_steps
      rename Fr _ _ _ _ => F9
      exact SpecEnd.mk F9.keep hos hg ⟨_, rfl⟩
    · rename Builtin.bitAnd _ _ = (0 : Int) => hb
      have hbit := bit_clear hf hb
      ((rename Fr _ _ _ _ => F4x); (rename News _ _ _ _ => N4x); (try simp only [List.push_toArray] at N4x); (refine' TurnOk.mk (a, us, ts, c, f, tf) F4x N4x ?hP21 ?hn21 ?ho21 ?ha21 ?hk21 ?hm21 ?hos21 ?hg21); (case hk21 => kst_all); (case hn21 => ((try dsimp only); (repeat' first | exact List.forall_mem_nil _ | refine List.forall_mem_cons.mpr ⟨by k_memK, ?_⟩))); (case ho21 => (intro p hp; (repeat' (first | exact hp | exact List.mem_append_right _ hp | refine List.Mem.tail _ ?_)); done)); (case hm21 => (intro z h3; (try dsimp only [kstB]); (repeat (first | with_reducible rfl | refine off_st h3 ?_ | refine off_sub (by first | rfl | decide) h3 ?_ | refine off_ite (by first | rfl | decide) h3 ?_ | refine off_same ?_)); done)); (case hos21 => assumption); (case hg21 => assumption))
      · refine ⟨hs, ?_, ?_, hnz⟩
        · rw [namesBelow_succ, hbit, ← hlen]; simp
        · show f = _
          rw [hf, low_next, hbit]; simp
      · exact hoff
  · rintro ⟨a, us, ts, c, f, tf⟩ u s₁ ⟨hs, hlen, hf, hnz⟩ F3 N3 hos hg
    dsimp only [kstB] at F3 hs hlen hf hnz
    clear F2 N2
    have hle : us.length ≤ 32 := by rw [hs.length, hlen]; exact namesBelow_length n 32
    k_steps
    rename News _ _ _ _ => N8
    simp only [List.push_toArray] at N8
    have hw : ts ++ [hexOf f] = prettyWords n := by
      have h1 : ¬ (n ≠ 0 ∧ n < 2 ^ 32) := by
        rintro ⟨h1, h2⟩
        rcases hnz with h | h
        · exact h1 h
        · apply h
          rw [hf, Nat.shiftRight_eq_div_pow, Nat.div_eq_of_lt h2]
          simp
      unfold prettyWords
      rw [if_neg h1, ← hlen, ← hf]
    refine join_listW (N8.isList (.head _)) (by rw [List.toList_toArray]; exact StrsAre.append' hs (.cons _ _ .nil)) (by decide) ?_ ?_
    · rw [show baseText "0x" 16 (f : Int) = hexOf f from rfl, hw]; exact pretty_weight hn
    rw [show baseText "0x" 16 (f : Int) = hexOf f from rfl, hw]
    k_steps
    rename Fr _ _ _ _ => F9
    exact SpecEnd.mk F9.keep hos hg ⟨_, rfl⟩
end Mine
end
section
local macro_rules | `(tactic| walk_at "MINE F_match 0") => `(tactic| skip)
local macro_rules | `(tactic| walk_at "MINE F_match 1") => `(tactic| skip)
local macro_rules | `(tactic| walk_at "MINE F_match 2") => `(tactic| skip)
local macro_rules | `(tactic| walk_at "MINE F_match 3") => `(tactic| skip)
theorem Mine.offFmatch : True := by
  w_top off
  trivial
open PySem PySem.W PyProof.Rows PySem.Calls PySem.Spec
set_option maxRecDepth 100000
namespace Mine
local macro_rules | `(tactic| walk_at "exec For Name Name cons nil") => `(tactic| k_dflt ((try k_fold); refine' for_head ?_ ?k; (case k => intro _; exact rfl)))
local macro_rules | `(tactic| walk_at "exec For Name Call cons nil") => `(tactic| k_dflt ((try k_fold); refine' for_head ?_ ?k; (case k => intro _; exact rfl)))
local macro_rules | `(tactic| walk_at "exec For Name Call cons cons") => `(tactic| k_dflt ((try k_fold); refine' for_head ?_ ?k; (case k => intro _; exact rfl)))
local macro_rules | `(tactic| walk_at "exec For Name List cons nil") => `(tactic| k_dflt ((try k_fold); refine' for_head ?_ ?k; (case k => intro _; exact rfl)))
local macro_rules | `(tactic| walk_at "exec For Tuple Call cons nil") => `(tactic| k_dflt ((try k_fold); refine' for_head ?_ ?k; (case k => intro _; exact rfl)))
local macro_rules | `(tactic| walk_at "exec For Tuple Name cons nil") => `(tactic| k_dflt ((try k_fold); refine' for_head ?_ ?k; (case k => intro _; exact rfl)))

theorem strs_ends {l : List (Str × Tok)} {ws : List Str} (h : l.map (·.1) = Str.empty :: (ws ++ [Str.empty])) : ∃ t0 us t1, strValues l = Value.str Str.empty t0 :: (us ++ [Value.str Str.empty t1]) ∧ StrsAre us ws := by
  cases l with
  | nil => cases h
  | cons p r =>
    obtain ⟨a, t0⟩ := p
    simp only [List.map_cons, List.cons.injEq] at h
    obtain ⟨rfl, h⟩ := h
    suffices ∀ (r : List (Str × Tok)) (ws : List Str), r.map (·.1) = ws ++ [Str.empty] → ∃ us t1, strValues r = us ++ [Value.str Str.empty t1] ∧ StrsAre us ws by
      obtain ⟨us, t1, e, hs⟩ := this r ws h
      exact ⟨t0, us, t1, by show _ :: strValues r = _; rw [e], hs⟩
    intro r ws
    induction ws generalizing r with
    | nil =>
      intro h
      match r, h with
      | [(a, t1)], h =>
        simp at h
        subst h
        exact ⟨[], t1, rfl, .nil⟩
    | cons w ws ih =>
      intro h
      cases r with
      | nil => cases h
      | cons p r' =>
        obtain ⟨a, t1⟩ := p
        simp only [List.map_cons, List.cons_append, List.cons.injEq] at h
        obtain ⟨rfl, h⟩ := h
        obtain ⟨us, t2, e, hs⟩ := ih r' h
        exact ⟨_ :: us, t2, by show _ :: strValues r' = _; rw [e]; rfl, .cons _ _ hs⟩
theorem split_ends {prog : Program} {w : World} {A : Around} {s : Shared} {E : Value → Shared → Prop} {h₀ : Heap} {L : Addr} {m : Str → Option Value} {news : List (Addr × Obj)} {Q : Value → Shared → Prop} {x y : Str} {t u : Tok} {ws : List Str}
    (hsp : Txt.split x y = Str.empty :: (ws ++ [Str.empty])) (F : Fr h₀ L s.heap m) (N : News h₀ L s.heap news) (hy : (y.length == 0) = false) (hx : x.length ≤ 1000)
    (h : ∀ D t0 us t1 h' k, StrsAre us ws → Fr h₀ L h' m → News h₀ L h' ((D, listOf (Value.str Str.empty t0 :: (us ++ [Value.str Str.empty t1])).toArray 0) :: news) → Q (.ref D) { s with heap := h', toks := k }) :
    wpAny (model prog w) A (call (.builtin "str.split") [.str x t, .str y u]) Q E s := by
  refine splitN1 F N hy (fun l h' k e F' N' => ?_) (by rw [sizeLine_eq]; omega)
  rw [hsp] at e
  obtain ⟨t0, us, t1, e1, e2⟩ := strs_ends e
  rw [e1] at N'
  exact h _ t0 us t1 h' k e2 F' N'
/-- the rest of _ellipsis_match: the words one behind the other -/
def matchFrom (y : Str) : List Str → Int → Bool
  | [], _ => true
  | a :: r, sp => if Txt.find3 y a sp < 0 then false else matchFrom y r (Txt.find3 y a sp + a.length)
theorem matchFrom_at {y : Str} {l : List Str} {i : Nat} {a : Str} {sp : Int} (h : l[i]? = some a) :
    matchFrom y (l.drop i) sp = if Txt.find3 y a sp < 0 then false else matchFrom y (l.drop (i + 1)) (Txt.find3 y a sp + a.length) := by
  have hi : i < l.length := (List.getElem?_eq_some_iff.mp h).1
  have e : l.drop i = a :: l.drop (i + 1) := by
    rw [List.drop_eq_getElem_cons hi, (List.getElem?_eq_some_iff.mp h).2]
  rw [e]
  rfl
theorem from_len (n : Nat) : fromIndex n (n : Int) = n := by
  unfold fromIndex
  omega
local macro_rules | `(tactic| walk_at "call builtin:str.find") => `(tactic| k_dflt (refine find4 (from_len _) ?_))
set_option hygiene false in
local macro_rules | `(tactic| walk_at "call builtin:str.split") => `(tactic| k_dflt ((rename Fr _ _ _ _ => F5); (rename News _ _ _ _ => N5); (refine' split_ends ?k1 F5 N5 ?k2 ?k3 ?_); (case k1 => assumption); (case k2 => decide); (case k3 => assumption); clear F5 N5; intro Dw tw0 usw tw1 hw kw hsw Fw Nw))

set_option maxHeartbeats 4000000 in
theorem sp_match {w : World} {x y : Str} {t u : Tok} {ws : List Str} (hx : x.length ≤ 1000) (hy : y.length ≤ 1000) (hws : ws.length ≤ 40) (hwl : ∀ a ∈ ws, a.length ≤ 1000)
    (hin : (Builtin.Str.occurrences x (Str.ofString "...") 0 x.length 1).isEmpty = false) (hsp : Txt.split x (Str.ofString "...") = Str.empty :: (ws ++ [Str.empty])) :
    SpecF w 20 29 [.str x t, .str y u] (fun _ => True) (fun v _ _ => v = .bool (matchFrom y (Str.empty :: (ws ++ [Str.empty])) 0)) := by
  (intro A s loose mean mg mb X T hh hd hu G hpre; obtain ⟨hd0, dp, fr, gd, un⟩ := A; dsimp only at hh hd hu; subst hh; revert X; k_fill; intro X; have hlim := T.nolimit; (try dsimp only at hpre))
  (refine' enterK [(Str.ofString "want", Value.str x t), (Str.ofString "got", Value.str y u)] X hlim ?hr22 ?ho22 ?hcd22 ?hb22 ?hl22 ?_ ?c122 ?c222 ?c322 ?c422; (case hr22 => (try dsimp only); omega); (case ho22 => k_is); (case hcd22 => k_is); (case hb22 => rfl); (case hl22 => exact locs rfl); (case c122 => rfl); (case c222 => rfl); (case c322 => rfl); (case c422 => decide))
  intro h₁ F N
  k_steps
  rename StrsAre _ _ => hs
  ((rename Fr _ _ _ _ => F2); (rename News _ _ _ _ => N2))
  refine' kst_len (k := ws.length + 2) ?z1 ?z2 ?z3 ?z4 ?_
  case z1 => exact N2
  case z2 => exact .head _
  case z3 => simp only [List.length_cons, List.length_append, List.length_nil, hs.length]
  case z4 => omega
  k_steps
  refine itemLast (vs := Value.str Str.empty _ :: _) (by rw [List.cons_append]; is_list) ?_ rfl
  k_steps
  have hs2 : StrsAre (Value.str Str.empty tw0 :: (usw ++ [Value.str Str.empty tw1])) (Str.empty :: (ws ++ [Str.empty])) := .cons Str.empty _ (StrsAre.append' hs (.cons Str.empty _ .nil))
  clear hs
  ((rename Fr _ _ _ _ => F2); (rename News _ _ _ _ => N2))
  refine iter_listS (σ := Int × Tok) (fun c => [(Dw, listOf (Value.str Str.empty tw0 :: (usw ++ [Value.str Str.empty tw1])).toArray 0)]) (fun c => [(Str.ofString "startpos", .int c.1 c.2)])
    [Str.ofString "startpos", Str.ofString "w"]
    (fun i c => 0 ≤ c.1 ∧ matchFrom y (Str.empty :: (ws ++ [Str.empty])) 0 = matchFrom y ((Str.empty :: (ws ++ [Str.empty])).drop i) c.1) (0, _) rfl ((newsTail N2).isList (.head _)) ?_ (.inr ⟨_, fun c => .head _⟩) F2 (newsTail N2) G rfl ⟨Int.le_refl _, rfl⟩ (by kst_all) rfl rfl ?_ ?_
  · exact ((newsTail N2) _ (.head _)).2.1
  · rintro i v ⟨sp, tsp⟩ u s₁ own hv ⟨hs0, hs1⟩ hoff F3 N3 hos hg
    obtain ⟨wd, tx, rfl, hx⟩ := strs_get hs2 hv
    dsimp only [kstB] at F3 hs0 hs1
    simp only [List.cons_append, List.nil_append] at N3
    simp only [List.map_cons, List.map_nil] at hoff
    clear F2 N2
    have hwd : wd.length ≤ 1000 := by
      have := List.mem_of_getElem? hx
      rcases List.mem_cons.mp this with rfl | h
      · decide
      · rcases List.mem_append.mp h with h | h
        · exact hwl _ h
        · rw [List.mem_singleton.mp h]; decide
    have hnx := matchFrom_at (y := y) (sp := sp) hx
    rw [← hs1] at hnx
    k_steps
    · rename Txt.find3 _ _ _ < 0 => hlt
      rw [if_pos hlt] at hnx
      rename Fr _ _ _ _ => F9
      exact SpecEnd.mk (s := s) (Post := fun v _ _ => v = .bool (matchFrom y (Str.empty :: (ws ++ [Str.empty])) 0)) F9.keep hos hg (by rw [hnx])
    · rename ¬ Txt.find3 _ _ _ < 0 => hlt
      rw [if_neg hlt] at hnx
      ((rename Fr _ _ _ _ => F4x); (rename News _ _ _ _ => N4x); (try simp only [List.push_toArray] at N4x); (refine' TurnOk.mk (Txt.find3 y wd sp + wd.length, _) F4x N4x ?hP23 ?hn23 ?ho23 ?ha23 ?hk23 ?hm23 ?hos23 ?hg23); (case hk23 => kst_all); (case hn23 => ((try dsimp only); (repeat' first | exact List.forall_mem_nil _ | refine List.forall_mem_cons.mpr ⟨by k_memK, ?_⟩))); (case ho23 => (intro p hp; (repeat' (first | exact hp | exact List.mem_append_right _ hp | refine List.Mem.tail _ ?_)); done)); (case hm23 => (intro z h3; (try dsimp only [kstB]); (repeat (first | with_reducible rfl | refine off_st h3 ?_ | refine off_sub (by first | rfl | decide) h3 ?_ | refine off_ite (by first | rfl | decide) h3 ?_ | refine off_same ?_)); done)); (case hos23 => assumption); (case hg23 => assumption))
      · exact ⟨by show 0 ≤ Txt.find3 y wd sp + wd.length; omega, hnx⟩
      · exact hoff
  · rintro ⟨sp, tsp⟩ u s₁ ⟨hs0, hs1⟩ F3 N3 hos hg
    dsimp only [kstB] at F3 hs0 hs1
    rw [hs2.length, List.drop_length] at hs1
    clear F2 N2
    k_steps
    rename Fr _ _ _ _ => F9
    exact SpecEnd.mk F9.keep hos hg (by rw [hs1]; rfl)
end Mine
end
section
theorem Mine.offFrows : True := by
  w_top off
  trivial
open PySem PySem.W PyProof.Rows PySem.Calls PySem.Spec
set_option maxRecDepth 100000
namespace Mine
local macro_rules | `(tactic| walk_at "exec For Name Name cons nil") => `(tactic| k_dflt ((try k_fold); refine' for_head ?_ ?k; (case k => intro _; exact rfl)))
local macro_rules | `(tactic| walk_at "exec For Name Call cons nil") => `(tactic| k_dflt ((try k_fold); refine' for_head ?_ ?k; (case k => intro _; exact rfl)))

def modV (v y : Value) : Prop := match v with | .int n _ => ∃ u, y = .int (n.fmod 56) u | _ => True
def allV (_ : Value) : Bool := true
local macro_rules | `(tactic| walk_at "exec Assign cons ListComp") => `(tactic| k_dflt (refine' comp_KA allV modV ?c0 ?c1 ?c2 ?c3 ?c4 ?c5 ?c7 ?c8 ?c6 ?_; (case c0 => with_unfolding_all rfl); (case c1 => exact rfl); (case c2 => decide); (case c3 => exact rfl); (case c4 => decide); (case c5 => exact rfl); (case c6 => intro _; exact rfl); (case c7 => exact rfl); (case c8 => exact rfl)))
theorem min60 (k : Nat) : ∃ n : Nat, (if (60 : Int) < (k : Int) then (60 : Int) else (k : Int)) = (n : Int) ∧ n ≤ 60 ∧ n ≤ k := by
  by_cases h : (60 : Int) < (k : Int)
  · exact ⟨60, by rw [if_pos h]; rfl, by omega, by omega⟩
  · exact ⟨k, by rw [if_neg h], by omega, by omega⟩
theorem small60 {n : Nat} (h : n ≤ 60) : Builtin.Range.small 0 (n : Int) 1 = true ∧ Builtin.Range.rangeSize 0 (n : Int) 1 = (n : Int) := by
  revert n
  decide

def RowsPost (v : Value) (h h' : Heap) : Prop := ∃ D a b c u1 u2 u3 r1 r2 r3 n0 n1 n2 n3, v = .ref D ∧ IntsAre u1 r1 ∧ IntsAre u2 r2 ∧ IntsAre u3 r3 ∧ IsRow r1 ∧ IsRow r2 ∧ IsRow r3 ∧
  NewAt h h' D (listOf #[.ref a, .ref b, .ref c] n0) ∧ NewAt h h' a (listOf u1.toArray n1) ∧ NewAt h h' b (listOf u2.toArray n2) ∧ NewAt h h' c (listOf u3.toArray n3)
theorem row_of {ts r : List Int} (h5 : r.length = 5) (hr : ∀ n ∈ r, n ∈ ts.map (fun n => n.fmod 56)) : IsRow r := by
  refine ⟨h5, fun n hn => ?_⟩
  obtain ⟨k, _, rfl⟩ := List.mem_map.mp (hr n hn)
  exact ⟨Int.fmod_nonneg_of_pos _ (by decide), Int.fmod_lt_of_pos _ (by decide)⟩
set_option maxHeartbeats 4000000 in
theorem sp_rows {w : World} {l : Addr} {vs : List Value} {ns : List Int} (hi : IntsAre vs ns) (hn : ns.length < 64) :
    SpecF w 20 72 [.ref l] (fun h => h.IsList l vs.toArray) RowsPost := by
  (intro A s loose mean mg mb X T hh hd hu G hpre; obtain ⟨hd0, dp, fr, gd, un⟩ := A; dsimp only at hh hd hu; subst hh; revert X; k_fill; intro X; have hlim := T.nolimit; (try dsimp only at hpre))
  have hl := hpre
  (refine' enterK [(Str.ofString "script", Value.ref l)] X hlim ?hr24 ?ho24 ?hcd24 ?hb24 ?hl24 ?_ ?c124 ?c224 ?c324 ?c424; (case hr24 => (try dsimp only); omega); (case ho24 => k_is); (case hcd24 => k_is); (case hb24 => rfl); (case hl24 => exact locs rfl); (case c124 => rfl); (case c224 => rfl); (case c324 => rfl); (case c424 => decide))
  intro h₁ F N
  k_steps
  rename IsRange _ _ _ _ _ _ _ _ => R
  obtain ⟨n, hn1, hn2, hn3⟩ := min60 ns.length
  rw [hn1] at R
  ((rename Fr _ _ _ _ => F2); (rename News _ _ _ _ => N2))
  refine iter_rangeS (σ := Addr × List Value × List Int × Nat) (n := n) (fun c => [(c.1, listOf c.2.1.toArray c.2.2.2)]) (fun c => [(Str.ofString "numbers", .ref c.1)])
    [Str.ofString "numbers", Str.ofString "place"]
    (fun i c => IntsAre c.2.1 c.2.2.1 ∧ c.2.2.1.length = 15) (_, _, [5, 48, 8, 50, 10, 9, 18, 7, 55, 34, 47, 46, 22, 0, 8], 0) rfl R (small60 hn2).1 (small60 hn2).2 F2 N2 G rfl ⟨.cons _ _ (.cons _ _ (.cons _ _ (.cons _ _ (.cons _ _ (.cons _ _ (.cons _ _ (.cons _ _ (.cons _ _ (.cons _ _ (.cons _ _ (.cons _ _ (.cons _ _ (.cons _ _ (.cons _ _ .nil)))))))))))))), rfl⟩ (by kst_all) rfl rfl ?_ ?_
  · rintro i ti ⟨a, us, ts, c⟩ u s₁ own hi1 ⟨hs, h15⟩ hoff F3 N3 hos hg
    dsimp only [kstB] at F3 hs h15
    simp only [List.map_cons, List.map_nil] at hoff
    simp only [List.cons_append, List.nil_append, Int.zero_add] at N3 F3
    clear F2 N2
    k_steps
    ((rename Fr _ _ _ _ => F4x); (rename News _ _ _ _ => N4x); (try simp only [List.push_toArray] at N4x); (refine' TurnOk.mk (a, us.set _ (.int _ _), ts.set ((i : Int).fmod 15).toNat ((ts.getD ((i : Int).fmod 15).toNat 0 + ns.getD (i : Int).toNat 0).fmod 100003), c) F4x N4x ?hP25 ?hn25 ?ho25 ?ha25 ?hk25 ?hm25 ?hos25 ?hg25); (case hk25 => kst_all); (case hn25 => ((try dsimp only); (repeat' first | exact List.forall_mem_nil _ | refine List.forall_mem_cons.mpr ⟨by k_memK, ?_⟩))); (case ho25 => (intro p hp; (repeat' (first | exact hp | exact List.mem_append_right _ hp | refine List.Mem.tail _ ?_)); done)); (case hm25 => (intro z h3; (try dsimp only [kstB]); (repeat (first | with_reducible rfl | refine off_st h3 ?_ | refine off_sub (by first | rfl | decide) h3 ?_ | refine off_ite (by first | rfl | decide) h3 ?_ | refine off_same ?_)); done)); (case hos25 => assumption); (case hg25 => assumption))
    · exact ⟨ints_set hs _ _ _, by simp only [List.length_set]; exact h15⟩
    · exact hoff
  · rintro ⟨a, us, ts, c⟩ u s₁ ⟨hs, h15⟩ F3 N3 hos hg
    dsimp only [kstB] at F3 hs h15
    clear F2 N2
    k_steps
    ((rename Fr _ _ _ _ => F2); (rename News _ _ _ _ => N2))
    refine ⟨_, _, a, us, _, _, rfl, rfl, rfl, (newsHead N2).isList (.head _), by rw [hs.length, h15]; decide, F2, N2, ?_, ?_, ?_⟩
    · intro C v s₃ m₃ E' hC hv hn hm hk
      exact test_nil ⟨rfl, keeps_refl⟩
    · intro C v s₃ m₃ E' hC hv hp hn hm hk
      obtain ⟨n, t, rfl, _⟩ := ints_mem hs hv
      refine wpAny_BinOp (wpAny_Name (wpAny_loadName_local rfl rfl hn hm ?_))
      walk1
      walk1
      walk1
      · exact ⟨_, rfl⟩
      · exact ⟨_, _, rfl, fun _ _ e => e⟩
    · intro D n ys h' tk F3 N3 l1 hP
      have hys := paired_ints (pz := fun n => true) (f := fun n => n.fmod 56) (fun n t => rfl) (fun n t y h => h) hs hP
      rw [List.filter_eq_self.mpr (fun _ _ => rfl)] at hys
      clear hP F2 N2
      have hl15 : (ts.map (fun n => n.fmod 56)).length = 15 := by rw [List.length_map]; exact h15
      generalize hg15 : ts.map (fun n => n.fmod 56) = gs at hys hl15
      k_steps
      rename IntsAre _ (List.drop 10 gs) => hi3
      rename IntsAre _ (List.take 5 gs) => hi1
      rename IntsAre _ (List.take _ (List.drop 5 gs)) => hi2
      ((rename Fr _ _ _ _ => F9); (rename News _ _ _ _ => N9))
      refine SpecEnd.mk F9.keep hos hg ⟨_, _, _, _, _, _, _, _, _, _, _, _, _, _, rfl, hi1, hi2, hi3, row_of (ts := ts) ?_ ?_, row_of (ts := ts) ?_ ?_, row_of (ts := ts) ?_ ?_, NewAt.mk N9 (.head _), NewAt.mk N9 (by k_memK), NewAt.mk N9 (by k_memK), NewAt.mk N9 (by k_memK)⟩
      · simp [hl15]
      · intro n hn; rw [hg15]; exact List.mem_of_mem_take hn
      · simp [hl15]
      · intro n hn; rw [hg15]; exact List.mem_of_mem_drop (List.mem_of_mem_take hn)
      · simp [hl15]
      · intro n hn; rw [hg15]; exact List.mem_of_mem_drop hn
end Mine
end
section
local macro_rules | `(tactic| walk_at "MINE F_signs 0") => `(tactic| skip)
local macro_rules | `(tactic| walk_at "MINE F_signs 1") => `(tactic| skip)
local macro_rules | `(tactic| walk_at "MINE F_signs 2") => `(tactic| skip)
local macro_rules | `(tactic| walk_at "MINE F_signs 3") => `(tactic| skip)
theorem Mine.offFsigns : True := by
  w_top off
  trivial
open PySem PySem.W PyProof.Rows PySem.Calls PySem.Spec PyProof.V
set_option maxRecDepth 100000
namespace Mine
local macro_rules | `(tactic| walk_at "exec For Name Name cons nil") => `(tactic| k_dflt ((try k_fold); refine' for_head ?_ ?k; (case k => intro _; exact rfl)))

/-- the signs by their numbers, after i of them -/
def signsTo (i : Nat) : List (PyData × PyData) := (tokD.take i).map fun p => (p.2, PyData.str p.1)
def SignsPost (w : World) (v : Value) (h h' : Heap) : Prop := ∃ d o kvs, v = .ref d ∧ NewAt h h' d o ∧ (d == sysModules) = false ∧ o.IsDictOf (intKind prg w) kvs ∧ FlatPairs PyData.int kvs (signsTo 48)
theorem toks_get {i : Nat} {k : Str} {dv : PyData} (h : (tokD.map fun p => (PyData.str p.1, p.2))[i]? = some (PyData.str k, dv)) : tokD[i]? = some (k, dv) := by
  rw [List.getElem?_map] at h
  cases hq : tokD[i]? with
  | none => rw [hq] at h; cases h
  | some p =>
    rw [hq] at h
    obtain ⟨a, b⟩ := p
    simp only [Option.map_some, Option.some.injEq, Prod.mk.injEq, PyData.str.injEq] at h
    rw [h.1, h.2]
def asStr : PyData → Option Str | .str x => some x | _ => none
def asInt : PyData → Option Int | .int x => some x | _ => none
theorem of_asStr {o : Option PyData} {x : Str} (h : o.bind asStr = some x) : o = some (.str x) := by
  cases o with
  | none => cases h
  | some d => cases d <;> first | (cases h; done) | (cases h; rfl)
theorem of_asInt {o : Option PyData} {x : Int} (h : o.bind asInt = some x) : o = some (.int x) := by
  cases o with
  | none => cases h
  | some d => cases d <;> first | (cases h; done) | (cases h; rfl)
def beqP : PyData → PyData → Bool | .int x, .int y => x == y | .str x, .str y => x == y | _, _ => false
theorem beqP_eq {a b : PyData} (h : beqP a b = true) : a = b := by
  cases a <;> cases b <;> first | (cases h; done) | (simp only [beqP, beq_iff_eq] at h; rw [h])
def beqL : List (PyData × PyData) → List (PyData × PyData) → Bool
  | [], [] => true
  | a :: r, b :: q => beqP a.1 b.1 && beqP a.2 b.2 && beqL r q
  | _, _ => false
theorem beqL_eq : ∀ {l m : List (PyData × PyData)}, beqL l m = true → l = m
  | [], [], _ => rfl
  | [], _ :: _, h => by cases h
  | _ :: _, [], h => by cases h
  | (a, b) :: r, (c, d) :: q, h => by
    simp only [beqL, Bool.and_eq_true] at h
    rw [beqP_eq h.1.1, beqP_eq h.1.2, beqL_eq h.2]
def tokChk (i : Nat) : Bool := match tokD[i]? with
  | some (k, PyData.int n) => ((lookup (.str k) (tokD.map fun p => (PyData.str p.1, p.2))).bind asInt == some n) && beqL (putD (PyData.int n) (PyData.str k) (signsTo i)) (signsTo (i + 1))
  | _ => false
theorem tok_chk : ∀ i < 48, tokChk i = true := by decide +kernel
theorem tok_look : ∀ i < 48, ∃ n k, tokD[i]? = some (k, PyData.int n) ∧ lookup (.str k) (tokD.map fun p => (PyData.str p.1, p.2)) = some (PyData.int n) ∧ putD (PyData.int n) (PyData.str k) (signsTo i) = signsTo (i + 1) := by
  intro i hi
  have h := tok_chk i hi
  unfold tokChk at h
  split at h
  · rename_i k n he
    rw [Bool.and_eq_true] at h
    exact ⟨n, k, he, of_asInt (beq_iff_eq.mp h.1), beqL_eq h.2⟩
  · cases h
theorem tok_len : tokD.length = 48 := rfl

set_option hygiene false in
local macro_rules | `(tactic| walk_at "subscriptTail Name Name ref str") => `(tactic| k_dflt ((refine' item_strTab tokT h2 ?_); intro v' hv'; cases hv'))
set_option hygiene false in
local macro_rules | `(tactic| walk_at "setItem ref int str") => `(tactic| k_dflt ((rename Fr _ _ _ _ => F5); (rename News _ _ _ _ => N5); (refine' setItem_madeIn (own := []) (knd := intKind prg w) same_int (intKind_is _ _ _ _) (Flat.str _ _) F5 N5 ?s1 ?s2 hi2 fi2 ?_ ?s3); (case s1 => exact fun _ h => nomatch h); (case s2 => exact fun p hp => hoff p hp _ (.head _)); (case s3 => rw [signs_len]; rw [sizeLine_eq]; omega); clear F5 N5; intro h5 o5 F5 N5 hi5 fi5; rw [h3] at fi5))
theorem signs_len {i : Nat} : (signsTo i).length = min i 48 := by rw [signsTo, List.length_map, List.length_take]; rfl
set_option maxHeartbeats 4000000 in
theorem sp_signs {w : World} : SpecF w 20 79 [] (fun _ => True) (SignsPost w) := by
  (intro A s loose mean mg mb X T hh hd hu G hpre; obtain ⟨hd0, dp, fr, gd, un⟩ := A; dsimp only at hh hd hu; subst hh; revert X; k_fill; intro X; have hlim := T.nolimit; (try dsimp only at hpre))
  (refine' enterK [] X hlim ?hr26 ?ho26 ?hcd26 ?hb26 ?hl26 ?_ ?c126 ?c226 ?c326 ?c426; (case hr26 => (try dsimp only); omega); (case ho26 => k_is); (case hcd26 => k_is); (case hb26 => rfl); (case hl26 => exact locs rfl); (case c126 => rfl); (case c226 => rfl); (case c326 => rfl); (case c426 => decide))
  intro h₁ F N
  k_steps
  ((rename Fr _ _ _ _ => F2); (rename News _ _ _ _ => N2))
  rename FlatPairs PyData.int _ _ => fi
  rename Obj.IsDictOf (intKind _ _) _ _ => hi
  rename (_ == sysModules) = false => lo
  refine iter_tabS (σ := Obj × List (Int × Value)) (fun c => [(_, c.1)]) (fun c => [(Str.ofString "signs", .ref _)]) [Str.ofString "sign"]
    (fun i c => c.1.IsDictOf (intKind prg w) c.2 ∧ FlatPairs PyData.int c.2 (signsTo i)) (_, []) rfl ((tok_tab X).keep F2.keep) ?_ F2 N2 G rfl ⟨hi, fi⟩ (by kst_all) rfl rfl ?_ ?_
  · exact ⟨_, X 44 _ rfl⟩
  · rintro i k t dv ⟨o, kvs⟩ u s₁ own hD ⟨hi2, fi2⟩ hoff F3 N3 hos hg
    have hD' := toks_get hD
    have hi48 : i < 48 := by have := (List.getElem?_eq_some_iff.mp hD').1; rw [tok_len] at this; exact this
    obtain ⟨n, k', h1, h2, h3⟩ := tok_look i hi48
    rw [hD'] at h1
    cases h1
    dsimp only [kstB] at F3 hi2 fi2
    simp only [List.map_cons, List.map_nil] at hoff
    simp only [List.cons_append, List.nil_append] at N3
    have tokT := (tok_tab X).keep F3.keep
    clear F2 N2
    k_steps
    simp only [List.nil_append] at N5
    ((rename Fr _ _ _ _ => F4x); (rename News _ _ _ _ => N4x); (try simp only [List.push_toArray] at N4x); (refine' TurnOk.mk (o5, stored kvs n (Value.str k t)) F4x N4x ?hP27 ?hn27 ?ho27 ?ha27 ?hk27 ?hm27 ?hos27 ?hg27); (case hk27 => kst_all); (case hn27 => ((try dsimp only); (repeat' first | exact List.forall_mem_nil _ | refine List.forall_mem_cons.mpr ⟨by k_memK, ?_⟩))); (case ho27 => (intro p hp; (repeat' (first | exact hp | exact List.mem_append_right _ hp | refine List.Mem.tail _ ?_)); done)); (case hm27 => (intro z h3; (try dsimp only [kstB]); (repeat (first | with_reducible rfl | refine off_st h3 ?_ | refine off_sub (by first | rfl | decide) h3 ?_ | refine off_ite (by first | rfl | decide) h3 ?_ | refine off_same ?_)); done)); (case hos27 => assumption); (case hg27 => assumption))
    · exact ⟨hi5, fi5⟩
    · exact hoff
  · rintro ⟨o, kvs⟩ u s₁ ⟨hi2, fi2⟩ F3 N3 hos hg
    dsimp only [kstB] at F3 hi2 fi2
    clear F2 N2
    k_steps
    exact SpecEnd.mk (s := s) (Post := SignsPost w) F3.keep hos hg ⟨_, o, kvs, rfl, NewAt.mk N3 (.head _), lo, hi2, fi2⟩
end Mine
end
section
local macro_rules | `(tactic| walk_at "MINE F_places 0") => `(tactic| skip)
local macro_rules | `(tactic| walk_at "MINE F_places 1") => `(tactic| skip)
local macro_rules | `(tactic| walk_at "MINE F_places 2") => `(tactic| skip)
local macro_rules | `(tactic| walk_at "MINE F_places 3") => `(tactic| skip)
local macro_rules | `(tactic| walk_at "MINE F_places 4") => `(tactic| skip)
local macro_rules | `(tactic| walk_at "MINE F_places 5") => `(tactic| skip)
local macro_rules | `(tactic| walk_at "MINE F_places 6") => `(tactic| skip)
local macro_rules | `(tactic| walk_at "MINE F_places 7") => `(tactic| skip)
theorem Mine.offFplaces : True := by
  w_top off
  trivial
open PySem PySem.W PyProof.Rows PySem.Calls PySem.Spec
set_option maxRecDepth 100000
namespace Mine

def isMark (v : Value) : Bool := match v with | .int n _ => decide (n > 47) | _ => false
def sameV (v y : Value) : Prop := y = v
local macro_rules | `(tactic| walk_at "exec For Name Name cons nil") => `(tactic| k_dflt ((try k_fold); refine' for_head ?_ ?k; (case k => intro _; exact rfl)))
local macro_rules | `(tactic| walk_at "exec For Name Call cons nil") => `(tactic| k_dflt ((try k_fold); refine' for_head ?_ ?k; (case k => intro _; exact rfl)))
local macro_rules | `(tactic| walk_at "exec For Name Call cons cons") => `(tactic| k_dflt ((try k_fold); refine' for_head ?_ ?k; (case k => intro _; exact rfl)))
local macro_rules | `(tactic| walk_at "exec For Name List cons nil") => `(tactic| k_dflt ((try k_fold); refine' for_head ?_ ?k; (case k => intro _; exact rfl)))
local macro_rules | `(tactic| walk_at "exec For Tuple Call cons nil") => `(tactic| k_dflt ((try k_fold); refine' for_head ?_ ?k; (case k => intro _; exact rfl)))
local macro_rules | `(tactic| walk_at "exec For Tuple Name cons nil") => `(tactic| k_dflt ((try k_fold); refine' for_head ?_ ?k; (case k => intro _; exact rfl)))
local macro_rules | `(tactic| walk_at "eval ListComp") => `(tactic| k_dflt (refine' comp_K isMark sameV ?c1 ?c2 ?c3 ?c4 ?c5 ?c6 ?_; (case c1 => exact rfl); (case c2 => decide); (case c3 => exact rfl); (case c4 => decide); (case c5 => exact rfl); (case c6 => intro _; exact rfl)))

theorem ints_app {vs us : List Value} {ns ms : List Int} (h : IntsAre vs ns) (h' : IntsAre us ms) : IntsAre (vs ++ us) (ns ++ ms) := by
  induction h with
  | nil => exact h'
  | cons n t _ ih => exact .cons n t ih
def marksOf (row : List Int) : Nat := (row.filter (fun n => decide (n > 47))).length
def vstep (marks : Nat) (c : Nat × List Int) (n : Int) : Nat × List Int := if n > 47 then (c.1 + 1, c.2) else if c.1 % 2 = 0 ∨ c.1 = marks then (c.1, c.2 ++ [n]) else c
def visGo (marks : Nat) (row : List Int) : Nat × List Int := row.foldl (vstep marks) (0, [])
def visOf (row : List Int) : List Int := (visGo (marksOf row) row).2
theorem visGo_next {marks : Nat} {row : List Int} {i : Nat} {n : Int} (h : row[i]? = some n) : visGo marks (row.take (i + 1)) = vstep marks (visGo marks (row.take i)) n := by
  simp [visGo, List.take_add_one, h, List.foldl_append]
theorem visGo_len (marks : Nat) (row : List Int) : (visGo marks row).2.length ≤ row.length ∧ (visGo marks row).1 ≤ row.length := by
  have h : ∀ (row : List Int) (c : Nat × List Int), (row.foldl (vstep marks) c).2.length ≤ c.2.length + row.length ∧ (row.foldl (vstep marks) c).1 ≤ c.1 + row.length := by
    intro row
    induction row with
    | nil => intro c; simp
    | cons n r ih =>
      intro c
      have h1 := ih (vstep marks c n)
      rw [List.foldl_cons]
      have h2 : (vstep marks c n).2.length ≤ c.2.length + 1 ∧ (vstep marks c n).1 ≤ c.1 + 1 := by
        unfold vstep
        split
        · simp
        · split <;> simp
      simp only [List.length_cons]
      omega
  have := h row (0, [])
  simpa [visGo] using this

theorem seen_nodup (ns : List Int) : ∀ S : List Int, S.Nodup → (ns.foldl addTo S).Nodup := by
  induction ns with
  | nil => intro S h; exact h
  | cons n r ih => intro S h; exact ih _ (addTo_nodup h n)
theorem seen_mem (ns : List Int) : ∀ (S : List Int) (x : Int), x ∈ ns.foldl addTo S ↔ x ∈ S ∨ x ∈ ns := by
  induction ns with
  | nil => intro S x; simp
  | cons n r ih =>
    intro S x
    rw [List.foldl_cons, ih, mem_addTo, List.mem_cons, or_assoc]
theorem set_step {prog : Program} {w : World} {A : Around} {s : Shared} {E : Value → Shared → Prop} {h₀ : Heap} {L a : Addr} {m : Str → Option Value} {news : List (Addr × Obj)} {us : List Value} {ts : List Int} {c : Nat} {Q : Value → Shared → Prop}
    (hh : A.handled = none) (F : Fr h₀ L s.heap m) (N : News h₀ L s.heap ((a, listOf us.toArray c) :: news)) (hi : IntsAre us ts) (hb : ts.length ≤ 50)
    (h : ∀ d h' tk, SetG prog w h' d (seenOf ts ts.length) → Fr h₀ L h' m → News h₀ L h' ((a, listOf us.toArray c) :: news) → Q (.ref d) { s with heap := h', toks := tk }) : wpAny (model prog w) A (call (.type "set") [.ref a]) Q E s := by
  refine call_set_G hh (N.isList (.head _)) hi (by unfold scanBound; omega) fun h' tk hG he => ?_
  exact h _ h' tk hG (frExt F he) (newsExt N he)
theorem sorted_step {prog : Program} {w : World} {A : Around} {s : Shared} {E : Value → Shared → Prop} {h₀ : Heap} {L d : Addr} {m : Str → Option Value} {news : List (Addr × Obj)} {ts : List Int} {Q : Value → Shared → Prop}
    (hh : A.handled = none) (F : Fr h₀ L s.heap m) (N : News h₀ L s.heap news) (hG : SetG prog w s.heap d (seenOf ts ts.length)) (hb : ts.length ≤ 50)
    (h : ∀ D (us : List Value) ns n h' dr tk, IntsAre us ns → ns.Pairwise (· < ·) → (∀ x, x ∈ ns ↔ x ∈ ts) → Fr h₀ L h' m → News h₀ L h' ((D, listOf us.toArray n) :: news) → Q (.ref D) { s with heap := h', drawn := dr, toks := tk }) :
    wpAny (model prog w) A (call (.builtin "sorted") [.ref d]) Q E s := by
  have hnd : (seenOf ts ts.length).Nodup := seen_nodup _ _ List.nodup_nil
  refine sorted_set hh hG hnd (by have := seenOf_len ts ts.length; omega) fun D us ns n h' dr tk hi hp ho he hn => ?_
  refine h D us ns n h' dr tk hi ?_ (fun x => ?_) (frExt F he) (newsAdd F (newsExt N he) hn.1 hn.2)
  · have h1 : ns.Nodup := (hp.nodup_iff).mpr hnd
    refine List.Pairwise.imp₂ (fun a b h2 h3 => ?_) ho h1
    exact Int.lt_iff_le_and_ne.mpr ⟨h2, h3⟩
  · rw [hp.mem_iff, seenOf, seen_mem, List.take_length]
    simp
def PlacesPost (row : List Int) (v : Value) (h h' : Heap) : Prop := ∃ D us ns n, v = .ref D ∧ IntsAre us ns ∧ ns.Pairwise (· < ·) ∧ (∀ x, x ∈ ns ↔ x ∈ visOf row) ∧ NewAt h h' D (listOf us.toArray n)
set_option hygiene false in
local macro_rules | `(tactic| walk_at "call type:set") => `(tactic| k_dflt ((rename Fr _ _ _ _ => F5); (rename News _ _ _ _ => N5); (refine set_step rfl F5 N5 hs hle2 ?_); clear F5 N5; intro ds hs' tks hG Fs Ns))
set_option hygiene false in
local macro_rules | `(tactic| walk_at "call builtin:sorted") => `(tactic| k_dflt ((rename Fr _ _ _ _ => F5); (rename News _ _ _ _ => N5); (refine sorted_step rfl F5 N5 hG hle2 ?_); clear F5 N5; intro D us' ns' nn hs'' drr tkr hI' hpw hmm Fs Ns))
set_option maxHeartbeats 4000000 in
theorem sp_places {w : World} {l : Addr} {vs : List Value} {row : List Int} (hi : IntsAre vs row) (h5 : row.length = 5) :
    SpecF w 20 89 [.ref l] (fun h => h.IsList l vs.toArray) (PlacesPost row) := by
  (intro A s loose mean mg mb X T hh hd hu G hpre; obtain ⟨hd0, dp, fr, gd, un⟩ := A; dsimp only at hh hd hu; subst hh; revert X; k_fill; intro X; have hlim := T.nolimit; (try dsimp only at hpre))
  have hl := hpre
  (refine' enterK [(Str.ofString "row", Value.ref l)] X hlim ?hr28 ?ho28 ?hcd28 ?hb28 ?hl28 ?_ ?c128 ?c228 ?c328 ?c428; (case hr28 => (try dsimp only); omega); (case ho28 => k_is); (case hcd28 => k_is); (case hb28 => rfl); (case hl28 => exact locs rfl); (case c128 => rfl); (case c228 => rfl); (case c328 => rfl); (case c428 => decide))
  intro h₁ F N
  k_steps
  ((rename Fr _ _ _ _ => F2); (rename News _ _ _ _ => N2))
  refine ⟨_, _, l, vs, _, _, rfl, rfl, Fr.lst F2 hl, by rw [hi.length]; omega, F2, N2, ?_, ?_, ?_⟩
  · intro C v s₃ m₃ E' hC hv hn hm hk
    obtain ⟨n, t, rfl, _⟩ := ints_mem hi hv
    refine test_one ?_
    refine wpAny_isTrue_Compare1 (wpAny_Name (wpAny_loadName_local rfl rfl hn hm ?_))
    walk1
    walk1
    walk1
    exact ⟨rfl, keeps_toks⟩
  · intro C v s₃ m₃ E' hC hv hp hn hm hk
    exact wpAny_Name (wpAny_loadName_local rfl rfl hn hm ⟨rfl, keeps_refl⟩)
  · intro D n ys h' tk F3 N3 l1 hP
    have hys := paired_ints (pz := fun n => decide (n > 47)) (f := id) (fun n t => rfl) (fun n t y (h : y = _) => ⟨t, h⟩) hi hP
    rw [List.map_id] at hys
    have hml : marksOf row ≤ 5 := by rw [← h5]; exact List.length_filter_le _ _
    clear hP F2 N2
    k_steps
    refine' kst_len (k := marksOf row) ?z1 ?z2 hys.length (by omega) ?_
    case z1 => exact N3
    case z2 => exact .head _
    k_steps
    ((rename Fr _ _ _ _ => F2); (rename News _ _ _ _ => N2))
    refine iter_listS (σ := Addr × List Value × List Int × Nat × Nat × Tok) (fun c => [(c.1, listOf c.2.1.toArray c.2.2.2.1)]) (fun c => [(Str.ofString "places", .ref c.1), (Str.ofString "seen", .int (c.2.2.2.2.1 : Int) c.2.2.2.2.2)])
      [Str.ofString "places", Str.ofString "seen", Str.ofString "thing"]
      (fun i c => IntsAre c.2.1 c.2.2.1 ∧ (c.2.2.2.2.1, c.2.2.1) = visGo (marksOf row) (row.take i)) (_, [], [], 0, 0, _) rfl (Fr.lst F2 hl) (list_neL hl) (.inl (list_ex hl)) F2 (newsHead N2) G rfl ⟨.nil, rfl⟩ (by kst_all) rfl rfl ?_ ?_
    · rintro i v ⟨a, us, ts, c, sn, tsn⟩ u s₁ own hv ⟨hs, hw⟩ hoff F3 N3 hos hg
      obtain ⟨x, tx, rfl, hx⟩ := ints_get hi hv
      dsimp only [kstB] at F3 hs hw
      simp only [List.cons_append, List.nil_append] at N3
      simp only [List.map_cons, List.map_nil] at hoff
      have hle := visGo_len (marksOf row) (row.take i)
      rw [← hw] at hle
      simp only [List.length_take] at hle
      have hul : us.length ≤ 5 := by rw [hs.length]; omega
      clear F2 N2
      k_steps
      · ((rename Fr _ _ _ _ => F4x); (rename News _ _ _ _ => N4x); (try simp only [List.push_toArray] at N4x); (refine' TurnOk.mk (a, us, ts, c, sn + 1, _) F4x N4x ?hP29 ?hn29 ?ho29 ?ha29 ?hk29 ?hm29 ?hos29 ?hg29); (case hk29 => kst_all); (case hn29 => ((try dsimp only); (repeat' first | exact List.forall_mem_nil _ | refine List.forall_mem_cons.mpr ⟨by k_memK, ?_⟩))); (case ho29 => (intro p hp; (repeat' (first | exact hp | exact List.mem_append_right _ hp | refine List.Mem.tail _ ?_)); done)); (case hm29 => (intro z h3; (try dsimp only [kstB]); (repeat (first | with_reducible rfl | refine off_st h3 ?_ | refine off_sub (by first | rfl | decide) h3 ?_ | refine off_ite (by first | rfl | decide) h3 ?_ | refine off_same ?_)); done)); (case hos29 => assumption); (case hg29 => assumption))
        · refine ⟨hs, ?_⟩
          rw [visGo_next hx, ← hw, vstep, if_pos (by omega)]
        · exact hoff
      · rename Int.fmod _ _ = _ => hm
        have hm2 : sn % 2 = 0 := by have := fdiv_fmod_facts (sn : Int) 2; omega
        ((rename Fr _ _ _ _ => F4x); (rename News _ _ _ _ => N4x); (try simp only [List.push_toArray] at N4x); (refine' TurnOk.mk (a, us ++ [Value.int x tx], ts ++ [x], c + 1, sn, tsn) F4x N4x ?hP30 ?hn30 ?ho30 ?ha30 ?hk30 ?hm30 ?hos30 ?hg30); (case hk30 => kst_all); (case hn30 => ((try dsimp only); (repeat' first | exact List.forall_mem_nil _ | refine List.forall_mem_cons.mpr ⟨by k_memK, ?_⟩))); (case ho30 => (intro p hp; (repeat' (first | exact hp | exact List.mem_append_right _ hp | refine List.Mem.tail _ ?_)); done)); (case hm30 => (intro z h3; (try dsimp only [kstB]); (repeat (first | with_reducible rfl | refine off_st h3 ?_ | refine off_sub (by first | rfl | decide) h3 ?_ | refine off_ite (by first | rfl | decide) h3 ?_ | refine off_same ?_)); done)); (case hos30 => assumption); (case hg30 => assumption))
        · refine ⟨ints_app hs (.cons x tx .nil), ?_⟩
          rw [visGo_next hx, ← hw, vstep, if_neg (by omega), if_pos (.inl hm2)]
        · exact hoff
      · rename (sn : Int) = _ => hm
        have hm2 : sn = marksOf row := by omega
        ((rename Fr _ _ _ _ => F4x); (rename News _ _ _ _ => N4x); (try simp only [List.push_toArray] at N4x); (refine' TurnOk.mk (a, us ++ [Value.int x tx], ts ++ [x], c + 1, sn, tsn) F4x N4x ?hP31 ?hn31 ?ho31 ?ha31 ?hk31 ?hm31 ?hos31 ?hg31); (case hk31 => kst_all); (case hn31 => ((try dsimp only); (repeat' first | exact List.forall_mem_nil _ | refine List.forall_mem_cons.mpr ⟨by k_memK, ?_⟩))); (case ho31 => (intro p hp; (repeat' (first | exact hp | exact List.mem_append_right _ hp | refine List.Mem.tail _ ?_)); done)); (case hm31 => (intro z h3; (try dsimp only [kstB]); (repeat (first | with_reducible rfl | refine off_st h3 ?_ | refine off_sub (by first | rfl | decide) h3 ?_ | refine off_ite (by first | rfl | decide) h3 ?_ | refine off_same ?_)); done)); (case hos31 => assumption); (case hg31 => assumption))
        · refine ⟨ints_app hs (.cons x tx .nil), ?_⟩
          rw [visGo_next hx, ← hw, vstep, if_neg (by omega), if_pos (.inr hm2)]
        · exact hoff
      · rename ¬ (sn : Int) = _ => hm
        rename Int.fmod _ _ ≠ _ => hm1
        have hm2 : ¬ (sn % 2 = 0 ∨ sn = marksOf row) := by have := fdiv_fmod_facts (sn : Int) 2; omega
        ((rename Fr _ _ _ _ => F4x); (rename News _ _ _ _ => N4x); (try simp only [List.push_toArray] at N4x); (refine' TurnOk.mk (a, us, ts, c, sn, tsn) F4x N4x ?hP32 ?hn32 ?ho32 ?ha32 ?hk32 ?hm32 ?hos32 ?hg32); (case hk32 => kst_all); (case hn32 => ((try dsimp only); (repeat' first | exact List.forall_mem_nil _ | refine List.forall_mem_cons.mpr ⟨by k_memK, ?_⟩))); (case ho32 => (intro p hp; (repeat' (first | exact hp | exact List.mem_append_right _ hp | refine List.Mem.tail _ ?_)); done)); (case hm32 => (intro z h3; (try dsimp only [kstB]); (repeat (first | with_reducible rfl | refine off_st h3 ?_ | refine off_sub (by first | rfl | decide) h3 ?_ | refine off_ite (by first | rfl | decide) h3 ?_ | refine off_same ?_)); done)); (case hos32 => assumption); (case hg32 => assumption))
        · refine ⟨hs, ?_⟩
          rw [visGo_next hx, ← hw, vstep, if_neg (by omega), if_neg hm2]
        · exact hoff
    · rintro ⟨a, us, ts, c, sn, tsn⟩ u s₁ ⟨hs, hw⟩ F3 N3 hos hg
      dsimp only [kstB] at F3 hs hw
      rw [hi.length, List.take_length] at hw
      clear F2 N2
      have hle2 : ts.length ≤ 50 := by
        have h1 := (visGo_len (marksOf row) row).1
        rw [← hw] at h1
        dsimp only at h1
        omega
      k_steps
      rename Fr _ _ _ _ => F9
      refine SpecEnd.mk (s := s) (Post := PlacesPost row) F9.keep hos hg ⟨_, _, _, _, rfl, hI', hpw, fun x => ?_, NewAt.mk Ns (.head _)⟩
      rw [hmm, visOf, ← hw]
end Mine
end
section
theorem Mine.offFstrip : True := by
  w_top off
  trivial
open PySem PySem.W PyProof.Rows PySem.Calls PySem.Spec
set_option maxRecDepth 100000
namespace Mine
theorem call_iter {w : World} {A : Around} {s : Shared} {loose : List Str} {mean : ExcName → Option Value} {mg mb : Str → Option Value} {h₀ : Heap} {L : Addr} {m : Str → Option Value} {news : List (Addr × Obj)} {x : Str} {t : Tok} {Q : Value → Shared → Prop}
    (X : (hd0.heap_1_1 w.params).In h₀) (T : Top hd0.view_1_2 loose mean mg mb h₀) (F : Fr h₀ L s.heap m) (N : News h₀ L s.heap news) (G : AllBare s.gens)
    (hh : A.handled = none) (hroom : A.depth < recursionLimit) (hesc : ∀ c ∈ x.cps.toList, c ≠ 92)
    (h : ∀ I g wr (s' : Shared), (∀ B : Around, B.handled = none → GenSt Challenge.rw_sr0057_01.row.prog w B x I g wr 0 s') → I ∉ wr → L ∉ I :: wr → (∀ b ∈ I :: wr, h₀.get? b = none) → (∀ p ∈ news, p.1 ∉ I :: wr) →
      Fr h₀ L s'.heap m → News h₀ L s'.heap news → s'.os = s.os → AllBare s'.gens → Q (.ref I) s') :
    wpAny (model Challenge.rw_sr0057_01.row.prog w) A (PySem.call (.ref 36) [.str x t] []) Q noE s := by
  refine wpAny_call (gen_call (X.keeps F.keep) (T.keeps F.keep) hroom hh hesc fun h' tk c hext hgen hsz hgo => ?_)
  have hL : L < s.heap.objs.size := F.ns.lt
  have hge : ∀ b ∈ (s.heap.objs.size + 1) :: [s.heap.objs.size, s.heap.objs.size + 3, s.heap.objs.size + 2], s.heap.objs.size ≤ b := by
    intro b hb
    simp only [List.mem_cons, List.not_mem_nil, or_false] at hb
    omega
  refine h (s.heap.objs.size + 1) s.gens.size [s.heap.objs.size, s.heap.objs.size + 3, s.heap.objs.size + 2] _ (fun B hB => ⟨hgen, (T.nolimit).keeps fun b o e => hext b o (F.keep b o e), _, Array.getElem?_push_size .., hgo B hB⟩) ?_ ?_ ?_ ?_ (frExt F hext) (newsExt N hext) rfl ?_
  · simp only [List.mem_cons, List.not_mem_nil, or_false, not_or]
    omega
  · intro hm
    exact absurd (hge _ hm) (Nat.not_le.mpr hL)
  · intro b hb
    cases hq : h₀.get? b with
    | none => rfl
    | some o =>
      exact absurd (hge b hb) (Nat.not_le.mpr (Heap.lt_size (F.keep _ _ hq)))
  · intro p hp hm
    exact absurd (hge _ hm) (Nat.not_le.mpr (Heap.lt_size (N p hp).1))
  · exact G.push rfl

set_option hygiene false in
local macro_rules | `(tactic| walk_at "exec For Tuple Call cons nil") => `(tactic| k_dflt ((try k_fold); refine' for_head ?_ ?k; (case k => intro _; exact rfl)))
set_option hygiene false in
local macro_rules | `(tactic| walk_at "call ref") => `(tactic| k_dflt ((rename Fr _ _ _ _ => F5); (rename News _ _ _ _ => N5); (refine' call_iter ?k1 ?k2 F5 N5 ?k3 ?k4 ?k5 ?k6 ?_); (case k1 => assumption); (case k2 => assumption); (case k3 => assumption); (case k4 => rfl); (case k5 => (simp only [depth_deeper, depth_in1]; omega)); (case k6 => assumption); clear F5 N5; intro I g wr sG hst hIw hLw hnew hnw FG NG hosG hgG))

/-- start, the open quotation mark, what has been kept -/
abbrev StripS := Nat × Option Nat × List Str
def stripStep (x : Str) (c : StripS) (i ch : Nat) : StripS :=
  if ch = 34 then match c.2.1 with
    | none => (c.1, some i, c.2.2)
    | some o => (i + 1, none, if c.1 ≠ o then c.2.2 ++ [Txt.slice x (some (c.1 : Int)) (some (o : Int))] else c.2.2)
  else c
def stripGo (x : Str) : Nat → StripS
  | 0 => (0, none, [])
  | i + 1 => stripStep x (stripGo x i) i (x.cps.getD i 0)
def stripEnd (x : Str) : List Str := let c := stripGo x x.length; if c.1 < x.length then c.2.2 ++ [Txt.slice x (some (c.1 : Int)) none] else c.2.2
def stripOf (x : Str) : Str := if (Builtin.Str.occurrences x (Str.ofString "\"") 0 x.length 1).isEmpty then x else Txt.join Str.empty (stripEnd x)

theorem quote_of {ch : Nat} : (({ cps := #[ch] } : Str) == Str.ofString "\"") = decide (ch = 34) := by
  rw [Bool.eq_iff_iff, beq_iff_eq, decide_eq_true_eq]
  constructor
  · intro h
    have h2 : (#[ch] : Array Nat) = #[34] := congrArg Str.cps h
    simpa using h2
  · rintro rfl; rfl
local macro_rules | `(tactic| walk_at "call builtin:list.append") => `(tactic| ((rename Fr _ _ _ _ => F7); (rename News _ _ _ _ => N7); (refine' app_head F7 N7 ?ho ?hz ?_); (case ho => first | exact OwnOff.ne (by assumption) (by k_memK) | (intro p hp; cases hp; done)); (case hz => omega); intro h' F' N'; clear F7 N7))
set_option maxHeartbeats 4000000 in
theorem sp_strip {w : World} {x : Str} {t : Tok} (hx : x.length ≤ 100) (hasc : Asc x) (hesc : ∀ c ∈ x.cps.toList, c ≠ 92) :
    SpecF w 20 43 [.str x t] (fun _ => True) (fun v _ _ => ∃ t', v = .str (stripOf x) t') := by
  (intro A s loose mean mg mb X T hh hd hu G hpre; obtain ⟨hd0, dp, fr, gd, un⟩ := A; dsimp only at hh hd hu; subst hh; revert X; k_fill; intro X; have hlim := T.nolimit; (try dsimp only at hpre))
  (refine' enterK [(Str.ofString "addr", Value.str x t)] X hlim ?hr33 ?ho33 ?hcd33 ?hb33 ?hl33 ?_ ?c133 ?c233 ?c333 ?c433; (case hr33 => (try dsimp only); omega); (case ho33 => k_is); (case hcd33 => k_is); (case hb33 => rfl); (case hl33 => exact locs rfl); (case c133 => rfl); (case c233 => rfl); (case c333 => rfl); (case c433 => decide))
  intro h₁ F N
  k_steps
  · rename (Builtin.Str.occurrences _ _ _ _ _).isEmpty = true => hq
    rename Fr _ _ _ _ => F9
    exact SpecEnd.mk (s := s) (Post := fun v _ _ => ∃ t', v = .str (stripOf x) t') F9.keep rfl G ⟨_, by rw [stripOf, if_pos hq]⟩
  · rename (Builtin.Str.occurrences _ _ _ _ _).isEmpty = false => hq
    refine iter_genS (σ := Addr × List Value × List Str × Nat × Nat × Tok × Option (Nat × Tok)) (fun c => [(c.1, listOf c.2.1.toArray c.2.2.2.1)])
      (fun c => [(Str.ofString "result", .ref c.1), (Str.ofString "start", .int (c.2.2.2.2.1 : Int) c.2.2.2.2.2.1), (Str.ofString "open_pos", match c.2.2.2.2.2.2 with | none => .none | some o => .int (o.1 : Int) o.2)])
      [Str.ofString "result", Str.ofString "start", Str.ofString "open_pos", Str.ofString "pos", Str.ofString "ch"]
      (fun i c => StrsAre c.2.1 c.2.2.1 ∧ stripGo x i = (c.2.2.2.2.1, c.2.2.2.2.2.2.map (·.1), c.2.2.1) ∧ (c.2.2.1.length ≤ i ∧ (c.2.2.1.map (·.length)).sum ≤ i * 100) ∧ c.2.2.2.2.1 ≤ i ∧ (∀ o, c.2.2.2.2.2.2 = some o → o.1 < i ∧ c.2.2.2.2.1 ≤ o.1))
      (_, [], [], 0, 0, _, none) rfl (by simp only [depth_deeper, depth_in1]; omega) (hst _ rfl) hlim hIw hLw hnew hnw FG NG hgG rfl ⟨.nil, rfl, by simp, by simp, by simp⟩ (by kst_all) rfl rfl rfl ?_ ?_
    · rintro i ch ti tc ⟨a, us, ts, c, st, tst, op⟩ u s₁ own hc ⟨hs, hgo, ⟨hlen, hwt⟩, hst1, hop⟩ hoff F3 N3 hos hg
      dsimp only [kstB] at F3 hs hgo hlen hwt hst1 hop
      simp only [List.map_cons, List.map_nil] at hoff
      simp only [List.cons_append, List.nil_append] at N3
      clear FG NG
      have hil : i < x.length := (Array.getElem?_eq_some_iff.mp hc).1
      have hul : us.length ≤ 1000 := by rw [hs.length]; omega
      have hgd : x.cps.getD i 0 = ch := by rw [Array.getD_eq_getD_getElem?, hc]; rfl
      have hnx : stripGo x (i + 1) = stripStep x (stripGo x i) i ch := by rw [← hgd]; rfl
      rw [hgo] at hnx
      have hgt : ∀ y ∈ [1], y ≤ 1 := by simp
      cases op with
      | none =>
        dsimp only at F3
        k_steps
        · rename (_ == Str.ofString "\"") = true => hq2
          rw [quote_of, decide_eq_true_eq] at hq2
          refine ⟨?_, rfl⟩
          ((rename Fr _ _ _ _ => F4x); (rename News _ _ _ _ => N4x); (try simp only [List.push_toArray] at N4x); (refine' TurnOk.mk (a, us, ts, c, st, tst, some (i, ti)) F4x N4x ?hP34 ?hn34 ?ho34 ?ha34 ?hk34 ?hm34 ?hos34 ?hg34); (case hk34 => kst_all); (case hn34 => ((try dsimp only); (repeat' first | exact List.forall_mem_nil _ | refine List.forall_mem_cons.mpr ⟨by k_memK, ?_⟩))); (case ho34 => (intro p hp; (repeat' (first | exact hp | exact List.mem_append_right _ hp | refine List.Mem.tail _ ?_)); done)); (case hm34 => (intro z h3; (try dsimp only [kstB]); (repeat (first | with_reducible rfl | refine off_st h3 ?_ | refine off_sub (by first | rfl | decide) h3 ?_ | refine off_ite (by first | rfl | decide) h3 ?_ | refine off_same ?_)); done)); (case hos34 => assumption); (case hg34 => assumption))
          · refine ⟨hs, ?_, by dsimp only; constructor <;> omega, by dsimp only; omega, ?_⟩
            · rw [hnx, stripStep, if_pos hq2]; rfl
            · rintro o h; cases h; exact ⟨by dsimp only; omega, hst1⟩
          · exact hoff
        · rename (_ == Str.ofString "\"") = false => hq2
          rw [quote_of, decide_eq_false_iff_not] at hq2
          refine ⟨?_, rfl⟩
          ((rename Fr _ _ _ _ => F4x); (rename News _ _ _ _ => N4x); (try simp only [List.push_toArray] at N4x); (refine' TurnOk.mk (a, us, ts, c, st, tst, none) F4x N4x ?hP35 ?hn35 ?ho35 ?ha35 ?hk35 ?hm35 ?hos35 ?hg35); (case hk35 => kst_all); (case hn35 => ((try dsimp only); (repeat' first | exact List.forall_mem_nil _ | refine List.forall_mem_cons.mpr ⟨by k_memK, ?_⟩))); (case ho35 => (intro p hp; (repeat' (first | exact hp | exact List.mem_append_right _ hp | refine List.Mem.tail _ ?_)); done)); (case hm35 => (intro z h3; (try dsimp only [kstB]); (repeat (first | with_reducible rfl | refine off_st h3 ?_ | refine off_sub (by first | rfl | decide) h3 ?_ | refine off_ite (by first | rfl | decide) h3 ?_ | refine off_same ?_)); done)); (case hos35 => assumption); (case hg35 => assumption))
          · refine ⟨hs, ?_, by dsimp only; constructor <;> omega, by dsimp only; omega, by simp⟩
            rw [hnx, stripStep, if_neg hq2]
          · exact hoff
      | some o =>
        obtain ⟨o, to⟩ := o
        obtain ⟨ho1, ho2⟩ := hop _ rfl
        dsimp only at F3 ho1 ho2
        k_steps
        · rename (_ == Str.ofString "\"") = true => hq2
          rename (st : Int) ≠ (o : Int) => hso
          rename (Txt.slice _ _ _).length ≤ _ => hsl
          rw [quote_of, decide_eq_true_eq] at hq2
          refine ⟨?_, rfl⟩
          ((rename Fr _ _ _ _ => F4x); (rename News _ _ _ _ => N4x); (try simp only [List.push_toArray] at N4x); (refine' TurnOk.mk (a, us ++ [Value.str (Txt.slice x (some (st : Int)) (some (o : Int))) _], ts ++ [Txt.slice x (some (st : Int)) (some (o : Int))], c + 1, i + 1, _, none) F4x N4x ?hP36 ?hn36 ?ho36 ?ha36 ?hk36 ?hm36 ?hos36 ?hg36); (case hk36 => kst_all); (case hn36 => ((try dsimp only); (repeat' first | exact List.forall_mem_nil _ | refine List.forall_mem_cons.mpr ⟨by k_memK, ?_⟩))); (case ho36 => (intro p hp; (repeat' (first | exact hp | exact List.mem_append_right _ hp | refine List.Mem.tail _ ?_)); done)); (case hm36 => (intro z h3; (try dsimp only [kstB]); (repeat (first | with_reducible rfl | refine off_st h3 ?_ | refine off_sub (by first | rfl | decide) h3 ?_ | refine off_ite (by first | rfl | decide) h3 ?_ | refine off_same ?_)); done)); (case hos36 => assumption); (case hg36 => assumption))
          · refine ⟨StrsAre.append' hs (.cons _ _ .nil), ?_, by dsimp only; rw [List.length_append, List.map_append, List.sum_append]; simp only [List.length_cons, List.length_nil, List.map_cons, List.map_nil, List.sum_cons, List.sum_nil]; constructor <;> omega, by dsimp only; omega, by simp⟩
            rw [hnx, stripStep, if_pos hq2]
            dsimp only [Option.map]
            rw [if_pos (by omega)]
          · exact hoff
        · rename (_ == Str.ofString "\"") = true => hq2
          rename (st : Int) = (o : Int) => hso
          rw [quote_of, decide_eq_true_eq] at hq2
          refine ⟨?_, rfl⟩
          ((rename Fr _ _ _ _ => F4x); (rename News _ _ _ _ => N4x); (try simp only [List.push_toArray] at N4x); (refine' TurnOk.mk (a, us, ts, c, i + 1, _, none) F4x N4x ?hP37 ?hn37 ?ho37 ?ha37 ?hk37 ?hm37 ?hos37 ?hg37); (case hk37 => kst_all); (case hn37 => ((try dsimp only); (repeat' first | exact List.forall_mem_nil _ | refine List.forall_mem_cons.mpr ⟨by k_memK, ?_⟩))); (case ho37 => (intro p hp; (repeat' (first | exact hp | exact List.mem_append_right _ hp | refine List.Mem.tail _ ?_)); done)); (case hm37 => (intro z h3; (try dsimp only [kstB]); (repeat (first | with_reducible rfl | refine off_st h3 ?_ | refine off_sub (by first | rfl | decide) h3 ?_ | refine off_ite (by first | rfl | decide) h3 ?_ | refine off_same ?_)); done)); (case hos37 => assumption); (case hg37 => assumption))
          · refine ⟨hs, ?_, by dsimp only; constructor <;> omega, by dsimp only; omega, by simp⟩
            rw [hnx, stripStep, if_pos hq2]
            dsimp only [Option.map]
            rw [if_neg (by omega)]
          · exact hoff
        · rename (_ == Str.ofString "\"") = false => hq2
          rw [quote_of, decide_eq_false_iff_not] at hq2
          refine ⟨?_, rfl⟩
          ((rename Fr _ _ _ _ => F4x); (rename News _ _ _ _ => N4x); (try simp only [List.push_toArray] at N4x); (refine' TurnOk.mk (a, us, ts, c, st, tst, some (o, to)) F4x N4x ?hP38 ?hn38 ?ho38 ?ha38 ?hk38 ?hm38 ?hos38 ?hg38); (case hk38 => kst_all); (case hn38 => ((try dsimp only); (repeat' first | exact List.forall_mem_nil _ | refine List.forall_mem_cons.mpr ⟨by k_memK, ?_⟩))); (case ho38 => (intro p hp; (repeat' (first | exact hp | exact List.mem_append_right _ hp | refine List.Mem.tail _ ?_)); done)); (case hm38 => (intro z h3; (try dsimp only [kstB]); (repeat (first | with_reducible rfl | refine off_st h3 ?_ | refine off_sub (by first | rfl | decide) h3 ?_ | refine off_ite (by first | rfl | decide) h3 ?_ | refine off_same ?_)); done)); (case hos38 => assumption); (case hg38 => assumption))
          · refine ⟨hs, ?_, by dsimp only; constructor <;> omega, by dsimp only; omega, ?_⟩
            · rw [hnx, stripStep, if_neg hq2]
            · rintro o' h; cases h; exact ⟨by dsimp only; omega, ho2⟩
          · exact hoff
    · rintro ⟨a, us, ts, c, st, tst, op⟩ u s₁ ⟨hs, hgo, ⟨hlen, hwt⟩, hst1, hop⟩ F3 N3 hos hg
      dsimp only [kstB] at F3 hs hgo hlen hwt hst1 hop
      clear FG NG
      have hlen' : ts.length ≤ x.length := hlen
      have hwt' : (ts.map (·.length)).sum ≤ x.length * 100 := hwt
      have hul : us.length ≤ 1000 := by rw [hs.length]; omega
      have hfin : ∀ r, stripEnd x = r → (Builtin.Str.occurrences x (Str.ofString "\"") 0 x.length 1).isEmpty = false → stripOf x = Txt.join Str.empty r := by
        intro r h1 h2
        rw [stripOf, h2, if_neg Bool.false_ne_true, h1]
      have hse : stripEnd x = if st < x.length then ts ++ [Txt.slice x (some (st : Int)) none] else ts := by
        unfold stripEnd
        rw [show stripGo x x.length = _ from hgo]
      k_steps
      · rename (st : Int) < (x.length : Int) => hlt
        rename (Txt.slice _ _ _).length ≤ _ => hsl
        rename News _ _ _ _ => N8
        simp only [List.push_toArray] at N8
        rw [if_pos (by omega)] at hse
        refine join_listW (N8.isList (.head _)) (by rw [List.toList_toArray]; exact StrsAre.append' hs (.cons _ _ .nil)) (by decide) ?_ ?_
        · rw [List.length_append, List.map_append, List.sum_append]
          simp only [List.length_cons, List.length_nil, List.map_cons, List.map_nil, List.sum_cons, List.sum_nil]
          omega
        k_steps
        rename Fr _ _ _ _ => F9
        exact SpecEnd.mk (s := s) (Post := fun v _ _ => ∃ t', v = .str (stripOf x) t') F9.keep (hos.trans hosG) hg ⟨_, by rw [hfin _ hse hq]; rfl⟩
      · rename ¬ (st : Int) < (x.length : Int) => hlt
        rename News _ _ _ _ => N8
        rw [if_neg (by omega)] at hse
        refine join_listW (N8.isList (.head _)) (by rw [List.toList_toArray]; exact hs) (by decide) (by omega) ?_
        k_steps
        rename Fr _ _ _ _ => F9
        exact SpecEnd.mk (s := s) (Post := fun v _ _ => ∃ t', v = .str (stripOf x) t') F9.keep (hos.trans hosG) hg ⟨_, by rw [hfin _ hse hq]; rfl⟩
end Mine
end
section
theorem Mine.offPtext : True := by
  w_top off
  trivial
open PySem PySem.W PyProof.Rows PySem.Calls PySem.Spec PyProof.V
set_option maxRecDepth 100000
namespace Mine
def sgnL : List Str := ["(", ")", "[", "]", ":", ",", ";", "+", "-", "*", "/", "|", "&", "<", ">", "=", ".", "%", "{", "}", "==", "!=", "<=", ">=", "~", "^", "<<", ">>", "**", "+=", "-=", "*=", "/=", "%=", "&=", "|=", "^=", "<<=", ">>=", "**=", "//", "//=", "@", "@=", "->", "...", ":=", "!"].map Str.ofString
def quoteTxt : Str := Str.ofString "\""
/-- a thing as it stands in the text -/
def thingTxt (n : Int) : Str := if n < 48 then sgnL.getD n.toNat Str.empty else quoteTxt
theorem sign_look (k : Nat) (hk : k < 48) : lookup (.int (7 + (k : Int))) (signsTo 48) = some (.str (sgnL.getD k Str.empty)) := by
  have h : ∀ k : Nat, k < 48 → (lookup (.int (7 + (k : Int))) (signsTo 48)).bind asStr = some (sgnL.getD k Str.empty) := by decide +kernel
  exact of_asStr (h k hk)
def thingV (v y : Value) : Prop := match v with | .int n _ => ∃ u, y = .str (thingTxt n) u | _ => True
theorem paired_txt {p : Value → Bool} (hp : ∀ v, p v = true) : ∀ {vs : List Value} {ns : List Int}, IntsAre vs ns → ∀ {ys : List Value}, Paired thingV (vs.filter p) ys → StrsAre ys (ns.map thingTxt)
  | _, _, .nil, _, h => by cases h; exact .nil
  | _, _, .cons n t r, ys, h => by
    rw [List.filter_cons, hp, if_pos rfl] at h
    cases h with
    | cons a b =>
      obtain ⟨u, rfl⟩ := a
      exact .cons _ _ (paired_txt hp r b)
theorem thing_len (n : Int) : (thingTxt n).length ≤ 3 := by
  unfold thingTxt
  split
  · rename_i h
    rcases Nat.lt_or_ge n.toNat 48 with h1 | h1
    · have : ∀ k < 48, (sgnL.getD k Str.empty).length ≤ 3 := by decide
      exact this _ h1
    · rw [List.getD_eq_getElem?_getD, List.getElem?_eq_none (by exact h1)]; decide
  · decide
theorem text_weight {row : List Int} (h5 : row.length = 5) : ((row.map thingTxt).map (·.length)).sum + (row.map thingTxt).length ≤ 1048576 := by
  match row, h5 with
  | [a, b, c, d, e], _ =>
    have := thing_len a; have := thing_len b; have := thing_len c; have := thing_len d; have := thing_len e
    simp only [List.map_cons, List.map_nil, List.sum_cons, List.sum_nil, List.length_cons, List.length_nil]
    omega
def textOf (row : List Int) : Str := Txt.join (Str.ofString " ") (row.map thingTxt)
theorem thing_good (n : Int) : ∀ c ∈ (thingTxt n).cps.toList, 33 ≤ c ∧ c < 127 ∧ c ≠ 92 := by
  unfold thingTxt
  split
  · rename_i h
    rcases Nat.lt_or_ge n.toNat 48 with h1 | h1
    · have : ∀ k < 48, ∀ c ∈ (sgnL.getD k Str.empty).cps.toList, 33 ≤ c ∧ c < 127 ∧ c ≠ 92 := by decide
      exact this _ h1
    · rw [List.getD_eq_getElem?_getD, List.getElem?_eq_none (by exact h1)]
      intro c hc
      simp [Str.empty] at hc
  · decide
theorem join_mem {sep : Str} : ∀ {ts : List Str} {c : Nat}, c ∈ (Str.join sep ts).cps.toList → c ∈ sep.cps.toList ∨ ∃ t ∈ ts, c ∈ t.cps.toList
  | [], c, h => by simp [Str.join, Str.empty] at h
  | [x], c, h => .inr ⟨x, .head _, h⟩
  | x :: y :: r, c, h => by
    have e : Str.join sep (x :: y :: r) = x ++ sep ++ Str.join sep (y :: r) := rfl
    rw [e, Str.cps_append, Str.cps_append, Array.toList_append, Array.toList_append] at h
    rcases List.mem_append.mp h with h | h
    · rcases List.mem_append.mp h with h | h
      · exact .inr ⟨x, .head _, h⟩
      · exact .inl h
    · rcases join_mem h with h | ⟨t, ht, h⟩
      · exact .inl h
      · exact .inr ⟨t, .tail _ ht, h⟩
theorem text_good (row : List Int) : ∀ c ∈ (textOf row).cps.toList, 32 ≤ c ∧ c < 127 ∧ c ≠ 92 := by
  intro c hc
  have hc' : c ∈ (Str.join (Str.ofString " ") (row.map thingTxt)).cps.toList := by
    rw [← StrLaws.glued_eq_join]; exact hc
  rcases join_mem hc' with h | ⟨t, ht, h⟩
  · have : ∀ c ∈ (Str.ofString " ").cps.toList, c = 32 := by decide
    have := this c h
    omega
  · obtain ⟨n, _, rfl⟩ := List.mem_map.mp ht
    have := thing_good n c h
    omega
theorem text_len {row : List Int} (h5 : row.length = 5) : (textOf row).length ≤ 100 := by
  have e : textOf row = Str.join (Str.ofString " ") (row.map thingTxt) := StrLaws.glued_eq_join _ _
  rw [e]
  refine Nat.le_trans (StrLaws.join_length_le _ _) ?_
  match row, h5 with
  | [a, b, c, d, e], _ =>
    have := thing_len a; have := thing_len b; have := thing_len c; have := thing_len d; have := thing_len e
    have h1 : (Str.ofString " ").length = 1 := rfl
    simp only [List.map_cons, List.map_nil, List.sum_cons, List.sum_nil, List.length_cons, List.length_nil, h1]
    omega
end Mine
end
section
local macro_rules | `(tactic| walk_at "MINE F_number 0") => `(tactic| skip)
theorem Mine.offFnumber : True := by
  w_top off
  trivial
open PySem PySem.W PyProof.Rows PySem.Calls PySem.Spec PyProof.V
set_option maxRecDepth 100000
namespace Mine
theorem enterC {prog : Program} {w : World} {A : Around} {R : Result → Shared → Prop} {s : Shared} {K : Frag} {name : Str} {params : Arguments} {body : List Stmt} {scope : Scope}
    {pm cd doc oc : Value} {od : Option Addr} {osl : Array (Option Value)} {f : Addr} {args : List Value} (binds : List (Str × Value))
    (X : K.In s.heap) (hlim : s.heap.NoLimit) (hroom : A.depth < recursionLimit)
    (ho : K.lookup f = some ⟨oc, od, .func (docDef name params body scope pm cd doc), osl⟩) (hcd : codeIn K cd name = true)
    (hbind : bindArgs (docDef name params body scope pm cd doc) ⟨args, []⟩ = pure binds)
    (hkind : ∀ L : Addr, ∀ x ∈ binds, scope.names.lookup x.1 = some .local ∨ (scope.names.lookup x.1 = some .cell ∧ ((cellsFrom (L + 1) scope.names []).lookup x.1).isSome = true))
    (hnd : ((cellsFrom 0 scope.names []).map (·.1)).Nodup)
    (h : ∀ h₁ tk cells, Fr s.heap s.heap.objs.size h₁ (bindL (envOfC name scope s.heap.objs.size f cd).kindOf binds fun _ => none) → News s.heap s.heap.objs.size h₁ cells →
      CellsAre (bindC (envOfC name scope s.heap.objs.size f cd).kindOf binds fun _ => none) (cellsFrom (s.heap.objs.size + 1) scope.names []) cells →
      wpAny (model prog w) (A.deeper (envOfC name scope s.heap.objs.size f cd)) (execs body (envOfC name scope s.heap.objs.size f cd))
        (fun fl s' => R (.ok (.ret (match fl with | .ret v => v | _ => .none))) s') (fun _ _ => False) { s with heap := h₁, toks := tk })
    (hco : scope.isCoroutine = false) (hgen : scope.isGenerator = false) (hk : scope.kind = .function) : codeAny (model prog w) A (.call (.ref f) ⟨args, []⟩) R s :=
  call_cellsN_ret hroom (X _ _ ho) rfl hlim (codeRec_of X hcd) hbind (hkind _) hnd h hco hgen hk

local macro_rules | `(tactic| walk_at "exec For Name Call cons nil") => `(tactic| k_dflt ((try k_fold); refine' for_head ?_ ?k; (case k => intro _; exact rfl)))
def allV2 (_ : Value) : Bool := true
local macro_rules | `(tactic| walk_at "eval ListComp") => `(tactic| k_dflt (refine' comp_K allV2 thingV ?c1 ?c2 ?c3 ?c4 ?c5 ?c6 ?_; (case c1 => exact rfl); (case c2 => decide); (case c3 => exact rfl); (case c4 => decide); (case c5 => exact rfl); (case c6 => intro _; exact rfl)))
theorem tok_of (k : Nat) (hk : k < 48) : lookup (.str (sgnL.getD k Str.empty)) (tokD.map fun p => (PyData.str p.1, p.2)) = some (.int (7 + (k : Int))) := by
  have h : ∀ k : Nat, k < 48 → (lookup (.str (sgnL.getD k Str.empty)) (tokD.map fun p => (PyData.str p.1, p.2))).bind asInt = some (7 + (k : Int)) := by decide +kernel
  exact of_asInt (h k hk)
theorem sign_ne : ∀ k < 48, (sgnL.getD k Str.empty != Str.ofString "\"") = true := by decide
theorem bitOr_nat (a b : Nat) : Builtin.bitOr (a : Int) (b : Int) = ((a ||| b : Nat) : Int) := by
  have h1 : ∀ n : Nat, decide (0 ≤ Builtin.bitNot (n : Int)) = false := fun n => decide_eq_false (by unfold Builtin.bitNot; omega)
  have h2 : ∀ n : Nat, Builtin.bitNot (Builtin.bitNot (n : Int)) = n := fun n => by unfold Builtin.bitNot; omega
  unfold Builtin.bitOr Builtin.bitAnd
  rw [h1, h1]
  dsimp only
  rw [h2, h2, h2]
  rfl
theorem or_nat {m k : Nat} : Builtin.bitOr (m : Int) (1 * 2 ^ ((7 + (k : Int) - 7)).toNat) = ((m ||| 2 ^ k : Nat) : Int) := by
  rw [show (7 + (k : Int) - 7).toNat = k by omega, show (1 * 2 ^ k : Int) = ((2 ^ k : Nat) : Int) by simp, bitOr_nat]
/-- a thing that is no mark, or (none) the mark -/
def kText : Option Nat → Str | none => quoteTxt | some k => sgnL.getD k Str.empty
def orStep (m : Nat) (o : Option Nat) : Nat := match o with | none => m | some k => m ||| 2 ^ k
set_option hygiene false in
local macro_rules | `(tactic| walk_at "subscriptTail Name Name ref str") => `(tactic| k_dflt ((refine' item_strTab tokT (tok_of k hk48) ?_); intro v' hv'; have hv2 := hv' default; cases hv2; clear hv'))
set_option maxHeartbeats 4000000 in
theorem sp_number {w : World} {l d : Addr} {vs : List Value} {row : List Int} {os : List (Option Nat)} (hi : IntsAre vs row) (hrow : IsRow row)
    (hos : Txt.words (stripOf (textOf row)) = os.map kText) (hk : ∀ k, some k ∈ os → k < 48) (hol : os.length ≤ 100) (hslen : (stripOf (textOf row)).length ≤ 1000) :
    SpecF w 40 84 [.ref l, .ref d] (fun h => h.IsList l vs.toArray ∧ IntTab prg w h d (signsTo 48)) (fun v _ _ => ∃ t, v = .int ((os.foldl orStep 0 : Nat) : Int) t) := by
  (intro A s loose mean mg mb X T hh hd hu G hpre; obtain ⟨hd0, dp, fr, gd, un⟩ := A; dsimp only at hh hd hu; subst hh; revert X; k_fill; intro X; have hlim := T.nolimit; (try dsimp only at hpre))
  obtain ⟨hl, hT⟩ := hpre
  refine' enterC [(Str.ofString "row", Value.ref l), (Str.ofString "signs", Value.ref d)] X hlim ?hr ?ho ?hcd ?hb ?hl ?hnd ?_ ?c1 ?c2 ?c3
  (case hr => (try dsimp only); omega)
  (case ho => k_is)
  (case hcd => k_is)
  (case hb => rfl)
  (case hnd => decide)
  (case hl => intro L y hy; simp only [List.mem_cons, List.not_mem_nil, or_false] at hy; rcases hy with rfl | rfl; exact .inl rfl; exact .inr ⟨rfl, rfl⟩)
  (case c1 => rfl)
  (case c2 => rfl)
  (case c3 => rfl)
  intro h₁ tk0 cells F N hcells
  have h5 := hrow.1
  k_steps
  ((rename Fr _ _ _ _ => F2); (rename News _ _ _ _ => N2))
  refine ⟨_, _, l, vs, _, _, rfl, rfl, Fr.lst F2 hl, by rw [hi.length]; omega, F2, N2, ?_, ?_, ?_⟩
  · intro C v s₃ m₃ E' hC hv hn hm hk
    exact test_nil ⟨rfl, keeps_refl⟩
  · intro C v s₃ m₃ E' hC hv hp hn hm hk
    obtain ⟨n, t, rfl, hnr⟩ := ints_mem hi hv
    have hn56 := hrow.2 n hnr
    have FC : Fr s.heap C s₃.heap m₃ := ⟨hn, fun b o e => hk b o (F2.keep b o e), Nat.le_trans F2.above (Nat.le_trans (Nat.le_of_lt F2.ns.lt) hC)⟩
    have NC : News s.heap C s₃.heap cells := fun p hp => ⟨hk _ _ (N2 p hp).1, fun e => by have := Heap.lt_size (N2 p hp).1; exact absurd (e ▸ hC) (Nat.not_le.mpr this), (N2 p hp).2.2⟩
    have hT3 : IntTab prg w s₃.heap d (signsTo 48) := hT.keep fun b o e => hk b o (F2.keep b o e)
    clear F2 N2
    refine wpAny_IfExp (wpAny_isTrue_Compare1 (wpAny_Name (wpAny_loadName_local rfl rfl hn hm ?_)))
    walk1
    walk1
    walk1
    obtain ⟨oc, rfl, hoc⟩ := hcells.one
    have hcell : s₃.heap.IsCell (s.heap.objs.size + 1) (some (.ref d)) := ⟨oc, (NC _ (.head _)).1, hoc⟩
    by_cases h48 : n < 48
    · rw [if_pos (decide_eq_true h48)]
      refine Subscript_ (wpAny_Name (wpAny_loadName_cell rfl rfl rfl hcell ?_))
      refine wpAny_BinOp ?_
      walk1
      refine wpAny_Name (wpAny_loadName_local rfl rfl hn hm ?_)
      walk1
      obtain ⟨k, hk48, rfl⟩ : ∃ k : Nat, k < 48 ∧ n = (k : Int) := ⟨n.toNat, by omega, by omega⟩
      refine item_intTab hT3 (sign_look k hk48) fun v hv => ?_
      have hv' := hv default
      cases hv'
      refine ⟨?_, ⟨_, _, rfl, fun _ _ e => e⟩⟩
      show ∃ u, Value.str _ _ = Value.str (thingTxt _) u
      rw [thingTxt, if_pos h48]
      exact ⟨_, rfl⟩
    · rw [if_neg (by simpa using h48)]
      refine wpAny_Constant_str ⟨?_, ⟨_, _, rfl, fun _ _ e => e⟩⟩
      show ∃ u, Value.str _ _ = Value.str (thingTxt _) u
      rw [thingTxt, if_neg h48]
      exact ⟨_, rfl⟩
  · intro D n ys h' tk F3 N3 l1 hP
    have hys := paired_txt (fun _ => rfl) hi hP
    clear F2 N2 hP
    k_steps
    rename News _ _ _ _ => N8
    refine join_listW (N8.isList (.head _)) (by rw [List.toList_toArray]; exact hys) (by decide) (text_weight h5) ?_
    intro tx kx
    k_steps
    ((rename Fr _ _ _ _ => F0x); (rename News _ _ _ _ => N0x); (refine' SpecF.call (sp_strip (x := textOf row) (text_len h5) (fun c hc => by have := text_good row c hc; omega) (fun c hc => (text_good row c hc).2.2)) ?kX39 ?kT39 F0x N0x ?kh39 ?kd39 ?ku39 ?kG39 ?kp39 ?_); (case kX39 => assumption); (case kT39 => assumption); (case kh39 => first | assumption | rfl); (case kd39 => simp only [depth_deeper, depth_in1]; omega); (case ku39 => simp only [Around.deeper_units, Around.in1_units]; omega); (case kG39 => assumption))
    · trivial
    rintro _ s1 ⟨t1, rfl⟩ he1 F1 N1 ho1 hg1
    k_steps
    rename List.map (fun x : Str × Tok => x.fst) _ = _ => hwm
    rename StrsAre _ _ => hwa
    rw [hwm, hos] at hwa
    ((rename Fr _ _ _ _ => F2); (rename News _ _ _ _ => N2))
    refine iter_listS (σ := Nat × Tok) (fun c => [(_, { cls := .type "list", data := .seq (strValues _).toArray })]) (fun c => [(Str.ofString "number", .int (c.1 : Int) c.2)])
      [Str.ofString "number", Str.ofString "word"] (fun i c => c.1 = (os.take i).foldl orStep 0) (0, _) rfl ((newsHead N2).isList (.head _)) ?_ (.inr ⟨_, fun c => .head _⟩) F2 (newsHead N2) hg1 rfl rfl (by kst_all) rfl rfl ?_ ?_
    · exact ((newsHead N2) _ (.head _)).2.1
    · rintro i v ⟨num, tnum⟩ u s₂ own hv hP hoff F3 N3 hos3 hg3
      obtain ⟨wd, tx2, rfl, hx⟩ := strs_get hwa hv
      rw [List.getElem?_map] at hx
      obtain ⟨o, ho, rfl⟩ := Option.map_eq_some_iff.mp hx
      dsimp only [kstB] at F3 hP
      simp only [List.cons_append, List.nil_append] at N3
      simp only [List.map_cons, List.map_nil] at hoff
      have tokT := (tok_tab X).keep F3.keep
      clear F2 N2
      have hnx : (os.take (i + 1)).foldl orStep 0 = orStep num o := by rw [List.take_add_one, ho, List.foldl_append, ← hP]; rfl
      cases o with
      | none =>
        dsimp only [kText] at F3
        k_steps
        ((rename Fr _ _ _ _ => F4x); (rename News _ _ _ _ => N4x); (try simp only [List.push_toArray] at N4x); (refine' TurnOk.mk (num, tnum) F4x N4x ?hP40 ?hn40 ?ho40 ?ha40 ?hk40 ?hm40 ?hos40 ?hg40); (case hk40 => kst_all); (case hn40 => ((try dsimp only); (repeat' first | exact List.forall_mem_nil _ | refine List.forall_mem_cons.mpr ⟨by k_memK, ?_⟩))); (case ho40 => (intro p hp; (repeat' (first | exact hp | exact List.mem_append_right _ hp | refine List.Mem.tail _ ?_)); done)); (case hm40 => (intro z h3; (try dsimp only [kstB]); (repeat (first | with_reducible rfl | refine off_st h3 ?_ | refine off_sub (by first | rfl | decide) h3 ?_ | refine off_ite (by first | rfl | decide) h3 ?_ | refine off_same ?_)); done)); (case hos40 => assumption); (case hg40 => assumption))
        · exact hnx.symm
        · exact hoff
      | some k =>
        have hk48 : k < 48 := hk k (List.mem_of_getElem? ho)
        dsimp only [kText] at F3
        k_steps
        · rename Fr _ _ _ _ => F8
          rw [or_nat] at F8
          ((rename Fr _ _ _ _ => F4x); (rename News _ _ _ _ => N4x); (try simp only [List.push_toArray] at N4x); (refine' TurnOk.mk (num ||| 2 ^ k, _) F4x N4x ?hP41 ?hn41 ?ho41 ?ha41 ?hk41 ?hm41 ?hos41 ?hg41); (case hk41 => kst_all); (case hn41 => ((try dsimp only); (repeat' first | exact List.forall_mem_nil _ | refine List.forall_mem_cons.mpr ⟨by k_memK, ?_⟩))); (case ho41 => (intro p hp; (repeat' (first | exact hp | exact List.mem_append_right _ hp | refine List.Mem.tail _ ?_)); done)); (case hm41 => (intro z h3; (try dsimp only [kstB]); (repeat (first | with_reducible rfl | refine off_st h3 ?_ | refine off_sub (by first | rfl | decide) h3 ?_ | refine off_ite (by first | rfl | decide) h3 ?_ | refine off_same ?_)); done)); (case hos41 => assumption); (case hg41 => assumption))
          · exact hnx.symm
          · exact hoff
        · rename (sgnL.getD k Str.empty != _) = false => hq
          have := sign_ne k hk48
          rw [hq] at this
          cases this
    · rintro ⟨num, tnum⟩ u s₂ hP F3 N3 hos3 hg3
      dsimp only [kstB] at F3 hP
      rw [hwa.length, List.length_map, List.take_length] at hP
      clear F2 N2
      k_steps
      rename Fr _ _ _ _ => F9
      exact SpecEnd.mk (s := s) (Post := fun v _ _ => ∃ t, v = .int ((os.foldl orStep 0 : Nat) : Int) t) F9.keep (hos3.trans ho1) hg3 ⟨_, by rw [← hP]⟩
end Mine
end
section
theorem Mine.offPwords : True := by
  w_top off
  trivial
open PySem PySem.W PyProof.Rows PySem.Calls
set_option maxRecDepth 100000
namespace Mine
/-- the places of the bits of a number -/
def bitPlaces (n : Nat) : List Int := ((List.range 48).filter n.testBit).map Int.ofNat
def figNum (ps : List Int) (b : Int) : Int := ((ps.filter (fun a => a.fdiv 4 == b)).map (fun a => (2 : Int) ^ (a.fmod 4).toNat)).sum
def figStep (ps : List Int) (f : Str) (b : Int) : Str := if figNum ps b > 0 ∨ f ≠ Str.empty then f ++ Txt.item (Str.ofString "0123456789abcdef") (figNum ps b) else f
def figsOf (ps : List Int) : Str := ([11, 10, 9, 8] : List Int).foldl (figStep ps) Str.empty
def lowWords (ps : List Int) : List Str := (ps.filter (fun n => decide (n < 32))).map (fun n => nameOf n.toNat)
def allWords (ps : List Int) : List Str := if figsOf ps ≠ Str.empty then lowWords ps ++ [Str.ofString "0x" ++ figsOf ps ++ Str.ofString "00000000"] else lowWords ps
def lawWords (ps : List Int) : List Str := if allWords ps = [] then [Str.ofString "0x0"] else allWords ps

theorem nib (m : Nat) : m % 16 = (m.testBit 0).toNat + 2 * (m.testBit 1).toNat + 4 * (m.testBit 2).toNat + 8 * (m.testBit 3).toNat := by
  simp only [Nat.toNat_testBit]
  omega
theorem fig_block (n j : Nat) (hj : j < 4) : figNum (bitPlaces n) ((8 + j : Nat) : Int) = ((n >>> (32 + 4 * j)) % 16 : Nat) := by
  unfold figNum bitPlaces
  rw [List.filter_map, List.filter_filter, nib]
  simp only [Nat.testBit_shiftRight]
  have key : ∀ q : Nat → Bool, ∀ ks : List Nat, (List.range 48).filter q = ks → (List.range 48).filter (fun a => q a && n.testBit a) = ks.filter n.testBit := by
    rintro q ks rfl
    rw [List.filter_filter]
    congr 1; funext a; exact Bool.and_comm _ _
  have h : j = 0 ∨ j = 1 ∨ j = 2 ∨ j = 3 := by omega
  rcases h with rfl | rfl | rfl | rfl
  · rw [key _ [32, 33, 34, 35] (by decide)]
    simp only [List.filter_cons, List.filter_nil]
    cases n.testBit 32 <;> cases n.testBit 33 <;> cases n.testBit 34 <;> cases n.testBit 35 <;> rfl
  · rw [key _ [36, 37, 38, 39] (by decide)]
    simp only [List.filter_cons, List.filter_nil]
    cases n.testBit 36 <;> cases n.testBit 37 <;> cases n.testBit 38 <;> cases n.testBit 39 <;> rfl
  · rw [key _ [40, 41, 42, 43] (by decide)]
    simp only [List.filter_cons, List.filter_nil]
    cases n.testBit 40 <;> cases n.testBit 41 <;> cases n.testBit 42 <;> cases n.testBit 43 <;> rfl
  · rw [key _ [44, 45, 46, 47] (by decide)]
    simp only [List.filter_cons, List.filter_nil]
    cases n.testBit 44 <;> cases n.testBit 45 <;> cases n.testBit 46 <;> cases n.testBit 47 <;> rfl
theorem fig_all (n : Nat) : ∀ b ∈ ([11, 10, 9, 8] : List Int), ∃ d : Nat, d < 16 ∧ figNum (bitPlaces n) b = (d : Int) := by
  intro b hb
  simp only [List.mem_cons, List.not_mem_nil, or_false] at hb
  rcases hb with rfl | rfl | rfl | rfl
  · exact ⟨_, Nat.mod_lt _ (by omega), fig_block n 3 (by omega)⟩
  · exact ⟨_, Nat.mod_lt _ (by omega), fig_block n 2 (by omega)⟩
  · exact ⟨_, Nat.mod_lt _ (by omega), fig_block n 1 (by omega)⟩
  · exact ⟨_, Nat.mod_lt _ (by omega), fig_block n 0 (by omega)⟩
theorem figStep_len (ps : List Int) (f : Str) (b : Int) : (figStep ps f b).length ≤ f.length + 1 := by
  unfold figStep
  split
  · rw [Str.length_append]; exact Nat.le_refl _
  · omega
theorem figs_len (ps : List Int) : ∀ (l : List Int) (f : Str), (l.foldl (figStep ps) f).length ≤ f.length + l.length
  | [], f => Nat.le_refl _
  | b :: l, f => by
    have h1 := figs_len ps l (figStep ps f b)
    have h2 := figStep_len ps f b
    simp only [List.foldl_cons, List.length_cons]
    omega
def digS (l : List Char) : Str := ⟨(l.map Char.toNat).toArray⟩
theorem digS_eq (l : List Char) : Str.ofString (String.ofList l) = digS l := Fast.ofString_ofList l
theorem digS_append (a b : List Char) : digS (a ++ b) = digS a ++ digS b := by
  unfold digS
  apply Str.ext'
  rw [Str.cps_append, List.map_append, ← Array.toList_inj]
  simp
theorem item_dig : ∀ d < 16, Txt.item (Str.ofString "0123456789abcdef") ((d : Nat) : Int) = digS [Nat.digitChar d] := by decide +kernel
def figT (t : Nat) : Str := if t = 0 then Str.empty else digS (Nat.toDigits 16 t)
theorem empty_app (x : Str) : Str.empty ++ x = x := by
  apply Str.ext'
  rw [Str.cps_append]
  show #[] ++ x.cps = x.cps
  simp
theorem figT_ne {t : Nat} (h : t ≠ 0) : figT t ≠ Str.empty := by
  unfold figT
  rw [if_neg h]
  intro e
  have h2 := congrArg (fun s : Str => s.cps.toList) e
  simp only [digS, Str.empty] at h2
  simp [Nat.toDigits_ne_nil] at h2
theorem figT_step {ps : List Int} {b : Int} {t d : Nat} (hd : d < 16) (hb : figNum ps b = (d : Int)) : figStep ps (figT t) b = figT (16 * t + d) := by
  unfold figStep
  rw [hb, item_dig d hd]
  by_cases ht : t = 0
  · subst ht
    by_cases h0 : d = 0
    · subst h0
      rw [if_neg (by simp [figT])]
    · rw [if_pos (Or.inl (by omega))]
      unfold figT
      rw [if_pos rfl, if_neg (by omega), empty_app, Nat.mul_zero, Nat.zero_add, Nat.toDigits_of_lt_base hd]
  · rw [if_pos (Or.inr (figT_ne ht))]
    unfold figT
    rw [if_neg ht, if_neg (by omega), ← Nat.toDigits_append_toDigits (by omega) (by omega) hd, Nat.toDigits_of_lt_base hd, digS_append]
theorem figs_eq {n : Nat} (hn : n < 2 ^ 48) : figsOf (bitPlaces n) = figT (n >>> 32) := by
  have h3 : figNum (bitPlaces n) 11 = _ := fig_block n 3 (by omega)
  have h2 : figNum (bitPlaces n) 10 = _ := fig_block n 2 (by omega)
  have h1 : figNum (bitPlaces n) 9 = _ := fig_block n 1 (by omega)
  have h0 : figNum (bitPlaces n) 8 = _ := fig_block n 0 (by omega)
  unfold figsOf
  simp only [List.foldl_cons, List.foldl_nil]
  have e : Str.empty = figT 0 := rfl
  rw [e, figT_step (Nat.mod_lt _ (by omega)) h3, figT_step (Nat.mod_lt _ (by omega)) h2, figT_step (Nat.mod_lt _ (by omega)) h1, figT_step (Nat.mod_lt _ (by omega)) h0]
  congr 1
  simp only [Nat.shiftRight_eq_div_pow]
  omega
theorem zeros_dig (m : Nat) (hm : 0 < m) : ∀ k, Nat.toDigits 16 (m * 16 ^ k) = Nat.toDigits 16 m ++ List.replicate k '0'
  | 0 => by simp
  | k + 1 => by
    have e : m * 16 ^ (k + 1) = 16 * (m * 16 ^ k) + 0 := by rw [Nat.pow_succ, Nat.add_zero, ← Nat.mul_assoc, Nat.mul_comm]
    rw [e, ← Nat.toDigits_append_toDigits (by omega) (Nat.mul_pos hm (Nat.pow_pos (by omega))) (by omega), zeros_dig m hm k, Nat.toDigits_zero, List.replicate_succ', List.append_assoc]
theorem hex_top {m : Nat} (hm : 0 < m) : hexOf (m <<< 32) = Str.ofString "0x" ++ figT m ++ Str.ofString "00000000" := by
  unfold hexOf baseText figT
  rw [if_neg (by omega : ¬ m = 0), if_neg (by omega), digS_eq (Nat.toDigits 16 _), Int.natAbs_natCast, Nat.shiftLeft_eq, show (2 : Nat) ^ 32 = 16 ^ 8 by decide, zeros_dig m hm, digS_append]
  apply Str.ext'
  simp only [Str.cps_append]
  have e1 : (Str.ofString "").cps = #[] := rfl
  have e2 : (digS (List.replicate 8 '0')).cps = (Str.ofString "00000000").cps := by decide
  rw [e1, e2]
  simp
theorem low_words (n : Nat) : lowWords (bitPlaces n) = namesBelow n 32 := by
  unfold lowWords bitPlaces namesBelow
  rw [List.filter_map, List.map_map, List.filter_filter]
  have e : (List.range 48).filter (fun a => ((fun n : Int => decide (n < 32)) ∘ Int.ofNat) a && n.testBit a) = (List.range 32).filter n.testBit := by
    have e2 : (List.range 48).filter ((fun n : Int => decide (n < 32)) ∘ Int.ofNat) = List.range 32 := by decide
    rw [← e2, List.filter_filter]
    congr 1; funext a; exact Bool.and_comm _ _
  rw [e]
  rfl
theorem low_nil {n : Nat} (h0 : n ≠ 0) (hn : n < 2 ^ 32) : namesBelow n 32 ≠ [] := by
  intro h
  apply h0
  apply Nat.eq_of_testBit_eq
  intro i
  rw [Nat.zero_testBit]
  by_cases hi : i < 32
  · cases hb : n.testBit i with
    | false => rfl
    | true =>
      have : nameOf i ∈ namesBelow n 32 := List.mem_map.mpr ⟨i, List.mem_filter.mpr ⟨List.mem_range.mpr hi, hb⟩, rfl⟩
      rw [h] at this
      cases this
  · exact Nat.testBit_lt_two_pow (Nat.lt_of_lt_of_le hn (Nat.pow_le_pow_right (by omega) (by omega)))
theorem words_eq {n : Nat} (hn : n < 2 ^ 48) : lawWords (bitPlaces n) = prettyWords n := by
  unfold lawWords allWords prettyWords
  rw [figs_eq hn, low_words]
  by_cases h : n < 2 ^ 32
  · have e : n >>> 32 = 0 := by rw [Nat.shiftRight_eq_div_pow]; exact Nat.div_eq_of_lt h
    rw [e]
    have e2 : figT 0 = Str.empty := rfl
    rw [e2]
    simp only [ne_eq, not_true_eq_false, if_false]
    by_cases h0 : n = 0
    · subst h0
      rfl
    · rw [if_neg (low_nil h0 h), if_pos ⟨h0, h⟩]
  · have e : 0 < n >>> 32 := by
      rw [Nat.shiftRight_eq_div_pow]
      exact Nat.div_pos (by omega) (by decide)
    rw [if_pos (figT_ne (by omega)), if_neg (by simp), if_neg (by omega), hex_top e]
end Mine
end
section
local macro_rules | `(tactic| walk_at "MINE F_words 0") => `(tactic| skip)
theorem Mine.offFwords : True := by
  w_top off
  trivial
open PySem PySem.W PyProof.Rows PySem.Calls PySem.Spec PyProof.V
set_option maxRecDepth 100000
namespace Mine
local macro_rules | `(tactic| walk_at "exec For Name Name cons nil") => `(tactic| k_dflt ((try k_fold); refine' for_head ?_ ?k; (case k => intro _; exact rfl)))
local macro_rules | `(tactic| walk_at "exec For Name List cons nil") => `(tactic| k_dflt ((try k_fold); refine' for_head ?_ ?k; (case k => intro _; exact rfl)))
theorem sum_step {prog : Program} {w : World} {A : Around} {s : Shared} {E : Value → Shared → Prop} {l : Addr} {vs : List Value} {ns : List Int} {Q : Value → Shared → Prop} (hh : A.handled = none) (hl : s.heap.IsList l vs.toArray) (hi : IntsAre vs ns)
    (h : ∀ h' tk t', Ext s.heap h' → Q (.int ns.sum t') { s with heap := h', toks := tk }) : wpAny (model prog w) A (call (.builtin "sum") [.ref l]) Q E s := by
  obtain ⟨xs, hxs⟩ := hi.allInts.items
  rw [hxs] at hl
  refine sum_intListG hh hl fun h' tk t' hk => ?_
  have := h h' tk t' hk
  rw [← hi.numsOf, show vs = vs.toArray.toList from rfl, hxs, nums_intItems] at this
  rw [preSum_eq, List.take_of_length_le (by simp)]; exact this
theorem hex_word : ∀ k : Nat, 10 ≤ k → k < 32 → (Str.ofString "0x" ++ Txt.item (Str.ofString "1248") ((k : Int).fmod 4)) ++ Txt.mul (Str.ofString "0") ((k : Int).fdiv 4) = nameOf k ∧ (Str.ofString "0x" ++ Txt.item (Str.ofString "1248") ((k : Int).fmod 4)).length = 3 ∧ (Txt.mul (Str.ofString "0") ((k : Int).fdiv 4)).length ≤ 8 := by
  have h : ∀ k : Nat, k < 32 → 10 ≤ k → (Str.ofString "0x" ++ Txt.item (Str.ofString "1248") ((k : Int).fmod 4)) ++ Txt.mul (Str.ofString "0") ((k : Int).fdiv 4) = nameOf k ∧ (Str.ofString "0x" ++ Txt.item (Str.ofString "1248") ((k : Int).fmod 4)).length = 3 ∧ (Txt.mul (Str.ofString "0") ((k : Int).fdiv 4)).length ≤ 8 := by decide +kernel
  exact fun k h1 h2 => h k h2 h1
theorem name_word : ∀ k : Nat, k < 10 → [Str.ofString "OPTIMIZED", Str.ofString "NEWLOCALS", Str.ofString "VARARGS", Str.ofString "VARKEYWORDS", Str.ofString "NESTED", Str.ofString "GENERATOR", Str.ofString "NOFREE", Str.ofString "COROUTINE", Str.ofString "ITERABLE_COROUTINE", Str.ofString "ASYNC_GENERATOR"].getD k Str.empty = nameOf k := by decide +kernel
local macro_rules | `(tactic| walk_at "call builtin:list.append") => `(tactic| ((rename Fr _ _ _ _ => F7); (rename News _ _ _ _ => N7); (refine' app_head F7 N7 ?ho ?hz ?_); (case ho => first | exact OwnOff.ne (by assumption) (by k_memK) | (intro p hp; cases hp; done)); (case hz => omega); intro h' F' N'; clear F7 N7))
theorem Asc.app {x y : Str} (h1 : Asc x) (h2 : Asc y) : Asc (x ++ y) := by
  intro c hc
  rw [Str.cps_append, Array.toList_append] at hc
  rcases List.mem_append.mp hc with h | h
  · exact h1 c h
  · exact h2 c h
def WordsPost (ps : List Int) (v : Value) (h h' : Heap) : Prop := ∃ D us n, v = .ref D ∧ StrsAre us (lawWords ps) ∧ NewAt h h' D (listOf us.toArray n)
local macro_rules | `(tactic| walk_at "compareOp Eq ref ref") => `(tactic| k_dflt (refine held ?_))
def figP (b : Int) (v : Value) : Bool := match v with | .int n _ => n.fdiv 4 == b | _ => false
def figF (v y : Value) : Prop := match v with | .int n _ => ∃ u, y = .int ((2 : Int) ^ (n.fmod 4).toNat) u | _ => True
set_option hygiene false in
local macro_rules | `(tactic| walk_at "eval ListComp") => `(tactic| k_dflt (refine' comp_K (figP b) figF ?c1 ?c2 ?c3 ?c4 ?c5 ?c6 ?_; (case c1 => exact rfl); (case c2 => decide); (case c3 => exact rfl); (case c4 => decide); (case c5 => exact rfl); (case c6 => intro _; exact rfl)))
set_option hygiene false in
local macro_rules | `(tactic| walk_at "call builtin:sum") => `(tactic| k_dflt ((rename Fr _ _ _ _ => F5); (rename News _ _ _ _ => N5); (refine' sum_step ?k1 (N5.isList (.head _)) hys ?_); (case k1 => rfl); intro hS kS tS heS; (rw [show (List.map (fun a => (2 : Int) ^ (a.fmod 4).toNat) (List.filter (fun a => a.fdiv 4 == b) ps)).sum = (d : Int) from hdS]); (replace F5 := frExt F5 heS); (replace N5 := newsExt N5 heS)))
set_option maxHeartbeats 4000000 in
theorem sp_words {w : World} {l : Addr} {vs : List Value} {ps : List Int} (hi : IntsAre vs ps) (hlen : ps.length ≤ 5) (hps : ∀ n ∈ ps, 0 ≤ n ∧ n < 48) (hlow : AscAll (lowWords ps)) (hfa : Asc (figsOf ps)) (hfg : ∀ b ∈ ([11, 10, 9, 8] : List Int), ∃ d : Nat, d < 16 ∧ figNum ps b = (d : Int)) :
    SpecF w 20 94 [.ref l] (fun h => h.IsList l vs.toArray) (WordsPost ps) := by
  (intro A s loose mean mg mb X T hh hd hu G hpre; obtain ⟨hd0, dp, fr, gd, un⟩ := A; dsimp only at hh hd hu; subst hh; revert X; k_fill; intro X; have hlim := T.nolimit; (try dsimp only at hpre))
  have hl := hpre
  refine' enterC [(Str.ofString "places", Value.ref l)] X hlim ?hr ?ho ?hcd ?hb ?hl ?hnd ?_ ?c1 ?c2 ?c3
  (case hr => (try dsimp only); omega)
  (case ho => k_is)
  (case hcd => k_is)
  (case hb => rfl)
  (case hnd => decide)
  (case hl => intro L y hy; simp only [List.mem_cons, List.not_mem_nil, or_false] at hy; subst hy; exact .inl rfl)
  (case c1 => rfl)
  (case c2 => rfl)
  (case c3 => rfl)
  intro h₁ tk0 cells F N hcells
  obtain ⟨oc, rfl, hoc0⟩ := hcells.one
  have hoc : oc.data = .cell none := hoc0
  clear hoc0 hcells hpre
  k_steps
  ((rename Fr _ _ _ _ => F2); (rename News _ _ _ _ => N2))
  refine iter_listS (σ := List Value × List Str × Nat) (fun c => [(_, listOf c.1.toArray c.2.2), (_, listOf _ 0), (_, oc)]) (fun c => [])
    [Str.ofString "place"]
    (fun i c => StrsAre c.1 c.2.1 ∧ c.2.1 = ((ps.take i).filter (fun n => decide (n < 32))).map (fun n => nameOf n.toNat)) ([], [], 0) rfl (Fr.lst F2 hl) (list_neL hl) (.inl (list_ex hl)) F2 N2 G rfl ⟨.nil, rfl⟩ (by kst_all) rfl rfl ?_ ?_
  · rintro i v ⟨us, ts, c⟩ u s₁ own hv ⟨hs, hw⟩ hoff F3 N3 hos hg
    obtain ⟨p, tp, rfl, hx⟩ := ints_get hi hv
    have hp48 := hps p (List.mem_of_getElem? hx)
    dsimp only [kstB] at F3 hs hw
    simp only [List.cons_append, List.nil_append] at N3
    simp only [List.map_cons, List.map_nil] at hoff
    have hul : us.length ≤ 5 := by
      rw [hs.length, hw, List.length_map]
      exact Nat.le_trans (List.length_filter_le _ _) (Nat.le_trans (List.length_take_le' _ _) hlen)
    clear F2 N2
    obtain ⟨k, rfl⟩ : ∃ k : Nat, p = (k : Int) := ⟨p.toNat, by omega⟩
    have hk32 : (10 : Int) ≤ k → (k : Int) < 32 → (Str.ofString "0x" ++ Txt.item (Str.ofString "1248") ((k : Int).fmod 4)).length + (Txt.mul (Str.ofString "0") ((k : Int).fdiv 4)).length ≤ 1000 := fun h1 h2 => by
      have := hex_word k (by omega) (by omega)
      omega
    have htk : (ps.take (i + 1)).filter (fun n => decide (n < 32)) = (ps.take i).filter (fun n => decide (n < 32)) ++ if k < 32 then [(k : Int)] else [] := by
      rw [List.take_add_one, hx, List.filter_append]
      congr 1
      by_cases h : k < 32
      · rw [if_pos h]; simp; omega
      · rw [if_neg h]; simp; omega
    k_steps
    · rename (k : Int) < 10 => h10
      rename News _ _ _ _ => N8
      simp only [Int.toNat_natCast] at N8
      rw [name_word k (by omega)] at N8
      ((rename Fr _ _ _ _ => F4x); (rename News _ _ _ _ => N4x); (try simp only [List.push_toArray] at N4x); (refine' TurnOk.mk (us ++ [Value.str (nameOf k) _], ts ++ [nameOf k], c + 1) F4x N4x ?hP42 ?hn42 ?ho42 ?ha42 ?hk42 ?hm42 ?hos42 ?hg42); (case hk42 => kst_all); (case hn42 => ((try dsimp only); (repeat' first | exact List.forall_mem_nil _ | refine List.forall_mem_cons.mpr ⟨by k_memK, ?_⟩))); (case ho42 => (intro p hp; (repeat' (first | exact hp | exact List.mem_append_right _ hp | refine List.Mem.tail _ ?_)); done)); (case hm42 => (intro z h3; (try dsimp only [kstB]); (repeat (first | with_reducible rfl | refine off_st h3 ?_ | refine off_sub (by first | rfl | decide) h3 ?_ | refine off_ite (by first | rfl | decide) h3 ?_ | refine off_same ?_)); done)); (case hos42 => assumption); (case hg42 => assumption))
      · refine ⟨StrsAre.append' hs (.cons _ _ .nil), ?_⟩
        rw [htk, if_pos (by omega), List.map_append, ← hw]; rfl
      · exact hoff
    · rename ¬ (k : Int) < 10 => h10
      rename (k : Int) < 32 => h32
      rename News _ _ _ _ => N8
      rw [(hex_word k (by omega) (by omega)).1] at N8
      ((rename Fr _ _ _ _ => F4x); (rename News _ _ _ _ => N4x); (try simp only [List.push_toArray] at N4x); (refine' TurnOk.mk (us ++ [Value.str (nameOf k) _], ts ++ [nameOf k], c + 1) F4x N4x ?hP43 ?hn43 ?ho43 ?ha43 ?hk43 ?hm43 ?hos43 ?hg43); (case hk43 => kst_all); (case hn43 => ((try dsimp only); (repeat' first | exact List.forall_mem_nil _ | refine List.forall_mem_cons.mpr ⟨by k_memK, ?_⟩))); (case ho43 => (intro p hp; (repeat' (first | exact hp | exact List.mem_append_right _ hp | refine List.Mem.tail _ ?_)); done)); (case hm43 => (intro z h3; (try dsimp only [kstB]); (repeat (first | with_reducible rfl | refine off_st h3 ?_ | refine off_sub (by first | rfl | decide) h3 ?_ | refine off_ite (by first | rfl | decide) h3 ?_ | refine off_same ?_)); done)); (case hos43 => assumption); (case hg43 => assumption))
      · refine ⟨StrsAre.append' hs (.cons _ _ .nil), ?_⟩
        rw [htk, if_pos (by omega), List.map_append, ← hw]; rfl
      · exact hoff
    · rename ¬ (k : Int) < 32 => h32
      ((rename Fr _ _ _ _ => F4x); (rename News _ _ _ _ => N4x); (try simp only [List.push_toArray] at N4x); (refine' TurnOk.mk (us, ts, c) F4x N4x ?hP44 ?hn44 ?ho44 ?ha44 ?hk44 ?hm44 ?hos44 ?hg44); (case hk44 => kst_all); (case hn44 => ((try dsimp only); (repeat' first | exact List.forall_mem_nil _ | refine List.forall_mem_cons.mpr ⟨by k_memK, ?_⟩))); (case ho44 => (intro p hp; (repeat' (first | exact hp | exact List.mem_append_right _ hp | refine List.Mem.tail _ ?_)); done)); (case hm44 => (intro z h3; (try dsimp only [kstB]); (repeat (first | with_reducible rfl | refine off_st h3 ?_ | refine off_sub (by first | rfl | decide) h3 ?_ | refine off_ite (by first | rfl | decide) h3 ?_ | refine off_same ?_)); done)); (case hos44 => assumption); (case hg44 => assumption))
      · refine ⟨hs, ?_⟩
        rw [htk, if_neg (by omega), List.append_nil, ← hw]
      · exact hoff
  · rintro ⟨us, ts, c⟩ u s₁ ⟨hs, hw⟩ F3 N3 hos hg
    dsimp only [kstB] at F3 hs hw
    clear F2 N2
    rw [hi.length, List.take_length] at hw
    k_steps
    ((rename Fr _ _ _ _ => F2); (rename News _ _ _ _ => N2))
    have N4 : News s.heap s.heap.objs.size _ [(s.heap.objs.size + 1, oc), _, _, _] := newsSub N2 (by
      intro p hp
      simp only [List.mem_cons, List.not_mem_nil, or_false] at hp
      rcases hp with rfl | rfl | rfl | rfl
      · exact .tail _ (.tail _ (.tail _ (.head _)))
      · exact .head _
      · exact .tail _ (.head _)
      · exact .tail _ (.tail _ (.head _)))
    refine iter_listC (σ := Str × Tok) (vs := [.int 11 _, .int 10 _, .int 9 _, .int 8 _]) (cA := s.heap.objs.size + 1) (oc := oc) (fun c => [_, _, _]) (fun c => [(Str.ofString "figures", .str c.1 c.2)]) [Str.ofString "figures", Str.ofString "figure"]
      (fun i c => c.1 = (([11, 10, 9, 8] : List Int).take i).foldl (figStep ps) Str.empty) (Str.empty, _) rfl ((newsTail N4).isList (.head _)) ?_ (.inr ⟨_, fun c => .head _⟩) F2 N4 hoc ?_ hg rfl rfl (by kst_all) rfl rfl rfl ?_ ?_
    · exact ((newsTail N4) _ (.head _)).2.1
    · intro c' p hp
      simp only [List.mem_cons, List.not_mem_nil, or_false] at hp
      rename _ < _ ∧ _ < _ ∧ _ < _ => q3
      rename _ < _ ∧ (_ : Nat) < _ => q2
      rename s.heap.objs.size + 1 < _ => q1
      rcases hp with rfl | rfl | rfl
      · exact Nat.ne_of_gt q3.2.2
      · exact Nat.ne_of_gt q2.2
      · exact Nat.ne_of_gt q1
    · rintro i v ⟨fg, tfg⟩ o2 u2 s₂ own hv hP hd2 hoff F3 N3 hos3 hg3
      have hbv : ∃ b tb, v = .int b tb ∧ ([11, 10, 9, 8] : List Int)[i]? = some b := ints_get (.cons _ _ (.cons _ _ (.cons _ _ (.cons _ _ .nil)))) hv
      obtain ⟨b, tb, rfl, hb⟩ := hbv
      dsimp only [kstB] at F3 hP
      simp only [List.cons_append, List.nil_append] at N3
      simp only [List.map_cons, List.map_nil] at hoff
      obtain ⟨d, hd16, hdS⟩ := hfg b (List.mem_of_getElem? hb)
      have hfl : fg.length ≤ 4 := by
        rw [hP]
        refine Nat.le_trans (figs_len ps _ _) ?_
        have : (List.take i ([11, 10, 9, 8] : List Int)).length ≤ 4 := List.length_take_le' _ _
        have h0 : Str.empty.length = 0 := rfl
        omega
      have hil : (Txt.item (Str.ofString "0123456789abcdef") (d : Int)).length = 1 := rfl
      have hnext : (([11, 10, 9, 8] : List Int).take (i + 1)).foldl (figStep ps) Str.empty = figStep ps fg b := by
        rw [List.take_add_one, hb, List.foldl_append, ← hP]; rfl
      have hst : figStep ps fg b = if (d : Int) > 0 ∨ fg ≠ Str.empty then fg ++ Txt.item (Str.ofString "0123456789abcdef") (d : Int) else fg := by
        unfold figStep; rw [hdS]
      clear F2 N2 N4
      k_steps
      ((rename Fr _ _ _ _ => F6); (rename News _ _ _ _ => N6))
      refine ⟨_, _, l, vs, _, _, rfl, rfl, Fr.lst F6 hl, by rw [hi.length]; omega, F6, N6, ?_, ?_, ?_⟩
      · intro C v s₃ m₃ E' hC hvv hn hm hk
        obtain ⟨n, t, rfl, _⟩ := ints_mem hi hvv
        have hcell : s₃.heap.IsCell (s.heap.objs.size + 1) (some (.int b tb)) := ⟨o2, hk _ _ (N6 _ (.head _)).1, hd2⟩
        clear F6 N6
        refine test_one ?_
        refine wpAny_isTrue_Compare1 (wpAny_BinOp (wpAny_Name (wpAny_loadName_local rfl rfl hn hm ?_)))
        walk1
        walk1
        refine wpAny_Name (wpAny_loadName_cell rfl rfl rfl hcell ?_)
        walk1
        walk1
        exact ⟨rfl, ⟨_, _, rfl, fun _ _ e => e⟩⟩
      · intro C v s₃ m₃ E' hC hvv hp hn hm hk
        obtain ⟨n, t, rfl, hnr⟩ := ints_mem hi hvv
        clear F6 N6
        refine wpAny_BinOp ?_
        walk1
        refine wpAny_BinOp (wpAny_Name (wpAny_loadName_local rfl rfl hn hm ?_))
        walk1
        walk1
        walk1
        exact ⟨⟨_, rfl⟩, ⟨_, _, rfl, fun _ _ e => e⟩⟩
      intro D nD ys h' tk F7 N7 l1 hP7
      have hys := paired_ints (pz := fun a => a.fdiv 4 == b) (f := fun a => (2 : Int) ^ (a.fmod 4).toNat) (fun n t => rfl) (fun n t y h => h) hi hP7
      clear F6 N6 hP7
      k_steps
      · rename (d : Int) > 0 => hd0
        ((rename Fr _ _ _ _ => F4x); (rename News _ _ _ _ => N4x); (try simp only [List.push_toArray] at N4x); (refine' TurnOk.mk ((fg ++ Txt.item (Str.ofString "0123456789abcdef") (d : Int), _), o2) F4x N4x ?hP45 ?hn45 ?ho45 ?ha45 ?hk45 ?hm45 ?hos45 ?hg45); (case hk45 => kst_all); (case hn45 => ((try dsimp only); (repeat' first | exact List.forall_mem_nil _ | refine List.forall_mem_cons.mpr ⟨by k_memK, ?_⟩))); (case ho45 => (intro p hp; (repeat' (first | exact hp | exact List.mem_append_right _ hp | refine List.Mem.tail _ ?_)); done)); (case hm45 => (intro z h3; (try dsimp only [kstB]); (repeat (first | with_reducible rfl | refine off_st h3 ?_ | refine off_sub (by first | rfl | decide) h3 ?_ | refine off_ite (by first | rfl | decide) h3 ?_ | refine off_same ?_)); done)); (case hos45 => assumption); (case hg45 => assumption))
        · refine ⟨?_, _, hd2⟩
          rw [hnext, hst, if_pos (.inl hd0)]
        · exact hoff
      · rename (fg != Str.ofString "") = true => hne
        ((rename Fr _ _ _ _ => F4x); (rename News _ _ _ _ => N4x); (try simp only [List.push_toArray] at N4x); (refine' TurnOk.mk ((fg ++ Txt.item (Str.ofString "0123456789abcdef") (d : Int), _), o2) F4x N4x ?hP46 ?hn46 ?ho46 ?ha46 ?hk46 ?hm46 ?hos46 ?hg46); (case hk46 => kst_all); (case hn46 => ((try dsimp only); (repeat' first | exact List.forall_mem_nil _ | refine List.forall_mem_cons.mpr ⟨by k_memK, ?_⟩))); (case ho46 => (intro p hp; (repeat' (first | exact hp | exact List.mem_append_right _ hp | refine List.Mem.tail _ ?_)); done)); (case hm46 => (intro z h3; (try dsimp only [kstB]); (repeat (first | with_reducible rfl | refine off_st h3 ?_ | refine off_sub (by first | rfl | decide) h3 ?_ | refine off_ite (by first | rfl | decide) h3 ?_ | refine off_same ?_)); done)); (case hos46 => assumption); (case hg46 => assumption))
        · refine ⟨?_, _, hd2⟩
          rw [hnext, hst, if_pos (.inr (bne_iff_ne.mp hne))]
        · exact hoff
      · rename (fg != Str.ofString "") = false => hnf
        have hne : ¬ (fg != Str.ofString "") = true := by rw [hnf]; exact Bool.false_ne_true
        rename ¬ (d : Int) > 0 => hd0
        ((rename Fr _ _ _ _ => F4x); (rename News _ _ _ _ => N4x); (try simp only [List.push_toArray] at N4x); (refine' TurnOk.mk ((fg, tfg), o2) F4x N4x ?hP47 ?hn47 ?ho47 ?ha47 ?hk47 ?hm47 ?hos47 ?hg47); (case hk47 => kst_all); (case hn47 => ((try dsimp only); (repeat' first | exact List.forall_mem_nil _ | refine List.forall_mem_cons.mpr ⟨by k_memK, ?_⟩))); (case ho47 => (intro p hp; (repeat' (first | exact hp | exact List.mem_append_right _ hp | refine List.Mem.tail _ ?_)); done)); (case hm47 => (intro z h3; (try dsimp only [kstB]); (repeat (first | with_reducible rfl | refine off_st h3 ?_ | refine off_sub (by first | rfl | decide) h3 ?_ | refine off_ite (by first | rfl | decide) h3 ?_ | refine off_same ?_)); done)); (case hos47 => assumption); (case hg47 => assumption))
        · refine ⟨?_, _, hd2⟩
          rw [hnext, hst, if_neg]
          rintro (h | h)
          · exact hd0 h
          · exact hne (bne_iff_ne.mpr h)
        · exact hoff
    · rintro ⟨fg, tfg⟩ o2 u2 s₂ hP F3 N3 hos3 hg3
      dsimp only [kstB] at F3 hP
      clear F2 N2 N4
      have hP2 : fg = figsOf ps := hP
      have hfl : fg.length ≤ 4 := by rw [hP2]; exact figs_len ps _ _
      have hul : us.length ≤ 5 := by
        rw [hs.length, hw, List.length_map]
        exact Nat.le_trans (List.length_filter_le _ _) hlen
      have hs8 : (Txt.mul (Str.ofString "0") 8).length = 8 := by decide
      have hs2 : (Str.ofString "0x").length = 2 := by decide
      have hwl : ts = lowWords ps := hw
      k_steps
      · rename (fg != Str.ofString "") = true => hne
        have hne2 : figsOf ps ≠ Str.empty := hP2 ▸ bne_iff_ne.mp hne
        have hall : allWords ps = ts ++ [Str.ofString "0x" ++ fg ++ Str.ofString "00000000"] := by
          unfold allWords; rw [if_pos hne2, hwl, hP2]
        have hlaw : lawWords ps = ts ++ [Str.ofString "0x" ++ fg ++ Str.ofString "00000000"] := by
          unfold lawWords; rw [hall, if_neg (by simp)]
        have hasc : AscAll (ts ++ [Str.ofString "0x" ++ fg ++ Str.ofString "00000000"]) := by
          intro y hy
          rcases List.mem_append.mp hy with h | h
          · exact hlow y (hwl ▸ h)
          · rw [List.mem_singleton.mp h]
            have q1 : Asc (Str.ofString "0x") := by unfold Asc; decide
            have q2 : Asc (Str.ofString "00000000") := by unfold Asc; decide
            exact Asc.app (Asc.app q1 (hP2 ▸ hfa)) q2
        unfold Hold
        ((rename Fr _ _ _ _ => F5); (rename News _ _ _ _ => N5))
        (try simp only [List.push_toArray] at N5)
        refine eq_strs (N5.isList (.tail _ (.tail _ (.tail _ (.head _))))) (StrsAre.append' hs (.cons _ _ .nil)) (N5.isList (.head _)) StrsAre.nil hasc.ok AscAll.nil.ok ?_ ?_
        · simp only [Around.deeper_units]; omega
        rw [show decide (ts ++ [Str.ofString "0x" ++ fg ++ Str.ofString "00000000"] = []) = false from decide_eq_false (by simp)]
        k_steps
        ((rename Fr _ _ _ _ => F9); (rename News _ _ _ _ => N9))
        exact SpecEnd.mk (s := s) (Post := WordsPost ps) F9.keep (hos3.trans hos) hg3 ⟨_, _, _, rfl, hlaw ▸ StrsAre.append' hs (.cons _ _ .nil), NewAt.mk N9 (.tail _ (.tail _ (.tail _ (.head _))))⟩
      · rename (fg != Str.ofString "") = false => hnf
        have hne : ¬ (fg != Str.ofString "") = true := by rw [hnf]; exact Bool.false_ne_true
        have hne2 : ¬ figsOf ps ≠ Str.empty := fun h => hne (bne_iff_ne.mpr (hP2 ▸ h))
        have hall : allWords ps = ts := by
          unfold allWords; rw [if_neg hne2, hwl]
        have hasc : AscAll ts := fun y h => hlow y (hwl ▸ h)
        unfold Hold
        ((rename Fr _ _ _ _ => F5); (rename News _ _ _ _ => N5))
        (try simp only [List.push_toArray] at N5)
        refine eq_strs (N5.isList (.tail _ (.tail _ (.tail _ (.head _))))) hs (N5.isList (.head _)) StrsAre.nil hasc.ok AscAll.nil.ok ?_ ?_
        · simp only [Around.deeper_units]; omega
        by_cases hn : ts = []
        · rw [decide_eq_true hn]
          have hlaw : lawWords ps = ts ++ [Str.ofString "0x0"] := by
            unfold lawWords; rw [hall, if_pos hn, hn]; rfl
          k_steps
          ((rename Fr _ _ _ _ => F9); (rename News _ _ _ _ => N9))
          (try simp only [List.push_toArray] at N9)
          exact SpecEnd.mk (s := s) (Post := WordsPost ps) F9.keep (hos3.trans hos) hg3 ⟨_, _, _, rfl, hlaw ▸ StrsAre.append' hs (.cons _ _ .nil), NewAt.mk N9 (by k_memK)⟩
        · rw [decide_eq_false hn]
          have hlaw : lawWords ps = ts := by
            unfold lawWords; rw [hall, if_neg hn]
          k_steps
          ((rename Fr _ _ _ _ => F9); (rename News _ _ _ _ => N9))
          exact SpecEnd.mk (s := s) (Post := WordsPost ps) F9.keep (hos3.trans hos) hg3 ⟨_, _, _, rfl, hlaw ▸ hs, NewAt.mk N9 (by k_memK)⟩
end Mine
end
section
theorem Mine.offPstrip : True := by
  w_top off
  trivial
open PySem PySem.W PyProof.Rows PySem.Calls PySem.Spec PyProof.V
set_option maxRecDepth 100000
namespace Mine
def stL : Option (List Nat) → List Nat → List Nat
  | none, [] => []
  | some buf, [] => buf
  | none, c :: r => if c = 34 then stL (some [34]) r else c :: stL none r
  | some buf, c :: r => if c = 34 then stL none r else stL (some (buf ++ [c])) r
theorem stL_free : ∀ {l : List Nat}, 34 ∉ l → ∀ z, stL none (l ++ z) = l ++ stL none z
  | [], _, z => rfl
  | c :: l, h, z => by
    have h1 : ¬ c = 34 := fun e => h (e ▸ .head _)
    rw [List.cons_append, stL, if_neg h1, stL_free (fun h2 => h (.tail _ h2))]; rfl
theorem stL_buf : ∀ {l : List Nat}, 34 ∉ l → ∀ buf z, stL (some buf) (l ++ z) = stL (some (buf ++ l)) z
  | [], _, buf, z => by rw [List.nil_append, List.append_nil]
  | c :: l, h, buf, z => by
    have h1 : ¬ c = 34 := fun e => h (e ▸ .head _)
    rw [List.cons_append, stL, if_neg h1, stL_buf (fun h2 => h (.tail _ h2)), List.append_assoc]; rfl
def catL (ts : List Str) : List Nat := ts.flatMap (·.cps.toList)
theorem join_empty : ∀ ts : List Str, (Str.join Str.empty ts).cps.toList = catL ts
  | [] => rfl
  | [x] => by show x.cps.toList = _; simp [catL]
  | x :: y :: r => by
    have e : Str.join Str.empty (x :: y :: r) = x ++ Str.empty ++ Str.join Str.empty (y :: r) := rfl
    rw [e, Str.cps_append, Str.cps_append, Array.toList_append, Array.toList_append, join_empty (y :: r)]
    simp [catL, Str.empty]
theorem take_next {l : List Nat} {s i ch : Nat} (hs : s ≤ i) (h : l[i]? = some ch) : (l.drop s).take (i + 1 - s) = (l.drop s).take (i - s) ++ [ch] := by
  rw [show i + 1 - s = (i - s) + 1 by omega, List.take_add_one, List.getElem?_drop, show s + (i - s) = i by omega, h]; rfl
theorem slice_list {x : Str} {a b : Nat} (h1 : a ≤ b) (h2 : b ≤ x.length) : (Txt.slice x (some (a : Int)) (some (b : Int))).cps.toList = (x.cps.toList.drop a).take (b - a) := by
  have h := eq_of_beq (slice_closesL (x := x) (i := (a : Int)) (j := (b : Int)) (by omega) (by omega) (by omega))
  rw [h]
  have e1 : ((a : Int)).toNat = a := by omega
  have e2 : ((b : Int) - (a : Int)).toNat = b - a := by omega
  simp only [e1, e2]
theorem slice_tail {x : Str} {a : Nat} (h1 : a ≤ x.length) : (Txt.slice x (some (a : Int)) none).cps.toList = x.cps.toList.drop a := by
  have h := eq_of_beq (slice_closes_fromL (x := x) (i := (a : Int)) (b := x.length) (by omega) (by omega) rfl)
  rw [h]
  have e1 : ((a : Int)).toNat = a := by omega
  have e2 : ((x.length : Int) - (a : Int)).toNat = x.length - a := by omega
  simp only [e1, e2]
  exact List.take_of_length_le (by simp [Str.length])
def StripInv (x : Str) (i : Nat) (c : StripS) : Prop := match c.2.1 with
  | none => c.1 ≤ i ∧ stL none x.cps.toList = catL c.2.2 ++ (x.cps.toList.drop c.1).take (i - c.1) ++ stL none (x.cps.toList.drop i)
  | some o => c.1 ≤ o ∧ o < i ∧ stL none x.cps.toList = catL c.2.2 ++ (x.cps.toList.drop c.1).take (o - c.1) ++ stL (some ((x.cps.toList.drop o).take (i - o))) (x.cps.toList.drop i)
theorem strip_inv (x : Str) : ∀ i, i ≤ x.length → StripInv x i (stripGo x i)
  | 0, _ => by
    show 0 ≤ 0 ∧ _
    exact ⟨Nat.le_refl _, by simp [stripGo, catL]⟩
  | i + 1, hi => by
    have ih := strip_inv x i (by omega)
    have hlt : i < x.cps.size := hi
    have hlt' : i < x.cps.toList.length := by simpa using hlt
    have hget : x.cps.toList[i]? = some (x.cps.getD i 0) := by
      rw [List.getElem?_eq_getElem hlt']; simp [Array.getD, hlt]
    have hdrop : x.cps.toList.drop i = x.cps.getD i 0 :: x.cps.toList.drop (i + 1) := by
      rw [List.drop_eq_getElem_cons hlt']; simp [Array.getD, hlt]
    have hlen : x.length = x.cps.toList.length := by simp [Str.length]
    show StripInv x (i + 1) (stripStep x (stripGo x i) i (x.cps.getD i 0))
    generalize x.cps.getD i 0 = ch at hget hdrop
    generalize stripGo x i = c at ih
    obtain ⟨st, op, res⟩ := c
    unfold stripStep
    by_cases hc : ch = 34
    · rw [if_pos hc]
      cases op with
      | none =>
        obtain ⟨h1, h2⟩ := ih
        dsimp only at h1 h2 ⊢
        refine ⟨h1, Nat.lt_succ_self _, ?_⟩
        rw [h2, hdrop, stL, if_pos hc, hc]
        congr 2
        rw [show i + 1 - i = 1 by omega]; rfl
      | some o =>
        obtain ⟨h1, h2, h3⟩ := ih
        dsimp only at h1 h2 h3 ⊢
        refine ⟨Nat.le_refl _, ?_⟩
        rw [h3, hdrop, stL, if_pos hc, Nat.sub_self, List.take_zero, List.append_nil]
        congr 1
        by_cases he : st = o
        · subst he
          rw [if_neg (by simp)]; simp
        · rw [if_pos he]
          simp only [catL, List.flatMap_append, List.flatMap_cons, List.flatMap_nil, List.append_nil]
          rw [slice_list h1 (by omega)]
    · rw [if_neg hc]
      cases op with
      | none =>
        obtain ⟨h1, h2⟩ := ih
        dsimp only at h1 h2 ⊢
        refine ⟨Nat.le_succ_of_le h1, ?_⟩
        dsimp only
        rw [h2, hdrop, stL, if_neg hc, take_next h1 hget]
        simp
      | some o =>
        obtain ⟨h1, h2, h3⟩ := ih
        dsimp only at h1 h2 h3 ⊢
        refine ⟨h1, Nat.lt_succ_of_lt h2, ?_⟩
        dsimp only
        rw [h3, hdrop, stL, if_neg hc, take_next (Nat.le_of_lt h2) hget]
theorem strip_cps (x : Str) : (stripOf x).cps.toList = stL none x.cps.toList := by
  unfold stripOf
  have hq : Str.ofString "\"" = ⟨#[34]⟩ := rfl
  have hf := StrLaws.found_one x 34
  rw [hq]
  by_cases h : (Builtin.Str.occurrences x ⟨#[34]⟩ 0 x.length 1).isEmpty = true
  · rw [if_pos h]
    rw [h] at hf
    have hno : 34 ∉ x.cps.toList := of_decide_eq_false hf.symm
    have := stL_free hno []
    rw [List.append_nil] at this
    rw [this]
    show _ = _ ++ []
    rw [List.append_nil]
  · rw [if_neg h]
    have e : Txt.join Str.empty (stripEnd x) = Str.join Str.empty (stripEnd x) := StrLaws.glued_eq_join _ _
    rw [e, join_empty]
    have hi := strip_inv x x.length (Nat.le_refl _)
    have hlen : x.length = x.cps.toList.length := by simp [Str.length]
    unfold stripEnd
    generalize stripGo x x.length = c at hi ⊢
    obtain ⟨st, op, res⟩ := c
    dsimp only
    have key : st ≤ x.length ∧ stL none x.cps.toList = catL res ++ x.cps.toList.drop st := by
      cases op with
      | none =>
        obtain ⟨h1, h2⟩ := hi
        dsimp only at h1 h2
        refine ⟨h1, ?_⟩
        rw [h2, hlen, List.drop_length, stL, List.append_nil]
        congr 1
        exact List.take_of_length_le (by simp)
      | some o =>
        obtain ⟨h1, h2, h3⟩ := hi
        dsimp only at h1 h2 h3
        refine ⟨by omega, ?_⟩
        rw [h3, hlen, List.drop_length, stL, List.append_assoc]
        congr 1
        have e2 : x.cps.toList.drop st = (x.cps.toList.drop st).take (o - st) ++ (x.cps.toList.drop st).drop (o - st) := (List.take_append_drop _ _).symm
        conv => rhs; rw [e2]
        congr 1
        rw [List.drop_drop, show st + (o - st) = o by omega]
        exact List.take_of_length_le (by simp)
    rw [key.2]
    by_cases hs : st < x.length
    · rw [if_pos hs]
      simp only [catL, List.flatMap_append, List.flatMap_cons, List.flatMap_nil, List.append_nil]
      rw [slice_tail key.1]
    · rw [if_neg hs]
      have : x.cps.toList.drop st = [] := List.drop_of_length_le (by omega)
      rw [this, List.append_nil]
end Mine
end
section
local macro_rules | `(tactic| walk_at "MINE P_vis 0") => `(tactic| skip)
theorem Mine.offPvis : True := by
  w_top off
  trivial
open PySem PySem.W PyProof.Rows PySem.Calls PySem.Spec PyProof.V
set_option maxRecDepth 100000
namespace Mine
/-- the words that are left: outside the marks (false), inside a pair (true) -/
def osOf : Bool → List Int → List (Option Nat)
  | _, [] => []
  | false, n :: r => if n < 48 then some n.toNat :: osOf false r else if r.all (fun m => decide (m < 48)) then none :: osOf false r else osOf true r
  | true, n :: r => if n < 48 then osOf true r else osOf false r
def blL (r : List Int) : List Nat := r.flatMap fun n => 32 :: (thingTxt n).cps.toList
theorem bl_cons (n : Int) (r : List Int) : blL (n :: r) = (32 :: (thingTxt n).cps.toList) ++ blL r := rfl
def Small (r : List Int) : Prop := ∀ n ∈ r, 0 ≤ n ∧ n < 56
theorem thing_quote {n : Int} (h : ¬ n < 48) : thingTxt n = quoteTxt := if_neg h
theorem thing_tok {n : Int} (h0 : 0 ≤ n) (h : n < 48) : 34 ∉ (thingTxt n).cps.toList ∧ (thingTxt n).length ≠ 0 := by
  unfold thingTxt
  rw [if_pos h]
  have : ∀ k < 48, 34 ∉ (sgnL.getD k Str.empty).cps.toList ∧ (sgnL.getD k Str.empty).length ≠ 0 := by decide
  exact this _ (by omega)
theorem space_no : ∀ c < 127, 33 ≤ c → Unicode.isSpace c = false := by decide +kernel
theorem space_yes : Unicode.isSpace 32 = true := by decide +kernel
theorem fold_tok : ∀ {l : List Nat}, (∀ c ∈ l, Unicode.isSpace c = false) → ∀ ws run, l.foldl KWd.step (ws, run) = (ws, run ++ ⟨l.toArray⟩)
  | [], _, ws, run => by
    show (ws, run) = (ws, run ++ ⟨#[]⟩)
    rw [show run ++ ⟨#[]⟩ = run from Str.ext' (by rw [Str.cps_append]; exact Array.append_empty)]
  | c :: l, h, ws, run => by
    rw [List.foldl_cons]
    have e : KWd.step (ws, run) c = (ws, run ++ ⟨#[c]⟩) := by
      unfold KWd.step
      rw [if_neg (by rw [h c (.head _)]; exact Bool.false_ne_true)]
    rw [e, fold_tok (fun d hd => h d (.tail _ hd))]
    congr 1
    apply Str.ext'
    apply Array.toList_inj.mp
    simp [Str.cps_append]
theorem fold_blank (st : KWd.St) : KWd.step st 32 = (KWd.fin st, Str.empty) := by
  unfold KWd.step KWd.fin
  rw [if_pos space_yes]
  by_cases h : st.2.length = 0
  · rw [if_pos h, if_pos h]
    obtain ⟨a, b⟩ := st
    have h2 : b = Str.empty := KWd.len0 h
    rw [h2]
  · rw [if_neg h, if_neg h]
theorem fold_thing {n : Int} (hn : 0 ≤ n) (st : KWd.St) (z : List Nat) : ((32 :: (thingTxt n).cps.toList) ++ z).foldl KWd.step st = z.foldl KWd.step (KWd.fin st, thingTxt n) := by
  have hns : ∀ c ∈ (thingTxt n).cps.toList, Unicode.isSpace c = false := fun c hc => by
    have := thing_good n c hc
    exact space_no c (by omega) (by omega)
  rw [List.foldl_append, List.foldl_cons, fold_blank, fold_tok hns]
  congr 2
  apply Str.ext'
  apply Array.toList_inj.mp
  simp [Str.cps_append, Str.empty]
theorem fin_thing {n : Int} (hn : 0 ≤ n) (ws : List Str) : KWd.fin (ws, thingTxt n) = ws ++ [thingTxt n] := by
  unfold KWd.fin
  have : ¬ (thingTxt n).length = 0 := by
    by_cases h : n < 48
    · exact (thing_tok hn h).2
    · rw [thing_quote h]; decide
  rw [if_neg this]
theorem tok_text {n : Int} (h : n < 48) : thingTxt n = kText (some n.toNat) := if_pos h
theorem free_blL : ∀ {r : List Int}, Small r → r.all (fun m => decide (m < 48)) = true → 34 ∉ blL r
  | [], _, _ => fun h => nomatch h
  | n :: r, hs, ha => by
    rw [List.all_cons, Bool.and_eq_true] at ha
    have h48 : n < 48 := of_decide_eq_true ha.1
    have h1 := (thing_tok (hs n (.head _)).1 h48).1
    have h2 := free_blL (fun m hm => hs m (.tail _ hm)) ha.2
    rw [bl_cons]
    intro h
    rcases List.mem_append.mp h with h | h
    · rcases List.mem_cons.mp h with h | h
      · cases h
      · exact h1 h
    · exact h2 h
theorem words_blL : ∀ r : List Int, Small r →
    (∀ st, KWd.fin ((stL none (blL r)).foldl KWd.step st) = KWd.fin st ++ (osOf false r).map kText) ∧
    (∀ st buf, r.all (fun m => decide (m < 48)) = false → KWd.fin ((stL (some buf) (blL r)).foldl KWd.step st) = KWd.fin st ++ (osOf true r).map kText)
  | [], _ => by
    refine ⟨fun st => ?_, fun st buf h => by cases h⟩
    show KWd.fin st = KWd.fin st ++ []
    rw [List.append_nil]
  | n :: r, hs => by
    obtain ⟨ihA, ihB⟩ := words_blL r (fun m hm => hs m (.tail _ hm))
    have hn := (hs n (.head _)).1
    by_cases h48 : n < 48
    · have hq : 34 ∉ (32 :: (thingTxt n).cps.toList) := by
        intro h
        rcases List.mem_cons.mp h with h | h
        · cases h
        · exact (thing_tok hn h48).1 h
      refine ⟨fun st => ?_, fun st buf h => ?_⟩
      · rw [bl_cons, stL_free hq, fold_thing hn, ihA, fin_thing hn, osOf, if_pos h48, List.map_cons, ← tok_text h48, List.append_assoc]; rfl
      · rw [bl_cons, stL_buf hq, osOf, if_pos h48]
        refine ihB st _ ?_
        rw [List.all_cons, show decide (n < 48) = true from decide_eq_true h48, Bool.true_and] at h
        exact h
    · have hqt : (thingTxt n).cps.toList = [34] := by rw [thing_quote h48]; rfl
      refine ⟨fun st => ?_, fun st buf h => ?_⟩
      · have e0 : stL none (blL (n :: r)) = 32 :: stL (some [34]) (blL r) := by
          rw [bl_cons, hqt]; rfl
        rw [e0, osOf, if_neg h48]
        by_cases ha : r.all (fun m => decide (m < 48)) = true
        · rw [if_pos ha]
          have hfree := free_blL (fun m hm => hs m (.tail _ hm)) ha
          have e1 : stL (some [34]) (blL r) = [34] ++ blL r := by
            have := stL_buf hfree [34] []
            rw [List.append_nil] at this
            rw [this]; rfl
          have e2 : stL none (blL r) = blL r := by
            have := stL_free hfree []
            rw [List.append_nil] at this
            rw [this]; exact List.append_nil _
          rw [e1, ← hqt]
          have e3 : 32 :: ((thingTxt n).cps.toList ++ blL r) = (32 :: (thingTxt n).cps.toList) ++ stL none (blL r) := by rw [e2]; rfl
          rw [e3, fold_thing hn, ihA, fin_thing hn, List.map_cons, thing_quote h48, List.append_assoc]; rfl
        · rw [if_neg ha, List.foldl_cons, fold_blank, ihB _ _ (by simpa using ha)]
          rfl
      · have e0 : stL (some buf) (blL (n :: r)) = stL none (blL r) := by
          rw [bl_cons, hqt]; rfl
        rw [e0, osOf, if_neg h48, ihA]
theorem join_blL (n : Int) (r : List Int) : 32 :: (Str.join (Str.ofString " ") ((n :: r).map thingTxt)).cps.toList = blL (n :: r) := by
  induction r generalizing n with
  | nil =>
    show 32 :: (thingTxt n).cps.toList = _
    simp [blL]
  | cons m r ih =>
    have e : Str.join (Str.ofString " ") ((n :: m :: r).map thingTxt) = thingTxt n ++ Str.ofString " " ++ Str.join (Str.ofString " ") ((m :: r).map thingTxt) := rfl
    rw [e, bl_cons, ← ih m, Str.cps_append, Str.cps_append, Array.toList_append, Array.toList_append]
    have e2 : (Str.ofString " ").cps.toList = [32] := rfl
    rw [e2]
    simp
theorem text_words {row : List Int} (hrow : IsRow row) : Txt.words (stripOf (textOf row)) = (osOf false row).map kText := by
  rw [KWd.words_scan]
  unfold KWd.scan
  rw [strip_cps]
  obtain ⟨h5, hs⟩ := hrow
  cases row with
  | nil => cases h5
  | cons n r =>
    have e : textOf (n :: r) = Str.join (Str.ofString " ") ((n :: r).map thingTxt) := StrLaws.glued_eq_join _ _
    have h1 := (words_blL (n :: r) hs).1 ([], Str.empty)
    rw [← join_blL, ← e] at h1
    have e3 : stL none (32 :: (textOf (n :: r)).cps.toList) = 32 :: stL none (textOf (n :: r)).cps.toList := rfl
    rw [e3, List.foldl_cons, fold_blank] at h1
    exact h1
theorem stL_len : ∀ (l : List Nat) (b : Option (List Nat)), (stL b l).length ≤ (b.getD []).length + l.length
  | [], none => by simp [stL]
  | [], some buf => by simp [stL]
  | c :: r, none => by
    rw [stL]
    split
    · have := stL_len r (some [34]); simp at this ⊢; omega
    · have := stL_len r none; simp at this ⊢; omega
  | c :: r, some buf => by
    rw [stL]
    split
    · have := stL_len r none; simp at this ⊢; omega
    · have := stL_len r (some (buf ++ [c])); simp at this ⊢; omega
theorem strip_len (x : Str) : (stripOf x).length ≤ x.length := by
  have h := congrArg List.length (strip_cps x)
  have h2 := stL_len x.cps.toList none
  simp [Str.length] at h h2 ⊢
  omega
theorem os_len : ∀ (r : List Int) (b : Bool), (osOf b r).length ≤ r.length
  | [], b => by cases b <;> exact Nat.le_refl _
  | n :: r, false => by
    have h1 := os_len r false
    have h2 := os_len r true
    rw [osOf]
    split
    · simp; omega
    · split
      · simp; omega
      · simp; omega
  | n :: r, true => by
    have h1 := os_len r false
    have h2 := os_len r true
    rw [osOf]
    split <;> simp <;> omega
theorem os_lt : ∀ (r : List Int) (b : Bool) (k : Nat), Small r → some k ∈ osOf b r → k < 48 ∧ (k : Int) ∈ r
  | [], b, k, _, h => by cases b <;> cases h
  | n :: r, false, k, hs, h => by
    have hs' : Small r := fun m hm => hs m (.tail _ hm)
    have h0 := (hs n (.head _)).1
    rw [osOf] at h
    split at h
    · rcases List.mem_cons.mp h with h | h
      · cases h
        refine ⟨by omega, ?_⟩
        rw [show ((n.toNat : Nat) : Int) = n by omega]; exact .head _
      · exact ⟨(os_lt r _ k hs' h).1, .tail _ (os_lt r _ k hs' h).2⟩
    · split at h
      · rcases List.mem_cons.mp h with h | h
        · cases h
        · exact ⟨(os_lt r _ k hs' h).1, .tail _ (os_lt r _ k hs' h).2⟩
      · exact ⟨(os_lt r _ k hs' h).1, .tail _ (os_lt r _ k hs' h).2⟩
  | n :: r, true, k, hs, h => by
    have hs' : Small r := fun m hm => hs m (.tail _ hm)
    rw [osOf] at h
    split at h
    · exact ⟨(os_lt r _ k hs' h).1, .tail _ (os_lt r _ k hs' h).2⟩
    · exact ⟨(os_lt r _ k hs' h).1, .tail _ (os_lt r _ k hs' h).2⟩
/-- the places seen are those of the words left -/
def osInts (os : List (Option Nat)) : List Int := os.filterMap fun o => o.map Int.ofNat
theorem none_left {M : Nat} : ∀ {r : List Int} {acc : List Int} {s : Nat}, r.all (fun m => decide (m < 48)) = true → s = M → (r.foldl (vstep M) (s, acc)).2 = acc ++ r
  | [], acc, s, _, _ => (List.append_nil _).symm
  | n :: r, acc, s, h, hs => by
    rw [List.all_cons, Bool.and_eq_true] at h
    have h48 : n < 48 := of_decide_eq_true h.1
    have e : vstep M (s, acc) n = (s, acc ++ [n]) := by
      unfold vstep
      rw [if_neg (by omega), if_pos (.inr hs)]
    rw [List.foldl_cons, e, none_left h.2 hs, List.append_assoc]; rfl
theorem none_os : ∀ {r : List Int}, Small r → r.all (fun m => decide (m < 48)) = true → osInts (osOf false r) = r
  | [], _, _ => rfl
  | n :: r, hs, h => by
    rw [List.all_cons, Bool.and_eq_true] at h
    have h48 : n < 48 := of_decide_eq_true h.1
    have h0 := (hs n (.head _)).1
    have ih := none_os (fun m hm => hs m (.tail _ hm)) h.2
    rw [osOf, if_pos h48]
    show Int.ofNat n.toNat :: osInts (osOf false r) = _
    rw [ih, show Int.ofNat n.toNat = n from Int.toNat_of_nonneg h0]
theorem marks_none {r : List Int} : r.all (fun m => decide (m < 48)) = true ↔ marksOf r = 0 := by
  unfold marksOf
  rw [List.length_eq_zero_iff, List.filter_eq_nil_iff, List.all_eq_true]
  constructor
  · intro h a ha
    have := of_decide_eq_true (h a ha)
    simp; omega
  · intro h a ha
    have := h a ha
    simp at this
    exact decide_eq_true (by omega)
theorem vis_go (M : Nat) : ∀ (r : List Int), Small r → ∀ (s : Nat) (acc : List Int), M = s + marksOf r →
    (s % 2 = 0 → (r.foldl (vstep M) (s, acc)).2 = acc ++ osInts (osOf false r)) ∧
    (s % 2 = 1 → marksOf r ≠ 0 → (r.foldl (vstep M) (s, acc)).2 = acc ++ osInts (osOf true r))
  | [], _, s, acc, hM => by
    refine ⟨fun _ => (List.append_nil _).symm, fun _ h => absurd rfl h⟩
  | n :: r, hs, s, acc, hM => by
    have hs' : Small r := fun m hm => hs m (.tail _ hm)
    have h0 := (hs n (.head _)).1
    by_cases h48 : n < 48
    · have hm : marksOf (n :: r) = marksOf r := by
        unfold marksOf
        rw [List.filter_cons, if_neg (by simp; omega)]
      rw [hm] at hM ⊢
      refine ⟨fun he => ?_, fun ho hne => ?_⟩
      · have e : vstep M (s, acc) n = (s, acc ++ [n]) := by
          unfold vstep
          rw [if_neg (by omega), if_pos (.inl he)]
        rw [List.foldl_cons, e, (vis_go M r hs' s _ hM).1 he, osOf, if_pos h48, List.append_assoc]
        show _ = acc ++ (Int.ofNat n.toNat :: osInts (osOf false r))
        rw [show Int.ofNat n.toNat = n from Int.toNat_of_nonneg h0]; rfl
      · have e : vstep M (s, acc) n = (s, acc) := by
          unfold vstep
          rw [if_neg (by omega), if_neg (by dsimp only; omega)]
        rw [List.foldl_cons, e, (vis_go M r hs' s _ hM).2 ho hne, osOf, if_pos h48]
    · have hm : marksOf (n :: r) = marksOf r + 1 := by
        unfold marksOf
        rw [List.filter_cons, if_pos (by simp; omega)]; rfl
      have e : vstep M (s, acc) n = (s + 1, acc) := by
        unfold vstep
        rw [if_pos (by omega)]
      rw [hm] at hM
      refine ⟨fun he => ?_, fun ho _ => ?_⟩
      · rw [List.foldl_cons, e, osOf, if_neg h48]
        by_cases ha : r.all (fun m => decide (m < 48)) = true
        · rw [if_pos ha, none_left ha (by have := marks_none.mp ha; omega)]
          show _ = acc ++ osInts (osOf false r)
          rw [none_os hs' ha]
        · rw [if_neg ha, (vis_go M r hs' (s + 1) _ (by omega)).2 (by omega) (fun h => ha (marks_none.mpr h))]
      · rw [List.foldl_cons, e, osOf, if_neg h48, (vis_go M r hs' (s + 1) _ (by omega)).1 (by omega)]
theorem vis_os {row : List Int} (hs : Small row) : visOf row = osInts (osOf false row) := by
  unfold visOf visGo
  rw [(vis_go (marksOf row) row hs 0 [] (by omega)).1 rfl, List.nil_append]
theorem or_bit : ∀ (os : List (Option Nat)) (m k : Nat), (os.foldl orStep m).testBit k = (m.testBit k || decide (some k ∈ os))
  | [], m, k => by simp
  | none :: os, m, k => by
    rw [List.foldl_cons, or_bit os]
    simp [orStep]
  | some j :: os, m, k => by
    rw [List.foldl_cons, or_bit os]
    simp only [orStep, Nat.testBit_or, Nat.testBit_two_pow, List.mem_cons, Option.some.injEq]
    by_cases h : j = k
    · subst h; simp
    · have : ¬ k = j := fun e => h e.symm
      simp [h, this]
def numOf (row : List Int) : Nat := (osOf false row).foldl orStep 0
theorem num_bit {row : List Int} (k : Nat) : (numOf row).testBit k = decide (some k ∈ osOf false row) := by
  unfold numOf
  rw [or_bit]; simp
theorem num_lt {row : List Int} (hs : Small row) : numOf row < 2 ^ 48 := by
  refine Nat.lt_pow_two_of_testBit _ fun i hi => ?_
  rw [num_bit]
  refine decide_eq_false fun h => ?_
  have := (os_lt _ _ _ hs h).1
  omega
theorem sorted_ext : ∀ {l₁ l₂ : List Int}, l₁.Pairwise (· < ·) → l₂.Pairwise (· < ·) → (∀ x, x ∈ l₁ ↔ x ∈ l₂) → l₁ = l₂
  | [], [], _, _, _ => rfl
  | [], b :: r, _, _, h => by have := (h b).mpr (.head _); cases this
  | a :: r, [], _, _, h => by have := (h a).mp (.head _); cases this
  | a :: r, b :: q, h1, h2, h => by
    have h1' := List.pairwise_cons.mp h1
    have h2' := List.pairwise_cons.mp h2
    have hab : a = b := by
      rcases List.mem_cons.mp ((h a).mp (.head _)) with e | e
      · exact e
      · have l1 := h2'.1 a e
        rcases List.mem_cons.mp ((h b).mpr (.head _)) with e2 | e2
        · omega
        · have l2 := h1'.1 b e2; omega
    subst hab
    congr 1
    refine sorted_ext h1'.2 h2'.2 fun x => ?_
    constructor
    · intro hx
      have l1 := h1'.1 x hx
      rcases List.mem_cons.mp ((h x).mp (.tail _ hx)) with e | e
      · omega
      · exact e
    · intro hx
      have l1 := h2'.1 x hx
      rcases List.mem_cons.mp ((h x).mpr (.tail _ hx)) with e | e
      · omega
      · exact e
theorem bit_sorted (n : Nat) : (bitPlaces n).Pairwise (· < ·) := by
  unfold bitPlaces
  rw [List.pairwise_map]
  refine List.Pairwise.filter _ ?_
  refine List.Pairwise.imp ?_ (List.pairwise_lt_range (n := 48))
  intro a b h
  exact Int.ofNat_lt.mpr h
theorem places_eq {row ns : List Int} (hs : Small row) (h1 : ns.Pairwise (· < ·)) (h2 : ∀ x, x ∈ ns ↔ x ∈ visOf row) : ns = bitPlaces (numOf row) := by
  refine sorted_ext h1 (bit_sorted _) fun x => ?_
  rw [h2, vis_os hs]
  unfold osInts bitPlaces
  rw [List.mem_filterMap, List.mem_map]
  constructor
  · rintro ⟨o, ho, hx⟩
    cases o with
    | none => cases hx
    | some k =>
      cases hx
      exact ⟨k, List.mem_filter.mpr ⟨List.mem_range.mpr (os_lt _ _ _ hs ho).1, by rw [num_bit]; exact decide_eq_true ho⟩, rfl⟩
  · rintro ⟨k, hk, rfl⟩
    have := (List.mem_filter.mp hk).2
    rw [num_bit] at this
    exact ⟨some k, of_decide_eq_true this, rfl⟩
end Mine
end
section
theorem Mine.offPfind : True := by
  w_top off
  trivial
open PySem PySem.W PyProof.Rows PySem.Calls PySem.Spec PyProof.V
set_option maxRecDepth 100000
namespace Mine
open Builtin Builtin.Str StrLaws
/-- the first place of w in z -/
def findL (w : List Nat) : List Nat → Option Nat
  | [] => if w.isPrefixOf [] then some 0 else none
  | c :: z => if w.isPrefixOf (c :: z) then some 0 else (findL w z).map (· + 1)
theorem findL_none {w : List Nat} : ∀ {z : List Nat}, findL w z = none ↔ ∀ k, k ≤ z.length → ¬ w <+: z.drop k
  | [] => by
    rw [findL]
    constructor
    · intro h k hk
      have : k = 0 := by simpa using hk
      subst this
      split at h
      · cases h
      · rename_i hp; rw [List.drop_zero, ← List.isPrefixOf_iff_prefix]; exact hp
    · intro h
      have := h 0 (Nat.le_refl _)
      rw [List.drop_zero, ← List.isPrefixOf_iff_prefix] at this
      rw [if_neg this]
  | c :: z => by
    rw [findL]
    constructor
    · intro h k hk
      split at h
      · cases h
      · rename_i hp
        cases k with
        | zero => rw [List.drop_zero, ← List.isPrefixOf_iff_prefix]; exact hp
        | succ k =>
          rw [List.drop_succ_cons]
          rw [Option.map_eq_none_iff] at h
          exact findL_none.mp h k (by simpa using hk)
    · intro h
      have h0 := h 0 (Nat.zero_le _)
      rw [List.drop_zero, ← List.isPrefixOf_iff_prefix] at h0
      rw [if_neg h0, Option.map_eq_none_iff]
      exact findL_none.mpr fun k hk => by
        have := h (k + 1) (by simpa using hk)
        rwa [List.drop_succ_cons] at this
theorem findL_some {w : List Nat} : ∀ {z : List Nat} {a : Nat}, findL w z = some a ↔ (a ≤ z.length ∧ w <+: z.drop a ∧ ∀ k, k < a → ¬ w <+: z.drop k)
  | [], a => by
    rw [findL]
    constructor
    · intro h
      split at h
      · rename_i hp
        cases h
        exact ⟨Nat.le_refl _, by rw [List.drop_zero]; exact List.isPrefixOf_iff_prefix.mp hp, fun k hk => absurd hk (Nat.not_lt_zero _)⟩
      · cases h
    · rintro ⟨h1, h2, h3⟩
      have : a = 0 := by simpa using h1
      subst this
      rw [if_pos (List.isPrefixOf_iff_prefix.mpr (by simpa using h2))]
  | c :: z, a => by
    rw [findL]
    constructor
    · intro h
      split at h
      · rename_i hp
        cases h
        exact ⟨Nat.zero_le _, by rw [List.drop_zero]; exact List.isPrefixOf_iff_prefix.mp hp, fun k hk => absurd hk (Nat.not_lt_zero _)⟩
      · rename_i hp
        obtain ⟨b, hb, rfl⟩ := Option.map_eq_some_iff.mp h
        obtain ⟨h1, h2, h3⟩ := findL_some.mp hb
        refine ⟨by simpa using h1, by rw [List.drop_succ_cons]; exact h2, fun k hk => ?_⟩
        cases k with
        | zero => rw [List.drop_zero, ← List.isPrefixOf_iff_prefix]; exact hp
        | succ k => rw [List.drop_succ_cons]; exact h3 k (by omega)
    · rintro ⟨h1, h2, h3⟩
      cases a with
      | zero => rw [if_pos (List.isPrefixOf_iff_prefix.mpr (by simpa using h2))]
      | succ a =>
        have h0 := h3 0 (Nat.succ_pos _)
        rw [List.drop_zero, ← List.isPrefixOf_iff_prefix] at h0
        rw [if_neg h0]
        rw [List.drop_succ_cons] at h2
        have := findL_some.mpr ⟨by simpa using h1, h2, fun k hk => by
          have := h3 (k + 1) (by omega)
          rwa [List.drop_succ_cons] at this⟩
        rw [this]; rfl
theorem at_iff {x y : Str} {k : Nat} (hk : k ≤ x.length) : At x y x.length k ↔ y.cps.toList <+: x.cps.toList.drop k := by
  unfold At
  rw [subAt_eq, beq_iff_eq]
  have hlen : x.length = x.cps.toList.length := by simp [Str.length]
  have hylen : y.length = y.cps.toList.length := by simp [Str.length]
  constructor
  · rintro ⟨h1, h2⟩
    rw [← h2]
    exact List.take_prefix _ _
  · intro h
    refine ⟨?_, ?_⟩
    · have := h.length_le
      rw [List.length_drop] at this
      omega
    · rw [hylen]; exact (List.prefix_iff_eq_take.mp h).symm
theorem range_split {lo n a : Nat} {pre post : List Nat} (h : List.range' lo n = pre ++ a :: post) : ∀ k, lo ≤ k → k < a → k ∈ pre := by
  intro k h1 hk
  have hL : n = pre.length + (post.length + 1) := by
    have := congrArg List.length h
    simpa using this
  have hlen : lo + pre.length = a := by
    have h1 : (List.range' lo n)[pre.length]? = some a := by rw [h]; simp
    rw [List.getElem?_range'] at h1
    · simpa using h1
    · omega
  have h2 : (List.range' lo n)[k - lo]? = pre[k - lo]? := by rw [h, List.getElem?_append_left (by omega)]
  rw [List.getElem?_range'] at h2
  · have h3 : pre[k - lo]? = some k := by rw [← h2]; simp; omega
    exact List.mem_of_getElem? h3
  · omega
theorem occ_list (x y : Str) {lo : Nat} (hlo : lo ≤ x.length) : occurrences x y lo x.length 1 = match findL y.cps.toList (x.cps.toList.drop lo) with | some k => [lo + k] | none => [] := by
  have hlen : x.length = x.cps.toList.length := by simp [Str.length]
  have hsz := occ_length_le x y lo x.length 1
  rw [occ_eq] at hsz ⊢
  rcases occ_first x y x.length 1 (Nat.le_refl _) (List.range' lo (x.length + 1 - lo)) lo (fun i hi => by simp [List.mem_range'] at hi; omega) with ⟨h0, hn⟩ | ⟨pre, a, post, e, h0, ha, hn⟩
  · have hf : findL y.cps.toList (x.cps.toList.drop lo) = none := findL_none.mpr fun k hk => by
      rw [List.length_drop] at hk
      rw [List.drop_drop, ← at_iff (by omega)]
      exact hn (lo + k) (by simp [List.mem_range']; omega)
    rw [hf, h0]
  · have hlo2 : lo ≤ a ∧ a ≤ x.length := by
      have : a ∈ List.range' lo (x.length + 1 - lo) := by rw [e]; simp
      simp [List.mem_range'] at this
      omega
    have hf : findL y.cps.toList (x.cps.toList.drop lo) = some (a - lo) := findL_some.mpr ⟨by rw [List.length_drop]; omega, by
        rw [List.drop_drop, show lo + (a - lo) = a by omega]; exact (at_iff hlo2.2).mp ha, fun k hk => by
        rw [List.drop_drop, ← at_iff (by omega)]
        exact hn (lo + k) (range_split e _ (by omega) (by omega))⟩
    rw [hf]
    dsimp only
    generalize (forIn (List.range' lo (x.length + 1 - lo)) ((#[] : Array Nat), lo) (occBody x y x.length 1)).run.fst = arr at h0 hsz
    have h1 : arr.toList[0]? = some a := by simpa using h0
    cases hL : arr.toList with
    | nil => rw [hL] at h1; cases h1
    | cons b t =>
      rw [hL] at h1 hsz
      simp at h1 hsz
      subst h1 hsz
      rw [show lo + (b - lo) = b by omega]
def matchL : List (List Nat) → List Nat → Bool
  | [], _ => true
  | w :: ws, z => match findL w z with | some k => matchL ws (z.drop (k + w.length)) | none => false
theorem from_nat (n k : Nat) : fromIndex n (k : Int) = k := by
  unfold fromIndex
  omega
theorem match_list (y : Str) : ∀ (ws : List Str) (sp : Nat), sp ≤ y.length → matchFrom y ws (sp : Int) = matchL (ws.map (·.cps.toList)) (y.cps.toList.drop sp)
  | [], sp, _ => rfl
  | a :: r, sp, hsp => by
    have hlen : y.length = y.cps.toList.length := by simp [Str.length]
    have halen : a.length = a.cps.toList.length := by simp [Str.length]
    have e : Txt.find3 y a (sp : Int) = match findL a.cps.toList (y.cps.toList.drop sp) with | some k => ((sp + k : Nat) : Int) | none => -1 := by
      unfold Txt.find3
      rw [from_nat, occ_list y a hsp]
      cases findL a.cps.toList (y.cps.toList.drop sp) <;> rfl
    rw [matchFrom, List.map_cons, matchL, e]
    cases hf : findL a.cps.toList (y.cps.toList.drop sp) with
    | none => rfl
    | some k =>
      dsimp only
      rw [if_neg (show ¬ ((sp + k : Nat) : Int) < 0 from Int.not_lt.mpr (Int.natCast_nonneg _))]
      have h2 := findL_some.mp hf
      have hk : sp + k + a.length ≤ y.length := by
        have := h2.2.1.length_le
        rw [List.drop_drop, List.length_drop] at this
        have h3 := h2.1
        rw [List.length_drop] at h3
        omega
      rw [show ((sp + k : Nat) : Int) + (a.length : Int) = ((sp + k + a.length : Nat) : Int) by omega, match_list y r _ hk, List.drop_drop, ← halen, Nat.add_assoc]
theorem find_nil (z : List Nat) : findL [] z = some 0 := by cases z <;> rfl
theorem match_snoc : ∀ (ws : List (List Nat)) (z : List Nat), matchL (ws ++ [[]]) z = matchL ws z
  | [], z => by
    show (match findL [] z with | some k => matchL [] (z.drop (k + 0)) | none => false) = true
    rw [find_nil]; rfl
  | w :: ws, z => by
    rw [List.cons_append, matchL, matchL]
    cases findL w z with
    | none => rfl
    | some k => exact match_snoc ws _
theorem match_ends (y : Str) (ws : List Str) : matchFrom y (Str.empty :: (ws ++ [Str.empty])) 0 = matchL (ws.map (·.cps.toList)) y.cps.toList := by
  have h := match_list y (Str.empty :: (ws ++ [Str.empty])) 0 (Nat.zero_le _)
  rw [show ((0 : Nat) : Int) = 0 from rfl] at h
  rw [h, List.drop_zero, List.map_cons, List.map_append]
  show (match findL [] y.cps.toList with | some k => matchL (ws.map (fun a : Str => a.cps.toList) ++ [[]]) (y.cps.toList.drop (k + 0)) | none => false) = _
  rw [find_nil]
  exact match_snoc _ _
theorem pre_cut {w o z : List Nat} {c : Nat} (hw : c ∉ w) (h : w <+: o ++ c :: z) : w <+: o := by
  rcases Nat.lt_or_ge o.length w.length with hl | hl
  · exfalso
    have h2 := List.prefix_iff_eq_take.mp h
    apply hw
    rw [h2, List.take_append, List.take_of_length_le (by omega)]
    apply List.mem_append_right
    rw [show w.length - o.length = (w.length - o.length - 1) + 1 by omega, List.take_succ_cons]
    exact .head _
  · exact List.prefix_of_prefix_length_le h (List.prefix_append _ _) hl
theorem pre_head {w z : List Nat} {c : Nat} (hne : w ≠ []) (hw : c ∉ w) : ¬ w <+: c :: z := by
  intro h
  have := pre_cut (o := []) hw h
  exact hne (List.prefix_nil.mp this)
theorem find_skip {w z : List Nat} {c : Nat} (hne : w ≠ []) (hw : c ∉ w) : findL w (c :: z) = (findL w z).map (· + 1) := by
  rw [findL, if_neg]
  rw [List.isPrefixOf_iff_prefix]
  exact pre_head hne hw
theorem find_past {w z : List Nat} {c : Nat} (hne : w ≠ []) (hw : c ∉ w) : ∀ {o : List Nat}, findL w o = none → findL w (o ++ c :: z) = (findL w z).map (· + (o.length + 1))
  | [], _ => find_skip hne hw
  | d :: o, h => by
    rw [findL] at h
    split at h
    · cases h
    · rename_i hp
      rw [Option.map_eq_none_iff] at h
      rw [List.cons_append, findL, if_neg, find_past hne hw h, Option.map_map]
      · congr 1
      · rw [List.isPrefixOf_iff_prefix] at hp ⊢
        exact fun h2 => hp (pre_cut (o := d :: o) hw h2)
theorem find_in {w z : List Nat} {c : Nat} (hw : c ∉ w) : ∀ {o : List Nat} {k : Nat}, findL w o = some k → findL w (o ++ c :: z) = some k
  | [], k, h => by
    rw [findL] at h
    split at h
    · rename_i hp
      cases h
      have : w = [] := List.prefix_nil.mp (List.isPrefixOf_iff_prefix.mp hp)
      rw [this, find_nil]
    · cases h
  | d :: o, k, h => by
    rw [findL] at h
    rw [List.cons_append, findL]
    split at h
    · rename_i hp
      cases h
      rw [if_pos]
      rw [List.isPrefixOf_iff_prefix] at hp ⊢
      exact hp.trans (List.prefix_append _ _)
    · rename_i hp
      obtain ⟨b, hb, rfl⟩ := Option.map_eq_some_iff.mp h
      rw [if_neg, find_in hw hb]; rfl
      rw [List.isPrefixOf_iff_prefix] at hp ⊢
      exact fun h2 => hp (pre_cut (o := d :: o) hw h2)
/-- a word as the law makes them -/
def Plain (w : List Nat) : Prop := w ≠ [] ∧ 44 ∉ w ∧ 32 ∉ w ∧ 46 ∉ w
def NoTwo (w w' o : List Nat) : Prop := ∀ k, findL w o = some k → findL w' (o.drop (k + w.length)) = none
def joinL : List (List Nat) → List Nat
  | [] => []
  | [o] => o
  | o :: q :: r => o ++ 44 :: 32 :: joinL (q :: r)
theorem join_list : ∀ ts : List Str, (Str.join (Str.ofString ", ") ts).cps.toList = joinL (ts.map (·.cps.toList))
  | [] => rfl
  | [x] => rfl
  | x :: y :: r => by
    have e : Str.join (Str.ofString ", ") (x :: y :: r) = x ++ Str.ofString ", " ++ Str.join (Str.ofString ", ") (y :: r) := rfl
    rw [e, Str.cps_append, Str.cps_append, Array.toList_append, Array.toList_append, join_list (y :: r)]
    have e2 : (Str.ofString ", ").cps.toList = [44, 32] := rfl
    rw [e2]
    simp [joinL]
def wstepL (left : List (List Nat)) (o : List Nat) : List (List Nat) := match left with
  | [] => []
  | w :: r => if (findL w o).isSome then r else w :: r
theorem skip_word {w o z : List Nat} {ws : List (List Nat)} (hw : Plain w) (h : findL w o = none) : matchL (w :: ws) (o ++ 44 :: 32 :: z) = matchL (w :: ws) z := by
  rw [matchL, matchL, find_past hw.1 hw.2.1 h, find_skip hw.1 hw.2.2.1]
  cases findL w z with
  | none => rfl
  | some k =>
    show matchL ws ((o ++ 44 :: 32 :: z).drop (k + 1 + (o.length + 1) + w.length)) = matchL ws (z.drop (k + w.length))
    congr 1
    rw [show k + 1 + (o.length + 1) + w.length = o.length + (k + w.length + 2) by omega, ← List.drop_drop, List.drop_left]
    rfl
theorem match_words : ∀ (os ws : List (List Nat)), (∀ w ∈ ws, Plain w) → ws.Pairwise (fun w w' => ∀ o ∈ os, NoTwo w w' o) →
    matchL ws (joinL os) = decide (os.foldl wstepL ws = [])
  | [], ws, hp, _ => by
    cases ws with
    | nil => rfl
    | cons w r =>
      have hn : findL w [] = none := by
        rw [findL, if_neg]
        rw [List.isPrefixOf_iff_prefix]
        exact fun h => (hp w (.head _)).1 (List.prefix_nil.mp h)
      show matchL (w :: r) [] = decide ((w :: r) = [])
      rw [matchL, hn]; rfl
  | [o], ws, hp, hno => by
    show matchL ws o = decide (wstepL ws o = [])
    cases ws with
    | nil => rfl
    | cons w r =>
      rw [matchL, wstepL]
      cases hf : findL w o with
      | none => rfl
      | some k =>
        dsimp only
        rw [if_pos (show (some k).isSome = true from rfl)]
        cases r with
        | nil => rfl
        | cons w' r' =>
          have h2 := (List.pairwise_cons.mp hno).1 w' (.head _) o (.head _) k hf
          rw [matchL, h2]; rfl
  | o :: q :: r, ws, hp, hno => by
    have hsub : ∀ {vs : List (List Nat)}, vs.Pairwise (fun w w' => ∀ u ∈ o :: q :: r, NoTwo w w' u) → vs.Pairwise (fun w w' => ∀ u ∈ q :: r, NoTwo w w' u) :=
      fun h => h.imp fun h u hu => h u (.tail _ hu)
    rw [List.foldl_cons]
    show matchL ws (o ++ 44 :: 32 :: joinL (q :: r)) = _
    cases ws with
    | nil =>
      have ih := match_words (q :: r) [] (fun _ h => nomatch h) .nil
      show true = _
      show true = decide ((q :: r).foldl wstepL [] = [])
      rw [← ih]; rfl
    | cons w ws' =>
      have hw := hp w (.head _)
      cases hf : findL w o with
      | none =>
        have e : wstepL (w :: ws') o = w :: ws' := by rw [wstepL, hf]; rfl
        rw [skip_word hw hf, e]
        exact match_words (q :: r) (w :: ws') hp (hsub hno)
      | some k =>
        have e : wstepL (w :: ws') o = ws' := by rw [wstepL, hf]; rfl
        rw [e, ← match_words (q :: r) ws' (fun v hv => hp v (.tail _ hv)) (hsub (List.pairwise_cons.mp hno).2)]
        rw [matchL, find_in hw.2.1 hf]
        dsimp only
        have h2 := findL_some.mp hf
        have hk : k + w.length ≤ o.length := by
          have := h2.2.1.length_le
          rw [List.length_drop] at this
          have h3 := h2.1
          omega
        rw [List.drop_append, show k + w.length - o.length = 0 by omega, List.drop_zero]
        cases ws' with
        | nil => rfl
        | cons w' r' =>
          exact skip_word (hp w' (.tail _ (.head _))) ((List.pairwise_cons.mp hno).1 w' (.head _) o (.head _) k hf)
theorem occ_some (o w : Str) : (occurrences o w 0 o.length 1).isEmpty = !(findL w.cps.toList o.cps.toList).isSome := by
  rw [occ_list o w (Nat.zero_le _), List.drop_zero]
  cases findL w.cps.toList o.cps.toList <;> rfl
theorem wstep_list (left : List Str) (o : Str) : (wstep left o).map (·.cps.toList) = wstepL (left.map (·.cps.toList)) o.cps.toList := by
  cases left with
  | nil => rfl
  | cons w r =>
    rw [wstep, List.map_cons, wstepL, occ_some]
    cases findL w.cps.toList o.cps.toList <;> rfl
theorem within_list : ∀ (ws2 ws : List Str), (ws2.foldl wstep ws).map (·.cps.toList) = (ws2.map (·.cps.toList)).foldl wstepL (ws.map (·.cps.toList))
  | [], ws => rfl
  | o :: r, ws => by
    rw [List.foldl_cons, within_list r, wstep_list, List.map_cons, List.foldl_cons]
theorem match_within {ws ws2 : List Str} (hp : ∀ w ∈ ws, Plain w.cps.toList) (hno : ∀ w ∈ ws, ∀ w' ∈ ws, ∀ o ∈ ws2, NoTwo w.cps.toList w'.cps.toList o.cps.toList) :
    matchFrom (Txt.join (Str.ofString ", ") ws2) (Str.empty :: (ws ++ [Str.empty])) 0 = decide (withinF ws ws2 = []) := by
  rw [match_ends]
  have e : Txt.join (Str.ofString ", ") ws2 = Str.join (Str.ofString ", ") ws2 := glued_eq_join _ _
  rw [e, join_list, match_words _ _ ?_ ?_]
  · rw [← within_list]
    unfold withinF
    rw [decide_eq_decide, List.map_eq_nil_iff]
  · intro w hw
    obtain ⟨a, ha, rfl⟩ := List.mem_map.mp hw
    exact hp a ha
  · rw [List.pairwise_map]
    refine List.pairwise_of_forall_mem_list fun a ha b hb o ho => ?_
    obtain ⟨u, hu, rfl⟩ := List.mem_map.mp ho
    exact hno a ha b hb u hu
end Mine
end
section
local macro_rules | `(tactic| walk_at "MINE P_good 0") => `(tactic| skip)
theorem Mine.offPgood : True := by
  w_top off
  trivial
open PySem PySem.W PyProof.Rows PySem.Calls PySem.Spec PyProof.V
set_option maxRecDepth 100000
namespace Mine
open Builtin Builtin.Str StrLaws
def namesL : List (List Nat) := flagNames.map (·.cps.toList)
def hexCh : List Nat := [48, 49, 50, 51, 52, 53, 54, 55, 56, 57, 97, 98, 99, 100, 101, 102]
def IsHexW (w : List Nat) : Prop := ∃ t, w = 48 :: 120 :: t ∧ ∀ c ∈ t, c ∈ hexCh
def Good (w : List Nat) : Prop := w ∈ namesL ∨ IsHexW w
theorem find_mem {w o : List Nat} {k : Nat} (h : findL w o = some k) : ∀ c ∈ w, c ∈ o.drop k := by
  intro c hc
  exact (findL_some.mp h).2.1.subset hc
theorem names_ch : ∀ w ∈ namesL, w ≠ [] ∧ ∀ c ∈ w, 65 ≤ c ∧ c ≤ 95 := by decide
theorem hex_ch : ∀ c ∈ hexCh, (48 ≤ c ∧ c ≤ 57) ∨ (97 ≤ c ∧ c ≤ 102) := by decide
def noTwoB (w w' o : List Nat) : Bool := match findL w o with | some k => (findL w' (o.drop (k + w.length))).isNone | none => true
theorem noTwo_of {w w' o : List Nat} (h : noTwoB w w' o = true) : NoTwo w w' o := by
  intro k hk
  unfold noTwoB at h
  rw [hk] at h
  exact Option.isNone_iff_eq_none.mp h
theorem names_two : (namesL.all fun w => namesL.all fun w' => namesL.all fun o => noTwoB w w' o) = true := by decide +kernel
theorem none_of_no {w o : List Nat} (h : ∃ c ∈ w, c ∉ o) : findL w o = none := by
  cases hf : findL w o with
  | none => rfl
  | some k =>
    obtain ⟨c, hc, hn⟩ := h
    exact absurd (List.mem_of_mem_drop (find_mem hf c hc)) hn
theorem good_two {w w' o : List Nat} (hw : Good w) (hw' : Good w') (ho : Good o) : NoTwo w w' o := by
  rcases ho with ho | ⟨t, rfl, ht⟩
  · rcases hw with hw | ⟨u, rfl, hu⟩
    · rcases hw' with hw' | ⟨u', rfl, hu'⟩
      · have := names_two
        rw [List.all_eq_true] at this
        have := this w hw
        rw [List.all_eq_true] at this
        have := this w' hw'
        rw [List.all_eq_true] at this
        exact noTwo_of (this o ho)
      · intro k _
        refine none_of_no ⟨48, .head _, fun h => ?_⟩
        have := (names_ch o ho).2 48 (List.mem_of_mem_drop h)
        omega
    · intro k hk
      have h48 := List.mem_of_mem_drop (find_mem hk 48 (.head _))
      have := (names_ch o ho).2 48 h48
      omega
  · have hoch : ∀ c ∈ 48 :: 120 :: t, c = 120 ∨ (48 ≤ c ∧ c ≤ 57) ∨ (97 ≤ c ∧ c ≤ 102) := by
      intro c hc
      rcases List.mem_cons.mp hc with rfl | hc
      · exact .inr (.inl (by omega))
      · rcases List.mem_cons.mp hc with rfl | hc
        · exact .inl rfl
        · exact .inr (hex_ch c (ht c hc))
    have hname : ∀ v ∈ namesL, ∀ z : List Nat, (∀ c ∈ z, c ∈ 48 :: 120 :: t) → findL v z = none := by
      intro v hv z hz
      obtain ⟨hne, hch⟩ := names_ch v hv
      cases v with
      | nil => exact absurd rfl hne
      | cons c v =>
        refine none_of_no ⟨c, .head _, fun h => ?_⟩
        have h1 := hch c (.head _)
        have h2 := hoch c (hz c h)
        omega
    intro k hk
    rcases hw with hw | ⟨u, rfl, hu⟩
    · rw [hname w hw _ (fun c hc => hc)] at hk
      cases hk
    · rcases hw' with hw' | ⟨u', rfl, hu'⟩
      · exact hname w' hw' _ fun c hc => List.mem_of_mem_drop hc
      · refine none_of_no ⟨120, .tail _ (.head _), fun h => ?_⟩
        have h2 : 120 ∈ t := by
          have e : (48 :: 120 :: t).drop (k + (48 :: 120 :: u).length) = t.drop (k + u.length) := by
            rw [show k + (48 :: 120 :: u).length = (k + u.length) + 1 + 1 by simp only [List.length_cons]; omega, List.drop_succ_cons, List.drop_succ_cons]
          rw [e] at h
          exact List.mem_of_mem_drop h
        have := hex_ch 120 (ht 120 h2)
        omega
theorem good_plain {w : List Nat} (h : Good w) : Plain w := by
  rcases h with h | ⟨t, rfl, ht⟩
  · obtain ⟨hne, hch⟩ := names_ch w h
    refine ⟨hne, fun h => ?_, fun h => ?_, fun h => ?_⟩ <;> (have := hch _ h; omega)
  · have : ∀ c ∈ 48 :: 120 :: t, 48 ≤ c := by
      intro c hc
      rcases List.mem_cons.mp hc with rfl | hc
      · omega
      · rcases List.mem_cons.mp hc with rfl | hc
        · omega
        · have := hex_ch c (ht c hc); omega
    refine ⟨by simp, fun h => ?_, fun h => ?_, fun h => ?_⟩ <;> (have := this _ h; omega)
theorem good_asc {w : Str} (h : Good w.cps.toList) : Asc w := by
  intro c hc
  rcases h with h | ⟨t, e, ht⟩
  · have := (names_ch _ h).2 c hc; omega
  · rw [e] at hc
    rcases List.mem_cons.mp hc with rfl | hc
    · omega
    · rcases List.mem_cons.mp hc with rfl | hc
      · omega
      · have := hex_ch c (ht c hc); omega
theorem dig_hex : ∀ d < 16, (Nat.digitChar d).toNat ∈ hexCh := by decide
theorem digits_hex (n : Nat) : ∀ c ∈ (Nat.toDigits 16 n).map Char.toNat, c ∈ hexCh := by
  induction n using Nat.strongRecOn with
  | ind n ih =>
    rw [Nat.toDigits_eq_if (by omega)]
    split
    · rename_i h
      intro c hc
      simp only [List.map_cons, List.map_nil, List.mem_singleton] at hc
      rw [hc]; exact dig_hex n h
    · rename_i h
      intro c hc
      rw [List.map_append] at hc
      rcases List.mem_append.mp hc with hc | hc
      · exact ih (n / 16) (by omega) c hc
      · simp only [List.map_cons, List.map_nil, List.mem_singleton] at hc
        rw [hc]; exact dig_hex _ (Nat.mod_lt _ (by omega))
theorem hex_good (n : Nat) : Good (hexOf n).cps.toList := by
  refine .inr ⟨(Nat.toDigits 16 n).map Char.toNat, ?_, digits_hex n⟩
  unfold hexOf baseText
  rw [if_neg (by omega), digS_eq (Nat.toDigits 16 _), Int.natAbs_natCast, Str.cps_append, Str.cps_append, Array.toList_append, Array.toList_append]
  rfl
theorem name_good (i : Nat) : Good (nameOf i).cps.toList := by
  unfold nameOf
  cases hq : flagNames[i]? with
  | none => exact hex_good _
  | some x => exact .inl (List.mem_map.mpr ⟨x, List.mem_of_getElem? hq, rfl⟩)
theorem below_good (n k : Nat) : ∀ w ∈ namesBelow n k, Good w.cps.toList := by
  intro w hw
  unfold namesBelow at hw
  obtain ⟨i, _, rfl⟩ := List.mem_map.mp hw
  exact name_good i
theorem pretty_good (n : Nat) : ∀ w ∈ prettyWords n, Good w.cps.toList := by
  intro w hw
  unfold prettyWords at hw
  split at hw
  · exact below_good _ _ w hw
  · rcases List.mem_append.mp hw with h | h
    · exact below_good _ _ w h
    · rw [List.mem_singleton.mp h]; exact hex_good _
theorem pretty_asc (n : Nat) : AscAll (prettyWords n) := fun w hw => good_asc (pretty_good n w hw)
theorem low_asc (n : Nat) : AscAll (lowWords (bitPlaces n)) := by
  rw [low_words]
  exact fun w hw => good_asc (below_good _ _ w hw)
theorem figT_asc (t : Nat) : Asc (figT t) := by
  unfold figT
  split
  · intro c hc; simp [Str.empty] at hc
  · intro c hc
    have hc' : c ∈ (Nat.toDigits 16 t).map Char.toNat := by simpa [digS] using hc
    have := hex_ch c (digits_hex t c hc')
    omega
theorem match_pretty (n m : Nat) : matchFrom (Txt.join (Str.ofString ", ") (prettyWords m)) (Str.empty :: (prettyWords n ++ [Str.empty])) 0 = decide (withinF (prettyWords n) (prettyWords m) = []) :=
  match_within (fun w hw => good_plain (pretty_good n w hw)) (fun w hw w' hw' o ho => good_two (pretty_good n w hw) (pretty_good n w' hw') (pretty_good m o ho))
end Mine
end
section
theorem Mine.offPsplit : True := by
  w_top off
  trivial
open PySem PySem.W PyProof.Rows PySem.Calls PySem.Spec PyProof.V
set_option maxRecDepth 100000
namespace Mine
open Builtin Builtin.Str StrLaws
def dots : Str := Str.ofString "..."
theorem dots_l : dots.cps.toList = [46, 46, 46] := rfl
def joinD : List (List Nat) → List Nat
  | [] => []
  | [o] => o
  | o :: q :: r => o ++ [46, 46, 46] ++ joinD (q :: r)
theorem join_dots : ∀ ts : List Str, (Str.join dots ts).cps.toList = joinD (ts.map (·.cps.toList))
  | [] => rfl
  | [x] => rfl
  | x :: y :: r => by
    have e : Str.join dots (x :: y :: r) = x ++ dots ++ Str.join dots (y :: r) := rfl
    rw [e, Str.cps_append, Str.cps_append, Array.toList_append, Array.toList_append, join_dots (y :: r), dots_l]
    rfl
theorem at_dot {x : Str} {k : Nat} (h : At x dots x.length k) : k < x.length ∧ x.cps.toList[k]? = some 46 ∧ 46 ∈ x.cps.toList.drop k := by
  have hk : k + 3 ≤ x.length := h.1
  have h2 := (at_iff (by omega)).mp h
  rw [dots_l] at h2
  have h3 : x.cps.toList[k]? = some 46 := by
    obtain ⟨z, hz⟩ := h2
    have : (x.cps.toList.drop k)[0]? = some 46 := by rw [← hz]; rfl
    rwa [List.getElem?_drop, Nat.add_zero] at this
  exact ⟨by omega, h3, h2.subset (.head _)⟩
theorem parts_dots (x : Str) : ∀ (ps : List Str) (p : Str) (a : Nat) (cuts : List Nat) (f : Nat), (∀ q ∈ p :: ps, 46 ∉ q.cps.toList) → a ≤ x.length → x.cps.toList.drop a = joinD ((p :: ps).map (·.cps.toList)) →
    ChainG x dots x.length a cuts f → (∀ k, f ≤ k → ¬ At x dots x.length k) → partsFrom x 3 a cuts = p :: ps
  | [], p, a, cuts, f, hno, ha, hd, hc, hf => by
    have hd' : x.cps.toList.drop a = p.cps.toList := hd
    have hlen : x.length = x.cps.toList.length := by simp [Str.length]
    cases cuts with
    | nil =>
      show [strSub x a x.length] = [p]
      congr 1
      apply Str.ext'
      apply Array.toList_inj.mp
      rw [strSub_toList, hd']
      refine List.take_of_length_le ?_
      rw [← hd', List.length_drop]; omega
    | cons c r =>
      exfalso
      obtain ⟨h1, h2, _⟩ := hc
      have h3 := (at_dot h2).2.2
      refine hno p (.head _) ?_
      rw [← hd', show c = a + (c - a) by omega] at *
      rw [← List.drop_drop] at h3
      exact List.mem_of_mem_drop h3
  | q :: ps, p, a, cuts, f, hno, ha, hd, hc, hf => by
    have hlen : x.length = x.cps.toList.length := by simp [Str.length]
    have hd' : x.cps.toList.drop a = p.cps.toList ++ ([46, 46, 46] ++ joinD ((q :: ps).map (·.cps.toList))) := by
      rw [hd]
      show p.cps.toList ++ [46, 46, 46] ++ joinD _ = _
      rw [List.append_assoc]; rfl
    have hsz : a + p.cps.toList.length + 3 ≤ x.length := by
      have := congrArg List.length hd'
      simp only [List.length_drop, List.length_append, List.length_cons, List.length_nil] at this
      omega
    have hd2 : x.cps.toList.drop (a + p.cps.toList.length) = [46, 46, 46] ++ joinD ((q :: ps).map (·.cps.toList)) := by
      rw [← List.drop_drop, hd', List.drop_left]
    have hat : At x dots x.length (a + p.cps.toList.length) := (at_iff (by omega)).mpr (by rw [hd2, dots_l]; exact List.prefix_append _ _)
    cases cuts with
    | nil =>
      exfalso
      have e : f = a := hc
      exact hf _ (by omega) hat
    | cons c r =>
      obtain ⟨h1, h2, h3, h4⟩ := hc
      have hc1 : c ≤ a + p.cps.toList.length := by
        refine Nat.le_of_not_lt fun h => h3 _ (by omega) h hat
      have hc2 : c = a + p.cps.toList.length := by
        refine Nat.le_antisymm hc1 (Nat.le_of_not_lt fun h => ?_)
        have h5 := (at_dot h2).2.1
        have h6 : (x.cps.toList.drop a)[c - a]? = some 46 := by rw [List.getElem?_drop, show a + (c - a) = c by omega]; exact h5
        rw [hd', List.getElem?_append_left (by omega)] at h6
        exact hno p (.head _) (List.mem_of_getElem? h6)
      subst hc2
      show strSub x a _ :: partsFrom x 3 (a + p.cps.toList.length + 3) r = p :: q :: ps
      congr 1
      · apply Str.ext'
        apply Array.toList_inj.mp
        rw [strSub_toList, hd', show a + p.cps.toList.length - a = p.cps.toList.length by omega, List.take_left]
      · refine parts_dots x ps q _ r f (fun u hu => hno u (.tail _ hu)) hsz ?_ h4 hf
        rw [← List.drop_drop, hd2]; rfl
theorem split_dots (p : Str) (ps : List Str) (hno : ∀ q ∈ p :: ps, 46 ∉ q.cps.toList) : Txt.split (Str.join dots (p :: ps)) dots = p :: ps := by
  have hd : (Str.join dots (p :: ps)).cps.toList = joinD ((p :: ps).map (·.cps.toList)) := join_dots _
  generalize Str.join dots (p :: ps) = x at hd
  obtain ⟨f, hch, hf⟩ := occ_tight x dots (by decide)
  have hparts := parts_dots x ps p 0 _ f hno (Nat.zero_le _) (by rw [List.drop_zero]; exact hd) hch hf
  unfold Txt.split
  have hone : x = strSub x 0 x.length := (sub_whole x).symm
  have hk : Str.strKind dots = 1 := by
    unfold Str.strKind
    rw [if_pos (by decide +kernel)]
  have hk2 : 1 ≤ Str.strKind x := by
    unfold Str.strKind
    split
    · exact Nat.le_refl _
    · split <;> omega
  have hnil : ∀ {cuts : List Nat}, cuts = [] → partsFrom x 3 0 cuts = p :: ps → [x] = p :: ps := by
    rintro _ rfl h
    rw [← h]
    show [x] = [strSub x 0 x.length]
    rw [← hone]
  by_cases h1 : x.length < dots.length
  · rw [if_pos (by simp [h1])]
    cases hcu : occurrences x dots 0 x.length (x.length + 1) with
    | nil => exact hnil hcu hparts
    | cons c r =>
      exfalso
      rw [hcu] at hch
      have := hch.2.1.1
      omega
  · rw [if_neg (by simp [h1, hk]; omega)]
    split
    · rename_i h2
      exact hnil (List.isEmpty_iff.mp h2) hparts
    · rw [partsBetween_eq]
      exact hparts
theorem join_cons (sep x y : Str) (r : List Str) : Str.join sep (x :: y :: r) = x ++ sep ++ Str.join sep (y :: r) := rfl
theorem join_snoc_empty (sep : Str) : ∀ (x : Str) (r : List Str), Str.join sep (x :: (r ++ [Str.empty])) = Str.join sep (x :: r) ++ sep
  | x, [] => by
    show x ++ sep ++ Str.empty = x ++ sep
    rw [Str.append_empty]
  | x, y :: r => by
    show x ++ sep ++ Str.join sep (y :: (r ++ [Str.empty])) = x ++ sep ++ Str.join sep (y :: r) ++ sep
    rw [join_snoc_empty sep y r, Str.append_assoc, Str.append_assoc, Str.append_assoc]
/-- the pattern that the law asks with -/
def wantOf (ws : List Str) : Str := dots ++ Txt.join dots ws ++ dots
theorem want_join {ws : List Str} (h : ws ≠ []) : wantOf ws = Str.join dots (Str.empty :: (ws ++ [Str.empty])) := by
  unfold wantOf
  rw [show Txt.join dots ws = Str.join dots ws from glued_eq_join _ _]
  cases ws with
  | nil => exact absurd rfl h
  | cons x r =>
    show _ = Str.empty ++ dots ++ Str.join dots (x :: (r ++ [Str.empty]))
    rw [Str.empty_append, join_snoc_empty, Str.append_assoc]
theorem want_split {ws : List Str} (h : ws ≠ []) (hg : ∀ w ∈ ws, Good w.cps.toList) : Txt.split (wantOf ws) (Str.ofString "...") = Str.empty :: (ws ++ [Str.empty]) := by
  rw [want_join h]
  refine split_dots _ _ fun q hq => ?_
  have he : 46 ∉ Str.empty.cps.toList := by decide
  rcases List.mem_cons.mp hq with rfl | hq
  · exact he
  · rcases List.mem_append.mp hq with hq | hq
    · exact (good_plain (hg q hq)).2.2.2
    · rw [List.mem_singleton.mp hq]; exact he
theorem want_in (ws : List Str) : (occurrences (wantOf ws) (Str.ofString "...") 0 (wantOf ws).length 1).isEmpty = false := by
  have h := (found_iff (wantOf ws) dots).mpr ⟨0, by unfold wantOf; rw [Str.length_append, Str.length_append]; omega, by
    rw [subAt_eq]
    unfold wantOf
    rw [Str.cps_append, Str.cps_append, Array.toList_append, Array.toList_append, dots_l]
    rfl⟩
  rw [Bool.not_eq_true'] at h
  exact h
theorem pretty_ne (n : Nat) : prettyWords n ≠ [] := by
  unfold prettyWords
  split
  · rename_i h; exact low_nil h.1 h.2
  · simp
theorem join_len (sep : Str) (ts : List Str) : (Txt.join sep ts).length ≤ (ts.map (·.length)).sum + ts.length * sep.length := by
  rw [show Txt.join sep ts = Str.join sep ts from glued_eq_join _ _]
  exact join_length_le sep ts
theorem pretty_sum {n : Nat} (hn : n < 2 ^ 48) : ((prettyWords n).map (·.length)).sum ≤ 660 := by
  have h1 := sum_len (pretty_all hn)
  have h2 := pretty_count (n := n)
  omega
theorem line_len {n : Nat} (hn : n < 2 ^ 48) : (Txt.join (Str.ofString ", ") (prettyWords n)).length ≤ 1000 := by
  have h1 := pretty_sum hn
  have h2 := pretty_count (n := n)
  have h3 := join_len (Str.ofString ", ") (prettyWords n)
  have h4 : (Str.ofString ", ").length = 2 := rfl
  rw [h4] at h3
  omega
theorem want_mid {n : Nat} (hn : n < 2 ^ 48) : (Txt.join dots (prettyWords n)).length ≤ 900 := by
  have h1 := pretty_sum hn
  have h2 := pretty_count (n := n)
  have h3 := join_len dots (prettyWords n)
  have h4 : dots.length = 3 := rfl
  rw [h4] at h3
  omega
theorem want_len {n : Nat} (hn : n < 2 ^ 48) : (wantOf (prettyWords n)).length ≤ 1000 := by
  have h1 := want_mid hn
  unfold wantOf
  have h4 : dots.length = 3 := rfl
  rw [Str.length_append, Str.length_append, h4]
  omega
theorem kind_true {n : Nat} (hn : n < 2 ^ 48) : (decide (decide ((n : Int) < 256) = (kindDue (bitPlaces n)).1 ∧ decide ((n : Int) ≥ 256) = (kindDue (bitPlaces n)).2.1 ∧ ((n : Int) == 0) = (kindDue (bitPlaces n)).2.2)) = true := by
  have hany : (bitPlaces n).any (fun p => decide (p > 7)) = decide (n ≥ 256) := by
    rw [Bool.eq_iff_iff, List.any_eq_true, decide_eq_true_eq]
    constructor
    · rintro ⟨p, hp, h7⟩
      unfold bitPlaces at hp
      obtain ⟨k, hk, rfl⟩ := List.mem_map.mp hp
      have h8 : 8 ≤ k := by
        have := of_decide_eq_true h7
        have : (k : Int) > 7 := this
        omega
      have hb := (List.mem_filter.mp hk).2
      have : 2 ^ k ≤ n := Nat.ge_two_pow_of_testBit hb
      exact Nat.le_trans (Nat.pow_le_pow_right (n := 2) (by omega) h8) this
    · intro h
      by_cases he : ∃ k, 8 ≤ k ∧ n.testBit k = true
      · obtain ⟨k, h8, hb⟩ := he
        have hk48 : k < 48 := by
          refine Nat.lt_of_not_le fun h48 => ?_
          have : n.testBit k = false := Nat.testBit_lt_two_pow (Nat.lt_of_lt_of_le hn (Nat.pow_le_pow_right (by omega) h48))
          rw [this] at hb; cases hb
        refine ⟨Int.ofNat k, List.mem_map.mpr ⟨k, List.mem_filter.mpr ⟨List.mem_range.mpr hk48, hb⟩, rfl⟩, decide_eq_true ?_⟩
        show (k : Int) > 7
        omega
      · exfalso
        have : n < 2 ^ 8 := Nat.lt_pow_two_of_testBit n fun i hi => by
          cases hb : n.testBit i with
          | false => rfl
          | true => exact absurd ⟨i, hi, hb⟩ he
        omega
  have hnil : (bitPlaces n = []) ↔ n = 0 := by
    constructor
    · intro h
      apply Nat.eq_of_testBit_eq
      intro i
      rw [Nat.zero_testBit]
      cases hb : n.testBit i with
      | false => rfl
      | true =>
        exfalso
        have hi : i < 48 := by
          refine Nat.lt_of_not_le fun h48 => ?_
          have : n.testBit i = false := Nat.testBit_lt_two_pow (Nat.lt_of_lt_of_le hn (Nat.pow_le_pow_right (by omega) h48))
          rw [this] at hb; cases hb
        have : Int.ofNat i ∈ bitPlaces n := List.mem_map.mpr ⟨i, List.mem_filter.mpr ⟨List.mem_range.mpr hi, hb⟩, rfl⟩
        rw [h] at this; cases this
    · rintro rfl
      unfold bitPlaces
      rw [List.map_eq_nil_iff, List.filter_eq_nil_iff]
      intro a _
      simp
  unfold kindDue
  rw [hany]
  by_cases h : n ≥ 256
  · rw [decide_eq_true h, if_pos rfl]
    apply decide_eq_true
    refine ⟨decide_eq_false (by omega), decide_eq_true (by omega), ?_⟩
    simp; omega
  · rw [decide_eq_false h, if_neg Bool.false_ne_true]
    apply decide_eq_true
    refine ⟨decide_eq_true (by omega), decide_eq_false (by omega), ?_⟩
    rw [Bool.eq_iff_iff, decide_eq_true_eq, hnil]
    simp
end Mine
end
section
local macro_rules | `(tactic| walk_at "MINE F_law0 0") => `(tactic| skip)
theorem Mine.offFlaw0 : True := by
  w_top off
  trivial
open PySem PySem.W PyProof.Rows PySem.Calls PySem.Spec PyProof.V
set_option maxRecDepth 100000
namespace Mine
local macro_rules | `(tactic| walk_at "exec For Name Call cons nil") => `(tactic| k_dflt ((try k_fold); refine' for_head ?_ ?k; (case k => intro _; exact rfl)))
local macro_rules | `(tactic| walk_at "exec For Tuple Name cons nil") => `(tactic| k_dflt ((try k_fold); refine' for_head ?_ ?k; (case k => intro _; exact rfl)))
set_option hygiene false in
local macro_rules | `(tactic| walk_at "subscriptTail Name Name ref int") => `(tactic| k_dflt ((rename News _ _ _ _ => N5); (refine' item_intTab (dv := PyData.str dots) (TabAt.ofObj hsm (N5 _ (by k_memK)).1 hdi hfp) (by rfl) ?_); intro v' hv'; have hv2 := hv' default; cases hv2; clear hv'))
abbrev Entry := Addr × Nat × Addr × List Value × Nat × Nat × Tok
def entPair (e : Entry) : Addr × Obj := (e.1, listOf #[Value.ref e.2.2.1, .str (Txt.join (Str.ofString ", ") (prettyWords e.2.2.2.2.2.1)) e.2.2.2.2.2.2] e.2.1)
def entWords (e : Entry) : Addr × Obj := (e.2.2.1, listOf e.2.2.2.1.toArray e.2.2.2.2.1)
def entsL (es : List Entry) : List (Addr × Obj) := es.flatMap fun e => [entPair e, entWords e]
def GoodE (e : Entry) : Prop := e.2.2.2.2.2.1 < 2 ^ 48 ∧ StrsAre e.2.2.2.1 (prettyWords e.2.2.2.2.2.1)
def entRefs (es : List Entry) : List Value := es.map fun e => Value.ref e.1
theorem post_true (args : List WData) : Challenge.rw_sr0057_01.row.claim.post args (WData.bool true) args = true := by
  refine postW_of (X := true) (by first | rfl | decide) ?_ rfl
  unfold OpenLaw.row
  simp only [WTm.value]
  rw [show same (WData.bool true) (WData.bool true) = true from by first | decide +kernel | simp [W.same]]
theorem nodup_len : ∀ {l r : List Int}, l.Nodup → (∀ x ∈ l, x ∈ r) → l.length ≤ r.length
  | [], _, _, _ => Nat.zero_le _
  | x :: l, r, hn, hs => by
    have h1 := List.nodup_cons.mp hn
    have h2 : l.length ≤ (r.erase x).length := nodup_len h1.2 fun y hy => (List.mem_erase_of_ne (fun e => h1.1 (by rw [← e]; exact hy))).mpr (hs y (.tail _ hy))
    rw [List.length_erase_of_mem (hs x (.head _))] at h2
    have h3 : 0 < r.length := List.length_pos_of_mem (hs x (.head _))
    simp only [List.length_cons]
    omega
theorem places_len {row : List Int} (hr : IsRow row) : (bitPlaces (numOf row)).length ≤ 5 := by
  rw [← hr.1]
  refine nodup_len ((bit_sorted _).imp fun h => Int.ne_of_lt h) fun x hx => ?_
  unfold bitPlaces at hx
  obtain ⟨k, hk, rfl⟩ := List.mem_map.mp hx
  have := (List.mem_filter.mp hk).2
  rw [num_bit] at this
  exact (os_lt _ _ _ hr.2 (of_decide_eq_true this)).2
theorem places_48 (n : Nat) : ∀ p ∈ bitPlaces n, 0 ≤ p ∧ p < 48 := by
  intro p hp
  unfold bitPlaces at hp
  obtain ⟨k, hk, rfl⟩ := List.mem_map.mp hp
  have := List.mem_range.mp (List.mem_filter.mp hk).1
  constructor
  · exact Int.natCast_nonneg k
  · show (k : Int) < 48
    omega
theorem figs_asc {n : Nat} (hn : n < 2 ^ 48) : Asc (figsOf (bitPlaces n)) := by rw [figs_eq hn]; exact figT_asc _
theorem three_get {a b c : Addr} {u1 u2 u3 : List Value} {r1 r2 r3 : List Int} {n1 n2 n3 i : Nat} {v : Value} (h : [Value.ref a, .ref b, .ref c][i]? = some v) (h1 : IntsAre u1 r1) (h2 : IntsAre u2 r2) (h3 : IntsAre u3 r3) (g1 : IsRow r1) (g2 : IsRow r2) (g3 : IsRow r3) :
    ∃ r us row n, v = .ref r ∧ IntsAre us row ∧ IsRow row ∧ (r, listOf us.toArray n) ∈ [(a, listOf u1.toArray n1), (b, listOf u2.toArray n2), (c, listOf u3.toArray n3)] := by
  match i, h with
  | 0, h => cases h; exact ⟨a, u1, r1, n1, rfl, h1, g1, .head _⟩
  | 1, h => cases h; exact ⟨b, u2, r2, n2, rfl, h2, g2, .tail _ (.head _)⟩
  | 2, h => cases h; exact ⟨c, u3, r3, n3, rfl, h3, g3, .tail _ (.tail _ (.head _))⟩
theorem tabN {w : World} {h₀ h : Heap} {L d : Addr} {od : Obj} {kvs : List (Int × Value)} {news : List (Addr × Obj)} (N : News h₀ L h news) (hm : (d, od) ∈ news) (hsm : (d == sysModules) = false) (hdi : od.IsDictOf (intKind prg w) kvs) (hfp : FlatPairs PyData.int kvs (signsTo 48)) : IntTab prg w h d (signsTo 48) :=
  TabAt.ofObj hsm (N _ hm).1 hdi hfp
theorem mem3 {α : Type} {x y z q : α} {E T : List α} (h : q ∈ x :: y :: z :: (E ++ T)) : q ∈ [x, y, z] ++ E ∨ q ∈ T := List.mem_append.mp (show q ∈ ([x, y, z] ++ E) ++ T by simpa using h)
theorem ents_snoc (es : List Entry) (e : Entry) : entsL (es ++ [e]) = entsL es ++ [entPair e, entWords e] := by simp [entsL]
theorem refs_snoc (es : List Entry) (e : Entry) : entRefs (es ++ [e]) = entRefs es ++ [Value.ref e.1] := by simp [entRefs]
/-- a pair of the list shown -/
def PairR (news : List (Addr × Obj)) (es : List Entry) (_ : Nat) (a b : Value) : Prop := ∃ e ∈ es, a = .ref e.2.2.1 ∧ b = .str (Txt.join (Str.ofString ", ") (prettyWords e.2.2.2.2.2.1)) e.2.2.2.2.2.2 ∧ entWords e ∈ news
theorem pair_all {es : List Entry} {news : List (Addr × Obj)} (h : ∀ q ∈ entsL es, q ∈ news) (i : Nat) (v : Value) (hv : (entRefs es)[i]? = some v) : ∃ (p : Addr) (a b : Value) (n : Nat), v = Value.ref p ∧ (p, listOf #[a, b] n) ∈ news ∧ PairR news es i a b := by
  obtain ⟨e, he, rfl⟩ := List.mem_map.mp (List.mem_of_getElem? hv)
  exact ⟨e.1, _, _, e.2.1, rfl, h _ (List.mem_flatMap.mpr ⟨e, he, .head _⟩), e, he, rfl, rfl, h _ (List.mem_flatMap.mpr ⟨e, he, .tail _ (.head _)⟩)⟩
def LawPost (v : Value) (_ _ : Heap) : Prop := v = .bool true
set_option Elab.async true in
set_option maxRecDepth 100000 in
set_option maxHeartbeats 8000000 in
theorem law0 : PySem.Challenge.rw_sr0057_01.Holds := by
  w_on
  o_law
  k_head
  case hw => w_witness2
  w_top off
  k_fill
  intro w s₀ s₁ mg mb G Y fa o pm cd doc dV kV ho hd hcd hD hmg hg args vals as hpre hlay hrd hwl hlo
  have KX0 := kIn_of Y
  have KX : (Mine.hd0.heap_1_1 w.params).In s₁.heap := KX0
  refine Ground.open G ?_
  intro T B D TE TW
  try (refine guard_noD D (by decide +kernel) ?_; clear D)
  obtain ⟨_, _, M⟩ := bmod_of_top T
  have TA := at_of_top T
  try (obtain ⟨_, _, he, B0⟩ := based_of_top T rfl hmg ho hd; have he' : cd = _ := he; subst he'; clear he)
  clear hmg
  wrow_args hpre hlay hrd hwl hlo
  refine enter_call ?_
  w_top on
  w_call any ho hd hcd hD T F
  clear hd TA G Y hcd hD B TE TW M ho KX0
  k_drop
  have T0 := T
  clear T
  have T : Top Mine.hd0.view_1_2 _ _ _ _ _ := T0
  clear T0
  rename News _ _ _ _ => N
  rename IntsAre _ _ => hi
  rename Heap.IsList _ _ _ => hl
  rename ¬ (_ < _) => hlen
  refine wpAny_mono (Q := fun fl s' => SpecEnd s₁ LawPost (.ok (.ret (match fl with | .ret v => v | _ => .none))) s') (E := noE) ?walk ?good (fun _ _ e => e.elim)
  case good =>
    rintro fl s' ⟨v, hv, he, hos, hgs, hp⟩
    have hp2 : v = .bool true := hp
    subst hp2
    cases fl <;> first | (cases hv; done) | skip
    cases hv
    refine ⟨.inl ⟨.bool true, .bool true, [], rfl, fun _ => rfl, .bool true, ?_, ?_⟩, .of_keep he, hos, hgs⟩
    · exact post_true _
    · exact fun _ => ⟨List.nodup_nil, fun _ h => nomatch h⟩
  have hG : AllBare s₁.gens := .of_eq hg
  have hAd : callerA.depth + 100 < recursionLimit := by decide
  have hAu : callerA.units + 2000 < cLine := by decide
  have hAh : callerA.handled = none := rfl
  generalize callerA = A at hAd hAu hAh ⊢
  obtain ⟨hd0, dp, fr, gd, un⟩ := A
  dsimp only at hAd hAu hAh
  subst hAh
  k_steps
  ((rename Fr _ _ _ _ => F0); (rename News _ _ _ _ => N0); (refine' SpecF.call (sp_signs (w := w)) ?kX48 ?kT48 F0 N0 ?kh48 ?kd48 ?ku48 ?kG48 ?kp48 ?_); (case kX48 => assumption); (case kT48 => assumption); (case kh48 => first | assumption | rfl); (case kd48 => simp only [depth_deeper, depth_in1]; omega); (case ku48 => simp only [Around.deeper_units, Around.in1_units]; omega); (case kG48 => assumption))
  · trivial
  rintro _ sA ⟨d, od, kvs, rfl, hnd, hsm, hdi, hfp⟩ heA FA NA hosA hgA
  replace NA := newsAdd F0 NA hnd.1 hnd.2
  clear F0 N0
  k_steps
  rename_i S hp1 hdS hp2 FS NS
  clear hp1
  ((rename Fr _ _ _ _ => F0); (rename News _ _ _ _ => N0); (refine' SpecF.call (sp_rows (w := w) hi (by omega)) ?kX49 ?kT49 F0 N0 ?kh49 ?kd49 ?ku49 ?kG49 ?kp49 ?_); (case kX49 => assumption); (case kT49 => assumption); (case kh49 => first | assumption | rfl); (case kd49 => simp only [depth_deeper, depth_in1]; omega); (case ku49 => simp only [Around.deeper_units, Around.in1_units]; omega); (case kG49 => assumption))
  · exact Fr.lst F0 hl
  rintro _ sB ⟨D, a, b, c, u1, u2, u3, r1, r2, r3, n0, n1, n2, n3, rfl, hu1, hu2, hu3, hr1, hr2, hr3, hD, ha, hb, hc⟩ heB FB NB hosB hgB
  have hSS : ∀ x o, NewAt hp2 sB.heap x o → x ≠ S := by
    rintro x o ⟨_, h2⟩ rfl
    rw [(N0 _ (.head _)).1] at h2
    cases h2
  replace NB := newsAdd F0 (newsAdd F0 (newsAdd F0 (newsAdd F0 NB ha.1 ha.2) hb.1 hb.2) hc.1 hc.2) hD.1 hD.2
  clear F0 N0
  have N4 : News s₁.heap s₁.heap.objs.size sB.heap ((S, listOf (entRefs []).toArray 0) :: (D, listOf [Value.ref a, Value.ref b, Value.ref c].toArray n0) :: (d, od) :: ([(a, listOf u1.toArray n1), (b, listOf u2.toArray n2), (c, listOf u3.toArray n3)] ++ entsL [])) := newsSub NB (by
      intro p hp
      rw [show entsL [] = [] from rfl, List.append_nil] at hp
      simp only [List.mem_cons, List.not_mem_nil, or_false] at hp
      rcases hp with rfl | rfl | rfl | rfl | rfl | rfl
      · exact .tail _ (.tail _ (.tail _ (.tail _ (.head _))))
      · exact .head _
      · exact .tail _ (.tail _ (.tail _ (.tail _ (.tail _ (.head _)))))
      · exact .tail _ (.tail _ (.tail _ (.head _)))
      · exact .tail _ (.tail _ (.head _))
      · exact .tail _ (.head _))
  refine iter_listS (σ := List Entry × Nat) (vs := [Value.ref a, Value.ref b, Value.ref c]) (fun es => (S, listOf (entRefs es.1).toArray es.2) :: (D, listOf [Value.ref a, Value.ref b, Value.ref c].toArray n0) :: (d, od) :: ([(a, listOf u1.toArray n1), (b, listOf u2.toArray n2), (c, listOf u3.toArray n3)] ++ entsL es.1)) (fun _ => []) [Str.ofString "row", Str.ofString "number", Str.ofString "places", Str.ofString "words"]
    (fun i es => (∀ e ∈ es.1, GoodE e) ∧ es.1.length = i ∧ ∀ p ∈ [(a, listOf u1.toArray n1), (b, listOf u2.toArray n2), (c, listOf u3.toArray n3)] ++ entsL es.1, p.1 ≠ S) ([], 0) rfl (N4.isList (.tail _ (.head _))) (N4 _ (.tail _ (.head _))).2.1 (.inr ⟨_, fun _ => .tail _ (.head _)⟩) FB N4 hgB rfl ⟨(fun _ h => nomatch h), rfl, ?_⟩ (by kst_all) rfl rfl ?_ ?_
  · intro p hp
    rw [show entsL [] = [] from rfl, List.append_nil] at hp
    simp only [List.mem_cons, List.not_mem_nil, or_false] at hp
    rcases hp with rfl | rfl | rfl
    · exact hSS _ _ ha
    · exact hSS _ _ hb
    · exact hSS _ _ hc
  · rintro i v ⟨es, kS⟩ u s₂ own hv ⟨hes, hei, hne⟩ hoff F3 N3 hos3 hg3
    dsimp only at hes hei hne hoff N3 F3
    obtain ⟨r, us, row, nr, rfl, hus, hrow, hmem⟩ := three_get (n1 := n1) (n2 := n2) (n3 := n3) hv hu1 hu2 hu3 hr1 hr2 hr3
    simp only [List.cons_append, List.nil_append] at N3
    dsimp only [kstB] at F3
    have hmR : (r, listOf us.toArray nr) ∈ (a, listOf u1.toArray n1) :: (b, listOf u2.toArray n2) :: (c, listOf u3.toArray n3) :: (entsL es ++ own) := List.mem_append_left (bs := entsL es ++ own) hmem
    obtain ⟨tl, htl⟩ : ∃ tl, tl = (a, listOf u1.toArray n1) :: (b, listOf u2.toArray n2) :: (c, listOf u3.toArray n3) :: (entsL es ++ own) := ⟨_, rfl⟩
    rw [← htl] at N3 hmR
    have hn48 : numOf row < 2 ^ 48 := num_lt hrow.2
    have hol : (osOf false row).length ≤ 100 := Nat.le_trans (os_len _ _) (by rw [hrow.1]; omega)
    have hsl : (stripOf (textOf row)).length ≤ 1000 := Nat.le_trans (strip_len _) (Nat.le_trans (text_len hrow.1) (by omega))
    clear NB N4 FB
    k_steps
    ((rename Fr _ _ _ _ => F5); (rename News _ _ _ _ => N5); (refine' SpecF.call (sp_number hus hrow (text_words hrow) (fun k h => (os_lt _ _ _ hrow.2 h).1) hol hsl) ?kX50 ?kT50 F5 N5 ?kh50 ?kd50 ?ku50 ?kG50 ?kp50 ?_); (case kX50 => assumption); (case kT50 => assumption); (case kh50 => first | assumption | rfl); (case kd50 => simp only [depth_deeper, depth_in1]; omega); (case ku50 => simp only [Around.deeper_units, Around.in1_units]; omega); (case kG50 => assumption))
    · exact ⟨N5.isList (by repeat' first | exact hmR | apply List.Mem.tail), tabN N5 (by repeat' first | exact .head _ | apply List.Mem.tail) hsm hdi hfp⟩
    rintro _ s5 ⟨t5, rfl⟩ he5 F6 N6 hos5 hg5
    clear F5 N5
    rw [show (osOf false row).foldl orStep 0 = numOf row from rfl]
    obtain ⟨n, hnn⟩ : ∃ n, n = numOf row := ⟨_, rfl⟩
    have hpl5 := places_len hrow
    rw [← hnn] at hn48 hpl5 ⊢
    k_steps
    ((rename Fr _ _ _ _ => F5); (rename News _ _ _ _ => N5); (refine' SpecF.call (sp_places (w := w) hus hrow.1) ?kX51 ?kT51 F5 N5 ?kh51 ?kd51 ?ku51 ?kG51 ?kp51 ?_); (case kX51 => assumption); (case kT51 => assumption); (case kh51 => first | assumption | rfl); (case kd51 => simp only [depth_deeper, depth_in1]; omega); (case ku51 => simp only [Around.deeper_units, Around.in1_units]; omega); (case kG51 => assumption))
    · exact N5.isList (by repeat' first | exact hmR | apply List.Mem.tail)
    rintro _ s6 ⟨Dp, up, np, kp, rfl, hip, hpw, hpm, hnp⟩ he6 F7 N7 hos6 hg6
    replace N7 := newsAdd F5 N7 hnp.1 hnp.2
    have hpe : np = bitPlaces n := by rw [hnn]; exact places_eq hrow.2 hpw hpm
    subst hpe
    clear F5 N5 hpw hpm
    k_steps
    ((rename Fr _ _ _ _ => F5); (rename News _ _ _ _ => N5); (refine' SpecF.call (sp_words (w := w) hip hpl5 (places_48 n) (low_asc n) (figs_asc hn48) (fig_all n)) ?kX52 ?kT52 F5 N5 ?kh52 ?kd52 ?ku52 ?kG52 ?kp52 ?_); (case kX52 => assumption); (case kT52 => assumption); (case kh52 => first | assumption | rfl); (case kd52 => simp only [depth_deeper, depth_in1]; omega); (case ku52 => simp only [Around.deeper_units, Around.in1_units]; omega); (case kG52 => assumption))
    · exact N5.isList (by repeat' first | exact .head _ | apply List.Mem.tail)
    rintro _ s7 ⟨Dw, uw, kw, rfl, hsw, hnw⟩ he7 F8 N8 hos7 hg7
    have hDW : ∀ p ∈ (Dp, listOf up.toArray kp) :: (S, listOf (entRefs es).toArray kS) :: (D, listOf [Value.ref a, Value.ref b, Value.ref c].toArray n0) :: (d, od) :: tl, p.1 ≠ Dw := by
      intro p hp e
      have h1 := (N5 p hp).1
      rw [e, hnw.2] at h1
      cases h1
    replace N8 := newsAdd F5 N8 hnw.1 hnw.2
    rw [words_eq hn48] at hsw
    clear F5 N5
    k_steps
    ((rename Fr _ _ _ _ => F5); (rename News _ _ _ _ => N5); (refine' SpecF.call (sp_pretty (w := w) (t := t5) hn48) ?kX53 ?kT53 F5 N5 ?kh53 ?kd53 ?ku53 ?kG53 ?kp53 ?_); (case kX53 => assumption); (case kT53 => assumption); (case kh53 => first | assumption | rfl); (case kd53 => simp only [depth_deeper, depth_in1]; omega); (case ku53 => simp only [Around.deeper_units, Around.in1_units]; omega); (case kG53 => assumption))
    · trivial
    rintro _ s8 ⟨t8, rfl⟩ he8 F9 N9 hos8 hg8
    clear F5 N5
    k_steps
    ((rename Fr _ _ _ _ => F5); (rename News _ _ _ _ => N5))
    refine join_listW (N5.isList (.head _)) (by rw [List.toList_toArray]; exact hsw) (by decide) (pretty_weight hn48) ?_
    intro t9 k9
    k_steps
    · rename (Txt.join _ _ != Txt.join _ _) = true => hq
      simp at hq
    ((rename Fr _ _ _ _ => F5); (rename News _ _ _ _ => N5); (refine' SpecF.call (sp_kind (w := w) (n := (n : Int)) (t := t5) hip) ?kX54 ?kT54 F5 N5 ?kh54 ?kd54 ?ku54 ?kG54 ?kp54 ?_); (case kX54 => assumption); (case kT54 => assumption); (case kh54 => first | assumption | rfl); (case kd54 => simp only [depth_deeper, depth_in1]; omega); (case ku54 => simp only [Around.deeper_units, Around.in1_units]; omega); (case kG54 => assumption))
    · exact N5.isList (by repeat' first | exact .head _ | apply List.Mem.tail)
    rintro _ s9 rfl he9 F10 N10 hos9 hg9
    rw [kind_true hn48]
    clear F5 N5
    k_steps
    ((rename Fr _ _ _ _ => F5); (rename News _ _ _ _ => N5); (refine' SpecF.call (sp_pretty (w := w) (t := t5) hn48) ?kX55 ?kT55 F5 N5 ?kh55 ?kd55 ?ku55 ?kG55 ?kp55 ?_); (case kX55 => assumption); (case kT55 => assumption); (case kh55 => first | assumption | rfl); (case kd55 => simp only [depth_deeper, depth_in1]; omega); (case ku55 => simp only [Around.deeper_units, Around.in1_units]; omega); (case kG55 => assumption))
    · trivial
    rintro _ s10 ⟨t10, rfl⟩ he10 F11 N11 hos10 hg10
    clear F5 N5
    k_steps
    rename_i P hpq FP NP hlt
    have hin : ∀ q ∈ own, q ∈ tl := fun q hq => htl ▸ .tail _ (.tail _ (.tail _ (List.mem_append_right _ hq)))
    have htS : ∀ q ∈ tl, q.1 ≠ S := by
      intro q hq
      rw [htl] at hq
      rcases List.mem_append.mp (show q ∈ ([(a, listOf u1.toArray n1), (b, listOf u2.toArray n2), (c, listOf u3.toArray n3)] ++ entsL es) ++ own by simpa using hq) with h | h
      · exact hne q h
      · exact hoff q h S (.head _)
    have NQ : News s₁.heap s₁.heap.objs.size hpq ((S, listOf (entRefs es).toArray kS) :: ((P, listOf #[Value.ref Dw, Value.str (Txt.join (Str.ofString ", ") (prettyWords n)) t10] 0) :: (Dw, listOf uw.toArray kw) :: (D, listOf [Value.ref a, Value.ref b, Value.ref c].toArray n0) :: (d, od) :: tl)) := newsSub NP (by
      intro q hq
      rcases List.mem_cons.mp hq with rfl | hq
      · exact .tail _ (.tail _ (.tail _ (.head _)))
      rcases List.mem_cons.mp hq with rfl | hq
      · exact .head _
      rcases List.mem_cons.mp hq with rfl | hq
      · exact .tail _ (.head _)
      · exact .tail _ (.tail _ (.tail _ (.tail _ hq))))
    refine app_head FP NQ ?_ ?_ ?_
    · intro q hq
      rcases List.mem_cons.mp hq with rfl | hq
      · exact Nat.ne_of_gt hlt.2.2.1
      rcases List.mem_cons.mp hq with rfl | hq
      · exact (hDW _ (.tail _ (.head _))).symm
      rcases List.mem_cons.mp hq with rfl | hq
      · exact hSS _ _ hD
      rcases List.mem_cons.mp hq with rfl | hq
      · exact Nat.ne_of_lt hdS
      · exact htS q hq
    · have h1 : i < 3 := (List.getElem?_eq_some_iff.mp hv).1
      show (es.map _).length ≤ 1000
      rw [List.length_map, hei]; omega
    clear FP NP
    intro hR FR NR
    k_steps
    ((rename Fr _ _ _ _ => F8); (rename News _ _ _ _ => N8))
    refine TurnOk.mk (es ++ [(P, 0, Dw, uw, kw, n, t10)], kS + 1) F8 N8 ⟨?_, ?_, ?_⟩ ?_ ?_ ?_ ?_ ?_ ?_ hg10
    · intro e he
      rcases List.mem_append.mp he with h | h
      · exact hes e h
      · rw [List.mem_singleton.mp h]; exact ⟨hn48, hsw⟩
    · simp [hei]
    · intro q hq
      rw [ents_snoc] at hq
      rcases mem3 hq with h | h
      · exact hne q h
      · rcases List.mem_cons.mp h with rfl | h
        · exact Nat.ne_of_gt hlt.2.2.1
        · rw [List.mem_singleton.mp h]
          exact (hDW _ (.tail _ (.head _))).symm
    · intro q hq
      dsimp only at hq
      rcases List.mem_cons.mp hq with rfl | hq
      · rw [refs_snoc]
        exact .head _
      rcases List.mem_cons.mp hq with rfl | hq
      · exact .tail _ (.tail _ (.tail _ (.head _)))
      rcases List.mem_cons.mp hq with rfl | hq
      · exact .tail _ (.tail _ (.tail _ (.tail _ (.head _))))
      rw [ents_snoc] at hq
      rcases mem3 hq with h | h
      · refine .tail _ (.tail _ (.tail _ (.tail _ (.tail _ ?_))))
        rw [htl]
        rcases List.mem_append.mp h with h | h
        · exact List.mem_append_left (bs := entsL es ++ own) h
        · exact .tail _ (.tail _ (.tail _ (List.mem_append_left _ h)))
      · rcases List.mem_cons.mp h with rfl | h
        · exact .tail _ (.head _)
        · rw [List.mem_singleton.mp h]
          exact .tail _ (.tail _ (.head _))
    · exact fun q hq => .tail _ (.tail _ (.tail _ (.tail _ (.tail _ (hin q hq)))))
    · intro q hq b hb
      obtain ⟨z, hz, rfl⟩ := List.mem_map.mp hb
      dsimp only at hz
      rcases List.mem_cons.mp hz with rfl | hz
      · exact hoff q hq _ (.head _)
      rcases List.mem_cons.mp hz with rfl | hz
      · exact hoff q hq _ (.tail _ (.head _))
      rcases List.mem_cons.mp hz with rfl | hz
      · exact hoff q hq _ (.tail _ (.tail _ (.head _)))
      rw [ents_snoc] at hz
      rcases mem3 hz with h | h
      · exact hoff q hq _ (List.mem_map.mpr ⟨z, .tail _ (.tail _ (.tail _ h)), rfl⟩)
      · rcases List.mem_cons.mp h with rfl | h
        · exact Nat.ne_of_lt (kst_ltOf hlt.2.2.2.2.2 q (hin q hq))
        · rw [List.mem_singleton.mp h]
          exact hDW _ (.tail _ (.tail _ (.tail _ (.tail _ (hin q hq)))))
    · exact fun _ h => nomatch h
    · (intro z h3; (try dsimp only [kstB]); (repeat (first | with_reducible rfl | refine off_st h3 ?_ | refine off_sub (by first | rfl | decide) h3 ?_ | refine off_ite (by first | rfl | decide) h3 ?_ | refine off_same ?_)); done)
    · exact hos10.trans (hos9.trans (hos8.trans (hos7.trans (hos6.trans (hos5.trans hos3)))))
  · rintro ⟨es, kS⟩ u s₂ ⟨hes, hei, hne⟩ F3 N3 hos3 hg3
    dsimp only [kstB] at hes hei hne N3 F3
    clear NB N4 FB
    k_steps
    refine iter_pairs (vs := entRefs es) (lo := listOf (entRefs es).toArray kS) [Str.ofString "own", Str.ofString "flags", Str.ofString "want", Str.ofString "others", Str.ofString "line", Str.ofString "told"] rfl (N3.isList (.head _)) (N3 _ (.head _)).2.1 (.head _) F3 N3 hg3 rfl
      (PairR _ es) (pair_all fun q hq => .tail _ (.tail _ (.tail _ (List.mem_append_right _ hq)))) rfl rfl rfl ?_ ?_
    · rintro i _ _ u4 s4 own ⟨e, he, rfl, rfl, hwn⟩ hoff F4 N4 hos4 hg4
      obtain ⟨pA, pk, wA, wus, wk, m, tm⟩ := e
      have hge : m < 2 ^ 48 ∧ StrsAre wus (prettyWords m) := hes _ he
      obtain ⟨hm48, hmw⟩ := hge
      dsimp only at F4
      have hwn4 := List.mem_append_left own hwn
      obtain ⟨nw, hnw⟩ : ∃ nw, nw = ((S, listOf (entRefs es).toArray kS) :: (D, listOf [Value.ref a, Value.ref b, Value.ref c].toArray n0) :: (d, od) :: ([(a, listOf u1.toArray n1), (b, listOf u2.toArray n2), (c, listOf u3.toArray n3)] ++ entsL es)) ++ own := ⟨_, rfl⟩
      rw [← hnw] at N4 hwn4
      have hSn : (S, listOf (entRefs es).toArray kS) ∈ nw := hnw ▸ .head _
      have hEn : ∀ q ∈ entsL es, q ∈ nw := fun q hq => hnw ▸ List.mem_append_left own (.tail _ (.tail _ (.tail _ (List.mem_append_right _ hq))))
      have hLn : ∀ q ∈ ((S, listOf (entRefs es).toArray kS) :: (D, listOf [Value.ref a, Value.ref b, Value.ref c].toArray n0) :: (d, od) :: ([(a, listOf u1.toArray n1), (b, listOf u2.toArray n2), (c, listOf u3.toArray n3)] ++ entsL es)), q ∈ nw := fun q hq => hnw ▸ List.mem_append_left own hq
      have hOn : ∀ q ∈ own, q ∈ nw := fun q hq => hnw ▸ List.mem_append_right _ hq
      have hmid := want_mid hm48
      have hd3 : dots.length = 3 := rfl
      k_steps
      ((rename Fr _ _ _ _ => F5); (rename News _ _ _ _ => N5))
      refine join_listW (N5.isList hwn4) (by rw [List.toList_toArray]; exact hmw) (by decide) (pretty_weight hm48) ?_
      intro t5 k5
      k_steps
      ((rename Fr _ _ _ _ => F6); (rename News _ _ _ _ => N6))
      refine iter_pairs (vs := entRefs es) (lo := listOf (entRefs es).toArray kS) [Str.ofString "others", Str.ofString "line", Str.ofString "told"] rfl (N6.isList hSn) (N6 _ hSn).2.1 hSn F6 N6 hg4 rfl
        (PairR _ es) (pair_all hEn) rfl rfl rfl ?_ ?_
      · rintro i2 _ _ u5 s5 own5 ⟨e2, he2, rfl, rfl, hwn2⟩ hoff5 F7 N7 hos5 hg5
        obtain ⟨pA2, pk2, wA2, wus2, wk2, m2, tm2⟩ := e2
        have hge2 : m2 < 2 ^ 48 ∧ StrsAre wus2 (prettyWords m2) := hes _ he2
        obtain ⟨hm48b, hmw2⟩ := hge2
        dsimp only at F7
        clear F6 N6
        have hpc := pretty_count (n := m)
        k_steps
        ((rename Fr _ _ _ _ => F8); (rename News _ _ _ _ => N8); (refine' SpecF.call (sp_match (w := w) (x := wantOf (prettyWords m)) (y := Txt.join (Str.ofString ", ") (prettyWords m2)) (want_len hm48) (line_len hm48b) (by omega) (fun a ha => Nat.le_trans (pretty_all hm48 a ha) (by omega)) (want_in _) (want_split (pretty_ne m) (pretty_good m))) ?kX56 ?kT56 F8 N8 ?kh56 ?kd56 ?ku56 ?kG56 ?kp56 ?_); (case kX56 => assumption); (case kT56 => assumption); (case kh56 => first | assumption | rfl); (case kd56 => simp only [depth_deeper, depth_in1]; omega); (case ku56 => simp only [Around.deeper_units, Around.in1_units]; omega); (case kG56 => assumption))
        · trivial
        rintro _ s6 rfl he6 F9 N9 hos6 hg6
        rw [match_pretty m m2]
        clear F8 N8
        k_steps
        ((rename Fr _ _ _ _ => F8); (rename News _ _ _ _ => N8); (refine' SpecF.call (sp_within (w := w) hmw hmw2 (by omega) (pretty_asc m)) ?kX57 ?kT57 F8 N8 ?kh57 ?kd57 ?ku57 ?kG57 ?kp57 ?_); (case kX57 => assumption); (case kT57 => assumption); (case kh57 => first | assumption | rfl); (case kd57 => simp only [depth_deeper, depth_in1]; omega); (case ku57 => simp only [Around.deeper_units, Around.in1_units]; omega); (case kG57 => assumption))
        · exact ⟨N8.isList (List.mem_append_left _ hwn4), N8.isList (List.mem_append_left _ hwn2)⟩
        rintro _ s7 rfl he7 F10 N10 hos7 hg7
        clear F8 N8
        k_steps
        · rename (decide _ != decide _) = true => hq
          simp at hq
        · ((rename Fr _ _ _ _ => F8); (rename News _ _ _ _ => N8))
          refine ⟨_, _, _, F8, N8, fun q hq => List.mem_append_left _ hq, fun q hq => List.mem_append_right _ hq, hoff5, ⟨rfl, ?_⟩, hos7.trans (hos6.trans hos5), hg7⟩
          (intro z h3; (try dsimp only [kstB]); (repeat (first | with_reducible rfl | refine off_st h3 ?_ | refine off_sub (by first | rfl | decide) h3 ?_ | refine off_ite (by first | rfl | decide) h3 ?_ | refine off_same ?_)); done)
      · intro u5 s5 F7 N7 hos5 hg5
        clear F6 N6
        k_steps
        ((rename Fr _ _ _ _ => F8); (rename News _ _ _ _ => N8))
        refine ⟨_, _, _, F8, N8, hLn, hOn, hoff, ⟨rfl, ?_⟩, hos5.trans hos4, hg5⟩
        (intro z h3; (try dsimp only [kstB]); (repeat (first | with_reducible rfl | refine off_st h3 ?_ | refine off_sub (by first | rfl | decide) h3 ?_ | refine off_ite (by first | rfl | decide) h3 ?_ | refine off_same ?_)); done)
    · intro u4 s4 F4 N4 hos4 hg4
      k_steps
      ((rename Fr _ _ _ _ => F5); (rename News _ _ _ _ => N5))
      exact SpecEnd.mk (s := s₁) (Post := LawPost) F5.keep (hos4.trans (hos3.trans (hosB.trans hosA))) hg4 rfl
end Mine
end
open PySem PySem.W PyProof.Rows
theorem PySem.Challenge.cw_sr0057_01_holds : PySem.Challenge.rw_sr0057_01.Holds := by
  exact Mine.law0
