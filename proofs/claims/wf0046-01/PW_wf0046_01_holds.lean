import PyProof.Rows.All
import Wide.All
import OpenK.AllK
import Wide.FinOn
import PySem.Challenge.RW_wf0046_01
set_option Elab.async false

section
open PySem PySem.W PyProof.Rows
set_option maxRecDepth 100000
namespace Mine
set_option maxRecDepth 100000 in
set_option maxHeartbeats 8000000 in
open_top hd for PySem.Challenge.rw_wf0046_01
end Mine
end

section
open PySem PySem.W PySem.Calls PyProof.Rows
set_option maxRecDepth 100000
namespace Mine


theorem ltw {a m k n : Nat} (h : a + m < n) (hk : k ≤ m) : a + k < n := Nat.lt_of_le_of_lt (Nat.add_le_add_left hk a) h
theorem ltw0 {a m n : Nat} (h : a + m < n) : a < n := Nat.lt_of_le_of_lt (Nat.le_add_right a m) h
theorem ltwc {a m c k n : Nat} (h : a + m < n) (hk : c + k ≤ m) : a + c + k < n := by rw [Nat.add_assoc]; exact ltw h hk
theorem ltwcc {a m c d k n : Nat} (h : a + m < n) (hk : c + (d + k) ≤ m) : a + c + d + k < n := by rw [Nat.add_assoc]; exact ltwc h hk
theorem ja1 {a b : Prop} (h : a ∧ b) : a := h.1
theorem jb1 {a b : Prop} (h : a ∧ b) : b := h.2
theorem ja2 {a b c : Prop} (h : a ∧ b ∧ c) : b := h.2.1
theorem jb2 {a b c : Prop} (h : a ∧ b ∧ c) : c := h.2.2
theorem ja3 {a b c d : Prop} (h : a ∧ b ∧ c ∧ d) : c := h.2.2.1
theorem jb3 {a b c d : Prop} (h : a ∧ b ∧ c ∧ d) : d := h.2.2.2
theorem ja4 {a b c d e : Prop} (h : a ∧ b ∧ c ∧ d ∧ e) : d := h.2.2.2.1
theorem jb4 {a b c d e : Prop} (h : a ∧ b ∧ c ∧ d ∧ e) : e := h.2.2.2.2
theorem ja5 {a b c d e f : Prop} (h : a ∧ b ∧ c ∧ d ∧ e ∧ f) : e := h.2.2.2.2.1
theorem jb5 {a b c d e f : Prop} (h : a ∧ b ∧ c ∧ d ∧ e ∧ f) : f := h.2.2.2.2.2
theorem nn1 {a : Nat} : a + 1 ≠ a + 1 + 1 := by omega
theorem nn2 {a : Nat} : a + 1 + 1 ≠ a + 1 := by omega
theorem nn3 {a : Nat} : a + 1 ≠ a + 1 + 1 + 1 := by omega
theorem nn4 {a : Nat} : a + 1 + 1 + 1 ≠ a + 1 := by omega
theorem nn5 {a : Nat} : a ≠ a + 1 := by omega
theorem nn6 {a : Nat} : a + 1 ≠ a := by omega
theorem nn7 {a : Nat} : a ≠ a + 1 + 1 := by omega
theorem nn8 {a : Nat} : a + 1 + 1 ≠ a := by omega

theorem pow_two80 {prog : Program} {w : World} {A : Around} {s : Shared} {t u : Tok} {Q E : Value → Shared → Prop} (h : Q (.int 1208925819614629174706176 s.toks) { s with toks := s.toks + 1 }) :
    wpAny (model prog w) A (binaryOp .Pow (.int 2 t) (.int 80 u)) Q E s := pow_int_small (by decide) (by decide) (by decide) h
/-- the walk stops here: the call is made by hand -/
structure Stop (p : Prop) : Prop where
  h : p
/-- the code object of a nested def -/
noncomputable def OkCode (qual : Str) (c : Addr) (oc : Obj) : Prop := ∃ vs t, oc.data = .fields vs ∧ vs[1]? = some (.str qual t) ∧ @LT.lt Nat _ 37 c

noncomputable abbrev tab37 (c1 : Addr) : Obj := tabObj #[rawInt ((47 : Nat) : Int), rawInt ((4 : Nat) : Int), .ref c1]
noncomputable abbrev tab30 (c2 : Addr) : Obj := tabObj #[rawInt ((32 : Nat) : Int), rawInt ((4 : Nat) : Int), .ref c2]
noncomputable def Both (D : List (Addr × Obj)) : Prop := ∃ c1 oc1 c2 oc2, D = [(37, tab37 c1), (30, tab30 c2), (c1, oc1), (c2, oc2)] ∧
  OkCode "_digits2int.<locals>.inner" c1 oc1 ∧ OkCode "_int2digits.<locals>.inner" c2 oc2 ∧ @LT.lt Nat _ c2 c1
/-- the tables, ahead of a division: no nested def was ever made, or each has its code -/
noncomputable def TabA (D : List (Addr × Obj)) : Prop := D = [(37, tabObj #[]), (30, tabObj #[])] ∨ Both D
/-- the tables between the two -/
noncomputable def TabB (D : List (Addr × Obj)) : Prop := (∃ c2 oc2, D = [(37, tabObj #[]), (30, tab30 c2), (c2, oc2)] ∧ OkCode "_int2digits.<locals>.inner" c2 oc2) ∨ Both D

structure St (w : World) (p : Program) (loose : List Str) (mean : ExcName → Option Value) (mg mb : Str → Option Value) (g : Heap) : Prop where
  X : (Mine.hd.heap_39 w.params).In g
  T : Top p loose mean mg mb g
  C1 : CodeHd g 41 37
  C2 : CodeHd g 34 30

theorem St.keeps {w p loose mean mg mb} {g g' : Heap} (S : St w p loose mean mg mb g) (k : g.StaysIn g') : St w p loose mean mg mb g' :=
  ⟨S.X.keeps k, S.T.keeps k, S.C1.keeps k, S.C2.keeps k⟩

noncomputable abbrev hid (h : Heap) (D : List (Addr × Obj)) : Heap := hideAll h (D.map (·.1))

section
variable {prog : Program} {w : World} {A : Around} {s : Shared} {p : Program} {loose : List Str} {mean : ExcName → Option Value} {mg mb : Str → Option Value} {D : List (Addr × Obj)}
  {R : Result → Shared → Prop} {name qual : Str} {params : Arguments} {body : List Stmt} {scope : Scope} {dV kV doc pm cdv ct oc : Value} {an od : Option Addr} {osl : Array (Option Value)} {f : Addr} {args : Args} {binds : List (Str × Value)}

theorem enterP (hD : ∀ q ∈ D, s.heap.get? q.1 = some q.2) (S : St w p loose mean mg mb (hid s.heap D))
    (ho : (Mine.hd.heap_39 w.params).lookup f = some ⟨oc, od, .func (fnOf name qual params body scope dV kV doc pm an cdv ct), osl⟩) (hcd : codeIn (Mine.hd.heap_39 w.params) cdv qual = true) (hroom : A.depth < recursionLimit)
    (hbind : BindsTo s (fnOf name qual params body scope dV kV doc pm an cdv ct) args binds) (hloc : ∀ y ∈ binds, scope.names.lookup y.1 = some .local)
    (h : ∀ g L' h₁, g = hid s.heap D → L' = s.heap.objs.size → Fr g L' h₁ (fun y => binds.reverse.lookup y) → News g L' h₁ D → St w p loose mean mg mb g → (∀ q ∈ D, q.1 < L') →
      wpAny (model prog w) (A.deeper (envOf qual scope L' f cdv)) (execs body (envOf qual scope L' f cdv))
        (fun fl s' => R (.ok (.ret (match fl with | .ret v => v | _ => .none))) s') (fun _ _ => False)
        { s with heap := h₁, toks := s.toks + binds.length })
    (hcell : ∀ x ∈ scope.names, x.2 ≠ .cell) (hco : scope.isCoroutine = false) (hgen : scope.isGenerator = false) (hk : scope.kind = .function) :
    codeAny (model prog w) A (.call (.ref f) args) R s := by
  have st : (hid s.heap D).StaysIn s.heap := fun b o e => of_hideAll _ e
  refine codeAny_call_def (fd := fnOf name qual params body scope dV kV doc pm an cdv ct) (body := body) (binds := binds) hroom (st _ _ (S.X _ _ ho)) rfl (S.T.nolimit.keeps st)
    (codeRec_of (S.X.keeps st) hcd) rfl hbind hcell hloc (fun h₁ hns hk₁ => ?_) hco hgen hk
  exact wpAny_mono (h _ s.heap.objs.size h₁ rfl rfl ⟨hns, fun b o e => hk₁ b o (of_hideAll _ e), Nat.le_of_eq (hideAll_size _ _)⟩
    (fun q hq => ⟨hk₁ _ _ (hD q hq), Nat.ne_of_lt (Heap.lt_size (hD q hq)), hideAll_none _ (List.mem_map_of_mem hq)⟩) S (fun q hq => Heap.lt_size (hD q hq))) (fun _ _ x => x) (fun _ _ x => x.elim)
end

/-- the end of a call that hides D: all else that stood stands -/
noncomputable def Ends (s : Shared) (D : List (Addr × Obj)) (Post : Heap → Value → Heap → List (Addr × Obj) → Prop) (r : Result) (s' : Shared) : Prop :=
  ∃ v h' tk D', r = .ok (.ret v) ∧ s' = { s with heap := h', toks := tk } ∧ (∀ b o, (hid s.heap D).get? b = some o → h'.get? b = some o) ∧
    (∀ q ∈ D', h'.get? q.1 = some q.2 ∧ (hid s.heap D).get? q.1 = none) ∧ Post (hid s.heap D) v h' D'

/-- what a def does, called with D among what stands -/
noncomputable def Spec (prog : Program) (w : World) (f : Addr) (vs : List Value) (dd uu : Nat) (D : List (Addr × Obj)) (Pre : Heap → Prop) (Post : Heap → Value → Heap → List (Addr × Obj) → Prop) : Prop :=
  ∀ (p : Program) (loose : List Str) (mean : ExcName → Option Value) (mg mb : Str → Option Value) (A : Around) (s : Shared),
    A.handled = none → A.depth + dd < recursionLimit → A.units + uu < cLine → St w p loose mean mg mb (hid s.heap D) → (∀ q ∈ D, s.heap.get? q.1 = some q.2) → Pre (hid s.heap D) →
    codeAny (model prog w) A (.call (.ref f) ⟨vs, []⟩) (Ends s D Post) s

noncomputable abbrev noPre (_ : Heap) : Prop := True

noncomputable def AllNe (d : Nat) : List (Addr × Obj) → Prop
  | [] => True
  | p :: r => @Ne Nat p.1 d ∧ AllNe d r
theorem allNe_of {d : Addr} : ∀ {l : List (Addr × Obj)}, (∀ p ∈ l, p.1 ≠ d) → AllNe d l
  | [], _ => trivial
  | p :: _, h => ⟨h p (.head _), allNe_of fun q hq => h q (.tail _ hq)⟩

theorem useD {prog : Program} {w : World} {A : Around} {s : Shared} {p : Program} {loose : List Str} {mean : ExcName → Option Value} {mg mb : Str → Option Value} {g : Heap} {L : Addr} {m : Str → Option Value} {own D : List (Addr × Obj)}
    {f : Addr} {vs : List Value} {dd uu : Nat} {Pre : Heap → Prop} {Post : Heap → Value → Heap → List (Addr × Obj) → Prop} {Q E : Value → Shared → Prop}
    (Sp : Spec prog w f vs dd uu D Pre Post) (F : Fr g L s.heap m) (S : St w p loose mean mg mb g) (N : News g L s.heap (own ++ D)) (hap : ∀ q ∈ own, q.1 ∉ D.map (·.1))
    (hh : A.handled = none) (hd : A.depth + dd < recursionLimit) (hu : A.units + uu < cLine) (hpre : ∀ g', g.StaysIn g' → (∀ q ∈ own, g'.get? q.1 = some q.2) → Pre g')
    (k : ∀ v h' tk D' g', Fr g L h' m → News g L h' (own ++ D') → (∀ q ∈ own, q.1 ∉ D'.map (·.1)) → (∀ b o, h'.get? b = some o → g'.get? b = none → News g L h' ((b, o) :: (own ++ D')) ∧ AllNe b own) →
      Post g' v h' D' → Q v { s with heap := h', toks := tk }) :
    wpAny (model prog w) A (call (.ref f) vs) Q E s := by
  have hDn : ∀ q ∈ D, s.heap.get? q.1 = some q.2 := fun q hq => (N q (List.mem_append_right _ hq)).1
  have hg : ∀ b o, g.get? b = some o → b ∉ D.map (·.1) := fun b o e q => by
    obtain ⟨r, hr, rfl⟩ := List.mem_map.mp q
    rw [(N r (List.mem_append_right _ hr)).2.2] at e; cases e
  have st : g.StaysIn (hid s.heap D) := fun b o e => hideAll_get _ (F.keep b o e) (hg b o e)
  have nL : L ∉ D.map (·.1) := fun q => by
    obtain ⟨r, hr, e⟩ := List.mem_map.mp q
    exact (N r (List.mem_append_right _ hr)).2.1 e
  have hown : ∀ q ∈ own, (hid s.heap D).get? q.1 = some q.2 := fun q hq => hideAll_get _ (N q (List.mem_append_left _ hq)).1 (hap q hq)
  refine wpAny_call (codeAny_mono (Sp p loose mean mg mb A s hh hd hu (S.keeps st) hDn (hpre _ st hown)) ?_)
  rintro r s' ⟨v, h', tk, D', rfl, rfl, hk, hN', hP⟩
  obtain ⟨oL, es, ep, hL, hLd, hLk, hLf⟩ := F.ns
  have hLg := hideAll_get (D.map (·.1)) hL nL
  have new : ∀ b, (hid s.heap D).get? b = none → b ≠ L ∧ g.get? b = none := fun b hb => by
    refine ⟨fun e => ?_, ?_⟩
    · rw [e, hLg] at hb; cases hb
    · cases e : g.get? b with
      | none => rfl
      | some o => rw [st _ _ e] at hb; cases hb
  have N₁ : News g L h' (own ++ D') := fun q hq => by
    rcases List.mem_append.mp hq with hq | hq
    · exact ⟨hk _ _ (hown q hq), (N q (List.mem_append_left _ hq)).2⟩
    · exact ⟨(hN' q hq).1, new _ (hN' q hq).2⟩
  refine k v h' tk D' (hid s.heap D) ⟨⟨oL, es, ep, hk _ _ hLg, hLd, hLk, hLf⟩, fun b o e => hk _ _ (st b o e), F.above⟩ N₁ ?_ ?_ hP
  · intro q hq e
    obtain ⟨r, hr, e2⟩ := List.mem_map.mp e
    have := (hN' r hr).2
    rw [e2, hown q hq] at this; cases this
  · intro b o hb hg'
    refine ⟨fun q hq => ?_, allNe_of fun q hq e => ?_⟩
    · rcases List.mem_cons.mp hq with rfl | hq
      · exact ⟨hb, new _ hg'⟩
      · exact N₁ q hq
    · rw [← e, hown q hq] at hg'; cases hg'

/-- a def that hides nothing -/
theorem use0 {prog : Program} {w : World} {A : Around} {s : Shared} {p : Program} {loose : List Str} {mean : ExcName → Option Value} {mg mb : Str → Option Value} {g : Heap} {L : Addr} {m : Str → Option Value} {news : List (Addr × Obj)}
    {f : Addr} {vs : List Value} {dd uu : Nat} {Pre : Heap → Prop} {Post : Heap → Value → Heap → List (Addr × Obj) → Prop} {Q E : Value → Shared → Prop}
    (Sp : Spec prog w f vs dd uu [] Pre Post) (F : Fr g L s.heap m) (S : St w p loose mean mg mb g) (N : News g L s.heap news)
    (hh : A.handled = none) (hd : A.depth + dd < recursionLimit) (hu : A.units + uu < cLine) (hpre : ∀ g', g.StaysIn g' → (∀ q ∈ news, g'.get? q.1 = some q.2) → Pre g')
    (k : ∀ v h' tk D' g', Fr g L h' m → News g L h' news → (∀ b o, h'.get? b = some o → g'.get? b = none → News g L h' ((b, o) :: news) ∧ AllNe b news) →
      Post g' v h' D' → Q v { s with heap := h', toks := tk }) :
    wpAny (model prog w) A (call (.ref f) vs) Q E s := by
  have N0 : News g L s.heap (news ++ []) := by rw [List.append_nil]; exact N
  refine useD Sp F S N0 (fun _ _ h => (nomatch h)) hh hd hu hpre fun v h' tk D' g' F' N' hap new hP => k v h' tk D' g' F' (fun q hq => N' q (List.mem_append_left _ hq)) (fun b o hb hg => ?_) hP
  obtain ⟨a, c⟩ := new b o hb hg
  exact ⟨fun q hq => a q ((List.mem_cons.mp hq).elim (fun e => e ▸ .head _) fun hq => .tail _ (List.mem_append_left _ hq)), c⟩

theorem ends_of {s : Shared} {D D' : List (Addr × Obj)} {g h' : Heap} {L : Addr} {m : Str → Option Value} {news : List (Addr × Obj)} {Post : Heap → Value → Heap → List (Addr × Obj) → Prop} {v : Value} {tk : Nat}
    (hg : g = hid s.heap D) (F : Fr g L h' m) (N : News g L h' news) (hs : ∀ q ∈ D', q ∈ news) (hP : Post g v h' D') :
    Ends s D Post (.ok (.ret v)) { s with heap := h', toks := tk } := by
  subst hg
  exact ⟨v, h', tk, D', rfl, rfl, F.keep, fun q hq => ⟨(N q (hs q hq)).1, (N q (hs q hq)).2.2⟩, hP⟩

/-- a pair of ints comes back, new -/
noncomputable def IsPair (q r : Int) (g : Heap) (v : Value) (h' : Heap) (_ : List (Addr × Obj)) : Prop :=
  ∃ d t1 t2 c, v = .ref d ∧ h'.get? d = some { cls := .type "tuple", data := .seq #[.int q t1, .int r t2] c } ∧ g.get? d = none

theorem isPair_of {q r : Int} {g h' : Heap} {L d : Addr} {t1 t2 : Tok} {c : Nat} {news D' : List (Addr × Obj)} (N : News g L h' news) (hm : (d, ({ cls := .type "tuple", data := .seq #[.int q t1, .int r t2] c } : Obj)) ∈ news) :
    IsPair q r g (.ref d) h' D' := ⟨d, t1, t2, c, rfl, (N _ hm).1, (N _ hm).2.2⟩

end Mine
end

section
open PySem PySem.W PySem.Spec PySem.Calls PyProof.Rows
set_option maxRecDepth 100000
namespace Mine

section
variable {prog : Program} {w : World} {A : Around} {s : Shared} {p : Program} {loose : List Str} {mean : ExcName → Option Value} {mg mb : Str → Option Value} {D : List (Addr × Obj)}
  {R : Result → Shared → Prop} {name qual : Str} {params : Arguments} {body : List Stmt} {scope : Scope} {dV kV doc pm cdv ct oc : Value} {an od : Option Addr} {osl : Array (Option Value)} {f : Addr} {args : Args} {binds : List (Str × Value)}

/-- a def whose names are captured -/
theorem enterC (hD : ∀ q ∈ D, s.heap.get? q.1 = some q.2) (S : St w p loose mean mg mb (hid s.heap D))
    (ho : (Mine.hd.heap_39 w.params).lookup f = some ⟨oc, od, .func (fnOf name qual params body scope dV kV doc pm an cdv ct), osl⟩) (hcd : codeIn (Mine.hd.heap_39 w.params) cdv qual = true) (hroom : A.depth < recursionLimit)
    (hbind : BindsTo s (fnOf name qual params body scope dV kV doc pm an cdv ct) args binds) (hkind : (binds.all fun y => scope.names.lookup y.1 == some .local || scope.names.lookup y.1 == some .cell) = true)
    (hnd : ((cellsFrom 0 scope.names []).map (·.1)).Nodup)
    (h : ∀ g L' h₁ tk cells, g = hid s.heap D → L' = s.heap.objs.size → Fr g L' h₁ (bindL (envOfC qual scope L' f cdv).kindOf binds fun _ => none) → News g L' h₁ (cells ++ D) →
      CellsAre (bindC (envOfC qual scope L' f cdv).kindOf binds fun _ => none) (cellsFrom (L' + 1) scope.names []) cells → St w p loose mean mg mb g → (∀ q ∈ D, q.1 < L') →
      wpAny (model prog w) (A.deeper (envOfC qual scope L' f cdv)) (execs body (envOfC qual scope L' f cdv))
        (fun fl s' => R (.ok (.ret (match fl with | .ret v => v | _ => .none))) s') (fun _ _ => False)
        { s with heap := h₁, toks := tk })
    (hco : scope.isCoroutine = false) (hgen : scope.isGenerator = false) (hk : scope.kind = .function) :
    codeAny (model prog w) A (.call (.ref f) args) R s := by
  have st : (hid s.heap D).StaysIn s.heap := fun b o e => of_hideAll _ e
  refine codeAny_call_function hroom (st _ _ (S.X _ _ ho)) rfl hco hgen rfl (codeRec_of (S.X.keeps st) hcd) (hbind _ _ _ _ ?_)
  refine wpAny_newFunctionEnv_cells hk (kindsX hkind _) fun env' he s' x => ?_
  subst he
  refine ⟨(S.T.nolimit.keeps st).keeps x.toInCall.keep, codeAny_func ?_⟩
  obtain ⟨h₁, tk, rfl, _⟩ := x.done
  have hk₁ := x.toInCall.keep
  obtain ⟨cells, NC, Y⟩ := Cl.news (h₀ := s.heap) (Nat.le_refl _) fun n c hm => ⟨x.cell n c (lookup_of_mem_nodup (cellsFrom_names scope.names 0 (s.heap.objs.size + 1) [] [] rfl ▸ hnd) hm), x.above n c hm⟩
  refine wpAny_mono (h _ s.heap.objs.size h₁ tk cells rfl rfl ⟨x.toInCall.ns, fun b o e => hk₁ b o (of_hideAll _ e), Nat.le_of_eq (hideAll_size _ _)⟩ (fun q hq => ?_) Y S (fun q hq => Heap.lt_size (hD q hq))) (fun _ _ x => x) fun _ _ y => y.elim
  rcases List.mem_append.mp hq with hq | hq
  · refine ⟨(NC q hq).1, (NC q hq).2.1, ?_⟩
    cases e : (hid s.heap D).get? q.1 with
    | none => rfl
    | some o => have := of_hideAll _ e; rw [(NC q hq).2.2] at this; cases this
  · exact ⟨hk₁ _ _ (hD q hq), Nat.ne_of_lt (Heap.lt_size (hD q hq)), hideAll_none _ (List.mem_map_of_mem hq)⟩
end

section
variable {prog : Program} {w : World} {A : Around} {s : Shared} {h₀ : Heap} {L : Addr} {m : Str → Option Value} {news : List (Addr × Obj)} {p : Program} {loose : List Str} {mean : ExcName → Option Value} {mg mb : Str → Option Value}
  {R : Result → Shared → Prop} {name qual : Str} {params : Arguments} {body : List Stmt} {scope : Scope} {cl : List (Str × Addr)} {doc pm ctv : Value} {c' : Addr} {f : Addr} {args : Args} {binds : List (Str × Value)}

theorem groundP (F : Fr h₀ L s.heap m) (N : News h₀ L s.heap news) :
    Fr h₀ L (hid s.heap news) m ∧ h₀.StaysIn (hid s.heap news) ∧ ∀ v s', LeaveK h₀ L m (hid s.heap news) R v s' → R (.ok (.ret v)) s' := by
  have nm : ∀ b o, h₀.get? b = some o → b ∉ news.map (·.1) := fun b o e q => by
    obtain ⟨p, hp, rfl⟩ := List.mem_map.mp q
    rw [(N p hp).2.2] at e; cases e
  have st : h₀.StaysIn (hid s.heap news) := fun b o e => hideAll_get _ (F.keep b o e) (nm b o e)
  obtain ⟨oL, es, ep, hL, hLd, hLk, hLf⟩ := F.ns
  have nL : L ∉ news.map (·.1) := fun q => by
    obtain ⟨p, hp, e⟩ := List.mem_map.mp q
    exact (N p hp).2.1 e
  have hLg := hideAll_get (news.map (·.1)) hL nL
  refine ⟨⟨⟨oL, es, ep, hLg, hLd, hLk, hLf⟩, st, F.above⟩, st, fun v s' hl => ?_⟩
  obtain ⟨L', m', news', F', N', k⟩ := hl
  refine k ⟨⟨oL, es, ep, F'.keep L oL hLg, hLd, hLk, hLf⟩, fun b o e => F'.keep b o (st b o e), F.above⟩ fun p hp => ⟨(N' p hp).1, fun q => ?_, ?_⟩
  · have := (N' p hp).2.2; rw [q, hLg] at this; cases this
  · cases q : h₀.get? p.1 with
    | none => rfl
    | some o => have := (N' p hp).2.2; rw [st _ _ q] at this; cases this

/-- a nested def, called -/
theorem nestP {Q : Value → Shared → Prop} {vs : List Value} (F : Fr h₀ L s.heap m) (S : St w p loose mean mg mb h₀) (N : News h₀ L s.heap news)
    (ho : (f, fnMade name qual params body scope cl doc pm c' ctv) ∈ news) (hcd : s.heap.CodeRec (.ref c') qual) (hroom : A.depth < recursionLimit)
    (hbind : BindsTo s (fnX name qual params body scope cl .none .none doc pm none (.ref c') ctv) ⟨vs, []⟩ binds) (hloc : ∀ y ∈ binds, scope.names.lookup y.1 = some .local)
    (h : ∀ g L' h₁, Fr h₀ L g m → Fr g L' h₁ (fun y => binds.reverse.lookup y) → News g L' h₁ news → St w p loose mean mg mb g → h₀.StaysIn g → (∀ q ∈ news, q.1 < L') →
      wpAny (model prog w) (A.deeper (envX qual scope L' f (.ref c') cl)) (execs body (envX qual scope L' f (.ref c') cl))
        (fun fl s' => LeaveK h₀ L m g (fun r s' => match r with | .ok (.ret v) => Q v s' | _ => False) (match fl with | .ret v => v | _ => .none) s') (fun _ _ => False)
        { s with heap := h₁, toks := s.toks + binds.length })
    (hco : scope.isCoroutine = false) (hgen : scope.isGenerator = false) (hk : scope.kind = .function) (hcell : ∀ x ∈ scope.names, x.2 ≠ .cell) :
    wpAny (model prog w) A (call (.ref f) vs) Q (fun _ _ => False) s := by
  obtain ⟨FG, st, lv⟩ := groundP (R := fun r s' => match r with | .ok (.ret v) => Q v s' | _ => False) F N
  refine wpAny_call (codeAny_mono (R := fun r s' => match r with | .ok (.ret v) => Q v s' | _ => False) ?_ ?_)
  · refine codeAny_call_def (fd := fnX name qual params body scope cl .none .none doc pm none (.ref c') ctv) (body := body) (binds := binds) hroom (N _ ho).1 rfl (S.T.nolimit.keeps F.keep) hcd rfl hbind hcell hloc (fun h₁ hns hk₁ => ?_) hco hgen hk
    exact wpAny_mono (h _ s.heap.objs.size h₁ FG ⟨hns, fun b o e => hk₁ b o (of_hideAll _ e), Nat.le_of_eq (hideAll_size _ _)⟩
      (fun p hp => ⟨hk₁ _ _ (N p hp).1, Nat.ne_of_lt (Heap.lt_size (N p hp).1), hideAll_none _ (List.mem_map_of_mem hp)⟩) (S.keeps st) st (fun p hp => Heap.lt_size (N p hp).1)) (fun fl s' hl => lv _ _ hl) fun _ _ y => y.elim
  · intro r s' hr
    rcases r with e | (_ | _ | _ | v) <;> first | exact hr | exact hr.elim
end
theorem tabB_one {c2 : Addr} {oc2 : Obj} {vs : Array Value} {t : Tok} (hd : oc2.data = .fields vs) (hv : vs[1]? = some (.str "_int2digits.<locals>.inner" t)) (hc : @LT.lt Nat _ 37 c2) : TabB [(37, tabObj #[]), (30, tab30 c2), (c2, oc2)] := .inl ⟨c2, oc2, rfl, vs, t, hd, hv, hc⟩
theorem tabB_two {c1 c2 : Addr} {oc1 oc2 : Obj} {vs1 vs2 : Array Value} {t1 t2 : Tok} (hd1 : oc1.data = .fields vs1) (hv1 : vs1[1]? = some (.str "_digits2int.<locals>.inner" t1)) (hc1 : @LT.lt Nat _ 37 c1) (hd2 : oc2.data = .fields vs2) (hv2 : vs2[1]? = some (.str "_int2digits.<locals>.inner" t2)) (hc2 : @LT.lt Nat _ 37 c2)
    (h : @LT.lt Nat _ c2 c1) : Both [(37, tab37 c1), (30, tab30 c2), (c1, oc1), (c2, oc2)] := ⟨c1, oc1, c2, oc2, rfl, ⟨vs1, t1, hd1, hv1, hc1⟩, ⟨vs2, t2, hd2, hv2, hc2⟩, h⟩



theorem off_of {a : Addr} {D : List (Addr × Obj)} (h : a ∉ D.map (·.1)) : ∀ p ∈ D, p.1 ≠ a := fun p hp e => h (List.mem_map.mpr ⟨p, hp, e⟩)
theorem updF_at {P : Addr} {o : Obj} : ∀ {own rest : List (Addr × Obj)}, (∀ q ∈ own, q.1 ≠ P) → (∀ q ∈ rest, q.1 ≠ P) → UpdF P o (own ++ (P, o) :: rest) (fun o' => own ++ (P, o') :: rest)
  | [], _, _, h2 => .head h2
  | q :: own, rest, h1, h2 => .tail (h1 q (.head _)) (updF_at (own := own) (fun r hr => h1 r (.tail _ hr)) h2)

section
variable {M : Model} {A : Around} {E : Value → Shared → Prop} {s : Shared} {h₀ : Heap} {L a : Addr} {m mg mb : Str → Option Value} {cn : Str} {cs : Scope} {ccd : Value} {cl : List (Str × Addr)} {own D : List (Addr × Obj)}
  {p : Program} {loose : List Str} {mean : ExcName → Option Value} {name : Str} {params : Arguments} {body : List Stmt} {scope : Scope} {pos : Pos} {firstLine : Nat} {clos : List (Str × Addr)}

theorem nest30 {Q : Value → Shared → Prop} (F : Fr h₀ L s.heap m) (N : News h₀ L s.heap (own ++ D)) (T : Top p loose mean mg mb h₀) (C : CodeHd h₀ 34 30) (hcd : ccd = .ref 34) (hD : TabA D) (hap : ∀ q ∈ own, q.1 ∉ D.map (·.1))
    (hp1 : pos.line = 32) (hp2 : pos.col = 4) (hcl : closureFor scope (envX cn cs L a ccd cl) = pure clos)
    (h : ∀ f c' oc vs t ctv doc h' tk D', Fr h₀ L h' m → News h₀ L h' ((f, fnMade name "_int2digits.<locals>.inner" params body scope clos doc ((mg "__name__").getD .none) c' ctv) :: (own ++ D')) → TabB D' → (c', oc) ∈ D' →
      oc.data = .fields vs → vs[1]? = some (.str "_int2digits.<locals>.inner" t) → (∀ q ∈ own, q.1 < f) → (∀ q ∈ own, q.1 ∉ D'.map (·.1)) → Q (.ref f) { s with heap := h', toks := tk }) :
    wpAny M A (makeFunction name "_int2digits.<locals>.inner" params (.stmts body) scope (envX cn cs L a ccd cl) [] [] [] pos firstLine) Q E s := by
  rcases hD with rfl | ⟨c1, oc1, c2, oc2, rfl, ⟨vs1, ts1, hd1, hv1, hc1⟩, ⟨vs2, ts2, hd2, hv2, hc2⟩, hc12⟩
  · have e : own ++ [(37, tabObj #[]), (30, tabObj #[])] = (own ++ [(37, tabObj #[])]) ++ (30, tabObj #[]) :: [] := by simp
    rw [e] at N
    refine nest_K F N T C hcd (updF_at (fun q hq => ?_) (fun _ h => nomatch h)) True.intro rfl hcl fun f c' oc vs t ctv doc h' tk F' N' hd hv l1 l2 => ?_
    · rcases List.mem_append.mp hq with hq | hq
      · exact fun e => hap q hq (by rw [e]; simp)
      · rw [List.mem_singleton.mp hq]; decide
    · rw [hp1, hp2] at N'
      have hc : @LT.lt Nat _ 37 c' := l1 (37, tabObj #[]) (List.mem_append_left _ (List.mem_append_right _ (.head _)))
      refine h f c' oc vs t ctv doc h' tk [(37, tabObj #[]), (30, tab30 c'), (c', oc)] F' (fun q hq => N' q ?_) (tabB_one hd hv hc) (.tail _ (.tail _ (.head _))) hd hv (fun q hq => Nat.lt_trans (l1 q (List.mem_append_left _ (List.mem_append_left _ hq))) l2) (fun q hq hm => ?_)
      · rcases List.mem_cons.mp hq with rfl | hq
        · exact .head _
        rcases List.mem_append.mp hq with hq | hq
        · exact .tail _ (.tail _ (List.mem_append_left _ (List.mem_append_left _ hq)))
        rcases List.mem_cons.mp hq with rfl | hq
        · exact .tail _ (.tail _ (List.mem_append_left _ (List.mem_append_right _ (.head _))))
        rcases List.mem_cons.mp hq with rfl | hq
        · exact .tail _ (.tail _ (List.mem_append_right _ (.head _)))
        · rw [List.mem_singleton.mp hq]; exact .tail _ (.head _)
      · simp only [List.map_cons, List.map_nil, List.mem_cons, List.not_mem_nil, or_false] at hm
        rcases hm with e | e | e
        · exact hap q hq (by rw [e]; simp)
        · exact hap q hq (by rw [e]; simp)
        · have := l1 q (List.mem_append_left _ (List.mem_append_left _ hq))
          rw [e] at this; exact absurd this (Nat.lt_irrefl _)
  · refine nestHit_K (c' := c2) F N T C hcd (List.mem_append_right _ (.tail _ (.head _))) (by exact trivial) (by show (if ((32 : Int) == pos.line && (4 : Int) == pos.col) = true then some (Value.ref c2) else none) = _; rw [hp1, hp2]; rfl) hcl fun f ctv doc h' tk F' N' l1 => ?_
    exact h f c2 oc2 vs2 ts2 ctv doc h' tk _ F' N' (.inr (tabB_two hd1 hv1 hc1 hd2 hv2 hc2 hc12)) (.tail _ (.tail _ (.tail _ (.head _)))) hd2 hv2 (fun q hq => l1 q (List.mem_append_left _ hq)) hap

theorem nest37 {Q : Value → Shared → Prop} (F : Fr h₀ L s.heap m) (N : News h₀ L s.heap (own ++ D)) (T : Top p loose mean mg mb h₀) (C : CodeHd h₀ 41 37) (hcd : ccd = .ref 41) (hD : TabB D) (hap : ∀ q ∈ own, q.1 ∉ D.map (·.1))
    (hp1 : pos.line = 47) (hp2 : pos.col = 4) (hcl : closureFor scope (envX cn cs L a ccd cl) = pure clos)
    (h : ∀ f c' oc vs t ctv doc h' tk D', Fr h₀ L h' m → News h₀ L h' ((f, fnMade name "_digits2int.<locals>.inner" params body scope clos doc ((mg "__name__").getD .none) c' ctv) :: (own ++ D')) → Both D' → (c', oc) ∈ D' →
      oc.data = .fields vs → vs[1]? = some (.str "_digits2int.<locals>.inner" t) → (∀ q ∈ own, q.1 < f) → (∀ q ∈ own, q.1 ∉ D'.map (·.1)) → Q (.ref f) { s with heap := h', toks := tk }) :
    wpAny M A (makeFunction name "_digits2int.<locals>.inner" params (.stmts body) scope (envX cn cs L a ccd cl) [] [] [] pos firstLine) Q E s := by
  rcases hD with ⟨c2, oc2, rfl, ⟨vs2, ts2, hd2, hv2, hc2⟩⟩ | ⟨c1, oc1, c2, oc2, rfl, ⟨vs1, ts1, hd1, hv1, hc1⟩, ⟨vs2, ts2, hd2, hv2, hc2⟩, hc12⟩
  · refine nest_K F N T C hcd (updF_at (fun q hq e => hap q hq (by rw [e]; simp)) (fun q hq => ?_)) True.intro rfl hcl fun f c' oc vs t ctv doc h' tk F' N' hd hv l1 l2 => ?_
    · rcases List.mem_cons.mp hq with rfl | hq
      · show (30 : Nat) ≠ 37; decide
      · rw [List.mem_singleton.mp hq]; exact Nat.ne_of_gt hc2
    · rw [hp1, hp2] at N'
      have hc : @LT.lt Nat _ 37 c' := l1 (37, tabObj #[]) (List.mem_append_right _ (.head _))
      have hc12 : @LT.lt Nat _ c2 c' := l1 (c2, oc2) (List.mem_append_right _ (.tail _ (.tail _ (.head _))))
      refine h f c' oc vs t ctv doc h' tk [(37, tab37 c'), (30, tab30 c2), (c', oc), (c2, oc2)] F' (fun q hq => N' q ?_) (tabB_two hd hv hc hd2 hv2 hc2 hc12) (.tail _ (.tail _ (.head _))) hd hv (fun q hq => Nat.lt_trans (l1 q (List.mem_append_left _ hq)) l2) (fun q hq hm => ?_)
      · rcases List.mem_cons.mp hq with rfl | hq
        · exact .head _
        rcases List.mem_append.mp hq with hq | hq
        · exact .tail _ (.tail _ (List.mem_append_left _ hq))
        rcases List.mem_cons.mp hq with rfl | hq
        · exact .tail _ (.tail _ (List.mem_append_right _ (.head _)))
        rcases List.mem_cons.mp hq with rfl | hq
        · exact .tail _ (.tail _ (List.mem_append_right _ (.tail _ (.head _))))
        rcases List.mem_cons.mp hq with rfl | hq
        · exact .tail _ (.head _)
        · rw [List.mem_singleton.mp hq]; exact .tail _ (.tail _ (List.mem_append_right _ (.tail _ (.tail _ (.head _)))))
      · simp only [List.map_cons, List.map_nil, List.mem_cons, List.not_mem_nil, or_false] at hm
        rcases hm with e | e | e | e
        · exact hap q hq (by rw [e]; simp)
        · exact hap q hq (by rw [e]; simp)
        · have := l1 q (List.mem_append_left _ hq)
          rw [e] at this; exact absurd this (Nat.lt_irrefl _)
        · exact hap q hq (by rw [e]; simp)
  · refine nestHit_K (c' := c1) F N T C hcd (List.mem_append_right _ (.head _)) (by exact trivial) (by show (if ((47 : Int) == pos.line && (4 : Int) == pos.col) = true then some (Value.ref c1) else none) = _; rw [hp1, hp2]; rfl) hcl fun f ctv doc h' tk F' N' l1 => ?_
    exact h f c1 oc1 vs1 ts1 ctv doc h' tk _ F' N' (tabB_two hd1 hv1 hc1 hd2 hv2 hc2 hc12) (.tail _ (.tail _ (.head _))) hd1 hv1 (fun q hq => l1 q (List.mem_append_left _ hq)) hap
end

noncomputable def AllGe (d : Nat) : List (Addr × Obj) → Prop
  | [] => True
  | p :: r => @LE.le Nat _ d p.1 ∧ AllGe d r
theorem AllGe.all {d : Nat} {l : List (Addr × Obj)} (h : AllGe d l) : ∀ q ∈ l, @LE.le Nat _ d q.1 := by
  induction l with
  | nil => intro q hq; cases hq
  | cons p r ih =>
    intro q hq
    rcases List.mem_cons.mp hq with e | hq
    · rw [e]; exact h.1
    · exact ih h.2 q hq
theorem hap_of_lt {d : Nat} {own D : List (Addr × Obj)} (hlt : ∀ q ∈ D, @LT.lt Nat _ q.1 d) (hge : AllGe d own) : ∀ q ∈ own, q.1 ∉ D.map (·.1) := fun q hq hm => by
  obtain ⟨r, hr, e⟩ := List.mem_map.mp hm
  have h1 := hlt r hr
  have h2 := hge.all q hq
  rw [← e] at h2
  exact absurd h1 (Nat.not_lt.mpr h2)
theorem ne_of_all {d x : Nat} {D : List (Addr × Obj)} (hlt : ∀ q ∈ D, @LT.lt Nat _ q.1 d) (h : d ≤ x) : ∀ q ∈ D, q.1 ≠ x := fun q hq => Nat.ne_of_lt (Nat.lt_of_lt_of_le (hlt q hq) h)
theorem allLt_from {d : Nat} : ∀ {l : List (Addr × Obj)}, (∀ q ∈ l, q.1 < d) → AllLt d l := allLt_of
end Mine
end

section
open PySem PySem.W PySem.Calls PyProof.Rows
set_option maxRecDepth 100000
namespace Mine

noncomputable def Knows (m : Str → Option Value) : List (Str × Value) → Prop
  | [] => True
  | p :: r => m p.1 = some p.2 ∧ Knows m r
theorem Knows.all {m : Str → Option Value} : ∀ {ps : List (Str × Value)}, Knows m ps → ∀ p ∈ ps, m p.1 = some p.2
  | _ :: _, h, _, .head _ => h.1
  | _ :: _, h, q, .tail _ hq => h.2.all q hq
theorem Knows.same {m : Str → Option Value} {ps : List (Str × Value)} (h : Knows m ps) : kstB m ps = m := funext fun _ => kstB_eq h.all fun _ => rfl
theorem Knows.fr {m : Str → Option Value} {ps : List (Str × Value)} (h : Knows m ps) {g h' : Heap} {L : Addr} {x : Str} {v : Value} (F : Fr g L h' (fun y => if y = x then some v else m y)) :
    Fr g L h' (fun y => if y = x then some v else kstB m ps y) := by rw [h.same]; exact F
theorem Knows.fr2 {m : Str → Option Value} {ps : List (Str × Value)} (h : Knows m ps) {g h' : Heap} {L : Addr} {x x' : Str} {v v' : Value} (F : Fr g L h' (fun y => if y = x then some v else if y = x' then some v' else m y)) :
    Fr g L h' (fun y => if y = x then some v else if y = x' then some v' else kstB m ps y) := by rw [h.same]; exact F
theorem Knows.fr0 {m : Str → Option Value} {ps : List (Str × Value)} (h : Knows m ps) {g h' : Heap} {L : Addr} (F : Fr g L h' m) : Fr g L h' (kstB m ps) := by rw [h.same]; exact F

/-- a turn's end -/
noncomputable def TurnEnd (g : Heap) (L : Addr) (s : Shared) (own : List (Addr × Obj)) (adr : List Addr) (J : (Str → Option Value) → List (Addr × Obj) → Prop) (f : Flow) (s₂ : Shared) : Prop :=
  f = .next ∧ ∃ h' tk' m' nx', s₂ = { s with heap := h', toks := tk' } ∧ Fr g L h' m' ∧ News g L h' (nx' ++ own) ∧ nx'.map (·.1) = adr ∧ J m' nx'

theorem pairLoop {prog : Program} {w : World} {A : Around} {E : Value → Shared → Prop} {s : Shared} {env : Env} {g : Heap} {L : Addr} {m : Str → Option Value} {news : List (Addr × Obj)} {ns : List Int} {xv : Value}
    {xi xc : Str} {body : List Stmt} {Q : Flow → Shared → Prop}
    (S : PairSrcL prog w A E g L ItemKind.int ns xv s m news) (hL : env.locals = L) (J : Nat → (Str → Option Value) → List (Addr × Obj) → Prop) (h0 : J 0 m news)
    (turn : ∀ i n t ti m₁ nx h tk own, ns[i]? = some n → J i m₁ nx → nx.map (·.1) = news.map (·.1) → (∀ p ∈ own, ∀ q ∈ news, p.1 ≠ q.1) →
      Fr g L h (fun y => if y = xc then some (.int n t) else if y = xi then some (.int i ti) else m₁ y) → News g L h (nx ++ own) →
      wpAny (model prog w) A (execs body env) (TurnEnd g L s own (news.map (·.1)) (J (i + 1))) E { s with heap := h, toks := tk })
    (done : ∀ h' tk m' nx', Fr g L h' m' → News g L h' nx' → nx'.map (·.1) = news.map (·.1) → J ns.length m' nx' → Q .next { s with heap := h', toks := tk }) :
    wpAny (model prog w) A (pyIter xv) (fun it s₂ => PairAt3 prog w A g env xi xc body Q E it s₂) E s := by
  subst hL
  refine PairSrcL.at S env rfl xi xc body Q J h0 ?_ done
  rintro i n ti v m₁ nx s₁ own ⟨h, tk, rfl⟩ hn ⟨t, rfl⟩ hJ hadr hap F N
  refine wpAny_mono (turn i n t ti m₁ nx h tk own hn hJ hadr hap F (fun p hp => N p ((List.mem_append.mp hp).elim (fun h => List.mem_append.mpr (.inr h)) fun h => List.mem_append.mpr (.inl h)))) (fun f s₂ hq => ?_) fun _ _ e => e
  obtain ⟨rfl, h', tk', m', nx', rfl, F', N', ha, hJ'⟩ := hq
  exact ⟨rfl, h', tk', m', nx', rfl, F', (fun p hp => N' p ((List.mem_append.mp hp).elim (fun h => List.mem_append.mpr (.inr h)) fun h => List.mem_append.mpr (.inl h))), ha.trans hadr.symm, hJ'⟩


/-- the end of such a turn -/
noncomputable def Turn1 (g : Heap) (L D : Addr) (s : Shared) (own : List (Addr × Obj)) (ps : List (Str × Value)) (ns : List Int) (fl : Flow) (s₂ : Shared) : Prop :=
  fl = .next ∧ ∃ h' tk' m' vsum', s₂ = { s with heap := h', toks := tk' } ∧ Fr g L h' m' ∧ News g L h' ((D, listOf vsum'.toArray 0) :: own) ∧ Knows m' ps ∧ IntsAre vsum' ns
theorem Turn1.intro {g h' : Heap} {L D : Addr} {s : Shared} {own news : List (Addr × Obj)} {ps : List (Str × Value)} {ns : List Int} {m' : Str → Option Value} {vsum' : List Value} {tk' : Nat}
    (F : Fr g L h' m') (N : News g L h' news) (hs : ∀ q ∈ (D, listOf vsum'.toArray 0) :: own, q ∈ news) (hk : Knows m' ps) (hv : IntsAre vsum' ns) : Turn1 g L D s own ps ns .next { s with heap := h', toks := tk' } :=
  ⟨rfl, h', tk', m', vsum', rfl, F, fun q hq => N q (hs q hq), hk, hv⟩
/-- a loop over enumerate(a list of ints) that turns one list of ints -/
theorem pairLoop1 {prog : Program} {w : World} {A : Around} {E : Value → Shared → Prop} {s : Shared} {env : Env} {g : Heap} {L D : Addr} {m : Str → Option Value} {rest : List (Addr × Obj)} {ns : List Int} {xv : Value} {vs0 : List Value}
    {xi xc : Str} {body : List Stmt} {Q : Flow → Shared → Prop} (x : Str) (ps : List (Str × Value)) (f : Nat → List Int)
    (S : PairSrcL prog w A E g L ItemKind.int ns xv s m ((D, listOf vs0.toArray 0) :: rest)) (hL : env.locals = L) (hk : Knows m ((x, .ref D) :: ps)) (h0 : IntsAre vs0 (f 0)) (hr : ∀ p ∈ rest, p.1 ≠ D)
    (turn : ∀ i n t ti m₁ vsum h tk own, ns[i]? = some n → IntsAre vsum (f i) → (∀ p ∈ rest ++ own, p.1 ≠ D) →
      Fr g L h (fun y => if y = xc then some (.int n t) else if y = xi then some (.int i ti) else kstB m₁ ((x, .ref D) :: ps) y) → News g L h ((D, listOf vsum.toArray 0) :: (rest ++ own)) →
      wpAny (model prog w) A (execs body env) (Turn1 g L D s (rest ++ own) ((x, .ref D) :: ps) (f (i + 1))) E { s with heap := h, toks := tk })
    (done : ∀ h' tk m' vsum, Fr g L h' (kstB m' ((x, .ref D) :: ps)) → News g L h' ((D, listOf vsum.toArray 0) :: rest) → IntsAre vsum (f ns.length) → Q .next { s with heap := h', toks := tk }) :
    wpAny (model prog w) A (pyIter xv) (fun it s₂ => PairAt3 prog w A g env xi xc body Q E it s₂) E s := by
  refine pairLoop S hL (fun i m nx => ∃ vsum, Knows m ((x, .ref D) :: ps) ∧ nx = (D, listOf vsum.toArray 0) :: rest ∧ IntsAre vsum (f i)) ⟨vs0, hk, rfl, h0⟩ ?_ ?_
  · rintro i n t ti m₁ nx h tk own hn ⟨vsum, hk₁, rfl, hv⟩ _ hap F N
    refine wpAny_mono (turn i n t ti m₁ vsum h tk own hn hv (fun p hp => ?_) (hk₁.fr2 F) N) (fun fl s₂ hq => ?_) fun _ _ e => e
    · rcases List.mem_append.mp hp with hp | hp
      · exact hr p hp
      · exact hap p hp _ (.head _)
    · obtain ⟨rfl, h', tk', m', vsum', rfl, F', N', hk', hv'⟩ := hq
      exact ⟨rfl, h', tk', m', (D, listOf vsum'.toArray 0) :: rest, rfl, F', N', rfl, vsum', hk', rfl, hv'⟩
  · rintro h' tk m' nx' F' N' _ ⟨vsum, hk', rfl, hv⟩
    exact done h' tk m' vsum (hk'.fr0 F') N' hv


/-- the end of a turn of the loop over a list's items, the last first -/
noncomputable def TurnR (g : Heap) (L I Dq : Addr) (it : Obj) (s : Shared) (rest : List (Addr × Obj)) (x : Str) (ps : List (Str × Value)) (r : Int) (qs : List Int) (fl : Flow) (s₂ : Shared) : Prop :=
  fl = .next ∧ ∃ h' tk' m' us' e' t', s₂ = { s with heap := h', toks := tk' } ∧ Fr g L h' m' ∧ News g L h' ((I, it) :: (Dq, listOf us'.toArray e') :: rest) ∧ Knows m' ((x, .int r t') :: ps) ∧ IntsAre us' qs
theorem TurnR.intro {g h' : Heap} {L I Dq : Addr} {it : Obj} {s : Shared} {rest news : List (Addr × Obj)} {x : Str} {ps : List (Str × Value)} {r : Int} {qs : List Int} {m' : Str → Option Value} {us' : List Value} {e' : Nat} {t' : Tok} {tk' : Nat}
    (F : Fr g L h' m') (N : News g L h' news) (hs : ∀ q ∈ (I, it) :: (Dq, listOf us'.toArray e') :: rest, q ∈ news) (hk : Knows m' ((x, .int r t') :: ps)) (hv : IntsAre us' qs) : TurnR g L I Dq it s rest x ps r qs .next { s with heap := h', toks := tk' } :=
  ⟨rfl, h', tk', m', us', e', t', rfl, F, fun q hq => N q (hs q hq), hk, hv⟩

theorem revLoop {prog : Program} {w : World} {A : Around} {E : Value → Shared → Prop} {s : Shared} {env : Env} {g : Heap} {L I Dq d : Addr} {m : Str → Option Value} {D : List (Addr × Obj)} {us vs0 : List Value} {xs : List Int} {n e0 : Nat} {t0 : Tok}
    {y : Str} {body : List Stmt} {Q : Flow → Shared → Prop} (x : Str) (ps : List (Str × Value)) (rf : Nat → Int) (qf : Nat → List Int)
    (hh : A.handled = none) (F : Fr g L s.heap m) (N : News g L s.heap ((I, revObj d ((us.length : Int) - 1)) :: (Dq, listOf vs0.toArray e0) :: (d, listOf us.toArray n) :: D)) (hL : env.locals = L) (hi : IntsAre us xs)
    (hI : AllLt I ((Dq, listOf vs0.toArray e0) :: (d, listOf us.toArray n) :: D)) (hQ : AllLt Dq ((d, listOf us.toArray n) :: D)) (hk : Knows m ((x, .int (rf 0) t0) :: ps)) (h0 : IntsAre vs0 (qf 0))
    (turn : ∀ i v t tr m₁ qs e h tk it, xs.reverse[i]? = some v → IntsAre qs (qf i) → @Ne Nat I Dq → (∀ p ∈ (d, listOf us.toArray n) :: D, p.1 ≠ Dq) →
      Fr g L h (fun z => if z = y then some (.int v t) else kstB m₁ ((x, .int (rf i) tr) :: ps) z) → News g L h ((I, it) :: (Dq, listOf qs.toArray e) :: (d, listOf us.toArray n) :: D) →
      wpAny (model prog w) A (execs body env) (TurnR g L I Dq it { s with heap := h, toks := tk } ((d, listOf us.toArray n) :: D) x ps (rf (i + 1)) (qf (i + 1))) E { s with heap := h, toks := tk })
    (done : ∀ h' tk m' qs e t, Fr g L h' (kstB m' ((x, .int (rf xs.length) t) :: ps)) → News g L h' ((Dq, listOf qs.toArray e) :: (d, listOf us.toArray n) :: D) → (∀ p ∈ (d, listOf us.toArray n) :: D, p.1 ≠ Dq) → IntsAre qs (qf xs.length) → Q .next { s with heap := h', toks := tk }) :
    wpAny (model prog w) A (pyIter (.ref I)) (fun it s₂ => LoopAtV prog w A g env y body Q E it s₂) E s := by
  subst hL
  have hIx := N _ (List.mem_cons_self ..)
  have hdx := N _ (List.mem_cons_of_mem _ (List.mem_cons_of_mem _ (List.mem_cons_self ..)))
  have hoI : ∀ p ∈ (Dq, listOf vs0.toArray e0) :: (d, listOf us.toArray n) :: D, p.1 ≠ I := by
    have key : ∀ {l : List (Addr × Obj)}, AllLt I l → ∀ p ∈ l, p.1 ≠ I := by
      intro l; induction l with
      | nil => intro _ p hp; cases hp
      | cons q r ih =>
        intro h p hp
        rcases List.mem_cons.mp hp with e | hp
        · rw [e]; exact Nat.ne_of_lt h.1
        · exact ih h.2 p hp
    exact key hI
  have hoQ : ∀ p ∈ (d, listOf us.toArray n) :: D, p.1 ≠ Dq := by
    have key : ∀ {l : List (Addr × Obj)}, AllLt Dq l → ∀ p ∈ l, p.1 ≠ Dq := by
      intro l; induction l with
      | nil => intro _ p hp; cases hp
      | cons q r ih =>
        intro h p hp
        rcases List.mem_cons.mp hp with e | hp
        · rw [e]; exact Nat.ne_of_lt h.1
        · exact ih h.2 p hp
    exact key hQ
  have hDqI : Dq ≠ I := hoI _ (List.mem_cons_self ..)
  have hdI : d ≠ I := hoI _ (List.mem_cons_of_mem _ (List.mem_cons_self ..))
  have hlen : us.length = xs.length := hi.length
  have hls : s.heap.IsList d us.toArray := ⟨_, hdx.1, rfl, n, rfl⟩
  have hit : s.heap.IsRevIter I d ((us.length : Int) - 1) := ⟨_, hIx.1, rfl, rfl⟩
  refine wpAny_pyIter_revIter hit ?_
  have W := Walks.listRev (prog := prog) (w := w) hh I d hdI us.toArray
  have hsz : us.toArray.size = us.length := by simp
  rw [hsz] at W
  let J : Nat → (Str → Option Value) → List (Addr × Obj) → Prop := fun i m₁ nx => ∃ qs e t, nx = (Dq, listOf qs.toArray e) :: (d, listOf us.toArray n) :: D ∧ Knows m₁ ((x, .int (rf i) t) :: ps) ∧ IntsAre qs (qf i)
  refine ⟨I, _, _, us.length, _, _, m, _, J, rfl, W, ?_, ?_, ?_, ⟨Nat.zero_le _, ?_, hls⟩, F, (fun p hp => N p (List.mem_cons_of_mem _ hp)), ⟨vs0, e0, t0, rfl, hk, h0⟩, ?_, ?_⟩
  · intro hmm
    rcases List.mem_cons.mp hmm with e | hmm
    · exact hIx.2.1 e.symm
    · exact hdx.2.1 (List.mem_singleton.mp hmm).symm
  · intro b hb
    rw [List.mem_singleton.mp hb]
    exact hIx.2.2
  · intro p hp hb
    exact hoI p hp (List.mem_singleton.mp hb)
  · have e : (us.length : Int) - 1 - ((0 : Nat) : Int) = (us.length : Int) - 1 := by omega
    rw [e]
    exact hit
  · rintro i v m₁ nx s₁ own ⟨hh', tk', rfl⟩ hin hP ⟨qs, e, t, rfl, hk₁, hq₁⟩ hofs hown hget hall hst F₁ N₁
    obtain ⟨it, hit', hic, hid⟩ := hst.2.1
    have hmemI := hall I (List.mem_cons_self ..) hIx.2.2 _ hit'
    have hlt : i < us.length := hin
    have hrev : us.reverse[i]? = some v := by
      rw [List.getElem?_reverse hlt]
      simpa using hP
    have hirev : ∃ k tv, v = .int k tv ∧ xs.reverse[i]? = some k := by
      have hj : us.length - 1 - i < us.length := by omega
      have hv : us[us.length - 1 - i]? = some v := by rw [← List.getElem?_reverse hlt]; exact hrev
      have hx : xs[us.length - 1 - i]? = some (xs[us.length - 1 - i]'(by omega)) := List.getElem?_eq_getElem (by omega)
      obtain ⟨tv, hg⟩ := hi.get _ _ hx
      rw [hg] at hv
      refine ⟨_, tv, (Option.some.inj hv).symm, ?_⟩
      rw [List.getElem?_reverse (by omega), show xs.length - 1 - i = us.length - 1 - i by omega]
      exact hx
    obtain ⟨k, tv, rfl, hxk⟩ := hirev
    have N₂ : News g env.locals hh' ((I, it) :: (Dq, listOf qs.toArray e) :: (d, listOf us.toArray n) :: D) := fun p hp => by
      rcases List.mem_cons.mp hp with rfl | hp
      · exact N₁ _ (List.mem_append_left _ hmemI)
      · exact N₁ _ (List.mem_append_right _ hp)
    refine wpAny_mono (turn i k tv t m₁ qs e hh' tk' it hxk hq₁ (Ne.symm hDqI) hoQ (hk₁.fr F₁) N₂) (fun f s₂ hp => ?_) fun _ _ e => e
    obtain ⟨rfl, h', tk, m', us', e', t', rfl, F', N', hk', hv'⟩ := hp
    refine .next ⟨rfl, h', tk, m', (Dq, listOf us'.toArray e') :: (d, listOf us.toArray n) :: D, rfl, F', fun p hp => ?_, fun p hp hI => ?_, us', e', t', rfl, hk', hv'⟩
    · rcases List.mem_append.mp hp with hp | hp
      · have h2 : hh'.get? p.1 = some p.2 := hget p hp
        rcases List.mem_cons.mp (hown p hp) with h1 | h1
        · have h3 : p = (I, it) := by
            rw [h1, hit'] at h2
            exact Prod.ext h1 (Option.some.inj h2).symm
          rw [h3]; exact N' _ (List.mem_cons_self ..)
        · have h1' : p.1 = d := List.mem_singleton.mp h1
          have h3 : p = (d, listOf us.toArray n) := by
            rw [h1', (N₁ _ (List.mem_append_right _ (List.mem_cons_of_mem _ (List.mem_cons_self ..)))).1] at h2
            exact Prod.ext h1' (Option.some.inj h2).symm
          rw [h3]; exact N' _ (List.mem_cons_of_mem _ (List.mem_cons_of_mem _ (List.mem_cons_self ..)))
      · exact N' _ (List.mem_cons_of_mem _ hp)
    · rcases List.mem_cons.mp hp with rfl | hp
      · exact hDqI (List.mem_singleton.mp hI)
      · exact hoI p (List.mem_cons_of_mem _ hp) (List.mem_singleton.mp hI)
  · rintro h' tk' m' news' F' N' _ ⟨qs, e, t, rfl, hk', hq'⟩
    rw [hlen] at hk' hq'
    exact done h' tk' m' qs e t (hk'.fr0 F') N' hoQ hq'

end Mine
end

section
open PySem PySem.W PySem.Calls PyProof.Rows
set_option maxRecDepth 100000
namespace Mine

/-- an enumerate object over a list, new -/
structure EnumNew (g : Heap) (L : Addr) (h : Heap) (e it l : Addr) (D : List (Addr × Obj)) : Prop where
  he : IsEnum h e it 0 .none
  hit : h.IsListIter it l 0
  hei : e ≠ it
  heL : e ≠ L
  hiL : it ≠ L
  hge : g.get? e = none
  hgi : g.get? it = none
  heD : e ∉ D.map (·.1)
  hiD : it ∉ D.map (·.1)

/-- a loop stands ahead of its iterator -/
noncomputable def ForAt (prog : Program) (w : World) (A : Around) (env : Env) (target : Expr) (body : List Stmt) (Q : Flow → Shared → Prop) (xv : Value) (s₁ : Shared) : Prop :=
  wpAny (model prog w) A (pyIter xv) (fun it s₂ => codeAny (model prog w) A (.forLoop target it body [] env) (fun r s' => match r with | .ok f => Q f s' | .error e => cameBackBy (model prog w) A env (fun _ _ => False) e s') s₂) (fun _ _ => False) s₁

section
variable {prog : Program} {w : World} {A : Around} {s : Shared} {env : Env} {g : Heap} {L : Addr} {m : Str → Option Value} {news : List (Addr × Obj)}

theorem For_at {target iter : Expr} {body : List Stmt} {pos : Pos} {Q : Flow → Shared → Prop} (h : wpAny (model prog w) A (eval iter env) (fun xv s₁ => ForAt prog w A env target body Q xv s₁) (fun _ _ => False) s)
    (hs : ∀ x, foldedSetIterable iter env x = pure x) : wpAny (model prog w) A (exec (.For target iter body [] pos) env) Q (fun _ _ => False) s :=
  wpAny_For h hs

theorem call_enumD {l : Addr} {vs : List Value} {Q E : Value → Shared → Prop} (hl : g.IsList l vs.toArray) (F : Fr g L s.heap m) (N : News g L s.heap news)
    (h : ∀ h' e it, Fr g L h' m → News g L h' news → EnumNew g L h' e it l news → Q (.ref e) { s with heap := h' }) :
    wpAny (model prog w) A (call (.type "enumerate") [.ref l]) Q E s := by
  have hls : s.heap.IsList l vs.toArray := hl.at fun o e => F.keep l o e
  refine call_enumerate_list hls fun h' he hit hsz hk => ?_
  have F' : Fr g L h' m := ⟨F.ns.keeps hk, fun b o e => hk b o (F.keep b o e), F.above⟩
  have N' : News g L h' news := fun p hp => ⟨hk _ _ (N p hp).1, (N p hp).2⟩
  have hLs : L < s.heap.objs.size := F.ns.lt
  have hab := F.above
  have off : ∀ x, s.heap.objs.size ≤ x → x ∉ news.map (·.1) := fun x hx hm => by
    obtain ⟨q, hq, rfl⟩ := List.mem_map.mp hm
    exact absurd (Heap.lt_size (N q hq).1) (Nat.not_lt.mpr hx)
  exact h h' _ _ F' N' ⟨he, hit, Nat.succ_ne_self _, Nat.ne_of_gt (Nat.lt_succ_of_lt hLs), Nat.ne_of_gt hLs,
    Heap.get?_none_of_le (Nat.le_trans hab (Nat.le_of_lt (Nat.lt_succ_of_lt hLs))), Heap.get?_none_of_le (Nat.le_trans hab (Nat.le_of_lt hLs)), off _ (Nat.le_succ _), off _ (Nat.le_refl _)⟩

/-- a turn's end, the ledger free -/
noncomputable def TurnD (g : Heap) (L : Addr) (s : Shared) (own : List (Addr × Obj)) (J : (Str → Option Value) → List (Addr × Obj) → Prop) (f : Flow) (s₂ : Shared) : Prop :=
  f = .next ∧ ∃ h' tk' m' D', s₂ = { s with heap := h', toks := tk' } ∧ Fr g L h' m' ∧ News g L h' (own ++ D') ∧ (∀ q ∈ own, q.1 ∉ D'.map (·.1)) ∧ J m' D'

theorem enumLoopD {Q : Flow → Shared → Prop} {xi xv : Str} {pi pv pt : Pos} {x1 : Nat} {body : List Stmt} {e it l : Addr} {vs : List Value} {ns : List Int}
    (F : Fr g L s.heap m) (N : News g L s.heap news) (EN : EnumNew g L s.heap e it l news) (hh : A.handled = none) (hL : env.locals = L) (hxi : env.kindOf xi = some .local) (hxv : env.kindOf xv = some .local)
    (hp : (env.scope.kind == .class || (env.scope.kind == .module && env.locals != env.globals)) = false)
    (hl : g.IsList l vs.toArray) (hi : IntsAre vs ns)
    (J : Nat → (Str → Option Value) → List (Addr × Obj) → Prop) (h0 : J 0 m news)
    (turn : ∀ i n t ti m₁ D h tk eo io, ns[i]? = some n → J i m₁ D → (∀ q ∈ [(e, eo), (it, io)], q.1 ∉ D.map (·.1)) → @Ne Nat e it →
      Fr g L h (fun y => if y = xv then some (.int n t) else if y = xi then some (.int i ti) else m₁ y) → News g L h ((e, eo) :: (it, io) :: D) →
      wpAny (model prog w) A (execs body env) (TurnD g L { s with heap := h, toks := tk } [(e, eo), (it, io)] (J (i + 1))) (fun _ _ => False) { s with heap := h, toks := tk })
    (done : ∀ h' tk m' D', Fr g L h' m' → News g L h' D' → J ns.length m' D' → Q .next { s with heap := h', toks := tk }) :
    ForAt prog w A env (.Tuple [.Name xi pi, .Name xv pv] x1 pt) body Q (.ref e) s := by
  subst hL
  obtain ⟨he, hit, hei, heL, hiL, hge, hgi, heD, hiD⟩ := EN
  refine wpAny_pyIter_enum he ?_
  have hsz : vs.toArray.size = ns.length := by simp [hi.length]
  obtain ⟨ol, hol, _⟩ := id hl
  have hlg : ∀ b, g.get? b = none → l ≠ b := fun b hb x => by rw [x, hb] at hol; cases hol
  have hlL : l ≠ env.locals := Nat.ne_of_lt (Nat.lt_of_lt_of_le (Heap.lt_size hol) F.above)
  refine codeAny_forLoop_any
    (fun k s' => ∃ h' tk m' D i old, s' = { s with heap := h', toks := tk } ∧ IsEnum h' e it ((i : Nat) : Int) old ∧ h'.IsListIter it l i ∧ Fr g env.locals h' m' ∧ News g env.locals h' D ∧
      e ∉ D.map (·.1) ∧ it ∉ D.map (·.1) ∧ J i m' D ∧ i ≤ ns.length ∧ k = ns.length + 1 - i) ?_ (ns.length + 1)
    ⟨s.heap, s.toks, m, news, 0, .none, rfl, he, hit, F, N, heD, hiD, h0, Nat.zero_le _, rfl⟩
  rintro k s' ⟨H, tk, m', D, i, old, rfl, he', hit', F', N', heD', hiD', hJ, hle, rfl⟩
  have hl' : H.IsList l vs.toArray := hl.at fun o e => F'.keep l o e
  cases hv : vs.toArray[i]? with
  | none =>
    have hsz' : i = ns.length := Nat.le_antisymm hle (by rw [← hsz]; simpa using hv)
    refine wpAny_pyNext_enum_end hh he' hit' hl' hv fun h₁ he₁ => wpAny_execs_nil ?_
    refine done h₁ tk m' D ⟨F'.ns.extBut he₁ (Ne.symm hiL), fun b o x => he₁ b o (fun y => ?_) (F'.keep b o x), F'.above⟩ (fun q hq => ⟨he₁ _ _ (fun y => hiD' (List.mem_map.mpr ⟨q, hq, y⟩)) (N' q hq).1, (N' q hq).2⟩) (hsz' ▸ hJ)
    rw [y, hgi] at x; cases x
  | some v =>
    have hlt : i < ns.length := by rw [← hsz]; exact (Array.getElem?_eq_some_iff.mp hv).1
    obtain ⟨tv, hg⟩ := hi.get i _ (List.getElem?_eq_getElem hlt)
    have hv2 : vs[i]? = some v := by simpa using hv
    rw [hg] at hv2
    obtain rfl := (Option.some.inj hv2).symm
    have heH : e < H.objs.size := Heap.lt_size he'
    have hLH : env.locals < H.objs.size := F'.ns.lt
    obtain ⟨oi, hoi, _⟩ := id hit'
    have hiH : it < H.objs.size := Heap.lt_size hoi
    refine wpAny_pyNext_enum_item he' hit' hl' hv hei fun h₁ heo hit₁ ht₁ hz₁ hk₁ => ?_
    refine wpAny_letOwnedTupleGo_enum heo fun h₂ he₂ hs₂ => ?_
    replace hs₂ : Heap.SameBut e h₁ h₂ := hs₂
    have ht₂ : h₂.IsTuple H.objs.size #[.int i tk, .int ns[i] tv] := ⟨_, (hs₂.2 _ (Nat.ne_of_gt heH)).trans ht₁, rfl, _, rfl⟩
    have hz₂ : h₂.objs.size = H.objs.size + 1 := hs₂.1.trans hz₁
    refine wpAny_assign_Tuple hh ht₂ rfl rfl fun h₃ hx₃ => ?_
    replace hx₃ : Heap.ExtBut h₂.objs.size h₂ h₃ := hx₃
    have old₃ : ∀ b o, b < H.objs.size → h₂.get? b = some o → h₃.get? b = some o := fun b o hb x => hx₃ b o (by rw [hz₂]; exact Nat.ne_of_lt (Nat.lt_succ_of_lt hb)) x
    have hn₃ : h₃.Ns env.locals m' := (F'.ns.at fun o x => hk₁ _ o (Ne.symm heL) (Ne.symm hiL) x).sameBut hs₂ (Ne.symm heL) |>.at fun o x => old₃ _ o hLH x
    show wpAny _ A (do holding [.int ns[i] tv] (assign (.Name xi pi) env (.int i tk)); do holding [] (assign (.Name xv pv) env (.int ns[i] tv)); pure ()) _ _ _
    refine wpAny_bind (wpAny_holding (wpAny_assign_Name (wpAny_storeName_local hxi hn₃ (fun h₄ hn₄ hs₄ => ?_) hp)))
    replace hs₄ : Heap.SameBut env.locals h₃ h₄ := hs₄
    refine wpAny_bind (wpAny_holding (wpAny_assign_Name (wpAny_storeName_local hxv hn₄ (fun h₅ hn₅ hs₅ => wpAny_pure ?_) hp)))
    replace hs₅ : Heap.SameBut env.locals h₄ h₅ := hs₅
    have up : ∀ b o, b ≠ env.locals → b < H.objs.size → h₂.get? b = some o → h₅.get? b = some o := fun b o hbL hb x =>
      (hs₅.extBut b o hbL (hs₄.extBut b o hbL (old₃ b o hb x)))
    have up2 : ∀ b o, b ≠ env.locals → b ≠ e → b ≠ it → H.get? b = some o → h₅.get? b = some o := fun b o hbL hbe hbi x =>
      up b o hbL (Heap.lt_size x) (hs₂.extBut b o hbe (hk₁ b o hbe hbi x))
    have he₅ := up e _ heL heH he₂
    obtain ⟨io, hio₁, hic, hid⟩ := hit₁
    have hi₅ := up it _ hiL hiH (hs₂.extBut it io (Ne.symm hei) hio₁)
    have N₅ : News g env.locals h₅ ((e, _) :: (it, io) :: D) := fun q hq => by
      rcases List.mem_cons.mp hq with rfl | hq
      · exact ⟨he₅, heL, hge⟩
      rcases List.mem_cons.mp hq with rfl | hq
      · exact ⟨hi₅, hiL, hgi⟩
      · exact ⟨up2 _ _ (N' q hq).2.1 (fun y => heD' (List.mem_map.mpr ⟨q, hq, y⟩)) (fun y => hiD' (List.mem_map.mpr ⟨q, hq, y⟩)) (N' q hq).1, (N' q hq).2⟩
    have F₅ : Fr g env.locals h₅ (fun y => if y = xv then some (.int ns[i] tv) else if y = xi then some (.int i tk) else m' y) := by
      refine ⟨hn₅, fun b o x => up2 b o ?_ ?_ ?_ (F'.keep b o x), F'.above⟩
      · exact Nat.ne_of_lt (Nat.lt_of_lt_of_le (Heap.lt_size x) F'.above)
      · intro y; rw [y, hge] at x; cases x
      · intro y; rw [y, hgi] at x; cases x
    refine wpAny_mono (turn i _ tv tk m' D h₅ _ _ io (List.getElem?_eq_getElem hlt) hJ (fun q hq => ?_) hei F₅ N₅) (fun f s₃ h₆ => ?_) fun _ _ x => x.elim
    · rcases List.mem_cons.mp hq with rfl | hq
      · exact heD'
      · rw [List.mem_singleton.mp hq]; exact hiD'
    obtain ⟨rfl, h₆, tk₆, m₂, D₂, rfl, F₆, N₆, hap₆, hJ₆⟩ := h₆
    refine ⟨ns.length + 1 - (i + 1), by omega, h₆, tk₆, m₂, D₂, i + 1, .int ns[i] tv, rfl, ?_, ⟨io, (N₆ (it, io) (.tail _ (.head _))).1, hic, hid⟩, F₆, fun q hq => N₆ q (List.mem_append_right _ hq), hap₆ _ (.head _), hap₆ (it, io) (.tail _ (.head _)), hJ₆, hlt, rfl⟩
    have := (N₆ _ (.head _)).1
    rw [show ((i + 1 : Nat) : Int) = (i : Int) + 1 by push_cast; rfl]
    exact this
end
end Mine
end

section
open PySem PySem.W PySem.Calls PyProof.Rows
set_option maxRecDepth 100000
namespace Mine

noncomputable def CompAt (prog : Program) (w : World) (A : Around) (env : Env) (e : Expr) (scope : Scope) (cl : List (Str × Addr)) (use : Option (Value → Sem Unit)) (Q : Value → Shared → Prop) (xv : Value) (s₁ : Shared) : Prop :=
  wpAny (model prog w) A (pyIter xv) (fun it s₂ => wpAny (model prog w) A (newList []) (fun acc s₃ =>
    wpAny (model prog w) A (newFunctionEnv scope env.globals cl [] env.qual none .none (some env)) (fun cenv s₄ =>
      codeAny (model prog w) A (.compStart e 0 it acc { cenv with scope := relabel scope env }) (compPost (model prog w) A (fun _ _ => False) use Q acc cenv.locals) s₄) (fun _ _ => False) s₃) (fun _ _ => False) s₂) (fun _ _ => False) s₁

section
variable {prog : Program} {w : World} {A : Around} {s : Shared} {env : Env} {g : Heap} {L : Addr} {m : Str → Option Value} {news : List (Addr × Obj)} {tgt elt iter : Expr} {scope : Scope} {cl : List (Str × Addr)} {pos : Pos}

theorem evalC {Q : Value → Shared → Prop} (hclos : closureFor scope env = pure cl) (hkind : scope.kind = .function) (hnames : ∀ y ∈ scope.names, y.2 = .local → scope.names.lookup y.1 = some .local)
    (h : wpAny (model prog w) A (eval iter env) (fun xv s₁ => CompAt prog w A env (.ListComp elt [⟨tgt, iter, [], 0⟩] scope pos) scope cl none Q xv s₁) (fun _ _ => False) s) (hs : ∀ x, foldedSetIterable iter env x = pure x) :
    wpAny (model prog w) A (eval (.ListComp elt [⟨tgt, iter, [], 0⟩] scope pos) env) Q (fun _ _ => False) s := by
  rw [eval_ListComp]
  exact wpAny_comprehension_free (use := none) rfl hs hclos hkind hnames h

theorem assignC {Q : Flow → Shared → Prop} {y : Str} {py spos : Pos} (hsw : swapsWith (.ListComp elt [⟨tgt, iter, [], 0⟩] scope pos) (some (.Name y py)) spos.line env = pure true)
    (hclos : closureFor scope env = pure cl) (hkind : scope.kind = .function) (hnames : ∀ y ∈ scope.names, y.2 = .local → scope.names.lookup y.1 = some .local)
    (h : wpAny (model prog w) A (eval iter env) (fun xv s₁ => CompAt prog w A env (.ListComp elt [⟨tgt, iter, [], 0⟩] scope pos) scope cl (some (assign (.Name y py) env)) (fun _ s' => Q .next s') xv s₁) (fun _ _ => False) s) (hs : ∀ x, foldedSetIterable iter env x = pure x) :
    wpAny (model prog w) A (exec (.Assign [.Name y py] (.ListComp elt [⟨tgt, iter, [], 0⟩] scope pos) spos) env) Q (fun _ _ => False) s := by
  rw [exec_Assign_Name_used _ _ _ _ hsw]
  refine wpAny_bind (wpAny_standAt (wpAny_bind ?_))
  show wpAny _ A (do let _ ← comprehension (.ListComp elt [⟨tgt, iter, [], 0⟩] scope pos) scope env _ (newList []) false (eval iter env) (some (assign (.Name y py) env))) _ _ s
  exact wpAny_bind (wpAny_mono (wpAny_comprehension_free (use := some (assign (.Name y py) env)) (Q := fun _ s' => Q .next s') rfl hs hclos hkind hnames h) (fun _ s' hq => wpAny_pure (wpAny_pure hq)) fun _ _ e => e)

/-- an element, made -/
noncomputable def EltEnd (g : Heap) (L : Addr) (m : Str → Option Value) (s : Shared) (led : List (Addr × Obj)) (k : Int) (y : Value) (s₂ : Shared) : Prop :=
  ∃ h' tk t, y = .int k t ∧ s₂ = { s with heap := h', toks := tk } ∧ Fr g L h' m ∧ News g L h' led
theorem EltEnd.intro {led : List (Addr × Obj)} {k k' : Int} {t : Tok} {h' : Heap} {tk : Nat} (F : Fr g L h' m) (N : News g L h' led) (e : k' = k) : EltEnd g L m s led k (.int k' t) { s with heap := h', toks := tk } :=
  ⟨h', tk, t, e ▸ rfl, rfl, F, N⟩

theorem intsAre_push : ∀ {vs : List Value} {ns : List Int} {k : Int} {t : Tok}, IntsAre vs ns → IntsAre (vs ++ [.int k t]) (ns ++ [k])
  | _, _, _, _, .nil => .cons _ _ .nil
  | _, _, _, _, .cons n t h => .cons n t (intsAre_push h)

theorem compRestN {x : Str} {S : List (Addr × Obj) → Prop} {P : Nat → Value → Prop} {Fin : List Value → List (Addr × Obj) → Prop} {n : Nat} (ks : Nat → Int) (hS : S news)
    (turn : ∀ i v I oI C oC D m₂ h tk ys (E' : Value → Shared → Prop), i < n → P i v → LCg.NsObj oC m₂ → m₂ x = some v → Fr g L h m → News g L h ((I, oI) :: (C, oC) :: (D, LCg.lst ys) :: news) → LCg.Off3 I C D news → ((@Ne Nat I C) ∧ (@Ne Nat I D) ∧ (@Ne Nat C D)) →
      wpAny (model prog w) A (eval elt (compEnvC scope cl C env)) (EltEnd g L m { s with heap := h, toks := tk } ((I, oI) :: (C, oC) :: (D, LCg.lst ys) :: news) (ks i)) E' { s with heap := h, toks := tk })
    (fin : ∀ ys, IntsAre ys ((List.range n).map ks) → Fin ys news) : LCg.CompRest prog w A g L m env elt x scope cl s S P Fin n 0 [] news := by
  have key : ∀ k i ys, i + k = n → IntsAre ys ((List.range i).map ks) → LCg.CompRest prog w A g L m env elt x scope cl s S P Fin k i ys news := by
    intro k
    induction k with
    | zero =>
      intro i ys hi hy
      have : i = n := hi
      subst this
      exact LCg.CompRest.zero (fin ys hy)
    | succ k ih =>
      intro i ys hi hy
      refine LCg.CompRest.succ fun v I oI C oC D m₂ h tk E' hP hC hx F N off ne => ?_
      refine wpAny_mono (turn i v I oI C oC D m₂ h tk ys E' (by omega) hP hC hx F N off ne) (fun y s₂ hq => ?_) fun _ _ e => e
      obtain ⟨h', tk', t, rfl, rfl, F', N'⟩ := hq
      refine LCg.CompEnd.intro F' N' news (fun p hp => hp) off hS (ih (i + 1) _ (by omega) ?_)
      rw [List.range_succ, List.map_append]
      exact intsAre_push hy
  exact key n 0 [] (by omega) .nil

/-- a list made of a range -/
theorem compRange {x : Str} {px : Pos} {r : Addr} {a₀ b₀ : Int} {t₀ u₀ v₀ : Tok} {n : Nat} {Q : Value → Shared → Prop} (ks : Nat → Int) (hh : A.handled = none)
    (hr : IsRange s.heap r a₀ b₀ 1 t₀ u₀ v₀) (hsm : Builtin.Range.small a₀ b₀ 1 = true) (hn : Builtin.Range.rangeSize a₀ b₀ 1 = ((n : Nat) : Int)) (hsz : n ≤ sizeLine) (F : Fr g L s.heap m) (N : News g L s.heap news)
    (hcell : ∀ y ∈ scope.names, y.2 ≠ .cell) (hkind : scope.kind = .function) (hx : scope.names.lookup x = some .local)
    (turn : ∀ i t I oI C oC D m₂ h tk ys (E' : Value → Shared → Prop), i < n → LCg.NsObj oC m₂ → m₂ x = some (.int (a₀ + (i : Int)) t) → Fr g L h m → News g L h ((I, oI) :: (C, oC) :: (D, LCg.lst ys) :: news) → LCg.Off3 I C D news → ((@Ne Nat I C) ∧ (@Ne Nat I D) ∧ (@Ne Nat C D)) →
      wpAny (model prog w) A (eval elt (compEnvC scope cl C env)) (EltEnd g L m { s with heap := h, toks := tk } ((I, oI) :: (C, oC) :: (D, LCg.lst ys) :: news) (ks i)) E' { s with heap := h, toks := tk })
    (done : ∀ D ys h tk, IntsAre ys ((List.range n).map ks) → Fr g L h m → News g L h ((D, LCg.lst ys) :: news) → LCg.Off1 D news → Q (.ref D) { s with heap := h, toks := tk }) :
    CompAt prog w A env (.ListComp elt [⟨.Name x px, iter, [], 0⟩] scope pos) scope cl none Q (.ref r) s := by
  refine wpAny_pyIter_range hr hsm ?_
  refine LCg.block_U (LCg.range_walks hh a₀ n) hsz (fun i h st => ⟨_, st⟩) LCg.range_st hcell hkind hx (by show IsRangeIter _ _ _ _ _; rw [hn]; simpa using Heap.get?_push_size _ rfl) (fun b hb => ?_)
    (F.keeps fun _ _ e => Heap.get?_push_of_some _ e) (N.grown fun _ _ e => Heap.get?_push_of_some _ e) (Nat.ne_of_lt F.ns.lt) (next_is_new F) (fun p hp => Nat.ne_of_lt (Heap.lt_size (N p hp).1)) (S := fun _ => True) trivial
    (compRestN (Fin := fun ys nw => nw = news ∧ IntsAre ys ((List.range n).map ks)) ks trivial (fun i v I oI C oC D m₂ h tk ys E' hi hP hC hx F N off ne => ?_) (fun ys hy => ⟨rfl, hy⟩)) ?_
  · rw [List.mem_singleton.mp hb]
    show s.heap.objs.size < (s.heap.push _).objs.size
    rw [Heap.size_push]; exact Nat.lt_succ_self _
  · obtain ⟨t, rfl⟩ := hP
    exact turn i t I oI C oC D m₂ h tk ys E' hi hC hx F N off ne
  · rintro D C h tk m' ys nw F' N' o1 hn' hC₀ hD₀ hCL hDL hCD offC ⟨rfl, hy⟩
    refine ⟨m', hn', fun h'' hs'' => done D ys h'' tk hy (F'.change hs'' hCL hC₀) (fun p hp => ?_) o1⟩
    refine ⟨hs''.extBut _ _ ?_ (N' p hp).1, (N' p hp).2⟩
    rcases List.mem_cons.mp hp with rfl | hp
    · exact Ne.symm hCD
    · exact offC p hp
end
end Mine
end

section
open PySem PySem.W PySem.Calls PyProof.Rows
set_option maxRecDepth 100000
namespace Mine

section
variable {prog : Program} {w : World} {A : Around} {s : Shared} {env : Env} {g : Heap} {L : Addr} {m : Str → Option Value} {news : List (Addr × Obj)} {elt iter : Expr} {scope : Scope} {cl : List (Str × Addr)} {pos : Pos}

theorem block_T {a b : Str} {pa pb tp : Pos} {kk : Nat} {I : Addr} {fp wr : List Addr} {n : Nat} {Pt : Nat → Array Value → Prop} {St : Nat → Heap → Prop} {Mid : Nat → Addr → Heap → Prop} {RR : Value → Addr → Result → Shared → Prop} {E₁ E₂ : Value → Shared → Prop}
    (W : WalksT prog w A I fp wr n Pt St Mid) (PA : Nat → Value → Value → Prop) (hPt : ∀ i vals, Pt i vals → ∃ va vb, vals = #[va, vb] ∧ PA i va vb) (ks : Nat → Int) (hh : A.handled = none) (hsz : n ≤ sizeLine)
    (hcell : ∀ y ∈ scope.names, y.2 ≠ .cell) (hkind : scope.kind = .function) (hxa : scope.names.lookup a = some .local) (hxb : scope.names.lookup b = some .local)
    (hst : St 0 s.heap) (hfp : ∀ b ∈ fp, b < s.heap.objs.size) (hLf : L ∉ fp) (hwr : ∀ b ∈ wr, g.get? b = none) (F : Fr g L s.heap m) (N : News g L s.heap news) (hnw : ∀ p ∈ news, p.1 ∉ wr)
    (turn : ∀ i va vb C oC D ys own m₂ h tk (E' : Value → Shared → Prop), i < n → PA i va vb → LCg.NsObj oC m₂ → m₂ a = some va → m₂ b = some vb → Fr g L h m → News g L h ((C, oC) :: (D, LCg.lst ys) :: (news ++ own)) → @Ne Nat C D → 
      wpAny (model prog w) A (eval elt (compEnvC scope cl C env)) (EltEnd g L m { s with heap := h, toks := tk } ((C, oC) :: (D, LCg.lst ys) :: (news ++ own)) (ks i)) E' { s with heap := h, toks := tk })
    (hab : a ≠ b)
    (hRR : ∀ D C h tk m' ys, Fr g L h m → News g L h ((D, LCg.lst ys) :: news) → LCg.Off1 D news → h.Ns C m' → g.get? C = none → C ≠ L → D ≠ L → C ≠ D → (∀ p ∈ news, p.1 ≠ C) → IntsAre ys ((List.range n).map ks) → RR (.ref D) C (.ok .next) { s with heap := h, toks := tk }) :
    wpAny (model prog w) A (newList []) (fun acc s₃ => wpAny (model prog w) A (newFunctionEnv scope env.globals cl [] env.qual none .none (some env)) (fun cenv s₄ =>
      codeAny (model prog w) A (.compStart (.ListComp elt [⟨.Tuple [.Name a pa, .Name b pb] kk tp, iter, [], 0⟩] scope pos) 0 (.ref I) acc { cenv with scope := relabel scope env }) (RR acc cenv.locals) s₄) E₁ s₃) E₂ s := by
  refine wpAny_newObj_type (wpAny_newFunctionEnv hcell (by intro y hy; simp at hy) (fun h₁ hns₁ hsb₁ => ?_) hkind)
  dsimp only at hns₁ hsb₁ ⊢
  generalize hH : s.heap.push { cls := .type "list", dict := none, data := .seq ([] : List Value).toArray } = H at hns₁ hsb₁ ⊢
  have hC : H.objs.size = s.heap.objs.size + 1 := by rw [← hH, Heap.size_push]
  have low : ∀ b, b < s.heap.objs.size → b ≠ H.objs.size ∧ b ≠ s.heap.objs.size := fun b hb => ⟨by rw [hC]; exact Nat.ne_of_lt (Nat.lt_succ_of_lt hb), Nat.ne_of_lt hb⟩
  have hDC : s.heap.objs.size ≠ H.objs.size := by rw [hC]; exact Nat.ne_of_lt (Nat.lt_succ_self _)
  have hDf : s.heap.objs.size ∉ fp := fun hm => Nat.lt_irrefl _ (hfp _ hm)
  have hCf : H.objs.size ∉ fp := fun hm => (low _ (hfp _ hm)).1 rfl
  have old : ∀ b o, s.heap.get? b = some o → h₁.get? b = some o := fun b o e => hsb₁.extBut b o (low b (Heap.lt_size e)).1 (Heap.get?_push_of_some _ (hH ▸ Heap.get?_push_of_some _ e))
  have hacc : h₁.get? s.heap.objs.size = some (LCg.lst []) := hsb₁.extBut _ _ hDC (Heap.get?_push_of_some _ (hH ▸ Heap.get?_push_size _ rfl))
  have gnone : ∀ x, s.heap.objs.size ≤ x → g.get? x = none := fun x hx => by
    cases e : g.get? x with
    | none => rfl
    | some o => exact absurd (Heap.lt_size (F.keep x o e)) (Nat.not_lt.mpr hx)
  have hDg := gnone _ (Nat.le_refl _)
  have hCg := gnone H.objs.size (by rw [hC]; exact Nat.le_succ _)
  have hLs : L < s.heap.objs.size := F.ns.lt
  have hDL : s.heap.objs.size ≠ L := Ne.symm (low L hLs).2
  have hCL : H.objs.size ≠ L := Ne.symm (low L hLs).1
  have hLw : L ∉ wr := fun h => hLf (W.sub _ h)
  have gw : ∀ b o, g.get? b = some o → b ∉ wr := fun b o e hb => by rw [hwr b hb] at e; cases e
  have noff : ∀ p ∈ news, p.1 ≠ H.objs.size ∧ p.1 ≠ s.heap.objs.size := fun p hp => low _ (Heap.lt_size (N p hp).1)
  have off1 : ∀ {l : List (Addr × Obj)} {d : Addr}, (∀ p ∈ l, p.1 ≠ d) → LCg.Off1 d l := fun {l d} => by
    induction l with
    | nil => intro _; trivial
    | cons p r ih => intro h; exact ⟨h p (.head _), ih fun q hq => h q (.tail _ hq)⟩
  have loop : ∀ s₃ : Shared, s₃ = { s with heap := h₁, toks := s.toks + ([] : List (Str × Value)).length } →
      codeAny (model prog w) A (.compLoop (.ListComp elt [⟨.Tuple [.Name a pa, .Name b pb] kk tp, iter, [], 0⟩] scope pos) 0 (.ref I) (.ref s.heap.objs.size) (compEnvC scope cl H.objs.size env))
        (RR (.ref s.heap.objs.size) H.objs.size) s₃ := by
    rintro s₃ rfl
    refine kcp_loop
      (fun k s' => ∃ h' tk i ys m', s' = { s with heap := h', toks := tk } ∧ i ≤ n ∧ k = n + 1 - i ∧ St i h' ∧ Fr g L h' m ∧ h'.Ns H.objs.size m' ∧ News g L h' ((s.heap.objs.size, LCg.lst ys) :: news) ∧ IntsAre ys ((List.range i).map ks)) ?_ (n + 1)
      ⟨h₁, _, 0, [], _, rfl, Nat.zero_le _, rfl, W.frame _ _ _ hst fun b _ o e => old b o e, F.keeps old, hns₁, fun p hp => ?_, .nil⟩
    · rintro k s' ⟨h', tk, i, ys, m', rfl, hi, rfl, hst', F', hn', N', hy⟩
      have hyl : ys.length = i := by have := hy.length; simpa using this
      have keepW : ∀ {h₂ : Heap}, (∀ b o, b ∉ wr → h'.get? b = some o → h₂.get? b = some o) → Fr g L h₂ m ∧ News g L h₂ ((s.heap.objs.size, LCg.lst ys) :: news) ∧ h₂.Ns H.objs.size m' := fun {h₂} hk => by
        refine ⟨⟨F'.ns.at' fun o e => hk _ o hLw e, fun b o e => hk b o (gw b o e) (F'.keep b o e), F'.above⟩, fun p hp => ⟨hk _ _ ?_ (N' p hp).1, (N' p hp).2⟩, hn'.at' fun o e => hk _ o (fun hm => hCf (W.sub _ hm)) e⟩
        rcases List.mem_cons.mp hp with rfl | hp
        · exact fun hm => hDf (W.sub _ hm)
        · exact hnw p hp
      by_cases hlt : i < n
      · refine W.item i _ _ _ hlt hst' fun T vals h₂ tk₂ hP hT₀ hT hM hk₂ => ?_
        obtain ⟨va, vb, rfl, hPA⟩ := hPt i vals hP
        refine W.go _ _ _ i T _ _ _ hM fun h₃ hst₃ hk₃ => ?_
        have hTw := W.apart i T h₂ hM
        have hT₃ : h₃.IsTuple T #[va, vb] := hT.at fun o e => hk₃ T o hTw e
        have hk₃' : ∀ b o, b ∉ wr → h'.get? b = some o → h₃.get? b = some o := fun b o hb e => hk₃ b o hb (hk₂ b o hb e)
        obtain ⟨F₃, N₃, hn₃⟩ := keepW hk₃'
        refine kcp_assign (env := compEnvC scope cl H.objs.size env) hh hT₃ (lookup_relabel_local hxa) (lookup_relabel_local hxb) (by simp [compEnvC, relabel, hkind]) hn₃ fun h₄ tk₄ hn₄ hk₄ => ?_
        replace hk₄ : ∀ c o, c ≠ H.objs.size → h₃.get? c = some o → h₄.get? c = some o := hk₄
        have F₄ : Fr g L h₄ m := ⟨F₃.ns.at' fun o e => hk₄ _ o (Ne.symm hCL) e, fun b o e => hk₄ b o (fun q => by rw [q, hCg] at e; cases e) (F₃.keep b o e), F₃.above⟩
        have N₄ : News g L h₄ ((s.heap.objs.size, LCg.lst ys) :: news) := fun p hp => by
          refine ⟨hk₄ _ _ ?_ (N₃ p hp).1, (N₃ p hp).2⟩
          rcases List.mem_cons.mp hp with rfl | hp
          · exact hDC
          · exact (noff p hp).1
        have hst₄ : St (i + 1) h₄ := W.frame _ _ _ hst₃ fun b hb o e => hk₄ b o (fun q => hCf (q ▸ hb)) e
        obtain ⟨oC, hoC, hCo⟩ := LCg.ns_obj hn₄
        have hoC' : h₄.get? H.objs.size = some oC := hoC
        have Nown : News g L h₄ (ownOf g fp h₄) := news_ownOf hLf
        have N₅ : News g L h₄ ((H.objs.size, oC) :: (s.heap.objs.size, LCg.lst ys) :: (news ++ ownOf g fp h₄)) := fun p hp => by
          rcases List.mem_cons.mp hp with rfl | hp
          · exact ⟨hoC', hCL, hCg⟩
          rcases List.mem_cons.mp hp with rfl | hp
          · exact N₄ _ (.head _)
          rcases List.mem_append.mp hp with hp | hp
          · exact N₄ _ (.tail _ hp)
          · exact Nown p hp
        refine wpAny_mono (turn i va vb H.objs.size oC s.heap.objs.size ys (ownOf g fp h₄) _ h₄ tk₄ _ hlt hPA hCo (by simp [hab]) (by simp) F₄ N₅ (Ne.symm hDC)) (fun y s₅ hq => ?_) fun _ _ e => e
        obtain ⟨h₅, tk₅, t₅, rfl, rfl, F₅, N₆⟩ := hq
        have zC : h₅.get? H.objs.size = some oC := (N₆ _ (.head _)).1
        have zD : h₅.get? s.heap.objs.size = some (LCg.lst ys) := (N₆ _ (.tail _ (.head _))).1
        have zn : ∀ p ∈ news, h₅.get? p.1 = some p.2 := fun p hp => (N₆ p (.tail _ (.tail _ (List.mem_append_left _ hp)))).1
        have hst₅ : St (i + 1) h₅ := by
          refine W.frame _ _ _ hst₄ fun b hb o e => ?_
          cases hg : g.get? b with
          | some o₀ =>
            have e' := F₄.keep b o₀ hg
            rw [e] at e'
            rw [Option.some.inj e']
            exact F₅.keep b o₀ hg
          | none => exact (N₆ (b, o) (.tail _ (.tail _ (List.mem_append_right _ (mem_ownOf hb hg e))))).1
        refine append_at (hsz := by show ys.toArray.size ≤ sizeLine; rw [List.size_toArray, hyl]; exact Nat.le_trans hi hsz) zD fun h₆ hs₆ hD₆ => ?_
        have hD₆' : h₆.get? s.heap.objs.size = some (LCg.lst (ys ++ [.int (ks i) t₅])) := hD₆.trans (congrArg some (LCg.lst_snoc ys _))
        refine ⟨n + 1 - (i + 1), by omega, h₆, tk₅, i + 1, ys ++ [.int (ks i) t₅], _, rfl, hlt, rfl, W.frame _ _ _ hst₅ fun b hb o e => hs₆.extBut b o (fun q => hDf (q ▸ hb)) e, F₅.change hs₆ hDL hDg,
          (hCo.ns zC).sameBut hs₆ (Ne.symm hDC), fun p hp => ?_, ?_⟩
        · rcases List.mem_cons.mp hp with rfl | hp
          · exact ⟨hD₆', hDL, hDg⟩
          · exact ⟨hs₆.extBut _ _ (noff p hp).2 (zn p hp), (N p hp).2⟩
        · rw [List.range_succ, List.map_append]
          exact intsAre_push hy
      · obtain rfl : i = n := Nat.le_antisymm hi (Nat.not_lt.mp hlt)
        refine W.done _ _ _ hst' fun h₂ tk₂ hk₂ => ?_
        obtain ⟨F₂, N₂, hn₂⟩ := keepW hk₂
        exact hRR _ _ h₂ tk₂ m' ys F₂ N₂ (off1 fun p hp => (noff p hp).2) hn₂ hCg hCL hDL (Ne.symm hDC) (fun p hp => (noff p hp).1) hy
    · rcases List.mem_cons.mp hp with rfl | hp
      · exact ⟨hacc, hDL, hDg⟩
      · exact ⟨old _ _ (N p hp).1, (N p hp).2⟩
  exact codeAny_compStart_list (loop _ rfl) (W.self 0 _ _ _ (W.frame _ _ _ hst fun b _ o e => old b o e) (loop _ rfl))

/-- a list made of pairs, stored in a local -/
theorem compT_A {a b y : Str} {pa pb tp py : Pos} {kk : Nat} {I : Addr} {fp wr : List Addr} {n : Nat} {Pt : Nat → Array Value → Prop} {St : Nat → Heap → Prop} {Mid : Nat → Addr → Heap → Prop} {Q : Shared → Prop}
    (W : WalksT prog w A I fp wr n Pt St Mid) (PA : Nat → Value → Value → Prop) (hPt : ∀ i vals, Pt i vals → ∃ va vb, vals = #[va, vb] ∧ PA i va vb) (ks : Nat → Int) (hh : A.handled = none) (hsz : n ≤ sizeLine)
    (hcell : ∀ y ∈ scope.names, y.2 ≠ .cell) (hkind : scope.kind = .function) (hxa : scope.names.lookup a = some .local) (hxb : scope.names.lookup b = some .local) (hab : a ≠ b) (hLe : env.locals = L) (hy : env.kindOf y = some .local)
    (hp : (env.scope.kind == .class || (env.scope.kind == .module && env.locals != env.globals)) = false)
    (hst : St 0 s.heap) (hfp : ∀ b ∈ fp, b < s.heap.objs.size) (hLf : L ∉ fp) (hwr : ∀ b ∈ wr, g.get? b = none) (F : Fr g L s.heap m) (N : News g L s.heap news) (hnw : ∀ p ∈ news, p.1 ∉ wr)
    (turn : ∀ i va vb C oC D ys own m₂ h tk (E' : Value → Shared → Prop), i < n → PA i va vb → LCg.NsObj oC m₂ → m₂ a = some va → m₂ b = some vb → Fr g L h m → News g L h ((C, oC) :: (D, LCg.lst ys) :: (news ++ own)) → @Ne Nat C D →
      wpAny (model prog w) A (eval elt (compEnvC scope cl C env)) (EltEnd g L m { s with heap := h, toks := tk } ((C, oC) :: (D, LCg.lst ys) :: (news ++ own)) (ks i)) E' { s with heap := h, toks := tk })
    (done : ∀ D ys h tk, IntsAre ys ((List.range n).map ks) → Fr g L h (fun z => if z = y then some (.ref D) else m z) → News g L h ((D, LCg.lst ys) :: news) → LCg.Off1 D news → Q { s with heap := h, toks := tk }) :
    CompAt prog w A env (.ListComp elt [⟨.Tuple [.Name a pa, .Name b pb] kk tp, iter, [], 0⟩] scope pos) scope cl (some (assign (.Name y py) env)) (fun _ s' => Q s') (.ref I) s := by
  subst hLe
  refine W.self 0 _ _ _ hst ?_
  refine block_T W PA hPt ks hh hsz hcell hkind hxa hxb hst hfp hLf hwr F N hnw turn hab ?_
  intro D C h' tk m' ys F' N' o1 hn hC₀ hCL hDL hCD offC hy'
  show wpAny _ A (assign (.Name y py) env (.ref D)) _ _ _
  refine wpAny_assign_Name (wpAny_storeName_local hy F'.ns (fun h₂ hn₂ hs₂ => ?_) hp)
  have hL₀ : g.get? env.locals = none := Heap.get?_none_of_le F'.above
  have F₂ : Fr g env.locals h₂ (fun z => if z = y then some (.ref D) else m z) := ⟨hn₂, fun b o e => hs₂.extBut b o (fun q => by rw [q, hL₀] at e; cases e) (F'.keep b o e), F'.above⟩
  refine ⟨m', hn.sameBut hs₂ hCL, fun h'' hs'' => done D ys h'' _ hy' (F₂.change hs'' hCL hC₀) (fun p hp => ?_) o1⟩
  have z : h₂.get? p.1 = some p.2 := hs₂.extBut _ _ (N' p hp).2.1 (N' p hp).1
  refine ⟨hs''.extBut _ _ ?_ z, (N' p hp).2⟩
  rcases List.mem_cons.mp hp with rfl | hp
  · exact Ne.symm hCD
  · exact offC p hp

/-- a list made of pairs, as a value -/
theorem compT_E {a b : Str} {pa pb tp : Pos} {kk : Nat} {I : Addr} {fp wr : List Addr} {n : Nat} {Pt : Nat → Array Value → Prop} {St : Nat → Heap → Prop} {Mid : Nat → Addr → Heap → Prop} {Q : Value → Shared → Prop}
    (W : WalksT prog w A I fp wr n Pt St Mid) (PA : Nat → Value → Value → Prop) (hPt : ∀ i vals, Pt i vals → ∃ va vb, vals = #[va, vb] ∧ PA i va vb) (ks : Nat → Int) (hh : A.handled = none) (hsz : n ≤ sizeLine)
    (hcell : ∀ y ∈ scope.names, y.2 ≠ .cell) (hkind : scope.kind = .function) (hxa : scope.names.lookup a = some .local) (hxb : scope.names.lookup b = some .local) (hab : a ≠ b)
    (hst : St 0 s.heap) (hfp : ∀ b ∈ fp, b < s.heap.objs.size) (hLf : L ∉ fp) (hwr : ∀ b ∈ wr, g.get? b = none) (F : Fr g L s.heap m) (N : News g L s.heap news) (hnw : ∀ p ∈ news, p.1 ∉ wr)
    (turn : ∀ i va vb C oC D ys own m₂ h tk (E' : Value → Shared → Prop), i < n → PA i va vb → LCg.NsObj oC m₂ → m₂ a = some va → m₂ b = some vb → Fr g L h m → News g L h ((C, oC) :: (D, LCg.lst ys) :: (news ++ own)) → @Ne Nat C D →
      wpAny (model prog w) A (eval elt (compEnvC scope cl C env)) (EltEnd g L m { s with heap := h, toks := tk } ((C, oC) :: (D, LCg.lst ys) :: (news ++ own)) (ks i)) E' { s with heap := h, toks := tk })
    (done : ∀ D ys h tk, IntsAre ys ((List.range n).map ks) → Fr g L h m → News g L h ((D, LCg.lst ys) :: news) → LCg.Off1 D news → Q (.ref D) { s with heap := h, toks := tk }) :
    CompAt prog w A env (.ListComp elt [⟨.Tuple [.Name a pa, .Name b pb] kk tp, iter, [], 0⟩] scope pos) scope cl none Q (.ref I) s := by
  refine W.self 0 _ _ _ hst ?_
  refine block_T W PA hPt ks hh hsz hcell hkind hxa hxb hst hfp hLf hwr F N hnw turn hab ?_
  intro D C h' tk m' ys F' N' o1 hn hC₀ hCL hDL hCD offC hy'
  refine ⟨m', hn, fun h'' hs'' => done D ys h'' tk hy' (F'.change hs'' hCL hC₀) (fun p hp => ?_) o1⟩
  refine ⟨hs''.extBut _ _ ?_ (N' p hp).1, (N' p hp).2⟩
  rcases List.mem_cons.mp hp with rfl | hp
  · exact Ne.symm hCD
  · exact offC p hp

/-- enumerate of a list of the ledger -/
theorem call_enumN {l : Addr} {vs : List Value} {k : Nat} {Q E : Value → Shared → Prop} (hm : (l, listOf vs.toArray k) ∈ news) (F : Fr g L s.heap m) (N : News g L s.heap news)
    (h : ∀ h' e it, Fr g L h' m → News g L h' news → EnumNew g L h' e it l news → Q (.ref e) { s with heap := h' }) :
    wpAny (model prog w) A (call (.type "enumerate") [.ref l]) Q E s := by
  have hls : s.heap.IsList l vs.toArray := ⟨_, (N _ hm).1, rfl, k, rfl⟩
  refine call_enumerate_list hls fun h' he hit hsz hk => ?_
  have F' : Fr g L h' m := ⟨F.ns.keeps hk, fun b o e => hk b o (F.keep b o e), F.above⟩
  have N' : News g L h' news := fun p hp => ⟨hk _ _ (N p hp).1, (N p hp).2⟩
  have hLs : L < s.heap.objs.size := F.ns.lt
  have hab := F.above
  have off : ∀ x, s.heap.objs.size ≤ x → x ∉ news.map (·.1) := fun x hx hm => by
    obtain ⟨q, hq, rfl⟩ := List.mem_map.mp hm
    exact absurd (Heap.lt_size (N q hq).1) (Nat.not_lt.mpr hx)
  exact h h' _ _ F' N' ⟨he, hit, Nat.succ_ne_self _, Nat.ne_of_gt (Nat.lt_succ_of_lt hLs), Nat.ne_of_gt hLs,
    Heap.get?_none_of_le (Nat.le_trans hab (Nat.le_of_lt (Nat.lt_succ_of_lt hLs))), Heap.get?_none_of_le (Nat.le_trans hab (Nat.le_of_lt hLs)), off _ (Nat.le_succ _), off _ (Nat.le_refl _)⟩

/-- a list made of enumerate(a list of ints of the ledger), stored in a local -/
theorem compEnumA {a b y : Str} {pa pb tp py : Pos} {kk : Nat} {e it l : Addr} {vs : List Value} {ns : List Int} {k : Nat} {Q : Shared → Prop} (ks : Nat → Int)
    (EN : EnumNew g L s.heap e it l news) (F : Fr g L s.heap m) (N : News g L s.heap news) (hm : (l, listOf vs.toArray k) ∈ news) (hi : IntsAre vs ns) (hh : A.handled = none) (hsz : ns.length ≤ sizeLine)
    (hcell : ∀ y ∈ scope.names, y.2 ≠ .cell) (hkind : scope.kind = .function) (hxa : scope.names.lookup a = some .local) (hxb : scope.names.lookup b = some .local) (hab : a ≠ b) (hLe : env.locals = L) (hy : env.kindOf y = some .local)
    (hp : (env.scope.kind == .class || (env.scope.kind == .module && env.locals != env.globals)) = false)
    (turn : ∀ (i : Nat) t (n : Int) tn C oC D ys own m₂ h tk (E' : Value → Shared → Prop), ns[i]? = some n → LCg.NsObj oC m₂ → m₂ a = some (.int (i : Int) t) → m₂ b = some (.int n tn) → Fr g L h m → News g L h ((C, oC) :: (D, LCg.lst ys) :: (news ++ own)) → @Ne Nat C D →
      wpAny (model prog w) A (eval elt (compEnvC scope cl C env)) (EltEnd g L m { s with heap := h, toks := tk } ((C, oC) :: (D, LCg.lst ys) :: (news ++ own)) (ks i)) E' { s with heap := h, toks := tk })
    (done : ∀ D ys h tk, IntsAre ys ((List.range ns.length).map ks) → Fr g L h (fun z => if z = y then some (.ref D) else m z) → News g L h ((D, LCg.lst ys) :: news) → LCg.Off1 D news → Q { s with heap := h, toks := tk }) :
    CompAt prog w A env (.ListComp elt [⟨.Tuple [.Name a pa, .Name b pb] kk tp, iter, [], 0⟩] scope pos) scope cl (some (assign (.Name y py) env)) (fun _ s' => Q s') (.ref e) s := by
  have hl : s.heap.IsList l vs.toArray := ⟨_, (N _ hm).1, rfl, k, rfl⟩
  have hlm : l ∈ news.map (·.1) := List.mem_map.mpr ⟨_, hm, rfl⟩
  have hle : l ≠ e := fun h => EN.heD (h ▸ hlm)
  have hli : l ≠ it := fun h => EN.hiD (h ▸ hlm)
  have hls : vs.toArray.size = ns.length := by simp [hi.length]
  have W := WalksT.enumerate (prog := prog) (w := w) hh e it l EN.hei hle hli vs.toArray
  rw [hls] at W
  obtain ⟨oi, hoi, _⟩ := id EN.hit
  refine compT_A W (fun i va vb => ∃ t n tn, ns[i]? = some n ∧ va = .int (i : Int) t ∧ vb = .int n tn) ?_ ks hh hsz hcell hkind hxa hxb hab hLe hy hp ⟨⟨_, EN.he⟩, EN.hit, hl⟩ ?_ ?_ ?_ F N ?_ ?_ done
  · rintro i vals ⟨t, x, hx, rfl⟩
    refine ⟨_, _, rfl, t, ?_⟩
    have hx2 : vs[i]? = some x := by simpa using hx
    have hlt : i < ns.length := by rw [← hi.length]; exact (List.getElem?_eq_some_iff.mp hx2).1
    obtain ⟨tv, hg⟩ := hi.get i _ (List.getElem?_eq_getElem hlt)
    rw [hg] at hx2
    exact ⟨_, tv, List.getElem?_eq_getElem hlt, rfl, (Option.some.inj hx2).symm⟩
  · intro b hb
    rcases List.mem_cons.mp hb with rfl | hb
    · exact Heap.lt_size EN.he
    rcases List.mem_cons.mp hb with rfl | hb
    · exact Heap.lt_size hoi
    · rw [List.mem_singleton.mp hb]; exact Heap.lt_size (N _ hm).1
  · intro hb
    rcases List.mem_cons.mp hb with e1 | hb
    · exact EN.heL e1.symm
    rcases List.mem_cons.mp hb with e1 | hb
    · exact EN.hiL e1.symm
    · exact (N _ hm).2.1 (List.mem_singleton.mp hb).symm
  · intro b hb
    rcases List.mem_cons.mp hb with rfl | hb
    · exact EN.hge
    · rw [List.mem_singleton.mp hb]; exact EN.hgi
  · intro p hp hb
    rcases List.mem_cons.mp hb with e1 | hb
    · exact EN.heD (List.mem_map.mpr ⟨p, hp, e1⟩)
    · exact EN.hiD (List.mem_map.mpr ⟨p, hp, List.mem_singleton.mp hb⟩)
  · rintro i va vb C oC D ys own m₂ h tk E' hi' ⟨t, n, tn, hn, rfl, rfl⟩ hC h1 h2 F' N' hCD
    exact turn i t n tn C oC D ys own m₂ h tk E' hn hC h1 h2 F' N' hCD
end
end Mine
end

section
open PySem PySem.W PySem.Calls PyProof.Rows
open PySem.AutoSeq1 (wpAny_loadPart')
set_option maxRecDepth 100000
namespace Mine

section
variable {prog : Program} {w : World} {A : Around} {E : Value → Shared → Prop} {s : Shared}

theorem nextOf_rev_item {it l : Addr} {i : Nat} {items : Array Value} {x : Value} {Q : Value → Shared → Prop} (hit : s.heap.IsRevIter it l (i : Int)) (hl : s.heap.IsList l items) (hx : items[i]? = some x)
    (hQ : ∀ h', h'.IsRevIter it l ((i : Int) - 1) → Heap.SameBut it s.heap h' → Q x { s with heap := h' }) : wpAny (model prog w) A (Builtin.SmallTypes.nextOf (.ref it)) Q E s := by
  obtain ⟨o, ho, hc, hd⟩ := id hit
  obtain ⟨ol, hol, _, nl, hdl⟩ := hl
  unfold Builtin.SmallTypes.nextOf
  refine wpAny_bind (wpAny_callSpecial?_slot (name := Str.ofString "__next__") hit.typeIs F.slot_lri_next
    (wpAny_call_entry F.slot_lri_next hit.typeIs F.entry_lri_next ?_ (F.args_lri_next_1 _)))
  unfold Builtin.«list_reverseiterator.__next__»
  refine wpAny_bind (wpAny_of_eq (a := (Value.ref it, [])) rfl ?_)
  try dsimp only
  refine wpAny_bind (wpAny_field ho hd (x := rawInt (i : Int)) rfl ?_)
  show wpAny _ _ (if (i : Int) < 0 then _ else _) _ _ s
  rw [if_neg (by omega)]
  show wpAny _ _ (field (.ref it) 0 >>= _) _ _ s
  refine wpAny_bind (wpAny_field ho hd (x := .ref l) rfl ?_)
  show wpAny _ _ (seqItems? (.ref l) >>= _) _ _ s
  refine wpAny_bind (wpAny_seqItems hol hdl ?_)
  simp only [Int.toNat_natCast, hx]
  refine wpAny_bind (wpAny_setField ho hd (by simp) ?_)
  first
  | refine wpAny_pure ⟨x, rfl, wpAny_pure (hQ _ ?_ (Heap.SameBut.update ..))⟩
  | refine wpAny_bind (wpAny_pure (wpAny_pure ⟨x, rfl, wpAny_pure (hQ _ ?_ (Heap.SameBut.update ..))⟩))
  exact ⟨_, Heap.get?_update_self _ ho (Obj.isFreed_of_fields (Obj.data_mapFields hd _)), (Obj.cls_mapFields ..).trans hc, by
    rw [Obj.data_mapFields hd]; simp⟩

theorem nextOf_rev_end {it l : Addr} {Q : Value → Shared → Prop} (hh : A.handled = none) (hit : s.heap.IsRevIter it l (-1))
    (hE : ∀ h' e, Heap.ExtBut it s.heap h' → (∃ o, h'.get? e = some o ∧ o.cls = .type "StopIteration") → E (.ref e) { s with heap := h' }) : wpAny (model prog w) A (Builtin.SmallTypes.nextOf (.ref it)) Q E s := by
  obtain ⟨o, ho, hc, hd⟩ := id hit
  unfold Builtin.SmallTypes.nextOf
  refine wpAny_bind (wpAny_callSpecial?_slot (name := Str.ofString "__next__") hit.typeIs F.slot_lri_next
    (wpAny_call_entry F.slot_lri_next hit.typeIs F.entry_lri_next ?_ (F.args_lri_next_1 _)))
  unfold Builtin.«list_reverseiterator.__next__»
  refine wpAny_bind (wpAny_of_eq (a := (Value.ref it, [])) rfl ?_)
  try dsimp only
  refine wpAny_bind (wpAny_field ho hd (x := rawInt (-1)) rfl ?_)
  show wpAny _ _ (if (-1 : Int) < 0 then _ else _) _ _ s
  rw [if_pos (by decide)]
  refine wpAny_bind (wpAny_rule ?_)
  first
  | show wpAny _ _ (newExc (.type "StopIteration") [] >>= _) _ _ _
  | (refine wpAny_bind ?_; show wpAny _ _ (newExc (.type "StopIteration") [] >>= _) _ _ _)
  refine wpAny_bind ?_
  simp only [newExc, newTuple]
  refine wpAny_bind (wpAny_newObj_type ?_ (by size_fits))
  refine wpAny_bind (m := firstArgMember _ _) (wpAny_of_eq (a := Value.none) (by first | rfl | (simp only [firstArgMember]; rfl)) ?_)
  refine wpAny_newObj_type ?_ (by size_fits)
  simp only [raiseNew]
  refine wpAny_bind (wpAny_handled ?_)
  first | rw [show A.in1.handled = none from hh] | rw [hh]
  refine wpAny_bind (wpAny_pure (wpAny_throw ?_))
  exact hE _ _ (((Heap.ExtBut.refl _ _).push _).push _) ⟨_, Heap.get?_push_size _ rfl, rfl⟩

theorem drawsRev (hh : A.handled = none) (it l : Addr) (hne : l ≠ it) (items : Array Value) :
    Draws prog w A it [it, l] items.size (fun i v => i < items.size ∧ items[items.size - 1 - i]? = some v) (fun i h => i ≤ items.size ∧ h.IsRevIter it l ((items.size : Int) - 1 - (i : Int)) ∧ h.IsList l items) where
  live := fun _ _ st => let ⟨o, ho, _⟩ := st.2.1; ⟨o, ho⟩
  frame := fun _ _ _ st hk => ⟨st.1, st.2.1.at fun o e => hk it (by simp) o e, st.2.2.at fun o e => hk l (by simp) o e⟩
  item := fun i s Q E hi st hQ => by
    have e : (items.size : Int) - 1 - (i : Int) = ((items.size - 1 - i : Nat) : Int) := by omega
    have hit := st.2.1
    rw [e] at hit
    have hx : items[items.size - 1 - i]? = some (items[items.size - 1 - i]'(by omega)) := Array.getElem?_eq_getElem (by omega)
    refine nextOf_rev_item hit st.2.2 hx fun h' hit' hs' => ?_
    have e2 : ((items.size - 1 - i : Nat) : Int) - 1 = (items.size : Int) - 1 - ((i + 1 : Nat) : Int) := by omega
    rw [e2] at hit'
    exact hQ _ h' s.toks ⟨hi, hx⟩ ⟨hi, hit', st.2.2.extBut hs'.extBut hne⟩ hs'
  done := fun s Q E st hE => by
    have e : (items.size : Int) - 1 - (items.size : Int) = -1 := by omega
    have hit := st.2.1
    rw [e] at hit
    exact nextOf_rev_end hh hit hE
end

theorem meets_enumerate_newR (R l : Addr) (i : Int) :
    Meets (Builtin.«enumerate.__new__» ⟨[.type "enumerate", .ref R], []⟩) (fun _ RR s => s.heap.get? R = some (revObj l i) ∧
      RR (.ok (.ret (.ref s.heap.objs.size))) { s with heap := s.heap.push { cls := .type "enumerate", data := .fields #[.none, .bool false, .ref R, rawInt 0, .none, .none] } }) :=
  .of_wp fun prog w A RR s h => by
    obtain ⟨hp, g, d, tk, os⟩ := s; obtain ⟨hl, h⟩ := h
    have hsub := sub_enumerate
    have hL : Heap.IsRevIter (Shared.heap ⟨hp, g, d, tk, os⟩) R l i := ⟨_, hl, rfl, rfl⟩
    wp_walk using wpAny_loadPart' hl
    refine wpAny_stack_any fun st => wpAny_pure ?_
    split
    · rename_i c _ _ _ _ _
      cases (c == Value.type "enumerate")
      · wp_walk using wpAny_loadPart' hl, wpAny_pyIter_revIter hL
        exact ⟨_, rfl, h⟩
      · wp_walk using wpAny_loadPart' hl, wpAny_pyIter_revIter hL
        exact ⟨_, rfl, h⟩
    · wp_walk using wpAny_loadPart' hl, wpAny_pyIter_revIter hL
      exact ⟨_, rfl, h⟩

section
variable {prog : Program} {w : World} {A : Around} {s : Shared} {env : Env} {g : Heap} {L : Addr} {m : Str → Option Value} {news : List (Addr × Obj)} {elt iter : Expr} {scope : Scope} {cl : List (Str × Addr)} {pos : Pos}

/-- enumerate of a reverse iterator of the ledger -/
theorem call_enumR {R l : Addr} {i : Int} {Q E : Value → Shared → Prop} (F : Fr g L s.heap m) (N : News g L s.heap ((R, revObj l i) :: news))
    (h : ∀ h' e, Fr g L h' m → News g L h' ((R, revObj l i) :: news) → IsEnum h' e R 0 .none → g.get? e = none → e ≠ L → (∀ p ∈ (R, revObj l i) :: news, p.1 < e) → Q (.ref e) { s with heap := h' }) :
    wpAny (model prog w) A (call (.type "enumerate") [.ref R]) Q E s := by
  refine callType_new PySem.F.called_enumerate (by decide) (PySem.F.typeCall_enumerate_1 _) (PySem.F.newCall_enumerate_1 _) (fun obj => PySem.F.args_object_init_2 obj _) PySem.F.entry_enumerate_new
    (meets_enumerate_newR R l i) ⟨(N _ (.head _)).1, ?_⟩
  have he : IsEnum (s.heap.push { cls := .type "enumerate", data := .fields #[.none, .bool false, .ref R, rawInt 0, .none, .none] }) s.heap.objs.size R 0 .none := Heap.get?_push_size _ rfl
  show _ ∧ _
  exact ⟨⟨_, he, rfl⟩, h _ _ (F.push _) (N.grown fun _ _ x => Heap.get?_push_of_some _ x) he (next_is_new F) (Nat.ne_of_gt F.ns.lt) fun p hp => Heap.lt_size (N p hp).1⟩

theorem compEnumR {a b : Str} {pa pb tp : Pos} {kk : Nat} {e R l : Addr} {vs : List Value} {ns : List Int} {k : Nat} {Q : Value → Shared → Prop} (ks : Nat → Int)
    (he : IsEnum s.heap e R 0 .none) (F : Fr g L s.heap m) (N : News g L s.heap ((R, revObj l ((vs.length : Int) - 1)) :: news)) (hge : g.get? e = none) (heL : e ≠ L) (hlt : ∀ p ∈ (R, revObj l ((vs.length : Int) - 1)) :: news, p.1 < e) (hR : ∀ p ∈ news, p.1 ≠ R)
    (hm : (l, listOf vs.toArray k) ∈ news) (hi : IntsAre vs ns) (hh : A.handled = none) (hsz : ns.length ≤ sizeLine)
    (hcell : ∀ y ∈ scope.names, y.2 ≠ .cell) (hkind : scope.kind = .function) (hxa : scope.names.lookup a = some .local) (hxb : scope.names.lookup b = some .local) (hab : a ≠ b)
    (turn : ∀ (i : Nat) t (n : Int) tn C oC D ys own m₂ h tk (E' : Value → Shared → Prop), ns.reverse[i]? = some n → LCg.NsObj oC m₂ → m₂ a = some (.int (i : Int) t) → m₂ b = some (.int n tn) → Fr g L h m → News g L h ((C, oC) :: (D, LCg.lst ys) :: (news ++ own)) → @Ne Nat C D →
      wpAny (model prog w) A (eval elt (compEnvC scope cl C env)) (EltEnd g L m { s with heap := h, toks := tk } ((C, oC) :: (D, LCg.lst ys) :: (news ++ own)) (ks i)) E' { s with heap := h, toks := tk })
    (done : ∀ D ys h tk, IntsAre ys ((List.range ns.length).map ks) → Fr g L h m → News g L h ((D, LCg.lst ys) :: news) → LCg.Off1 D news → Q (.ref D) { s with heap := h, toks := tk }) :
    CompAt prog w A env (.ListComp elt [⟨.Tuple [.Name a pa, .Name b pb] kk tp, iter, [], 0⟩] scope pos) scope cl none Q (.ref e) s := by
  have hRx := N _ (.head _)
  have hlx := N _ (.tail _ hm)
  have hl : s.heap.IsList l vs.toArray := ⟨_, hlx.1, rfl, k, rfl⟩
  have hlR : l ≠ R := hR _ hm
  have heR : e ≠ R := Ne.symm (Nat.ne_of_lt (hlt _ (.head _)))
  have hel : e ≠ l := Ne.symm (Nat.ne_of_lt (hlt _ (.tail _ hm)))
  have hsz2 : vs.toArray.size = ns.length := by simp [hi.length]
  have hnl : vs.length = ns.length := hi.length
  have W := WalksT.enumerateD (drawsRev (prog := prog) (w := w) (A := A.in1) hh R l hlR vs.toArray) e heR (by simp [heR, hel]) (by simp)
  rw [hsz2] at W
  refine compT_E W (fun i va vb => ∃ t n tn, ns.reverse[i]? = some n ∧ va = .int (i : Int) t ∧ vb = .int n tn) ?_ ks hh hsz hcell hkind hxa hxb hab ⟨⟨_, he⟩, Nat.zero_le _, ⟨_, hRx.1, rfl, ?_⟩, hl⟩ ?_ ?_ ?_ F (fun p hp => N p (.tail _ hp)) ?_ ?_ done
  · rintro i vals ⟨t, x, ⟨hin, hx⟩, rfl⟩
    refine ⟨_, _, rfl, t, ?_⟩
    have hx2 : vs[ns.length - 1 - i]? = some x := by simpa [hnl] using hx
    have hlt2 : ns.length - 1 - i < ns.length := by rw [← hnl]; exact hnl ▸ (List.getElem?_eq_some_iff.mp hx2).1
    obtain ⟨tv, hg⟩ := hi.get (ns.length - 1 - i) _ (List.getElem?_eq_getElem hlt2)
    rw [hg] at hx2
    exact ⟨_, tv, by rw [List.getElem?_reverse hin]; exact List.getElem?_eq_getElem hlt2, rfl, (Option.some.inj hx2).symm⟩
  · show Data.fields _ = _
    rw [hnl]; simp
  · intro b hb
    rcases List.mem_cons.mp hb with rfl | hb
    · exact Heap.lt_size he
    rcases List.mem_cons.mp hb with rfl | hb
    · exact Heap.lt_size hRx.1
    · rw [List.mem_singleton.mp hb]; exact Heap.lt_size hlx.1
  · intro hb
    rcases List.mem_cons.mp hb with e1 | hb
    · exact heL e1.symm
    rcases List.mem_cons.mp hb with e1 | hb
    · exact hRx.2.1 e1.symm
    · exact hlx.2.1 (List.mem_singleton.mp hb).symm
  · intro b hb
    rcases List.mem_cons.mp hb with rfl | hb
    · exact hge
    · rw [List.mem_singleton.mp hb]; exact hRx.2.2
  · intro p hp hb
    rcases List.mem_cons.mp hb with e1 | hb
    · exact absurd e1 (Nat.ne_of_lt (hlt p (.tail _ hp)))
    · exact hR p hp (List.mem_singleton.mp hb)
  · rintro i va vb C oC D ys own m₂ h tk E' hi' ⟨t, n, tn, hn, rfl, rfl⟩ hC h1 h2 F' N' hCD
    exact turn i t n tn C oC D ys own m₂ h tk E' hn hC h1 h2 F' N' hCD
end
end Mine
end

section
open PySem PySem.W PySem.Calls PyProof.Rows
set_option maxRecDepth 100000
namespace Mine
section
variable {prog : Program} {w : World} {A : Around} {s : Shared} {env : Env} {g : Heap} {L : Addr} {m : Str → Option Value} {news : List (Addr × Obj)} {elt iter : Expr} {scope : Scope} {cl : List (Str × Addr)} {pos : Pos}

/-- a list made of a list of ints of the ledger -/
theorem compListE {x : Str} {px : Pos} {l : Addr} {vs : List Value} {ns : List Int} {k : Nat} {Q : Value → Shared → Prop} (ks : Nat → Int) (hh : A.handled = none)
    (hm : (l, listOf vs.toArray k) ∈ news) (hi : IntsAre vs ns) (hsz : ns.length ≤ sizeLine) (F : Fr g L s.heap m) (N : News g L s.heap news)
    (hcell : ∀ y ∈ scope.names, y.2 ≠ .cell) (hkind : scope.kind = .function) (hx : scope.names.lookup x = some .local)
    (turn : ∀ (i : Nat) (n : Int) t I oI C oC D m₂ h tk ys (E' : Value → Shared → Prop), ns[i]? = some n → LCg.NsObj oC m₂ → m₂ x = some (.int n t) → Fr g L h m → News g L h ((I, oI) :: (C, oC) :: (D, LCg.lst ys) :: news) → LCg.Off3 I C D news → ((@Ne Nat I C) ∧ (@Ne Nat I D) ∧ (@Ne Nat C D)) →
      wpAny (model prog w) A (eval elt (compEnvC scope cl C env)) (EltEnd g L m { s with heap := h, toks := tk } ((I, oI) :: (C, oC) :: (D, LCg.lst ys) :: news) (ks i)) E' { s with heap := h, toks := tk })
    (done : ∀ D ys h tk, IntsAre ys ((List.range ns.length).map ks) → Fr g L h m → News g L h ((D, LCg.lst ys) :: news) → LCg.Off1 D news → Q (.ref D) { s with heap := h, toks := tk }) :
    CompAt prog w A env (.ListComp elt [⟨.Name x px, iter, [], 0⟩] scope pos) scope cl none Q (.ref l) s := by
  have hlx := N _ hm
  have hl : s.heap.IsList l vs.toArray := ⟨_, hlx.1, rfl, k, rfl⟩
  have hls : l < s.heap.objs.size := Heap.lt_size hlx.1
  have hne : l ≠ s.heap.objs.size := Nat.ne_of_lt hls
  refine wpAny_pyIter_list hl ?_
  have W := Walks.list (prog := prog) (w := w) (A := A) hh s.heap.objs.size l hne vs.toArray
  have hsv : vs.toArray.size = ns.length := by simp [hi.length]
  rw [hsv] at W
  refine LCg.block_U (S := fun nw => (l, listOf vs.toArray k) ∈ nw) W hsz (fun i h st => let ⟨o, ho, _⟩ := st.1; ⟨o, ho⟩) (fun i h h' o nw st ho ho' _ hN hS => ⟨?_, ⟨_, (hN _ hS).1, rfl, k, rfl⟩⟩) hcell hkind hx
    ⟨⟨_, Heap.get?_push_size _ rfl, rfl, rfl⟩, hl.push _⟩ (fun b hb => ?_)
    (F.keeps fun _ _ e => Heap.get?_push_of_some _ e) (N.grown fun _ _ e => Heap.get?_push_of_some _ e) (Nat.ne_of_lt F.ns.lt) (next_is_new F) (fun p hp => Nat.ne_of_lt (Heap.lt_size (N p hp).1)) hm
    (compRestN (Fin := fun ys nw => nw = news ∧ IntsAre ys ((List.range ns.length).map ks)) ks hm (fun i v I oI C oC D m₂ h tk ys E' hi' hP hC hx F N off ne => ?_) (fun ys hy => ⟨rfl, hy⟩)) ?_
  · obtain ⟨o2, ho2, r⟩ := st.1
    rw [ho] at ho2
    exact ⟨o, ho', (Option.some.inj ho2) ▸ r⟩
  · rcases List.mem_cons.mp hb with rfl | hb
    · show s.heap.objs.size < (s.heap.push _).objs.size
      rw [Heap.size_push]; exact Nat.lt_succ_self _
    · rw [List.mem_singleton.mp hb]
      show l < (s.heap.push _).objs.size
      rw [Heap.size_push]; exact Nat.lt_succ_of_lt hls
  · have hv : vs[i]? = some v := by simpa using hP
    obtain ⟨tv, hg⟩ := hi.get i _ (List.getElem?_eq_getElem hi')
    rw [hg] at hv
    obtain rfl := (Option.some.inj hv).symm
    exact turn i _ tv I oI C oC D m₂ h tk ys E' (List.getElem?_eq_getElem hi') hC hx F N off ne
  · rintro D C h tk m' ys nw F' N' o1 hn' hC₀ hD₀ hCL hDL hCD offC ⟨rfl, hy⟩
    refine ⟨m', hn', fun h'' hs'' => done D ys h'' tk hy (F'.change hs'' hCL hC₀) (fun p hp => ?_) o1⟩
    refine ⟨hs''.extBut _ _ ?_ (N' p hp).1, (N' p hp).2⟩
    rcases List.mem_cons.mp hp with rfl | hp
    · exact Ne.symm hCD
    · exact offC p hp
end
end Mine
end

section
open PySem PySem.W PySem.Calls PyProof.Rows
set_option maxRecDepth 100000
namespace Mine

noncomputable def WhAt (prog : Program) (w : World) (A : Around) (env : Env) (test : Expr) (body : List Stmt) (Q : Flow → Shared → Prop) (s : Shared) : Prop := WhlRest prog w A (fun _ _ => False) env test body [] Q 0 s
theorem while_at {prog : Program} {w : World} {A : Around} {s : Shared} {env : Env} {test : Expr} {body : List Stmt} {pos : Pos} {Q : Flow → Shared → Prop} (h : WhAt prog w A env test body Q s) :
    wpAny (model prog w) A (exec (.While test body [] pos) env) Q (fun _ _ => False) s := whl_start 0 h

noncomputable def TurnW (g : Heap) (L : Addr) (s : Shared) (J : (Str → Option Value) → List (Addr × Obj) → Prop) (f : Flow) (s₂ : Shared) : Prop :=
  f = .next ∧ ∃ h' tk' m' nx', s₂ = { s with heap := h', toks := tk' } ∧ Fr g L h' m' ∧ News g L h' nx' ∧ J m' nx'
theorem TurnW.intro {g h' : Heap} {L : Addr} {s : Shared} {nx' : List (Addr × Obj)} {J : (Str → Option Value) → List (Addr × Obj) → Prop} {m' : Str → Option Value} {tk' : Nat} (F : Fr g L h' m') (N : News g L h' nx') (hj : J m' nx') :
    TurnW g L s J .next { s with heap := h', toks := tk' } := ⟨rfl, h', tk', m', nx', rfl, F, N, hj⟩

section
variable {prog : Program} {w : World} {A : Around} {s : Shared} {env : Env} {g : Heap} {L : Addr} {m : Str → Option Value} {news : List (Addr × Obj)} {test : Expr} {body : List Stmt} {Q : Flow → Shared → Prop}

theorem whileN (K : Nat) (J : Nat → (Str → Option Value) → List (Addr × Obj) → Prop) (F : Fr g L s.heap m) (N : News g L s.heap news) (h0 : J 0 m news)
    (turn : ∀ i m₁ nx h tk, i < K → J i m₁ nx → Fr g L h m₁ → News g L h nx →
      wpAny (model prog w) A (isTrue test env (eval test env)) (fun b s₂ => WhlIf b (wpAny (model prog w) A (execs body env) (TurnW g L s (J (i + 1))) (fun _ _ => False) s₂) False) (fun _ _ => False) { s with heap := h, toks := tk })
    (last : ∀ m₁ nx h tk, J K m₁ nx → Fr g L h m₁ → News g L h nx →
      wpAny (model prog w) A (isTrue test env (eval test env)) (fun b s₂ => WhlIf b False (wpAny (model prog w) A (execs [] env) Q (fun _ _ => False) s₂)) (fun _ _ => False) { s with heap := h, toks := tk }) :
    WhAt prog w A env test body Q s := by
  have hE : PassesOwn (model prog w) A env (fun _ _ => False) := by passes_own
  have key : ∀ j i m₁ nx h tk, i + j = K → J i m₁ nx → Fr g L h m₁ → News g L h nx → WhlRest prog w A (fun _ _ => False) env test body [] Q 0 { s with heap := h, toks := tk } := by
    intro j
    induction j with
    | zero =>
      intro i m₁ nx h tk hi hJ F N
      have : i = K := hi
      subst this
      refine whl_turn (k := 0) hE (wpAny_mono (last m₁ nx h tk hJ F N) (fun b s₂ hb => ?_) fun _ _ e => e)
      cases b
      · exact WhlIf.no rfl (by unfold WhlIf at hb; exact hb)
      · exact False.elim (by unfold WhlIf at hb; exact hb)
    | succ j ih =>
      intro i m₁ nx h tk hi hJ F N
      refine whl_turn (k := 0) hE (wpAny_mono (turn i m₁ nx h tk (by omega) hJ F N) (fun b s₂ hb => ?_) fun _ _ e => e)
      cases b
      · exact False.elim (by unfold WhlIf at hb; exact hb)
      · refine WhlIf.yes rfl ?_
        unfold WhlIf at hb
        rw [if_pos rfl] at hb
        refine wpAny_mono hb (fun f s₃ hq => ?_) fun _ _ e => e
        obtain ⟨rfl, h', tk', m', nx', rfl, F', N', hJ'⟩ := hq
        exact ih (i + 1) m' nx' h' tk' (by omega) hJ' F' N'
  exact key K 0 m news s.heap s.toks (by omega) h0 F N

noncomputable def RgAt (prog : Program) (w : World) (A : Around) (g : Heap) (env : Env) (x : Str) (body : List Stmt) (Q : Flow → Shared → Prop) (xv : Value) (s₁ : Shared) : Prop :=
  wpAny (model prog w) A (pyIter xv) (fun it s₂ => LoopAtV prog w A g env x body Q (fun _ _ => False) it s₂) (fun _ _ => False) s₁
theorem For_rg {x : Str} {px pos : Pos} {iter : Expr} (F : Fr g L s.heap m) (hL : env.locals = L) (hx : env.kindOf x = some .local)
    (hp : (env.scope.kind == .class || (env.scope.kind == .module && env.locals != env.globals)) = false)
    (h : wpAny (model prog w) A (eval iter env) (fun xv s₁ => RgAt prog w A g env x body Q xv s₁) (fun _ _ => False) s)
    (hs : ∀ x, foldedSetIterable iter env x = pure x) :
    wpAny (model prog w) A (exec (.For (.Name x px) iter body [] pos) env) Q (fun _ _ => False) s := by
  subst hL
  exact For_invVF F hx hp h hs

noncomputable def TurnM (g : Heap) (L : Addr) (s : Shared) (news : List (Addr × Obj)) (J : (Str → Option Value) → Prop) (f : Flow) (s₂ : Shared) : Prop :=
  f = .next ∧ ∃ h' tk' m', s₂ = { s with heap := h', toks := tk' } ∧ Fr g L h' m' ∧ News g L h' news ∧ J m'
theorem TurnM.intro {h' : Heap} {J : (Str → Option Value) → Prop} {m' : Str → Option Value} {tk' : Nat} (F : Fr g L h' m') (N : News g L h' news) (hj : J m') :
    TurnM g L s news J .next { s with heap := h', toks := tk' } := ⟨rfl, h', tk', m', rfl, F, N, hj⟩

theorem rangeLoop {x : Str} {r : Addr} {a₀ b₀ : Int} {t₀ u₀ v₀ : Tok} {n : Nat} (J : Nat → (Str → Option Value) → Prop)
    (hh : A.handled = none) (hr : IsRange s.heap r a₀ b₀ 1 t₀ u₀ v₀) (hsmall : Builtin.Range.small a₀ b₀ 1 = true) (hn : Builtin.Range.rangeSize a₀ b₀ 1 = (n : Int)) (F : Fr g L s.heap m) (N : News g L s.heap news) (hL : env.locals = L) (hj : J 0 m)
    (turn : ∀ i t m₁ h tk own, i < n → (∀ p ∈ own, ∀ b ∈ news.map (·.1), p.1 ≠ b) → J i m₁ → Fr g L h (fun y => if y = x then some (.int (a₀ + (i : Int)) t) else m₁ y) → News g L h (news ++ own) →
      wpAny (model prog w) A (execs body env) (TurnM g L s (news ++ own) (J (i + 1))) (fun _ _ => False) { s with heap := h, toks := tk })
    (done : ∀ m₁ h tk, J n m₁ → Fr g L h m₁ → News g L h news → Q .next { s with heap := h, toks := tk }) :
    RgAt prog w A g env x body Q (.ref r) s := by
  subst hL
  refine kpr_invN (fun i m nx => nx = news ∧ J i m) hh hr hsmall hn F N ⟨rfl, hj⟩ ?_ ?_
  · rintro i k t m₁ nx h tk own hk ho ⟨rfl, hJ⟩ F₁ N₁
    have hi : i < n := by have := (List.getElem?_eq_some_iff.mp hk).1; rw [rangeKs_length] at this; exact this
    have e : k = a₀ + (i : Int) := by
      have : (rangeKs a₀ n)[i]? = some (a₀ + (i : Int)) := by simp [rangeKs, hi]
      rw [this] at hk; exact (Option.some.inj hk).symm
    subst e
    refine wpAny_mono (turn i t m₁ h tk own hi ho hJ F₁ N₁) (fun f s₂ hq => ?_) fun _ _ e => e
    obtain ⟨rfl, h', tk', m', rfl, F', N', hJ'⟩ := hq
    exact ⟨h', tk', m', nx ++ own, nx, rfl, F', N', fun p hp => List.mem_append_left _ hp, fun p hp => List.mem_append_right _ hp, rfl, rfl, hJ'⟩
  · rintro m₁ nx h tk ⟨rfl, hJ⟩ F₁ N₁
    rw [rangeKs_length] at hJ
    exact done m₁ h tk hJ F₁ N₁
end
end Mine
end

section
open PySem PySem.W PySem.Calls PyProof.Rows
set_option maxRecDepth 100000
namespace Mine

noncomputable def LIt (o : Obj) (l : Addr) (i : Nat) : Prop := o.cls = .type "list_iterator" ∧ o.data = .fields #[.ref l, .int i 0]
section
variable {prog : Program} {w : World} {A : Around} {E : Value → Shared → Prop} {s : Shared} {g : Heap} {L it l : Addr} {m : Str → Option Value} {rest : List (Addr × Obj)} {io : Obj} {i : Nat} {items : Array Value} {x : Value}

theorem special_list {Q : Option Value → Shared → Prop} (hit : s.heap.IsListIter it l i) (hl : s.heap.IsList l items) (hx : items[i]? = some x)
    (hQ : ∀ h', h'.IsListIter it l (i + 1) → Heap.SameBut it s.heap h' → Q (some x) { s with heap := h' }) :
    wpAny (model prog w) A (callSpecial? (.ref it) (Str.ofString "__next__")) Q E s := by
  obtain ⟨o, ho, hc, hd⟩ := id hit
  obtain ⟨ol, hol, _, nl, hdl⟩ := hl
  refine wpAny_callSpecial?_slot (name := Str.ofString "__next__") hit.typeIs slot_listiter_next (wpAny_call_entry slot_listiter_next hit.typeIs entry_listiter_next ?_ (args_listiter_next _))
  show wpAny _ _ (field (.ref it) 0 >>= _) _ _ s
  refine wpAny_bind (wpAny_field ho hd (x := .ref l) rfl ?_)
  show wpAny _ _ (if (Value.ref l == Value.none) = true then _ else _) _ _ s
  rw [if_neg (show ¬ ((Value.ref l == Value.none) = true) from Bool.false_ne_true)]
  show wpAny _ _ (field (.ref it) 1 >>= _) _ _ s
  refine wpAny_bind (wpAny_field ho hd (x := .int i 0) rfl ?_)
  refine wpAny_bind (m := seqItems? (.ref l)) (wpAny_seqItems hol hdl ?_)
  simp only [Int.toNat_natCast, hx]
  refine wpAny_bind (wpAny_setField ho hd (by simp) (wpAny_pure ⟨x, rfl, hQ _ ?_ (Heap.SameBut.update ..)⟩))
  exact ⟨_, Heap.get?_update_self _ ho (Obj.isFreed_of_fields (Obj.data_mapFields hd _)), (Obj.cls_mapFields ..).trans hc, by rw [Obj.data_mapFields hd]; simp [rawInt]⟩

theorem next_list {Q : Value → Shared → Prop} (F : Fr g L s.heap m) (N : News g L s.heap ((it, io) :: rest)) (hi : LIt io l i) (hl : g.IsList l items) (hx : items[i]? = some x) (hoff : ∀ p ∈ rest, p.1 ≠ it)
    (h : ∀ h' io', Fr g L h' m → News g L h' ((it, io') :: rest) → LIt io' l (i + 1) → Q x { s with heap := h' }) :
    wpAny (model prog w) A (call (.builtin "next") [.ref it]) Q E s := by
  have hm := N (it, io) (.head _)
  have hit : s.heap.IsListIter it l i := ⟨io, hm.1, hi.1, hi.2⟩
  refine call_function_entry (by decide +kernel) (by decide +kernel) kdk_entry_next (kdk_args_next _) ?_
  unfold Builtin.«next»
  refine wpAny_bind (m := someArgs "next" 1 2 _) (wpAny_of_eq (a := [Value.ref it]) (by first | rfl | kernel_rfl!) ?_)
  dsimp only
  refine wpAny_bind (wpAny_specialOf (name := Str.ofString "__next__") hit.typeIs slot_listiter_next.lookup ?_)
  refine wpAny_ite_split (fun hab => absurd hab (by decide)) (fun _ => ?_)
  refine wpAny_bind (special_list hit (hl.at fun o e => F.keep l o e) hx fun h' hit' hs => ?_)
  obtain ⟨o', ho', hc', hd'⟩ := hit'
  refine wpAny_pure ⟨_, rfl, h h' o' (F.change hs hm.2.1 hm.2.2) (fun p hp => ?_) ⟨hc', hd'⟩⟩
  rcases List.mem_cons.mp hp with rfl | hp
  · exact ⟨ho', hm.2⟩
  · exact ⟨hs.extBut _ _ (hoff p hp) (N p (.tail _ hp)).1, (N p (.tail _ hp)).2⟩
end
end Mine
end

section
open PySem PySem.W PySem.Calls PyProof.Rows
namespace Mine
local macro_rules | `(tactic| walk_at "zz and") => `(tactic| with_reducible first | exact ja1 ‹_› | exact jb1 ‹_› | exact ja2 ‹_› | exact jb2 ‹_› | exact ja3 ‹_› | exact jb3 ‹_› | exact ja4 ‹_› | exact jb4 ‹_› | exact ja5 ‹_› | exact jb5 ‹_›)
local macro_rules | `(tactic| omega) => `(tactic| (refine neN ?_; (try dsimp only); with_reducible first | assumption | exact Ne.symm ‹_› | exact Nat.ne_of_lt (by walk_at "zz and") | exact Nat.ne_of_gt (by walk_at "zz and") | walk_at "zz and" | exact Ne.symm (by walk_at "zz and") | exact nn1 | exact nn2 | exact nn3 | exact nn4))
local macro_rules | `(tactic| omega) => `(tactic| with_reducible first | assumption | decide +kernel | exact ltw0 ‹_› | exact ltw ‹_› (by decide +kernel) | exact ltwc ‹_› (by decide +kernel) | exact ltwcc ‹_› (by decide +kernel))
local macro_rules | `(tactic| k_all) => `(tactic| assumption)
local macro_rules | `(tactic| walk_at "call ref") => `(tactic| k_dflt (refine Stop.h ?_))
local macro_rules | `(tactic| walk_at "exec FunctionDef") => `(tactic| k_dflt (refine Stop.h ?_))
local macro_rules | `(tactic| k_steps) => `(tactic| repeat' (first | (k_unfold; (try dsimp only)) | (k_end; kc_close) | (walk1; (all_goals (try dsimp only))) | (dsimp only; walk1) | (leave1; walk_say "STEP leave1"; (try dsimp only)) | fail "no step"))
local macro_rules | `(tactic| mul_fits) => `(tactic| assumption)
local macro_rules | `(tactic| walk_at "binaryOp LShift int int") => `(tactic| k_dflt (refine' lshift_int ?hn9 ?hz9 ?_; (case hn9 => first | assumption | omega); (case hz9 => assumption)))
local macro_rules | `(tactic| walk_at "exec While Compare") => `(tactic| (refine while_at ?_))
local macro_rules | `(tactic| walk_at "WhlIf") => `(tactic| (first | refine WhlIf.yes (decide_eq_true ‹_›) ?_ | refine WhlIf.no (decide_eq_false ‹_›) ?_ | refine WhlIf.yes ‹_› ?_ | refine WhlIf.no ‹_› ?_))
local macro_rules | `(tactic| walk_at "binaryOp Pow int int") => `(tactic| (refine pow_two80 ?_; (try dsimp only)))

section
open PySem PySem.W PySem.Calls PyProof.Rows
set_option maxRecDepth 100000

theorem fillD : (Mine.hd.heap_39 = Mine.hd.heap_39) ∧ (PySem.Challenge.rw_wf0046_01 = PySem.Challenge.rw_wf0046_01) := by
  k_fill
  exact ⟨rfl, rfl⟩

set_option maxHeartbeats 4000000 in
theorem sp_div2n1n {prog : Program} {w : World} (a b n : Int) (ta tb tn : Tok) (h1 : (Builtin.Int.intBits a : Int) - n ≤ 4000) (hb : b ≠ 0) (hl : b.natAbs.log2 < 9000) :
    Spec prog w 21 [.int a ta, .int b tb, .int n tn] 1 8 [] noPre (IsPair (a.fdiv b) (a.fmod b)) := by
  intro p loose mean mg mb A s hh hd hu S hN hpre
  obtain ⟨_, dp, fr, gd, un⟩ := A
  cases hh
  dsimp only at hd hu
  refine' enterP (binds := [("a", .int a ta), ("b", .int b tb), ("n", .int n tn)]) hN S ?k6 ?k7 ?k8 ?k9 ?kB ?h ?c5 ?c2 ?c3 ?c4
  case k6 => k_is
  case k7 => k_is
  case k8 => dsimp only; omega
  case k9 => exact BindsTo.of_eq rfl
  case kB => exact locs rfl
  case c5 => decide
  case c2 => rfl
  case c3 => rfl
  case c4 => rfl
  case h =>
    intro g L' h₁ hg hL F N S' hlt
    have X := S'.X
    have T := S'.T
    (try dsimp only)
    k_steps
    refine divmod_N (by assumption) (by assumption) (by assumption) ?_ (Or.inl (PyProof.noPylong_of_log2 (by assumption)))
    intro h' F' N'
    (try dsimp only)
    exact ends_of hg F' N' (by intro _ h; cases h) (isPair_of (D' := []) N' (.head _))
end

section
open PySem PySem.W PySem.Calls PyProof.Rows
set_option maxRecDepth 100000
local macro_rules | `(tactic| walk_at "zz spare") => `(tactic| assumption)

theorem fillF : (Mine.hd.heap_39 = Mine.hd.heap_39) ∧ (PySem.Challenge.rw_wf0046_01 = PySem.Challenge.rw_wf0046_01) := by
  k_fill
  exact ⟨rfl, rfl⟩

noncomputable def IsFlt (x : UInt64) (_ : Heap) (v : Value) (_ : Heap) (_ : List (Addr × Obj)) : Prop := ∃ t, v = .float x t
theorem isFlt_of {x y : UInt64} {g h' : Heap} {t : Tok} {D' : List (Addr × Obj)} (e : y = x) : IsFlt x g (.float y t) h' D' := ⟨t, e ▸ rfl⟩
noncomputable def IsInt (x : Int) (_ : Heap) (v : Value) (_ : Heap) (_ : List (Addr × Obj)) : Prop := ∃ t, v = .int x t
noncomputable def IsTrip (x y z : UInt64) (g : Heap) (v : Value) (h' : Heap) (_ : List (Addr × Obj)) : Prop :=
  ∃ d t1 t2 t3 c, v = .ref d ∧ h'.get? d = some { cls := .type "tuple", data := .seq #[.float x t1, .float y t2, .float z t3] c } ∧ g.get? d = none
theorem isTrip_of {x y z x' y' z' : UInt64} {g h' : Heap} {L d : Addr} {t1 t2 t3 : Tok} {c : Nat} {news D' : List (Addr × Obj)} (N : News g L h' news) (hm : (d, ({ cls := .type "tuple", data := .seq #[.float x' t1, .float y' t2, .float z' t3] c } : Obj)) ∈ news)
    (e1 : x' = x) (e2 : y' = y) (e3 : z' = z) : IsTrip x y z g (.ref d) h' D' := by
  subst e1 e2 e3
  exact ⟨d, t1, t2, t3, c, rfl, (N _ hm).1, (N _ hm).2.2⟩

noncomputable abbrev one3 : UInt64 := 4599676419421066581
noncomputable abbrev one6 : UInt64 := 4595172819793696085
noncomputable abbrev two3 : UInt64 := 4604180019048437077
noncomputable abbrev fHalf : UInt64 := 4602678819172646912
noncomputable abbrev fOne : UInt64 := 4607182418800017408
noncomputable abbrev fSix : UInt64 := 4618441417868443648
noncomputable abbrev fTwo : UInt64 := 4611686018427387904

noncomputable def vF (m1 m2 hue : UInt64) : UInt64 :=
  if Float64.cmp (Float64.divmod hue fOne).2 one6 == some .lt then Float64.add m1 (Float64.mul (Float64.mul (Float64.sub m2 m1) (Float64.divmod hue fOne).2) fSix)
  else if Float64.cmp (Float64.divmod hue fOne).2 fHalf == some .lt then m2
  else if Float64.cmp (Float64.divmod hue fOne).2 two3 == some .lt then Float64.add m1 (Float64.mul (Float64.mul (Float64.sub m2 m1) (Float64.sub two3 (Float64.divmod hue fOne).2)) fSix)
  else m1

set_option maxHeartbeats 4000000 in
theorem sp_v {prog : Program} {w : World} (m1 m2 hue : UInt64) (t1 t2 t3 : Tok) :
    Spec prog w 70 [.float m1 t1, .float m2 t2, .float hue t3] 1 8 [] noPre (IsFlt (vF m1 m2 hue)) := by
  intro p loose mean mg mb A s hh hd hu S hN hpre
  obtain ⟨_, dp, fr, gd, un⟩ := A
  cases hh
  dsimp only at hd hu
  refine' enterP (binds := [("m1", .float m1 t1), ("m2", .float m2 t2), ("hue", .float hue t3)]) hN S ?k6 ?k7 ?k8 ?k9 ?kB ?h ?c5 ?c2 ?c3 ?c4
  case k6 => k_is
  case k7 => k_is
  case k8 => dsimp only; omega
  case k9 => exact BindsTo.of_eq rfl
  case kB => exact locs rfl
  case c5 => decide
  case c2 => rfl
  case c3 => rfl
  case c4 => rfl
  case h =>
    intro g L' h₁ hg hL F N S' hlt
    have X := S'.X
    have T := S'.T
    (try dsimp only)
    k_steps
    all_goals change Ends _ _ _ _ _
    all_goals refine ends_of (D' := []) hg (by assumption) (by assumption) (by intro _ h; cases h) ?_
    all_goals refine isFlt_of ?_
    all_goals (simp only [vF, *]; try rfl)

local macro_rules | `(tactic| walk_at "ite") => `(tactic| (k_closed; first | refine ite_pos (by decide +kernel) ?_ | refine ite_neg (by decide +kernel) ?_))

theorem vF_congr {a a' b b' c : UInt64} (h1 : a = a') (h2 : b = b') : vF a b c = vF a' b' c := by rw [h1, h2]

set_option maxHeartbeats 4000000 in
theorem sp_hls {prog : Program} {w : World} (h : UInt64) (t1 t2 t3 : Tok) :
    Spec prog w 63 [.float h t1, .float fHalf t2, .float fOne t3] 3 24 [] noPre (IsTrip (vF 0 fOne (Float64.add h one3)) (vF 0 fOne h) (vF 0 fOne (Float64.sub h one3))) := by
  intro p loose mean mg mb A s hh hd hu S hN hpre
  obtain ⟨_, dp, fr, gd, un⟩ := A
  cases hh
  dsimp only at hd hu
  refine' enterP (binds := [("h", .float h t1), ("l", .float fHalf t2), ("s", .float fOne t3)]) hN S ?k6 ?k7 ?k8 ?k9 ?kB ?h ?c5 ?c2 ?c3 ?c4
  case k6 => k_is
  case k7 => k_is
  case k8 => dsimp only; omega
  case k9 => exact BindsTo.of_eq rfl
  case kB => exact locs rfl
  case c5 => decide
  case c2 => rfl
  case c3 => rfl
  case c4 => rfl
  case h =>
    intro g L' h₁ hg hL F N S' hlt
    have X := S'.X
    have T := S'.T
    (try dsimp only)
    k_steps
    repeat' (refine Stop.mk ?_; (first | ((refine' use0 (sp_v _ _ _ _ _ _) ?a1 ?a2 ?a3 ?a4 ?ud ?uu ?up ?_; (case a1 => assumption); (case a2 => assumption); (case a3 => assumption); (case a4 => exact rfl); (case ud => dsimp only [Around.deeper]; omega); (case uu => dsimp only [Around.deeper]; omega); (case up => exact fun _ _ _ => trivial); intro vz hz tkz Dz gz Fz Nz newz hPz; obtain ⟨tv, hv⟩ := hPz; subst hv; try dsimp only))); k_steps)
    all_goals refine ends_of (D' := []) hg (by assumption) (by assumption) (by intro _ h; cases h) (isTrip_of (by assumption) (.head _) ?_ ?_ ?_)
    all_goals exact vF_congr (by decide +kernel) (by decide +kernel)

noncomputable def hsvI (h : UInt64) : Int := Flt.toInt Float64.truncOf (Float64.mul h fSix)
noncomputable def hsvF (h : UInt64) : UInt64 := Float64.sub (Float64.mul h fSix) (Float64.ofInt (hsvI h))
noncomputable def hsvP : UInt64 := Float64.mul fOne (Float64.sub fOne fOne)
noncomputable def hsvQ (h : UInt64) : UInt64 := Float64.mul fOne (Float64.sub fOne (Float64.mul fOne (hsvF h)))
noncomputable def hsvT (h : UInt64) : UInt64 := Float64.mul fOne (Float64.sub fOne (Float64.mul fOne (Float64.sub fOne (hsvF h))))
noncomputable def hsvC (h : UInt64) : UInt64 × UInt64 × UInt64 :=
  if (hsvI h).fmod 6 = 0 then (fOne, hsvT h, hsvP) else if (hsvI h).fmod 6 = 1 then (hsvQ h, fOne, hsvP) else if (hsvI h).fmod 6 = 2 then (hsvP, fOne, hsvT h)
  else if (hsvI h).fmod 6 = 3 then (hsvP, hsvQ h, fOne) else if (hsvI h).fmod 6 = 4 then (hsvT h, hsvP, fOne) else (fOne, hsvP, hsvQ h)
theorem hsvC_0 {h : UInt64} (e : (hsvI h).fmod 6 = 0) : hsvC h = (fOne, hsvT h, hsvP) := by unfold hsvC; simp [e]
theorem hsvC_1 {h : UInt64} (e : (hsvI h).fmod 6 = 1) : hsvC h = (hsvQ h, fOne, hsvP) := by unfold hsvC; simp [e]
theorem hsvC_2 {h : UInt64} (e : (hsvI h).fmod 6 = 2) : hsvC h = (hsvP, fOne, hsvT h) := by unfold hsvC; simp [e]
theorem hsvC_3 {h : UInt64} (e : (hsvI h).fmod 6 = 3) : hsvC h = (hsvP, hsvQ h, fOne) := by unfold hsvC; simp [e]
theorem hsvC_4 {h : UInt64} (e : (hsvI h).fmod 6 = 4) : hsvC h = (hsvT h, hsvP, fOne) := by unfold hsvC; simp [e]
theorem hsvC_5 {h : UInt64} (e : (hsvI h).fmod 6 = 5) : hsvC h = (fOne, hsvP, hsvQ h) := by unfold hsvC; simp [e]
theorem no_true {b : Bool} (h1 : b = false) (h2 : b = true) : False := by rw [h1] at h2; cases h2
theorem six_out {k : Int} (h0 : k.fmod 6 ≠ 0) (h1 : k.fmod 6 ≠ 1) (h2 : k.fmod 6 ≠ 2) (h3 : k.fmod 6 ≠ 3) (h4 : k.fmod 6 ≠ 4) (h5 : k.fmod 6 ≠ 5) : False := by
  have a := Int.fmod_nonneg_of_pos k (b := 6) (by decide)
  have b := Int.fmod_lt_of_pos k (b := 6) (by decide)
  omega

set_option maxHeartbeats 4000000 in
theorem sp_hsv {prog : Program} {w : World} (h : UInt64) (t1 t2 t3 : Tok) (h1 : Float64.isNaN (Float64.mul h fSix) = false) (h2 : Float64.isInf (Float64.mul h fSix) = false) (h3 : (hsvI h).natAbs < 2 ^ 1024 - 2 ^ 970) :
    Spec prog w 77 [.float h t1, .float fOne t2, .float fOne t3] 3 24 [] noPre (IsTrip (hsvC h).1 (hsvC h).2.1 (hsvC h).2.2) := by
  intro p loose mean mg mb A s hh hd hu S hN hpre
  obtain ⟨_, dp, fr, gd, un⟩ := A
  cases hh
  dsimp only at hd hu
  refine' enterP (binds := [("h", .float h t1), ("s", .float fOne t2), ("v", .float fOne t3)]) hN S ?k6 ?k7 ?k8 ?k9 ?kB ?h ?c5 ?c2 ?c3 ?c4
  case k6 => k_is
  case k7 => k_is
  case k8 => dsimp only; omega
  case k9 => exact BindsTo.of_eq rfl
  case kB => exact locs rfl
  case c5 => decide
  case c2 => rfl
  case c3 => rfl
  case c4 => rfl
  case h =>
    intro g L' h₁ hg hL F N S' hlt
    have X := S'.X
    have T := S'.T
    (try dsimp only)
    k_steps
    repeat' (refine Stop.mk ?_; (first | ((refine' use0 (sp_v _ _ _ _ _ _) ?a1 ?a2 ?a3 ?a4 ?ud ?uu ?up ?_; (case a1 => assumption); (case a2 => assumption); (case a3 => assumption); (case a4 => exact rfl); (case ud => dsimp only [Around.deeper]; omega); (case uu => dsimp only [Around.deeper]; omega); (case up => exact fun _ _ _ => trivial); intro vz hz tkz Dz gz Fz Nz newz hPz; obtain ⟨tv, hv⟩ := hPz; subst hv; try dsimp only))); k_steps)
    all_goals first
      | exact absurd ‹Float64.isNaN _ = true› (fun q => no_true h1 q)
      | exact absurd ‹Float64.isInf _ = true› (fun q => no_true h2 q)
      | exact absurd h3 (Nat.not_lt.mpr ‹2 ^ 1024 - 2 ^ 970 ≤ _›)
      | (exfalso; exact six_out (by assumption) (by assumption) (by assumption) (by assumption) (by assumption) (by assumption))
      | (refine ends_of (D' := []) hg (by assumption) (by assumption) (by intro _ h; cases h) (isTrip_of (by assumption) (.head _) ?_ ?_ ?_)
         all_goals first | (rw [hsvC_0 (h := h) (by assumption)] <;> rfl) | (rw [hsvC_1 (h := h) (by assumption)] <;> rfl) | (rw [hsvC_2 (h := h) (by assumption)] <;> rfl) | (rw [hsvC_3 (h := h) (by assumption)] <;> rfl) | (rw [hsvC_4 (h := h) (by assumption)] <;> rfl) | (rw [hsvC_5 (h := h) (by assumption)] <;> rfl))
end

section
open PySem PySem.W PySem.Calls PyProof.Rows
set_option maxRecDepth 100000

theorem fillX : (Mine.hd.heap_39 = Mine.hd.heap_39) ∧ (PySem.Challenge.rw_wf0046_01 = PySem.Challenge.rw_wf0046_01) := by
  k_fill
  exact ⟨rfl, rfl⟩

noncomputable def HasTrip (a : Addr) (x y z : UInt64) (g : Heap) : Prop := ∃ t1 t2 t3, IsTup g a #[.float x t1, .float y t2, .float z t3]
theorem hasTrip_of {a : Addr} {x y z : UInt64} {t1 t2 t3 : Tok} {c : Nat} {g : Heap} {news : List (Addr × Obj)} (h : ∀ q ∈ news, g.get? q.1 = some q.2) (hm : (a, ({ cls := .type "tuple", data := .seq #[.float x t1, .float y t2, .float z t3] c } : Obj)) ∈ news) : HasTrip a x y z g :=
  ⟨t1, t2, t3, _, h _ hm, rfl, c, rfl⟩
noncomputable def gtF (a b : UInt64) : Bool := Float64.cmp a b == some .gt
noncomputable def sixF (x y z : UInt64) : Int :=
  if gtF x y && gtF x z then (if gtF y z then 0 else 5) else if gtF y z then (if gtF x z then 1 else 2) else if gtF y x then 3 else 4
theorem sixF_lo (x y z : UInt64) : 0 ≤ sixF x y z := by unfold sixF; (repeat' split) <;> decide
theorem sixF_hi (x y z : UInt64) : sixF x y z < 6 := by unfold sixF; (repeat' split) <;> decide
theorem isInt_of {x y : Int} {g h' : Heap} {t : Tok} {D' : List (Addr × Obj)} (e : y = x) : IsInt x g (.int y t) h' D' := ⟨t, e ▸ rfl⟩

noncomputable abbrev f4096 : UInt64 := 4661225614328463360
noncomputable def hueF (n : Nat) (turns : Int) (i : Nat) : UInt64 := Float64.add (Float64.div (Float64.ofInt (((i : Int) * 4096).fdiv (n : Int))) f4096) (Float64.ofInt turns)
noncomputable def colF : Bool → UInt64 → UInt64 × UInt64 × UInt64
  | true, h => (vF 0 fOne (Float64.add h one3), vF 0 fOne h, vF 0 fOne (Float64.sub h one3))
  | false, h => hsvC h
noncomputable def secF (light : Bool) (h : UInt64) : Int := sixF (colF light h).1 (colF light h).2.1 (colF light h).2.2
noncomputable def sixthsTo (ns : List Int) (turns : Int) (light : Bool) : Nat → List Int
  | 0 => [0, 0, 0, 0, 0, 0]
  | i + 1 => if ns.getD i 0 = 0 then sixthsTo ns turns light i
    else (sixthsTo ns turns light i).set (secF light (hueF ns.length turns i)).toNat ((sixthsTo ns turns light i).getD (secF light (hueF ns.length turns i)).toNat 0 + ns.getD i 0)
theorem sixthsTo_len (ns : List Int) (turns : Int) (light : Bool) : ∀ i, (sixthsTo ns turns light i).length = 6
  | 0 => rfl
  | i + 1 => by unfold sixthsTo; split <;> simp [sixthsTo_len ns turns light i]
/-- what the float steps ask of a place -/
noncomputable def okHue (light : Bool) (h : UInt64) : Prop := light = false → Float64.isNaN (Float64.mul h fSix) = false ∧ Float64.isInf (Float64.mul h fSix) = false ∧ (hsvI h).natAbs < 2 ^ 1024 - 2 ^ 970
noncomputable def IsIx (k : Int) (_ : Heap) (v : Value) (_ : Heap) (_ : List (Addr × Obj)) : Prop := ∃ t, v = .int k t ∧ 0 ≤ k ∧ k < 6
theorem isIx_of {x y z : UInt64} {k : Int} {g h' : Heap} {t : Tok} {D' : List (Addr × Obj)} (e : k = sixF x y z) : IsIx (sixF x y z) g (.int k t) h' D' := ⟨t, e ▸ rfl, sixF_lo x y z, sixF_hi x y z⟩
noncomputable def IsInts (ns : List Int) (g : Heap) (v : Value) (h' : Heap) (_ : List (Addr × Obj)) : Prop :=
  ∃ d vs n, v = .ref d ∧ h'.get? d = some (listOf vs.toArray n) ∧ IntsAre vs ns ∧ g.get? d = none
theorem sxF {i n : Nat} (h : i < n) (hn : n < 100) : (n : Int).natAbs < 1073741824 ∧ (i : Int) < 2 ^ 64 ∧ n < 2 ^ 62 ∧ (n : Int) ≠ 0 ∧ 0 ≤ (n : Int) := by
  refine ⟨?_, ?_, ?_, ?_, ?_⟩ <;> omega
theorem place_quot {i n : Nat} (h : i < n) : 0 ≤ ((i : Int) * 4096).fdiv (n : Int) ∧ ((i : Int) * 4096).fdiv (n : Int) < 4096 := by
  have hn : (0 : Int) < n := by omega
  rw [Int.fdiv_eq_ediv_of_nonneg _ (by omega)]
  refine ⟨Int.ediv_nonneg (by omega) (by omega), Int.ediv_lt_of_lt_mul hn ?_⟩
  have : (i : Int) * 4096 < (n : Int) * 4096 := by omega
  rw [Int.mul_comm 4096]; exact this

set_option maxHeartbeats 4000000 in
theorem sp_sixth {prog : Program} {w : World} {a : Addr} {x y z : UInt64} :
    Spec prog w 110 [.ref a] 1 8 [] (HasTrip a x y z) (IsIx (sixF x y z)) := by
  intro p loose mean mg mb A s hh hd hu S hN hpre
  obtain ⟨_, dp, fr, gd, un⟩ := A
  cases hh
  dsimp only at hd hu
  refine' enterP (binds := [("colour", .ref a)]) hN S ?k6 ?k7 ?k8 ?k9 ?kB ?h ?c5 ?c2 ?c3 ?c4
  case k6 => k_is
  case k7 => k_is
  case k8 => dsimp only; omega
  case k9 => exact BindsTo.of_eq rfl
  case kB => exact locs rfl
  case c5 => decide
  case c2 => rfl
  case c3 => rfl
  case c4 => rfl
  case h =>
    intro g L' h₁ hg hL F N S' hlt
    have X := S'.X
    have T := S'.T
    (try dsimp only)
    obtain ⟨t1, t2, t3, hT⟩ := hpre
    rw [← hg] at hT
    k_steps
    all_goals change Ends _ _ _ _ _
    all_goals refine ends_of (D' := []) hg (by assumption) (by assumption) (by intro _ h; cases h) (isIx_of ?_)
    all_goals simp [sixF, gtF, *]


set_option maxHeartbeats 4000000 in
theorem sp_sixths {prog : Program} {w : World} (a : Addr) (vs : List Value) (ns : List Int) (turns : Int) (light : Bool) (t1 : Tok) (hi : IntsAre vs ns) (hlen : ns.length < 100) (ht0 : 0 ≤ turns) (ht1 : turns < 4) (hok : ∀ i, i < ns.length → ns.getD i 0 ≠ 0 → okHue light (hueF ns.length turns i)) :
    Spec prog w 117 [.ref a, .int turns t1, .bool light] 5 48 [] (fun g => g.IsList a vs.toArray) (IsInts (sixthsTo ns turns light ns.length)) := by
  intro p loose mean mg mb A s hh hd hu S hN hpre
  obtain ⟨_, dp, fr, gd, un⟩ := A
  cases hh
  dsimp only at hd hu
  refine' enterP (binds := [("signs", .ref a), ("turns", .int turns t1), ("light", .bool light)]) hN S ?k6 ?k7 ?k8 ?k9 ?kB ?h ?c5 ?c2 ?c3 ?c4
  case k6 => k_is
  case k7 => k_is
  case k8 => dsimp only; omega
  case k9 => exact BindsTo.of_eq rfl
  case kB => exact locs rfl
  case c5 => decide
  case c2 => rfl
  case c3 => rfl
  case c4 => rfl
  case h =>
    intro g L' h₁ hg hL F N S' hlt
    have X := S'.X
    have T := S'.T
    (try dsimp only)
    rw [← hg] at hpre
    k_steps
    repeat' (refine Stop.mk ?_; (first | ((refine' use0 (sp_sixth) ?a1 ?a2 ?a3 ?a4 ?ud ?uu ?up ?_; (case a1 => assumption); (case a2 => assumption); (case a3 => assumption); (case a4 => exact rfl); (case ud => dsimp only [Around.deeper]; omega); (case uu => dsimp only [Around.deeper]; omega); (case up => exact fun _ _ hq => hasTrip_of hq (.head _)); intro vz hz tkz Dz gz Fz Nz newz hPz; obtain ⟨tvz, hvz, hloz, hhiz⟩ := hPz; subst hvz; clear newz; try dsimp only)) | ((refine' use0 (sp_hsv _ _ _ _ (by assumption) (by assumption) (by assumption)) ?a1 ?a2 ?a3 ?a4 ?ud ?uu ?up ?_; (case a1 => assumption); (case a2 => assumption); (case a3 => assumption); (case a4 => exact rfl); (case ud => dsimp only [Around.deeper]; omega); (case uu => dsimp only [Around.deeper]; omega); (case up => exact fun _ _ _ => trivial); intro vz hz tkz Dz gz Fz Nz newz hPz; obtain ⟨dz, t1z, t2z, t3z, cz, hvz, hgetz, hnewz⟩ := hPz; subst hvz; obtain ⟨N2z, hnez⟩ := newz _ _ hgetz hnewz; clear newz Nz; (try simp only [AllNe, and_true] at hnez); try dsimp only)) | ((refine' use0 (sp_hls _ _ _ _) ?a1 ?a2 ?a3 ?a4 ?ud ?uu ?up ?_; (case a1 => assumption); (case a2 => assumption); (case a3 => assumption); (case a4 => exact rfl); (case ud => dsimp only [Around.deeper]; omega); (case uu => dsimp only [Around.deeper]; omega); (case up => exact fun _ _ _ => trivial); intro vz hz tkz Dz gz Fz Nz newz hPz; obtain ⟨dz, t1z, t2z, t3z, cz, hvz, hgetz, hnewz⟩ := hPz; subst hvz; obtain ⟨N2z, hnez⟩ := newz _ _ hgetz hnewz; clear newz Nz; (try simp only [AllNe, and_true] at hnez); try dsimp only))); k_steps)
    rename PairSrcL _ _ _ _ _ _ _ _ _ _ _ _ => SS
    refine pairLoop1 "sums" [("signs", .ref a), ("turns", .int turns t1), ("light", .bool light)] (sixthsTo ns turns light) SS rfl ⟨rfl, rfl, rfl, rfl, trivial⟩ ?h0 ?hr ?turn ?done
    case h0 => exact .cons _ _ (.cons _ _ (.cons _ _ (.cons _ _ (.cons _ _ (.cons _ _ .nil)))))
    case hr => intro q hq; rw [List.mem_singleton.mp hq]; exact Nat.ne_of_lt (by assumption)
    case turn =>
      intro i n t ti m₁ vsum h tk own hn hv hoff F N
      obtain ⟨hlt, hge⟩ := List.getElem?_eq_some_iff.mp hn
      have hgd : ns.getD i 0 = n := by simp [List.getD_eq_getElem?_getD, hn]
      have hsl := sixthsTo_len ns turns light i
      have hpq := place_quot hlt
      obtain ⟨g1, g2, g3, g4, g5⟩ := sxF hlt hlen
      have hll := IntsAre.length hi
      dsimp only [kstB] at F
      by_cases hn0 : n = 0
      · subst hn0
        have hst : sixthsTo ns turns light (i + 1) = sixthsTo ns turns light i  := if_pos hgd
        rw [hst]
        k_steps
        repeat' (refine Stop.mk ?_; (first | ((refine' use0 (sp_sixth) ?a1 ?a2 ?a3 ?a4 ?ud ?uu ?up ?_; (case a1 => assumption); (case a2 => assumption); (case a3 => assumption); (case a4 => exact rfl); (case ud => dsimp only [Around.deeper]; omega); (case uu => dsimp only [Around.deeper]; omega); (case up => exact fun _ _ hq => hasTrip_of hq (.head _)); intro vz hz tkz Dz gz Fz Nz newz hPz; obtain ⟨tvz, hvz, hloz, hhiz⟩ := hPz; subst hvz; clear newz; try dsimp only)) | ((refine' use0 (sp_hsv _ _ _ _ (by assumption) (by assumption) (by assumption)) ?a1 ?a2 ?a3 ?a4 ?ud ?uu ?up ?_; (case a1 => assumption); (case a2 => assumption); (case a3 => assumption); (case a4 => exact rfl); (case ud => dsimp only [Around.deeper]; omega); (case uu => dsimp only [Around.deeper]; omega); (case up => exact fun _ _ _ => trivial); intro vz hz tkz Dz gz Fz Nz newz hPz; obtain ⟨dz, t1z, t2z, t3z, cz, hvz, hgetz, hnewz⟩ := hPz; subst hvz; obtain ⟨N2z, hnez⟩ := newz _ _ hgetz hnewz; clear newz Nz; (try simp only [AllNe, and_true] at hnez); try dsimp only)) | ((refine' use0 (sp_hls _ _ _ _) ?a1 ?a2 ?a3 ?a4 ?ud ?uu ?up ?_; (case a1 => assumption); (case a2 => assumption); (case a3 => assumption); (case a4 => exact rfl); (case ud => dsimp only [Around.deeper]; omega); (case uu => dsimp only [Around.deeper]; omega); (case up => exact fun _ _ _ => trivial); intro vz hz tkz Dz gz Fz Nz newz hPz; obtain ⟨dz, t1z, t2z, t3z, cz, hvz, hgetz, hnewz⟩ := hPz; subst hvz; obtain ⟨N2z, hnez⟩ := newz _ _ hgetz hnewz; clear newz Nz; (try simp only [AllNe, and_true] at hnez); try dsimp only))); k_steps)
        all_goals first
          | (refine Turn1.intro (by assumption) (by assumption) (fun q hq => hq) ⟨rfl, rfl, rfl, rfl, trivial⟩ (by assumption); done)
          | (exfalso; simp_all; done)
      · have hok1 := hok i hlt (by rw [hgd]; exact hn0)
        have hst : sixthsTo ns turns light (i + 1) = (sixthsTo ns turns light i).set (secF light (hueF ns.length turns i)).toNat ((sixthsTo ns turns light i).getD (secF light (hueF ns.length turns i)).toNat 0 + n) := by
          rw [← hgd]
          exact if_neg (by rw [hgd]; exact hn0)
        rw [hst]
        cases light
        · obtain ⟨hq1, hq2, hq3⟩ := hok1 rfl
          k_steps
          repeat' (refine Stop.mk ?_; (first | ((refine' use0 (sp_sixth) ?a1 ?a2 ?a3 ?a4 ?ud ?uu ?up ?_; (case a1 => assumption); (case a2 => assumption); (case a3 => assumption); (case a4 => exact rfl); (case ud => dsimp only [Around.deeper]; omega); (case uu => dsimp only [Around.deeper]; omega); (case up => exact fun _ _ hq => hasTrip_of hq (.head _)); intro vz hz tkz Dz gz Fz Nz newz hPz; obtain ⟨tvz, hvz, hloz, hhiz⟩ := hPz; subst hvz; clear newz; try dsimp only)) | ((refine' use0 (sp_hsv _ _ _ _ (by assumption) (by assumption) (by assumption)) ?a1 ?a2 ?a3 ?a4 ?ud ?uu ?up ?_; (case a1 => assumption); (case a2 => assumption); (case a3 => assumption); (case a4 => exact rfl); (case ud => dsimp only [Around.deeper]; omega); (case uu => dsimp only [Around.deeper]; omega); (case up => exact fun _ _ _ => trivial); intro vz hz tkz Dz gz Fz Nz newz hPz; obtain ⟨dz, t1z, t2z, t3z, cz, hvz, hgetz, hnewz⟩ := hPz; subst hvz; obtain ⟨N2z, hnez⟩ := newz _ _ hgetz hnewz; clear newz Nz; (try simp only [AllNe, and_true] at hnez); try dsimp only)) | ((refine' use0 (sp_hls _ _ _ _) ?a1 ?a2 ?a3 ?a4 ?ud ?uu ?up ?_; (case a1 => assumption); (case a2 => assumption); (case a3 => assumption); (case a4 => exact rfl); (case ud => dsimp only [Around.deeper]; omega); (case uu => dsimp only [Around.deeper]; omega); (case up => exact fun _ _ _ => trivial); intro vz hz tkz Dz gz Fz Nz newz hPz; obtain ⟨dz, t1z, t2z, t3z, cz, hvz, hgetz, hnewz⟩ := hPz; subst hvz; obtain ⟨N2z, hnez⟩ := newz _ _ hgetz hnewz; clear newz Nz; (try simp only [AllNe, and_true] at hnez); try dsimp only))); k_steps)
          all_goals first
            | exact absurd (by assumption) hn0
            | (refine Turn1.intro (by assumption) (by assumption) (fun q hq => .tail _ hq) ⟨rfl, rfl, rfl, rfl, trivial⟩ (by assumption); done)
        · k_steps
          repeat' (refine Stop.mk ?_; (first | ((refine' use0 (sp_sixth) ?a1 ?a2 ?a3 ?a4 ?ud ?uu ?up ?_; (case a1 => assumption); (case a2 => assumption); (case a3 => assumption); (case a4 => exact rfl); (case ud => dsimp only [Around.deeper]; omega); (case uu => dsimp only [Around.deeper]; omega); (case up => exact fun _ _ hq => hasTrip_of hq (.head _)); intro vz hz tkz Dz gz Fz Nz newz hPz; obtain ⟨tvz, hvz, hloz, hhiz⟩ := hPz; subst hvz; clear newz; try dsimp only)) | ((refine' use0 (sp_hsv _ _ _ _ (by assumption) (by assumption) (by assumption)) ?a1 ?a2 ?a3 ?a4 ?ud ?uu ?up ?_; (case a1 => assumption); (case a2 => assumption); (case a3 => assumption); (case a4 => exact rfl); (case ud => dsimp only [Around.deeper]; omega); (case uu => dsimp only [Around.deeper]; omega); (case up => exact fun _ _ _ => trivial); intro vz hz tkz Dz gz Fz Nz newz hPz; obtain ⟨dz, t1z, t2z, t3z, cz, hvz, hgetz, hnewz⟩ := hPz; subst hvz; obtain ⟨N2z, hnez⟩ := newz _ _ hgetz hnewz; clear newz Nz; (try simp only [AllNe, and_true] at hnez); try dsimp only)) | ((refine' use0 (sp_hls _ _ _ _) ?a1 ?a2 ?a3 ?a4 ?ud ?uu ?up ?_; (case a1 => assumption); (case a2 => assumption); (case a3 => assumption); (case a4 => exact rfl); (case ud => dsimp only [Around.deeper]; omega); (case uu => dsimp only [Around.deeper]; omega); (case up => exact fun _ _ _ => trivial); intro vz hz tkz Dz gz Fz Nz newz hPz; obtain ⟨dz, t1z, t2z, t3z, cz, hvz, hgetz, hnewz⟩ := hPz; subst hvz; obtain ⟨N2z, hnez⟩ := newz _ _ hgetz hnewz; clear newz Nz; (try simp only [AllNe, and_true] at hnez); try dsimp only))); k_steps)
          all_goals first
            | exact absurd (by assumption) hn0
            | (refine Turn1.intro (by assumption) (by assumption) (fun q hq => .tail _ hq) ⟨rfl, rfl, rfl, rfl, trivial⟩ (by assumption); done)
    case done =>
      intro h' tk m' vsum F' N' hv'
      dsimp only [kstB] at F'
      (try dsimp only)
      k_steps
      repeat' (refine Stop.mk ?_; (first | ((refine' use0 (sp_sixth) ?a1 ?a2 ?a3 ?a4 ?ud ?uu ?up ?_; (case a1 => assumption); (case a2 => assumption); (case a3 => assumption); (case a4 => exact rfl); (case ud => dsimp only [Around.deeper]; omega); (case uu => dsimp only [Around.deeper]; omega); (case up => exact fun _ _ hq => hasTrip_of hq (.head _)); intro vz hz tkz Dz gz Fz Nz newz hPz; obtain ⟨tvz, hvz, hloz, hhiz⟩ := hPz; subst hvz; clear newz; try dsimp only)) | ((refine' use0 (sp_hsv _ _ _ _ (by assumption) (by assumption) (by assumption)) ?a1 ?a2 ?a3 ?a4 ?ud ?uu ?up ?_; (case a1 => assumption); (case a2 => assumption); (case a3 => assumption); (case a4 => exact rfl); (case ud => dsimp only [Around.deeper]; omega); (case uu => dsimp only [Around.deeper]; omega); (case up => exact fun _ _ _ => trivial); intro vz hz tkz Dz gz Fz Nz newz hPz; obtain ⟨dz, t1z, t2z, t3z, cz, hvz, hgetz, hnewz⟩ := hPz; subst hvz; obtain ⟨N2z, hnez⟩ := newz _ _ hgetz hnewz; clear newz Nz; (try simp only [AllNe, and_true] at hnez); try dsimp only)) | ((refine' use0 (sp_hls _ _ _ _) ?a1 ?a2 ?a3 ?a4 ?ud ?uu ?up ?_; (case a1 => assumption); (case a2 => assumption); (case a3 => assumption); (case a4 => exact rfl); (case ud => dsimp only [Around.deeper]; omega); (case uu => dsimp only [Around.deeper]; omega); (case up => exact fun _ _ _ => trivial); intro vz hz tkz Dz gz Fz Nz newz hPz; obtain ⟨dz, t1z, t2z, t3z, cz, hvz, hgetz, hnewz⟩ := hPz; subst hvz; obtain ⟨N2z, hnez⟩ := newz _ _ hgetz hnewz; clear newz Nz; (try simp only [AllNe, and_true] at hnez); try dsimp only))); k_steps)
      all_goals change Ends _ _ _ _ _
      all_goals exact ends_of (D' := []) hg (by assumption) (by assumption) (by intro _ h; cases h) ⟨_, vsum, 0, rfl, (N' _ (.head _)).1, hv', (N' _ (.head _)).2.2⟩
end

section
open PySem PySem.W PySem.Calls PyProof.Rows
set_option maxRecDepth 100000
local macro_rules | `(tactic| walk_at "zz spare") => `(tactic| assumption)

theorem fillDU : (Mine.hd.heap_39 = Mine.hd.heap_39) ∧ (PySem.Challenge.rw_wf0046_01 = PySem.Challenge.rw_wf0046_01) := by
  k_fill
  exact ⟨rfl, rfl⟩

noncomputable def dueL (two three forms : Int) : List Int :=
  let one := (1 + two + three - two * three) * forms
  let other := (3 - three) * forms - one
  let half := (1 - 2 * two + three) * forms
  [one, other, half, -half, -other, -one]


set_option maxHeartbeats 4000000 in
theorem sp_due {prog : Program} {w : World} (a : Addr) (vs : List Value) (ns : List Int) (forms : Int) (t1 : Tok) (two three : Int) (hi : IntsAre vs ns) (hlen : 4 ≤ ns.length) (hlen2 : ns.length < 100) (h2 : ns.getD 2 0 = two) (h3 : ns.getD 3 0 = three) (hb2 : two.natAbs ≤ 1) (hb3 : three.natAbs ≤ 1) (hf : forms.natAbs < 1000) :
    Spec prog w 129 [.ref a, .int forms t1] 1 8 [] (fun g => g.IsList a vs.toArray) (IsInts (dueL two three forms)) := by
  intro p loose mean mg mb A s hh hd hu S hN hpre
  obtain ⟨_, dp, fr, gd, un⟩ := A
  cases hh
  dsimp only at hd hu
  refine' enterP (binds := [("signs", .ref a), ("forms", .int forms t1)]) hN S ?k6 ?k7 ?k8 ?k9 ?kB ?h ?c5 ?c2 ?c3 ?c4
  case k6 => k_is
  case k7 => k_is
  case k8 => dsimp only; omega
  case k9 => exact BindsTo.of_eq rfl
  case kB => exact locs rfl
  case c5 => decide
  case c2 => rfl
  case c3 => rfl
  case c4 => rfl
  case h =>
    intro g L' h₁ hg hL F N S' hlt
    have X := S'.X
    have T := S'.T
    (try dsimp only)
    rw [← hg] at hpre
    have hll := IntsAre.length hi
    obtain rfl : ns.getD (Int.toNat 2) 0 = two := h2
    obtain rfl : ns.getD (Int.toNat 3) 0 = three := h3
    have m1 : IntMulOk (ns.getD (Int.toNat 2) 0) (ns.getD (Int.toNat 3) 0) := .of_left (PySem.intBits_le_64 (by omega) (by omega))
    have m2 : IntMulOk (1 + (ns.getD (Int.toNat 2) 0) + (ns.getD (Int.toNat 3) 0) - (ns.getD (Int.toNat 2) 0) * (ns.getD (Int.toNat 3) 0)) forms := .of_right (PySem.intBits_le_64 (by omega) (by omega))
    have m3 : IntMulOk (3 - (ns.getD (Int.toNat 3) 0)) forms := .of_right (PySem.intBits_le_64 (by omega) (by omega))
    have m4 : IntMulOk 2 (ns.getD (Int.toNat 2) 0) := .of_right (PySem.intBits_le_64 (by omega) (by omega))
    have m5 : IntMulOk (1 - 2 * (ns.getD (Int.toNat 2) 0) + (ns.getD (Int.toNat 3) 0)) forms := .of_right (PySem.intBits_le_64 (by omega) (by omega))
    k_steps
    all_goals (try (exact absurd hlen (by omega)))
    all_goals change Ends _ _ _ _ _
    all_goals exact ends_of (D' := []) hg (by assumption) (by assumption) (by intro _ h; cases h) ⟨_, _, 0, rfl, (‹News _ _ _ _› _ (.head _)).1, (by repeat constructor), (‹News _ _ _ _› _ (.head _)).2.2⟩
end

section
open PySem PySem.W PySem.Calls PyProof.Rows
set_option maxRecDepth 100000

theorem fillI : (Mine.hd.heap_39 = Mine.hd.heap_39) ∧ (PySem.Challenge.rw_wf0046_01 = PySem.Challenge.rw_wf0046_01) := by
  k_fill
  exact ⟨rfl, rfl⟩

/-- ints come back in a new list; the tables stand -/
noncomputable def IsIntsB (ns : List Int) (g : Heap) (v : Value) (h' : Heap) (D' : List (Addr × Obj)) : Prop := IsInts ns g v h' D' ∧ TabB D'
theorem isInts_of {ns : List Int} {g h' : Heap} {L d : Addr} {vs : List Value} {n : Nat} {news D' : List (Addr × Obj)} (N : News g L h' news) (hm : (d, listOf vs.toArray n) ∈ news) (hi : IntsAre vs ns) : IsInts ns g (.ref d) h' D' :=
  ⟨d, vs, n, rfl, (N _ hm).1, hi, (N _ hm).2.2⟩
theorem i2d_end {s : Shared} {g h' : Heap} {L d f : Addr} {m : Str → Option Value} {D D' : List (Addr × Obj)} {x1 x2 x3 x4 : Addr × Obj} {fo : Obj} {vs : List Value} {ns : List Int} {tk : Nat}
    (hg : g = hid s.heap D) (F : Fr g L h' m) (N : News g L h' ((f, fo) :: (d, listOf vs.toArray 0) :: x1 :: x2 :: x3 :: x4 :: D')) (hi : IntsAre vs ns) (hD : TabB D') :
    Ends s D (IsIntsB ns) (.ok (.ret (.ref d))) { s with heap := h', toks := tk } :=
  ends_of (D' := D') hg F N (fun q hq => .tail _ (.tail _ (.tail _ (.tail _ (.tail _ (.tail _ hq)))))) ⟨isInts_of N (.tail _ (.head _)) hi, hD⟩

local macro_rules | `(tactic| k_mem) => `(tactic| assumption)
local macro_rules | `(tactic| walk_at "binaryOp Mult ref int") => `(tactic| ((rename Int.fdiv _ _ = (_ : Int) => hq9); rw [hq9]))
local macro_rules | `(tactic| walk_at "binaryOp RShift int int") => `(tactic| k_dflt (refine' rshift_int ?hn9 ?_; (case hn9 => assumption)))

set_option maxHeartbeats 8000000 in
theorem sp_i2d2 {prog : Program} {w : World} (a : Int) (ha : 0 < a) (n : Int) (ta tn : Tok) (D : List (Addr × Obj)) (hD : TabA D) (hn : 0 < n) (hn2 : n < 1000) (hq : ((Builtin.Int.intBits a : Int) + n - 1).fdiv n = 2) (hs0 : 0 ≤ (1 : Int) * n) (hs1 : (Builtin.Int.intBits (a.fdiv (2 ^ ((1 : Int) * n).toNat)) : Int) + 1 * n ≤ 2 ^ 27) :
    Spec prog w 35 [.int a ta, .int n tn] 6 60 D noPre (IsIntsB [Builtin.bitXor a (a.fdiv (2 ^ ((1 : Int) * n).toNat) * 2 ^ ((1 : Int) * n).toNat), a.fdiv (2 ^ ((1 : Int) * n).toNat)]) := by
  intro p loose mean mg mb A s hh hd hu S hN hpre
  obtain ⟨_, dp, fr, gd, un⟩ := A
  cases hh
  dsimp only at hd hu
  refine' enterC (binds := [("a", .int a ta), ("n", .int n tn)]) hN S ?k6 ?k7 ?k8 ?k9 ?kB ?kD ?h ?c2 ?c3 ?c4
  case k6 => k_is
  case k7 => k_is
  case k8 => dsimp only; omega
  case k9 => exact BindsTo.of_eq rfl
  case kB => exact rfl
  case kD => decide +kernel
  case c2 => rfl
  case c3 => rfl
  case c4 => rfl
  case h =>
    intro g L' h₁ tk₁ cells hg hL F N Y S' hlt
    have X := S'.X
    have T := S'.T
    have C1 := S'.C1
    have C2 := S'.C2
    (try dsimp only)
    k_cells Y
    have hlt' : ∀ q ∈ D, @LT.lt Nat _ q.1 L' := hlt
    have e1 : ∀ q ∈ D, q.1 ≠ L' + 1 := ne_of_all hlt (by omega)
    have e2 : ∀ q ∈ D, q.1 ≠ L' + 1 + 1 := ne_of_all hlt (by omega)
    have e3 : ∀ q ∈ D, q.1 ≠ L' + 1 + 1 + 1 := ne_of_all hlt (by omega)
    (try simp only [List.cons_append, List.nil_append] at N)
    k_steps
    repeat' (refine Stop.mk ?_; (first | ((refine' nestP ?k1 ?k2 ?k3 ?k6 ?k7 ?k8 ?k9 ?kB ?_ ?c2 ?c3 ?c4 ?c5; (case k1 => k_asm); (case k2 => k_asm); (case k3 => k_asm); (case k6 => k_mem); (case k7 => exact codeRec_news (by k_asm) (by k_mem) (by assumption) (by assumption)); (case k8 => dsimp only [Around.deeper]; omega); (case k9 => exact BindsTo.of_eq rfl); (case c5 => decide); (case kB => exact locs rfl); (case c2 => exact rfl); (case c3 => exact rfl); (case c4 => exact rfl); k_whole; intro gz Lz hz FGz Fz Nz Sz stz l1; (try (have hliz := stays_list stz (by assumption))); (have Xz := Sz.X); (have Tz := Sz.T); (try k_lt l1); (try dsimp only); (try k_fold))) | ((k_dflt (refine' nestDef_K ?d0 ?k0 ?a0 ?_; (case d0 => exact rfl); (case k0 => exact rfl); (case a0 => exact rfl)); k_dflt (refine' nest30 (own := [_, _, _, _, _]) ?F ?N ?T ?C ?cd ?D ?hap ?p1 ?p2 ?cl ?_; (case F => assumption); (case N => assumption); (case T => assumption); (case C => assumption); (case cd => exact rfl); (case D => assumption); (case hap => (refine hap_of_lt (by assumption) ⟨?_, ?_, ?_, ?_, ?_, trivial⟩ <;> (dsimp only; omega))); (case p1 => rfl); (case p2 => rfl); (case cl => exact rfl)); intro fz cz ocz vsz tz ctz dcz hz tkz Dz Fz Nz hBz hmz d1z d2z l1z hapz; (have q1 := off_of (hapz _ (.head _))); (have q2 := off_of (hapz _ (.tail _ (.head _)))); (have q3 := off_of (hapz _ (.tail _ (.tail _ (.head _))))); (have q4 := off_of (hapz _ (.tail _ (.tail _ (.tail _ (.head _)))))); (have q5 := off_of (hapz _ (.tail _ (.tail _ (.tail _ (.tail _ (.head _))))))); dsimp only at q1 q2 q3 q4 q5; (try simp only [List.cons_append, List.nil_append] at Nz); (try k_lt l1z)))); k_steps)
    all_goals first
      | exact absurd ‹a = 0› (by omega)
      | (exact i2d_end hg (by assumption) (by assumption) (.cons _ _ (.cons _ _ .nil)) (by assumption))

set_option maxHeartbeats 8000000 in
theorem sp_i2d1 {prog : Program} {w : World} (a : Int) (ha : 0 < a) (n : Int) (ta tn : Tok) (D : List (Addr × Obj)) (hD : TabA D) (hn : 0 < n) (hn2 : n < 1000) (hq : ((Builtin.Int.intBits a : Int) + n - 1).fdiv n = 1)  :
    Spec prog w 35 [.int a ta, .int n tn] 6 60 D noPre (IsIntsB [a]) := by
  intro p loose mean mg mb A s hh hd hu S hN hpre
  obtain ⟨_, dp, fr, gd, un⟩ := A
  cases hh
  dsimp only at hd hu
  refine' enterC (binds := [("a", .int a ta), ("n", .int n tn)]) hN S ?k6 ?k7 ?k8 ?k9 ?kB ?kD ?h ?c2 ?c3 ?c4
  case k6 => k_is
  case k7 => k_is
  case k8 => dsimp only; omega
  case k9 => exact BindsTo.of_eq rfl
  case kB => exact rfl
  case kD => decide +kernel
  case c2 => rfl
  case c3 => rfl
  case c4 => rfl
  case h =>
    intro g L' h₁ tk₁ cells hg hL F N Y S' hlt
    have X := S'.X
    have T := S'.T
    have C1 := S'.C1
    have C2 := S'.C2
    (try dsimp only)
    k_cells Y
    have hlt' : ∀ q ∈ D, @LT.lt Nat _ q.1 L' := hlt
    have e1 : ∀ q ∈ D, q.1 ≠ L' + 1 := ne_of_all hlt (by omega)
    have e2 : ∀ q ∈ D, q.1 ≠ L' + 1 + 1 := ne_of_all hlt (by omega)
    have e3 : ∀ q ∈ D, q.1 ≠ L' + 1 + 1 + 1 := ne_of_all hlt (by omega)
    (try simp only [List.cons_append, List.nil_append] at N)
    k_steps
    repeat' (refine Stop.mk ?_; (first | ((refine' nestP ?k1 ?k2 ?k3 ?k6 ?k7 ?k8 ?k9 ?kB ?_ ?c2 ?c3 ?c4 ?c5; (case k1 => k_asm); (case k2 => k_asm); (case k3 => k_asm); (case k6 => k_mem); (case k7 => exact codeRec_news (by k_asm) (by k_mem) (by assumption) (by assumption)); (case k8 => dsimp only [Around.deeper]; omega); (case k9 => exact BindsTo.of_eq rfl); (case c5 => decide); (case kB => exact locs rfl); (case c2 => exact rfl); (case c3 => exact rfl); (case c4 => exact rfl); k_whole; intro gz Lz hz FGz Fz Nz Sz stz l1; (try (have hliz := stays_list stz (by assumption))); (have Xz := Sz.X); (have Tz := Sz.T); (try k_lt l1); (try dsimp only); (try k_fold))) | ((k_dflt (refine' nestDef_K ?d0 ?k0 ?a0 ?_; (case d0 => exact rfl); (case k0 => exact rfl); (case a0 => exact rfl)); k_dflt (refine' nest30 (own := [_, _, _, _, _]) ?F ?N ?T ?C ?cd ?D ?hap ?p1 ?p2 ?cl ?_; (case F => assumption); (case N => assumption); (case T => assumption); (case C => assumption); (case cd => exact rfl); (case D => assumption); (case hap => (refine hap_of_lt (by assumption) ⟨?_, ?_, ?_, ?_, ?_, trivial⟩ <;> (dsimp only; omega))); (case p1 => rfl); (case p2 => rfl); (case cl => exact rfl)); intro fz cz ocz vsz tz ctz dcz hz tkz Dz Fz Nz hBz hmz d1z d2z l1z hapz; (have q1 := off_of (hapz _ (.head _))); (have q2 := off_of (hapz _ (.tail _ (.head _)))); (have q3 := off_of (hapz _ (.tail _ (.tail _ (.head _))))); (have q4 := off_of (hapz _ (.tail _ (.tail _ (.tail _ (.head _)))))); (have q5 := off_of (hapz _ (.tail _ (.tail _ (.tail _ (.tail _ (.head _))))))); dsimp only at q1 q2 q3 q4 q5; (try simp only [List.cons_append, List.nil_append] at Nz); (try k_lt l1z)))); k_steps)
    all_goals first
      | exact absurd ‹a = 0› (by omega)
      | (exact i2d_end hg (by assumption) (by assumption) (.cons _ _ .nil) (by assumption))

set_option maxHeartbeats 8000000 in
theorem sp_i2d0 {prog : Program} {w : World}  (n : Int) (ta tn : Tok) (D : List (Addr × Obj)) (hD : TabA D) (hn : 0 < n) (hn2 : n < 1000) (hq : ((Builtin.Int.intBits 0 : Int) + n - 1).fdiv n = 0)  :
    Spec prog w 35 [.int 0 ta, .int n tn] 6 60 D noPre (IsIntsB []) := by
  intro p loose mean mg mb A s hh hd hu S hN hpre
  obtain ⟨_, dp, fr, gd, un⟩ := A
  cases hh
  dsimp only at hd hu
  refine' enterC (binds := [("a", .int 0 ta), ("n", .int n tn)]) hN S ?k6 ?k7 ?k8 ?k9 ?kB ?kD ?h ?c2 ?c3 ?c4
  case k6 => k_is
  case k7 => k_is
  case k8 => dsimp only; omega
  case k9 => exact BindsTo.of_eq rfl
  case kB => exact rfl
  case kD => decide +kernel
  case c2 => rfl
  case c3 => rfl
  case c4 => rfl
  case h =>
    intro g L' h₁ tk₁ cells hg hL F N Y S' hlt
    have X := S'.X
    have T := S'.T
    have C1 := S'.C1
    have C2 := S'.C2
    (try dsimp only)
    k_cells Y
    have hlt' : ∀ q ∈ D, @LT.lt Nat _ q.1 L' := hlt
    have e1 : ∀ q ∈ D, q.1 ≠ L' + 1 := ne_of_all hlt (by omega)
    have e2 : ∀ q ∈ D, q.1 ≠ L' + 1 + 1 := ne_of_all hlt (by omega)
    have e3 : ∀ q ∈ D, q.1 ≠ L' + 1 + 1 + 1 := ne_of_all hlt (by omega)
    (try simp only [List.cons_append, List.nil_append] at N)
    k_steps
    repeat' (refine Stop.mk ?_; (first | ((refine' nestP ?k1 ?k2 ?k3 ?k6 ?k7 ?k8 ?k9 ?kB ?_ ?c2 ?c3 ?c4 ?c5; (case k1 => k_asm); (case k2 => k_asm); (case k3 => k_asm); (case k6 => k_mem); (case k7 => exact codeRec_news (by k_asm) (by k_mem) (by assumption) (by assumption)); (case k8 => dsimp only [Around.deeper]; omega); (case k9 => exact BindsTo.of_eq rfl); (case c5 => decide); (case kB => exact locs rfl); (case c2 => exact rfl); (case c3 => exact rfl); (case c4 => exact rfl); k_whole; intro gz Lz hz FGz Fz Nz Sz stz l1; (try (have hliz := stays_list stz (by assumption))); (have Xz := Sz.X); (have Tz := Sz.T); (try k_lt l1); (try dsimp only); (try k_fold))) | ((k_dflt (refine' nestDef_K ?d0 ?k0 ?a0 ?_; (case d0 => exact rfl); (case k0 => exact rfl); (case a0 => exact rfl)); k_dflt (refine' nest30 (own := [_, _, _, _, _]) ?F ?N ?T ?C ?cd ?D ?hap ?p1 ?p2 ?cl ?_; (case F => assumption); (case N => assumption); (case T => assumption); (case C => assumption); (case cd => exact rfl); (case D => assumption); (case hap => (refine hap_of_lt (by assumption) ⟨?_, ?_, ?_, ?_, ?_, trivial⟩ <;> (dsimp only; omega))); (case p1 => rfl); (case p2 => rfl); (case cl => exact rfl)); intro fz cz ocz vsz tz ctz dcz hz tkz Dz Fz Nz hBz hmz d1z d2z l1z hapz; (have q1 := off_of (hapz _ (.head _))); (have q2 := off_of (hapz _ (.tail _ (.head _)))); (have q3 := off_of (hapz _ (.tail _ (.tail _ (.head _))))); (have q4 := off_of (hapz _ (.tail _ (.tail _ (.tail _ (.head _)))))); (have q5 := off_of (hapz _ (.tail _ (.tail _ (.tail _ (.tail _ (.head _))))))); dsimp only at q1 q2 q3 q4 q5; (try simp only [List.cons_append, List.nil_append] at Nz); (try k_lt l1z)))); k_steps)
    all_goals first
      | exact absurd ‹a = 0› (by omega)
      | (exact i2d_end hg (by assumption) (by assumption) .nil (by assumption))
end

section
open PySem PySem.W PySem.Calls PyProof.Rows
set_option maxRecDepth 100000

theorem fillJ : (Mine.hd.heap_39 = Mine.hd.heap_39) ∧ (PySem.Challenge.rw_wf0046_01 = PySem.Challenge.rw_wf0046_01) := by
  k_fill
  exact ⟨rfl, rfl⟩

/-- an int comes back; both codes are made -/
noncomputable def IsIntA (x : Int) (_ : Heap) (v : Value) (_ : Heap) (D' : List (Addr × Obj)) : Prop := (∃ t, v = .int x t) ∧ Both D'
theorem d2i_end {s : Shared} {g h' : Heap} {L f : Addr} {m : Str → Option Value} {D D' : List (Addr × Obj)} {x1 x2 x3 : Addr × Obj} {fo : Obj} {x y : Int} {tx : Tok} {tk : Nat}
    (hg : g = hid s.heap D) (F : Fr g L h' m) (N : News g L h' ((f, fo) :: x1 :: x2 :: x3 :: D')) (hD : Both D') (e : y = x) :
    Ends s D (IsIntA x) (.ok (.ret (.int y tx))) { s with heap := h', toks := tk } :=
  ends_of (D' := D') hg F N (fun q hq => .tail _ (.tail _ (.tail _ (.tail _ hq)))) ⟨⟨tx, by rw [e]⟩, hD⟩

local macro_rules | `(tactic| k_mem) => `(tactic| assumption)

set_option maxHeartbeats 8000000 in
theorem sp_d2i2 {prog : Program} {w : World} (d : Addr) (n : Int) (tn : Tok) (q0 q1 : Int) (t0 t1 : Tok) (D : List (Addr × Obj)) (hD : TabB D) (hs0 : 0 ≤ (1 : Int) * n) (hs1 : (Builtin.Int.intBits q1 : Int) + 1 * n ≤ 2 ^ 27) :
    Spec prog w 42 [.ref d, .int n tn] 6 60 D (fun g => g.IsList d #[.int q0 t0, .int q1 t1]) (IsIntA (q1 * 2 ^ ((1 : Int) * n).toNat + q0)) := by
  intro p loose mean mg mb A s hh hd hu S hN hpre
  obtain ⟨_, dp, fr, gd, un⟩ := A
  cases hh
  dsimp only at hd hu
  refine' enterC (binds := [("digits", .ref d), ("n", .int n tn)]) hN S ?k6 ?k7 ?k8 ?k9 ?kB ?kD ?h ?c2 ?c3 ?c4
  case k6 => k_is
  case k7 => k_is
  case k8 => dsimp only; omega
  case k9 => exact BindsTo.of_eq rfl
  case kB => exact rfl
  case kD => decide +kernel
  case c2 => rfl
  case c3 => rfl
  case c4 => rfl
  case h =>
    intro g L' h₁ tk₁ cells hg hL F N Y S' hlt
    have X := S'.X
    have T := S'.T
    have C1 := S'.C1
    have C2 := S'.C2
    (try dsimp only)
    k_cells Y
    rw [← hg] at hpre
    have hlt' : ∀ q ∈ D, @LT.lt Nat _ q.1 L' := hlt
    have e1 : ∀ q ∈ D, q.1 ≠ L' + 1 := ne_of_all hlt (by omega)
    have e2 : ∀ q ∈ D, q.1 ≠ L' + 1 + 1 := ne_of_all hlt (by omega)
    have e3 : ∀ q ∈ D, q.1 ≠ L' + 1 + 1 + 1 := ne_of_all hlt (by omega)
    (try simp only [List.cons_append, List.nil_append] at N)
    k_steps
    repeat' (refine Stop.mk ?_; (first | ((refine' nestP ?k1 ?k2 ?k3 ?k6 ?k7 ?k8 ?k9 ?kB ?_ ?c2 ?c3 ?c4 ?c5; (case k1 => k_asm); (case k2 => k_asm); (case k3 => k_asm); (case k6 => k_mem); (case k7 => exact codeRec_news (by k_asm) (by k_mem) (by assumption) (by assumption)); (case k8 => dsimp only [Around.deeper]; omega); (case k9 => exact BindsTo.of_eq rfl); (case c5 => decide); (case kB => exact locs rfl); (case c2 => exact rfl); (case c3 => exact rfl); (case c4 => exact rfl); k_whole; intro gz Lz hz FGz Fz Nz Sz stz l1; (try (have hliz := stays_list stz (by assumption))); (have Xz := Sz.X); (have Tz := Sz.T); (try k_lt l1); (try dsimp only); (try k_fold))) | ((k_dflt (refine' nestDef_K ?d0 ?k0 ?a0 ?_; (case d0 => exact rfl); (case k0 => exact rfl); (case a0 => exact rfl)); k_dflt (refine' nest37 (own := [_, _, _]) ?F ?N ?T ?C ?cd ?D ?hap ?p1 ?p2 ?cl ?_; (case F => assumption); (case N => assumption); (case T => assumption); (case C => assumption); (case cd => exact rfl); (case D => assumption); (case hap => (refine hap_of_lt (by assumption) ⟨?_, ?_, ?_, trivial⟩ <;> (dsimp only; omega))); (case p1 => rfl); (case p2 => rfl); (case cl => exact rfl)); intro fz cz ocz vsz tz ctz dcz hz tkz Dz Fz Nz hBz hmz d1z d2z l1z hapz; (have q1 := off_of (hapz _ (.head _))); (have q2 := off_of (hapz _ (.tail _ (.head _)))); (have q3 := off_of (hapz _ (.tail _ (.tail _ (.head _))))); dsimp only at q1 q2 q3; (try simp only [List.cons_append, List.nil_append] at Nz); (try k_lt l1z)))); k_steps)
    all_goals first
      | (exact d2i_end hg (by assumption) (by assumption) (by assumption) rfl)

set_option maxHeartbeats 8000000 in
theorem sp_d2i1 {prog : Program} {w : World} (d : Addr) (n : Int) (tn : Tok) (q0 : Int) (t0 : Tok) (D : List (Addr × Obj)) (hD : TabB D)  :
    Spec prog w 42 [.ref d, .int n tn] 6 60 D (fun g => g.IsList d #[.int q0 t0]) (IsIntA (q0)) := by
  intro p loose mean mg mb A s hh hd hu S hN hpre
  obtain ⟨_, dp, fr, gd, un⟩ := A
  cases hh
  dsimp only at hd hu
  refine' enterC (binds := [("digits", .ref d), ("n", .int n tn)]) hN S ?k6 ?k7 ?k8 ?k9 ?kB ?kD ?h ?c2 ?c3 ?c4
  case k6 => k_is
  case k7 => k_is
  case k8 => dsimp only; omega
  case k9 => exact BindsTo.of_eq rfl
  case kB => exact rfl
  case kD => decide +kernel
  case c2 => rfl
  case c3 => rfl
  case c4 => rfl
  case h =>
    intro g L' h₁ tk₁ cells hg hL F N Y S' hlt
    have X := S'.X
    have T := S'.T
    have C1 := S'.C1
    have C2 := S'.C2
    (try dsimp only)
    k_cells Y
    rw [← hg] at hpre
    have hlt' : ∀ q ∈ D, @LT.lt Nat _ q.1 L' := hlt
    have e1 : ∀ q ∈ D, q.1 ≠ L' + 1 := ne_of_all hlt (by omega)
    have e2 : ∀ q ∈ D, q.1 ≠ L' + 1 + 1 := ne_of_all hlt (by omega)
    have e3 : ∀ q ∈ D, q.1 ≠ L' + 1 + 1 + 1 := ne_of_all hlt (by omega)
    (try simp only [List.cons_append, List.nil_append] at N)
    k_steps
    repeat' (refine Stop.mk ?_; (first | ((refine' nestP ?k1 ?k2 ?k3 ?k6 ?k7 ?k8 ?k9 ?kB ?_ ?c2 ?c3 ?c4 ?c5; (case k1 => k_asm); (case k2 => k_asm); (case k3 => k_asm); (case k6 => k_mem); (case k7 => exact codeRec_news (by k_asm) (by k_mem) (by assumption) (by assumption)); (case k8 => dsimp only [Around.deeper]; omega); (case k9 => exact BindsTo.of_eq rfl); (case c5 => decide); (case kB => exact locs rfl); (case c2 => exact rfl); (case c3 => exact rfl); (case c4 => exact rfl); k_whole; intro gz Lz hz FGz Fz Nz Sz stz l1; (try (have hliz := stays_list stz (by assumption))); (have Xz := Sz.X); (have Tz := Sz.T); (try k_lt l1); (try dsimp only); (try k_fold))) | ((k_dflt (refine' nestDef_K ?d0 ?k0 ?a0 ?_; (case d0 => exact rfl); (case k0 => exact rfl); (case a0 => exact rfl)); k_dflt (refine' nest37 (own := [_, _, _]) ?F ?N ?T ?C ?cd ?D ?hap ?p1 ?p2 ?cl ?_; (case F => assumption); (case N => assumption); (case T => assumption); (case C => assumption); (case cd => exact rfl); (case D => assumption); (case hap => (refine hap_of_lt (by assumption) ⟨?_, ?_, ?_, trivial⟩ <;> (dsimp only; omega))); (case p1 => rfl); (case p2 => rfl); (case cl => exact rfl)); intro fz cz ocz vsz tz ctz dcz hz tkz Dz Fz Nz hBz hmz d1z d2z l1z hapz; (have q1 := off_of (hapz _ (.head _))); (have q2 := off_of (hapz _ (.tail _ (.head _)))); (have q3 := off_of (hapz _ (.tail _ (.tail _ (.head _))))); dsimp only at q1 q2 q3; (try simp only [List.cons_append, List.nil_append] at Nz); (try k_lt l1z)))); k_steps)
    all_goals first
      | (exact d2i_end hg (by assumption) (by assumption) (by assumption) rfl)

set_option maxHeartbeats 8000000 in
theorem sp_d2i0 {prog : Program} {w : World} (d : Addr) (n : Int) (tn : Tok)  (D : List (Addr × Obj)) (hD : TabB D)  :
    Spec prog w 42 [.ref d, .int n tn] 6 60 D (fun g => g.IsList d #[]) (IsIntA (0)) := by
  intro p loose mean mg mb A s hh hd hu S hN hpre
  obtain ⟨_, dp, fr, gd, un⟩ := A
  cases hh
  dsimp only at hd hu
  refine' enterC (binds := [("digits", .ref d), ("n", .int n tn)]) hN S ?k6 ?k7 ?k8 ?k9 ?kB ?kD ?h ?c2 ?c3 ?c4
  case k6 => k_is
  case k7 => k_is
  case k8 => dsimp only; omega
  case k9 => exact BindsTo.of_eq rfl
  case kB => exact rfl
  case kD => decide +kernel
  case c2 => rfl
  case c3 => rfl
  case c4 => rfl
  case h =>
    intro g L' h₁ tk₁ cells hg hL F N Y S' hlt
    have X := S'.X
    have T := S'.T
    have C1 := S'.C1
    have C2 := S'.C2
    (try dsimp only)
    k_cells Y
    rw [← hg] at hpre
    have hlt' : ∀ q ∈ D, @LT.lt Nat _ q.1 L' := hlt
    have e1 : ∀ q ∈ D, q.1 ≠ L' + 1 := ne_of_all hlt (by omega)
    have e2 : ∀ q ∈ D, q.1 ≠ L' + 1 + 1 := ne_of_all hlt (by omega)
    have e3 : ∀ q ∈ D, q.1 ≠ L' + 1 + 1 + 1 := ne_of_all hlt (by omega)
    (try simp only [List.cons_append, List.nil_append] at N)
    k_steps
    repeat' (refine Stop.mk ?_; (first | ((refine' nestP ?k1 ?k2 ?k3 ?k6 ?k7 ?k8 ?k9 ?kB ?_ ?c2 ?c3 ?c4 ?c5; (case k1 => k_asm); (case k2 => k_asm); (case k3 => k_asm); (case k6 => k_mem); (case k7 => exact codeRec_news (by k_asm) (by k_mem) (by assumption) (by assumption)); (case k8 => dsimp only [Around.deeper]; omega); (case k9 => exact BindsTo.of_eq rfl); (case c5 => decide); (case kB => exact locs rfl); (case c2 => exact rfl); (case c3 => exact rfl); (case c4 => exact rfl); k_whole; intro gz Lz hz FGz Fz Nz Sz stz l1; (try (have hliz := stays_list stz (by assumption))); (have Xz := Sz.X); (have Tz := Sz.T); (try k_lt l1); (try dsimp only); (try k_fold))) | ((k_dflt (refine' nestDef_K ?d0 ?k0 ?a0 ?_; (case d0 => exact rfl); (case k0 => exact rfl); (case a0 => exact rfl)); k_dflt (refine' nest37 (own := [_, _, _]) ?F ?N ?T ?C ?cd ?D ?hap ?p1 ?p2 ?cl ?_; (case F => assumption); (case N => assumption); (case T => assumption); (case C => assumption); (case cd => exact rfl); (case D => assumption); (case hap => (refine hap_of_lt (by assumption) ⟨?_, ?_, ?_, trivial⟩ <;> (dsimp only; omega))); (case p1 => rfl); (case p2 => rfl); (case cl => exact rfl)); intro fz cz ocz vsz tz ctz dcz hz tkz Dz Fz Nz hBz hmz d1z d2z l1z hapz; (have q1 := off_of (hapz _ (.head _))); (have q2 := off_of (hapz _ (.tail _ (.head _)))); (have q3 := off_of (hapz _ (.tail _ (.tail _ (.head _))))); dsimp only at q1 q2 q3; (try simp only [List.cons_append, List.nil_append] at Nz); (try k_lt l1z)))); k_steps)
    all_goals first
      | (exact d2i_end hg (by assumption) (by assumption) (by assumption) rfl)
end

section
open PySem PySem.W PySem.Calls PyProof.Rows
set_option maxRecDepth 100000
local macro_rules | `(tactic| walk_at "zz spare") => `(tactic| assumption)

theorem fillP : (Mine.hd.heap_39 = Mine.hd.heap_39) ∧ (PySem.Challenge.rw_wf0046_01 = PySem.Challenge.rw_wf0046_01) := by
  k_fill
  exact ⟨rfl, rfl⟩

noncomputable def AllNF : List (Addr × Obj) → Prop
  | [] => True
  | p :: r => (∀ vs, p.2.data ≠ .fields vs) ∧ AllNF r
theorem AllNF.all {l : List (Addr × Obj)} (h : AllNF l) : ∀ q ∈ l, ∀ vs, q.2.data ≠ .fields vs := by
  induction l with
  | nil => intro q hq; cases hq
  | cons p r ih =>
    intro q hq
    rcases List.mem_cons.mp hq with e | hq
    · rw [e]; exact h.1
    · exact ih h.2 q hq
theorem both_fields {D : List (Addr × Obj)} (h : Both D) : ∀ q ∈ D, ∃ vs, q.2.data = .fields vs := by
  obtain ⟨c1, oc1, c2, oc2, rfl, ⟨vs1, _, h1, _⟩, ⟨vs2, _, h2, _⟩, _⟩ := h
  intro q hq
  simp only [List.mem_cons, List.not_mem_nil, or_false] at hq
  rcases hq with rfl | rfl | rfl | rfl
  · exact ⟨_, rfl⟩
  · exact ⟨_, rfl⟩
  · exact ⟨_, h1⟩
  · exact ⟨_, h2⟩
theorem tabB_fields {D : List (Addr × Obj)} (h : TabB D) : ∀ q ∈ D, ∃ vs, q.2.data = .fields vs := by
  rcases h with ⟨c2, oc2, rfl, ⟨vs2, _, h2, _⟩⟩ | h
  · intro q hq
    simp only [List.mem_cons, List.not_mem_nil, or_false] at hq
    rcases hq with rfl | rfl | rfl
    · exact ⟨_, rfl⟩
    · exact ⟨_, rfl⟩
    · exact ⟨_, h2⟩
  · exact both_fields h
theorem hap_kind {g h : Heap} {L : Addr} {news own D : List (Addr × Obj)} (N : News g L h news) (ho : ∀ q ∈ own, q ∈ news) (hd : ∀ q ∈ D, q ∈ news) (hD : ∀ q ∈ D, ∃ vs, q.2.data = .fields vs) (hown : AllNF own) : ∀ q ∈ own, q.1 ∉ D.map (·.1) := fun q hq hm => by
  obtain ⟨r, hr, e⟩ := List.mem_map.mp hm
  have h1 := (N q (ho q hq)).1
  have h2 := (N r (hd r hr)).1
  rw [e, h1] at h2
  obtain ⟨vs, hv⟩ := hD r hr
  exact hown.all q hq vs (by rw [Option.some.inj h2]; exact hv)

theorem intsAre2 {us : List Value} {x y : Int} (h : IntsAre us [x, y]) : ∃ t1 t2, us = [.int x t1, .int y t2] := by
  cases h with
  | cons _ t1 h => cases h with
    | cons _ t2 h => cases h; exact ⟨t1, t2, rfl⟩
theorem intsAre1 {us : List Value} {x : Int} (h : IntsAre us [x]) : ∃ t1, us = [.int x t1] := by
  cases h with
  | cons _ t1 h => cases h; exact ⟨t1, rfl⟩
theorem intsAre0 {us : List Value} (h : IntsAre us []) : us = [] := by cases h; rfl
section
variable {prog : Program} {w : World} {A : Around} {s : Shared} {p : Program} {loose : List Str} {mean : ExcName → Option Value} {mg mb : Str → Option Value} {g : Heap} {L : Addr} {m : Str → Option Value} {D news : List (Addr × Obj)} {Q E : Value → Shared → Prop}
/-- a list of ints comes from _int2digits -/
theorem use_i2d {vs : List Value} {xs : List Int} (Sp : Spec prog w 35 vs 6 60 D noPre (IsIntsB xs)) (F : Fr g L s.heap m) (S : St w p loose mean mg mb g) (N : News g L s.heap D)
    (hh : A.handled = none) (hd : A.depth + 6 < recursionLimit) (hu : A.units + 60 < cLine)
    (k : ∀ d us n h' tk D', Fr g L h' m → News g L h' ((d, listOf us.toArray n) :: D') → TabB D' → IntsAre us xs → Q (.ref d) { s with heap := h', toks := tk }) :
    wpAny (model prog w) A (call (.ref 35) vs) Q E s := by
  refine useD (own := []) Sp F S N (fun _ h => nomatch h) hh hd hu (fun _ _ _ => trivial) fun v h' tk D' g' F' N' _ new hP => ?_
  obtain ⟨⟨d, us, n, rfl, hget, hi, hnew⟩, hB⟩ := hP
  exact k d us n h' tk D' F' (new d _ hget hnew).1 hB hi
/-- _digits2int of a list of the call's own -/
theorem use_d2i {d n : Addr} {us : List Value} {vs : List Value} {x : Int} (Sp : Spec prog w 42 vs 6 60 D (fun g => g.IsList d us.toArray) (IsIntA x)) (F : Fr g L s.heap m) (S : St w p loose mean mg mb g) (N : News g L s.heap news) (hB : TabB D) (hs : ∀ q ∈ D, q ∈ news) (hm : (d, listOf us.toArray n) ∈ news)
    (hh : A.handled = none) (hd : A.depth + 6 < recursionLimit) (hu : A.units + 60 < cLine)
    (k : ∀ t h' tk D', Fr g L h' m → News g L h' D' → Both D' → Q (.int x t) { s with heap := h', toks := tk }) :
    wpAny (model prog w) A (call (.ref 42) vs) Q E s := by
  have N1 : News g L s.heap ([(d, listOf us.toArray n)] ++ D) := fun q hq => by
    rcases List.mem_append.mp hq with hq | hq
    · rw [List.mem_singleton.mp hq]; exact N _ hm
    · exact N q (hs q hq)
  refine useD (own := [(d, listOf us.toArray n)]) Sp F S N1 (hap_kind N (fun q hq => by rw [List.mem_singleton.mp hq]; exact hm) hs (tabB_fields hB) ⟨fun _ h => (nomatch h), trivial⟩) hh hd hu
    (fun g' _ hq => ⟨_, hq _ (.head _), rfl, n, rfl⟩) fun v h' tk D' g' F' N' _ new hP => ?_
  obtain ⟨⟨t, rfl⟩, hB'⟩ := hP
  exact k t h' tk D' F' (fun q hq => N' q (List.mem_append_right _ hq)) hB'
end

/-- the rest and the quotients, the digits from the last to the first -/
noncomputable def stR (b n : Int) (xs : List Int) : Nat → Int × List Int
  | 0 => (0, [])
  | i + 1 => (((stR b n xs i).1 * 2 ^ n.toNat + xs.reverse.getD i 0).fmod b, (stR b n xs i).2 ++ [((stR b n xs i).1 * 2 ^ n.toNat + xs.reverse.getD i 0).fdiv b])
theorem stR_len (b n : Int) (xs : List Int) : ∀ i, (stR b n xs i).2.length = i
  | 0 => rfl
  | i + 1 => by unfold stR; simp [stR_len b n xs i]
theorem intsAre_snoc {x : Int} {t : Tok} : ∀ {vs : List Value} {ns : List Int}, IntsAre vs ns → IntsAre (vs ++ [.int x t]) (ns ++ [x])
  | _, _, .nil => .cons x t .nil
  | _, _, .cons a u h => .cons a u (intsAre_snoc h)
theorem intsAre_rev {vs : List Value} {ns : List Int} (h : IntsAre vs ns) : IntsAre vs.reverse ns.reverse := by
  induction h with
  | nil => exact .nil
  | cons n t _ ih => rw [List.reverse_cons, List.reverse_cons]; exact intsAre_snoc ih
theorem turnR_push {g h' : Heap} {L I Dq : Addr} {it : Obj} {s : Shared} {rest : List (Addr × Obj)} {tup : Addr × Obj} {x : Str} {ps : List (Str × Value)} {r k : Int} {q0 : List Int} {m' : Str → Option Value} {us : List Value} {e' : Nat} {t t' : Tok} {tk' : Nat}
    (F : Fr g L h' m') (N : News g L h' (tup :: (I, it) :: (Dq, listOf (us.toArray.push (.int k t)) e') :: rest)) (hk : Knows m' ((x, .int r t') :: ps)) (hv : IntsAre us q0) :
    TurnR g L I Dq it s rest x ps r (q0 ++ [k]) .next { s with heap := h', toks := tk' } := by
  rw [show us.toArray.push (.int k t) = (us ++ [Value.int k t]).toArray by simp] at N
  exact TurnR.intro F N (fun q hq => .tail _ hq) hk (intsAre_snoc hv)
noncomputable def IsPairT (q r : Int) (g : Heap) (v : Value) (h' : Heap) (D' : List (Addr × Obj)) : Prop := IsPair q r g v h' D' ∧ Both D'

local macro_rules | `(tactic| k_mem) => `(tactic| assumption)

set_option maxHeartbeats 8000000 in
theorem sp_dmp {prog : Program} {w : World} (a b : Int) (ta tb : Tok) (xs : List Int) (qv : Int) (D : List (Addr × Obj)) (hD : TabA D) (hx : xs.length < 100) (hb : b ≠ 0) (hl : b.natAbs.log2 < 9000)
    (Si : ∀ D, TabA D → ∀ ta tn, Spec prog w 35 [.int a ta, .int (Builtin.Int.intBits b : Int) tn] 6 60 D noPre (IsIntsB xs))
    (Sj : ∀ D, TabB D → ∀ d us tn, IntsAre us (stR b (Builtin.Int.intBits b : Int) xs xs.length).2.reverse → Spec prog w 42 [.ref d, .int (Builtin.Int.intBits b : Int) tn] 6 60 D (fun g => g.IsList d us.toArray) (IsIntA qv))
    (hs : ∀ i, i < xs.length → (Builtin.Int.intBits (stR b (Builtin.Int.intBits b : Int) xs i).1 : Int) + (Builtin.Int.intBits b : Int) ≤ 2 ^ 27 ∧ (Builtin.Int.intBits ((stR b (Builtin.Int.intBits b : Int) xs i).1 * 2 ^ ((Builtin.Int.intBits b : Int)).toNat + xs.reverse.getD i 0) : Int) - (Builtin.Int.intBits b : Int) ≤ 4000) :
    Spec prog w 49 [.int a ta, .int b tb] 8 80 D noPre (IsPairT qv (stR b (Builtin.Int.intBits b : Int) xs xs.length).1) := by
  intro p loose mean mg mb A s hh hd hu S hN hpre
  obtain ⟨_, dp, fr, gd, un⟩ := A
  cases hh
  dsimp only at hd hu
  refine' enterP (binds := [("a", .int a ta), ("b", .int b tb)]) hN S ?k6 ?k7 ?k8 ?k9 ?kB ?h ?c5 ?c2 ?c3 ?c4
  case k6 => k_is
  case k7 => k_is
  case k8 => dsimp only; omega
  case k9 => exact BindsTo.of_eq rfl
  case kB => exact locs rfl
  case c5 => decide
  case c2 => rfl
  case c3 => rfl
  case c4 => rfl
  case h =>
    intro g L' h₁ hg hL F N S' hlt
    have X := S'.X
    have T := S'.T
    (try dsimp only)
    k_steps
    repeat' (refine Stop.mk ?_; (first | ((refine' use0 (sp_div2n1n _ _ _ _ _ _ (by assumption) (by assumption) (by assumption)) ?a1 ?a2 ?a3 ?a4 ?ud ?uu ?up ?_; (case a1 => assumption); (case a2 => assumption); (case a3 => assumption); (case a4 => exact rfl); (case ud => dsimp only [Around.deeper]; omega); (case uu => dsimp only [Around.deeper]; omega); (case up => exact fun _ _ _ => trivial); intro vz hz tkz Dz gz Fz Nz newz hPz; obtain ⟨dz, t1z, t2z, cz, hvz, hgetz, hnewz⟩ := hPz; subst hvz; obtain ⟨N2z, hnez⟩ := newz _ _ hgetz hnewz; clear newz Nz; (try simp only [AllNe, and_true] at hnez); try dsimp only))); k_steps)
    refine Stop.mk ?_
    refine use_i2d (Si _ hD _ _) (by assumption) (by assumption) (by assumption) rfl (by dsimp only [Around.deeper]; omega) (by dsimp only [Around.deeper]; omega) ?_
    intro d us n1 h' tk' D' F' N' hB' hi'
    (try dsimp only)
    k_steps
    repeat' (refine Stop.mk ?_; (first | ((refine' use0 (sp_div2n1n _ _ _ _ _ _ (by assumption) (by assumption) (by assumption)) ?a1 ?a2 ?a3 ?a4 ?ud ?uu ?up ?_; (case a1 => assumption); (case a2 => assumption); (case a3 => assumption); (case a4 => exact rfl); (case ud => dsimp only [Around.deeper]; omega); (case uu => dsimp only [Around.deeper]; omega); (case up => exact fun _ _ _ => trivial); intro vz hz tkz Dz gz Fz Nz newz hPz; obtain ⟨dz, t1z, t2z, cz, hvz, hgetz, hnewz⟩ := hPz; subst hvz; obtain ⟨N2z, hnez⟩ := newz _ _ hgetz hnewz; clear newz Nz; (try simp only [AllNe, and_true] at hnez); try dsimp only))); k_steps)
    refine revLoop "r" [("a", .int a ta), ("b", .int b tb), ("n", .int (Builtin.Int.intBits b : Int) _), ("q_digits", .ref _)] (fun i => (stR b (Builtin.Int.intBits b : Int) xs i).1) (fun i => (stR b (Builtin.Int.intBits b : Int) xs i).2) rfl (by assumption) (by assumption) rfl hi' (by assumption) (by assumption) ⟨rfl, rfl, rfl, rfl, rfl, trivial⟩ .nil ?turn ?done
    case turn =>
      intro i v t tr m₁ qs e h tk it hv hq hne hoff F N
      obtain ⟨hlt, hge⟩ := List.getElem?_eq_some_iff.mp hv
      have hgd : xs.reverse.getD i 0 = v := by simp only [List.getD_eq_getElem?_getD, hv, Option.getD_some]
      have hlx : i < xs.length := by rw [List.length_reverse] at hlt; exact hlt
      obtain ⟨hs1, hs2⟩ := hs i hlx
      rw [hgd] at hs2
      have hql := IntsAre.length hq
      have hqn := stR_len b (Builtin.Int.intBits b : Int) xs i
      have es : stR b (Builtin.Int.intBits b : Int) xs (i + 1) = (((stR b (Builtin.Int.intBits b : Int) xs i).1 * 2 ^ (Builtin.Int.intBits b : Int).toNat + v).fmod b, (stR b (Builtin.Int.intBits b : Int) xs i).2 ++ [((stR b (Builtin.Int.intBits b : Int) xs i).1 * 2 ^ (Builtin.Int.intBits b : Int).toNat + v).fdiv b]) := by rw [← hgd]; rfl
      rw [es]
      dsimp only [kstB] at F
      k_steps
      repeat' (refine Stop.mk ?_; (first | ((refine' use0 (sp_div2n1n _ _ _ _ _ _ (by assumption) (by assumption) (by assumption)) ?a1 ?a2 ?a3 ?a4 ?ud ?uu ?up ?_; (case a1 => assumption); (case a2 => assumption); (case a3 => assumption); (case a4 => exact rfl); (case ud => dsimp only [Around.deeper]; omega); (case uu => dsimp only [Around.deeper]; omega); (case up => exact fun _ _ _ => trivial); intro vz hz tkz Dz gz Fz Nz newz hPz; obtain ⟨dz, t1z, t2z, cz, hvz, hgetz, hnewz⟩ := hPz; subst hvz; obtain ⟨N2z, hnez⟩ := newz _ _ hgetz hnewz; clear newz Nz; (try simp only [AllNe, and_true] at hnez); try dsimp only))); k_steps)
      all_goals exact turnR_push (by assumption) (by assumption) ⟨rfl, rfl, rfl, rfl, rfl, trivial⟩ hq
    case done =>
      intro h' tk m' qs e t F' N' hoff hq
      dsimp only [kstB] at F'
      have hql := IntsAre.length hq
      have hqn := stR_len b (Builtin.Int.intBits b : Int) xs xs.length
      (try dsimp only)
      k_steps
      repeat' (refine Stop.mk ?_; (first | ((refine' use0 (sp_div2n1n _ _ _ _ _ _ (by assumption) (by assumption) (by assumption)) ?a1 ?a2 ?a3 ?a4 ?ud ?uu ?up ?_; (case a1 => assumption); (case a2 => assumption); (case a3 => assumption); (case a4 => exact rfl); (case ud => dsimp only [Around.deeper]; omega); (case uu => dsimp only [Around.deeper]; omega); (case up => exact fun _ _ _ => trivial); intro vz hz tkz Dz gz Fz Nz newz hPz; obtain ⟨dz, t1z, t2z, cz, hvz, hgetz, hnewz⟩ := hPz; subst hvz; obtain ⟨N2z, hnez⟩ := newz _ _ hgetz hnewz; clear newz Nz; (try simp only [AllNe, and_true] at hnez); try dsimp only))); k_steps)
      (try dsimp only)
      refine kl_reverse (l := qs.reverse) (by assumption) (by assumption) (by simp) (.head hoff) (by rw [sizeLine_eq]; show qs.length ≤ _; omega) ?_
      intro h2 F2 N2
      k_steps
      repeat' (refine Stop.mk ?_; (first | ((refine' use0 (sp_div2n1n _ _ _ _ _ _ (by assumption) (by assumption) (by assumption)) ?a1 ?a2 ?a3 ?a4 ?ud ?uu ?up ?_; (case a1 => assumption); (case a2 => assumption); (case a3 => assumption); (case a4 => exact rfl); (case ud => dsimp only [Around.deeper]; omega); (case uu => dsimp only [Around.deeper]; omega); (case up => exact fun _ _ _ => trivial); intro vz hz tkz Dz gz Fz Nz newz hPz; obtain ⟨dz, t1z, t2z, cz, hvz, hgetz, hnewz⟩ := hPz; subst hvz; obtain ⟨N2z, hnez⟩ := newz _ _ hgetz hnewz; clear newz Nz; (try simp only [AllNe, and_true] at hnez); try dsimp only))); k_steps)
      refine Stop.mk ?_
      refine use_d2i (Sj _ hB' _ _ _ (intsAre_rev hq)) (by assumption) (by assumption) (by assumption) hB' (fun q hq => .tail _ (.tail _ hq)) (.head _) rfl (by dsimp only [Around.deeper]; omega) (by dsimp only [Around.deeper]; omega) ?_
      intro t3 h3 tk3 D3 F3 N3 hB3
      (try dsimp only)
      k_steps
      repeat' (refine Stop.mk ?_; (first | ((refine' use0 (sp_div2n1n _ _ _ _ _ _ (by assumption) (by assumption) (by assumption)) ?a1 ?a2 ?a3 ?a4 ?ud ?uu ?up ?_; (case a1 => assumption); (case a2 => assumption); (case a3 => assumption); (case a4 => exact rfl); (case ud => dsimp only [Around.deeper]; omega); (case uu => dsimp only [Around.deeper]; omega); (case up => exact fun _ _ _ => trivial); intro vz hz tkz Dz gz Fz Nz newz hPz; obtain ⟨dz, t1z, t2z, cz, hvz, hgetz, hnewz⟩ := hPz; subst hvz; obtain ⟨N2z, hnez⟩ := newz _ _ hgetz hnewz; clear newz Nz; (try simp only [AllNe, and_true] at hnez); try dsimp only))); k_steps)
      all_goals exact ends_of (D' := D3) hg (by assumption) (by assumption) (fun q hq => .tail _ hq) ⟨isPair_of (by assumption) (.head _), hB3⟩
end

section
open PySem PySem.W PySem.Calls PyProof.Rows
set_option maxRecDepth 100000

theorem and_high (a n : Nat) : a &&& (a / 2 ^ n * 2 ^ n) = a / 2 ^ n * 2 ^ n := by
  apply Nat.eq_of_testBit_eq
  intro i
  rw [← Nat.shiftRight_eq_div_pow, ← Nat.shiftLeft_eq, Nat.testBit_and, Nat.testBit_shiftLeft, Nat.testBit_shiftRight]
  by_cases h : n ≤ i
  · simp [h, Nat.add_sub_cancel' h]
  · simp [h]

theorem xor_low {a : Int} (ha : 0 ≤ a) (n : Nat) : Builtin.bitXor a (a.fdiv (2 ^ n) * 2 ^ n) = a - a.fdiv (2 ^ n) * 2 ^ n := by
  obtain ⟨k, rfl⟩ := Int.eq_ofNat_of_zero_le ha
  have e : ((k : Int).fdiv (2 ^ n) * 2 ^ n) = ((k / 2 ^ n * 2 ^ n : Nat) : Int) := by
    rw [Int.fdiv_eq_ediv_of_nonneg _ (by exact Int.le_of_lt (Int.pow_pos (by decide)))]
    push_cast
    rfl
  rw [bitXor_and, e, bitAnd_pp ha (Int.natCast_nonneg _), Int.toNat_natCast, Int.toNat_natCast, and_high]
  omega

theorem bits_pos {b : Int} (hb : 0 < b) : 0 < Builtin.Int.intBits b := by
  rcases Nat.eq_zero_or_pos (Builtin.Int.intBits b) with h | h
  · have := intBits_le_iff.mp (Nat.le_of_eq h)
    omega
  · exact h
theorem bits_zero {a : Int} (h : Builtin.Int.intBits a = 0) : a = 0 := by
  have := intBits_le_iff.mp (Nat.le_of_eq h)
  omega
theorem lt_bits {b : Int} (hb : 0 ≤ b) : b < 2 ^ Builtin.Int.intBits b := by
  have h := intBits_le_iff.mp (Nat.le_refl (Builtin.Int.intBits b))
  have e : ((2 ^ Builtin.Int.intBits b : Nat) : Int) = (2 : Int) ^ Builtin.Int.intBits b := by push_cast; rfl
  rw [← e]; omega
theorem bits_of_lt {v : Int} {k : Nat} (h0 : 0 ≤ v) (h : v < 2 ^ k) : Builtin.Int.intBits v ≤ k := by
  refine intBits_le_iff.mpr ?_
  have e : ((2 ^ k : Nat) : Int) = (2 : Int) ^ k := by push_cast; rfl
  omega
theorem lt_of_bits {v : Int} {k : Nat} (h0 : 0 ≤ v) (h : Builtin.Int.intBits v ≤ k) : v < 2 ^ k := by
  have := intBits_le_iff.mp h
  have e : ((2 ^ k : Nat) : Int) = (2 : Int) ^ k := by push_cast; rfl
  omega

theorem fd {x b : Int} (hb : 0 < b) : x.fdiv b = x / b := Int.fdiv_eq_ediv_of_nonneg _ (Int.le_of_lt hb)
theorem fm {x b : Int} (hb : 0 < b) : x.fmod b = x % b := Int.fmod_eq_emod_of_nonneg _ (Int.le_of_lt hb)

/-- a division by digits -/
theorem two_digits {b p hi lo : Int} (hb : 0 < b) :
    (hi / b) * p + ((hi % b) * p + lo) / b = (hi * p + lo) / b ∧ ((hi % b) * p + lo) % b = (hi * p + lo) % b := by
  have e : hi * p + lo = ((hi % b) * p + lo) + b * ((hi / b) * p) := by
    have h := Int.emod_add_mul_ediv hi b
    have : (hi % b + b * (hi / b)) * p = hi * p := by rw [h]
    rw [← this, Int.add_mul, Int.mul_assoc]
    omega
  rw [e]
  constructor
  · rw [Int.add_mul_ediv_left _ _ (by omega), Int.add_comm]
  · rw [Int.add_mul_emod_self_left]

/-- sizes of digits, told once over bare numbers -/
theorem lt2 {i : Nat} (h : i < 2) : i = 0 ∨ i = 1 := by omega
theorem pq {a b c d : Int} (h : a + b ≤ c) (h2 : c ≤ d) {e : Int} (h3 : e < b) : a + e < d := by omega
theorem qa {x n : Nat} (h : x ≤ n) (h2 : n < 1000) : (x : Int) + n ≤ 2 ^ 27 ∧ (x : Int) + 1 * n ≤ 2 ^ 27 ∧ (0 : Int) ≤ 1 * n := by
  have : (2 : Int) ^ 27 = 134217728 := by decide
  omega
theorem qb {x n : Nat} (h : x ≤ 2 * n) (h2 : n < 1000) : (x : Int) - n ≤ 4000 := by omega
theorem qc {x n : Nat} (h : x ≤ 2 * n) (h2 : ¬x ≤ n) : (0 : Int) ≤ (x : Int) - n - 1 ∧ (x : Int) - n - 1 < n ∧ (x : Int) + n - 1 = (x : Int) - n - 1 + 2 * n := by omega
theorem qd {x n : Nat} (h : x ≤ n) (h2 : ¬x = 0) : (0 : Int) ≤ (x : Int) - 1 ∧ (x : Int) - 1 < n ∧ (x : Int) + n - 1 = (x : Int) - 1 + 1 * n := by omega
theorem qe {n : Int} (h : 0 < n) : n ≠ 0 ∧ 0 ≤ ((0 : Nat) : Int) + n - 1 ∧ ((0 : Nat) : Int) + n - 1 < n := by omega

theorem sp_divmod_pos {prog : Program} {w : World} (a b : Int) (ta tb : Tok) (D : List (Addr × Obj)) (hD : TabA D) (ha : 0 ≤ a) (hb : 0 < b) (h1 : Builtin.Int.intBits a ≤ 2 * Builtin.Int.intBits b) (h2 : Builtin.Int.intBits b < 1000) :
    Spec prog w 49 [.int a ta, .int b tb] 8 80 D noPre (IsPairT (a.fdiv b) (a.fmod b)) := by
  have hn := bits_pos hb
  have hn' : (0 : Int) < (Builtin.Int.intBits b : Int) := by omega
  have hn2 : (Builtin.Int.intBits b : Int) < 1000 := by omega
  have hl : b.natAbs.log2 < 9000 := by
    have h := intBits_le_iff.mp (Nat.le_refl (Builtin.Int.intBits b))
    have := (Nat.log2_lt (by omega)).mpr h
    omega
  have ht : ((Builtin.Int.intBits b : Int)).toNat = Builtin.Int.intBits b := Int.toNat_natCast _
  have ht1 : ((1 : Int) * (Builtin.Int.intBits b : Int)).toNat = Builtin.Int.intBits b := by rw [Int.one_mul]; exact ht
  have hp : (0 : Int) < 2 ^ Builtin.Int.intBits b := Int.pow_pos (by decide)
  have hbb := lt_bits (Int.le_of_lt hb)
  have zero : Builtin.Int.intBits 0 = 0 := rfl
  by_cases k0 : Builtin.Int.intBits a = 0
  · have := bits_zero k0
    subst this
    have e := sp_dmp (prog := prog) (w := w) 0 b ta tb [] 0 D hD (by decide) (by omega) hl
      (fun D hD ta tn => sp_i2d0 _ ta tn D hD hn' hn2 (by rw [fd hn', zero]; exact Int.ediv_eq_zero_of_lt (qe hn').2.1 (qe hn').2.2))
      (fun D hD d us tn hi => by rw [intsAre0 hi]; exact sp_d2i0 d _ tn D hD) (fun i hi => absurd hi (Nat.not_lt_zero _))
    have e1 : (0 : Int).fdiv b = 0 := Int.zero_fdiv b
    have e2 : (0 : Int).fmod b = 0 := by rw [fm hb]; exact Int.zero_emod b
    rw [e1, e2]
    exact e
  · have hpos : 0 < a := by
      rcases Int.lt_or_eq_of_le ha with h | h
      · exact h
      · rw [← h] at k0; exact absurd zero k0
    by_cases k1 : Builtin.Int.intBits a ≤ Builtin.Int.intBits b
    · have hal : a < 2 ^ Builtin.Int.intBits b := lt_of_bits ha k1
      have e := sp_dmp (prog := prog) (w := w) a b ta tb [a] (a.fdiv b) D hD (by show 1 < 100; decide) (by omega) hl
        (fun D hD ta tn => sp_i2d1 a hpos _ ta tn D hD hn' hn2 (by
          rw [fd hn']
          have q := qd k1 k0
          rw [q.2.2, Int.add_mul_ediv_right _ _ (qe hn').1, Int.ediv_eq_zero_of_lt q.1 q.2.1]; rfl))
        (fun D hD d us tn hi => by
          have e0 : (stR b (Builtin.Int.intBits b : Int) [a] [a].length).2.reverse = [a.fdiv b] := by
            show [((0 : Int) * 2 ^ _ + a).fdiv b] = _
            rw [Int.zero_mul, Int.zero_add]
          rw [e0] at hi
          obtain ⟨t1, rfl⟩ := intsAre1 hi
          exact sp_d2i1 d _ tn (a.fdiv b) t1 D hD)
        (fun i hi => by
          have : i = 0 := Nat.lt_one_iff.mp hi
          subst this
          have e1 : ((stR b (Builtin.Int.intBits b : Int) [a] 0).1) = 0 := rfl
          have e2 : [a].reverse.getD 0 0 = a := rfl
          rw [e1, e2, zero, Int.zero_mul, Int.zero_add]
          exact ⟨(qa (Nat.zero_le _) h2).1, qb h1 h2⟩)
      have e1 : (stR b (Builtin.Int.intBits b : Int) [a] [a].length).1 = a.fmod b := by
        show ((0 : Int) * 2 ^ _ + a).fmod b = _
        rw [Int.zero_mul, Int.zero_add]
      rw [e1] at e
      exact e
    · have hhi : 0 ≤ a / 2 ^ Builtin.Int.intBits b := Int.ediv_nonneg ha (Int.le_of_lt hp)
      have hhi2 : a / 2 ^ Builtin.Int.intBits b < 2 ^ Builtin.Int.intBits b := by
        refine Int.ediv_lt_of_lt_mul hp ?_
        have := lt_of_bits ha h1
        rw [← Int.pow_add, ← Nat.two_mul]
        exact this
      have hlo0 : 0 ≤ a % 2 ^ Builtin.Int.intBits b := Int.emod_nonneg _ (by omega)
      have hlo1 : a % 2 ^ Builtin.Int.intBits b < 2 ^ Builtin.Int.intBits b := Int.emod_lt_of_pos _ hp
      have ediv : a.fdiv (2 ^ Builtin.Int.intBits b) = a / 2 ^ Builtin.Int.intBits b := fd hp
      have elo : Builtin.bitXor a (a.fdiv (2 ^ Builtin.Int.intBits b) * 2 ^ Builtin.Int.intBits b) = a % 2 ^ Builtin.Int.intBits b := by
        rw [xor_low ha, ediv, Int.mul_comm]
        have := Int.emod_add_mul_ediv a (2 ^ Builtin.Int.intBits b)
        omega
      have hbits : Builtin.Int.intBits (a / 2 ^ Builtin.Int.intBits b) ≤ Builtin.Int.intBits b := bits_of_lt hhi hhi2
      have hr0 : 0 ≤ (a / 2 ^ Builtin.Int.intBits b) % b := Int.emod_nonneg _ (by omega)
      have hr1 : (a / 2 ^ Builtin.Int.intBits b) % b < b := Int.emod_lt_of_pos _ hb
      have pw : (2 : Int) ^ 27 = 134217728 := by decide
      have hv1 : 0 ≤ (a / 2 ^ Builtin.Int.intBits b) % b * 2 ^ Builtin.Int.intBits b + a % 2 ^ Builtin.Int.intBits b := Int.add_nonneg (Int.mul_nonneg hr0 (Int.le_of_lt hp)) hlo0
      have hv2 : (a / 2 ^ Builtin.Int.intBits b) % b * 2 ^ Builtin.Int.intBits b + a % 2 ^ Builtin.Int.intBits b < 2 ^ (2 * Builtin.Int.intBits b) := by
        have s1 : ((a / 2 ^ Builtin.Int.intBits b) % b + 1) * 2 ^ Builtin.Int.intBits b ≤ b * 2 ^ Builtin.Int.intBits b := Int.mul_le_mul_of_nonneg_right (by omega) (Int.le_of_lt hp)
        have s2 : b * 2 ^ Builtin.Int.intBits b ≤ 2 ^ Builtin.Int.intBits b * 2 ^ Builtin.Int.intBits b := Int.mul_le_mul_of_nonneg_right (Int.le_of_lt hbb) (Int.le_of_lt hp)
        rw [Int.add_mul, Int.one_mul] at s1
        rw [Nat.two_mul, Int.pow_add]
        exact pq s1 s2 hlo1
      have e1 : ∀ x y : Int, stR b (Builtin.Int.intBits b : Int) [x, y] 1 = (y % b, [y / b]) := fun x y => by
        show (((0 : Int) * 2 ^ _ + y).fmod b, [((0 : Int) * 2 ^ _ + y).fdiv b]) = _
        rw [Int.zero_mul, Int.zero_add, fm hb, fd hb]
      have e2 : ∀ x y : Int, stR b (Builtin.Int.intBits b : Int) [x, y] 2 = ((y % b * 2 ^ Builtin.Int.intBits b + x) % b, [y / b, (y % b * 2 ^ Builtin.Int.intBits b + x) / b]) := fun x y => by
        show (((stR b (Builtin.Int.intBits b : Int) [x, y] 1).1 * 2 ^ ((Builtin.Int.intBits b : Int)).toNat + x).fmod b, (stR b (Builtin.Int.intBits b : Int) [x, y] 1).2 ++ [((stR b (Builtin.Int.intBits b : Int) [x, y] 1).1 * 2 ^ ((Builtin.Int.intBits b : Int)).toNat + x).fdiv b]) = _
        rw [e1, ht, fm hb, fd hb]
        rfl
      obtain ⟨td1, td2⟩ := two_digits (p := 2 ^ Builtin.Int.intBits b) (hi := a / 2 ^ Builtin.Int.intBits b) (lo := a % 2 ^ Builtin.Int.intBits b) hb
      have ea : a / 2 ^ Builtin.Int.intBits b * 2 ^ Builtin.Int.intBits b + a % 2 ^ Builtin.Int.intBits b = a := by
        rw [Int.mul_comm, Int.add_comm]; exact Int.emod_add_mul_ediv a _
      rw [ea] at td1 td2
      have hy : Builtin.Int.intBits (a / 2 ^ Builtin.Int.intBits b / b) ≤ Builtin.Int.intBits b := by
        refine bits_of_lt (Int.ediv_nonneg hhi (Int.le_of_lt hb)) (Int.lt_of_le_of_lt ?_ hhi2)
        exact Int.ediv_le_self _ hhi
      have e := sp_dmp (prog := prog) (w := w) a b ta tb [a % 2 ^ Builtin.Int.intBits b, a / 2 ^ Builtin.Int.intBits b] (a.fdiv b) D hD (by show 2 < 100; decide) (by omega) hl
        (fun D hD ta tn => by
          have e := sp_i2d2 (prog := prog) (w := w) a hpos (Builtin.Int.intBits b : Int) ta tn D hD hn' hn2 (by
            rw [fd hn']
            have q := qc h1 k1
            rw [q.2.2, Int.add_mul_ediv_right _ _ (qe hn').1, Int.ediv_eq_zero_of_lt q.1 q.2.1]; rfl) (qa hbits h2).2.2 (by rw [ht1, ediv]; exact (qa hbits h2).2.1)
          rw [ht1, elo, ediv] at e
          exact e)
        (fun D hD d us tn hi => by
          rw [show [a % 2 ^ Builtin.Int.intBits b, a / 2 ^ Builtin.Int.intBits b].length = 2 from rfl, e2] at hi
          obtain ⟨t1, t2, rfl⟩ := intsAre2 hi
          have e := sp_d2i2 (prog := prog) (w := w) d (Builtin.Int.intBits b : Int) tn (((a / 2 ^ Builtin.Int.intBits b) % b * 2 ^ Builtin.Int.intBits b + a % 2 ^ Builtin.Int.intBits b) / b) (a / 2 ^ Builtin.Int.intBits b / b) t1 t2 D hD (qa hbits h2).2.2 (qa hy h2).2.1
          rw [ht1, td1] at e
          rw [fd hb]
          exact e)
        (fun i hi => by
          have : i = 0 ∨ i = 1 := lt2 hi
          rcases this with rfl | rfl
          · have e1 : ((stR b (Builtin.Int.intBits b : Int) [a % 2 ^ Builtin.Int.intBits b, a / 2 ^ Builtin.Int.intBits b] 0).1) = 0 := rfl
            have e2 : [a % 2 ^ Builtin.Int.intBits b, a / 2 ^ Builtin.Int.intBits b].reverse.getD 0 0 = a / 2 ^ Builtin.Int.intBits b := rfl
            rw [e1, e2, zero, Int.zero_mul, Int.zero_add]
            exact ⟨(qa (Nat.zero_le _) h2).1, qb (Nat.le_trans hbits (Nat.le_mul_of_pos_left _ (by decide))) h2⟩
          · rw [e1, ht]
            have e2 : [a % 2 ^ Builtin.Int.intBits b, a / 2 ^ Builtin.Int.intBits b].reverse.getD 1 0 = a % 2 ^ Builtin.Int.intBits b := rfl
            rw [e2]
            dsimp only
            have b1 : Builtin.Int.intBits ((a / 2 ^ Builtin.Int.intBits b) % b) ≤ Builtin.Int.intBits b := bits_of_lt hr0 (Int.lt_trans hr1 hbb)
            have b2 := bits_of_lt hv1 hv2
            exact ⟨(qa b1 h2).1, qb b2 h2⟩)
      rw [show [a % 2 ^ Builtin.Int.intBits b, a / 2 ^ Builtin.Int.intBits b].length = 2 from rfl, e2] at e
      dsimp only at e
      rw [td2, ← fm hb] at e
      exact e
end

section
open PySem PySem.W PySem.Calls PyProof.Rows
set_option maxRecDepth 100000

theorem fillV : (Mine.hd.heap_39 = Mine.hd.heap_39) ∧ (PySem.Challenge.rw_wf0046_01 = PySem.Challenge.rw_wf0046_01) := by
  k_fill
  exact ⟨rfl, rfl⟩

theorem use_pairT {prog : Program} {w : World} {A : Around} {s : Shared} {p : Program} {loose : List Str} {mean : ExcName → Option Value} {mg mb : Str → Option Value} {g : Heap} {L : Addr} {m : Str → Option Value} {own D : List (Addr × Obj)} {Q E : Value → Shared → Prop}
    {f : Addr} {vs : List Value} {dd uu : Nat} {q r : Int} (Sp : Spec prog w f vs dd uu D noPre (IsPairT q r)) (F : Fr g L s.heap m) (S : St w p loose mean mg mb g) (N : News g L s.heap (own ++ D)) (hap : ∀ q ∈ own, q.1 ∉ D.map (·.1))
    (hh : A.handled = none) (hd : A.depth + dd < recursionLimit) (hu : A.units + uu < cLine)
    (k : ∀ d t1 t2 c h' tk D', Fr g L h' m → News g L h' ((d, { cls := .type "tuple", data := .seq #[.int q t1, .int r t2] c }) :: (own ++ D')) → AllNe d own → Both D' → (∀ q ∈ own, q.1 ∉ D'.map (·.1)) → Q (.ref d) { s with heap := h', toks := tk }) :
    wpAny (model prog w) A (call (.ref f) vs) Q E s := by
  refine useD (own := own) Sp F S N hap hh hd hu (fun _ _ _ => trivial) fun v h' tk D' g' F' N' hap' new hP => ?_
  obtain ⟨⟨d, t1, t2, c, rfl, hget, hnew⟩, hB⟩ := hP
  obtain ⟨N2, hne⟩ := new d _ hget hnew
  exact k d t1 t2 c h' tk D' F' N2 hne hB hap'
theorem pairT_of {q r q' r' : Int} {g h' : Heap} {L d : Addr} {t1 t2 : Tok} {c : Nat} {news D' : List (Addr × Obj)} (N : News g L h' news) (hm : (d, ({ cls := .type "tuple", data := .seq #[.int q' t1, .int r' t2] c } : Obj)) ∈ news) (hB : Both D') (e1 : q' = q) (e2 : r' = r) :
    IsPairT q r g (.ref d) h' D' := by
  subst e1 e2
  exact ⟨isPair_of N hm, hB⟩
theorem neg_div {a b : Int} (hb : 0 < b) : -(-a - 1).fdiv b - 1 = a.fdiv b ∧ b + (-(-a - 1).fmod b - 1) = a.fmod b := by
  rw [fd hb, fd hb, fm hb, fm hb]
  have h1 := Int.emod_add_mul_ediv a b
  have h2 := Int.emod_add_mul_ediv (-a - 1) b
  have h3 := Int.emod_nonneg a (show b ≠ 0 by omega)
  have h4 := Int.emod_lt_of_pos a hb
  have h5 := Int.emod_nonneg (-a - 1) (show b ≠ 0 by omega)
  have h6 := Int.emod_lt_of_pos (-a - 1) hb
  have key : a / b + (-a - 1) / b + 1 = 0 := by
    have e : b * (a / b + (-a - 1) / b + 1) = b - 1 - a % b - (-a - 1) % b := by
      rw [Int.mul_add, Int.mul_add, Int.mul_one]; omega
    rcases Int.lt_trichotomy (a / b + (-a - 1) / b + 1) 0 with h | h | h
    · have : b * (a / b + (-a - 1) / b + 1) ≤ b * (-1) := Int.mul_le_mul_of_nonneg_left (by omega) (by omega)
      omega
    · exact h
    · have : b * 1 ≤ b * (a / b + (-a - 1) / b + 1) := Int.mul_le_mul_of_nonneg_left (by omega) (by omega)
      omega
  have e : b * (a / b + (-a - 1) / b + 1) = 0 := by rw [key, Int.mul_zero]
  rw [Int.mul_add, Int.mul_add, Int.mul_one] at e
  constructor <;> omega

set_option maxHeartbeats 4000000 in
theorem sp_dv0 {prog : Program} {w : World} (a b : Int) (ta tb : Tok) (D : List (Addr × Obj)) (hD : TabA D) (ha : 0 ≤ a) (hb : 0 < b) (h1 : Builtin.Int.intBits a ≤ 2 * Builtin.Int.intBits b) (h2 : Builtin.Int.intBits b < 1000) :
    Spec prog w 56 [.int a ta, .int b tb] 10 100 D noPre (IsPairT (a.fdiv b) (a.fmod b)) := by
  intro p loose mean mg mb A s hh hd hu S hN hpre
  obtain ⟨_, dp, fr, gd, un⟩ := A
  cases hh
  dsimp only at hd hu
  refine' enterP (binds := [("a", .int a ta), ("b", .int b tb)]) hN S ?k6 ?k7 ?k8 ?k9 ?kB ?h ?c5 ?c2 ?c3 ?c4
  case k6 => k_is
  case k7 => k_is
  case k8 => dsimp only; omega
  case k9 => exact BindsTo.of_eq rfl
  case kB => exact locs rfl
  case c5 => decide
  case c2 => rfl
  case c3 => rfl
  case c4 => rfl
  case h =>
    intro g L' h₁ hg hL F N S' hlt
    have X := S'.X
    have T := S'.T
    (try dsimp only)
    k_steps
    repeat' (refine Stop.mk ?_; (first | ((refine' use_pairT (own := []) (sp_divmod_pos _ _ _ _ _ (by assumption) (by assumption) (by assumption) (by assumption) (by assumption)) ?a1 ?a2 ?a3 ?a4 ?a5 ?ud ?uu ?_; (case a1 => assumption); (case a2 => assumption); (case a3 => assumption); (case a4 => exact (fun _ h => nomatch h)); (case a5 => exact rfl); (case ud => dsimp only [Around.deeper]; omega); (case uu => dsimp only [Around.deeper]; omega); intro dz t1z t2z cz hz tkz Dz Fz Nz hnez hBz hapz; try dsimp only))); k_steps)
    all_goals first
      | (exfalso; omega)
      | exact ends_of hg (by assumption) (by assumption) (fun q hq => .tail _ hq) (pairT_of (by assumption) (.head _) (by assumption) rfl rfl)


set_option maxHeartbeats 4000000 in
theorem sp_dv1 {prog : Program} {w : World} (a b : Int) (ta tb : Tok) (D : List (Addr × Obj)) (hD : TabA D) (ha : a < 0) (hb : 0 < b) (hna : 0 ≤ -a - 1) (h1 : Builtin.Int.intBits (-a - 1) ≤ 2 * Builtin.Int.intBits b) (h2 : Builtin.Int.intBits b < 1000) :
    Spec prog w 56 [.int a ta, .int b tb] 12 120 D noPre (IsPairT (a.fdiv b) (a.fmod b)) := by
  intro p loose mean mg mb A s hh hd hu S hN hpre
  obtain ⟨_, dp, fr, gd, un⟩ := A
  cases hh
  dsimp only at hd hu
  refine' enterP (binds := [("a", .int a ta), ("b", .int b tb)]) hN S ?k6 ?k7 ?k8 ?k9 ?kB ?h ?c5 ?c2 ?c3 ?c4
  case k6 => k_is
  case k7 => k_is
  case k8 => dsimp only; omega
  case k9 => exact BindsTo.of_eq rfl
  case kB => exact locs rfl
  case c5 => decide
  case c2 => rfl
  case c3 => rfl
  case c4 => rfl
  case h =>
    intro g L' h₁ hg hL F N S' hlt
    have X := S'.X
    have T := S'.T
    (try dsimp only)
    k_steps
    repeat' (refine Stop.mk ?_; (first | ((refine' use_pairT (own := []) (sp_dv0 _ _ _ _ _ (by assumption) (by assumption) (by assumption) (by assumption) (by assumption)) ?a1 ?a2 ?a3 ?a4 ?a5 ?ud ?uu ?_; (case a1 => assumption); (case a2 => assumption); (case a3 => assumption); (case a4 => exact (fun _ h => nomatch h)); (case a5 => exact rfl); (case ud => dsimp only [Around.deeper]; omega); (case uu => dsimp only [Around.deeper]; omega); intro dz t1z t2z cz hz tkz Dz Fz Nz hnez hBz hapz; try dsimp only)) | ((refine' use_pairT (own := []) (sp_divmod_pos _ _ _ _ _ (by assumption) (by assumption) (by assumption) (by assumption) (by assumption)) ?a1 ?a2 ?a3 ?a4 ?a5 ?ud ?uu ?_; (case a1 => assumption); (case a2 => assumption); (case a3 => assumption); (case a4 => exact (fun _ h => nomatch h)); (case a5 => exact rfl); (case ud => dsimp only [Around.deeper]; omega); (case uu => dsimp only [Around.deeper]; omega); intro dz t1z t2z cz hz tkz Dz Fz Nz hnez hBz hapz; try dsimp only))); k_steps)
    all_goals first
      | (exfalso; omega)
      | exact ends_of hg (by assumption) (by assumption) (fun q hq => .tail _ (.tail _ hq)) (pairT_of (by assumption) (.head _) (by assumption) (neg_div hb).1 (neg_div hb).2)

theorem sp_dvp {prog : Program} {w : World} (a b : Int) (ta tb : Tok) (D : List (Addr × Obj)) (hD : TabA D) (hb : 0 < b) (h1 : a.natAbs < 2 ^ (2 * Builtin.Int.intBits b)) (h2 : Builtin.Int.intBits b < 1000) :
    Spec prog w 56 [.int a ta, .int b tb] 12 120 D noPre (IsPairT (a.fdiv b) (a.fmod b)) := by
  by_cases ha : 0 ≤ a
  · intro p loose mean mg mb A s hh hd hu S hN hpre
    exact sp_dv0 a b ta tb D hD ha hb (intBits_le_iff.mpr h1) h2 p loose mean mg mb A s hh (by omega) (by omega) S hN hpre
  · exact sp_dv1 a b ta tb D hD (by omega) hb (by omega) (intBits_le_iff.mpr (by omega)) h2

set_option maxHeartbeats 4000000 in
theorem sp_dv2 {prog : Program} {w : World} (a b : Int) (ta tb : Tok) (D : List (Addr × Obj)) (hD : TabA D) (hb : b < 0) (hnb : 0 < -b) (h1 : (-a).natAbs < 2 ^ (2 * Builtin.Int.intBits (-b))) (h2 : Builtin.Int.intBits (-b) < 1000) :
    Spec prog w 56 [.int a ta, .int b tb] 14 140 D noPre (IsPairT ((-a).fdiv (-b)) (-(-a).fmod (-b))) := by
  intro p loose mean mg mb A s hh hd hu S hN hpre
  obtain ⟨_, dp, fr, gd, un⟩ := A
  cases hh
  dsimp only at hd hu
  refine' enterP (binds := [("a", .int a ta), ("b", .int b tb)]) hN S ?k6 ?k7 ?k8 ?k9 ?kB ?h ?c5 ?c2 ?c3 ?c4
  case k6 => k_is
  case k7 => k_is
  case k8 => dsimp only; omega
  case k9 => exact BindsTo.of_eq rfl
  case kB => exact locs rfl
  case c5 => decide
  case c2 => rfl
  case c3 => rfl
  case c4 => rfl
  case h =>
    intro g L' h₁ hg hL F N S' hlt
    have X := S'.X
    have T := S'.T
    (try dsimp only)
    k_steps
    repeat' (refine Stop.mk ?_; (first | ((refine' use_pairT (own := []) (sp_dvp _ _ _ _ _ (by assumption) (by assumption) (by assumption) (by assumption)) ?a1 ?a2 ?a3 ?a4 ?a5 ?ud ?uu ?_; (case a1 => assumption); (case a2 => assumption); (case a3 => assumption); (case a4 => exact (fun _ h => nomatch h)); (case a5 => exact rfl); (case ud => dsimp only [Around.deeper]; omega); (case uu => dsimp only [Around.deeper]; omega); intro dz t1z t2z cz hz tkz Dz Fz Nz hnez hBz hapz; try dsimp only)) | ((refine' use_pairT (own := []) (sp_dv0 _ _ _ _ _ (by assumption) (by assumption) (by assumption) (by assumption) (by assumption)) ?a1 ?a2 ?a3 ?a4 ?a5 ?ud ?uu ?_; (case a1 => assumption); (case a2 => assumption); (case a3 => assumption); (case a4 => exact (fun _ h => nomatch h)); (case a5 => exact rfl); (case ud => dsimp only [Around.deeper]; omega); (case uu => dsimp only [Around.deeper]; omega); intro dz t1z t2z cz hz tkz Dz Fz Nz hnez hBz hapz; try dsimp only)) | ((refine' use_pairT (own := []) (sp_divmod_pos _ _ _ _ _ (by assumption) (by assumption) (by assumption) (by assumption) (by assumption)) ?a1 ?a2 ?a3 ?a4 ?a5 ?ud ?uu ?_; (case a1 => assumption); (case a2 => assumption); (case a3 => assumption); (case a4 => exact (fun _ h => nomatch h)); (case a5 => exact rfl); (case ud => dsimp only [Around.deeper]; omega); (case uu => dsimp only [Around.deeper]; omega); intro dz t1z t2z cz hz tkz Dz Fz Nz hnez hBz hapz; try dsimp only))); k_steps)
    all_goals first
      | (exfalso; omega)
      | exact ends_of hg (by assumption) (by assumption) (fun q hq => .tail _ (.tail _ hq)) (pairT_of (by assumption) (.head _) (by assumption) rfl rfl)

theorem Spec.weaken {prog : Program} {w : World} {f : Addr} {vs : List Value} {dd uu dd' uu' : Nat} {D : List (Addr × Obj)} {Pre : Heap → Prop} {Post : Heap → Value → Heap → List (Addr × Obj) → Prop} (h : Spec prog w f vs dd uu D Pre Post) (h1 : dd ≤ dd') (h2 : uu ≤ uu') : Spec prog w f vs dd' uu' D Pre Post :=
  fun p loose mean mg mb A s hh hd hu => h p loose mean mg mb A s hh (Nat.lt_of_le_of_lt (Nat.add_le_add_left h1 _) hd) (Nat.lt_of_le_of_lt (Nat.add_le_add_left h2 _) hu)
theorem intBits_neg (b : Int) : Builtin.Int.intBits (-b) = Builtin.Int.intBits b :=
  Nat.le_antisymm (PySem.intBits_neg_le (Nat.le_refl _)) (by have := PySem.intBits_neg_le (x := -b) (Nat.le_refl _); rwa [Int.neg_neg] at this)
/-- int_divmod, by any divisor but nought -/
theorem sp_dvu {prog : Program} {w : World} (a b : Int) (ta tb : Tok) (D : List (Addr × Obj)) (hD : TabA D) (hb : b ≠ 0) (h1 : a.natAbs < 2 ^ (2 * Builtin.Int.intBits b)) (h2 : Builtin.Int.intBits b < 1000) :
    Spec prog w 56 [.int a ta, .int b tb] 14 140 D noPre (IsPairT (a.fdiv b) (a.fmod b)) := by
  rcases Int.lt_or_gt_of_ne hb with h | h
  · have e1 : (-a).fdiv (-b) = a.fdiv b := Int.neg_fdiv_neg a b
    have e2 : -(-a).fmod (-b) = a.fmod b := by rw [Int.neg_fmod_neg, Int.neg_neg]
    have := sp_dv2 (prog := prog) (w := w) a b ta tb D hD h (Int.neg_pos_of_neg h) (by rw [intBits_neg, Int.natAbs_neg]; exact h1) (by rw [intBits_neg]; exact h2)
    rw [e1, e2] at this
    exact this
  · exact (sp_dvp a b ta tb D hD h h1 h2).weaken (by decide) (by decide)
end

section
open PySem PySem.W PySem.Calls PyProof.Rows
set_option maxRecDepth 100000

theorem fillDV : (Mine.hd.heap_39 = Mine.hd.heap_39) ∧ (PySem.Challenge.rw_wf0046_01 = PySem.Challenge.rw_wf0046_01) := by
  k_fill
  exact ⟨rfl, rfl⟩

noncomputable def numF (factor : Int) (i : Nat) : Int := (i : Int) * factor * 1208925819614629174706176
/-- a sum over the places with a sign -/
noncomputable def sumF (ns : List Int) (f : Nat → Int) : Nat → Int
  | 0 => 0
  | i + 1 => if ns.getD i 0 = 0 then sumF ns f i else sumF ns f i + ns.getD i 0 * f i
noncomputable def IsSums (q r : Int) (g : Heap) (v : Value) (h' : Heap) (D' : List (Addr × Obj)) : Prop :=
  (∃ d t1 t2 c, v = .ref d ∧ h'.get? d = some { cls := .type "tuple", data := .seq #[.int q t1, .int r t2, .bool true] c } ∧ g.get? d = none) ∧ TabA D'
noncomputable def KeepD (qn rn : Int) (ps : List (Str × Value)) (m : Str → Option Value) (D : List (Addr × Obj)) : Prop := ∃ tq tr, Knows m (("quotients", .int qn tq) :: ("rests", .int rn tr) :: ps) ∧ TabA D
theorem TurnD.intro {g h' : Heap} {L : Addr} {s : Shared} {own news D' : List (Addr × Obj)} {ps : List (Str × Value)} {qn rn : Int} {m' : Str → Option Value} {tk' : Nat}
    (F : Fr g L h' m') (N : News g L h' news) (hs : ∀ q ∈ own ++ D', q ∈ news) (hap : ∀ q ∈ own, q.1 ∉ D'.map (·.1)) (hk : KeepD qn rn ps m' D') : TurnD g L s own (KeepD qn rn ps) .next { s with heap := h', toks := tk' } :=
  ⟨rfl, h', tk', m', D', rfl, F, fun q hq => N q (hs q hq), hap, hk⟩
theorem TurnD.intro1 {g h' : Heap} {L : Addr} {s : Shared} {x : Addr × Obj} {own D' : List (Addr × Obj)} {ps : List (Str × Value)} {qn rn : Int} {m' : Str → Option Value} {tk' : Nat}
    (F : Fr g L h' m') (N : News g L h' (x :: (own ++ D'))) (hap : ∀ q ∈ own, q.1 ∉ D'.map (·.1)) (hk : KeepD qn rn ps m' D') : TurnD g L s own (KeepD qn rn ps) .next { s with heap := h', toks := tk' } :=
  ⟨rfl, h', tk', m', D', rfl, F, fun q hq => N q (.tail _ hq), hap, hk⟩

theorem EnumNew.tl {g : Heap} {L : Addr} {h : Heap} {e it l : Addr} {x : Addr × Obj} {D : List (Addr × Obj)} (E : EnumNew g L h e it l (x :: D)) : EnumNew g L h e it l D :=
  { E with heD := fun hm => E.heD (.tail _ hm), hiD := fun hm => E.hiD (.tail _ hm) }
theorem News.tl {g : Heap} {L : Addr} {h : Heap} {x : Addr × Obj} {D : List (Addr × Obj)} (N : News g L h (x :: D)) : News g L h D := fun q hq => N q (.tail _ hq)
theorem mulOk_big {a b : Int} (ha : a.natAbs < 2 ^ 2000) (hb : b.natAbs < 2 ^ 2000) : IntMulOk a b := mulOk_of_bits (intBits_le_iff.mpr ha) (intBits_le_iff.mpr hb) (by decide)
theorem small_big {a : Int} {n : Nat} (ha : a.natAbs < 2 ^ n) (hn : n ≤ 2000) : a.natAbs < 2 ^ 2000 := Nat.lt_of_lt_of_le ha (Nat.pow_le_pow_right (by decide) hn)
theorem goodT {p : Prop} [Decidable p] (h : p) : some (Value.bool (decide p)) = some (.bool true) := by rw [decide_eq_true h]
theorem law_p (num d : Int) (hd : 0 < d) : num.fdiv d * d + num.fmod d = num ∧ 0 ≤ num.fmod d ∧ num.fmod d < d ∧ (num.fdiv d).natAbs ≤ num.natAbs := by
  rw [fd hd, fm hd]
  have h1 := Int.emod_add_mul_ediv num d
  refine ⟨?_, Int.emod_nonneg _ (by omega), Int.emod_lt_of_pos _ hd, Int.natAbs_ediv_le_natAbs _ _⟩
  rw [Int.mul_comm] at h1; omega
theorem law_n (num d : Int) (hd : 0 < -d) : (-num).fdiv (-d) * d + -(-num).fmod (-d) = num ∧ -(-num).fmod (-d) ≤ 0 ∧ d < -(-num).fmod (-d) ∧ ((-num).fdiv (-d)).natAbs ≤ (-num).natAbs := by
  obtain ⟨h1, h2, h3, h4⟩ := law_p (-num) (-d) hd
  rw [Int.mul_neg] at h1
  refine ⟨?_, ?_, ?_, h4⟩ <;> omega

local macro_rules | `(tactic| walk_at "exec For Tuple Call") => `(tactic| (refine For_at ?_ (fun _ => rfl)))
local macro_rules | `(tactic| walk_at "call type:enumerate") => `(tactic| (refine' call_enumD (by assumption) (by assumption) (by assumption) ?_; intro h' e' it' F' N' EN'; (try dsimp only)))

theorem law_u (num d : Int) (hd : d ≠ 0) : num.fdiv d * d + num.fmod d = num ∧ (0 < d → 0 ≤ num.fmod d ∧ num.fmod d < d) ∧ (d < 0 → d < num.fmod d ∧ num.fmod d ≤ 0) ∧ (num.fdiv d).natAbs ≤ num.natAbs := by
  rcases Int.lt_or_gt_of_ne hd with h | h
  · obtain ⟨h1, h2, h3, h4⟩ := law_n num d (Int.neg_pos_of_neg h)
    rw [Int.neg_fdiv_neg, Int.neg_fmod_neg, Int.neg_neg] at *
    rw [Int.natAbs_neg] at h4
    exact ⟨h1, fun h' => absurd h' (Int.not_lt.mpr (Int.le_of_lt h)), fun _ => ⟨h3, h2⟩, h4⟩
  · obtain ⟨h1, h2, h3, h4⟩ := law_p num d h
    exact ⟨h1, fun _ => ⟨h2, h3⟩, fun h' => absurd h' (Int.not_lt.mpr (Int.le_of_lt h)), h4⟩
/-- a test that comes out true, walked by itself -/
theorem cutB {M : Model} {A : Around} {t : Sem Value} {Q E : Value → Shared → Prop} {s : Shared} (h1 : wpAny M A t (fun v s' => v = .bool true ∧ ∃ tk, s' = { s with toks := tk }) E s) (h2 : ∀ tk, Q (.bool true) { s with toks := tk }) : wpAny M A t Q E s :=
  wpAny_mono h1 (fun v s' h => by obtain ⟨rfl, tk, rfl⟩ := h; exact h2 tk) fun _ _ e => e
theorem boolT {p : Prop} [Decidable p] {s : Shared} {tk : Nat} (h : p) : Value.bool (decide p) = .bool true ∧ ∃ tk', ({ s with toks := tk } : Shared) = { s with toks := tk' } := ⟨by rw [decide_eq_true h], tk, rfl⟩
structure Marker : Prop where
local macro_rules | `(tactic| walk_at "eval BoolOp") => `(tactic| k_dflt ((rename Marker => mk9); refine Stop.h ?_))

theorem mulOneL {a b : Int} (h : a.natAbs ≤ 1) : IntMulOk a b := .of_left (PySem.intBits_le_64 (by omega) (by omega))
theorem smallL {i : Nat} {b : Int} (h : i < 100) : IntMulOk (i : Int) b := .of_left (PySem.intBits_le_64 (by omega) (by omega))
theorem hm1Ok {i : Nat} {factor : Int} (h : i < 100) (hfb : factor.natAbs < 2 ^ 200) : IntMulOk ((i : Int) * factor) 1208925819614629174706176 := mulOk_big (by have h1 := Int.natAbs_mul (i : Int) factor; have h2 : (i : Int).natAbs * factor.natAbs ≤ 100 * factor.natAbs := Nat.mul_le_mul_right _ (by omega); rw [h1]; refine Nat.lt_of_le_of_lt h2 (Nat.lt_of_lt_of_le (Nat.mul_lt_mul_of_pos_left hfb (by decide)) ?_); decide +kernel) (by decide)
theorem rA {d r : Int} (h : d ≠ 0) (h2 : 0 < d → 0 ≤ r ∧ r < d) (h3 : d < 0 → d < r ∧ r ≤ 0) (c : ¬ r < d) : r ≤ 0 := by
  rcases Int.lt_or_gt_of_ne h with q | q
  · exact (h3 q).2
  · exact absurd (h2 q).2 c
theorem rB {d r : Int} (h : d ≠ 0) (h2 : 0 < d → 0 ≤ r ∧ r < d) (c : ¬ 0 ≤ r) (h3 : d < 0 → d < r ∧ r ≤ 0) : r ≤ 0 := by
  rcases Int.lt_or_gt_of_ne h with q | q
  · exact (h3 q).2
  · exact absurd (h2 q).1 c
theorem rC {d r : Int} (h : d ≠ 0) (h2 : 0 < d → 0 ≤ r ∧ r < d) (h3 : d < 0 → d < r ∧ r ≤ 0) (c : ¬ r < d) (c2 : ¬ d < r) : False := by
  rcases Int.lt_or_gt_of_ne h with q | q
  · exact c2 (h3 q).1
  · exact c (h2 q).2
theorem rD {d r : Int} (h : d ≠ 0) (h2 : 0 < d → 0 ≤ r ∧ r < d) (h3 : d < 0 → d < r ∧ r ≤ 0) (c : ¬ 0 ≤ r) (c2 : ¬ d < r) : False := by
  rcases Int.lt_or_gt_of_ne h with q | q
  · exact c2 (h3 q).1
  · exact c (h2 q).1

set_option maxHeartbeats 4000000 in
theorem sp_div {prog : Program} {w : World} (a : Addr) (vs : List Value) (ns : List Int) (factor divisor : Int) (t1 t2 : Tok) (D : List (Addr × Obj)) (hD : TabA D) (hi : IntsAre vs ns) (hlen : ns.length < 100) (hsm : ∀ i, i < ns.length → (ns.getD i 0).natAbs ≤ 1) (hb : divisor ≠ 0) (hb2 : Builtin.Int.intBits divisor < 1000) (hfb : factor.natAbs < 2 ^ 200) (hf : ∀ i, i < ns.length → (numF factor i).natAbs < 2 ^ (2 * Builtin.Int.intBits divisor)) :
    Spec prog w 103 [.ref a, .int factor t1, .int divisor t2] 17 180 D (fun g => g.IsList a vs.toArray) (IsSums (sumF ns (fun i => (numF factor i).fdiv divisor) ns.length) (sumF ns (fun i => (numF factor i).fmod divisor) ns.length)) := by
  intro p loose mean mg mb A s hh hd hu S hN hpre
  obtain ⟨_, dp, fr, gd, un⟩ := A
  cases hh
  dsimp only at hd hu
  refine' enterP (binds := [("signs", .ref a), ("factor", .int factor t1), ("divisor", .int divisor t2)]) hN S ?k6 ?k7 ?k8 ?k9 ?kB ?h ?c5 ?c2 ?c3 ?c4
  case k6 => k_is
  case k7 => k_is
  case k8 => dsimp only; omega
  case k9 => exact BindsTo.of_eq rfl
  case kB => exact locs rfl
  case c5 => decide
  case c2 => rfl
  case c3 => rfl
  case c4 => rfl
  case h =>
    intro g L' h₁ hg hL F N S' hlt
    have X := S'.X
    have T := S'.T
    (try dsimp only)
    rw [← hg] at hpre
    k_steps
    repeat' (refine Stop.mk ?_; (first | ((refine' use_pairT (own := [(_, _), (_, _)]) (sp_dvu _ _ _ _ _ (by assumption) (by assumption) (by assumption) (by assumption)) ?a1 ?a2 ?a3 ?a4 ?a5 ?ud ?uu ?_; (case a1 => assumption); (case a2 => assumption); (case a3 => assumption); (case a4 => assumption); (case a5 => exact rfl); (case ud => dsimp only [Around.deeper]; omega); (case uu => dsimp only [Around.deeper]; omega); intro dz t1z t2z cz hz tkz Dz Fz Nz hnez hBz hapz; (try simp only [AllNe, and_true] at hnez); try dsimp only))); k_steps)
    rename EnumNew _ _ _ _ _ _ _ => EN
    refine enumLoopD (by assumption) (News.tl (by assumption)) EN.tl rfl rfl rfl rfl rfl hpre hi (fun i => KeepD (sumF ns (fun i => (numF factor i).fdiv divisor) i) (sumF ns (fun i => (numF factor i).fmod divisor) i) [("good", .bool true), ("signs", .ref a), ("factor", .int factor t1), ("divisor", .int divisor t2)]) ⟨_, _, ⟨rfl, rfl, rfl, rfl, rfl, rfl, trivial⟩, hD⟩ ?turn ?done
    case turn =>
      intro i n t ti m₁ D h tk eo io hn hJ hap hei F N
      obtain ⟨tq, tr, hk, hD⟩ := hJ
      replace F := hk.fr2 F
      obtain ⟨hlt, hge⟩ := List.getElem?_eq_some_iff.mp hn
      have hgd : ns.getD i 0 = n := by simp [List.getD_eq_getElem?_getD, hn]
      have hf1 := hf i hlt
      dsimp only [kstB] at F
      by_cases hn0 : n = 0
      · subst hn0
        have hs1 : ∀ f, sumF ns f (i + 1) = sumF ns f i := fun f => if_pos hgd
        rw [hs1, hs1]
        k_steps
        repeat' (refine Stop.mk ?_; (first | ((refine' use_pairT (own := [(_, _), (_, _)]) (sp_dvu _ _ _ _ _ (by assumption) (by assumption) (by assumption) (by assumption)) ?a1 ?a2 ?a3 ?a4 ?a5 ?ud ?uu ?_; (case a1 => assumption); (case a2 => assumption); (case a3 => assumption); (case a4 => assumption); (case a5 => exact rfl); (case ud => dsimp only [Around.deeper]; omega); (case uu => dsimp only [Around.deeper]; omega); intro dz t1z t2z cz hz tkz Dz Fz Nz hnez hBz hapz; (try simp only [AllNe, and_true] at hnez); try dsimp only))); k_steps)
        all_goals first
          | (refine TurnD.intro (by assumption) (by assumption) (fun q hq => hq) (by assumption) ⟨_, _, ⟨rfl, rfl, rfl, rfl, rfl, rfl, trivial⟩, by assumption⟩; done)
          | (exfalso; simp_all; done)
      · have hs1 : ∀ f, sumF ns f (i + 1) = sumF ns f i + n * f i := fun f => by rw [← hgd]; exact if_neg (by rw [hgd]; exact hn0)
        rw [hs1, hs1]
        have hn1 : n.natAbs ≤ 1 := by have := hsm i hlt; rw [hgd] at this; exact this
        have hm0 : IntMulOk (i : Int) factor := smallL (Nat.lt_trans hlt hlen)
        have hdb : divisor.natAbs < 2 ^ 1000 := intBits_le_iff.mp (Nat.le_of_lt hb2)
        have hnb : (numF factor i).natAbs < 2 ^ 2000 := small_big hf1 (by omega)
        obtain ⟨hl1, hl2, hl3, hl4⟩ := law_u (numF factor i) divisor hb
        have hm1 : IntMulOk ((i : Int) * factor) 1208925819614629174706176 := hm1Ok (Nat.lt_trans hlt hlen) hfb
        have hm2 : IntMulOk ((numF factor i).fdiv divisor) divisor := mulOk_big (Nat.lt_of_le_of_lt hl4 hnb) (small_big hdb (by decide))
        have hm3 : IntMulOk n ((numF factor i).fdiv divisor) := mulOneL hn1
        have hm4 : IntMulOk n ((numF factor i).fmod divisor) := mulOneL hn1
        unfold numF at hl1 hl2 hl3 hm2 hm3 hm4 hf1
        clear hl4 hnb hdb
        have mk0 : Marker := ⟨⟩
        k_steps
        refine Stop.mk ?_
        ((refine' use_pairT (own := [(_, _), (_, _)]) (sp_dvu _ _ _ _ _ (by assumption) (by assumption) (by assumption) (by assumption)) ?a1 ?a2 ?a3 ?a4 ?a5 ?ud ?uu ?_; (case a1 => assumption); (case a2 => assumption); (case a3 => assumption); (case a4 => assumption); (case a5 => exact rfl); (case ud => dsimp only [Around.deeper]; omega); (case uu => dsimp only [Around.deeper]; omega); intro dz t1z t2z cz hz tkz Dz Fz Nz hnez hBz hapz; (try simp only [AllNe, and_true] at hnez); try dsimp only))
        k_steps
        refine Stop.mk ?_
        refine cutB ?_ ?_
        focus
          rename Marker => mk1
          clear mk1
          k_steps
          all_goals first | exact congrArg Value.bool (beq_iff_eq.mpr (by assumption)) | exact congrArg Value.bool (decide_eq_true (by assumption)) | exact congrArg Value.bool (decide_eq_true (rA hb hl2 hl3 (by assumption))) | exact congrArg Value.bool (decide_eq_true (rB hb hl2 (by assumption) hl3)) | exact (rC hb hl2 hl3 (by assumption) (by assumption)).elim | exact (rD hb hl2 hl3 (by assumption) (by assumption)).elim | exact congrArg Value.bool (decide_eq_true (by omega)) | (exfalso; omega)
        intro tkz
        k_steps
        refine Stop.mk ?_
        refine cutB ?_ ?_
        focus
          rename Marker => mk1
          clear mk1
          k_steps
          all_goals first | exact congrArg Value.bool (beq_iff_eq.mpr (by assumption)) | exact congrArg Value.bool (decide_eq_true (by assumption)) | exact congrArg Value.bool (decide_eq_true (rA hb hl2 hl3 (by assumption))) | exact congrArg Value.bool (decide_eq_true (rB hb hl2 (by assumption) hl3)) | exact (rC hb hl2 hl3 (by assumption) (by assumption)).elim | exact (rD hb hl2 hl3 (by assumption) (by assumption)).elim | exact congrArg Value.bool (decide_eq_true (by omega)) | (exfalso; omega)
        intro tky
        k_steps
        all_goals first
          | exact absurd (by assumption) hn0
          | (refine TurnD.intro1 (by assumption) (by assumption) (by assumption) ⟨_, _, ⟨rfl, rfl, rfl, rfl, rfl, rfl, trivial⟩, .inr (by assumption)⟩; done)
          | (exfalso; omega)
    case done =>
      intro h' tk m' D' F' N' hJ'
      obtain ⟨tq, tr, hk, hD'⟩ := hJ'
      replace F' := hk.fr0 F'
      dsimp only [kstB] at F'
      (try dsimp only)
      k_steps
      repeat' (refine Stop.mk ?_; (first | ((refine' use_pairT (own := [(_, _), (_, _)]) (sp_dvu _ _ _ _ _ (by assumption) (by assumption) (by assumption) (by assumption)) ?a1 ?a2 ?a3 ?a4 ?a5 ?ud ?uu ?_; (case a1 => assumption); (case a2 => assumption); (case a3 => assumption); (case a4 => assumption); (case a5 => exact rfl); (case ud => dsimp only [Around.deeper]; omega); (case uu => dsimp only [Around.deeper]; omega); intro dz t1z t2z cz hz tkz Dz Fz Nz hnez hBz hapz; (try simp only [AllNe, and_true] at hnez); try dsimp only))); k_steps)
      all_goals change Ends _ _ _ _ _
      all_goals exact ends_of (D' := D') hg (by assumption) (by assumption) (fun q hq => .tail _ hq) ⟨⟨_, _, _, _, rfl, (by assumption : News _ _ _ _) _ (.head _) |>.1, (by assumption : News _ _ _ _) _ (.head _) |>.2.2⟩, hD'⟩
end

section
open PySem PySem.W PySem.Calls PyProof.Rows
set_option maxRecDepth 100000

theorem fillFO : (Mine.hd.heap_39 = Mine.hd.heap_39) ∧ (PySem.Challenge.rw_wf0046_01 = PySem.Challenge.rw_wf0046_01) := by
  k_fill
  exact ⟨rfl, rfl⟩

/-- the forms with a first coefficient f and the middle ones up to the i-th -/
noncomputable def inF (size f c : Int) : Nat → Int
  | 0 => c
  | i + 1 => if ((1 - f + (i : Int)) * (1 - f + (i : Int)) + size).fmod (4 * f) = 0 then
      if ((1 - f + (i : Int)) * (1 - f + (i : Int)) + size).fdiv (4 * f) > f ∨ (((1 - f + (i : Int)) * (1 - f + (i : Int)) + size).fdiv (4 * f) = f ∧ 1 - f + (i : Int) ≥ 0) then inF size f c i + 1 else inF size f c i
    else inF size f c i
noncomputable def formsTo (size : Int) : Nat → Int
  | 0 => 0
  | k + 1 => inF size ((k : Int) + 1) (formsTo size k) (2 * k + 2)
theorem inF_0 {size f c : Int} {i : Nat} (h : ((1 - f + (i : Int)) * (1 - f + (i : Int)) + size).fmod (4 * f) ≠ 0) : inF size f c (i + 1) = inF size f c i := if_neg h
theorem inF_1 {size f c : Int} {i : Nat} (h : ((1 - f + (i : Int)) * (1 - f + (i : Int)) + size).fmod (4 * f) = 0) (h2 : ((1 - f + (i : Int)) * (1 - f + (i : Int)) + size).fdiv (4 * f) > f) : inF size f c (i + 1) = inF size f c i + 1 := (if_pos h).trans (if_pos (.inl h2))
theorem inF_2 {size f c : Int} {i : Nat} (h : ((1 - f + (i : Int)) * (1 - f + (i : Int)) + size).fmod (4 * f) = 0) (h2 : ((1 - f + (i : Int)) * (1 - f + (i : Int)) + size).fdiv (4 * f) = f) (h3 : 0 ≤ 1 - f + (i : Int)) : inF size f c (i + 1) = inF size f c i + 1 := (if_pos h).trans (if_pos (.inr ⟨h2, h3⟩))
theorem inF_3 {size f c : Int} {i : Nat} (h : ((1 - f + (i : Int)) * (1 - f + (i : Int)) + size).fmod (4 * f) = 0) (h2 : ¬ ((1 - f + (i : Int)) * (1 - f + (i : Int)) + size).fdiv (4 * f) > f) (h3 : ¬ (((1 - f + (i : Int)) * (1 - f + (i : Int)) + size).fdiv (4 * f) = f ∧ 0 ≤ 1 - f + (i : Int))) : inF size f c (i + 1) = inF size f c i :=
  (if_pos h).trans (if_neg fun h => h.elim h2 h3)
theorem fOk {k i : Nat} (hk : k < 10) (hi : i < 2 * k + 2) : IntMulOk (1 - ((k : Int) + 1) + (i : Int)) (1 - ((k : Int) + 1) + (i : Int)) := .of_left (PySem.intBits_le_64 (by omega) (by omega))
theorem size_range {a b : Int} {n : Nat} (h : b = a + n) : Builtin.Range.rangeSize a b 1 = (n : Int) := by
  rw [rangeSize_nat]; omega
noncomputable def KeepM (ps : List (Str × Value)) (x : Str) (v : Int) (m : Str → Option Value) : Prop := ∃ t, Knows m ((x, .int v t) :: ps)
theorem keepM_of {ps : List (Str × Value)} {x : Str} {v v' : Int} {m : Str → Option Value} {t : Tok} (h : Knows m ((x, .int v' t) :: ps)) (e : v' = v) : KeepM ps x v m := ⟨t, e ▸ h⟩
noncomputable def KeepW (ps : List (Str × Value)) (k : Nat) (c : Int) (m : Str → Option Value) (nx : List (Addr × Obj)) : Prop := nx = [] ∧ ∃ t1 t2, Knows m (("count", .int c t1) :: ("first", .int ((k : Int) + 1) t2) :: ps)

local macro_rules | `(tactic| walk_at "exec For Name Call cons nil") => `(tactic| k_dflt (refine' For_rg ?a1 ?a2 ?a3 ?a4 ?_ ?a5; (case a1 => assumption); (case a2 => exact rfl); (case a3 => exact rfl); (case a4 => exact rfl); (case a5 => exact fun _ => rfl)))

set_option maxHeartbeats 4000000 in
theorem sp_forms {prog : Program} {w : World} (size : Int) (t : Tok) (K : Nat) (h0 : 0 < size) (hs : size < 100) (hK : ∀ k : Nat, k < K → 3 * ((k : Int) + 1) * ((k : Int) + 1) ≤ size) (hend : ¬ 3 * ((K : Int) + 1) * ((K : Int) + 1) ≤ size) (hKs : K < 10) :
    Spec prog w 96 [.int size t] 2 20 [] noPre (IsInt (formsTo size K)) := by
  intro p loose mean mg mb A s hh hd hu S hN hpre
  obtain ⟨_, dp, fr, gd, un⟩ := A
  cases hh
  dsimp only at hd hu
  refine' enterP (binds := [("size", .int size t)]) hN S ?k6 ?k7 ?k8 ?k9 ?kB ?h ?c5 ?c2 ?c3 ?c4
  case k6 => k_is
  case k7 => k_is
  case k8 => dsimp only; omega
  case k9 => exact BindsTo.of_eq rfl
  case kB => exact locs rfl
  case c5 => decide
  case c2 => rfl
  case c3 => rfl
  case c4 => rfl
  case h =>
    intro g L' h₁ hg hL F N S' hlt
    have X := S'.X
    have T := S'.T
    (try dsimp only)
    k_steps
    refine whileN K (fun k => KeepW [("size", .int size t)] k (formsTo size k)) (by assumption) (News.nil) ⟨rfl, _, _, ⟨rfl, rfl, rfl, trivial⟩⟩ ?turn ?last
    case turn =>
      intro k m₁ nx h tk hk hJ F N
      obtain ⟨rfl, t1, t2, hkn⟩ := hJ
      replace F := hkn.fr0 F
      dsimp only [kstB] at F
      have hc := hK k hk
      k_steps
      rename IsRange _ _ _ _ _ _ _ _ => R'
      refine' rangeLoop (n := 2 * k + 2) (fun i m => KeepM [("first", .int ((k : Int) + 1) t2), ("size", .int size t)] "count" (inF size ((k : Int) + 1) (formsTo size k) i) m) rfl ?sR ?sm ?sz ?sF News.nil rfl ?sj ?rturn ?rdone
      case sR => exact R'
      case sm => exact small_one (by omega) (by omega) (by omega) (by omega)
      case sz => exact size_range (by omega)
      case sF => assumption
      case sj => exact ⟨_, rfl, rfl, rfl, trivial⟩
      case rturn =>
        intro i ti m₁ h tk own hi hoff hJ F N
        obtain ⟨tc, hkn⟩ := hJ
        replace F := hkn.fr F
        dsimp only [kstB] at F
        have hm : IntMulOk (1 - ((k : Int) + 1) + (i : Int)) (1 - ((k : Int) + 1) + (i : Int)) := fOk (Nat.lt_trans hk hKs) hi
        k_steps
        all_goals first
          | exact TurnM.intro (by assumption) (by assumption) (keepM_of ⟨rfl, rfl, rfl, trivial⟩ (inF_0 (by assumption)).symm)
          | exact TurnM.intro (by assumption) (by assumption) (keepM_of ⟨rfl, rfl, rfl, trivial⟩ (inF_1 (by assumption) (by assumption)).symm)
          | exact TurnM.intro (by assumption) (by assumption) (keepM_of ⟨rfl, rfl, rfl, trivial⟩ (inF_2 (by assumption) (by assumption) (by omega)).symm)
          | exact TurnM.intro (by assumption) (by assumption) (keepM_of ⟨rfl, rfl, rfl, trivial⟩ (inF_3 (by assumption) (by omega) (by omega)).symm)
      case rdone =>
        intro m₁ h tk hJ F N
        obtain ⟨tc, hkn⟩ := hJ
        replace F := hkn.fr0 F
        dsimp only [kstB] at F
        k_steps
        exact TurnW.intro (by assumption) (by assumption) ⟨rfl, _, _, rfl, rfl, rfl, trivial⟩
    case last =>
      intro m₁ nx h tk hJ F N
      obtain ⟨rfl, t1, t2, hkn⟩ := hJ
      replace F := hkn.fr0 F
      dsimp only [kstB] at F
      k_steps
      all_goals change Ends _ _ _ _ _
      all_goals exact ends_of (D' := []) hg (by assumption) (by assumption) (by intro _ h; cases h) (isInt_of rfl)
end

section
open PySem PySem.W PySem.Calls PyProof.Rows
set_option maxRecDepth 100000

theorem fillSG : (Mine.hd.heap_39 = Mine.hd.heap_39) ∧ (PySem.Challenge.rw_wf0046_01 = PySem.Challenge.rw_wf0046_01) := by
  k_fill
  exact ⟨rfl, rfl⟩

noncomputable def sqK (p : Int) (i : Nat) : Int := ((1 + (i : Int)) * (1 + (i : Int))).fmod p
noncomputable def sqL (p : Int) : List Int := (List.range (p - 1).toNat).map (sqK p)
noncomputable def legK (p : Int) (i : Nat) : Int := if (sqL p).any (fun x => x == (i : Int)) = true then 1 else -1
theorem legK_t {p : Int} {i : Nat} (h : (sqL p).any (fun x => x == (i : Int)) = true) : 1 = legK p i := (if_pos h).symm
theorem legK_f {p : Int} {i : Nat} (h : (sqL p).any (fun x => x == (i : Int)) = false) : -1 = legK p i := (if_neg (by rw [h]; decide)).symm
noncomputable def legL (p : Int) : List Int := ((List.range p.toNat).map (legK p)).set 0 0
noncomputable def newK (p : Int) (ns : List Int) (i : Nat) : Int := ns.getD i 0 * (legL p).getD ((i : Int).fmod p).toNat 0
noncomputable def newS (p : Int) (ns : List Int) : List Int := (List.range ns.length).map (newK p ns)
noncomputable def stS (size : Int) : Nat → List Int × Int
  | 0 => ((List.replicate size.toNat [(1 : Int)]).flatten, size)
  | k + 1 => if (stS size k).2.fmod (3 + 2 * (k : Int)) = 0 then (newS (3 + 2 * (k : Int)) (stS size k).1, (stS size k).2.fdiv (3 + 2 * (k : Int))) else stS size k
theorem mulOneR {a b : Int} (h : b.natAbs ≤ 1) : IntMulOk a b := .of_right (PySem.intBits_le_64 (by omega) (by omega))
theorem sqOk {k i : Nat} (hk : k < 100) (hi : i < (3 + 2 * (k : Int) - 1).toNat) : IntMulOk (1 + (i : Int)) (1 + (i : Int)) := .of_left (PySem.intBits_le_64 (by omega) (by omega))
theorem legK_abs (p : Int) (i : Nat) : (legK p i).natAbs ≤ 1 := by unfold legK; split <;> decide
theorem legL_len (p : Int) : (legL p).length = p.toNat := by simp [legL]
theorem legL_abs (p : Int) (j : Nat) : ((legL p).getD j 0).natAbs ≤ 1 := by
  rw [List.getD_eq_getElem?_getD]
  unfold legL
  rw [List.getElem?_set]
  split
  · split <;> simp
  · rw [List.getElem?_map]
    cases h : (List.range p.toNat)[j]? with
    | none => simp
    | some x => simpa using legK_abs p x
theorem sgF {k : Nat} (h : k < 100) : 3 + 2 * (k : Int) ≠ 0 ∧ 0 < 3 + 2 * (k : Int) ∧ 0 ≤ 3 + 2 * (k : Int) ∧ -2 ^ 62 ≤ 3 + 2 * (k : Int) ∧ 3 + 2 * (k : Int) < 2 ^ 62 ∧ (3 + 2 * (k : Int)).natAbs < 1073741824 ∧ (3 + 2 * (k : Int) - 1).toNat < 1000 ∧ (3 + 2 * (k : Int)).toNat < 1000 ∧ 0 < (3 + 2 * (k : Int)).toNat := by
  refine ⟨?_, ?_, ?_, ?_, ?_, ?_, ?_, ?_, ?_⟩ <;> omega
theorem sgN (k : Nat) : 3 + 2 * ((k + 1 : Nat) : Int) = 3 + 2 * (k : Int) + 2 := by omega
theorem sgI {k : Nat} {x : Int} (h : k < 100) (hx : x < 3 + 2 * (k : Int)) : x < ((legL (3 + 2 * (k : Int))).length : Int) ∧ x < 2 ^ 63 := by
  rw [legL_len]
  constructor <;> omega
noncomputable def KeepS (size : Int) (ts : Tok) (c : Nat) (k : Nat) (m : Str → Option Value) (nx : List (Addr × Obj)) : Prop :=
  ∃ d vs e ol o2 o3 tl tp vle vsq, nx = [(d, listOf vs.toArray e), (c + 1 + 1, ol), (c + 1, o2), (c, o3)] ∧ ol.data = .cell vle ∧ o2.data = .cell vsq ∧ o3.data = .cell (some (.int (3 + 2 * (k : Int)) tp)) ∧ @Ne Nat (c + 1 + 1) d ∧ @Ne Nat (c + 1) d ∧ @Ne Nat c d ∧
    Knows m [("signs", .ref d), ("left", .int (stS size k).2 tl), ("size", .int size ts)] ∧ IntsAre vs (stS size k).1
theorem turnW_keep {g h' : Heap} {L : Addr} {s : Shared} {D x1 x2 x3 : Addr × Obj} {cells : List (Addr × Obj)} {J : (Str → Option Value) → List (Addr × Obj) → Prop} {m' : Str → Option Value} {tk' : Nat} (F : Fr g L h' m') (N : News g L h' (D :: x1 :: x2 :: x3 :: cells)) (hj : J m' (D :: cells)) :
    TurnW g L s J .next { s with heap := h', toks := tk' } := TurnW.intro F (fun q hq => N q ((List.mem_cons.mp hq).elim (fun e => e ▸ .head _) (fun hq => .tail _ (.tail _ (.tail _ (.tail _ hq)))))) hj

local macro_rules | `(tactic| walk_at "eval ListComp") => `(tactic| k_dflt (refine' evalC ?a1 ?a2 ?a3 ?_ ?a5; (case a1 => with_unfolding_all rfl); (case a2 => exact rfl); (case a3 => decide); (case a5 => exact fun _ => rfl)))
local macro_rules | `(tactic| walk_at "exec Assign cons ListComp") => `(tactic| k_dflt (refine' assignC ?a0 ?a1 ?a2 ?a3 ?_ ?a5; (case a0 => with_unfolding_all rfl); (case a1 => with_unfolding_all rfl); (case a2 => exact rfl); (case a3 => decide); (case a5 => exact fun _ => rfl)))
local macro_rules | `(tactic| walk_at "call type:enumerate") => `(tactic| k_dflt (refine' call_enumN ?a1 ?a2 ?a3 ?_; (case a2 => assumption); (case a3 => assumption); (case a1 => k_mem); intro h' e' it' F' N' EN'; (try dsimp only)))

set_option maxHeartbeats 4000000 in
theorem sp_signs {prog : Program} {w : World} (size : Int) (t : Tok) (K : Nat) (h0 : 0 < size) (hs : size < 100) (hKb : K < 100) (hleft : ∀ k, k < K → 1 < (stS size k).2) (hend : ¬ 1 < (stS size K).2) (hlen : ∀ k, (stS size k).1.length < 100) :
    Spec prog w 89 [.int size t] 2 20 [] noPre (IsInts (stS size K).1) := by
  intro p loose mean mg mb A s hh hd hu S hN hpre
  obtain ⟨_, dp, fr, gd, un⟩ := A
  cases hh
  dsimp only at hd hu
  refine' enterC (binds := [("size", .int size t)]) hN S ?k6 ?k7 ?k8 ?k9 ?kB ?kD ?h ?c2 ?c3 ?c4
  case k6 => k_is
  case k7 => k_is
  case k8 => dsimp only; omega
  case k9 => exact BindsTo.of_eq rfl
  case kB => exact rfl
  case kD => decide +kernel
  case c2 => rfl
  case c3 => rfl
  case c4 => rfl
  case h =>
    intro g L' h₁ tk₁ cells hg hL F N Y S' hlt
    have X := S'.X
    have T := S'.T
    have C1 := S'.C1
    have C2 := S'.C2
    (try dsimp only)
    k_cells Y
    simp only [List.cons_append, List.nil_append, List.append_nil] at N
    k_steps
    refine' whileN K (fun k => KeepS size t (L' + 1) k) ?sF ?sN ?s0 ?turn ?last
    case sF => assumption
    case sN =>
      rename News _ _ _ _ => N'
      intro q hq
      rcases List.mem_cons.mp hq with rfl | hq
      · exact N' _ (.tail _ (.head _))
      · exact N' _ (.tail _ (.tail _ (.tail _ hq)))
    case s0 => exact ⟨_, _, _, _, _, _, _, _, _, _, rfl, (by assumption), (by assumption), (by assumption), (by show (_ : Nat) ≠ _; omega), (by show (_ : Nat) ≠ _; omega), (by show (_ : Nat) ≠ _; omega), ⟨rfl, rfl, rfl, trivial⟩, (by assumption)⟩
    case turn =>
      intro k m₁ nx h tk hk hJ F N
      obtain ⟨d, vs, e, ol, o2, o3, tl, tp, vle, vsq, rfl, hd1, hd2, hd3, hn1, hn2, hn3, hkn, hiv⟩ := hJ
      replace F := hkn.fr0 F
      dsimp only [kstB] at F
      have hc := hleft k hk
      have hk99 : k < 100 := Nat.lt_trans hk hKb
      obtain ⟨g1, g2, g3, g4, g5, g6, g7, g8, g9⟩ := sgF hk99
      by_cases hrem : (stS size k).2.fmod (3 + 2 * (k : Int)) = 0
      · have hst : stS size (k + 1) = (newS (3 + 2 * (k : Int)) (stS size k).1, (stS size k).2.fdiv (3 + 2 * (k : Int))) := if_pos hrem
        k_steps
        all_goals (try (exact absurd hrem (by assumption)))
        rename IsRange _ _ _ _ _ _ _ _ => R'
        refine' compRange (n := (3 + 2 * (k : Int) - 1).toNat) (sqK (3 + 2 * (k : Int))) rfl ?r1 ?r2 ?r3 ?r4 ?r5 ?r6 ?r7 rfl rfl ?rt ?rd
        case r1 => exact R'
        case r2 => exact small_one (by omega) (by omega) (by omega) (by omega)
        case r3 => rw [rangeSize_nat]
        case r4 => exact Nat.le_trans (Nat.le_of_lt (by assumption : _ < 1000)) (by decide)
        case r5 => assumption
        case r6 => assumption
        case r7 => decide
        case rt =>
          intro i ti I oI C oC D m₂ h tk ys E' hi hC hx F N off ne
          have hmm : IntMulOk (1 + (i : Int)) (1 + (i : Int)) := sqOk hk99 hi
          k_steps
          all_goals exact EltEnd.intro (by assumption) (by assumption) rfl
        case rd =>
          intro D ys h tk hys F N off
          (try simp only [LCg.Off1, and_true] at off)
          replace hys : IntsAre ys (sqL (3 + 2 * (k : Int))) := hys
          k_steps
          rename IsRange _ _ _ _ _ _ _ _ => R'
          refine' compRange (n := (3 + 2 * (k : Int)).toNat) (legK (3 + 2 * (k : Int))) rfl ?r1 ?r2 ?r3 ?r4 ?r5 ?r6 ?r7 rfl rfl ?rt ?rd
          case r1 => exact R'
          case r2 => exact small_one (by omega) (by omega) (by omega) (by omega)
          case r3 => rw [rangeSize_nat, Int.sub_zero]
          case r4 => exact Nat.le_trans (Nat.le_of_lt (by assumption : _ < 1000)) (by decide)
          case r5 => assumption
          case r6 => assumption
          case r7 => decide
          case rt =>
            intro i ti I oI C oC D m₂ h tk ys E' hi hC hx F N off ne
            rw [Int.zero_add] at hx
            k_steps
            all_goals first
              | exact EltEnd.intro (by assumption) (by assumption) (legK_t (by assumption))
              | exact EltEnd.intro (by assumption) (by assumption) (legK_f (by assumption))
          case rd =>
            intro D ys h tk hys F N off
            (try simp only [LCg.Off1, and_true] at off)
            have hyl : ys.length = (3 + 2 * (k : Int)).toNat := by have := hys.length; simpa using this
            have hyl2 : ((List.range (3 + 2 * (k : Int)).toNat).map (legK (3 + 2 * (k : Int)))).length = (3 + 2 * (k : Int)).toNat := by simp
            have hy0 : 0 < (3 + 2 * (k : Int)).toNat := g9
            k_steps
            rename IntsAre (List.set _ _ _) _ => hle0
            have hle : IntsAre _ (legL (3 + 2 * (k : Int))) := hle0
            clear hle0
            rename EnumNew _ _ _ _ _ _ _ => EN
            have hll := legL_len (3 + 2 * (k : Int))
            have hzl := hle.length
            have hvl := hiv.length
            refine' compEnumA (newK (3 + 2 * (k : Int)) (stS size k).1) ?f7 ?e1 ?e2 ?e3 ?f8 ?f0 ?e4 ?e5 ?f1 ?f2 ?f3 ?e6 ?f4 ?f5 ?f6 ?et ?ed
            case f7 => exact EN
            case f8 => exact hiv
            case f0 => exact rfl
            case f1 => exact rfl
            case f2 => exact rfl
            case f3 => exact rfl
            case f4 => exact rfl
            case f5 => exact rfl
            case f6 => exact rfl
            case e1 => assumption
            case e2 => assumption
            case e3 => exact .tail _ (.tail _ (.head _))
            case e4 => exact Nat.le_trans (Nat.le_of_lt (hlen k)) (by decide)
            case e5 => decide
            case e6 => decide
            case et =>
              intro i ti n tn C oC D ys own m₂ h tk E' hn hC ha hb F N hCD
              simp only [List.cons_append, List.nil_append] at N
              have hm1 : 0 ≤ (i : Int).fmod (3 + 2 * (k : Int)) := Int.fmod_nonneg_of_pos _ g2
              have hm2 : (i : Int).fmod (3 + 2 * (k : Int)) < 3 + 2 * (k : Int) := Int.fmod_lt_of_pos _ g2
              obtain ⟨hm3, hm4⟩ := sgI hk99 hm2
              have hab := legL_abs (3 + 2 * (k : Int)) ((i : Int).fmod (3 + 2 * (k : Int))).toNat
              have hmm : IntMulOk n ((legL (3 + 2 * (k : Int))).getD ((i : Int).fmod (3 + 2 * (k : Int))).toNat 0) := mulOneR hab
              have hgd : (stS size k).1.getD i 0 = n := by simp [List.getD_eq_getElem?_getD, hn]
              k_steps
              all_goals exact EltEnd.intro (by assumption) (by assumption) (by unfold newK; rw [hgd])
            case ed =>
              intro D ys h tk hys F N off
              (try simp only [LCg.Off1, and_true] at off)
              obtain ⟨o1, o2, o3, o4, o5, o6⟩ := off
              k_steps
              refine turnW_keep (by assumption) (by assumption) ⟨_, _, _, _, _, _, _, _, _, _, rfl, (by assumption), (by assumption), (by rw [sgN k]; assumption), (by assumption), (by assumption), (by assumption), by rw [hst]; exact ⟨rfl, rfl, rfl, trivial⟩, by rw [hst]; assumption⟩
      · have hst : stS size (k + 1) = stS size k := if_neg hrem
        k_steps
        all_goals (try (exact absurd (by assumption) hrem))
        exact TurnW.intro (by assumption) (by assumption) ⟨_, _, _, _, _, _, _, _, _, _, rfl, (by assumption), (by assumption), (by assumption), hn1, hn2, hn3, by rw [hst]; exact ⟨rfl, rfl, rfl, trivial⟩, by rw [hst]; assumption⟩
    case last =>
      intro m₁ nx h tk hJ F N
      obtain ⟨d, vs, e, ol, o2, o3, tl, tp, vle, vsq, rfl, hd1, hd2, hd3, hn1, hn2, hn3, hkn, hiv⟩ := hJ
      replace F := hkn.fr0 F
      dsimp only [kstB] at F
      k_steps
      all_goals change Ends _ _ _ _ _
      all_goals exact ends_of (D' := []) hg (by assumption) (by assumption) (by intro _ h; cases h) ⟨_, vs, _, rfl, (N _ (.head _)).1, hiv, (N _ (.head _)).2.2⟩
end

section
open PySem PySem.W PySem.Calls PyProof.Rows
set_option maxRecDepth 100000
local macro_rules | `(tactic| walk_at "zz spare") => `(tactic| assumption)

theorem fillVI : (Mine.hd.heap_39 = Mine.hd.heap_39) ∧ (PySem.Challenge.rw_wf0046_01 = PySem.Challenge.rw_wf0046_01) := by
  k_fill
  exact ⟨rfl, rfl⟩

/-- what is read -/
noncomputable def valF (os : List Int) : Nat → Int
  | 0 => Builtin.bitAnd (os.getD 0 0) 63
  | k + 1 => Builtin.bitOr (valF os k * 2 ^ (6 : Int).toNat) (Builtin.bitAnd (os.getD (k + 1) 0) 63)
noncomputable def KeepV (os : List Int) (it l : Addr) (k : Nat) (m : Str → Option Value) (nx : List (Addr × Obj)) : Prop :=
  ∃ io tb tv, nx = [(it, io)] ∧ LIt io l (k + 1) ∧ Knows m [("b", .int (os.getD k 0) tb), ("val", .int (valF os k) tv), ("iterator", .ref it)]

local macro_rules | `(tactic| walk_at "exec While BinOp") => `(tactic| (refine while_at ?_))
local macro_rules | `(tactic| walk_at "inplaceOp LShift int int") => `(tactic| k_dflt (refine' ilshift_int ?hn9 ?hz9 ?_; (case hn9 => decide); (case hz9 => assumption)))
local macro_rules | `(tactic| walk_at "call builtin:next") => `(tactic| (refine' next_list ?a1 ?a2 ?a3 ?a4 ?a5 ?a6 ?_; (case a1 => assumption); (case a2 => assumption); (case a3 => assumption); (case a4 => assumption); (case a5 => assumption); (case a6 => exact fun _ h => nomatch h); intro h' io' F' N' hi'; (try dsimp only)))

set_option maxHeartbeats 4000000 in
theorem sp_varint {prog : Program} {w : World} (it l : Addr) (io : Obj) (vs : List Value) (os : List Int) (K : Nat) (hi : IntsAre vs os) (hio : LIt io l 0) (hlen : os.length = K + 1) (hc : ∀ k, k < K → (Builtin.bitAnd (os.getD k 0) 64 != 0) = true) (he : (Builtin.bitAnd (os.getD K 0) 64 != 0) = false) (hv : ∀ k, k < K → (Builtin.Int.intBits (valF os k) : Int) + 6 ≤ 2 ^ 27) :
    Spec prog w 84 [.ref it] 1 8 [(it, io)] (fun g => g.IsList l vs.toArray) (IsInt (valF os K)) := by
  intro p loose mean mg mb A s hh hd hu S hN hpre
  obtain ⟨_, dp, fr, gd, un⟩ := A
  cases hh
  dsimp only at hd hu
  refine' enterP (binds := [("iterator", .ref it)]) hN S ?k6 ?k7 ?k8 ?k9 ?kB ?h ?c5 ?c2 ?c3 ?c4
  case k6 => k_is
  case k7 => k_is
  case k8 => dsimp only; omega
  case k9 => exact BindsTo.of_eq rfl
  case kB => exact locs rfl
  case c5 => decide
  case c2 => rfl
  case c3 => rfl
  case c4 => rfl
  case h =>
    intro g L' h₁ hg hL F N S' hlt
    have X := S'.X
    have T := S'.T
    (try dsimp only)
    rw [← hg] at hpre
    obtain ⟨tb0, hx0⟩ := hi.get 0 (os.getD 0 0) (by rw [List.getD_eq_getElem?_getD]; cases os with | nil => cases hlen | cons a r => rfl)
    replace hx0 : vs.toArray[0]? = some (.int (os.getD 0 0) tb0) := by simpa using hx0
    k_steps
    refine whileN K (fun k => KeepV os it l k) (by assumption) (by assumption) ⟨_, _, _, rfl, (by assumption), ⟨rfl, rfl, rfl, trivial⟩⟩ ?turn ?last
    case turn =>
      intro k m₁ nx h tk hk hJ F N
      obtain ⟨io', tb, tv, rfl, hio', hkn⟩ := hJ
      replace F := hkn.fr0 F
      dsimp only [kstB] at F
      have hck := hc k hk
      have hvk := hv k hk
      obtain ⟨tb1, hx1⟩ := hi.get (k + 1) (os.getD (k + 1) 0) (by rw [List.getD_eq_getElem?_getD, List.getElem?_eq_getElem (by omega)]; rfl)
      replace hx1 : vs.toArray[k + 1]? = some (.int (os.getD (k + 1) 0) tb1) := by simpa using hx1
      k_steps
      exact TurnW.intro (by assumption) (by assumption) ⟨_, _, _, rfl, (by assumption), ⟨rfl, rfl, rfl, trivial⟩⟩
    case last =>
      intro m₁ nx h tk hJ F N
      obtain ⟨io', tb, tv, rfl, hio', hkn⟩ := hJ
      replace F := hkn.fr0 F
      dsimp only [kstB] at F
      k_steps
      all_goals change Ends _ _ _ _ _
      all_goals exact ends_of (D' := []) hg (by assumption) (by assumption) (by intro _ h; cases h) (isInt_of rfl)
end

section
open PySem PySem.W PySem.Calls PyProof.Rows
set_option maxRecDepth 100000

noncomputable def octs (ns : List Int) : List Int := List.map (fun k' => 64 + k') (List.take (ns.length - 1) ns) ++ List.drop (ns.length - 1) ns
noncomputable def octL (ns : List Int) : List Int := [128 + (octs ns).getD (Int.toNat 0) 0] ++ List.drop 1 (octs ns)
/-- the figures, the highest first -/
noncomputable def readL (ns : List Int) : Int := ns.foldl (fun a f => a * 64 + f) 0

theorem octs_get (ns : List Int) {k : Nat} (h : k < ns.length) : (octs ns).getD k 0 = (if k < ns.length - 1 then 64 else 0) + ns.getD k 0 := by
  unfold octs
  simp only [List.getD_eq_getElem?_getD, List.getElem?_append, List.length_map, List.length_take]
  by_cases hk : k < ns.length - 1
  · rw [if_pos (by omega), if_pos hk, List.getElem?_map, List.getElem?_take, if_pos hk, List.getElem?_eq_getElem h]; rfl
  · rw [if_neg (by omega), if_neg hk, List.getElem?_drop, show ns.length - 1 + (k - min (ns.length - 1) ns.length) = k by omega, Int.zero_add]
theorem octs_len (ns : List Int) : (octs ns).length = ns.length := by simp [octs]; try omega
theorem octL_len {ns : List Int} (h : 0 < ns.length) : (octL ns).length = ns.length := by simp [octL, octs_len]; try omega
theorem octL_get (ns : List Int) {k : Nat} (h : k < ns.length) : (octL ns).getD k 0 = (if k = 0 then 128 else 0) + ((if k < ns.length - 1 then 64 else 0) + ns.getD k 0) := by
  unfold octL
  cases k with
  | zero => rw [← octs_get ns h]; rfl
  | succ k =>
    rw [← octs_get ns h]
    show (([128 + (octs ns).getD (Int.toNat 0) 0] ++ List.drop 1 (octs ns)).getD (k + 1) 0) = _
    simp [List.getD_eq_getElem?_getD, Nat.add_comm]

theorem six_and : ∀ c d : Fin 2, ∀ f : Fin 64, Builtin.bitAnd (((c : Nat) : Int) * 128 + (((d : Nat) : Int) * 64 + ((f : Nat) : Int))) 63 = ((f : Nat) : Int) ∧
    Builtin.bitAnd (((c : Nat) : Int) * 128 + (((d : Nat) : Int) * 64 + ((f : Nat) : Int))) 64 = ((d : Nat) : Int) * 64 := by decide +kernel
theorem six_and' {c d : Bool} {f : Int} (h0 : 0 ≤ f) (h1 : f < 64) : Builtin.bitAnd ((if c then 128 else 0) + ((if d then 64 else 0) + f)) 63 = f ∧
    Builtin.bitAnd ((if c then 128 else 0) + ((if d then 64 else 0) + f)) 64 = (if d then 64 else 0) := by
  obtain ⟨k, rfl⟩ := Int.eq_ofNat_of_zero_le h0
  have := six_and (if c then 1 else 0) (if d then 1 else 0) ⟨k, by omega⟩
  cases c <;> cases d <;> simpa using this

theorem or_six {v f : Int} (hv : 0 ≤ v) (h0 : 0 ≤ f) (h1 : f < 64) : Builtin.bitOr (v * 2 ^ (6 : Int).toNat) f = v * 64 + f := by
  obtain ⟨a, rfl⟩ := Int.eq_ofNat_of_zero_le hv
  obtain ⟨k, rfl⟩ := Int.eq_ofNat_of_zero_le h0
  have e : ((a : Int) * 2 ^ (6 : Int).toNat) = ((a * 2 ^ 6 : Nat) : Int) := by push_cast; rfl
  rw [bitOr_and, e, bitAnd_pp (Int.natCast_nonneg _) h0, Int.toNat_natCast, Int.toNat_natCast]
  have h : (a * 2 ^ 6) &&& k = 0 := by
    apply Nat.eq_of_testBit_eq
    intro i
    rw [Nat.testBit_and, ← Nat.shiftLeft_eq, Nat.testBit_shiftLeft, Nat.zero_testBit]
    by_cases hi : 6 ≤ i
    · have : k.testBit i = false := Nat.testBit_lt_two_pow (Nat.lt_of_lt_of_le (by omega : k < 2 ^ 6) (Nat.pow_le_pow_right (by decide) hi))
      simp [this]
    · simp [hi]
  rw [h]; push_cast; omega

theorem readL_snoc (l : List Int) (x : Int) : readL (l ++ [x]) = readL l * 64 + x := by simp [readL]
theorem valF_eq {ns : List Int} (h : 0 < ns.length) (hf : ∀ i, i < ns.length → 0 ≤ ns.getD i 0 ∧ ns.getD i 0 < 64) : ∀ k, k < ns.length → valF (octL ns) k = readL (ns.take (k + 1)) ∧ 0 ≤ valF (octL ns) k ∧ valF (octL ns) k < 64 ^ (k + 1) := by
  intro k
  have get : ∀ k, k < ns.length → Builtin.bitAnd ((octL ns).getD k 0) 63 = ns.getD k 0 := fun k hk => by
    rw [octL_get ns hk]
    have := (six_and' (c := decide (k = 0)) (d := decide (k < ns.length - 1)) (hf k hk).1 (hf k hk).2).1
    simpa using this
  have tk : ∀ k, k < ns.length → ns.take (k + 1) = ns.take k ++ [ns.getD k 0] := fun k hk => by
    rw [List.take_add_one, List.getD_eq_getElem?_getD, List.getElem?_eq_getElem hk]; rfl
  induction k with
  | zero =>
    intro hk
    have hb := hf 0 hk
    have e : valF (octL ns) 0 = ns.getD 0 0 := get 0 hk
    rw [e, tk 0 hk, readL_snoc]
    refine ⟨?_, hb.1, ?_⟩
    · simp [readL]
    · simpa using hb.2
  | succ k ih =>
    intro hk
    obtain ⟨h1, h2, h3⟩ := ih (by omega)
    have hb := hf (k + 1) hk
    have e : valF (octL ns) (k + 1) = valF (octL ns) k * 64 + ns.getD (k + 1) 0 := by
      show Builtin.bitOr (valF (octL ns) k * 2 ^ (6 : Int).toNat) (Builtin.bitAnd ((octL ns).getD (k + 1) 0) 63) = _
      rw [get _ hk, or_six h2 hb.1 hb.2]
    rw [e, tk (k + 1) hk, readL_snoc, h1]
    rw [h1] at h2 h3
    refine ⟨rfl, by omega, ?_⟩
    rw [Int.pow_succ]
    generalize (64 : Int) ^ (k + 1) = P at *
    omega
theorem octL_go {ns : List Int} (hf : ∀ i, i < ns.length → 0 ≤ ns.getD i 0 ∧ ns.getD i 0 < 64) {k : Nat} (h : k < ns.length - 1) : (Builtin.bitAnd ((octL ns).getD k 0) 64 != 0) = true := by
  have hk : k < ns.length := by omega
  have := (six_and' (c := decide (k = 0)) (d := decide (k < ns.length - 1)) (hf k hk).1 (hf k hk).2).2
  rw [octL_get ns hk]
  simp only [decide_eq_true_eq, if_pos h] at this ⊢
  rw [this]; rfl
theorem octL_end {ns : List Int} (h0 : 0 < ns.length) (hf : ∀ i, i < ns.length → 0 ≤ ns.getD i 0 ∧ ns.getD i 0 < 64) : (Builtin.bitAnd ((octL ns).getD (ns.length - 1) 0) 64 != 0) = false := by
  have hk : ns.length - 1 < ns.length := by omega
  have := (six_and' (c := decide (ns.length - 1 = 0)) (d := decide (ns.length - 1 < ns.length - 1)) (hf _ hk).1 (hf _ hk).2).2
  rw [octL_get ns hk]
  simp only [decide_eq_true_eq, if_neg (Nat.lt_irrefl _)] at this ⊢
  rw [this]; rfl
theorem valF_bits {ns : List Int} (h : 0 < ns.length) (hn : ns.length ≤ 20) (hf : ∀ i, i < ns.length → 0 ≤ ns.getD i 0 ∧ ns.getD i 0 < 64) {k : Nat} (hk : k < ns.length - 1) : (Builtin.Int.intBits (valF (octL ns) k) : Int) + 6 ≤ 2 ^ 27 := by
  obtain ⟨_, h2, h3⟩ := valF_eq h hf k (by omega)
  have h4 : (64 : Int) ^ (k + 1) ≤ 64 ^ 20 := by
    have := Nat.pow_le_pow_right (n := 64) (by decide) (by omega : k + 1 ≤ 20)
    exact_mod_cast this
  have : Builtin.Int.intBits (valF (octL ns) k) ≤ 120 := intBits_le_iff.mpr (by
    have e : (2 : Nat) ^ 120 = 64 ^ 20 := by decide
    have e2 : (64 : Int) ^ 20 = ((64 ^ 20 : Nat) : Int) := by decide
    rw [e]; omega)
  have h5 : (Builtin.Int.intBits (valF (octL ns) k) : Int) ≤ 120 := by exact_mod_cast this
  omega
end

section
open PySem PySem.W PySem.Calls PyProof.Rows
set_option maxRecDepth 100000

theorem fillRD : (Mine.hd.heap_39 = Mine.hd.heap_39) ∧ (PySem.Challenge.rw_wf0046_01 = PySem.Challenge.rw_wf0046_01) := by
  k_fill
  exact ⟨rfl, rfl⟩

section
variable {prog : Program} {w : World} {A : Around} {s : Shared} {p : Program} {loose : List Str} {mean : ExcName → Option Value} {mg mb : Str → Option Value} {g : Heap} {L it l : Addr} {m : Str → Option Value} {news : List (Addr × Obj)} {us : List Value} {os : List Int} {n : Nat}
noncomputable abbrev litObj (l : Addr) : Obj := { cls := .type "list_iterator", data := .fields #[.ref l, .int 0 0] }
theorem iter_list {Q E : Value → Shared → Prop} (F : Fr g L s.heap m) (N : News g L s.heap news) (hm : (l, listOf us.toArray n) ∈ news)
    (h : ∀ I h', Fr g L h' m → News g L h' ((I, litObj l) :: news) → (∀ p ∈ news, p.1 < I) → Q (.ref I) { s with heap := h' }) :
    wpAny (model prog w) A (call (.builtin "iter") [.ref l]) Q E s := by
  have hl : s.heap.IsList l us.toArray := ⟨_, (N _ hm).1, rfl, n, rfl⟩
  refine call_function_entry (by decide +kernel) (by decide +kernel) kdk_entry_iter (kdk_args_iter _) ?_
  unfold Builtin.«iter»
  refine wpAny_bind (m := someArgs "iter" 1 2 _) (wpAny_of_eq (a := [Value.ref l]) (by first | rfl | kernel_rfl!) ?_)
  show wpAny _ _ (pyIter (.ref l) >>= _) _ _ _
  refine wpAny_bind (wpAny_pyIter_list hl ?_)
  exact wpAny_pure ⟨_, rfl, h _ _ (F.push _) (News.push F N _ rfl) (fun q hq => Heap.lt_size (N q hq).1)⟩
theorem lit0 : LIt (litObj l) l 0 := ⟨rfl, rfl⟩
theorem use_varint {Q E : Value → Shared → Prop} {K : Nat} (F : Fr g L s.heap m) (S : St w p loose mean mg mb g) (N : News g L s.heap ((it, litObj l) :: news)) (hm : (l, listOf us.toArray n) ∈ news) (hap : AllLt it news) (hi : IntsAre us os) (hlen : os.length = K + 1)
    (hc : ∀ k, k < K → (Builtin.bitAnd (os.getD k 0) 64 != 0) = true) (he : (Builtin.bitAnd (os.getD K 0) 64 != 0) = false) (hv : ∀ k, k < K → (Builtin.Int.intBits (valF os k) : Int) + 6 ≤ 2 ^ 27)
    (hh : A.handled = none) (hd : A.depth + 1 < recursionLimit) (hu : A.units + 8 < cLine)
    (k : ∀ t h' tk, Fr g L h' m → News g L h' news → Q (.int (valF os K) t) { s with heap := h', toks := tk }) :
    wpAny (model prog w) A (call (.ref 84) [.ref it]) Q E s := by
  have lt : ∀ {l : List (Addr × Obj)}, AllLt it l → ∀ q ∈ l, q.1 ≠ it := by
    intro l
    induction l with
    | nil => intro _ q hq; cases hq
    | cons a r ih =>
      intro h q hq
      rcases List.mem_cons.mp hq with rfl | hq
      · exact Nat.ne_of_lt h.1
      · exact ih h.2 q hq
  have N2 : News g L s.heap (news ++ [(it, litObj l)]) := fun q hq => N q ((List.mem_append.mp hq).elim (fun h => .tail _ h) (fun h => (List.mem_singleton.mp h) ▸ .head _))
  refine useD (sp_varint it l (litObj l) us os K hi lit0 hlen hc he hv) F S N2 (fun q hq e => lt hap q hq (List.mem_singleton.mp e)) hh hd hu (fun g' _ hg' => ⟨_, hg' _ hm, rfl, n, rfl⟩) ?_
  intro v h' tk D' g' F' N' _ _ hP
  obtain ⟨t, rfl⟩ := hP
  exact k t h' tk F' fun q hq => N' q (List.mem_append_left _ hq)
end

local macro_rules | `(tactic| walk_at "call builtin:iter") => `(tactic| (refine' iter_list ?a1 ?a2 ?a3 ?_; (case a1 => assumption); (case a2 => assumption); (case a3 => k_mem); intro I' h' F' N' l1; (try k_lt l1); (try dsimp only)))

theorem rdF {n m : Nat} (h0 : 0 < n) (h : n ≤ 20) (e : m = n) : min (n - 1) n ≤ 16777216 ∧ min (n - 1) n + (n - (n - 1)) ≤ 16777216 ∧ 0 + 1 + (min (n - 1) n + (n - (n - 1)) - 1) ≤ 16777216 ∧ n ≤ 16777216 ∧ m ≤ 16777216 := by
  refine ⟨?_, ?_, ?_, ?_, ?_⟩ <;> omega
theorem rdL {ns : List Int} (h0 : 0 < ns.length) : (0 : Int) < ((List.take (ns.length - 1) ns).length + (List.drop (ns.length - 1) ns).length : Nat) := by
  rw [List.length_take, List.length_drop]; omega
theorem rd5 {n : Nat} (h0 : 0 < n) : n = n - 1 + 1 := by omega
theorem rd7 {n : Nat} (h0 : 0 < n) : n - 1 < n := by omega

set_option maxHeartbeats 4000000 in
theorem sp_read {prog : Program} {w : World} (a : Addr) (vs : List Value) (ns : List Int) (hi : IntsAre vs ns) (h0 : 0 < ns.length) (hlen : ns.length ≤ 20) (hf : ∀ i, i < ns.length → 0 ≤ ns.getD i 0 ∧ ns.getD i 0 < 64) :
    Spec prog w 122 [.ref a] 3 24 [] (fun g => g.IsList a vs.toArray) (IsInt (readL ns)) := by
  intro p loose mean mg mb A s hh hd hu S hN hpre
  obtain ⟨_, dp, fr, gd, un⟩ := A
  cases hh
  dsimp only at hd hu
  refine' enterP (binds := [("figures", .ref a)]) hN S ?k6 ?k7 ?k8 ?k9 ?kB ?h ?c5 ?c2 ?c3 ?c4
  case k6 => k_is
  case k7 => k_is
  case k8 => dsimp only; omega
  case k9 => exact BindsTo.of_eq rfl
  case kB => exact locs rfl
  case c5 => decide
  case c2 => rfl
  case c3 => rfl
  case c4 => rfl
  case h =>
    intro g L' h₁ hg hL F N S' hlt
    have X := S'.X
    have T := S'.T
    (try dsimp only)
    rw [← hg] at hpre
    have hll := IntsAre.length hi
    obtain ⟨r1, r2, r3, r4, r5⟩ := rdF h0 hlen hll
    have r6 := rdL h0
    repeat' (first | (k_unfold; (try dsimp only)) | (k_end; kc_close) | walk1 | (dsimp only; walk1) | (leave1; walk_say "STEP leave1"; (try dsimp only)) | fail "no step")
    rename IntsAre _ ([_] ++ _) => hO
    refine Stop.mk ?_
    refine use_varint (os := octL ns) (K := ns.length - 1) (by assumption) S' (by assumption) (.head _) (by simp only [AllLt, and_true]; assumption) hO ((octL_len h0).trans (rd5 h0)) (fun k hk => octL_go hf hk) (octL_end h0 hf) (fun k hk => valF_bits h0 hlen hf hk) rfl (by dsimp only [Around.deeper]; omega) (by dsimp only [Around.deeper]; omega) ?_
    intro t h' tk F' N'
    (try dsimp only)
    k_steps
    exact ends_of (D' := []) hg (by assumption) (by assumption) (by intro _ h; cases h) (isInt_of ((valF_eq h0 hf (ns.length - 1) (rd7 h0)).1.trans (by rw [List.take_of_length_le (Nat.le_of_eq (rd5 h0))])))
end

section
open PySem PySem.W PySem.Calls PyProof.Rows
set_option maxRecDepth 100000

/-- a cut within a body -/
theorem execs_cutk {M : Model} {A : Around} {E : Value → Shared → Prop} {s : Shared} {env : Env} {body : List Stmt} {Q : Flow → Shared → Prop} (n : Nat) (Inv : Shared → Prop)
    (hA : ∀ b Q', (∀ s', Inv s' → wpAny M A (execs b env) Q' E s') → wpAny M A (execs (body.take n ++ b) env) Q' E s)
    (hB : ∀ s', Inv s' → wpAny M A (execs (body.drop n) env) Q E s') : wpAny M A (execs body env) Q E s := by
  have := hA (body.drop n) Q hB
  rwa [List.take_append_drop] at this

theorem allLt_ne {d : Nat} {l : List (Addr × Obj)} (h : AllLt d l) : ∀ q ∈ l, q.1 ≠ d := by
  induction l with
  | nil => intro q hq; cases hq
  | cons a r ih =>
    intro q hq
    rcases List.mem_cons.mp hq with rfl | hq
    · exact Nat.ne_of_lt h.1
    · exact ih h.2 q hq

noncomputable def sizeAt (sh : Int) : Int := [7, 11, 15, 19, 23, 31, 35, 39, 51].getD (sh.fmod 9).toNat 0
structure FigsOk (fs : List Int) : Prop where
  pos : 0 < fs.length
  le : fs.length ≤ 12
  dig : ∀ i, i < fs.length → 0 ≤ fs.getD i 0 ∧ fs.getD i 0 < 64

theorem fmod_get {M : Int} (hM : 0 < M) (l : List Int) (i : Nat) : 0 ≤ (l.map (fun k' => k'.fmod M)).getD i 0 ∧ (l.map (fun k' => k'.fmod M)).getD i 0 < M := by
  rw [List.getD_eq_getElem?_getD, List.getElem?_map]
  cases l[i]? with
  | none => exact ⟨Int.le_refl _, hM⟩
  | some x => exact ⟨Int.fmod_nonneg_of_pos _ hM, Int.fmod_lt_of_pos _ hM⟩
theorem figsOk_map {l : List Int} (h0 : 0 < l.length) (h1 : l.length ≤ 12) : FigsOk (l.map (fun k' => k'.fmod 64)) :=
  ⟨by simpa using h0, by simpa using h1, fun i _ => fmod_get (by decide) l i⟩
theorem figsOk_two : FigsOk [5, 37] := ⟨by decide, by decide, by decide⟩
theorem shape_get (l : List Int) : 0 ≤ (l.map (fun k' => k'.fmod (10 ^ Int.toNat 6))).getD (Int.toNat 0) 0 ∧ (l.map (fun k' => k'.fmod (10 ^ Int.toNat 6))).getD (Int.toNat 0) 0 < 1000000 := by
  have h : (10 : Int) ^ Int.toNat 6 = 1000000 := by decide
  have := fmod_get (M := 10 ^ Int.toNat 6) (by rw [h]; decide) l (Int.toNat 0)
  rw [h] at this ⊢
  exact this

noncomputable def InvA (g : Heap) (L : Addr) (s s' : Shared) : Prop :=
  ∃ h' tk m fa us fs k sh t1 t2, s' = { s with heap := h', toks := tk } ∧ Fr g L h' m ∧ News g L h' [(fa, listOf us.toArray k), (37, tabObj #[]), (30, tabObj #[])] ∧
    Knows m [("shape", .int sh t1), ("size", .int (sizeAt sh) t2), ("figures", .ref fa)] ∧ IntsAre us fs ∧ FigsOk fs ∧ 0 ≤ sh ∧ sh < 1000000 ∧ @Ne Nat fa 37 ∧ @Ne Nat fa 30
theorem InvA.intro {g h' : Heap} {L fa : Addr} {s : Shared} {tk k : Nat} {m : Str → Option Value} {us : List Value} {fs : List Int} {sh : Int} {t1 t2 : Tok} {news : List (Addr × Obj)} (F : Fr g L h' m) (N : News g L h' news)
    (hk : Knows m [("shape", .int sh t1), ("size", .int (sizeAt sh) t2), ("figures", .ref fa)]) (h1 : (fa, listOf us.toArray k) ∈ news) (h2 : (37, tabObj #[]) ∈ news) (h3 : (30, tabObj #[]) ∈ news)
    (hi : IntsAre us fs) (hf : FigsOk fs) (hs0 : 0 ≤ sh) (hs1 : sh < 1000000) (n1 : @Ne Nat fa 37) (n2 : @Ne Nat fa 30) : InvA g L s { s with heap := h', toks := tk } :=
  ⟨h', tk, m, fa, us, fs, k, sh, t1, t2, rfl, F, fun q hq => N q (by
    rcases List.mem_cons.mp hq with rfl | hq
    · exact h1
    rcases List.mem_cons.mp hq with rfl | hq
    · exact h2
    · rw [List.mem_singleton.mp hq]; exact h3), hk, hi, hf, hs0, hs1, n1, n2⟩
end

section
open PySem PySem.W PySem.Calls PyProof.Rows
set_option maxRecDepth 100000
noncomputable def szT : List Int := [7, 11, 15, 19, 23, 31, 35, 39, 51]
noncomputable def ksT : List Nat := [3, 5, 2, 9, 11, 15, 3, 6, 8]
noncomputable def kfT : List Nat := [1, 1, 2, 2, 2, 3, 3, 3, 4]
noncomputable def hfT : List Int := [1, 1, 2, 1, 3, 3, 2, 4, 2]
noncomputable def sgT : List (List Int) := [[0, 1, 1, -1, 1, -1, -1],
  [0, 1, -1, 1, 1, 1, -1, -1, -1, 1, -1],
  [0, 1, 1, 0, 1, 0, 0, -1, 1, 0, 0, -1, 0, -1, -1],
  [0, 1, -1, -1, 1, 1, 1, 1, -1, 1, -1, 1, -1, -1, -1, -1, 1, 1, -1],
  [0, 1, 1, 1, 1, -1, 1, -1, 1, 1, -1, -1, 1, 1, -1, -1, 1, -1, 1, -1, -1, -1, -1],
  [0, 1, 1, -1, 1, 1, -1, 1, 1, 1, 1, -1, -1, -1, 1, -1, 1, -1, 1, 1, 1, -1, -1, -1, -1, 1, -1, -1, 1, -1, -1],
  [0, 1, -1, 1, 1, 0, -1, 0, -1, 1, 0, 1, 1, 1, 0, 0, 1, 1, -1, -1, 0, 0, -1, -1, -1, 0, -1, 1, 0, 1, 0, -1, -1, 1, -1],
  [0, 1, 1, 0, 1, 1, 0, -1, 1, 0, 1, 1, 0, 0, -1, 0, 1, -1, 0, -1, 1, 0, 1, -1, 0, 1, 0, 0, -1, -1, 0, -1, 1, 0, -1, -1, 0, -1, -1],
  [0, 1, -1, 0, 1, 1, 0, -1, -1, 0, -1, 1, 0, 1, 1, 0, 1, 0, 0, 1, 1, 0, -1, 1, 0, 1, -1, 0, -1, 1, 0, -1, -1, 0, 0, -1, 0, -1, -1, 0, -1, 1, 0, 1, 1, 0, -1, -1, 0, 1, -1]]
theorem s_left : ∀ j < 9, ∀ k < ksT.getD j 0, 1 < (stS (szT.getD j 0) k).2 := by decide +kernel
theorem s_end : ∀ j < 9, ¬ 1 < (stS (szT.getD j 0) (ksT.getD j 0)).2 := by decide +kernel
theorem s_sg : ∀ j < 9, (stS (szT.getD j 0) (ksT.getD j 0)).1 = sgT.getD j [] := by decide +kernel
theorem s_sz : ∀ j < 9, 0 < szT.getD j 0 ∧ szT.getD j 0 < 100 ∧ ksT.getD j 0 < 100 ∧ kfT.getD j 0 < 10 ∧ ((sgT.getD j []).length : Int) = szT.getD j 0 ∧ 7 ≤ (sgT.getD j []).length ∧ 0 ≤ hfT.getD j 0 ∧ hfT.getD j 0 < 5 := by decide +kernel
theorem s_one : ∀ j < 9, ∀ x ∈ sgT.getD j [], x.natAbs ≤ 1 := by decide +kernel
theorem s_fl : ∀ j < 9, ∀ k < kfT.getD j 0, 3 * ((k : Int) + 1) * ((k : Int) + 1) ≤ szT.getD j 0 := by decide +kernel
theorem s_fe : ∀ j < 9, ¬ 3 * (((kfT.getD j 0 : Nat) : Int) + 1) * (((kfT.getD j 0 : Nat) : Int) + 1) ≤ szT.getD j 0 := by decide +kernel
theorem s_fo : ∀ j < 9, formsTo (szT.getD j 0) (kfT.getD j 0) = hfT.getD j 0 := by decide +kernel

noncomputable def jAt (sh : Int) : Nat := (sh.fmod 9).toNat
theorem jAt_lt (sh : Int) : jAt sh < 9 := by
  have h1 := Int.fmod_nonneg_of_pos sh (b := 9) (by decide)
  have h2 := Int.fmod_lt_of_pos sh (b := 9) (by decide)
  unfold jAt; omega
theorem newS_len (p : Int) (ns : List Int) : (newS p ns).length = ns.length := by simp [newS]
theorem stS_len (size : Int) : ∀ k, (stS size k).1.length = size.toNat
  | 0 => by simp [stS]
  | k + 1 => by
    unfold stS
    split
    · simp [newS_len, stS_len size k]
    · exact stS_len size k

/-- what a size gives -/
structure SzOk (D : Int) (K KF : Nat) (sg : List Int) (h : Int) : Prop where
  pos : 0 < D
  lt : D < 100
  hKb : K < 100
  hleft : ∀ k, k < K → 1 < (stS D k).2
  hend : ¬ 1 < (stS D K).2
  hlen : ∀ k, (stS D k).1.length < 100
  hK : ∀ k : Nat, k < KF → 3 * ((k : Int) + 1) * ((k : Int) + 1) ≤ D
  hfe : ¬ 3 * ((KF : Int) + 1) * ((KF : Int) + 1) ≤ D
  hKs : KF < 10
  sgE : (stS D K).1 = sg
  foE : formsTo D KF = h
  len : (sg.length : Int) = D
  len7 : 7 ≤ sg.length
  one : ∀ i, (sg.getD i 0).natAbs ≤ 1
  h0 : 0 ≤ h
  h5 : h < 5
theorem szOk (sh : Int) : SzOk (sizeAt sh) (ksT.getD (jAt sh) 0) (kfT.getD (jAt sh) 0) (sgT.getD (jAt sh) []) (hfT.getD (jAt sh) 0) := by
  have e : sizeAt sh = szT.getD (jAt sh) 0 := rfl
  have hj := jAt_lt sh
  rw [e]
  generalize jAt sh = j at hj
  obtain ⟨h1, h2, h3, h4, h5, h6, h7, h8⟩ := s_sz j hj
  refine ⟨h1, h2, h3, s_left j hj, s_end j hj, fun k => ?_, s_fl j hj, s_fe j hj, h4, s_sg j hj, s_fo j hj, h5, h6, fun i => ?_, h7, h8⟩
  · rw [stS_len]; omega
  · rw [List.getD_eq_getElem?_getD]
    cases hx : (sgT.getD j [])[i]? with
    | none => decide
    | some x => exact s_one j hj x (List.mem_of_getElem? hx)
end

section
open PySem PySem.W PySem.Calls PyProof.Rows
set_option maxRecDepth 100000

noncomputable def lawBody (P : Params) : List Stmt := match (Mine.hd.heap_39 P).lookup 134 with
  | some ⟨_, _, .func f, _⟩ => (match f.body with | .stmts b => b | _ => [])
  | _ => []
noncomputable def lawScope (P : Params) : Scope := match (Mine.hd.heap_39 P).lookup 134 with
  | some ⟨_, _, .func f, _⟩ => f.scope
  | _ => { kind := .function, names := [], isGenerator := false, isCoroutine := false }
theorem law_is {P : Params} {name qual : Str} {params : Arguments} {body : List Stmt} {scope : Scope} {dV kV doc pm cdv ct oc : Value} {an od : Option Addr} {osl : Array (Option Value)}
    (ho : (Mine.hd.heap_39 P).lookup 134 = some ⟨oc, od, .func (fnOf name qual params body scope dV kV doc pm an cdv ct), osl⟩) : lawBody P = body ∧ lawScope P = scope := by
  unfold lawBody lawScope
  rw [ho]
  exact ⟨rfl, rfl⟩
noncomputable abbrev lawEnv (P : Params) (L fa : Addr) (cd : Value) : Env := envOf "law" (lawScope P) L fa cd

noncomputable def wayAt (sh : Int) : Int := 1 - 2 * (sh.fdiv 9).fmod 2
noncomputable def sideAt (sh : Int) : Int := 1 - 2 * (sh.fdiv 18).fmod 2
noncomputable def sgAt (sh : Int) : List Int := sgT.getD (jAt sh) []
noncomputable def hAt (sh : Int) : Int := hfT.getD (jAt sh) 0
noncomputable abbrev tabs0 : List (Addr × Obj) := [(37, tabObj #[]), (30, tabObj #[])]

noncomputable def InvB (g : Heap) (L : Addr) (s s' : Shared) : Prop :=
  ∃ h' tk m fa us fs k sa vs n sh t1 t2 t3 t4 t5, s' = { s with heap := h', toks := tk } ∧ Fr g L h' m ∧ News g L h' ((sa, listOf vs.toArray n) :: (fa, listOf us.toArray k) :: tabs0) ∧
    Knows m [("shape", .int sh t1), ("size", .int (sizeAt sh) t2), ("figures", .ref fa), ("way", .int (wayAt sh) t3), ("side", .int (sideAt sh) t4), ("signs", .ref sa), ("forms", .int (hAt sh) t5)] ∧
    IntsAre us fs ∧ FigsOk fs ∧ 0 ≤ sh ∧ sh < 1000000 ∧ @Ne Nat fa 37 ∧ @Ne Nat fa 30 ∧ IntsAre vs (sgAt sh) ∧ @Ne Nat fa sa ∧ @Ne Nat sa 37 ∧ @Ne Nat sa 30
theorem InvB.intro {g h' : Heap} {L fa sa : Addr} {s : Shared} {tk k n : Nat} {m : Str → Option Value} {us vs : List Value} {fs sg : List Int} {sh fo : Int} {t1 t2 t3 t4 t5 : Tok} (F : Fr g L h' m)
    (N : News g L h' ((sa, listOf vs.toArray n) :: (fa, listOf us.toArray k) :: tabs0))
    (hk : Knows m [("shape", .int sh t1), ("size", .int (sizeAt sh) t2), ("figures", .ref fa), ("way", .int (wayAt sh) t3), ("side", .int (sideAt sh) t4), ("signs", .ref sa), ("forms", .int fo t5)])
    (hi : IntsAre us fs) (hf : FigsOk fs) (hs0 : 0 ≤ sh) (hs1 : sh < 1000000) (n1 : @Ne Nat fa 37) (n2 : @Ne Nat fa 30) (hv : IntsAre vs sg) (e1 : sg = sgAt sh) (e2 : fo = hAt sh) (n3 : @Ne Nat fa sa) (n4 : @Ne Nat sa 37) (n5 : @Ne Nat sa 30) :
    InvB g L s { s with heap := h', toks := tk } := by
  subst e1 e2
  exact ⟨h', tk, m, fa, us, fs, k, sa, vs, n, sh, t1, t2, t3, t4, t5, rfl, F, N, hk, hi, hf, hs0, hs1, n1, n2, hv, n3, n4, n5⟩
theorem len_pos_of {α : Type} {l : List α} (h : l.isEmpty = false) : 0 < l.length := by
  cases l with
  | nil => cases h
  | cons a r => exact Nat.succ_pos _
end

section
open PySem PySem.W PySem.Calls PyProof.Rows
set_option maxRecDepth 100000

noncomputable def figK (fs : List Int) (i : Nat) : Int := fs.reverse.getD i 0 * 64 ^ (i : Int).toNat
noncomputable def lowL : List Int → Int
  | [] => 0
  | x :: r => x + 64 * lowL r
theorem readL_rev : ∀ r : List Int, readL r.reverse = lowL r
  | [] => rfl
  | x :: r => by
    rw [List.reverse_cons, readL_snoc, readL_rev r]
    show lowL r * 64 + x = x + 64 * lowL r
    omega
theorem sum_low : ∀ r : List Int, ((List.range r.length).map fun i => r.getD i 0 * 64 ^ (i : Int).toNat).sum = lowL r
  | [] => rfl
  | x :: r => by
    have ih := sum_low r
    have e : ∀ i : Nat, ((x :: r).getD (i + 1) 0) * (64 : Int) ^ ((i + 1 : Nat) : Int).toNat = 64 * (r.getD i 0 * 64 ^ (i : Int).toNat) := fun i => by
      rw [Int.toNat_natCast, Int.toNat_natCast, Int.pow_succ, List.getD_cons_succ]
      rw [← Int.mul_assoc, Int.mul_comm 64]
    have mul : ∀ l : List Int, (l.map fun y => 64 * y).sum = 64 * l.sum := fun l => by
      induction l with
      | nil => rfl
      | cons a t ih => simp only [List.map_cons, List.sum_cons, ih, Int.mul_add]
    rw [List.length_cons, List.range_succ_eq_map, List.map_cons, List.sum_cons, List.map_map]
    have e2 : (List.map ((fun i : Nat => (x :: r).getD i 0 * (64 : Int) ^ (i : Int).toNat) ∘ Nat.succ) (List.range r.length)) = ((List.range r.length).map fun i => r.getD i 0 * (64 : Int) ^ (i : Int).toNat).map fun y => 64 * y := by
      rw [List.map_map]
      apply List.map_congr_left
      intro i _
      exact e i
    rw [e2, mul, ih]
    show x * 64 ^ (0 : Int).toNat + 64 * lowL r = x + 64 * lowL r
    simp
theorem sum_figK (fs : List Int) : (List.map (figK fs) (List.range fs.length)).sum = readL fs := by
  have h := sum_low fs.reverse
  rw [List.length_reverse] at h
  have h2 := readL_rev fs.reverse
  rw [List.reverse_reverse] at h2
  rw [h2, ← h]
  rfl

theorem way_one (sh : Int) : wayAt sh = 1 ∨ wayAt sh = -1 := by
  have h1 := Int.fmod_nonneg_of_pos (sh.fdiv 9) (b := 2) (by decide)
  have h2 := Int.fmod_lt_of_pos (sh.fdiv 9) (b := 2) (by decide)
  unfold wayAt; omega
theorem side_one (sh : Int) : sideAt sh = 1 ∨ sideAt sh = -1 := by
  have h1 := Int.fmod_nonneg_of_pos (sh.fdiv 18) (b := 2) (by decide)
  have h2 := Int.fmod_lt_of_pos (sh.fdiv 18) (b := 2) (by decide)
  unfold sideAt; omega
noncomputable def wholeAt (sh : Int) (fs : List Int) : Int := wayAt sh * readL fs
noncomputable def ownAt (sh : Int) (fs : List Int) : Int := (sgAt sh).getD ((wholeAt sh fs).fmod (sizeAt sh)).toNat 0

noncomputable def InvC (g : Heap) (L : Addr) (s s' : Shared) : Prop :=
  ∃ h' tk m fa us fs k sa vs n sh t1 t2 t3 t4 t5 t6 t7, s' = { s with heap := h', toks := tk } ∧ Fr g L h' m ∧ News g L h' ((sa, listOf vs.toArray n) :: (fa, listOf us.toArray k) :: tabs0) ∧
    Knows m [("shape", .int sh t1), ("size", .int (sizeAt sh) t2), ("figures", .ref fa), ("way", .int (wayAt sh) t3), ("side", .int (sideAt sh) t4), ("signs", .ref sa), ("forms", .int (hAt sh) t5), ("whole", .int (wholeAt sh fs) t6), ("own", .int (ownAt sh fs) t7)] ∧
    IntsAre us fs ∧ FigsOk fs ∧ 0 ≤ sh ∧ sh < 1000000 ∧ @Ne Nat fa 37 ∧ @Ne Nat fa 30 ∧ IntsAre vs (sgAt sh) ∧ @Ne Nat fa sa ∧ @Ne Nat sa 37 ∧ @Ne Nat sa 30
theorem InvC.intro {g h' : Heap} {L fa sa : Addr} {s : Shared} {tk k n : Nat} {m : Str → Option Value} {us vs : List Value} {fs : List Int} {sh wh ow : Int} {t1 t2 t3 t4 t5 t6 t7 : Tok} {news : List (Addr × Obj)} (F : Fr g L h' m)
    (N : News g L h' news)
    (hk : Knows m [("shape", .int sh t1), ("size", .int (sizeAt sh) t2), ("figures", .ref fa), ("way", .int (wayAt sh) t3), ("side", .int (sideAt sh) t4), ("signs", .ref sa), ("forms", .int (hAt sh) t5), ("whole", .int wh t6), ("own", .int ow t7)])
    (hs : ∀ q ∈ (sa, listOf vs.toArray n) :: (fa, listOf us.toArray k) :: tabs0, q ∈ news)
    (hi : IntsAre us fs) (hf : FigsOk fs) (hs0 : 0 ≤ sh) (hs1 : sh < 1000000) (n1 : @Ne Nat fa 37) (n2 : @Ne Nat fa 30) (hv : IntsAre vs (sgAt sh)) (n3 : @Ne Nat fa sa) (n4 : @Ne Nat sa 37) (n5 : @Ne Nat sa 30)
    (e1 : wh = wholeAt sh fs) (e2 : ow = ownAt sh fs) : InvC g L s { s with heap := h', toks := tk } := by
  subst e1 e2
  exact ⟨h', tk, m, fa, us, fs, k, sa, vs, n, sh, t1, t2, t3, t4, t5, t6, t7, rfl, F, fun q hq => N q (hs q hq), hk, hi, hf, hs0, hs1, n1, n2, hv, n3, n4, n5⟩

noncomputable def InvD (g : Heap) (L : Addr) (s s' : Shared) : Prop :=
  ∃ h' tk m sa vs n sh t1 t5 D, s' = { s with heap := h', toks := tk } ∧ Fr g L h' m ∧ News g L h' ((sa, listOf vs.toArray n) :: D) ∧
    Knows m [("shape", .int sh t1), ("signs", .ref sa), ("forms", .int (hAt sh) t5)] ∧ 0 ≤ sh ∧ sh < 1000000 ∧ IntsAre vs (sgAt sh) ∧ TabA D ∧ sa ∉ D.map (·.1)
theorem InvD.intro {g h' : Heap} {L sa : Addr} {s : Shared} {tk n : Nat} {m : Str → Option Value} {vs : List Value} {sh : Int} {t1 t5 : Tok} {D : List (Addr × Obj)} (F : Fr g L h' m) (N : News g L h' ((sa, listOf vs.toArray n) :: D))
    (hk : Knows m [("shape", .int sh t1), ("signs", .ref sa), ("forms", .int (hAt sh) t5)]) (hs0 : 0 ≤ sh) (hs1 : sh < 1000000) (hv : IntsAre vs (sgAt sh)) (hD : TabA D) (hap : sa ∉ D.map (·.1)) : InvD g L s { s with heap := h', toks := tk } :=
  ⟨h', tk, m, sa, vs, n, sh, t1, t5, D, rfl, F, N, hk, hs0, hs1, hv, hD, hap⟩

noncomputable def InvE (due : Int → List Int) (g : Heap) (L : Addr) (s s' : Shared) : Prop :=
  ∃ h' tk m sa vs n da ws n2 ks sh t5 D, s' = { s with heap := h', toks := tk } ∧ Fr g L h' m ∧ News g L h' ((da, listOf ws.toArray n2) :: (sa, listOf vs.toArray n) :: D) ∧
    Knows m [("signs", .ref sa), ("forms", .int (hAt sh) t5), ("sums", .ref da)] ∧ IntsAre vs (sgAt sh) ∧ IntsAre ws ks ∧ ks.length = 6 ∧ List.map (fun k' => 2 * k') ks = due sh ∧ TabA D ∧ sa ∉ D.map (·.1) ∧ @Ne Nat sa da
theorem InvE.intro {due : Int → List Int} {g h' : Heap} {L sa da : Addr} {s : Shared} {tk n n2 : Nat} {m : Str → Option Value} {vs ws : List Value} {ks : List Int} {sh : Int} {t5 : Tok} {D : List (Addr × Obj)} (F : Fr g L h' m) (N : News g L h' ((da, listOf ws.toArray n2) :: (sa, listOf vs.toArray n) :: D))
    (hk : Knows m [("signs", .ref sa), ("forms", .int (hAt sh) t5), ("sums", .ref da)]) (hv : IntsAre vs (sgAt sh)) (hw : IntsAre ws ks) (h6 : ks.length = 6) (hd : List.map (fun k' => 2 * k') ks = due sh) (hD : TabA D) (hap : sa ∉ D.map (·.1)) (hn : @Ne Nat sa da) : InvE due g L s { s with heap := h', toks := tk } :=
  ⟨h', tk, m, sa, vs, n, da, ws, n2, ks, sh, t5, D, rfl, F, N, hk, hv, hw, h6, hd, hD, hap, hn⟩
end

section
open PySem PySem.W PySem.Calls PyProof.Rows
set_option maxRecDepth 100000

noncomputable def vfA (r : UInt64) : UInt64 :=
  if Float64.cmp r one6 == some .lt then Float64.add 0 (Float64.mul (Float64.mul (Float64.sub fOne 0) r) fSix)
  else if Float64.cmp r fHalf == some .lt then fOne
  else if Float64.cmp r two3 == some .lt then Float64.add 0 (Float64.mul (Float64.mul (Float64.sub fOne 0) (Float64.sub two3 r)) fSix)
  else 0
theorem vF_A (hue : UInt64) : vF 0 fOne hue = vfA (Float64.divmod hue fOne).2 := rfl
theorem sub_one : Float64.sub fOne 0 = fOne := by decide +kernel
/-- a colour's part, step by step -/
noncomputable def okA (r p s : UInt64) : Bool :=
  if Float64.cmp r one6 == some .lt then Float64.mul fOne r == p && Float64.mul p fSix == s && Float64.add 0 s == s
  else if Float64.cmp r fHalf == some .lt then s == fOne
  else if Float64.cmp r two3 == some .lt then Float64.sub two3 r == p && Float64.mul fOne p == p && Float64.mul p fSix == s && Float64.add 0 s == s
  else s == 0
theorem okA_eq {r p s : UInt64} (h : okA r p s = true) : vfA r = s := by
  unfold okA at h
  unfold vfA
  rw [sub_one]
  by_cases c1 : (Float64.cmp r one6 == some .lt) = true
  · rw [if_pos c1] at h ⊢
    simp only [Bool.and_eq_true, beq_iff_eq] at h
    obtain ⟨⟨h1, h2⟩, h3⟩ := h
    rw [h1, h2, h3]
  · rw [if_neg c1] at h ⊢
    by_cases c2 : (Float64.cmp r fHalf == some .lt) = true
    · rw [if_pos c2] at h ⊢
      exact (beq_iff_eq.mp h).symm
    · rw [if_neg c2] at h ⊢
      by_cases c3 : (Float64.cmp r two3 == some .lt) = true
      · rw [if_pos c3] at h ⊢
        simp only [Bool.and_eq_true, beq_iff_eq] at h
        obtain ⟨⟨⟨h0, h1⟩, h2⟩, h3⟩ := h
        rw [h0, h1, h2, h3]
      · rw [if_neg c3] at h ⊢
        exact (beq_iff_eq.mp h).symm
noncomputable def okL (h r1 p1 s1 r2 p2 s2 r3 p3 s3 : UInt64) (k : Int) : Bool :=
  (Float64.divmod (Float64.add h one3) fOne).2 == r1 && okA r1 p1 s1 && (Float64.divmod h fOne).2 == r2 && okA r2 p2 s2 && (Float64.divmod (Float64.sub h one3) fOne).2 == r3 && okA r3 p3 s3 && sixF s1 s2 s3 == k
theorem okL_eq {h r1 p1 s1 r2 p2 s2 r3 p3 s3 : UInt64} {k : Int} (e : okL h r1 p1 s1 r2 p2 s2 r3 p3 s3 k = true) : secF true h = k := by
  unfold okL at e
  simp only [Bool.and_eq_true, beq_iff_eq] at e
  obtain ⟨⟨⟨⟨⟨⟨e1, e2⟩, e3⟩, e4⟩, e5⟩, e6⟩, e7⟩ := e
  show sixF (vF 0 fOne (Float64.add h one3)) (vF 0 fOne h) (vF 0 fOne (Float64.sub h one3)) = k
  rw [vF_A, vF_A, vF_A, e1, e3, e5, okA_eq e2, okA_eq e4, okA_eq e6, e7]
noncomputable def okD (h : UInt64) (k : Int) : Bool := secF false h == k && !Float64.isNaN (Float64.mul h fSix) && !Float64.isInf (Float64.mul h fSix) && decide ((hsvI h).natAbs < 2 ^ 1024 - 2 ^ 970)
theorem okD_eq {h : UInt64} {k : Int} (e : okD h k = true) : secF false h = k ∧ okHue false h := by
  unfold okD at e
  simp only [Bool.and_eq_true, beq_iff_eq, Bool.not_eq_true', decide_eq_true_eq] at e
  obtain ⟨⟨⟨e1, e2⟩, e3⟩, e4⟩ := e
  exact ⟨e1, fun _ => ⟨e2, e3, e4⟩⟩
noncomputable def fe (e k : Nat) : UInt64 := UInt64.ofNat (e / 2 ^ (64 * k + 6) % 2 ^ 64)
/-- a place's entry: two sixths and ten words of 64 bits in one number -/
noncomputable def okE (n : Nat) (t : Int) (i : Nat) (e : Nat) : Bool :=
  hueF n t i == fe e 0 && okL (fe e 0) (fe e 1) (fe e 2) (fe e 3) (fe e 4) (fe e 5) (fe e 6) (fe e 7) (fe e 8) (fe e 9) ((e % 8 : Nat) : Int) && okD (fe e 0) ((e / 8 % 8 : Nat) : Int)
theorem okE_eq {n : Nat} {t : Int} {i : Nat} {e : Nat} (h : okE n t i e = true) : secF true (hueF n t i) = ((e % 8 : Nat) : Int) ∧ secF false (hueF n t i) = ((e / 8 % 8 : Nat) : Int) ∧ okHue false (hueF n t i) := by
  unfold okE at h
  simp only [Bool.and_eq_true, beq_iff_eq] at h
  obtain ⟨⟨h1, h2⟩, h3⟩ := h
  rw [h1]
  exact ⟨okL_eq h2, okD_eq h3⟩
noncomputable def chk (n : Nat) (t : Int) : Nat → List Int → List Nat → Bool
  | i, s :: ns, e :: r => (s == 0 || okE n t i e) && chk n t (i + 1) ns r
  | _, [], [] => true
  | _, _, _ => false
theorem chk_eq {n : Nat} {t : Int} : ∀ {ns : List Int} {tab : List Nat} {i : Nat}, chk n t i ns tab = true → ∀ j, j < ns.length → ns.getD j 0 ≠ 0 →
    secF true (hueF n t (i + j)) = ((tab.getD j 0 % 8 : Nat) : Int) ∧ secF false (hueF n t (i + j)) = ((tab.getD j 0 / 8 % 8 : Nat) : Int) ∧ okHue false (hueF n t (i + j))
  | [], _, _, _, j, hj, _ => absurd hj (Nat.not_lt_zero j)
  | s :: ns, [], _, h, _, _, _ => by simp [chk] at h
  | s :: ns, e :: r, i, h, j, hj, hn => by
    simp only [chk, Bool.and_eq_true, Bool.or_eq_true, beq_iff_eq] at h
    obtain ⟨h1, h2⟩ := h
    cases j with
    | zero =>
      rcases h1 with h1 | h1
      · exact absurd h1 hn
      · exact okE_eq h1
    | succ j =>
      have := chk_eq h2 j (Nat.lt_of_succ_lt_succ hj) hn
      rw [show i + 1 + j = i + (j + 1) by omega] at this
      exact this
noncomputable def sixthsBy (ns : List Int) (ks : Nat → Nat) : Nat → List Int
  | 0 => [0, 0, 0, 0, 0, 0]
  | i + 1 => if ns.getD i 0 = 0 then sixthsBy ns ks i else (sixthsBy ns ks i).set (ks i) ((sixthsBy ns ks i).getD (ks i) 0 + ns.getD i 0)
theorem sixthsBy_eq {ns : List Int} {t : Int} {l : Bool} {ks : Nat → Nat} : ∀ {n : Nat}, (∀ i, i < n → ns.getD i 0 ≠ 0 → secF l (hueF ns.length t i) = ((ks i : Nat) : Int)) → sixthsTo ns t l n = sixthsBy ns ks n
  | 0, _ => rfl
  | n + 1, h => by
    have ih := sixthsBy_eq (n := n) fun i hi => h i (Nat.lt_succ_of_lt hi)
    unfold sixthsTo sixthsBy
    rw [ih]
    split
    · rfl
    · rw [h n (Nat.lt_succ_self n) (by assumption), Int.toNat_natCast]

/-- what the colours tell at a size and a number of turns -/
noncomputable def Six (j : Nat) (t : Int) (l : Bool) : Prop :=
  (∀ i, i < (sgT.getD j []).length → (sgT.getD j []).getD i 0 ≠ 0 → okHue l (hueF (sgT.getD j []).length t i)) ∧
  List.map (fun k' => 2 * k') (sixthsTo (sgT.getD j []) t l (sgT.getD j []).length) = dueL ((sgT.getD j []).getD 2 0) ((sgT.getD j []).getD 3 0) (hfT.getD j 0)
theorem six_of {j : Nat} {t : Int} (tab : List Nat) (h : chk (sgT.getD j []).length t 0 (sgT.getD j []) tab = true)
    (hL : List.map (fun k' => 2 * k') (sixthsBy (sgT.getD j []) (fun i => tab.getD i 0 % 8) (sgT.getD j []).length) = dueL ((sgT.getD j []).getD 2 0) ((sgT.getD j []).getD 3 0) (hfT.getD j 0))
    (hD : List.map (fun k' => 2 * k') (sixthsBy (sgT.getD j []) (fun i => tab.getD i 0 / 8 % 8) (sgT.getD j []).length) = dueL ((sgT.getD j []).getD 2 0) ((sgT.getD j []).getD 3 0) (hfT.getD j 0)) : ∀ l, Six j t l := by
  have k := chk_eq h
  simp only [Nat.zero_add] at k
  intro l
  cases l
  · exact ⟨fun i hi hn => (k i hi hn).2.2, by rw [sixthsBy_eq fun i hi hn => (k i hi hn).2.1]; exact hD⟩
  · exact ⟨fun i hi hn => fun e => Bool.noConfusion e, by rw [sixthsBy_eq fun i hi hn => (k i hi hn).1]; exact hL⟩
theorem six_7_0 : ∀ l, Six 0 0 l := six_of [0,
  214235606886289899846570770429170699470609666695028069595282566634474412055400582149023992627296518078194606703410119421062626791574426791739277074057134080,
  214295448558340501190135198622197338611998495830973499300329346135024371779333045434869677511533957018740870460336354077446498226216718058795019631526412297,
  72866568123908629415533455367953948662321447511691036030393183922878031756655955270726078430876675414688405049288062123917273486310321051090114814791358995375882539689909740667269333797851627538,
  72927761747304776697967477384865594146554075670524816941873677322378265655707086610161261464761946563980385793138856958090418421243169929971326637262538419567144940560758804786365750823557791771,
  72927761747304776697967477384865594146554205446823292490971117980210760460848649352017198699177947707882024209643721888479322408577382698713604936453866826018272135790766146546806124235393597476,
  72907572724796377610758751944541249064901149134571971781555650404431451074082003633759746711774119574687364506079224150176816577730073385767082728556469024139853932022472108462663979808606650413]
  (by decide +kernel) (by decide +kernel) (by decide +kernel)
theorem six_7_1 : ∀ l, Six 0 1 l := six_of [0,
  214235606886289899846570770429170699470609666695028069595282566634474412055400582149023992627296518078194606703410119421062626791574425612012417853845143552,
  214295448558340501190135198622197338611998495830973499300329346135024371779333045434869677511533957018740870460336354077446498226216718059412716467917946889,
  72866568123908629463020892450790019205370330377528601374815424063271076992771406585453327516822557829317879068177616278971549878193176950105729966056719129491767601000535692365023905903244476434,
  72927761747304776697967477384865594146554075670524816941966712679088103337697400057570926045159212658148362504854887703585540250121684864157079091753900155958922543326360875562269977722948157467,
  72927761747304776697967477384865594146554205446823292491017635658565679301843806075722030989376580754966012565501737261226883323016649807434746717641201642885002438231155525923013550890679271460,
  72907572724796377610758751944541249064901149134571971781555650404431451074082003633759746711774119574687364506079224150176816577730073385767082728556469024139853932022472117907726412008136900653]
  (by decide +kernel) (by decide +kernel) (by decide +kernel)
theorem six_7_2 : ∀ l, Six 0 2 l := six_of [0,
  214235606886289899846570770429170699470609666695028069595282566634474412055400582149023992627296518078194606703410119421062626791574430334646548241970102272,
  214295448558340501190135198622197338611998495830973499300329346135024371779333045434869677511524315390475316518682405406604997168628414211684305545239461897,
  72866568123908629273071144119445737033174798914178339997126463501698896048309601326544331173039028170799982992619399658754444310661753354043269360995278593028227355758031887937392139481070436370,
  72927761747304776697967477384865594146554075670524816941594571252248752609736146267932267723570148281476455657990764721605052934607625127414069273788453210391812132263952594821689402069383905307,
  72927761747304776697967477384865594146554205446823292490831564945146003937863179180902701828582048566630059142069675770236639665259619939063241808658478170101447232699951384372214008961545797668,
  72907572724796377800708500275885531230231882937791623443425391956533699663361552565838456422587790926507926992795508008815266044693408019180474931804173075040273764374840643904926745531110129709]
  (by decide +kernel) (by decide +kernel) (by decide +kernel)
theorem six_7_3 : ∀ l, Six 0 3 l := six_of [0,
  214235606886289899753535413719333017480296219285363489198016472466497700339369836653902163748781583892442152212048383029285024025972359559298234421583282176,
  214295448558340501097099841912359656621685048421308918903063251967047660063302299939747848633009381204722862027320669014827394403026343436335991724852641801,
  72866568123908629273071144119445737033174798914178339997126463501698896048309601326544331173039028170799982992619399658754444310661753354043269360995278593028227355758031887937536254669146292242,
  72927761747304776697967477384865594146554075670524816941594571252248752609736146267932267723570148281476455657990764721605052934607625127414069273788453210391812132263952594821833517257459761179,
  72927761747304776697967477384865594146554205446823292490831564945146003937863179180902701828582048566630059142069675770236639665259600655806710700775170272759764230584774696396176964198680494116,
  72907572724796377800708500275885531230231882937791623443425391956533699663361552565838456422587790926507926992795508008815266044693408019180474931804173075040273764374840625015604929240605130797]
  (by decide +kernel) (by decide +kernel) (by decide +kernel)
theorem six_11_0 : ∀ l, Six 1 0 l := six_of [0,
  214213818380056091152241408191513017960971217778562185511809286099617331585680317528486344122245863209228075243590642867758241764214073413278709718959783936,
  214251871545872883801490648034358321198284611783735551000319326808328203323813580748404860865800867443687724624164330516384456512777486789876519781049303049,
  214290027005146173205162989276761967900902637017584740474271762706289454626088549598853574923817078516435128544745970046130267716799070853199630635060166665,
  72745921310091196841037435964488187860040858163499797564189980933044128508615396621865529848351711683050597073392737976410110427710663886873382581366202552443928504645199358997408481029767823378,
  72888706431348873832031757990342212959253872204146780478142044065384594906711710480012580504122467782749876397006256551260883918278414543938371486977444237244701170062905082214150327368276770834,
  72927761747304776697967477384865594146554032298099262317993903174450633611694821378317199728758910567826093787374892311313037404646269505977582911024800775362084002851456307322948701251310714907,
  72927761747304776697967477384865594146554140183598047561654173819210023695487589643873673146170089566423765045473532243717196485338639168251903945929439656715072356955210968260764737771883462683,
  72927761747304776697967477384865594146554216289929681146941062398901631202270841069643976216830062872148384282052744580103463797894666085405047834749559111612568513643134914854897125087292424228,
  72927761747304776697967477384865594146554292600848227725748407081386438495676077120111674595777967707456918376553979747979419186096795918433010231434035814400827732832352113128027164571477213220,
  72863087257958905339871211825237667034055054948375912490915991938254972894333191917998903564526044476988970363588182450377112597604259144066814910504297967871402759633226764328776315422912806957]
  (by decide +kernel) (by decide +kernel) (by decide +kernel)
theorem six_11_1 : ∀ l, Six 1 1 l := six_of [0,
  214213818380056091152241408191513017960971217778562185511809286099617331585680317528486344122245863209228075243590642867758241764214072233735583289795674112,
  214251871545872883801490648034358321198284611783735551000319326808328203323813580748404860865800867443687724624164330516384456512777486790662960865978875913,
  214290027005146173205162989276761967900902637017584740474271762706289454626088549598853574923817078516435128544745970046130267716799070853828516101775949833,
  72745921310091197030987184295832470032236389626850058941878941494616309453077201880774526192135241341568493148950954596627215995242087482935843186427643088907468749887703165787000324638113792018,
  72888706431348873879519195073178283502302755069984345822564284205777640142827161794739829590068350197379350415895810706315160310161270442953986638242804371360586231373531033911882522213021122578,
  72927761747304776697967477384865594146554032298099262318086938531160471293685134825726864309156176661994070499090923056808159233524784440163335365516162511753861605617058378098860387237583912987,
  72927761747304776697967477384865594146554140183598047561700691497564942536482746367578505436368722613507753401331547616464757399777896635344780173175120524910961158338012003648904032081091231771,
  72927761747304776697967477384865594146554216289929681146987580077256550043265997793348808507028695919232372637910759952851024712333933194126189615936893928479298816083524294231100822199136682020,
  72927761747304776697967477384865594146554292600848227725794924759741357336671233843816506885976600754540906732411995120726980100536058206340019235650543482707565421223454017817627353349393219620,
  72863087257958905339871211825237667034055054948375912490915991938254972894333191917998903564526044476988970363588182450377112597604259144066814910504297967871402759633226773773823759079933214765]
  (by decide +kernel) (by decide +kernel) (by decide +kernel)
theorem six_11_2 : ∀ l, Six 1 2 l := six_of [0,
  214213818380056091152241408191513017960971217778562185511809286099617331585680317528486344122245863209228075243590642867758241764214076956377207949175554048,
  214251871545872883801490648034358321198284611783735551000319326808328203323813580748404860865796046629554947653337530405535569504476629295327902060288933897,
  214290027005146173205162989276761967900902637017584740474271762706289454626088549598853574923807436888169574603092021375288766659210767006101969950818172937,
  72745921310091196271188190970455341343454263773449013431123099248327585675229980845138540817001122707496908846718088115758793725116393098686000766181880943053307768917687940992253448278518005778,
  72888706431348873689569446741834001330107223606634084444875323644205459198365356535830833246284820538861454340337594086098054742629846846891526033181363834897045986131027229484247026247405666322,
  72927761747304776697967477384865594146554032298099262317714797104321120565723881036088205987567112285322163652226800074827671918010724703420325547550715566186751194554650097358283541127461077019,
  72927761747304776697967477384865594146554140183598047561514620784145267172502119472759176275574190425171799977899486125474513742020866766973275264192397052127405952806807864459298955401476702235,
  72927761747304776697967477384865594146554216289929681146801509363836874679285370898529479346234163730896419214478698461860781054576903325754684706954170455695743610552320152680299415498282500132,
  72927761747304776697967477384865594146554292600848227725608854046321681972690606948997177725182068566204953308979933629736736442779028337968514326667820009924010215692249876266812822877749903396,
  72863087257958905529820960156581949206250586411726173867767634289438614700882176150220918684734179287995076033702122361138121705229048332457503425143482876808944579985311943583590626622766579757]
  (by decide +kernel) (by decide +kernel) (by decide +kernel)
theorem six_11_3 : ∀ l, Six 1 3 l := six_of [0,
  214213818380056091059206051481675335970657770368897605114543191931640619869649572033364515243730929023475620752228906475980638998612006181028894128788733952,
  214251871545872883708455291324520639207971164374070970603053232640351491607782835253283031987281112443802493161975794013757966738874558519979588239902113801,
  214290027005146173112127632566924285910589189607920160077005668538312742910057804103731746045292502702417120111730284983511163893608696230753656130431352841,
  72745921310091196271188190970455341343454263773449013431123099248327585675229980845138540817001122707496908846718088115758793725116393098686000766181880943053307768917687940992397563466593861650,
  72888706431348873689569446741834001330107223606634084444875323644205459198365356535830833246284820538861454340337594086098054742629846846891526033181363834897045986131027229484391141435481522194,
  72927761747304776697967477384865594146554032298099262317714797104321120565723881036088205987567112285322163652226800074827671918010724703420325547550715566186751194554650097358427656315536932891,
  72927761747304776697967477384865594146554140183598047561514620784145267172502119472759176275574190425171799977899486125474513742020866766973275264192397052127405952806807864459443070589552558107,
  72927761747304776697967477384865594146554216289929681146801509363836874679285370898529479346234163730896419214478698461860781054576884042498153599070862558354060608437143464704262370735417196580,
  72927761747304776697967477384865594146554292600848227725608854046321681972690606948997177725182068566204953308979933629736736442779018696340248772726166409702312441675648137663930299699584565284,
  72863087257958905529820960156581949206250586411726173867767634289438614700882176150220918684734179287995076033702122361138121705229048332457503425143482876808944579985311924694268810332261580845]
  (by decide +kernel) (by decide +kernel) (by decide +kernel)
theorem six_15_0 : ∀ l, Six 2 0 l := six_of [0,
  214203691327862912463325487365142662979855776000697609187922998370655003360930418409518339954156415002557553102709952066870248362470500591822326232902533120,
  214231617441486526423665394244810842292788573068997982818995278581198813855258635866817145262864319574292821502003527937296355274063961427804561506427731968,
  0,
  214287469668733754344327041472311321339064967765986269329904978070093738987765674204506356722063833933235002309991973444495505726239126764732255173540315145,
  0,
  0,
  72899149029198045726606174925168626058356098584943105546947380682116674848858667005997594012549466842036367131469462454130560490603935554441406352820497915948744438900575605675728313447513849874,
  72927761747304776697967477384865594146554011839407962967107217255616844911689035849913237534294284657584591555489696282131197662080243873889982810604409650658397402088087491748368488561498914843,
  0,
  0,
  72927761747304776697967477384865594146554221404602505984662734294510532495394516408147173159118796440198554127528698679926172000402818626290980190990249435801460032416444032349523369101354860580,
  0,
  72899427498474023532990802895939231300028880984551632119201264050727583814803481503557065189697526918920862338497337027644230391664879451200665998419275424054670858190941874502166702284563546157,
  72828348215780660075612281759446083285653858478135281295043099962392946572904575839912808355940235499855383652123512199397012833957999629086060923101366792994894325579229063737585080203298734125]
  (by decide +kernel) (by decide +kernel) (by decide +kernel)
theorem six_15_1 : ∀ l, Six 2 1 l := six_of [0,
  214203691327862912463325487365142662979855776000697609187922998370655003360930418409518339954156415002557553102709952066870248362470499412383697388842254336,
  214231617441486526423665394244810842292788573068997982818995278581198813855258635866817145262864319574292821502003527937296355274063960248096912953376243712,
  0,
  214287469668733754344327041472311321339064967765986269329904978070093738987765674204506356722063833933235002309991973444495505726239126765366418296069423113,
  0,
  0,
  72899149029198045774093612008004696599688782035748018462531110266029534098666446048279352165749467297701478642793571850659075143442912880526944971746626099163571400445670325644814016899390111762,
  72927761747304776697967477384865594146554011839407962967200252612326682593679349297322902114691550751752568267205727027626319490958758808075735265095771387050175004853689562524283692984980996123,
  0,
  0,
  72927761747304776697967477384865594146554221404602505984709251972865451336389673131852005449317429487282542483386714052673732914842085735012121972177583904219046607815846806340661365385365291044,
  0,
  72899427498474023532990802895939231300028880984551632119201264050727583814803481503557065189697526918920862338497337027644230391664879451200665998419275424054670858190941883947226390103070867501,
  72828348215780660075612281759446083285653858478135281295043099962392946572904575839912808355940235499855383652123512199397012833957999629086060923101366792994894325579229068460259074485000339501]
  (by decide +kernel) (by decide +kernel) (by decide +kernel)
theorem six_15_2 : ∀ l, Six 2 2 l := six_of [0,
  214203691327862912463325487365142662979855776000697609187922998370655003360930418409518339954156415002557553102709952066870248362470504135028805301058928640,
  214231617441486526423665394244810842292788573068997982818995278581198813855258635866817145262864319574292821502003527937296355274063964970732415532012666880,
  0,
  214287469668733754344327041472311321339064967765986269329904978070093738987765674204506356722054192304969448368338373222797731709637409413238761885062397961,
  0,
  0,
  72899149029198045584143863676660414434358048232528366800196191930378097099435329879152319552949465475041032597497134264545016532087003576184790496042113366304263554265291448131720506040135974930,
  72927761747304776697967477384865594146554011839407962966828111185487331865718095507684243793102486375080661420341604045645832175444699071332725447130324441483064593791281281783708606093462601755,
  0,
  0,
  72927761747304776697967477384865594146554221404602505984523181259445775972409046237032676288522897298946589059954652561683489257085055866640617063194860431435491402284642664789859079075208888356,
  0,
  72899427498474023722940551227283513465359614787771283781071005602829832404083030435635774900511198270741424825213620886282679858628214084614058201666979474955090690543310409944425351435532632109,
  72828348215780660455511778422134647616315326084574584618875618423307281433453987151479892357964844297664485337272110662169033596763183830098597784088136631187511593049568191229976459785197846573]
  (by decide +kernel) (by decide +kernel) (by decide +kernel)
theorem six_15_3 : ∀ l, Six 2 3 l := six_of [0,
  214203691327862912370290130655304980989542328591033028790656904202678291644899672914396511075641480816805098611348215675092645596868433359680491480672108544,
  214231617441486526330630037534973160302475125659333402421729184413222102139227890371695316384349385388540367010641791545518752508461894195384101711625846784,
  0,
  214287469668733754251291684762473639348751520356321688932638883902117027271734928709384527843539258119216993876976636831020128944035338637890448064675577865,
  0,
  0,
  72899149029198045584143863676660414434358048232528366800196191930378097099435329879152319552949465475041032597497134264545016532087003576184790496042113366304263554265291448131864621228211830802,
  72927761747304776697967477384865594146554011839407962966828111185487331865718095507684243793102486375080661420341604045645832175444699071332725447130324441483064593791281281783852721281538457627,
  0,
  0,
  72927761747304776697967477384865594146554221404602505984523181259445775972409046237032676288522897298946589059954652561683489257085036583384085955311553230992095854251439187583949917530802356260,
  0,
  72899427498474023722940551227283513465359614787771283781071005602829832404083030435635774900511198270741424825213620886282679858628214084614058201666979474955090690543310391055103535145027633197,
  72828348215780660455511778422134647616315326084574584618875618423307281433453987151479892357964844297664485337272110662169033596763183830098597784088136631187511593049568181785387609233983275053]
  (by decide +kernel) (by decide +kernel) (by decide +kernel)
theorem six_19_0 : ∀ l, Six 3 0 l := six_of [0,
  214197758307386100706182228902602946782107612098591957680359552953996479810617467795245438582598367625972173159627459852516227684522757343395789321600499712,
  214219853693989399663816208060159981383828840619125631579685232778234207174107967025627779582229760259994925065309768514016860541144219713896099010955968512,
  214241846787136201867012512666246373517970864417793077117167812051136245137673882744270600043459700353528168172276839434132948908706180309688447577272352768,
  214263942173739500824636321671365372970158410651280334801730554137095904456207284110013051426530202648860045008017634140344501774441551437727070008490590217,
  214285935266886303027825472789640933401962366215027186643284907288376309604771948967898025801011887181552556697143838141316922154778963400050080919182114825,
  214308030653489601985448061820094519696239828548837977330613926545107292719881591056990080739490031237751068799907270506706332270559130657653507200435355657,
  72762629466649871872356436638471771958103657788657501651919173922309161787293782385948023745281678075341636083622865799426956589882889510786524380986762050046272211466860092861965741676275171346,
  72860093713242142840897159318010210990577059158236997559825121051012904797677385351029082541531207835349672862691231678184708171300784274879775599340711424640661996844977140780917345112161255442,
  72905205735950565425459265243359870037363697426483780915014003647521261689150072712679371918012978472111195929934650922533052412141407685835827244100061984077172269102351637186879178688769818642,
  72927761747304776697967477384865594146553999973367009343592939422693247465685680232745116979003427343763899992407327884972685350594132015743045634531015407247759467562011438953595479928279662619,
  72927761747304776697967477384865594146554088354913422539423422592055214649710673611926977632838306147761357983503790015166822303455470997365723387388669240042209931777630289893591491736196087835,
  72927761747304776697967477384865594146554136091859787691476838964485809016970914680577753925185764277950128652424590709999771572096008693180112979807935094149369643382279047400918644169086337051,
  72927761747304776697967477384865594146554180282632994289380492253814966098680166686581469743117378553075188569902027716001726894746576928050704356833231880812745469534605871939223993805434781732,
  72927761747304776697967477384865594146554224473406200887295737431875873271268721611249091324492036581028656034814271139819796921907710150820547360531537905108992347362279255415908532005459984420,
  72927761747304776697967477384865594146554268459592494491702115734112424392132329522376585028175145266260116705907476397441700331189863978160321690088118530667706480557596018131020521199466709028,
  72920312694172367322139390200046969158675722394860195356007382906378525505261230555358812682201610651655483281014996316189323176447428001370965306463361578119242842374352730811134080551340736557,
  72875409523420928175469323662227361312536255883898521416360730259793037631673812250905363568754616152866942882627172394353287233894216418800989675179295129895030872550680838609200219228959932461,
  72804121388770581280199316652693135916142360200293303290586415184454868864212148054007728102320121227470557027867635419658149402659790026266867280442095806777346293737180124860406299256808276013]
  (by decide +kernel) (by decide +kernel) (by decide +kernel)
theorem six_19_1 : ∀ l, Six 3 1 l := six_of [0,
  214197758307386100706182228902602946782107612098591957680359552953996479810617467795245438582598367625972173159627459852516227684522756164064543181155336192,
  214219853693989399663816208060159981383828840619125631579685232778234207174107967025627779582229760259994925065309768514016860541144218534290696243194626048,
  214241846787136201867012512666246373517970864417793077117167812051136245137673882744270600043459700353528168172276839434132948908706179129931540903296499712,
  214263942173739500824636321671365372970158410651280334801730554137095904456207284110013051426530202648860045008017634140344501774441551438455386510729412617,
  214285935266886303027825472789640933401962366215027186643284907288376309604771948967898025801011887181552556697143838141316922154778963400687410635199217673,
  214308030653489601985448061820094519696239828548837977330613926545107292719881591056990080739490031237751068799907270506706332270559130658245237970225332233,
  72762629466649872062306184969816054123434391591877153314254092257960598786524898555075056358081679898002082128919303385541015201238798815128678856691274782905580057647238972737009618835004719122,
  72860093713242142888384596400846281533625942024074562904247361191405950033792836665756331627477090249979146881580785833238984563183640173895390750606071558756547058155603092478678461510762627090,
  72905205735950565472946702326195940578696380877288693830597733231434120938957851754961130071212978927776307441258760319061567064980385011921365863026190167291999230647446357155958760059902623762,
  72927761747304776697967477384865594146553999973367009343685974779403085147675993680154781559400693437931876704123358630467807179472646949928798089022377143639537070327613509729512725045342896155,
  72927761747304776697967477384865594146554088354913422539516457948765052331700987059336642213235572241929334695219820760661944132333985931551475841880030976433987534543232360669493537204516945947,
  72927761747304776697967477384865594146554136091859787691523356642840727857966071404282586215384397325034117008282606082747332486535266160272989207053615962345258444765080082789059345853177659419,
  72927761747304776697967477384865594146554180282632994289427009932169884939675323410286302033316011600159176925760043088749287809185872961656642799845527149895425366983813861739456049305748504612,
  72927761747304776697967477384865594146554224473406200887342255110230792112263878334953923614690669628112644390672286512567357836346977259541689141718872373526578922761682029407045472758307749924,
  72927761747304776697967477384865594146554268459592494491748633412467343233127486246081417318373778313344105061765491770189261245629126266067330694304626373199016032469191225513160984293810372644,
  72920312694172367322139390200046969158675722394860195356007382906378525505261230555358812682201610651655483281014996316189323176447428001370965306463361578119242842374352740256200805244265824301,
  72875409523420928175469323662227361312536255883898521416360730259793037631673812250905363568754616152866942882627172394353287233894216418800989675179295129895030872550680848054251814641886822445,
  72804121388770581280199316652693135916142360200293303290586415184454868864212148054007728102320121227470557027867635419658149402659790026266867280442095806777346293737180129583076212151347576877]
  (by decide +kernel) (by decide +kernel) (by decide +kernel)
theorem six_19_2 : ∀ l, Six 3 2 l := six_of [0,
  214197758307386100706182228902602946782107612098591957680359552953996479810617467795245438582598367625972173159627459852516227684522760886711691786953162752,
  214219853693989399663816208060159981383828840619125631579685232778234207174107967025627779582229760259994925065309768514016860541144223256930245024621264896,
  214241846787136201867012512666246373517970864417793077117167812051136245137673882744270600043459700353528168172276839434132948908706183852563525044724039680,
  214263942173739500824636321671365372970158410651280334801730554137095904456207284110013051426525381834727268037190659804923751245647400695317170883808722953,
  214285935266886303027825472789640933401962366215027186643284907288376309604771948967898025801002245553287002755490237919619148138177246048560281989773525001,
  214308030653489601985448061820094519696239828548837977330613926545107292719881591056990080739451464724688853033292869619915236204152254165428388837447434249,
  72762629466649871302507191644438925462111456378998546664914418915354850789600433878566925906881672607360297947733553041084780755815161597760060953873223851468348672925723455600437016087830200338,
  72860093713242142698434848069501999361430410560724301526558400629833769089331031406847335283693560591461250806022569213021878995652216577832930145544631022293006812913099288051047785804123340818,
  72905205735950565282996953994851658413365647074069042168262814895782683939726735585834097458412977105115861395962322732947508453624475707579211387321677434432691384467067479642864228853857910802,
  72927761747304776697967477384865594146553999973367009343313833352563734419714739890516123237811629061259969857259235648487319863958587213185788271056930198072426659265205228988938658500615077915,
  72927761747304776697967477384865594146554088354913422539144316521925701603739733269697983891646507865257427848355697778681456816819926194808466023914584030866877123480824079928911870835417939995,
  72927761747304776697967477384865594146554136091859787691337285929421052493985444509463257054589865136698163584850544591757088828778236291901484298070892489561703239233875943599454972861004906523,
  72927761747304776697967477384865594146554180282632994289240939218750209575694696515466972872521479411823223502327981597759044151428843093285137890862803677111870161452609720188660835054381957156,
  72927761747304776697967477384865594146554224473406200887156184396811116748283251440134594453896137439776690967240225021577114178589947391170184232736148900743023717230477887856242658682570014756,
  72927761747304776697967477384865594146554268459592494491562562699047667869146859351262088157579246125008151638333430279199017587872096397695825785321902900415460826937987083962350605578073538596,
  72920312694172367512089138531391251324006456198079847017877124458480774094540779487437522393015282003476045767731280174827772643410762634784357509711065629019662674726721266253403285013936472109,
  72875409523420928365419071993571643484731787347248782793212372610976679438222796483127378688962750963873048552741112305114296341519005607191678189818480038832572692902766017864020758062673428525,
  72804121388770581660098813315381700260533423126993826044382735243531990159300429965861422923133656943650745079811545986675289446787883337233996764211827361044207537206952539977939613340194045997]
  (by decide +kernel) (by decide +kernel) (by decide +kernel)
theorem six_19_3 : ∀ l, Six 3 3 l := six_of [0,
  214197758307386100613146872192765264791794164688927377283093458786019768094586722300123609704083433440219718668265723460738624918920690111363377966566342656,
  214219853693989399570780851350322299393515393209461051182419138610257495458077221530505950703714826074242470573948032122239257775542152481581931204234444800,
  214241846787136201773977155956408691527657417008128496719901717883159533421643137249148771164944766167775713680915103042355346143104113077215211224337219584,
  214263942173739500731600964961527690979844963241615754404464459969119192740176538614891222548010447648974813545828923413146148480045329919968857063421902857,
  214285935266886302934790116079803251411648918805362606246018813120399597888741203472776196922487311367534548264128501527841545372575175273211968169386704905,
  214308030653489601892412705110256837705926381139173396933347832377130581003850845561868251860936530538936398541931133228137633438550183390080075017060614153,
  72762629466649871302507191644438925462111456378998546664914418915354850789600433878566925906881672607360297947733553041084780755815161597760060953873223851468348672925723455600581131275906056210,
  72860093713242142698434848069501999361430410560724301526558400629833769089331031406847335283693560591461250806022569213021878995652216577832930145544631022293006812913099288051191900992199196690,
  72905205735950565282996953994851658413365647074069042168262814895782683939726735585834097458412977105115861395962322732947508453624475707579211387321677434432691384467067479643008344041933766674,
  72927761747304776697967477384865594146553999973367009343313833352563734419714739890516123237811629061259969857259235648487319863958587213185788271056930198072426659265205228989082773688690933787,
  72927761747304776697967477384865594146554088354913422539144316521925701603739733269697983891646507865257427848355697778681456816819926194808466023914584030866877123480824079929055986023493795867,
  72927761747304776697967477384865594146554136091859787691337285929421052493985444509463257054589865136698163584850544591757088828778236291901484298070892489561703239233875943599599088049080762395,
  72927761747304776697967477384865594146554180282632994289240939218750209575694696515466972872521479411823223502327981597759044151428765960259013459329574875338287969319795811364591843312528261156,
  72927761747304776697967477384865594146554224473406200887156184396811116748283251440134594453896137439776690967240225021577114178589928107913653124852841700299628169197274410650333497138163482660,
  72927761747304776697967477384865594146554268459592494491562562699047667869146859351262088157579246125008151638333430279199017587872086756067560231380248951744619325880398739974404140790678814756,
  72920312694172367512089138531391251324006456198079847017877124458480774094540779487437522393015282003476045767731280174827772643410762634784357509711065629019662674726721247364081468723431473197,
  72875409523420928365419071993571643484731787347248782793212372610976679438222796483127378688962750963873048552741112305114296341519005607191678189818480038832572692902765998974698941772168429613,
  72804121388770581660098813315381700260533423126993826044382735243531990159300429965861422923133656943650745079811545986675289446787883337233996764211827361044207537206952530533350762788979474477]
  (by decide +kernel) (by decide +kernel) (by decide +kernel)
theorem six_23_0 : ∀ l, Six 4 0 l := six_of [0,
  214193973449495720792142564021327610586992378011267949058381375141545098701867932517344162634171290948302236723081146787716077762303616531303460891676114944,
  214212181684752143081305869244083332964942031923494132340859876830839873798988073597058158234792602992070963427531218963688107858605898145314671944859123712,
  214230389920008565370463740034238578545766698107142571503214574564806322101368806241522730689192873880784579901570730557675964037906895161978495177926377472,
  214248598155264987659620634844661493599132395141689507935529841431035267423503423904578910883230200268953480858345215257694392615558589418901328793771704329,
  214266806390521409948772583212350097119416600213070622483421353842227223368978671348360757661279536421388773910078748987444093089482004494664775194715881481,
  214285014625777832237924531580038700639700805284451737031312864819345851974975713825933027248380719130543089329434956959409772011902865381240776366567194633,
  214303222861034254527076479947727304159985010355832851579204371429059347319834586089496324893123053951228994373352921488798434293348410088819199174248497161,
  72669342259197269677474385899937379724857270388015934581788174387589046356395669992511742266752016997879296072092000834467336787669217626020549893049832599960583565297622991082675309252798578706,
  72812753936325896934655751105853115346028923016385420390405229270362124966019619947515124083932903668077273545854519669610134881166094689101211968830100595485188955300249734893074941022755094546,
  72871789422833215362820790892102124204050792958024938022786783013091843820348350367255913825510117010929318102995183451120955191963173289969420633703171552420415235532597321220779002092763217938,
  72908965071176267307506010958099262851920138086750407005538114453634453521055083151309440962783433966640400011740629971886323259992252457046157452480481060846541267158626415366214198493687316498,
  72927761747304776697967477384865594146553992608238141577273732491913083533683597435882145599857377976564850056701030259150160467602752241720808766623391394096329025442378026874081198707660816411,
  72927761747304776697967477384865594146554065441179167266430334362961371305704193866801812942119721093189279188005846428190092709781636811104877645225336144990479625063281800667635314603688198171,
  72927761747304776697967477384865594146554117065276879295152227431565342615608168738195862684632447770275453252604568141870120105891705407411640964242693911000866640363908890462643150221022855195,
  72927761747304776697967477384865594146554153481747392139730508681134658243802702144589859445176658619450590708133532419580305956052288141141600370188622088191819208750409493618251429620056326171,
  72927761747304776697967477384865594146554189898217904984297235417559700529752676322967479994620197661009507879396821424463499494612183081028696200506873833540477362744590232352313846644636385316,
  72927761747304776697967477384865594146554226314688417828875539314295077736793244733110242223715980665526717179185614615755971874810645065538287662256310986693511736329780389255739629747923058724,
  72927761747304776697967477384865594146554262731158930673453843211030454943833813143253004452811763670043926478974407805788682297822117416056793297006785209956488139996255594222649804687050539044,
  72927761747304776697967477384865594146554299147629443518032147107765832150874381553395766681907546674561135778763200995582868367088506275116626984220667482637025855509193703320607075189005484068,
  72896921274990222278292972419446302756991260015314604530784529788049470811948551617340855490597036870992707825395217913018819257490973625180230081453985085566922220088932571745090616892550283309,
  72859745626647170333607317089782834687348288592979950748422503579871768897766244031109016105752194530988164256730151279129336425051050391596530228558536025627707000197984981473068138119577993261,
  72788666343953806876228803501214536312623562021729089851639994324181963423178494326649632868197402386558221773499531278196770597050979358593884276205101171220047383981539767376050503907876536365]
  (by decide +kernel) (by decide +kernel) (by decide +kernel)
theorem six_23_1 : ∀ l, Six 4 1 l := six_of [0,
  214193973449495720792142564021327610586992378011267949058381375141545098701867932517344162634171290948302236723081146787716077762303615352052927700802732032,
  214212181684752143081305869244083332964942031923494132340859876830839873798988073597058158234792602992070963427531218963688107858605896965788434014297653248,
  214230389920008565370463740034238578545766698107142571503214574564806322101368806241522730689192873880784579901570730557675964037906893982276757599385812992,
  214248598155264987659620634844661493599132395141689507935529841431035267423503423904578910883230200268953480858345215257694392615558589419703532477397073929,
  214266806390521409948772583212350097119416600213070622483421353842227223368978671348360757661279536421388773910078748987444093089482004495379299423095881737,
  214285014625777832237924531580038700639700805284451737031312864819345851974975713825933027248380719130543089329434956959409772011902865381880006038677094409,
  214303222861034254527076479947727304159985010355832851579204371429059347319834586089496324893123053951228994373352921488798434293348410089420851936967524361,
  72669342259197270057373882562625944069248333314716457337166095510733408245319280510329734954319076314915088223208434074901547922732064818145471103172713672887664055782630604661322364426391650322,
  72812753936325897029630625271525256432126688748060551079249709551148215438250522576969622255824668497336221583633627979718687664931806487132442271360820863716959077921501638288122184796758605842,
  72871789422833215410308227974938194747099675823862503367209023153484889056463801681983162911455999425558792121884737606175231583846029188985035784968531686536300296843223272918528296542342742034,
  72908965071176267354993448040935333393252821537555319921121844037547312770862862193591199115983434422305511523064739368414837912831229783131696071406609244061368228703721135335289979952634527762,
  72927761747304776697967477384865594146553992608238141577366767848622921215673910883291810180254644070732826768417061004645282296481267175906561221114753130488106628207980097649999710462119247899,
  72927761747304776697967477384865594146554065441179167266523369719671208987694507314211477522516987187357255899721877173685214538660151745290630099716697881382257227828883871443541300721683005467,
  72927761747304776697967477384865594146554117065276879295198745109920261456603325461900694974831080817359441608462583514617681020330962874504517191488374779196755441746709925850790396198322700315,
  72927761747304776697967477384865594146554153481747392139777026359489577084797858868294691735375291666534579063991547792327866870491545608234476597434302956387708010133210529006386149960892547099,
  72927761747304776697967477384865594146554189898217904984343753095914619370747833046672312284818830708093496235254836797211060409051459831378103535635862599078049166242567955716617201299950141476,
  72927761747304776697967477384865594146554226314688417828922056992649996577788401456815074513914613712610705535043629988503532789249912174259429443443645455111098311729183163246875937182073225252,
  72927761747304776697967477384865594146554262731158930673500360889385373784828969866957836743010396717127914834832423178536243212261379703963802301223293052487797691907850801604792238106231177252,
  72927761747304776697967477384865594146554299147629443518078664786120750991869538277100598972106179721645124134621216368330429281527768563023635988437175150943763543900295608010205012167107805220,
  72896921274990222278292972419446302756991260015314604530784529788049470811948551617340855490597036870992707825395217913018819257490973625180230081453985085566922220088932581190149460286127472685,
  72859745626647170333607317089782834687348288592979950748422503579871768897766244031109016105752194530988164256730151279129336425051050391596530228558536025627707000197984990918114455876691558445,
  72788666343953806876228803501214536312623562021729089851639994324181963423178494326649632868197402386558221773499531278196770597050979358593884276205101171220047383981539772098717813158881263661]
  (by decide +kernel) (by decide +kernel) (by decide +kernel)
theorem six_23_2 : ∀ l, Six 4 2 l := six_of [0,
  214193973449495720792142564021327610586992378011267949058381375141545098701867932517344162634171290948302236723081146787716077762303620074701378128367845376,
  214212181684752143081305869244083332964942031923494132340859876830839873798988073597058158234792602992070963427531218963688107858605901688430621623630954496,
  214230389920008565370463740034238578545766698107142571503214574564806322101368806241522730689192873880784579901570730557675964037906898704912682390487302144,
  214248598155264987659620634844661493599132395141689507935529841431035267423503423904578910883225379454820703887518415146845505607257731924369599571613974537,
  214266806390521409948772583212350097119416600213070622483421353842227223368978671348360757661274715607255996939251774652023342560687853752240098633756704777,
  214285014625777832237924531580038700639700805284451737031312864819345851974975713825933027248371077502277535387781356737711997995301148029753194052600201225,
  214303222861034254527076479947727304159985010355832851579204371429059347319834586089496324893103770694697886490045024147115432178171800032531049983701417993,
  72669342259197268537775895911871686691684081607914366315654411018155960689624838439057764204050839046771919618742701113164703382480676049645786262681189381179342093842600152710411816410451804178,
  72812753936325896649731128608836692087735625821360028323871788428003853549326912059151629568257609180300429432517194739284476529868959295007521061237939790789878587436494027071454311923381698578,
  72871789422833215220358479643593912574904144360512241989520062591912708112001996423074166567672469767040896046326520985958126016314605592922575179907091150072760051600719468490895650510866481170,
  72908965071176267165043699709591051227922087734335668258786925701895875771631746024464166503183432599645065477768301782300779301475320478789541595702096511202060382523342257822194815427892215826,
  72927761747304776697967477384865594146553992608238141576994626421783570487712657093653151858665579694060919921552938022664794980967207439163551403149306184920996217145571816909426277236089028635,
  72927761747304776697967477384865594146554065441179167266151228292831858259733253524572819200927922810685349052857754191704727223146092008547620281751250935815146816766475590702961604677420974107,
  72927761747304776697967477384865594146554117065276879295012674396500586092622698567081365814036548629023488185030522023627437362573933006133012282505651306413200236215505786661189295352754208795,
  72927761747304776697967477384865594146554153481747392139590955646069901720817231973475362574580759478198625640559486301337623212734515739862971688451579483604152804602006389816778786297092243483,
  72927761747304776697967477384865594146554189898217904984157682382494944006767206151852983124024298519757542811822775306220816751294429963006598626653139126294493960711363814165820333383095418916,
  72927761747304776697967477384865594146554226314688417828735986279230321213807774561995745353120081524274752111611568497513289131492882305887924534460921982327543106197979021696072806446986690596,
  72927761747304776697967477384865594146554262731158930673314290175965698420848342972138507582215864528791961411400361687545999554504349835592297392240569579704242486376646660053982844552912830500,
  72927761747304776697967477384865594146554299147629443517892594072701075627888911382281269811311647533309170711189154877340185623770738694652131079454451678160208338369091466459389355795557646372,
  72896921274990222468242720750790584922321993818534256192654271340151719401228100549419565201410708222813270312111501771657268724454308258593622284701689136467342052441301107187347999406124171309,
  72859745626647170523557065421127116859543820056330212125274145931055410704315228263331031225960329341994269926844091189890345532675839579987218743197720934565248820550070160727880760469571502125,
  72788666343953807256128300163903100657014624948429612605436314383259084718266776238503327689010938102738409825443441845213910641179072669561013759974832725486908627451312182493579912525960445997]
  (by decide +kernel) (by decide +kernel) (by decide +kernel)
theorem six_23_3 : ∀ l, Six 4 3 l := six_of [0,
  214193973449495720699107207311489928596678930601603368661115280973568386985837187022222333755656356762549782231719410395938474996701549299353064307981025280,
  214212181684752142988270512534245650974628584513829551943593782662863162082957328101936329356277668806318508936169482571910505093003830913082307803244134400,
  214230389920008565277428383324400896555453250697477991105948480396829610385338060746400901810677939695032125410208994165898361272304827929564368570100482048,
  214248598155264987566585278134823811608818947732024927538263747263058555707472678409457082004710445269068249396156678755067902841655661149021285751227154441,
  214266806390521409855737226502512415129103152803406042086155259674250511652947925853238928782759781421503542447890038260245739795085782976891784813369884681,
  214285014625777832144889174870201018649387357874787156634046770651369140258944968330811198369856143316525080896419620345934395229699077254404880232213381129,
  214303222861034254434041123237889622169671562946168271181938277261082635603803840594374496014588836508945431998683287755337829412569729257182736163314597897,
  72669342259197268537775895911871686691684081607914366315654411018155960689624838439057764204050839046771919618742701113164703382480676049645786262681189381179342093842600152710555931598527660050,
  72812753936325896649731128608836692087735625821360028323871788428003853549326912059151629568257609180300429432517194739284476529868959295007521061237939790789878587436494027071598427111457554450,
  72871789422833215220358479643593912574904144360512241989520062591912708112001996423074166567672469767040896046326520985958126016314605592922575179907091150072760051600719468491039765698942337042,
  72908965071176267165043699709591051227922087734335668258786925701895875771631746024464166503183432599645065477768301782300779301475320478789541595702096511202060382523342257822338930615968071698,
  72927761747304776697967477384865594146553992608238141576994626421783570487712657093653151858665579694060919921552938022664794980967207439163551403149306184920996217145571816909570392424164884507,
  72927761747304776697967477384865594146554065441179167266151228292831858259733253524572819200927922810685349052857754191704727223146092008547620281751250935815146816766475590703105719865496829979,
  72927761747304776697967477384865594146554117065276879295012674396500586092622698567081365814036548629023488185030522023627437362573933006133012282505651306413200236215505786661333410540830064667,
  72927761747304776697967477384865594146554153481747392139590955646069901720817231973475362574580759478198625640559486301337623212734515739862971688451579483604152804602006389816922901485168099355,
  72927761747304776697967477384865594146554189898217904984157682382494944006767206151852983124024298519757542811822775306220816751294391396493536410886523331611127956481010438213602128669288955940,
  72927761747304776697967477384865594146554226314688417828735986279230321213807774561995745353120081524274752111611568497513289131492863022631393426577614781884147558164775544490163644902580158500,
  72927761747304776697967477384865594146554262731158930673314290175965698420848342972138507582215864528791961411400361687545999554504340193964031838298915631033400985319058316066036379765518106660,
  72927761747304776697967477384865594146554299147629443517892594072701075627888911382281269811311647533309170711189154877340185623770729053023865525512798077938510564352489727856506832617392308260,
  72896921274990222468242720750790584922321993818534256192654271340151719401228100549419565201410708222813270312111501771657268724454308258593622284701689136467342052441301088298026183115619172397,
  72859745626647170523557065421127116859543820056330212125274145931055410704315228263331031225960329341994269926844091189890345532675839579987218743197720934565248820550070141838558944179066503213,
  72788666343953807256128300163903100657014624948429612605436314383259084718266776238503327689010938102738409825443441845213910641179072669561013759974832725486908627451312173048991061974745874477]
  (by decide +kernel) (by decide +kernel) (by decide +kernel)
theorem six_31_0 : ∀ l, Six 5 0 l := six_of [0,
  214189267950496870088198785996319967417416181999204945449380365063810405862938103426253928113499119566296567084099028065625254831311723339160503393481392128,
  214202770686754441673423947258886500121584524488489941826223984521763542767725912786295279013362713122839389388940666873756363522315118172006797455761866752,
  214216273423012013258644716612657545455014996561164265268233400002783518265718683425628622953425753534963742967679778723863442622626336315224766380110774272,
  214229776159269584843862912928952446672255760626214865845324222556610076224423891428875523402357151034030459101354331867865768419828362029065462013675700224,
  214243278895527156429081109245247347889496385206624390318911966736927485517212017307114083712743053662621116706115103043690072017556090953152191627190599680,
  214256781631784728014295667818903562597012936746804615597503554874267607174278816014143785839656868205789090272893003404419552358605832846339306261965701129,
  214270284368042299599509472226402976443515830395244543239760182055600967763058212994925829517760870288030801862581531301779311114888268920946274349418020873,
  214283889397756367939156714546080416152492230813748409727791479579419737094113648652420251239609291512642629213346324403745477392832078913807181913371181065,
  214297392134013939524370518953579829998995124462188337370048102458533115664458430734573563344866422896925947750831020050937222371102289698536762856674689033,
  214310894870271511109584323361079243845498018110628265012304725337646494234803210608168044477147963001921541574246943155110843168517964908340656142056161289,
  72715846628285581784662383345394696739679828392616522088002850173412571021747200865853677975263088092222936051145711088788777952721640453225518448688900064966951257106050661692209666035250364434,
  72805652969788460046344974793011596609277013209371313680749934507671340559397962616234547947231423097743705578375814880078144988725566504031355458187170178077698825701883884910776670516961869842,
  72858631749543258775656705371248721838892842433263505001954913305753037419843514724000728631033844188402217207653237706567677293717985647993569970045403908668192842009024618225934637989586010130,
  72886200207865072577333836938751088699223786389906507521793116502081965116139360833678259514698415816554238131226838314203116699565045469276304693899774209863325476058415043548465686586719207442,
  72913768666186886379010186038044042559408923374868873676763367150334643084044818711781195853323460431872160782937158757171058232246109664703801607633238770051846098008310854150920057133304119314,
  72927761747304776697967477384865594146553983197240143875865856969249540731680936084335015504281870451810508472187427737265823117113766974914617213185871821736167904956179778105812950481314512923,
  72927761747304776697967477384865594146554037208185174162206707794970742899696209895129735019627178793805824957838737365665193746147805403033478427202657867158883354290245269299939310636848119835,
  72927761747304776697967477384865594146554091219130204448547558620691945067711483580067623219178129279582867832941032963538913502664700270648329105159085876923676220116923851046836013877759574043,
  72927761747304776697967477384865594146554120543254400184802963189330160293639805178618190913156857932283085536377496314901910769432295730347510973423416017740845891924978973251767492198321356827,
  72927761747304776697967477384865594146554147548726915327973376557713610116817604433511871458318873914581492493379383543782896097067413068783706321471080828655640446776341590602232699881047195675,
  72927761747304776697967477384865594146554174554199430471132219730732996650381650307457889167753996956858998342968959123309802787289140380088343052445649972427715637518799925738795781143522181156,
  72927761747304776697967477384865594146554201559671945614302647339547995478074656094754769023038510196163895127081996772614064174671186767635540501215788459484467773919162248474094256005467602980,
  72927761747304776697967477384865594146554228565144460757473074948362994305767661882051648878323023435468791911195034419677963483914232183526636919919922530852368767290059552837755415877600149540,
  72927761747304776697967477384865594146554255775203888894152369433002349185185614682888656611299086017495695489127110230210017543018425162073937391122309034807151583600342222333913934636259475492,
  72927761747304776697967477384865594146554282780676404037322797041817348012878620470185536466583599256800592273240147876574245414609230383407585102254088312046530548817089727839157298645184806948,
  72923236621570135452620192422622052458886280192303394209160239546169657341925315422611057331152182374238330212967468616585636166316984798394807209589533639688282920160030250694389513508689543213,
  72895668163248321650944057181199838485472449530696090736576162656710414310521086674232750641046791847028630568844158355706113690404020712170012122971339916323047901037927920366552574196543651885,
  72868099704926507849267053928419915554115204481469855104656224475829778889183613748333734752686819395990179523875229207248776856434072272772241933422940881236946398786089438612338581377915027501,
  72824588880554958193565536044706690471097426103638631441628097627166174835859919449657918357677528385640788015136620290432849482211952195799157124622603964341059092715165812142772322983141703725,
  72753718449818578079103626615582478752643490788631630873235924965277080254484369138978540414831355089227170224891831065932460419106815609178350577480511642386251982133322362074709265523117391917]
  (by decide +kernel) (by decide +kernel) (by decide +kernel)
theorem six_31_1 : ∀ l, Six 5 1 l := six_of [0,
  214189267950496870088198785996319967417416181999204945449380365063810405862938103426253928113499119566296567084099028065625254831311722160010316031805358080,
  214202770686754441673423947258886500121584524488489941826223984521763542767725912786295279013362713122839389388940666873756363522315116992577668392165572608,
  214216273423012013258644716612657545455014996561164265268233400002783518265718683425628622953425753534963742967679778723863442622626335135656307203042705408,
  214229776159269584843862912928952446672255760626214865845324222556610076224423891428875523402357151034030459101354331867865768419828360849366679922390597632,
  214243278895527156429081109245247347889496385206624390318911966736927485517212017307114083712743053662621116706115103043690072017556089773388388816285335552,
  214256781631784728014295667818903562597012936746804615597503554874267607174278816014143785839656868205789090272893003404419552358605832847102103448851578889,
  214270284368042299599509472226402976443515830395244543239760182055600967763058212994925829517760870288030801862581531301779311114888268921644050816683737097,
  214283889397756367939156714546080416152492230813748409727791479579419737094113648652420251239609291512642629213346324403745477392832078914448733754038943753,
  214297392134013939524370518953579829998995124462188337370048102458533115664458430734573563344866422896925947750831020050937222371102289699150448674648096777,
  214310894870271511109584323361079243845498018110628265012304725337646494234803210608168044477147963001921541574246943155110843168517964908926475937335214089,
  72715846628285581974612131676738978911875359855966783465691810734984751966209006124762674319046617750740832126703927709005883520253064049287979053750340601430491502348554468481809109467967520786,
  72805652969788460141319848958683737695374778941046444369594414788457431031628865245689046119123187927002653616154923190186697772491278302062585760717890446309468948323135788305827503096918442002,
  72858631749543258823144142454084792381941725299101070346377153446146082655958966038727977716979726603031691226542791861621953685600841547009185121310764042784077903319650569923697232131815112722,
  72886200207865072624821274021587159242272669255744072866215356642475010352254812148405508600644298231183712150116392469257393091447901368291919845165134343979210537369040995246200414706253955090,
  72913768666186886426497623120880113100741606825673786592347096734247502333852597754062954006523460887537272294261268153699572885085086990789340226559366953266673059553405574119990983148903071762,
  72927761747304776697967477384865594146553983197240143875958892325959378413671249531744680084679136545978485183903458482760944945992281909100369667677233558127945507721781848881733080716889030683,
  72927761747304776697967477384865594146554037208185174162299743151680580581686523342539399600024444887973801669554768111160315575026320337219230881694019603550660957055847340075850152198191185947,
  72927761747304776697967477384865594146554091219130204448640593977401782749701797027477287799575395373750844544657063709034035331543215204834081559650447613315453822882525921822737566764871188507,
  72927761747304776697967477384865594146554120543254400184849480867685079134634961902323023203355490979367073892235511687649471683871553197440387200669096885936734693307780008639913541906970181659,
  72927761747304776697967477384865594146554147548726915328019894236068528957812761157216703748517506961665480849237398916530457011506670535876582548716761696851529248159142625990369460915464568859,
  72927761747304776697967477384865594146554174554199430471178737409087915491376807031162721457952630003942986698826974496057363701728436413694281495457946635306970443131954337079285573405590421540,
  72927761747304776697967477384865594146554201559671945614349165017902914319069812818459601313237143243247883482940012145361625089110453876356682282403123276351198076359551627850303019666892652580,
  72927761747304776697967477384865594146554228565144460757519592626717913146762818605756481168521656482552780267053049792425524398353499292247778701107256999269955342689462326828890949255564361764,
  72927761747304776697967477384865594146554255775203888894198887111357268026180771406593488901497719064579683844985125602957578457457687449980946395338816877338461135511937429716058760592742154276,
  72927761747304776697967477384865594146554282780676404037369314720172266853873777193890368756782232303884580629098163249321806329048492671314594106470595980353268237208191632528760865122821341220,
  72923236621570135452620192422622052458886280192303394209160239546169657341925315422611057331152182374238330212967468616585636166316984798394807209589533639688282920160030260139457223364033118253,
  72895668163248321650944057181199838485472449530696090736576162656710414310521086674232750641046791847028630568844158355706113690404020712170012122971339916323047901037927929811610995377655775277,
  72868099704926507849267053928419915554115204481469855104656224475829778889183613748333734752686819395990179523875229207248776856434072272772241933422940881236946398786089448057387713884795699245,
  72824588880554958193565536044706690471097426103638631441628097627166174835859919449657918357677528385640788015136620290432849482211952195799157124622603964341059092715165816865445683946145710125,
  72753718449818578079103626615582478752643490788631630873235924965277080254484369138978540414831355089227170224891831065932460419106815609178350577480511642386251982133322366797373337811889946669]
  (by decide +kernel) (by decide +kernel) (by decide +kernel)
theorem six_31_2 : ∀ l, Six 5 2 l := six_of [0,
  214189267950496870088198785996319967417416181999204945449380365063810405862938103426253928113499119566296567084099028065625254831311726882660384940486557696,
  214202770686754441673423947258886500121584524488489941826223984521763542767725912786295279013362713122839389388940666873756363522315121715223092963731046400,
  214216273423012013258644716612657545455014996561164265268233400002783518265718683425628622953425753534963742967679778723863442622626339858297087437492453376,
  214229776159269584843862912928952446672255760626214865845324222556610076224423891428875523402357151034030459101354331867865768419828365572002815819724619776,
  214243278895527156429081109245247347889496385206624390318911966736927485517212017307114083712743053662621116706115103043690072017556094496019880376503631872,
  214256781631784728014295667818903562597012936746804615597503554874267607174278816014143785839652047391656313302066203293570665350304975351765355793301372937,
  214270284368042299599509472226402976443515830395244543239760182055600967763058212994925829517756049473898024891754556966358560586094118178503653758693539849,
  214283889397756367939156714546080416152492230813748409727791479579419737094113648652420251239599649884377075271692724182047703376230361562322308796055027721,
  214297392134013939524370518953579829998995124462188337370048102458533115664458430734573563344856781268660393809177071380095721313513985851421369248899923977,
  214310894870271511109584323361079243845498018110628265012304725337646494234803210608168044477109396488859325807631148471744838938164742433716601119544705033,
  72715846628285581214813138351361850223093234002565737954935968488696028188361785089126688943912499116669247824471061228137461250127369665038136633504578455576330521378539243687063499745766932498,
  72805652969788459761420352295995173350983716014345921614216493665313069142705254727871053431556128609966861465038489949752486637428431109937664550595009373382388457838128177089160228357867044882,
  72858631749543258633194394122740510209746193835750808968688192884573901711497160779818981373196196944513795150984575241404848118069417950946724516249323506320537658077146765496066802715780448274,
  72886200207865072434871525690242877070077137792393811488526396080902829407793006889496512256860768572665816074558175849040287523916477772229459240103693807515670292126537190818565340953103564818,
  72913768666186886236547874789535830935410873022454134930012178398596065334621481584935921393723459064876826248964830567585514273729177686447185750854854220407365213373026696606895009383602716690,
  72927761747304776697967477384865594146553983197240143875586750899120027685709995742106021763090072169306578337039335500780457630478222172357359849711786612560835096659373568141160456731416854555,
  72927761747304776697967477384865594146554037208185174161927601724841229853725269552900741278435380511301894822690645129179828259512260600476221063728572657983550545993439059335272883875603283995,
  72927761747304776697967477384865594146554091219130204448268452550562432021740543237838629477986330997078937697792940727053548016029155468091071741685000667748343411820117641082155654105167560731,
  72927761747304776697967477384865594146554120543254400184663410154265403770654335007503694042560958791031120468803450196659228026114523329068882291686373413153179487776575869450311842927076179995,
  72927761747304776697967477384865594146554147548726915327833823522648853593832134262397374587722974773329527425805337425540213353749640667505077639734038224067974042627938486800763117598454841371,
  72927761747304776697967477384865594146554174554199430470992666695668240127396180136343392297158097815607033275394913005067120043971406545322776586475223162523415237600750195528491344316642361380,
  72927761747304776697967477384865594146554201559671945614163094304483238955089185923640272152442611054911930059507950654371381431353424007985177373420399803567642870828347486299504146240828866596,
  72927761747304776697967477384865594146554228565144460757333521913298237782782191710937152007727124294216826843620988301435280740596469423876273792124533526486400137158258185278087431492384849956,
  72927761747304776697967477384865594146554255775203888894012816397937592662200144511774159740703186876243730421553064111967334799700657581609441486356093404554905929980733288165250563308074827812,
  72927761747304776697967477384865594146554282780676404037183244006752591489893150299071039595987700115548627205666101758331562671291462802943089197487872507569713031676987490977948023501038288932,
  72923236621570135642569940753966334624217013995523045871029981098271905931204864354689767041965853726058892699683752475224085633280319431808199412837237690588702752512398786136660195714913009709,
  72895668163248321840893805512544120650803183333915742398445904208812662899800635606311460351860463198849193055560442214344563157367355345583404326219043967223467733390296455808809323391419940909,
  72868099704926508039216802259764197726310735944820116481507866827013420695732597980555749872894954206996285193989169118009785964058861461162930448062125790174488219138174617867155425852559196205,
  72824588880554958573465032707395254801758893710077934765460616088080509696409330761225002359702137183449889700285218753204870245017136396811693985609373802533676360185504939635162752586994417709,
  72753718449818578838902619940959607413966426001510237520993997243815587657573505209522372999277838779013350306905058736971623773595698945389176753945413055163264119839602683112141820718254915629]
  (by decide +kernel) (by decide +kernel) (by decide +kernel)
theorem six_31_3 : ∀ l, Six 5 3 l := six_of [0,
  214189267950496869995163429286482285427102734589540365052114270895833694146907357931132099234984185380544112592737291673847652065709656107312071120099737600,
  214202770686754441580388590549048818131271077078825361428957890353786831051695167291173450134847778937086934897578930481978760756713050939874779143344226304,
  214216273423012013165609359902819863464701549151499684870967305834806806549687937930506794074910819349211288476318042332085839857024269082948773617105633280,
  214229776159269584750827556219114764681942313216550285448058128388633364508393145933753694523842216848278004609992595476088165654226294796654501999337799680,
  214243278895527156336045752535409665899182937796959809921645872568950773801181271811992254834228119476868662214753366651912469251954023720671566556116811776,
  214256781631784727921260311109065880606699489337140035200237460706290895458248070519021956961137113205903858810704466901793062584702904576417041972914552841,
  214270284368042299506474115516565294453202382985579962842494087887624256047027467499804000639241115288145570400392820574580957820492047403155339938306719753,
  214283889397756367846121357836242734162178783404083829330525385411443025378082903157298422361084715698624620780330987790270100610628290786973994975668207625,
  214297392134013939431335162243742148008681677052523756972782008290556403948427685239451734466341847082907939317815334988318118547911915076073055428513103881,
  214310894870271511016548966651241561855184570700963684615038631169669782518772465113046215598594462303106871316269412079967236172562671658368287299157884937,
  72715846628285581214813138351361850223093234002565737954935968488696028188361785089126688943912499116669247824471061228137461250127369665038136633504578455576330521378539243687207614933842788370,
  72805652969788459761420352295995173350983716014345921614216493665313069142705254727871053431556128609966861465038489949752486637428431109937664550595009373382388457838128177089304343545942900754,
  72858631749543258633194394122740510209746193835750808968688192884573901711497160779818981373196196944513795150984575241404848118069417950946724516249323506320537658077146765496210917903856304146,
  72886200207865072434871525690242877070077137792393811488526396080902829407793006889496512256860768572665816074558175849040287523916477772229459240103693807515670292126537190818709456141179420690,
  72913768666186886236547874789535830935410873022454134930012178398596065334621481584935921393723459064876826248964830567585514273729177686447185750854854220407365213373026696607039124571678572562,
  72927761747304776697967477384865594146553983197240143875586750899120027685709995742106021763090072169306578337039335500780457630478222172357359849711786612560835096659373568141304571919492710427,
  72927761747304776697967477384865594146554037208185174161927601724841229853725269552900741278435380511301894822690645129179828259512260600476221063728572657983550545993439059335416999063679139867,
  72927761747304776697967477384865594146554091219130204448268452550562432021740543237838629477986330997078937697792940727053548016029155468091071741685000667748343411820117641082299769293243416603,
  72927761747304776697967477384865594146554120543254400184663410154265403770654335007503694042560958791031120468803450196659228026114523329068882291686373413153179487776575869450455958115152035867,
  72927761747304776697967477384865594146554147548726915327833823522648853593832134262397374587722974773329527425805337425540213353749640667505077639734038224067974042627938486800907232786530697243,
  72927761747304776697967477384865594146554174554199430470992666695668240127396180136343392297158097815607033275394913005067120043971329412296652154941991573156683229140043443623910819700953579556,
  72927761747304776697967477384865594146554201559671945614163094304483238955089185923640272152442611054911930059507950654371381431353404724728646265537091906225959868713170798323467101477963563044,
  72927761747304776697967477384865594146554228565144460757333521913298237782782191710937152007727124294216826843620988301435280740596450140619742684241226326043004589125054708072178269947978317860,
  72927761747304776697967477384865594146554255775203888894012816397937592662200144511774159740703186876243730421553064111967334799700647939981175932414439455884064428923144944177304098520680103972,
  72927761747304776697967477384865594146554282780676404037183244006752591489893150299071039595987700115548627205666101758331562671291453161314823643546218907348015257660385752375065500322872950820,
  72923236621570135642569940753966334624217013995523045871029981098271905931204864354689767041965853726058892699683752475224085633280319431808199412837237690588702752512398767247338379424408010797,
  72895668163248321840893805512544120650803183333915742398445904208812662899800635606311460351860463198849193055560442214344563157367355345583404326219043967223467733390296436919487507100914941997,
  72868099704926508039216802259764197726310735944820116481507866827013420695732597980555749872894954206996285193989169118009785964058861461162930448062125790174488219138174598977833609562054197293,
  72824588880554958573465032707395254801758893710077934765460616088080509696409330761225002359702137183449889700285218753204870245017136396811693985609373802533676360185504930190573902035779846189,
  72753718449818578838902619940959607413966426001510237520993997243815587657573505209522372999277838779013350306905058736971623773595698945389176753945413055163264119839602673667552970167040344109]
  (by decide +kernel) (by decide +kernel) (by decide +kernel)
theorem six_35_0 : ∀ l, Six 6 0 l := six_of [0,
  214187733548649418771695220991469812493614558934837832201422095097968793132499187188026668756674726347157847557091436871522041679747571225775831321426264064,
  214199701883059539040418813571365957260680299873163745891645644263093134974569931856870418123682542136127005383799890885791980347283937760416174191021129728,
  214211670217469659309138513323011556403682911343785365724938186434346918240646747368486850144963459174209365985012648993666191013103343374075910140452667392,
  214223638551879779577854641876091127937146332908970504537505741712282078305833781117055459446965424512170746139947186292179045197863125021062936363563745280,
  0,
  214247575220700020115286255722881234974397327441050119477783127250631224954656499890883301513676866776849029681526741739353747647677683990471581610247454729,
  0,
  214271511889520260652710727172539286793197911636011809389056239072085818725674521811360560761224870476257399963464866236250564535619891659633862286371717129,
  214283480223930380921422962897368312702598203733492654344692794037628422591981988589324696327328772378860643716586821656231188440442702016558602112208994313,
  0,
  214307416892750621458847434347026364521398787928454344255965898232420320966684101153166231367134760138970450568899715957415721326718304115198433288121221129,
  72629242683456449728941297695899290160646301228342158245745581586001219668406410258268785474922603596941015963141447763346515966990927017394425498469130993967086188392679556998066389635850829842,
  72772654360585076891147758544443486130254166216035171226650136071944340005707143555628207864669559392912847579403479278678387467628007079915092475249633641064745846112015579112520169694664065042,
  0,
  0,
  72891003802875691648838185620967410197614784200533697354795227665078672214736364322485708077761182085095878140637389935230503868765669529045266047298641762344295556233687617657694581418037870610,
  72915439481842753882142073022372661588100674779431818605885194175273839453780378906727893206554773984996251485962038334661400831290929563019503922468980581949343430477766311119513399268823007250,
  72927761747304776697967477384865594146553979923849535979723987222236134539680010396840361557994737399722041834095739903566923169117598186460289716338038927002198819569676039403806603272150581275,
  72927761747304776697967477384865594146554027797187176460798832272307200097693548571239042378796331360678006881116367678156894091603194933676345354528431774548351264032566425510707309314568093723,
  0,
  0,
  72927761747304776697967477384865594146554133636816831769370438051651280209860909692980571973553110753285677689761226825193097379548881583833795938251819035619229840211368922316353677753197789211,
  72927761747304776697967477384865594146554157573485652009907840075567094659502084427123573702700618491762616116209917504562751442674449750340155684588898551360018340360026680457637848793877577755,
  72927761747304776697967477384865594146554181510154472250433693508761102409029848767822237009266674609407229332816256700149996346344599045464423584663878968108113063371497707558450050492209823780,
  0,
  72927761747304776697967477384865594146554229383492112731508542451660418512667449936212160389089220806356819086471187075649596796315536590067854831797599456001044051275615612322124792652028182564,
  72927761747304776697967477384865594146554253320160932972045966923110076564486250520407122079000493904831613963298652262358724100146533778315282365516023325930915151931196326373183627559509688356,
  0,
  72927761747304776697967477384865594146554301193498573453120815866009392668123851688797045458823040101781203716953582635458946236148415761580257219466489878960837768845706700255788297256983068708,
  0,
  72883137045829315377454580237966661114295653080751682945876922088554196873734879239338228317169144152993807004736369477863769632923511658888523002178869621333577316244677461463025379242921689133,
  72858701366862253144149849984953199579002424106918712703893288467877017648839072816455926274885366422862912348337016538114406371128172656449566265450485418676552075374471924330659332712285863981,
  72812057763135951920076066649398362739570932237934385867342685355946360847445645914002425654977733605236350807137742951759938519053503612369209904239471430441905193341427876001021437408962412589,
  72741187332399571805614172316123850300417606694613252085727673993978084326625271206453984202547126347695325065779342990728648897018431436732736773070191235278948601059612003581360059258385727533]
  (by decide +kernel) (by decide +kernel) (by decide +kernel)
theorem six_35_1 : ∀ l, Six 6 1 l := six_of [0,
  214187733548649418771695220991469812493614558934837832201422095097968793132499187188026668756674726347157847557091436871522041679747570046683135223743381504,
  214199701883059539040418813571365957260680299873163745891645644263093134974569931856870418123682542136127005383799890885791980347283936581043480860255322112,
  214211670217469659309138513323011556403682911343785365724938186434346918240646747368486850144963459174209365985012648993666191013103342194554949865704521728,
  214223638551879779577854641876091127937146332908970504537505741712282078305833781117055459446965424512170746139947186292179045197863123841418478942783799296,
  0,
  214247575220700020115286255722881234974397327441050119477783127250631224954656499890883301513676866776849029681526741739353747647677683991278711105965260809,
  0,
  214271511889520260652710727172539286793197911636011809389056239072085818725674521811360560761224870476257399963464866236250564535619891660325727779126509577,
  214283480223930380921422962897368312702598203733492654344692794037628422591981988589324696327328772378860643716586821656231188440442702017200998377806888969,
  0,
  214307416892750621458847434347026364521398787928454344255965898232420320966684101153166231367134760138970450568899715957415721326718304115791430695306395657,
  72629242683456450488740291021276418821969236441220764895085254928606967665330874934776915926122610887582800144327198107802750412414564234763043401287181925404317573114195076496625668954496434194,
  72772654360585077081097506875787768295584900019254822888985054407595777004938259724755240477469561215573293624699916864792446078983916384257246950954146373924053692292394458987561513578603216914,
  0,
  0,
  72891003802875691696325622703803480740663667066371262699217467805471717450851815637212957163707064499725352159526944090284780260648525428060881198564001896460180617544313569355424454094224359442,
  72915439481842753929629510105208732129433358230236731521468923759186698703588157949009651359754774440661362997286147731189915484129906889105042541395108765164170392022861031088582636434561695762,
  72927761747304776697967477384865594146553979923849535979817022578945972221670323844250026138392003493890018545811770649062044997996113120646042170829400663393976422335278110179727296457678520347,
  72927761747304776697967477384865594146554027797187176460891867629017037779683862018648706959193597454845983592832398423652015920481709867862097809019793510940128866798168496286619769357027246107,
  0,
  0,
  72927761747304776697967477384865594146554133636816831769416955730006199050856066416685404263751743800369666045619242197940658293988139050926672165497499903815118641594169957704495223862219243547,
  72927761747304776697967477384865594146554157573485652009954357753922013500497241150828405992899251538846604472067932877310312357113707217433031911834579419555907141742827715845771161759830245403,
  72927761747304776697967477384865594146554181510154472250480211187116021250025005491527069299465307656491217688674272072897557260783895079070362027676174237190792960820705697358681683780058480676,
  0,
  72927761747304776697967477384865594146554229383492112731555060130015337353662606659916992679287853853440807442329202448397157710754803698788996612984933924418630626675018386313260044555015684132,
  72927761747304776697967477384865594146554253320160932972092484601464995405481407244111954369199126951915602319156667635106285014585796066222291369732531168462224703842791533755329297940922499108,
  0,
  72927761747304776697967477384865594146554301193498573453167333544364311509119008412501877749021673148865192072811598008206507150587678049487266223682997547267575457236808604945385530547643613220,
  0,
  72883137045829315377454580237966661114295653080751682945876922088554196873734879239338228317169144152993807004736369477863769632923511658888523002178869621333577316244677470908079578299383152685,
  72858701366862253144149849984953199579002424106918712703893288467877017648839072816455926274885366422862912348337016538114406371128172656449566265450485418676552075374471933775705298625678540845,
  72812057763135951920076066649398362739570932237934385867342685355946360847445645914002425654977733605236350807137742951759938519053503612369209904239471430441905193341427880723692687309641089069,
  72741187332399571805614172316123850300417606694613252085727673993978084326625271206453984202547126347695325065779342990728648897018431436732736773070191235278948601059612008304023076015995617325]
  (by decide +kernel) (by decide +kernel) (by decide +kernel)
theorem six_35_2 : ∀ l, Six 6 2 l := six_of [0,
  214187733548649418771695220991469812493614558934837832201422095097968793132499187188026668756674726347157847557091436871522041679747574769333731898005913600,
  214199701883059539040418813571365957260680299873163745891645644263093134974569931856870418123682542136127005383799890885791980347283941303689960962983460864,
  214211670217469659309138513323011556403682911343785365724938186434346918240646747368486850144963459174209365985012648993666191013103346917197313396898267136,
  214223638551879779577854641876091127937146332908970504537505741712282078305833781117055459446965424512170746139947186292179045197863128564056725902443151360,
  0,
  214247575220700020115286255722881234974397327441050119477783127250631224954656499890883301513672045962716252710699941628504860639376826495945130043903049737,
  0,
  214271511889520260652710727172539286793197911636011809389056239072085818725674521811360560761220049662124622992637891900829814006825740917184908508671246345,
  214283480223930380921422962897368312702598203733492654344692794037628422591981988589324696327319130750595089774933221434533414423840984665074714157311328265,
  0,
  214307416892750621458847434347026364521398787928454344255965898232420320966684101153166231367096193625908234802285315070624625260311427622974792668761030665,
  72629242683456447449544317719767904176677495589706338297726561558183975677633016228744394121322581725015663419584196729977812630720015365288571790014978199655392034228133000866083816544390873106,
  72772654360585076321298513550410639634261964806376216239645381064990029008013795048247110026269553924931509443514166520336211633560279166888629048136095442486822307570878941850988488618963632146,
  0,
  0,
  72891003802875691506375874372459198568468135603021001321528507243899536506390010378303960819923534841207456083968727470067674693117101831998420593502561359996640372301809764927788571100515926034,
  72915439481842753739679761773864449964102624427017079859134005423535261704357041779882618746954772618000916951989710145075856872773997584762888065690596032304862545842482153575486381194284630034,
  72927761747304776697967477384865594146553979923849535979444881152106621493709070054611367816802939117218111698947647667081557682482053383903032352863953717826866011272869829439154953947183054875,
  72927761747304776697967477384865594146554027797187176460519726202177687051722608229010048637604533078174076745968275441671528604967650131119087991054346565373018455735760215546043310274997387291,
  0,
  0,
  72927761747304776697967477384865594146554133636816831769230885016586523686875439521866075102957211612033712622187180706950414636231109182555167256514776431031563436062965818514891273082511556635,
  72927761747304776697967477384865594146554157573485652009768287040502338136516614256009076832104719350510651048635871386320068699356677349061527002851855946772351936211623576656163094408588165147,
  72927761747304776697967477384865594146554181510154472250294140473696345886044378596707740138670775468155264265242210581907313603026865210698857118693450764407237755289501555807886258422459400228,
  0,
  72927761747304776697967477384865594146554229383492112731368989416595661989681979765097663518493321665104854018897140957406914052997773830417491704002210451635075421143814244762456386054347816996,
  72927761747304776697967477384865594146554253320160932971906413888045320041500780349292625208404594763579648895724606144116041356828766197850786460749807695678669498311587392204521522868720238628,
  0,
  72927761747304776697967477384865594146554301193498573452981262830944636145138381517682548588227140960529238649379536517216263492830648181115761314700274074484020251705604463394569522332372566052,
  0,
  72883137045829315567404328569310943286491184544101944322728564439737838680283863471560243437377278963999912674850309388624778740548300847279211516818054530271119136596762640717849823541937045549,
  72858701366862253334099598316297481751197955570268974080744930819060659455388057048677941395093501233869018018450956448875415478752961844840254780089670327614093895726557103585471427296698040365,
  72812057763135952299975563312086927083961995164634908621139005415023482142533927825856120475791269321416538859081653518777078563181596923336339388009202984708766436811200291118556757001557245997,
  72741187332399572565413165641500978989199732548014297593413349468842164598792148477571038424571463874223677881383194870258050814153132992852748195101016080204448690764758899869087144321239482413]
  (by decide +kernel) (by decide +kernel) (by decide +kernel)
theorem six_35_3 : ∀ l, Six 6 3 l := six_of [0,
  214187733548649418678659864281632130503301111525173251804156000929992081416468441692904839878159792161405393065729700479744438914145503993985418077619093504,
  214199701883059538947383456861528275270366852463499165494379550095116423258539186361748589245167607950374550892438154494014377581681870528341647142596640768,
  214211670217469659216103156613173874413369463934120785327672092266370206524616001873365021266448524988456911493650912601888588247501276141848999576511447040,
  214223638551879779484819285166253445946832885499305924140239647544305366589803035621933630568450490326418291648585449900401442432261057788708412082056331264,
  0,
  214247575220700020022250899013043552984083880031385539080517033082654513238625754395761472635157111776963798219338205236727257873774755720596816223516229641,
  0,
  214271511889520260559675370462701604802884464226347228991790144904109107009643776316238731882705115476372168501276155509052211241223670141836594688284426249,
  214283480223930380828387606187530630712284756323828073947426699869651710875951243094202867448804196564842635283571485042755811658238913889726400336924508169,
  0,
  214307416892750621365812077637188682531085340518789763858699804064443609250653355658044402488581259440155780310923578678847022494709356847626478848374210569,
  72629242683456447449544317719767904176677495589706338297726561558183975677633016228744394121322581725015663419584196729977812630720015365288571790014978199655392034228133000866227931732466728978,
  72772654360585076321298513550410639634261964806376216239645381064990029008013795048247110026269553924931509443514166520336211633560279166888629048136095442486822307570878941851132603807039488018,
  0,
  0,
  72891003802875691506375874372459198568468135603021001321528507243899536506390010378303960819923534841207456083968727470067674693117101831998420593502561359996640372301809764927932686288591781906,
  72915439481842753739679761773864449964102624427017079859134005423535261704357041779882618746954772618000916951989710145075856872773997584762888065690596032304862545842482153575630496382360485906,
  72927761747304776697967477384865594146553979923849535979444881152106621493709070054611367816802939117218111698947647667081557682482053383903032352863953717826866011272869829439299069135258910747,
  72927761747304776697967477384865594146554027797187176460519726202177687051722608229010048637604533078174076745968275441671528604967650131119087991054346565373018455735760215546187425463073243163,
  0,
  0,
  72927761747304776697967477384865594146554133636816831769230885016586523686875439521866075102957211612033712622187180706950414636231109182555167256514776431031563436062965818515035388270587412507,
  72927761747304776697967477384865594146554157573485652009768287040502338136516614256009076832104719350510651048635871386320068699356677349061527002851855946772351936211623576656307209596664021019,
  72927761747304776697967477384865594146554181510154472250294140473696345886044378596707740138670775468155264265242210581907313603026788077672732687160221962633655563156687646983817266680605704228,
  0,
  72927761747304776697967477384865594146554229383492112731368989416595661989681979765097663518493321665104854018897140957406914052997754547160960596118903251191679873110610767556547224509941284900,
  72927761747304776697967477384865594146554253320160932971906413888045320041500780349292625208404594763579648895724606144116041356828756556222520906808153747007827997253999048216575058081325514788,
  0,
  72927761747304776697967477384865594146554301193498573452981262830944636145138381517682548588227140960529238649379536517216263492830638539487495760758620474262322477689002724791686999154207227940,
  0,
  72883137045829315567404328569310943286491184544101944322728564439737838680283863471560243437377278963999912674850309388624778740548300847279211516818054530271119136596762621828528007251432046637,
  72858701366862253334099598316297481751197955570268974080744930819060659455388057048677941395093501233869018018450956448875415478752961844840254780089670327614093895726557084696149611006193041453,
  72812057763135952299975563312086927083961995164634908621139005415023482142533927825856120475791269321416538859081653518777078563181596923336339388009202984708766436811200281673967906450342674477,
  72741187332399572565413165641500978989199732548014297593413349468842164598792148477571038424571463874223677881383194870258050814153132992852748195101016080204448690764758890424498293770024910893]
  (by decide +kernel) (by decide +kernel) (by decide +kernel)
theorem six_39_0 : ∀ l, Six 7 0 l := six_of [0,
  214186506027171457718492368987589688554573245091935471136462035994425527922943410652616354773168812337863306856432808664578448019243913337578000861569744896,
  214197246840103616934014706621349522971956904789494118677389528925286833714840503568502022913892005912773533100634714843759450668006657233653582777016123392,
  0,
  214218728465967935365048025033802072949058775343766345024657513905949704945757049322770901784605643860699410691768914579968643481038599217170823041261764608,
  214229469278900094580562499376309380735500291885751013016379046552511953285951434022551919758939289610653398701246132522960670610789095462608945431550361600,
  0,
  214250950904764413011589706824756088436023050853160101388347284045964565101851349136078812433202867300793718565027704349877876041684671904289747315877478409,
  214261691717696572227100687603448803995741261709873680194687782940207011024744051279882710813512868967890455921621676292454648204434178902802092742882099209,
  0,
  214283173343560890658122649160834235115177683423300837807368779881284936715383243542003030143118383028524154594017194595595471726150669343622167261337354249,
  214293914156493049873633629939526950674895894280014416613709275353306942396339320198261346590482010272805283125735301993111716006570214132683117085356720137,
  0,
  0,
  72730048561360455561283935971077734213183648006644735507313439698794139834990515528414830248666049232335998200540140452387740510355345963559232066897626239608857179555093102086331328671550275602,
  0,
  72845334841615313245727839153355372603571864963616612813201785191347577056446959041069170053194637474231420143110699317529992660069041666919222009483340850149215887540181686820602768197098143762,
  72872833682618132552278257996931759312396662047291718421265502831134606233086829386561880904436805330177500713736607716561691533093743737745281797485534063829321774701134837331480935751745536018,
  0,
  72916692593584654509490988260619125859619488332854027302726564443978236731082049052937916221478259149839319513230698017779157780574544486756280658595786940872466429829857903845958405870462173202,
  72927761747304776697967477384865594146553977468806580057617584911976079895679316131219371098279387610655691855526974028292748208120471595119544093702164255951722005529798235377301842865277632539,
  0,
  72927761747304776697967477384865594146554063395310037331341665771077992435703615318129923237591275999031057866979244322210027567489330187331587846817895690075146561963786399843889227359714279451,
  72927761747304776697967477384865594146554101107497665801460616307703237975227719044530006865797026455657035570718696331909113052425383505713360759379327109570979629229122184341166926560443236379,
  0,
  72927761747304776697967477384865594146554144070749394438322641931198027640078430782849388922026392416840343420757175985418537947084380949088132977465305830794816626583029907829872828885053210651,
  0,
  0,
  72927761747304776697967477384865594146554208515626987393604121117576101236722854555119116864551187848712126116929294348372947330082274223248918964273402378544959789899927118709473388627440435236,
  72927761747304776697967477384865594146554229997252851712035143079133486667842290976832544022163868834522839467928301567628321780616514894973768265705857149862550514264782656935401825232849207332,
  0,
  72927761747304776697967477384865594146554272960504580348897187002248257530081163820259398337389230806144266169926316005169071643121664848382159973074140809692233364801827342550287432718892400676,
  72927761747304776697967477384865594146554294442130444667328208963805642961200600241972825495001911791954979520925323223867889268250714456250277443155275971092258454835213810369690264432657039396,
  0,
  72895041607377371337269599562076606349713044288386833839471979091040886059807354202678698216271669335046591940568628577049760906860544255664903143730017331701110741512425594677283552848540336173,
  72873112151894110358662896031602164074175354014563797718396457013404584884034035578668565940847594314991388684162275964120441115263885401477668956341583794602490037938952112895900847332917248045,
  0,
  72802032869200746901284382443033865699450630716703544717755817770904476237045438090851228746357591654374295507007080805947152266766707503608356063653312747918251846472904400876033894479925608493,
  72731162438464366786822488109759353260297303945860932975087605153990063405875381302062020027777688340403451275870396528881133777418050402296883035109596124859136835034294301040525742731734024237]
  (by decide +kernel) (by decide +kernel) (by decide +kernel)
theorem six_39_1 : ∀ l, Six 7 1 l := six_of [0,
  214186506027171457718492368987589688554573245091935471136462035994425527922943410652616354773168812337863306856432808664578448019243912158538503534485176320,
  214197246840103616934014706621349522971956904789494118677389528925286833714840503568502022913892005912773533100634714843759450668006656054333243791918497792,
  0,
  214218728465967935365048025033802072949058775343766345024657513905949704945757049322770901784605643860699410691768914579968643481038598037577031116289736704,
  214229469278900094580562499376309380735500291885751013016379046552511953285951434022551919758939289610653398701246132522960670610789094282911641083892989952,
  0,
  214250950904764413011589706824756088436023050853160101388347284045964565101851349136078812433202867300793718565027704349877876041684671905080621631690244105,
  214261691717696572227100687603448803995741261709873680194687782940207011024744051279882710813512868967890455921621676292454648204434178903541246031724281865,
  0,
  214283173343560890658122649160834235115177683423300837807368779881284936715383243542003030143118383028524154594017194595595471726150669344265196845632847881,
  214293914156493049873633629939526950674895894280014416613709275353306942396339320198261346590482010272805283125735301993111716006570214133303980515236249609,
  0,
  0,
  72730048561360455751233684302422016385379179469994996885002400260366320779452320787323826592449578890853894276098357072604846077886769559621692671959066776072397424797596908875927183298314371090,
  0,
  72845334841615313340702713319027513686237231865226438644369244359173295556062517125632686359594638385561643165758918110587021965746996319090299247335597216578869810630371126758361673522481201170,
  72872833682618132599765695079767829855445544913129283765687742971527651469202280701289129990382687744806974732626161871615967924976599636760896948750894197945206836011760789029229174670162395154,
  0,
  72916692593584654556978425343455196400952171783658940218310294027891095980889828095219674374678259605504431024554807414307672433413521812841819277521915124087293391374952623815026376398805663762,
  72927761747304776697967477384865594146553977468806580057710620268685917577669629578629035678676653704823668567243004773787870036998986529305296548193525992343499608295400306153222958263270637595,
  0,
  72927761747304776697967477384865594146554063395310037331434701127787830117693928765539587817988542093199034578695275067705149396367845121517340301309257426466924164729388470619795565321429975067,
  72927761747304776697967477384865594146554101107497665801507133986058156816222875768234839155995659502741023926576711704656673966864640972806236986625007977766868430611923219729319661299788939291,
  0,
  72927761747304776697967477384865594146554144070749394438369159609552946481073587506554221212225025463924331776615191358166098861523638416181009204710986698990705427965830943218010786188121604123,
  0,
  0,
  72927761747304776697967477384865594146554208515626987393650638795931020077718011278823949154749820895796114472787309721120508244521541331970060745460737195411690092340316498085679759751563444260,
  72927761747304776697967477384865594146554229997252851712081660757488405508837447700537376312362501881606827823786316940375882695055782003694910046893191618280137089664185430926536866029604175908,
  0,
  72927761747304776697967477384865594146554272960504580348943704680603176371076320543964230627587863853228254525784331377916632557560927136289168977290648477998971053192929247239894376896249462820,
  72927761747304776697967477384865594146554294442130444667374726642160561802195756965677657785200544839038967876783338596615450182689976744157286447371783639398996143226315715059289819891875446820,
  0,
  72895041607377371337269599562076606349713044288386833839471979091040886059807354202678698216271669335046591940568628577049760906860544255664903143730017331701110741512425604122341762923419926573,
  72873112151894110358662896031602164074175354014563797718396457013404584884034035578668565940847594314991388684162275964120441115263885401477668956341583794602490037938952122340951668689658183725,
  0,
  72802032869200746901284382443033865699450630716703544717755817770904476237045438090851228746357591654374295507007080805947152266766707503608356063653312747918251846472904405598703455530744021037,
  72731162438464366786822488109759353260297303945860932975087605153990063405875381302062020027777688340403451275870396528881133777418050402296883035109596124859136835034294305763187915064413782061]
  (by decide +kernel) (by decide +kernel) (by decide +kernel)
theorem six_39_2 : ∀ l, Six 7 2 l := six_of [0,
  214186506027171457718492368987589688554573245091935471136462035994425527922943410652616354773168812337863306856432808664578448019243916881189522421212774400,
  214197246840103616934014706621349522971956904789494118677389528925286833714840503568502022913892005912773533100634714843759450668006660776980568319576768512,
  0,
  214218728465967935365048025033802072949058775343766345024657513905949704945757049322770901784605643860699410691768914579968643481038602760216966925809352704,
  214229469278900094580562499376309380735500291885751013016379046552511953285951434022551919758939289610653398701246132522960670610789099005547882534343278592,
  0,
  214250950904764413011589706824756088436023050853160101388347284045964565101851349136078812433198046486660941594200904239028989033383814409745879485349101577,
  214261691717696572227100687603448803995741261709873680194687782940207011024744051279882710813508048153757678950794876181605761196133321408202809526313811977,
  0,
  214283173343560890658122649160834235115177683423300837807368779881284936715383243542003030143108741400258600652363594373897697709548951992139018178253553673,
  214293914156493049873633629939526950674895894280014416613709275353306942396339320198261346590472368644539729184081353322270214948981910285576097358139097097,
  0,
  0,
  72730048561360454991434690977044887696597053616593951374246558014077597001605099751687841217315460256782309973865490591736423807761075175371850251713304630218236443827581684081180975441788272658,
  0,
  72845334841615312960803216656338949355575764258787135319699407687870421557600284787378621133994634740240751075166042938358904743035177710405990295926571750860254118269613369370778544918012887058,
  72872833682618132409815946748423547683250013449779022387998782409955470524740475442380133646599158086289078657067945251398862357445176040698436343689453661481666590769256984601596352716825690130,
  0,
  72916692593584654367028677012110914235621437980439288555975375692239658981658711926092641761878257782843984979258369828193613822057612508499664801817402391227985545194573746301929910052296065042,
  72927761747304776697967477384865594146553977468806580057338478841846566849708375788990377357087589328151761720378881791807382721484926792562286730228079046776389197232992025412650826859007705115,
  0,
  72927761747304776697967477384865594146554063395310037331062559700948479389732674975900929496399477716527127731831152085724662080853785384774330483343810480899813753666980189879216045199028387867,
  72927761747304776697967477384865594146554101107497665801321063272638481452242248873415509995201127314405070503144650213666430309107611104434732077642284504983313225080719080539721304835243376667,
  0,
  72927761747304776697967477384865594146554144070749394438183088896133271117092960611734892051430493275588378353183129867175855203766608547809504295728263226207150222434626804028405041005437386779,
  0,
  0,
  72927761747304776697967477384865594146554208515626987393464568082511344713737384384004619993955288707460161049355248230130264586764511463598555836478013722628134886809112356534879690056848637988,
  72927761747304776697967477384865594146554229997252851711895590044068730144856820805718047151567969693270874400354255449385639037298752135323405137910468145496581884132981289375733101975820042276,
  0,
  72927761747304776697967477384865594146554272960504580348757633967183501007095693649144901466793331664892301102352269886926388899803897267917664068307925005215415847661725105689083224124326674468,
  72927761747304776697967477384865594146554294442130444667188655928740886438215130070858328624406012650703014453351277105625206524932946875785781538389060166615440937695111573508474972760883331108,
  0,
  72895041607377371527219347893420888515043778091606485501341720643143134649086903134757407927085340686867154427284912435688210373823878889078295346977721382601530573864794130119539985384067825709,
  72873112151894110548612644362946446246370885477914059095248099364588226690583019810890581061055729125997494354276215874881450222888674589868357470980768703540031858291037292150720225082351812653,
  0,
  72802032869200747281183879105722430043841693643404067471552137829981597532133720002704923567171127370554483558950991372964292310894800814575485547423044302185113089942676815993566680797730045997,
  72731162438464367546621481435136481949079429799261978482773280628854143678042258573179074249802025866931804091474248408410535694552751958416894457140420969784636924739441197328251561157192581165]
  (by decide +kernel) (by decide +kernel) (by decide +kernel)
theorem six_39_3 : ∀ l, Six 7 3 l := six_of [0,
  214186506027171457625457012277752006564259797682270890739195941826448816206912665157494525894653878152110852365071072272800845253641846105841208600825954304,
  214197246840103616840979349911511840981643457379829538280123434757310121998809758073380194035377071727021078609272978451981847902404590001632254499189948416,
  0,
  214218728465967935272012668323964390958745327934101764627391419737972993229726303827649072906090709674946956200407178188191040715436531984868653105422532608,
  214229469278900094487527142666471698745186844476086432619112952384535241569920688527430090880424355424900944209884396131183067845187028230199568713956458496,
  0,
  214250950904764412918554350114918406445709603443495520991081189877987853385820603640956983554683112300908487102839167847251386267781743634397565664962281481,
  214261691717696572134065330893611122005427814300209099797421688772230299308713305784760881934993113968005224459433139789828158430531250632854495705926991881,
  0,
  214283173343560890565087292450996553124864236013636257410102685713308224999352498046881201264593807214506146161001857982120094943946881216790704357866733577,
  214293914156493049780598273229689268684582446870349836216443181185330230680308574703139517711957434458787274692719616930492612183379839510227783537752277001,
  0,
  0,
  72730048561360454991434690977044887696597053616593951374246558014077597001605099751687841217315460256782309973865490591736423807761075175371850251713304630218236443827581684081325090629864128530,
  0,
  72845334841615312960803216656338949355575764258787135319699407687870421557600284787378621133994634740240751075166042938358904743035177710405990295926571750860254118269613369370922660106088742930,
  72872833682618132409815946748423547683250013449779022387998782409955470524740475442380133646599158086289078657067945251398862357445176040698436343689453661481666590769256984601740467904901546002,
  0,
  72916692593584654367028677012110914235621437980439288555975375692239658981658711926092641761878257782843984979258369828193613822057612508499664801817402391227985545194573746302074025240371920914,
  72927761747304776697967477384865594146553977468806580057338478841846566849708375788990377357087589328151761720378881791807382721484926792562286730228079046776389197232992025412794942047083560987,
  0,
  72927761747304776697967477384865594146554063395310037331062559700948479389732674975900929496399477716527127731831152085724662080853785384774330483343810480899813753666980189879360160387104243739,
  72927761747304776697967477384865594146554101107497665801321063272638481452242248873415509995201127314405070503144650213666430309107611104434732077642284504983313225080719080539865420023319232539,
  0,
  72927761747304776697967477384865594146554144070749394438183088896133271117092960611734892051430493275588378353183129867175855203766608547809504295728263226207150222434626804028549156193513242651,
  0,
  0,
  72927761747304776697967477384865594146554208515626987393464568082511344713737384384004619993955288707460161049355248230130264586764492180342024728594705825286451884693935668558842645293983334436,
  72927761747304776697967477384865594146554229997252851711895590044068730144856820805718047151567969693270874400354255449385639037298732852066874030027160945053186336099777812169823940431413510180,
  0,
  72927761747304776697967477384865594146554272960504580348757633967183501007095693649144901466793331664892301102352269886926388899803887626289398514366271404993718073645123367086200700946161336356,
  72927761747304776697967477384865594146554294442130444667188655928740886438215130070858328624406012650703014453351277105625206524932937234157515984447406566393743163678509834905592449582717992996,
  0,
  72895041607377371527219347893420888515043778091606485501341720643143134649086903134757407927085340686867154427284912435688210373823878889078295346977721382601530573864794111230218169093562826797,
  72873112151894110548612644362946446246370885477914059095248099364588226690583019810890581061055729125997494354276215874881450222888674589868357470980768703540031858291037273261398408791846813741,
  0,
  72802032869200747281183879105722430043841693643404067471552137829981597532133720002704923567171127370554483558950991372964292310894800814575485547423044302185113089942676806548977830246515474477,
  72731162438464367546621481435136481949079429799261978482773280628854143678042258573179074249802025866931804091474248408410535694552751958416894457140420969784636924739441187883662710605978009645]
  (by decide +kernel) (by decide +kernel) (by decide +kernel)
theorem six_51_0 : ∀ l, Six 8 0 l := six_of [0,
  214183948690759038857652384176064402086299789178524411621700499800819095860658965894405563297810026578340182163279370573713968294377953284518132519484260352,
  214192132167278779212338774005373589941845779624484588018261208910299076548027617658295228883773590540627634277259302096459687570695650016917129113787957248,
  0,
  214208601413774756676133701265175531557302450732471835116984405564742793191354448400041331638389491694387759576146139763477634176632540164171813044319420416,
  214216784890294497030812072533729322016274117140873031884155090399276473824060009654199931043254897352825340410198348693885359468128891086463528184517230592,
  0,
  214233254136790474494600933192240527288817739684805197906702883936388802860445075367209698027759580498970476969247257776790210255606716448905983277762871296,
  214241437613310214849278627929388952268963572763841273345240910712338747886377272869172461852235885122358754305465906974259485163320491554413092134438567936,
  0,
  214257906859806192313063484852861847084221511217507942901024940472712053890010432429208956146165535047103986567393324274594261823274828817612028163842375689,
  214266090336325932667738517827103916082102052822623050562998653915944393640785824538773831102592202978256591684563470275669195260721891230430348898159558665,
  0,
  214282559582821910131522021687766079940336642802917204732720751568597964962185753447359697774697604327851176348877940474324038297566603997749297559594074121,
  214290743059341650486197054662008148938217184408032312394694462404424255004818954709270796020307986997871735967559794352153166085967439352051851823272689673,
  0,
  214307212305837627949980558522670312796451774388326466564416555461524663715618271185224948243016336439376911158563864440985517678771361934380075317349842953,
  0,
  0,
  72775995991896811897411532513100724187637669025161061084893790121822732745178263945521602571132186498769918077997017105095531093543046269624615173337257504737570390993734074529371645700793696274,
  72814424751981764437787698473580531519382313559212269027971180979230544826401186378404671410215604978743995420555391384794132502916807203235295853687260693698716044617512287830086298788824088594,
  0,
  72868865495435447232339882998579145900682359508077952907046367522572109064680609113199206004515389717034406792919195507886893436797576036197009375112556520475476925860692276110813587847612727314,
  72885782503951105701550850096819234655885438754199795362401628574864860151043969225955872683127740488854965086930268608026822163112817290165960228386829205299762860391000037104184913123126280210,
  0,
  72919198817068455764188818737112054402657115439698444696409304981387031285685389345357962251325229479525455567768017384014671679141774334229834130849399658718712428534041089298848419073740505106,
  72927761747304776697967477384865594146553972558720668213404780291455970607677927599977390178848688032522991898389442277744398286126218412438052848430414913850768377450042627324292322051531735067,
  0,
  72927761747304776697967477384865594146554038026532826136242175231724094447696441314598490901438556831469113486249378208057219803064728052542794346565634049125016579530043429629437745534437687323,
  72927761747304776697967477384865594146554071169612731084678606420234832141705813803083104114799367356832298886880332324934275108200095357670089080766169418753412201741868922974124358886815170587,
  0,
  72927761747304776697967477384865594146554116246929227321116760194444209044306607222802373689685527732156010362305055630568522302705684154956142138553112238826753875290715929806378599167540854811,
  72927761747304776697967477384865594146554132818469179795334971080706437274157574697114844656342226245064194035540105530257539315366505880718356924399780349442516572487732213954832022281234939931,
  0,
  0,
  72927761747304776697967477384865594146554181919328298237451427260409814512479742794902492764649773294851242920454333028199419496877273084602329993940761330539902261317128319431525402721134837796,
  0,
  72927761747304776697967477384865594146554214857821290192378994268131138840196211974863081072989217473094336725319477432153105501192383373955234621767109187100114275058859794512319068371003899940,
  72927761747304776697967477384865594146554231224774329673088344334079622978191973058073311288313164890854880230842530551585771749218471504785595133522372537585563440243116746161955890394491256868,
  0,
  72927761747304776697967477384865594146554264163267321628015911341800947305908442238033899596652609069097974035707674953701936806164054056582675395277118540134292725136590700199742483815154581540,
  72927761747304776697967477384865594146554280530220361108725261407749431443904203321244129811976556486858517541230728072710559758643329948297591843483683676090337444146925431210457954370409463844,
  0,
  72919477286344433570573446707882659644329848738447852826535138152152487837642920593286742782501447302346098443314289944647519465056126059364153334141598131956659963007016296558775385420669648941,
  72902769129785758539254576864596469357412375610201002237090243067631734485276721351845344788498180316158401689300162513811445237230087219227913887706329208705002375660287611511601482807247896621,
  0,
  72869143964711425038724521033249550662461068967531093149185439587824530138110784962986824583553647504115431432268363948263706910356950007919205896530991488188101323609602495754747386785207156781,
  72848398003651070113194925571389511629954831142117413846589779083602395837142743254605555013341340108999893716053602380539217376603585939949547848321435212482015567520899738909919785377469562925,
  0,
  72777109869000723122950044396183145154327961760827567425831186868229089120244822645681868469481001264898675108959599681346066409258364465094085084110943130212263075764458013746075559954084790317,
  72706657142178309694321358381796806027716224356134261622490687779032025808284889598046954242985238628693633498389997721671637625533758758231706959663848294479233607855386639454225991760676388909]
  (by decide +kernel) (by decide +kernel) (by decide +kernel)
theorem six_51_1 : ∀ l, Six 8 1 l := six_of [0,
  214183948690759038857652384176064402086299789178524411621700499800819095860658965894405563297810026578340182163279370573713968294377952105589465964479512576,
  214192132167278779212338774005373589941845779624484588018261208910299076548027617658295228883773590540627634277259302096459687570695648837705861682165710848,
  0,
  214208601413774756676133701265175531557302450732471835116984405564742793191354448400041331638389491694387759576146139763477634176632538984682518704451223552,
  214216784890294497030812072533729322016274117140873031884155090399276473824060009654199931043254897352825340410198348693885359468128889906889791351635836928,
  0,
  214233254136790474494600933192240527288817739684805197906702883936388802860445075367209698027759580498970476969247257776790210255606715269190453425363484672,
  214241437613310214849278627929388952268963572763841273345240910712338747886377272869172461852235885122358754305465906974259485163320490374658155785299689472,
  0,
  214257906859806192313063484852861847084221511217507942901024940472712053890010432429208956146165535047103986567393324274594261823274828818369406957426573321,
  214266090336325932667738517827103916082102052822623050562998653915944393640785824538773831102592202978256591684563470275669195260721891231148321195004264457,
  0,
  214282559582821910131522021687766079940336642802917204732720751568597964962185753447359697774697604327851176348877940474324038297566603998393593781284765705,
  214290743059341650486197054662008148938217184408032312394694462404424255004818954709270796020307986997871735967559794352153166085967439352679259546360741897,
  0,
  214307212305837627949980558522670312796451774388326466564416555461524663715618271185224948243016336439376911158563864440985517678771361934973494937000083465,
  0,
  0,
  72775995991896812087361280844445006352968402828380712747228708457474169744409380114648635183932188321430364123293454691209589704898955573966769649041770237596878237174112954404412145159802716178,
  72814424751981764532762572639252672605480079290887399716815661260016635298632089007859169582107369808002943458334499694902685286682519001266526156217980961930486167238764191225132698137897467922,
  0,
  72868865495435447279827320081415216443731242373915518251468607662965154300796060427926455090461272131663880811808749662941169828680431935212624526377916654591361987171318227808565837784447713298,
  72885782503951105749038287179655305198934321620037360706823868715257905387159420540683121769073622903484439105819822763081098554995673189181575379652189339415647921701625988801920063455126093842,
  0,
  72919198817068455811676255819948124943989798890503357611993034565299890535493168387639720404525229935190567079092126780543186331980751660315372749775527841933539390079135809267913856327293599762,
  72927761747304776697967477384865594146553972558720668213497815648165808289668241047387054759245954126690968610105473023239520115004733346623805302921776650242545980215644698100214281874454872091,
  0,
  72927761747304776697967477384865594146554038026532826136335210588433932129686754762008155481835822925637090197965408953552341631943242986728546801056995785516794182295645500405348446358292398107,
  72927761747304776697967477384865594146554071169612731084771641776944669823696127250492768695196633451000275598596363070429396937078610291855841535257531155145189804507470993750029359842391490587,
  0,
  72927761747304776697967477384865594146554116246929227321163277872799127885301763946507205979884160779239998718163071003316083217144941622049018365798793107022642676673516965194526126619817410587,
  72927761747304776697967477384865594146554132818469179795381488759061356115152731420819676946540859292148182391398120903005100229805763347811233151645461217638405373870533249342973849865233104923,
  0,
  0,
  72927761747304776697967477384865594146554181919328298237497944938764733353474899518607325054848406341935231276312348400946980411316569118208268436953056599622582158766336309231756895271495139364,
  0,
  72927761747304776697967477384865594146554214857821290192425511946486057681191368698567913363187850520178325081177492804900666415631650482676376402954444003966844577499249173888523258064057401380,
  72927761747304776697967477384865594146554231224774329673134862012434541819187129781778143578511797937938868586700545924333332663657738613506736914709707006003150015642519520153090508978781159460,
  0,
  72927761747304776697967477384865594146554264163267321628062429020155866146903598961738731886851242116181962391565690326449497720603316344489684399493626382665602277048185907581884424653125976100,
  72927761747304776697967477384865594146554280530220361108771779086104350284899360044948962102175189533942505897088743445458120673082592236204600847700191344397075132538027335900062294904231952420,
  0,
  72919477286344433570573446707882659644329848738447852826535138152152487837642920593286742782501447302346098443314289944647519465056126059364153334141598131956659963007016306003841828638618026029,
  72902769129785758539254576864596469357412375610201002237090243067631734485276721351845344788498180316158401689300162513811445237230087219227913887706329208705002375660287620956662296525662060589,
  0,
  72869143964711425038724521033249550662461068967531093149185439587824530138110784962986824583553647504115431432268363948263706910356950007919205896530991488188101323609602505199796871135808716845,
  72848398003651070113194925571389511629954831142117413846589779083602395837142743254605555013341340108999893716053602380539217376603585939949547848321435212482015567520899743632597157358891696173,
  0,
  72777109869000723122950044396183145154327961760827567425831186868229089120244822645681868469481001264898675108959599681346066409258364465094085084110943130212263075764458018468741602567694319661,
  72706657142178309694321358381796806027716224356134261622490687779032025808284889598046954242985238628693633498389997721671637625533758758231706959663848294479233607855386644176886404874751705133]
  (by decide +kernel) (by decide +kernel) (by decide +kernel)
theorem six_51_2 : ∀ l, Six 8 2 l := six_of [0,
  214183948690759038857652384176064402086299789178524411621700499800819095860658965894405563297810026578340182163279370573713968294377956828241364460509331456,
  214192132167278779212338774005373589941845779624484588018261208910299076548027617658295228883773590540627634277259302096459687570695653560354945428428423168,
  0,
  214208601413774756676133701265175531557302450732471835116984405564742793191354448400041331638389491694387759576146139763477634176632543707325937766807633920,
  214216784890294497030812072533729322016274117140873031884155090399276473824060009654199931043254897352825340410198348693885359468128894629530395664225140736,
  0,
  214233254136790474494600933192240527288817739684805197906702883936388802860445075367209698027759580498970476969247257776790210255606719991825393054046486528,
  214241437613310214849278627929388952268963572763841273345240910712338747886377272869172461852235885122358754305465906974259485163320495097290280664215584768,
  0,
  214257906859806192313063484852861847084221511217507942901024940472712053890010432429208956146160714232971209596566524163745374814973971323032272273783390217,
  214266090336325932667738517827103916082102052822623050562998653915944393640785824538773831102587382164123814713736495940248444731927740488009366696269709321,
  0,
  214282559582821910131522021687766079940336642802917204732720751568597964962185753447359697774687962699585622407224340252626264280964886646267626220138004489,
  214290743059341650486197054662008148938217184408032312394694462404424255004818954709270796020298345369606182025905845681311665028379135504952467104798343177,
  0,
  214307212305837627949980558522670312796451774388326466564416555461524663715618271185224948242977769926314695391949463554194421612364485442156927279198896137,
  0,
  0,
  72775995991896811327562287519067877691645467615502106097889035114868421747484915438140504732732181030788579942107704346753355259475318356598151746223719306159646852452597437267838979462674776082,
  72814424751981764152863075976564108261089016364186876961437740136872273409708478490041176894540310490967151307218066454468474151619671809141604946095099889003405676753756580008464684527032205330,
  0,
  72868865495435447089877571750070934271535710910565256873779647101392973356334255169017458746677742473145984736250533042724064261149008339150163921316476118127821741928814423380933684334180696082,
  72885782503951105559088538848311023026738790156687099329134908153685724442697615281774125425290093244966543030261606142863992987464249593119114774590748802952107676459122184374285060070719881234,
  0,
  72919198817068455621726507488603842778659065087283705949658116229648453536262052218512687791725228112530121033795689194429127720624842355973218274071015109074231543898756931754816967768318935058,
  72927761747304776697967477384865594146553972558720668213125674221326457561706987257748396437656889750019061763241350041259032799490673609880795484956329704675435569153236417359642572682657005595,
  0,
  72927761747304776697967477384865594146554038026532826135963069161594581401725500972369497160246758548965183351101285971571854316429183249985536983091548839949683771233237219664771107666960318491,
  72927761747304776697967477384865594146554071169612731084399500350105319095734873460854110373607569074328368751732240088448909621564550555112831717292084209578079393445062713009449171216920215579,
  0,
  72927761747304776697967477384865594146554116246929227320977207159379452521321137051687876819089628590904045294731009512325839559387911753677513456816069634239087471142312826004925166511737274395,
  72927761747304776697967477384865594146554132818469179795195418045641680751172104526000347785746327103812228967966059412014856572048733479439728242662737744854850168339329110153370039823013773339,
  0,
  0,
  72927761747304776697967477384865594146554181919328298237311874225345057989494272623787995894053874153599277852880286909956736753559539249836763527970333126839026953235132167680961399545151881252,
  0,
  72927761747304776697967477384865594146554214857821290192239441233066382317210741803748584202393318331842371657745431313910422757874620614304871493971720531183289371968045032337722097653807841316,
  72927761747304776697967477384865594146554231224774329672948791299014866455206502886958814417717265749602915163268484433343089005900708745135232005726983533219594810111315378602286533818764492836,
  0,
  72927761747304776697967477384865594146554264163267321627876358306736190782922972066919402726056709927846008968133628835459254062846286476118179490510902909882047071516981766031074784809203007524,
  72927761747304776697967477384865594146554280530220361108585708372684674920918733150129632941380657345606552473656681954467877015325562367833095938717467871613519927006823194349249840310541877284,
  0,
  72919477286344433760523195039226941809660582541667504488404879704254736426922469525365452493315118654166660930030573803285968932019460692777545537389302182857079795359384832001044167670800318509,
  72902769129785758729204325195940751522743109413420653898959984619733983074556270283924054499311851667978964176016446372449894704193421852641306090954033259605422208012656146953861820808077246509,
  0,
  72869143964711425228674269364593832834656600430881354526037081939008171944659769195208839703761782315121537102382303859024716017981739196309894411170176397125643143961687675009564759025432657965,
  72848398003651070493094422234078075960616298748556717170422297544516730697692154566172639015365948906808995401202200843311238139408770140962084709308205050674632834991238866402316231508949467181,
  0,
  72777109869000723882749037721560273815650896973706174073589259146767596523333958716225701053927484954684855190972827352385229763747247801304911260575844542989275213470738334783511070636477775917,
  72706657142178311213919345032551063350362094781891474918099867692818878296453475186544283992275472102433970374132483809245086163390040364839111767085012856425035486033549347581765175399032029229]
  (by decide +kernel) (by decide +kernel) (by decide +kernel)
theorem six_51_3 : ∀ l, Six 8 3 l := six_of [0,
  214183948690759038764617027466226720095986341768859831224434405632842384144628220399283734419295092392587727671917634181936365528775886052893050640122511360,
  214192132167278779119303417295535907951532332214820007620995114742322364831996872163173400005258656354875179785897565704682084805093582785006631608041603072,
  0,
  214208601413774756583098344555337849566989003322807254719718311396766081475323702904919502759874557508635305084784403371700031411030472931977623946420813824,
  214216784890294496937776715823891640025960669731208451486888996231299762108029264159078102164739963167072885918836612302107756702526823854182081843838320640,
  0,
  214233254136790474401565576482402845298504292275140617509436789768412091144414329872087869149244646313218022477885521385012607490004649216477079233659666432,
  214241437613310214756243271219551270278650125354176692947974816544362036170346527374050632973720950936606299814104170582481882397718424321941966843828764672,
  0,
  214257906859806192220028128143024165093908063807843362503758846304735342173979686934087127267645780047218755105204787771967772049371900547683958453396570121,
  214266090336325932574703161117266234091788605412958470165732559747967681924755079043652002224072447978371360222374759548470841966325669712661052875882889225,
  0,
  214282559582821910038486664977928397950023195393252624335454657400621253246155007952237868896173028513833167915862603860848661515362815870919312399751184393,
  214290743059341650393161697952170466947903736998367731997428368236447543288788209214148967141783411183853727534544109289534062262777064729604153284411523081,
  0,
  214307212305837627856945201812832630806138326978661886167150461293547951999587525690103119364462835740562240900587727162416818846762414666808613458812076041,
  0,
  0,
  72775995991896811327562287519067877691645467615502106097889035114868421747484915438140504732732181030788579942107704346753355259475318356598151746223719306159646852452597437267983094650750631954,
  72814424751981764152863075976564108261089016364186876961437740136872273409708478490041176894540310490967151307218066454468474151619671809141604946095099889003405676753756580008608799715108061202,
  0,
  72868865495435447089877571750070934271535710910565256873779647101392973356334255169017458746677742473145984736250533042724064261149008339150163921316476118127821741928814423381077799522256551954,
  72885782503951105559088538848311023026738790156687099329134908153685724442697615281774125425290093244966543030261606142863992987464249593119114774590748802952107676459122184374429175258795737106,
  0,
  72919198817068455621726507488603842778659065087283705949658116229648453536262052218512687791725228112530121033795689194429127720624842355973218274071015109074231543898756931754961082956394790930,
  72927761747304776697967477384865594146553972558720668213125674221326457561706987257748396437656889750019061763241350041259032799490673609880795484956329704675435569153236417359786687870732861467,
  0,
  72927761747304776697967477384865594146554038026532826135963069161594581401725500972369497160246758548965183351101285971571854316429183249985536983091548839949683771233237219664915222855036174363,
  72927761747304776697967477384865594146554071169612731084399500350105319095734873460854110373607569074328368751732240088448909621564550555112831717292084209578079393445062713009593286404996071451,
  0,
  72927761747304776697967477384865594146554116246929227320977207159379452521321137051687876819089628590904045294731009512325839559387911753677513456816069634239087471142312826005069281699813130267,
  72927761747304776697967477384865594146554132818469179795195418045641680751172104526000347785746327103812228967966059412014856572048733479439728242662737744854850168339329110153514155011089629211,
  0,
  0,
  72927761747304776697967477384865594146554181919328298237311874225345057989494272623787995894053874153599277852880286909956736753559462116810639096437104325065444761102318258856892407803298185252,
  0,
  72927761747304776697967477384865594146554214857821290192239441233066382317210741803748584202393318331842371657745431313910422757874601331048340386088412633841606369852868344361685052890942537764,
  72927761747304776697967477384865594146554231224774329672948791299014866455206502886958814417717265749602915163268484433343089005900689461878700897843676332776199262078111901396377372274357960740,
  0,
  72927761747304776697967477384865594146554264163267321627876358306736190782922972066919402726056709927846008968133628835459254062846276834489913936569248961211205570459393422043128320021808283684,
  72927761747304776697967477384865594146554280530220361108585708372684674920918733150129632941380657345606552473656681954467877015325552726204830384775814271391822152990221455746367317132376539172,
  0,
  72919477286344433760523195039226941809660582541667504488404879704254736426922469525365452493315118654166660930030573803285968932019460692777545537389302182857079795359384813111722351380295319597,
  72902769129785758729204325195940751522743109413420653898959984619733983074556270283924054499311851667978964176016446372449894704193421852641306090954033259605422208012656128064540004517572247597,
  0,
  72869143964711425228674269364593832834656600430881354526037081939008171944659769195208839703761782315121537102382303859024716017981739196309894411170176397125643143961687656120242942734927659053,
  72848398003651070493094422234078075960616298748556717170422297544516730697692154566172639015365948906808995401202200843311238139408770140962084709308205050674632834991238856957727380957734895661,
  0,
  72777109869000723882749037721560273815650896973706174073589259146767596523333958716225701053927484954684855190972827352385229763747247801304911260575844542989275213470738325338922220085263204397,
  72706657142178311213919345032551063350362094781891474918099867692818878296453475186544283992275472102433970374132483809245086163390040364839111767085012856425035486033549338137176324847817457709]
  (by decide +kernel) (by decide +kernel) (by decide +kernel)
theorem six_all : ∀ j, j < 9 → ∀ t : Nat, t < 4 → ∀ l, Six j (t : Int) l
  | 0, _, 0, _ => six_7_0
  | 0, _, 1, _ => six_7_1
  | 0, _, 2, _ => six_7_2
  | 0, _, 3, _ => six_7_3
  | 1, _, 0, _ => six_11_0
  | 1, _, 1, _ => six_11_1
  | 1, _, 2, _ => six_11_2
  | 1, _, 3, _ => six_11_3
  | 2, _, 0, _ => six_15_0
  | 2, _, 1, _ => six_15_1
  | 2, _, 2, _ => six_15_2
  | 2, _, 3, _ => six_15_3
  | 3, _, 0, _ => six_19_0
  | 3, _, 1, _ => six_19_1
  | 3, _, 2, _ => six_19_2
  | 3, _, 3, _ => six_19_3
  | 4, _, 0, _ => six_23_0
  | 4, _, 1, _ => six_23_1
  | 4, _, 2, _ => six_23_2
  | 4, _, 3, _ => six_23_3
  | 5, _, 0, _ => six_31_0
  | 5, _, 1, _ => six_31_1
  | 5, _, 2, _ => six_31_2
  | 5, _, 3, _ => six_31_3
  | 6, _, 0, _ => six_35_0
  | 6, _, 1, _ => six_35_1
  | 6, _, 2, _ => six_35_2
  | 6, _, 3, _ => six_35_3
  | 7, _, 0, _ => six_39_0
  | 7, _, 1, _ => six_39_1
  | 7, _, 2, _ => six_39_2
  | 7, _, 3, _ => six_39_3
  | 8, _, 0, _ => six_51_0
  | 8, _, 1, _ => six_51_1
  | 8, _, 2, _ => six_51_2
  | 8, _, 3, _ => six_51_3
  | 0, _, t + 4, h => absurd h (by omega)
  | 1, _, t + 4, h => absurd h (by omega)
  | 2, _, t + 4, h => absurd h (by omega)
  | 3, _, t + 4, h => absurd h (by omega)
  | 4, _, t + 4, h => absurd h (by omega)
  | 5, _, t + 4, h => absurd h (by omega)
  | 6, _, t + 4, h => absurd h (by omega)
  | 7, _, t + 4, h => absurd h (by omega)
  | 8, _, t + 4, h => absurd h (by omega)
  | j + 9, h, _, _ => absurd h (by omega)
end

section
open PySem PySem.W PySem.Calls PyProof.Rows
set_option maxRecDepth 100000

theorem sumF_congr {ns : List Int} {f f' : Nat → Int} : ∀ {n : Nat}, (∀ i, i < n → f i = f' i) → sumF ns f n = sumF ns f' n
  | 0, _ => rfl
  | n + 1, h => by
    show (if ns.getD n 0 = 0 then sumF ns f n else _) = (if ns.getD n 0 = 0 then sumF ns f' n else _)
    rw [sumF_congr (n := n) fun i hi => h i (Nat.lt_succ_of_lt hi), h n (Nat.lt_succ_self n)]
theorem sumF_mul (a : Int) (ns : List Int) (f : Nat → Int) : ∀ n, sumF ns (fun i => a * f i) n = a * sumF ns f n
  | 0 => (Int.mul_zero a).symm
  | n + 1 => by
    show (if ns.getD n 0 = 0 then _ else _) = a * (if ns.getD n 0 = 0 then _ else _)
    rw [sumF_mul a ns f n]
    split
    · rfl
    · rw [Int.mul_add, Int.mul_left_comm]
theorem sumF_add (ns : List Int) (f f' : Nat → Int) : ∀ n, sumF ns (fun i => f i + f' i) n = sumF ns f n + sumF ns f' n
  | 0 => rfl
  | n + 1 => by
    show (if ns.getD n 0 = 0 then _ else _) = (if ns.getD n 0 = 0 then _ else _) + (if ns.getD n 0 = 0 then _ else _)
    rw [sumF_add ns f f' n]
    split
    · rfl
    · rw [Int.mul_add]; omega

theorem f_one : ∀ j < 9, sumF (sgT.getD j []) (fun i => (i : Int)) (sgT.getD j []).length = -(hfT.getD j 0 * szT.getD j 0) := by decide +kernel
theorem f_res : ∀ j < 9, ∀ r < (sgT.getD j []).length, sumF (sgT.getD j []) (fun i => ((i : Int) * (r : Int)) % (szT.getD j 0)) (sgT.getD j []).length = -(hfT.getD j 0 * (sgT.getD j []).getD r 0 * szT.getD j 0) := by decide +kernel
theorem f_neg : ∀ j < 9, ∀ r < (sgT.getD j []).length, (sgT.getD j []).getD ((-(r : Int)) % (szT.getD j 0)).toNat 0 = -(sgT.getD j []).getD r 0 := by decide +kernel

/-- the sums over the places, the factor moved up by P -/
theorem law_sums {j : Nat} (hj : j < 9) (w P : Int) (hP : 0 < P) :
    sumF (sgT.getD j []) (fun i => ((i : Int) * w * P).fdiv (szT.getD j 0 * P)) (sgT.getD j []).length = hfT.getD j 0 * ((sgT.getD j []).getD (w.fmod (szT.getD j 0)).toNat 0 - w) ∧
    sumF (sgT.getD j []) (fun i => ((i : Int) * w * P).fmod (szT.getD j 0 * P)) (sgT.getD j []).length = -(hfT.getD j 0) * (sgT.getD j []).getD (w.fmod (szT.getD j 0)).toNat 0 * szT.getD j 0 * P := by
  obtain ⟨z1, z2, _, _, z5, _, _, _⟩ := s_sz j hj
  have f1 := f_one j hj
  have f2 := f_res j hj
  generalize sgT.getD j [] = sg at *
  generalize szT.getD j 0 = D at *
  generalize hfT.getD j 0 = h at *
  have hDP : 0 < D * P := Int.mul_pos z1 hP
  have hm0 : 0 ≤ w % D := Int.emod_nonneg _ (by omega)
  have hm1 : w % D < D := Int.emod_lt_of_pos _ z1
  have er : w.fmod D = w % D := fm z1
  have hr : (((w % D).toNat : Nat) : Int) = w % D := Int.toNat_of_nonneg hm0
  have f3 := f2 (w % D).toNat (by omega)
  rw [hr] at f3
  rw [er]
  generalize sg.getD (w % D).toNat 0 = own at *
  have e1 : ∀ i : Nat, ((i : Int) * w * P).fdiv (D * P) = (i : Int) * w / D := fun i => by
    rw [fd hDP, Int.mul_ediv_mul_of_pos_left _ _ hP]
  have e2 : ∀ i : Nat, ((i : Int) * w * P).fmod (D * P) = P * ((i : Int) * (w % D) % D) := fun i => by
    rw [fm hDP, Int.mul_comm _ P, Int.mul_comm D P, Int.mul_emod_mul_of_pos _ _ hP]
    rw [Int.mul_emod (i : Int) w D, Int.mul_emod (i : Int) (w % D) D, Int.emod_emod_of_dvd _ (Int.dvd_refl D)]
  have e3 : ∀ i : Nat, w * (i : Int) = D * ((i : Int) * w / D) + (i : Int) * (w % D) % D := fun i => by
    have a := Int.mul_ediv_add_emod ((i : Int) * w) D
    have b : (i : Int) * (w % D) % D = (i : Int) * w % D := by
      rw [Int.mul_emod (i : Int) w D, Int.mul_emod (i : Int) (w % D) D, Int.emod_emod_of_dvd _ (Int.dvd_refl D)]
    rw [b, Int.mul_comm w, a]
  rw [sumF_congr (f' := fun i => (i : Int) * w / D) fun i _ => e1 i, sumF_congr (f := fun i => ((i : Int) * w * P).fmod (D * P)) (f' := fun i => P * ((i : Int) * (w % D) % D)) fun i _ => e2 i, sumF_mul, f3]
  have t1 := sumF_mul w sg (fun i => (i : Int)) sg.length
  rw [sumF_congr (f' := fun i => D * ((i : Int) * w / D) + (i : Int) * (w % D) % D) fun i _ => e3 i, sumF_add, sumF_mul, f3, f1] at t1
  refine ⟨?_, ?_⟩
  · refine Int.eq_of_mul_eq_mul_left (show D ≠ 0 by omega) ?_
    have t2 : D * sumF sg (fun i => (i : Int) * w / D) sg.length = w * -(h * D) + h * own * D := by omega
    rw [t2, Int.mul_neg, Int.mul_sub, Int.mul_sub]
    have a1 : w * (h * D) = D * (h * w) := by rw [Int.mul_comm h D, Int.mul_left_comm, Int.mul_comm w h]
    have a2 : h * own * D = D * (h * own) := Int.mul_comm _ _
    rw [a1, a2]; omega
  · rw [Int.mul_comm P, Int.neg_mul, Int.neg_mul, Int.neg_mul, Int.neg_mul]
theorem own_neg {j : Nat} (hj : j < 9) (w : Int) : (sgT.getD j []).getD ((-w).fmod (szT.getD j 0)).toNat 0 = -(sgT.getD j []).getD (w.fmod (szT.getD j 0)).toNat 0 := by
  obtain ⟨z1, z2, _, _, z5, _, _, _⟩ := s_sz j hj
  have f2 := f_neg j hj
  generalize sgT.getD j [] = sg at *
  generalize szT.getD j 0 = D at *
  have hm0 : 0 ≤ w % D := Int.emod_nonneg _ (by omega)
  have hm1 : w % D < D := Int.emod_lt_of_pos _ z1
  have hr : (((w % D).toNat : Nat) : Int) = w % D := Int.toNat_of_nonneg hm0
  have f3 := f2 (w % D).toNat (by omega)
  rw [hr] at f3
  have e : (-(w % D)) % D = (-w) % D := by
    rw [show -w = 0 - w by omega, show -(w % D) = 0 - w % D by omega, Int.sub_emod 0 w D, Int.zero_emod]
  rw [fm z1, fm z1, ← f3, e]
theorem law_sums_neg {j : Nat} (hj : j < 9) (w P : Int) (hP : 0 < P) :
    sumF (sgT.getD j []) (fun i => (-((i : Int) * w * P)).fdiv (szT.getD j 0 * P)) (sgT.getD j []).length = -(hfT.getD j 0 * ((sgT.getD j []).getD (w.fmod (szT.getD j 0)).toNat 0 - w)) ∧
    sumF (sgT.getD j []) (fun i => -(-((i : Int) * w * P)).fmod (szT.getD j 0 * P)) (sgT.getD j []).length = -(hfT.getD j 0) * (sgT.getD j []).getD (w.fmod (szT.getD j 0)).toNat 0 * szT.getD j 0 * P := by
  obtain ⟨h1, h2⟩ := law_sums hj (-w) P hP
  rw [own_neg hj] at h1 h2
  have e : ∀ i : Nat, -((i : Int) * w * P) = (i : Int) * (-w) * P := fun i => by rw [Int.mul_neg, Int.neg_mul]
  rw [sumF_congr (f' := fun i => ((i : Int) * (-w) * P).fdiv (szT.getD j 0 * P)) fun i _ => by rw [e i], h1,
    sumF_congr (f := fun i => -(-((i : Int) * w * P)).fmod (szT.getD j 0 * P)) (f' := fun i => -1 * ((i : Int) * (-w) * P).fmod (szT.getD j 0 * P)) fun i _ => by rw [e i]; omega, sumF_mul, h2]
  generalize (sgT.getD j []).getD (w.fmod (szT.getD j 0)).toNat 0 = own
  generalize hfT.getD j 0 = h
  generalize szT.getD j 0 = D
  refine ⟨?_, ?_⟩
  · rw [← Int.mul_neg]; congr 1; omega
  · simp only [Int.neg_mul, Int.mul_neg, Int.one_mul, Int.neg_neg]
end

section
open PySem PySem.W PySem.Calls PyProof.Rows
set_option maxRecDepth 100000

theorem readL_bound {fs : List Int} (hf : FigsOk fs) : 0 ≤ readL fs ∧ readL fs < 4722366482869645213696 := by
  have hp := hf.pos
  have hl := hf.le
  obtain ⟨h1, h2, h3⟩ := valF_eq hf.pos hf.dig (fs.length - 1) (by omega)
  rw [List.take_of_length_le (by omega)] at h1
  rw [h1] at h2 h3
  refine ⟨h2, Int.lt_of_lt_of_le h3 ?_⟩
  have := Nat.pow_le_pow_right (n := 64) (by decide) (by omega : fs.length - 1 + 1 ≤ 12)
  have e : (64 : Nat) ^ 12 = 4722366482869645213696 := by decide
  rw [e] at this
  have h4 := Int.ofNat_le.mpr this
  rw [Int.natCast_pow] at h4
  exact h4
theorem whole_bound {fs : List Int} (sh : Int) (hf : FigsOk fs) : (wholeAt sh fs).natAbs < 4722366482869645213696 := by
  have := readL_bound hf
  unfold wholeAt
  rcases way_one sh with h | h <;> rw [h] <;> omega

noncomputable abbrev P80 : Int := 1208925819614629174706176
theorem div_bits {D : Int} (h7 : 7 ≤ D) (h1 : D < 100) : 83 ≤ Builtin.Int.intBits (D * P80) ∧ Builtin.Int.intBits (D * P80) < 1000 := by
  refine ⟨?_, ?_⟩
  · rcases Nat.lt_or_ge (Builtin.Int.intBits (D * P80)) 83 with h | h
    · have := intBits_le_iff.mp (Nat.le_of_lt_succ h)
      have e : (2 : Nat) ^ 82 = 4835703278458516698824704 := by decide
      rw [e] at this
      unfold P80 at this
      omega
    · exact h
  · have : Builtin.Int.intBits (D * P80) ≤ 87 := intBits_le_iff.mpr (by
      have e : (2 : Nat) ^ 87 = 154742504910672534362390528 := by decide
      rw [e]
      unfold P80
      omega)
    omega
theorem num_bound {w : Int} (hw : w.natAbs < 4722366482869645213696) {i n : Nat} (hi : i < 100) (hn : 83 ≤ n) : (numF w i).natAbs < 2 ^ (2 * n) ∧ (-(numF w i)).natAbs < 2 ^ (2 * n) := by
  have h1 : (2 : Nat) ^ 166 ≤ 2 ^ (2 * n) := Nat.pow_le_pow_right (by decide) (by omega)
  have h2 : (numF w i).natAbs < 2 ^ 166 := by
    unfold numF
    rw [Int.natAbs_mul, Int.natAbs_mul]
    have e1 : ((i : Int)).natAbs = i := Int.natAbs_natCast i
    have e2 : (1208925819614629174706176 : Int).natAbs = 1208925819614629174706176 := by decide
    rw [e1, e2]
    have a : i * w.natAbs ≤ 100 * 4722366482869645213696 := Nat.mul_le_mul (by omega) (by omega)
    have b : i * w.natAbs * 1208925819614629174706176 ≤ 100 * 4722366482869645213696 * 1208925819614629174706176 := Nat.mul_le_mul_right _ a
    exact Nat.lt_of_le_of_lt b (by decide)
  refine ⟨Nat.lt_of_lt_of_le h2 h1, ?_⟩
  rw [Int.natAbs_neg]
  exact Nat.lt_of_lt_of_le h2 h1

theorem sp_divx {prog : Program} {w : World} (a : Addr) (vs : List Value) (sh : Int) (fs : List Int) (t1 t2 : Tok) (hf : FigsOk fs) (hi : IntsAre vs (sgAt sh)) :
    Spec prog w 103 [.ref a, .int (wayAt sh * readL fs) t1, .int (sideAt sh * sizeAt sh * 1208925819614629174706176) t2] 17 180 tabs0 (fun g => g.IsList a vs.toArray)
      (IsSums (sideAt sh * hAt sh * (ownAt sh fs - wholeAt sh fs)) (-hAt sh * ownAt sh fs * sizeAt sh * 1208925819614629174706176)) := by
  have Z := szOk sh
  have hz := Z.pos
  have hz2 := Z.lt
  have hl7 := Z.len7
  have hll : ((sgAt sh).length : Int) = sizeAt sh := Z.len
  have h7 : 7 ≤ sizeAt sh := by have := Z.len; omega
  have hw := whole_bound sh hf
  obtain ⟨hb1, hb2⟩ := div_bits h7 hz2
  have hfb : (wholeAt sh fs).natAbs < 2 ^ 200 := Nat.lt_trans hw (by decide)
  have hD : TabA tabs0 := .inl rfl
  have hone : ∀ i, i < (sgAt sh).length → ((sgAt sh).getD i 0).natAbs ≤ 1 := fun i _ => Z.one i
  show Spec prog w 103 [.ref a, .int (wholeAt sh fs) t1, _] 17 180 tabs0 _ _
  rcases side_one sh with hs | hs
  · rw [hs, Int.one_mul, Int.one_mul]
    have hdp : 0 < sizeAt sh * P80 := Int.mul_pos hz (by decide)
    have := sp_div (prog := prog) (w := w) a vs (sgAt sh) (wholeAt sh fs) (sizeAt sh * P80) t1 t2 tabs0 hD hi (by omega) hone (by omega) hb2 hfb (fun i hil => (num_bound hw (by omega) hb1).1)
    obtain ⟨q1, q2⟩ := law_sums (jAt_lt sh) (wholeAt sh fs) P80 (by decide)
    have e1 : sumF (sgAt sh) (fun i => (numF (wholeAt sh fs) i).fdiv (sizeAt sh * P80)) (sgAt sh).length = hAt sh * (ownAt sh fs - wholeAt sh fs) := q1
    have e2 : sumF (sgAt sh) (fun i => (numF (wholeAt sh fs) i).fmod (sizeAt sh * P80)) (sgAt sh).length = -hAt sh * ownAt sh fs * sizeAt sh * P80 := q2
    rw [e1, e2] at this
    exact this
  · have ed : sideAt sh * sizeAt sh * 1208925819614629174706176 = -(sizeAt sh * P80) := by rw [hs]; unfold P80; omega
    have en : -(-(sizeAt sh * P80)) = sizeAt sh * P80 := Int.neg_neg _
    have hdp : 0 < sizeAt sh * P80 := Int.mul_pos hz (by decide)
    have := sp_div (prog := prog) (w := w) a vs (sgAt sh) (wholeAt sh fs) (-(sizeAt sh * P80)) t1 t2 tabs0 hD hi (by omega) hone (by omega) (by rw [intBits_neg]; exact hb2) hfb (fun i hil => by rw [intBits_neg]; exact (num_bound hw (by omega) hb1).1)
    obtain ⟨q1, q2⟩ := law_sums_neg (jAt_lt sh) (wholeAt sh fs) P80 (by decide)
    have e1 : sumF (sgAt sh) (fun i => (-(numF (wholeAt sh fs) i)).fdiv (sizeAt sh * P80)) (sgAt sh).length = -(hAt sh * (ownAt sh fs - wholeAt sh fs)) := q1
    have e2 : sumF (sgAt sh) (fun i => -(-(numF (wholeAt sh fs) i)).fmod (sizeAt sh * P80)) (sgAt sh).length = -hAt sh * ownAt sh fs * sizeAt sh * P80 := q2
    have c1 : ∀ i, (numF (wholeAt sh fs) i).fdiv (-(sizeAt sh * P80)) = (-(numF (wholeAt sh fs) i)).fdiv (sizeAt sh * P80) := fun i => by rw [← Int.neg_fdiv_neg, Int.neg_neg]
    have c2 : ∀ i, (numF (wholeAt sh fs) i).fmod (-(sizeAt sh * P80)) = -(-(numF (wholeAt sh fs) i)).fmod (sizeAt sh * P80) := fun i => by
      have := Int.neg_fmod_neg (-(numF (wholeAt sh fs) i)) (sizeAt sh * P80)
      rw [Int.neg_neg] at this
      exact this
    rw [sumF_congr (fun i _ => c1 i), sumF_congr (fun i _ => c2 i), e1, e2] at this
    rw [ed]
    have e3 : sideAt sh * hAt sh * (ownAt sh fs - wholeAt sh fs) = -(hAt sh * (ownAt sh fs - wholeAt sh fs)) := by rw [hs, Int.neg_mul, Int.one_mul, Int.neg_mul]
    rw [e3]
    exact this
end

section
open PySem PySem.W PySem.Calls PyProof.Rows
set_option maxRecDepth 100000

theorem fillP1 : (Mine.hd.heap_39 = Mine.hd.heap_39) ∧ (PySem.Challenge.rw_wf0046_01 = PySem.Challenge.rw_wf0046_01) := by
  k_fill
  exact ⟨rfl, rfl⟩

noncomputable def InvA0 (g : Heap) (L : Addr) (s s' : Shared) : Prop :=
  ∃ h' tk m da ws n ds, s' = { s with heap := h', toks := tk } ∧ Fr g L h' m ∧ News g L h' ((da, listOf ws.toArray n) :: tabs0) ∧ Knows m [("drawn", .ref da)] ∧ IntsAre ws ds ∧
    0 < ds.length ∧ ds.length ≤ 12 ∧ (∀ i, 0 ≤ ds.getD i 0 ∧ ds.getD i 0 < 1000000) ∧ @Ne Nat da 37 ∧ @Ne Nat da 30
theorem InvA0.intro {g h' : Heap} {L da : Addr} {s : Shared} {tk n : Nat} {m : Str → Option Value} {ws : List Value} {ds : List Int} {news : List (Addr × Obj)} (F : Fr g L h' m) (N : News g L h' news) (hk : Knows m [("drawn", .ref da)])
    (h1 : (da, listOf ws.toArray n) ∈ news) (h2 : (37, tabObj #[]) ∈ news) (h3 : (30, tabObj #[]) ∈ news) (hi : IntsAre ws ds) (hp : 0 < ds.length) (hl : ds.length ≤ 12) (hb : ∀ i, 0 ≤ ds.getD i 0 ∧ ds.getD i 0 < 1000000)
    (n1 : @Ne Nat da 37) (n2 : @Ne Nat da 30) : InvA0 g L s { s with heap := h', toks := tk } :=
  ⟨h', tk, m, da, ws, n, ds, rfl, F, fun q hq => N q (by
    rcases List.mem_cons.mp hq with rfl | hq
    · exact h1
    rcases List.mem_cons.mp hq with rfl | hq
    · exact h2
    · rw [List.mem_singleton.mp hq]; exact h3), hk, hi, hp, hl, hb, n1, n2⟩
theorem drawn_get (l : List Int) (i : Nat) : 0 ≤ (l.map (fun k' => k'.fmod (10 ^ Int.toNat 6))).getD i 0 ∧ (l.map (fun k' => k'.fmod (10 ^ Int.toNat 6))).getD i 0 < 1000000 := by
  have h : (10 : Int) ^ Int.toNat 6 = 1000000 := by decide
  have := fmod_get (M := 10 ^ Int.toNat 6) (by rw [h]; decide) l i
  rw [h] at this ⊢
  exact this
theorem four_get (i : Nat) : 0 ≤ ([4] : List Int).getD i 0 ∧ ([4] : List Int).getD i 0 < 1000000 := by
  cases i with
  | zero => decide
  | succ i => exact ⟨Int.le_refl _, (by decide : (0 : Int) < 1000000)⟩
theorem take_len (l : List Int) (f : Int → Int) : (List.map f (List.take 12 l)).length ≤ 12 := by
  rw [List.length_map, List.length_take]; exact Nat.min_le_left _ _
theorem drop_len {l : List Int} (h : l.length ≤ 12) : (List.drop 1 l).length ≤ 12 := by
  rw [List.length_drop]; exact Nat.le_trans (Nat.sub_le _ _) h

set_option maxHeartbeats 4000000 in
theorem piece1a {prog : Program} {w : World} {A : Around} {s : Shared} {p : Program} {loose : List Str} {mean : ExcName → Option Value} {mg mb : Str → Option Value} {g : Heap} {L fa : Addr} {cd : Value} {b : List Stmt} {Q : Flow → Shared → Prop}
    (hh : A.handled = none) (hd : A.depth + 20 < recursionLimit) (hu : A.units + 300 < cLine) (S : St w p loose mean mg mb g) {a : Addr} {vs : List Value} {xs : List Int}
    (F : Fr g L s.heap (fun y => List.lookup y ([("script", .ref a)] : List (Str × Value)).reverse)) (N : News g L s.heap tabs0) (hl : g.IsList a vs.toArray) (hi : IntsAre vs xs) (hlen : xs.length ≤ 63)
    (hb : ∀ s', InvA0 g L s s' → wpAny (model prog w) A (execs b (lawEnv w.params L fa cd)) Q (fun _ _ => False) s') :
    wpAny (model prog w) A (execs ((lawBody w.params).take 1 ++ b) (lawEnv w.params L fa cd)) Q (fun _ _ => False) s := by
  obtain ⟨_, dp, fr, gd, un⟩ := A
  cases hh
  dsimp only at hd hu
  have X := S.X
  have T := S.T
  have hlaw := law_is (P := w.params) (by k_is)
  unfold lawEnv at hb ⊢
  rw [hlaw.1, hlaw.2]
  rw [hlaw.2] at hb
  clear hlaw
  simp only [List.take, List.cons_append, List.nil_append]
  k_steps
  · rename IntsAre _ (List.map (fun k' : Int => Int.fmod k' (10 ^ Int.toNat 6)) _) => hI9
    refine hb _ (InvA0.intro (by assumption) (by assumption) ⟨rfl, trivial⟩ (.head _) (by k_mem) (by k_mem) hI9 (by assumption) (take_len _ _) (drawn_get _) ?n1 ?n2)
    case n1 => omega
    case n2 => omega
  · refine hb _ (InvA0.intro (by assumption) (by assumption) ⟨rfl, trivial⟩ (.head _) (by k_mem) (by k_mem) (.cons _ _ .nil) (by decide) (by decide) four_get ?n1 ?n2)
    case n1 => omega
    case n2 => omega

set_option maxHeartbeats 4000000 in
theorem piece1b {prog : Program} {w : World} {A : Around} {s : Shared} {p : Program} {loose : List Str} {mean : ExcName → Option Value} {mg mb : Str → Option Value} {g : Heap} {L fa : Addr} {cd : Value} {b : List Stmt} {Q : Flow → Shared → Prop}
    (hh : A.handled = none) (hd : A.depth + 20 < recursionLimit) (hu : A.units + 300 < cLine) (S : St w p loose mean mg mb g) {s₀ : Shared}
    (hA : InvA0 g L s₀ s) (hb : ∀ s', InvA g L s₀ s' → wpAny (model prog w) A (execs b (lawEnv w.params L fa cd)) Q (fun _ _ => False) s') :
    wpAny (model prog w) A (execs (((lawBody w.params).drop 1).take 3 ++ b) (lawEnv w.params L fa cd)) Q (fun _ _ => False) s := by
  obtain ⟨h', tk, m, da, ws, n, ds, rfl, F, N, hkn, hi, hp, hl12, hds, n1, n2⟩ := hA
  have hwl := IntsAre.length hi
  replace F := hkn.fr0 F
  dsimp only [kstB] at F
  obtain ⟨_, dp, fr, gd, un⟩ := A
  cases hh
  dsimp only at hd hu
  have X := S.X
  have T := S.T
  have hlaw := law_is (P := w.params) (by k_is)
  unfold lawEnv at hb ⊢
  rw [hlaw.1, hlaw.2]
  rw [hlaw.2] at hb
  clear hlaw
  simp only [List.drop, List.take, List.cons_append, List.nil_append]
  k_steps
  rotate_left
  · refine hb _ (InvA.intro (by assumption) (by assumption) ⟨rfl, rfl, rfl, trivial⟩ (.head _) (by k_mem) (by k_mem) (.cons _ _ (.cons _ _ .nil)) figsOk_two (hds _).1 (hds _).2 ?n1 ?n2)
    case n1 => omega
    case n2 => omega
  · rename IntsAre _ (List.map (fun k' : Int => Int.fmod k' 64) _) => hI8
    refine hb _ (InvA.intro (by assumption) (by assumption) ⟨rfl, rfl, rfl, trivial⟩ (.head _) (by k_mem) (by k_mem) hI8 (figsOk_map ?p1 (drop_len hl12)) (hds _).1 (hds _).2 ?n1 ?n2)
    case n1 => omega
    case n2 => omega
    case p1 =>
      have hx : 0 < (List.map (fun k' : Int => Int.fmod k' 64) (List.drop 1 ds)).length := by assumption
      rwa [List.length_map] at hx
end

section
open PySem PySem.W PySem.Calls PyProof.Rows
set_option maxRecDepth 100000
local macro_rules | `(tactic| walk_at "zz spare") => `(tactic| assumption)

theorem fillP2 : (Mine.hd.heap_39 = Mine.hd.heap_39) ∧ (PySem.Challenge.rw_wf0046_01 = PySem.Challenge.rw_wf0046_01) := by
  k_fill
  exact ⟨rfl, rfl⟩


set_option maxHeartbeats 4000000 in
theorem piece2 {prog : Program} {w : World} {A : Around} {s : Shared} {p : Program} {loose : List Str} {mean : ExcName → Option Value} {mg mb : Str → Option Value} {g : Heap} {L fa : Addr} {cd : Value} {b : List Stmt} {Q : Flow → Shared → Prop}
    (hh : A.handled = none) (hd : A.depth + 20 < recursionLimit) (hu : A.units + 300 < cLine) (S : St w p loose mean mg mb g) {s₀ : Shared}
    (hA : InvA g L s₀ s) (hb : ∀ s', InvB g L s₀ s' → wpAny (model prog w) A (execs b (lawEnv w.params L fa cd)) Q (fun _ _ => False) s') :
    wpAny (model prog w) A (execs (((lawBody w.params).drop 4).take 4 ++ b) (lawEnv w.params L fa cd)) Q (fun _ _ => False) s := by
  obtain ⟨h', tk, m, fi, us, fs, k, sh, t1, t2, rfl, F, N, hkn, hi, hf, hs0, hs1, n1, n2⟩ := hA
  have Z := szOk sh
  have z1 := Z.pos
  have z2 := Z.lt
  have z3 := Z.hKb
  have z4 := Z.hleft
  have z5 := Z.hend
  have z6 := Z.hlen
  have z7 := Z.hK
  have z8 := Z.hfe
  have z9 := Z.hKs
  replace F := hkn.fr0 F
  dsimp only [kstB] at F
  obtain ⟨_, dp, fr, gd, un⟩ := A
  cases hh
  dsimp only at hd hu
  have X := S.X
  have T := S.T
  have hlaw := law_is (P := w.params) (by k_is)
  unfold lawEnv at hb ⊢
  rw [hlaw.1, hlaw.2]
  rw [hlaw.2] at hb
  clear hlaw
  simp only [List.drop, List.take, List.cons_append, List.nil_append]
  k_steps
  repeat' (refine Stop.mk ?_; (first | (k_dflt (refine' use0 (sp_forms _ _ _ (by assumption) (by assumption) (by assumption) (by assumption) (by assumption)) ?a1 ?a2 ?a3 ?a4 ?ud ?uu ?up ?_; (case a1 => assumption); (case a2 => assumption); (case a3 => assumption); (case a4 => exact rfl); (case ud => dsimp only; omega); (case uu => dsimp only; omega); (case up => exact fun _ _ _ => trivial); intro vz hz tkz Dz gz Fz Nz newz hPz; obtain ⟨tvz, hvz⟩ := hPz; subst hvz; clear newz; try dsimp only)) | (k_dflt (refine' use0 (sp_signs _ _ _ (by assumption) (by assumption) (by assumption) (by assumption) (by assumption) (by assumption)) ?a1 ?a2 ?a3 ?a4 ?ud ?uu ?up ?_; (case a1 => assumption); (case a2 => assumption); (case a3 => assumption); (case a4 => exact rfl); (case ud => dsimp only; omega); (case uu => dsimp only; omega); (case up => exact fun _ _ _ => trivial); intro vz hz tkz Dz gz Fz Nz newz hPz; obtain ⟨dz, vsz, nz, hvz, hgetz, hiz, hnewz⟩ := hPz; subst hvz; obtain ⟨N2z, hnez⟩ := newz _ _ hgetz hnewz; clear newz Nz; (try simp only [AllNe, and_true] at hnez); try dsimp only))); k_steps)
  obtain ⟨q1, q2, q3⟩ := (by assumption : @Ne Nat fi _ ∧ @Ne Nat 37 _ ∧ @Ne Nat 30 _)
  refine hb _ (InvB.intro (by assumption) (by assumption) ⟨rfl, rfl, rfl, rfl, rfl, rfl, rfl, trivial⟩ hi hf hs0 hs1 n1 n2 (by assumption) Z.sgE Z.foE q1 (Ne.symm q2) (Ne.symm q3))
end

local macro_rules | `(tactic| walk_at "eval ListComp") => `(tactic| k_dflt (refine' evalC ?a1 ?a2 ?a3 ?_ ?a5; (case a1 => with_unfolding_all rfl); (case a2 => exact rfl); (case a3 => decide); (case a5 => exact fun _ => rfl)))

section
open PySem PySem.W PySem.Calls PyProof.Rows
set_option maxRecDepth 100000

theorem fillP3 : (Mine.hd.heap_39 = Mine.hd.heap_39) ∧ (PySem.Challenge.rw_wf0046_01 = PySem.Challenge.rw_wf0046_01) := by
  k_fill
  exact ⟨rfl, rfl⟩

theorem fig_at {fs : List Int} {i : Nat} {n : Int} (hf : FigsOk fs) (h : fs.reverse[i]? = some n) : 0 ≤ n ∧ n < 64 ∧ i < 12 ∧ fs.reverse.getD i 0 = n := by
  obtain ⟨hlt, hge⟩ := List.getElem?_eq_some_iff.mp h
  have hlt2 : i < fs.length := by simpa using hlt
  rw [List.getElem?_reverse hlt2] at h
  have := hf.dig (fs.length - 1 - i) (by omega)
  rw [List.getD_eq_getElem?_getD, h] at this
  have hle := hf.le
  refine ⟨this.1, this.2, by omega, ?_⟩
  rw [List.getD_eq_getElem?_getD, List.getElem?_reverse hlt2, h]; rfl
local macro_rules | `(tactic| walk_at "call type:enumerate") => `(tactic| k_dflt (refine' call_enumR ?a1 ?a2 ?_; (case a1 => assumption); (case a2 => assumption); intro h' e' F' N' he' hg' hL' hlt'; (try dsimp only)))
local macro_rules | `(tactic| walk_at "binaryOp Pow int int") => `(tactic| (refine' pow_int_small ?a1 ?a2 ?a3 ?_; (case a1 => exact Int.natCast_nonneg _); (case a2 => omega); (case a3 => decide); (try dsimp only)))

set_option maxHeartbeats 4000000 in
theorem piece3 {prog : Program} {w : World} {A : Around} {s : Shared} {p : Program} {loose : List Str} {mean : ExcName → Option Value} {mg mb : Str → Option Value} {g : Heap} {L fa : Addr} {cd : Value} {b : List Stmt} {Q : Flow → Shared → Prop}
    (hh : A.handled = none) (hd : A.depth + 20 < recursionLimit) (hu : A.units + 300 < cLine) (S : St w p loose mean mg mb g) {s₀ : Shared}
    (hA : InvB g L s₀ s) (hb : ∀ s', InvC g L s₀ s' → wpAny (model prog w) A (execs b (lawEnv w.params L fa cd)) Q (fun _ _ => False) s') :
    wpAny (model prog w) A (execs (((lawBody w.params).drop 8).take 2 ++ b) (lawEnv w.params L fa cd)) Q (fun _ _ => False) s := by
  obtain ⟨h', tk, m, fi, us, fs, k, sa, vs, n, sh, t1, t2, t3, t4, t5, rfl, F, N, hkn, hi, hf, hs0, hs1, n1, n2, hv, n3, n4, n5⟩ := hA
  have Z := szOk sh
  have z1 := Z.pos
  have z2 := Z.lt
  replace F := hkn.fr0 F
  dsimp only [kstB] at F
  obtain ⟨_, dp, fr, gd, un⟩ := A
  cases hh
  dsimp only at hd hu
  have X := S.X
  have T := S.T
  have hlaw := law_is (P := w.params) (by k_is)
  unfold lawEnv at hb ⊢
  rw [hlaw.1, hlaw.2]
  rw [hlaw.2] at hb
  clear hlaw
  simp only [List.drop, List.take, List.cons_append, List.nil_append]
  k_steps
  refine' compEnumR (figK fs) ?he ?hF ?hN ?hge ?heL ?hlt ?hR ?hm hi ?hh ?hsz ?c1 ?c2 ?c3 ?c4 ?c5 ?et ?ed
  case he => assumption
  case hF => assumption
  case hN => assumption
  case hge => assumption
  case heL => assumption
  case hlt => assumption
  case hR => exact allLt_ne (by simp only [AllLt, and_true]; assumption)
  case hm => exact .tail _ (.head _)
  case hh => exact rfl
  case hsz => exact Nat.le_trans (Nat.le_trans hf.le (by decide : 12 ≤ 1000)) (by decide)
  case c1 => decide
  case c2 => exact rfl
  case c3 => exact rfl
  case c4 => exact rfl
  case c5 => decide
  case et =>
    intro i ti n tn C oC D ys own m₂ h tk E' hn hC ha hb2 F N hCD
    simp only [List.cons_append, List.nil_append] at N
    obtain ⟨g1, g2, g3, g4⟩ := fig_at hf hn
    have hmm : IntMulOk n (64 ^ (i : Int).toNat) := .of_left (PySem.intBits_le_64 (by omega) (by omega))
    k_steps
    all_goals exact EltEnd.intro (by assumption) (by assumption) (by unfold figK; rw [g4])
  case ed =>
    intro D ys h tk hys F N off
    (try simp only [LCg.Off1, and_true] at off)
    have hw := way_one sh
    have hsum := sum_figK fs
    have hmm : IntMulOk (wayAt sh) (List.map (figK fs) (List.range fs.length)).sum := .of_left (PySem.intBits_le_64 (by omega) (by omega))
    have hvl := IntsAre.length hv
    have hm1 : 0 ≤ (wayAt sh * (List.map (figK fs) (List.range fs.length)).sum).fmod (sizeAt sh) := Int.fmod_nonneg_of_pos _ z1
    have hm2 : (wayAt sh * (List.map (figK fs) (List.range fs.length)).sum).fmod (sizeAt sh) < sizeAt sh := Int.fmod_lt_of_pos _ z1
    have hsz : ((sgAt sh).length : Int) = sizeAt sh := Z.len
    k_steps
    refine hb _ (InvC.intro (by assumption) (by assumption) ⟨rfl, rfl, rfl, rfl, rfl, rfl, rfl, rfl, rfl, trivial⟩ (fun q hq => .tail _ hq) hi hf hs0 hs1 n1 n2 hv n3 n4 n5 ?e1 ?e2)
    case e1 => unfold wholeAt; rw [sum_figK]
    case e2 => unfold ownAt wholeAt; rw [sum_figK]
end

section
open PySem PySem.W PySem.Calls PyProof.Rows
set_option maxRecDepth 100000

theorem fillP4 : (Mine.hd.heap_39 = Mine.hd.heap_39) ∧ (PySem.Challenge.rw_wf0046_01 = PySem.Challenge.rw_wf0046_01) := by
  k_fill
  exact ⟨rfl, rfl⟩

theorem use_sums {prog : Program} {w : World} {A : Around} {s : Shared} {p : Program} {loose : List Str} {mean : ExcName → Option Value} {mg mb : Str → Option Value} {g : Heap} {L : Addr} {m : Str → Option Value} {own D : List (Addr × Obj)} {Q E : Value → Shared → Prop}
    {f : Addr} {vs : List Value} {dd uu : Nat} {q r : Int} {Pre : Heap → Prop} (Sp : Spec prog w f vs dd uu D Pre (IsSums q r)) (F : Fr g L s.heap m) (S : St w p loose mean mg mb g) (N : News g L s.heap (own ++ D)) (hap : ∀ q ∈ own, q.1 ∉ D.map (·.1))
    (hh : A.handled = none) (hd : A.depth + dd < recursionLimit) (hu : A.units + uu < cLine) (hpre : ∀ g', g.StaysIn g' → (∀ q ∈ own, g'.get? q.1 = some q.2) → Pre g')
    (k : ∀ d t1 t2 c h' tk D', Fr g L h' m → News g L h' ((d, { cls := .type "tuple", data := .seq #[.int q t1, .int r t2, .bool true] c }) :: (own ++ D')) → AllNe d own → TabA D' → (∀ q ∈ own, q.1 ∉ D'.map (·.1)) → Q (.ref d) { s with heap := h', toks := tk }) :
    wpAny (model prog w) A (call (.ref f) vs) Q E s := by
  refine useD (own := own) Sp F S N hap hh hd hu hpre fun v h' tk D' g' F' N' hap' new hP => ?_
  obtain ⟨⟨d, t1, t2, c, rfl, hget, hnew⟩, hB⟩ := hP
  obtain ⟨N2, hne⟩ := new d _ hget hnew
  exact k d t1 t2 c h' tk D' F' N2 hne hB hap'

theorem p4_facts (sh : Int) (fs : List Int) (hf : FigsOk fs) : IntMulOk (wayAt sh) (readL fs) ∧ IntMulOk (sideAt sh) (sizeAt sh) ∧ IntMulOk (sideAt sh * sizeAt sh) 1208925819614629174706176 ∧ IntMulOk (sideAt sh) (hAt sh) ∧ IntMulOk (sideAt sh * hAt sh) (ownAt sh fs - wholeAt sh fs) ∧ IntMulOk (-hAt sh) (ownAt sh fs) ∧ IntMulOk (-hAt sh * ownAt sh fs) (sizeAt sh) ∧ IntMulOk (-hAt sh * ownAt sh fs * sizeAt sh) 1208925819614629174706176 := by
  have Z := szOk sh
  have z1 := Z.pos
  have z2 := Z.lt
  have hw1 := way_one sh
  have hw2 := side_one sh
  have hwb := whole_bound sh hf
  have hh0 : 0 ≤ hAt sh := Z.h0
  have hh5 : hAt sh < 5 := Z.h5
  have how : (ownAt sh fs).natAbs ≤ 1 := Z.one _
  clear Z
  have hx1 : (-hAt sh * ownAt sh fs).natAbs ≤ 5 := by rw [Int.natAbs_mul]; exact Nat.le_trans (Nat.mul_le_mul (by omega : _ ≤ 5) how) (by decide)
  exact ⟨.of_left (PySem.intBits_le_64 (by omega) (by omega)), .of_left (PySem.intBits_le_64 (by omega) (by omega)), mulOk_big (by rw [Int.natAbs_mul]; exact Nat.lt_of_le_of_lt (Nat.mul_le_mul (by omega : _ ≤ 1) (by omega : _ ≤ 100)) (by decide)) (by decide), .of_left (PySem.intBits_le_64 (by omega) (by omega)), mulOk_big (by rw [Int.natAbs_mul]; exact Nat.lt_of_le_of_lt (Nat.mul_le_mul (by omega : _ ≤ 1) (by omega : _ ≤ 100)) (by decide)) (Nat.lt_of_le_of_lt (by omega : _ ≤ 4722366482869645213697) (by decide)), .of_left (PySem.intBits_le_64 (by omega) (by omega)), .of_right (PySem.intBits_le_64 (by omega) (by omega)), mulOk_big (by rw [Int.natAbs_mul]; exact Nat.lt_of_le_of_lt (Nat.mul_le_mul hx1 (by omega : _ ≤ 100)) (by decide)) (by decide)⟩
set_option maxHeartbeats 4000000 in
theorem piece4 {prog : Program} {w : World} {A : Around} {s : Shared} {p : Program} {loose : List Str} {mean : ExcName → Option Value} {mg mb : Str → Option Value} {g : Heap} {L fa : Addr} {cd : Value} {b : List Stmt} {Q : Flow → Shared → Prop}
    (hh : A.handled = none) (hd : A.depth + 20 < recursionLimit) (hu : A.units + 300 < cLine) (S : St w p loose mean mg mb g) {s₀ : Shared}
    (hA : InvC g L s₀ s) (hb : ∀ s', InvD g L s₀ s' → wpAny (model prog w) A (execs b (lawEnv w.params L fa cd)) Q (fun _ _ => False) s') :
    wpAny (model prog w) A (execs (((lawBody w.params).drop 10).take 2 ++ b) (lawEnv w.params L fa cd)) Q (fun _ _ => False) s := by
  obtain ⟨h', tk, m, fi, us, fs, k, sa, vs, n, sh, t1, t2, t3, t4, t5, t6, t7, rfl, F, N, hkn, hi, hf, hs0, hs1, n1, n2, hv, n3, n4, n5⟩ := hA
  have Z := szOk sh
  have z1 := Z.pos
  have z2 := Z.lt
  have hp := hf.pos
  have hle := hf.le
  have hdig := hf.dig
  have hl20 : fs.length ≤ 20 := by omega
  obtain ⟨m1, m2, m3, m4, m5, m6, m7, m8⟩ := p4_facts sh fs hf
  have hap : ∀ q ∈ [(sa, listOf vs.toArray n), (fi, listOf us.toArray k)], q.1 ∉ tabs0.map (·.1) := by
    intro q hq hm
    simp only [tabs0, List.map_cons, List.map_nil, List.mem_cons, List.not_mem_nil, or_false] at hm
    rcases List.mem_cons.mp hq with rfl | hq
    · rcases hm with e | e
      · exact n4 e
      · exact n5 e
    · rw [List.mem_singleton.mp hq] at hm
      rcases hm with e | e
      · exact n1 e
      · exact n2 e
  have hi9 := hi
  replace F := hkn.fr0 F
  dsimp only [kstB] at F
  obtain ⟨_, dp, fr, gd, un⟩ := A
  cases hh
  dsimp only at hd hu
  have X := S.X
  have T := S.T
  have hlaw := law_is (P := w.params) (by k_is)
  unfold lawEnv at hb ⊢
  rw [hlaw.1, hlaw.2]
  rw [hlaw.2] at hb
  clear hlaw
  simp only [List.drop, List.take, List.cons_append, List.nil_append]
  k_steps
  repeat' (refine Stop.mk ?_; (first | (k_dflt (refine' use_sums (own := [(_, _), (_, _)]) (sp_divx _ _ _ _ _ _ (by assumption) (by assumption)) ?a1 ?a2 ?a3 ?ap ?a4 ?ud ?uu ?up ?_; (case a1 => assumption); (case a2 => assumption); (case a3 => assumption); (case ap => assumption); (case a4 => exact rfl); (case ud => dsimp only; omega); (case uu => dsimp only; omega); (case up => exact fun gz _ hgz => ⟨_, hgz _ (.head _), rfl, _, rfl⟩); intro dz t1z t2z cz hz tkz Dz Fz Nz hnez hDz hapz; (try simp only [AllNe, and_true] at hnez); try dsimp only)) | (k_dflt (refine' use0 (sp_read _ _ _ (by assumption) (by assumption) (by assumption) (by assumption)) ?a1 ?a2 ?a3 ?a4 ?ud ?uu ?up ?_; (case a1 => assumption); (case a2 => assumption); (case a3 => assumption); (case a4 => exact rfl); (case ud => dsimp only; omega); (case uu => dsimp only; omega); (case up => exact fun gz _ hgz => ⟨_, hgz _ (.tail _ (.head _)), rfl, _, rfl⟩); intro vz hz tkz Dz gz Fz Nz newz hPz; obtain ⟨tvz, hvz⟩ := hPz; subst hvz; clear newz; try dsimp only))); k_steps)
  · exact absurd rfl (by assumption)
  · exact absurd rfl (by assumption)
  · rename TabA _ => hTA
    rename ∀ q ∈ [(sa, listOf vs.toArray n), (fi, listOf us.toArray k)], _ => hapE
    rename News _ _ _ (_ :: (_ ++ _)) => NE
    exact hb _ (InvD.intro (by assumption) (fun q hq => NE q ((List.mem_cons.mp hq).elim (fun e => e ▸ .tail _ (.head _)) fun h => .tail _ (.tail _ (.tail _ h)))) ⟨rfl, rfl, rfl, trivial⟩ hs0 hs1 hv hTA (hapE _ (.head _)))
end

section
open PySem PySem.W PySem.Calls PyProof.Rows
set_option maxRecDepth 100000
local macro_rules | `(tactic| walk_at "zz spare") => `(tactic| assumption)

theorem fillP5 : (Mine.hd.heap_39 = Mine.hd.heap_39) ∧ (PySem.Challenge.rw_wf0046_01 = PySem.Challenge.rw_wf0046_01) := by
  k_fill
  exact ⟨rfl, rfl⟩

theorem six_at (sh : Int) (l : Bool) : Six (jAt sh) ((sh.fdiv 72).fmod 4) l := by
  have h1 := Int.fmod_nonneg_of_pos (sh.fdiv 72) (b := 4) (by decide)
  have h2 := Int.fmod_lt_of_pos (sh.fdiv 72) (b := 4) (by decide)
  generalize (sh.fdiv 72).fmod 4 = t at *
  obtain ⟨k, rfl⟩ := Int.eq_ofNat_of_zero_le h1
  exact six_all _ (jAt_lt sh) k (by omega) l
noncomputable def dueAt (sh : Int) : List Int := dueL ((sgAt sh).getD 2 0) ((sgAt sh).getD 3 0) (hAt sh)

set_option maxHeartbeats 4000000 in
theorem piece5 {prog : Program} {w : World} {A : Around} {s : Shared} {p : Program} {loose : List Str} {mean : ExcName → Option Value} {mg mb : Str → Option Value} {g : Heap} {L fa : Addr} {cd : Value} {b : List Stmt} {Q : Flow → Shared → Prop}
    (hh : A.handled = none) (hd : A.depth + 20 < recursionLimit) (hu : A.units + 300 < cLine) (S : St w p loose mean mg mb g) {s₀ : Shared}
    (hA : InvD g L s₀ s) (hb : ∀ s', InvE dueAt g L s₀ s' → wpAny (model prog w) A (execs b (lawEnv w.params L fa cd)) Q (fun _ _ => False) s') :
    wpAny (model prog w) A (execs (((lawBody w.params).drop 12).take 1 ++ b) (lawEnv w.params L fa cd)) Q (fun _ _ => False) s := by
  obtain ⟨h', tk, m, sa, vs, n, sh, t1, t5, D, rfl, F, N, hkn, hs0, hs1, hv, hTA, hap⟩ := hA
  have Z := szOk sh
  have z1 := Z.pos
  have z2 := Z.lt
  have hh0 : 0 ≤ hAt sh := Z.h0
  have hh5 : hAt sh < 5 := Z.h5
  have hll : ((sgAt sh).length : Int) = sizeAt sh := Z.len
  have hl100 : (sgAt sh).length < 100 := by omega
  have ht0 := Int.fmod_nonneg_of_pos (sh.fdiv 72) (b := 4) (by decide)
  have ht1 := Int.fmod_lt_of_pos (sh.fdiv 72) (b := 4) (by decide)
  replace F := hkn.fr0 F
  dsimp only [kstB] at F
  obtain ⟨_, dp, fr, gd, un⟩ := A
  cases hh
  dsimp only at hd hu
  have X := S.X
  have T := S.T
  have hlaw := law_is (P := w.params) (by k_is)
  unfold lawEnv at hb ⊢
  rw [hlaw.1, hlaw.2]
  rw [hlaw.2] at hb
  clear hlaw
  simp only [List.drop, List.take, List.cons_append, List.nil_append]
  k_steps
  repeat' (refine Stop.mk ?_; (first | (k_dflt (refine' use0 (sp_sixths _ _ _ _ _ _ (by assumption) (by assumption) (by assumption) (by assumption) ((six_at _ _).1)) ?a1 ?a2 ?a3 ?a4 ?ud ?uu ?up ?_; (case a1 => assumption); (case a2 => assumption); (case a3 => assumption); (case a4 => exact rfl); (case ud => dsimp only; omega); (case uu => dsimp only; omega); (case up => exact fun gz _ hgz => ⟨_, hgz _ (.head _), rfl, _, rfl⟩); intro vz hz tkz Dz gz Fz Nz newz hPz; obtain ⟨dz, vsz, nz, hvz, hgetz, hiz, hnewz⟩ := hPz; subst hvz; obtain ⟨N2z, hnez⟩ := newz _ _ hgetz hnewz; clear newz Nz; (try simp only [AllNe, and_true] at hnez); try dsimp only))); k_steps)
  rename IntsAre _ (sixthsTo _ _ _ _) => hsx
  obtain ⟨q1, _⟩ := (by assumption : @Ne Nat sa _ ∧ _)
  exact hb _ (InvE.intro (by assumption) (by assumption) ⟨rfl, rfl, rfl, trivial⟩ hv hsx (sixthsTo_len _ _ _ _) (six_at sh _).2 hTA hap q1)
end

section
open PySem PySem.W PySem.Calls PyProof.Rows
set_option maxRecDepth 100000

theorem fillP6 : (Mine.hd.heap_39 = Mine.hd.heap_39) ∧ (PySem.Challenge.rw_wf0046_01 = PySem.Challenge.rw_wf0046_01) := by
  k_fill
  exact ⟨rfl, rfl⟩

theorem map_getD (f : Int → Int) (l : List Int) : (List.range l.length).map (fun i => f (l.getD i 0)) = l.map f := by
  apply List.ext_getElem
  · simp
  · intro i h1 h2
    simp at h2
    simp [List.getD_eq_getElem?_getD, h2]

set_option maxHeartbeats 4000000 in
theorem piece6 {prog : Program} {w : World} {A : Around} {s : Shared} {p : Program} {loose : List Str} {mean : ExcName → Option Value} {mg mb : Str → Option Value} {g : Heap} {L fa : Addr} {cd : Value} {Q : Flow → Shared → Prop}
    (hh : A.handled = none) (hd : A.depth + 20 < recursionLimit) (hu : A.units + 300 < cLine) (S : St w p loose mean mg mb g) {s₀ : Shared}
    (hA : InvE dueAt g L s₀ s) (hb : ∀ h' tk m D, Fr g L h' m → News g L h' D → TabA D → Q (.ret (.bool true)) { s₀ with heap := h', toks := tk }) :
    wpAny (model prog w) A (execs ((lawBody w.params).drop 13) (lawEnv w.params L fa cd)) Q (fun _ _ => False) s := by
  obtain ⟨h', tk, m, sa, vs, n, da, ws, n2, ks, sh, t5, D, rfl, F, N, hkn, hv, hw, h6, hdue, hTA, hap, hsd⟩ := hA
  have Z := szOk sh
  have z1 := Z.pos
  have z2 := Z.lt
  have hh0 : 0 ≤ hAt sh := Z.h0
  have hh5 : hAt sh < 5 := Z.h5
  have hll : ((sgAt sh).length : Int) = sizeAt sh := Z.len
  have hl7 := Z.len7
  have hl4 : 4 ≤ (sgAt sh).length := Nat.le_trans (by decide) hl7
  have hl100 : (sgAt sh).length < 100 := by omega
  have ho2 : ((sgAt sh).getD 2 0).natAbs ≤ 1 := Z.one 2
  have ho3 : ((sgAt sh).getD 3 0).natAbs ≤ 1 := Z.one 3
  have hf1 : (hAt sh).natAbs < 1000 := by omega
  replace F := hkn.fr0 F
  dsimp only [kstB] at F
  obtain ⟨_, dp, fr, gd, un⟩ := A
  cases hh
  dsimp only at hd hu
  have X := S.X
  have T := S.T
  have hlaw := law_is (P := w.params) (by k_is)
  unfold lawEnv
  rw [hlaw.1, hlaw.2]
  clear hlaw
  simp only [List.drop]
  k_steps
  refine' compListE (news := (da, listOf ws.toArray n2) :: (sa, listOf vs.toArray n) :: D) (fun i => 2 * ks.getD i 0) ?hh ?hm hw ?hsz ?hF ?hN ?c1 ?c2 ?c3 ?et ?ed
  case hh => exact rfl
  case hm => exact .head _
  case hsz => rw [h6]; decide
  case hF => assumption
  case hN => assumption
  case c1 => decide
  case c2 => exact rfl
  case c3 => exact rfl
  case et =>
    intro i n t I oI C oC D m₂ h tk ys E' hn hC hx F N off ne
    have hmm : IntMulOk 2 n := .of_left (PySem.intBits_le_64 (by omega) (by omega))
    have hgd : ks.getD i 0 = n := by simp [List.getD_eq_getElem?_getD, hn]
    k_steps
    all_goals exact EltEnd.intro (by assumption) (by assumption) (by rw [hgd])
  case ed =>
    intro D1 ys h tk hys F N off
    (try simp only [LCg.Off1, and_true] at off)
    replace hys : IntsAre ys (dueAt sh) := by rw [← hdue, ← map_getD (fun k' => 2 * k') ks]; exact hys
    k_steps
    refine Stop.mk ?_
    refine' use0 (sp_due sa vs (sgAt sh) (hAt sh) t5 _ _ hv hl4 hl100 rfl rfl ho2 ho3 hf1) ?a1 ?a2 ?a3 ?a4 ?ud ?uu ?up ?_
    case a1 => assumption
    case a2 => assumption
    case a3 => assumption
    case a4 => exact rfl
    case ud => dsimp only; omega
    case uu => dsimp only; omega
    case up => exact fun g' _ hg' => ⟨_, hg' _ (.tail _ (.tail _ (.head _))), rfl, _, rfl⟩
    intro v' h' tk' D' g' F' N' new' hP'
    obtain ⟨d', vs', n', hv', hget', hi', hnew'⟩ := hP'
    subst hv'
    obtain ⟨N2', hne'⟩ := new' _ _ hget' hnew'
    clear new' N'
    replace hi' : IntsAre vs' (dueAt sh) := hi'
    (try simp only [AllNe, and_true] at hne')
    (try dsimp only)
    k_steps
    exact hb _ _ _ D F' (fun q hq => N2' q (.tail _ (.tail _ (.tail _ (.tail _ hq))))) hTA
end

end Mine
end

section
open PySem PySem.W PySem.Calls PyProof.Rows
set_option maxRecDepth 100000
set_option maxHeartbeats 4000000
namespace Mine
/-- the body's walk, whole -/
theorem law_walk {prog : Program} {w : World} {A : Around} {s : Shared} {p : Program} {loose : List Str} {mean : ExcName → Option Value} {mg mb : Str → Option Value} {g : Heap} {L fa : Addr} {cd : Value} {Q : Flow → Shared → Prop} {E : Value → Shared → Prop} {a : Addr} {vs : List Value} {xs : List Int}
    (hh : A.handled = none) (hd : A.depth + 20 < recursionLimit) (hu : A.units + 300 < cLine) (S : St w p loose mean mg mb g)
    (F : Fr g L s.heap (fun y => List.lookup y ([("script", .ref a)] : List (Str × Value)).reverse)) (N : News g L s.heap tabs0) (hl : g.IsList a vs.toArray) (hi : IntsAre vs xs) (hlen : xs.length ≤ 63)
    (hQ : ∀ h' tk m D, Fr g L h' m → News g L h' D → TabA D → Q (.ret (.bool true)) { s with heap := h', toks := tk }) :
    wpAny (model prog w) A (execs (lawBody w.params) (lawEnv w.params L fa cd)) Q E s := by
  refine wpAny_mono (E := fun _ _ => False) ?_ (fun _ _ h => h) fun _ _ h => h.elim
  refine execs_cutk 1 (InvA0 g L s) (fun b Q' hb => piece1a hh hd hu S F N hl hi hlen hb) fun s0 h0 => ?_
  refine execs_cutk 3 (InvA g L s) (fun b Q' hb => piece1b hh hd hu S h0 hb) fun s1 h1 => ?_
  rw [List.drop_drop]
  refine execs_cutk 4 (InvB g L s) (fun b Q' hb => piece2 hh hd hu S h1 hb) fun s2 h2 => ?_
  rw [List.drop_drop]
  refine execs_cutk 2 (InvC g L s) (fun b Q' hb => piece3 hh hd hu S h2 hb) fun s3 h3 => ?_
  rw [List.drop_drop]
  refine execs_cutk 2 (InvD g L s) (fun b Q' hb => piece4 hh hd hu S h3 hb) fun s4 h4 => ?_
  rw [List.drop_drop]
  refine execs_cutk 1 (InvE dueAt g L s) (fun b Q' hb => piece5 hh hd hu S h4 hb) fun s5 h5 => ?_
  rw [List.drop_drop]
  exact piece6 hh hd hu S h5 hQ
theorem law_walk2 {prog : Program} {w : World} {A : Around} {s : Shared} {p : Program} {loose : List Str} {mean : ExcName → Option Value} {mg mb : Str → Option Value} {g : Heap} {L fa : Addr} {cd : Value} {Q : Flow → Shared → Prop} {E : Value → Shared → Prop} {a : Addr} {vs : List Value} {xs : List Int}
    {name qual : Str} {params : Arguments} {body : List Stmt} {scope : Scope} {dV kV doc pm cdv ct oc : Value} {an od : Option Addr} {osl : Array (Option Value)}
    (hh : A.handled = none) (hd : A.depth + 20 < recursionLimit) (hu : A.units + 300 < cLine) (S : St w p loose mean mg mb g)
    (F : Fr g L s.heap (fun y => List.lookup y ([("script", .ref a)] : List (Str × Value)).reverse)) (N : News g L s.heap tabs0) (hl : g.IsList a vs.toArray) (hi : IntsAre vs xs) (hlen : xs.length ≤ 63)
    (ho : (Mine.hd.heap_39 w.params).lookup 134 = some ⟨oc, od, .func (fnOf name qual params body scope dV kV doc pm an cdv ct), osl⟩)
    (hQ : ∀ h' tk m D, Fr g L h' m → News g L h' D → TabA D → Q (.ret (.bool true)) { s with heap := h', toks := tk }) :
    wpAny (model prog w) A (execs body (envOf "law" scope L fa cd)) Q E s := by
  rw [← (law_is ho).1, ← (law_is ho).2]
  exact law_walk hh hd hu S F N hl hi hlen hQ
theorem grown_of {g h' : Heap} {L : Addr} {D : List (Addr × Obj)} (N : News g L h' D) (h : TabA D) : GrownAll [(41, 37), (34, 30)] h' := by
  rcases h with rfl | ⟨c1, oc1, c2, oc2, rfl, _⟩
  · exact ⟨⟨_, (N _ (.head _)).1⟩, ⟨_, (N _ (.tail _ (.head _))).1⟩, trivial⟩
  · exact ⟨⟨_, (N _ (.head _)).1⟩, ⟨_, (N _ (.tail _ (.head _))).1⟩, trivial⟩
end Mine
end

section
open PySem PySem.W PySem.Calls PyProof.Rows Mine
set_option maxRecDepth 100000 in
set_option maxHeartbeats 8000000 in
theorem PySem.Challenge.cw_wf0046_01_holds : PySem.Challenge.rw_wf0046_01.Holds := by
  refine Mine.hd ?_
  k_go0
  refine' law_walk2 ?h1 ?h2 ?h3 ⟨?s1, ?s2, ?s3, ?s4⟩ ?h5 ?h6 ?h7 ?h8 ?h9 ?h10 ?h11
  case h5 => assumption
  case h6 => assumption
  case h7 => assumption
  case h8 => assumption
  case s1 => assumption
  case s2 => assumption
  case s3 => assumption
  case s4 => assumption
  case h1 => exact rfl
  case h2 => exact of_decide_eq_true rfl
  case h3 => exact of_decide_eq_true rfl
  case h9 => omega
  case h10 => k_is
  case h11 =>
    intro h' tk m D F N hT
    refine ⟨?_, grown_of N hT⟩
    dsimp only
    first
    | (wrow_close; done)
    | (k_steps; done)
end
